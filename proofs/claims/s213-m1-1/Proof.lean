import JvmDerived
import JvmDerived.Pilot.@@N@@Statement
import JvmDerived.Pilot.@@N@@Code
set_option linter.unusedVariables false
set_option linter.unusedSimpArgs false
namespace Jvm.Pilot.@@N@@
open Jvm Jvm.ClassFile Sem Op Lib Jvm.Free Jvm.Stand Jvm.LawKit Jvm.RoadKit Bundle Jvm.Pilot.@@N@@.Jvm.D
/-! ## own: a small logic of owned cells over the library's Stand -/
/-- cells by their addresses -/
abbrev HL := List (Addr × Cell)
def Own (h : Heap) (σ : HL) : Prop := ∀ q ∈ σ, h[q.1]? = some q.2
abbrev adr (σ : HL) : List Addr := σ.map Prod.fst
/-- what is known of the heap h under the tables vm, in an activation that began at s owning σ0 and reading ρ0: σ is owned, ρ is read, what stood at the law's start Z stands -/
def Hp (Z : State) (EL : List (String × Nat)) (σ0 ρ0 : HL) (s : State) (σ ρ : HL) (vm : Vm) (h : Heap) : Prop :=
  CHr Z EL s.vm s.heap vm h ∧ Own h σ ∧ Own h ρ ∧ (adr σ).Nodup ∧
  (∀ q ∈ σ, Z.heap.size ≤ q.1 ∧ (q.1 ∈ adr σ0 ∨ s.heap.size ≤ q.1) ∧ Safe Z EL vm h q.1) ∧
  (∀ q ∈ ρ, q.1 ∉ adr σ ∧ (q.1 ∈ adr ρ0 ∨ q.1 ∈ adr σ0 ∨ s.heap.size ≤ q.1 ∨ Bk Z EL s.vm s.heap q.1 ∨ q.1 < Z.heap.size)) ∧
  (∀ (x : Addr) (cl : Cell), s.heap[x]? = some cl → x ∉ adr σ0 → h[x]? = some cl) ∧ Ext Z.heap h
section HpLaws
variable {Z s : State} {EL : List (String × Nat)} {σ0 ρ0 σ ρ σ' ρ' : HL} {vm vm1 : Vm} {h h' : Heap}
theorem own_lt (O : Own h σ) {q : Addr × Cell} (hq : q ∈ σ) : q.1 < h.size := (Array.getElem?_eq_some_iff.mp (O q hq)).1
theorem adr_mem {x : Addr} (hx : x ∈ adr σ) : ∃ q ∈ σ, q.1 = x := List.mem_map.mp hx
theorem mem_adr {q : Addr × Cell} (hq : q ∈ σ) : q.1 ∈ adr σ := List.mem_map.mpr ⟨q, hq, rfl⟩
theorem Own.ext (E : Ext h h') (O : Own h σ) : Own h' σ := fun q hq => E.2 _ _ (O q hq)
theorem Own.sub (O : Own h σ) (hs : ∀ q ∈ σ', q ∈ σ) : Own h σ' := fun q hq => O q (hs q hq)
theorem own_app (O : Own h σ) (O' : Own h σ') : Own h (σ ++ σ') := fun q hq => (List.mem_append.mp hq).elim (O q) (O' q)
theorem ext_tr {h2 : Heap} (E : Ext h h') (E' : Ext h' h2) : Ext h h2 := ⟨Nat.le_trans E.1 E'.1, fun a c q => E'.2 _ _ (E.2 _ _ q)⟩
/-- tables and heap go on; nothing owned or read is touched -/
theorem Hp.later (H : Hp Z EL σ0 ρ0 s σ ρ vm h) (C : CHr Z EL vm h vm1 h') (E : Ext h h') : Hp Z EL σ0 ρ0 s σ ρ vm1 h' := by
  obtain ⟨c, o, r, nd, a, b, f, z⟩ := H
  exact ⟨c.trans C, o.ext E, r.ext E, nd, fun q hq => ⟨(a q hq).1, (a q hq).2.1, C.safe (own_lt o hq) (a q hq).2.2⟩, b, fun x cl hx hn => E.2 _ _ (f x cl hx hn), ext_tr z E⟩
theorem Hp.alloc (H : Hp Z EL σ0 ρ0 s σ ρ vm h) (E : Ext h h') {c : Cell} (hc : h'[h.size]? = some c) : Hp Z EL σ0 ρ0 s ((h.size, c) :: σ) ρ vm h' := by
  have C : CHr Z EL vm h vm h' := CHr.ext E H.1.1
  have H' := H.later C E
  obtain ⟨c1, o, r, nd, a, b, f, z⟩ := H
  obtain ⟨c1', o', r', nd', a', b', f', z'⟩ := H'
  refine ⟨c1', fun q hq => ?_, r', ?_, fun q hq => ?_, fun q hq => ⟨?_, (b q hq).2⟩, f', z'⟩
  · rcases List.mem_cons.mp hq with rfl | hq
    · exact hc
    · exact o' q hq
  · refine List.nodup_cons.mpr ⟨fun hm => ?_, nd⟩
    obtain ⟨q, hq, e⟩ := adr_mem hm
    exact absurd (e ▸ own_lt o hq) (Nat.lt_irrefl _)
  · rcases List.mem_cons.mp hq with rfl | hq
    · exact ⟨z.1, Or.inr c1.2.1, Safe.ext E c1.1 (Safe.new (Nat.le_refl _))⟩
    · exact a' q hq
  · intro hm
    rcases List.mem_cons.mp hm with e | hm
    · exact absurd (e ▸ own_lt r hq) (Nat.lt_irrefl _)
    · exact (b q hq).1 hm
/-- one owned cell is written -/
theorem Hp.write (H : Hp Z EL σ0 ρ0 s σ ρ vm h) {i : Nat} {a : Addr} {c c' : Cell} (hi : σ[i]? = some (a, c)) (hw : h' = h.setIfInBounds a c') : Hp Z EL σ0 ρ0 s (σ.set i (a, c')) ρ vm h' := by
  have hmem : (a, c) ∈ σ := List.mem_of_getElem? hi
  have hadr : adr (σ.set i (a, c')) = adr σ := by
    rw [adr, List.map_set]
    apply List.ext_getElem?
    intro j
    rw [List.getElem?_set]
    split
    · rename_i e
      subst e
      simp only [List.length_map, List.getElem?_map, hi, Option.map_some]
      split
      · rfl
      · rename_i hl
        exact absurd (List.getElem?_eq_some_iff.mp hi).1 (by simpa using hl)
    · rfl
  obtain ⟨c1, o, r, nd, al, b, f, z⟩ := H
  have ha : h[a]? = some c := o _ hmem
  have hlt : a < h.size := (Array.getElem?_eq_some_iff.mp ha).1
  have hS : Safe Z EL vm h a := (al _ hmem).2.2
  have ke : ∀ y, y ≠ a → h'[y]? = h[y]? := fun y hy => by rw [hw, Array.getElem?_setIfInBounds_ne (Ne.symm hy)]
  have hsz : h'.size = h.size := by rw [hw]; simp
  have hstep := c1.1.step (h' := h') fun y B cell q => by
    rw [ke y fun e => hS (e ▸ B)]; exact q
  have C : CHr Z EL vm h vm h' := ⟨hstep.1, by rw [hsz]; exact Nat.le_refl _, fun y q => Or.inl (hstep.2 y q)⟩
  have hin : ∀ q ∈ σ.set i (a, c'), q = (a, c') ∨ (q ∈ σ ∧ q.1 ≠ a) := fun q hq => by
    obtain ⟨j, hj⟩ := List.mem_iff_getElem?.mp hq
    rw [List.getElem?_set] at hj
    split at hj
    · split at hj
      · exact Or.inl (Option.some.inj hj).symm
      · cases hj
    · rename_i hne
      refine Or.inr ⟨List.mem_of_getElem? hj, fun e => hne ?_⟩
      have h1 : (adr σ)[j]? = some a := by rw [adr, List.getElem?_map, hj]; exact congrArg some e
      have h2 : (adr σ)[i]? = some a := by rw [adr, List.getElem?_map, hi]; rfl
      obtain ⟨l1, e1⟩ := List.getElem?_eq_some_iff.mp h1
      obtain ⟨l2, e2⟩ := List.getElem?_eq_some_iff.mp h2
      exact (List.getElem_inj nd).mp (e2.trans e1.symm)
  refine ⟨c1.trans C, fun q hq => ?_, fun q hq => ?_, by rw [hadr]; exact nd, fun q hq => ?_, fun q hq => ⟨by rw [hadr]; exact (b q hq).1, (b q hq).2⟩, fun x cl hx hn => ?_, ⟨by rw [hsz]; exact z.1, fun x cl hx => ?_⟩⟩
  · rcases hin q hq with rfl | ⟨hq, hne⟩
    · show h'[a]? = some c'
      rw [hw]; simp [hlt]
    · rw [ke _ hne]; exact o q hq
  · rw [ke q.1 fun e => (b q hq).1 (by rw [e]; exact mem_adr hmem)]; exact r q hq
  · rcases hin q hq with rfl | ⟨hq, -⟩
    · exact ⟨(al _ hmem).1, (al _ hmem).2.1, C.safe hlt hS⟩
    · exact ⟨(al q hq).1, (al q hq).2.1, C.safe (own_lt o hq) (al q hq).2.2⟩
  · have hx' := f x cl hx hn
    rw [ke x]
    · exact hx'
    · rintro rfl
      rcases (al _ hmem).2.1 with q | q
      · exact hn q
      · exact absurd (Array.getElem?_eq_some_iff.mp hx).1 (Nat.not_lt.mpr q)
  · rw [ke x]
    · exact z.2 x cl hx
    · rintro rfl
      exact absurd (Array.getElem?_eq_some_iff.mp hx).1 (Nat.not_lt.mpr (al _ hmem).1)
/-- fewer, or otherwise ordered -/
theorem Hp.sub (H : Hp Z EL σ0 ρ0 s σ ρ vm h) (hs : ∀ q ∈ σ', q ∈ σ) (nd : (adr σ').Nodup) (hr : ∀ q ∈ ρ', q ∈ ρ) : Hp Z EL σ0 ρ0 s σ' ρ' vm h := by
  obtain ⟨c, o, r, -, a, b, f⟩ := H
  refine ⟨c, o.sub hs, r.sub hr, nd, fun q hq => a q (hs q hq), fun q hq => ⟨fun hm => ?_, (b q (hr q hq)).2⟩, f⟩
  obtain ⟨q', hq', e⟩ := adr_mem hm
  exact (b q (hr q hq)).1 (e ▸ mem_adr (hs q' hq'))
/-- owned cells become read-only -/
theorem Hp.freeze (H : Hp Z EL σ0 ρ0 s (σ' ++ σ) ρ vm h) : Hp Z EL σ0 ρ0 s σ (σ' ++ ρ) vm h := by
  obtain ⟨c, o, r, nd, a, b, f⟩ := H
  have nd' := nd
  rw [adr, List.map_append, List.nodup_append] at nd'
  refine ⟨c, o.sub fun q hq => List.mem_append_right _ hq, own_app (o.sub fun q hq => List.mem_append_left _ hq) r, nd'.2.1, fun q hq => a q (List.mem_append_right _ hq), fun q hq => ?_, f⟩
  rcases List.mem_append.mp hq with hq | hq
  · refine ⟨fun hm => nd'.2.2 _ (mem_adr hq) _ hm rfl, ?_⟩
    rcases (a q (List.mem_append_left _ hq)).2.1 with z | z
    · exact Or.inr (Or.inl z)
    · exact Or.inr (Or.inr (Or.inl z))
  · refine ⟨fun hm => (b q hq).1 ?_, (b q hq).2⟩
    rw [adr, List.map_append]; exact List.mem_append_right _ hm
/-- a booked literal's cells are read-only -/
theorem Hp.lit (H : Hp Z EL σ0 ρ0 s σ ρ vm h) {a : Addr} {c : Cell} (ha : h[a]? = some c) (hb : ∀ x, Safe Z EL vm h x → x ≠ a) : Hp Z EL σ0 ρ0 s σ ((a, c) :: ρ) vm h := by
  obtain ⟨c1, o, r, nd, al, b, f⟩ := H
  refine ⟨c1, o, fun q hq => ?_, nd, al, fun q hq => ?_, f⟩
  · rcases List.mem_cons.mp hq with rfl | hq
    · exact ha
    · exact r q hq
  · rcases List.mem_cons.mp hq with rfl | hq
    · refine ⟨fun hm => ?_, ?_⟩
      · obtain ⟨q, hq, e⟩ := adr_mem hm
        exact hb _ (al q hq).2.2 e
      · have hB : Bk Z EL vm h a := Classical.byContradiction fun hn => hb a hn rfl
        rcases c1.2.2 a hB with z | z
        · exact Or.inr (Or.inr (Or.inr (Or.inl z)))
        · exact Or.inr (Or.inr (Or.inl z))
    · exact b q hq
/-- what stood at the law's start may be read -/
theorem Hp.old (H : Hp Z EL σ0 ρ0 s σ ρ vm h) {a : Addr} {c : Cell} (ha : Z.heap[a]? = some c) : Hp Z EL σ0 ρ0 s σ ((a, c) :: ρ) vm h := by
  obtain ⟨c1, o, r, nd, al, b, f, z⟩ := H
  have hlt : a < Z.heap.size := (Array.getElem?_eq_some_iff.mp ha).1
  refine ⟨c1, o, fun q hq => ?_, nd, al, fun q hq => ?_, f, z⟩
  · rcases List.mem_cons.mp hq with rfl | hq
    · exact z.2 _ _ ha
    · exact r q hq
  · rcases List.mem_cons.mp hq with rfl | hq
    · refine ⟨fun hm => ?_, Or.inr (Or.inr (Or.inr (Or.inr hlt)))⟩
      obtain ⟨q, hq, e⟩ := adr_mem hm
      exact absurd hlt (Nat.not_lt.mpr (by rw [show a = q.1 from e.symm]; exact (al q hq).1))
    · exact b q hq
/-- **THE FRAME RULE**: a callee that was handed σi and ρi gives back σ' and ρ' -/
theorem Hp.call {U : State} {σi σf ρi : HL} (H : Hp Z EL σ0 ρ0 s (σi ++ σf) ρ U.vm U.heap) (hρ : ∀ q ∈ ρi, q ∈ ρ) (Hc : Hp Z EL σi ρi U σ' ρ' vm1 h') : Hp Z EL σ0 ρ0 s (σ' ++ σf) (ρ' ++ ρ) vm1 h' := by
  obtain ⟨c, o, r, nd, a, b, f, z0⟩ := H
  obtain ⟨c', o', r', nd', a', b', f', z'⟩ := Hc
  have nd2 := nd
  rw [adr, List.map_append, List.nodup_append] at nd2
  have of : Own U.heap σf := o.sub fun q hq => List.mem_append_right _ hq
  have disj : ∀ x, x ∈ adr σi → x ∉ adr σf := fun x h1 h2 => nd2.2.2 x h1 x h2 rfl
  have inapp : ∀ x, x ∈ adr σi → x ∈ adr (σi ++ σf) := fun x hx => by rw [adr, List.map_append]; exact List.mem_append_left _ hx
  have inapp' : ∀ x, x ∈ adr σf → x ∈ adr (σi ++ σf) := fun x hx => by rw [adr, List.map_append]; exact List.mem_append_right _ hx
  have flt : ∀ x, x ∈ adr σf → x < U.heap.size := fun x hx => by obtain ⟨q, hq, rfl⟩ := adr_mem hx; exact own_lt of hq
  have orig : ∀ x, x ∈ adr σi → x ∈ adr σ0 ∨ s.heap.size ≤ x := fun x hx => by obtain ⟨q, hq, rfl⟩ := adr_mem hx; exact (a q (List.mem_append_left _ hq)).2.1
  have hs := c.2.1
  refine ⟨c.trans c', own_app o' fun q hq => f' _ _ (of q hq) fun hm => disj _ hm (mem_adr hq), own_app r' fun q hq => f' _ _ (r q hq) fun hm => (b q hq).1 (inapp _ hm), ?_, fun q hq => ?_, fun q hq => ?_, fun x cl hx hn => ?_, z'⟩
  · rw [adr, List.map_append, List.nodup_append]
    refine ⟨nd', nd2.2.1, fun x hx y hy e => ?_⟩
    subst e
    obtain ⟨q, hq, rfl⟩ := adr_mem hx
    rcases (a' q hq).2.1 with z | z
    · exact disj _ z hy
    · exact absurd (flt _ hy) (Nat.not_lt.mpr z)
  · rcases List.mem_append.mp hq with hq | hq
    · refine ⟨(a' q hq).1, ?_, (a' q hq).2.2⟩
      rcases (a' q hq).2.1 with z | z
      · exact orig _ z
      · exact Or.inr (Nat.le_trans hs z)
    · have z := a q (List.mem_append_right _ hq)
      exact ⟨z.1, z.2.1, c'.safe (own_lt of hq) z.2.2⟩
  · rcases List.mem_append.mp hq with hq | hq
    · have z := b' q hq
      refine ⟨fun hm => ?_, ?_⟩
      · rw [adr, List.map_append] at hm
        rcases List.mem_append.mp hm with hm | hm
        · exact z.1 hm
        · rcases z.2 with y | y | y | y | y
          · obtain ⟨q', hq', e⟩ := adr_mem y
            refine (b q' (hρ q' hq')).1 (inapp' _ ?_)
            rw [e]; exact hm
          · exact disj _ y hm
          · exact absurd (flt _ hm) (Nat.not_lt.mpr y)
          · obtain ⟨q', hq', e⟩ := adr_mem hm
            refine (a q' (List.mem_append_right _ hq')).2.2 ?_
            rw [e]; exact y
          · obtain ⟨q', hq', e⟩ := adr_mem hm
            exact absurd y (Nat.not_lt.mpr (e ▸ (a q' (List.mem_append_right _ hq')).1))
      · rcases z.2 with y | y | y | y | y
        · obtain ⟨q', hq', e⟩ := adr_mem y
          have := (b q' (hρ q' hq')).2
          rw [e] at this; exact this
        · rcases orig _ y with w | w
          · exact Or.inr (Or.inl w)
          · exact Or.inr (Or.inr (Or.inl w))
        · exact Or.inr (Or.inr (Or.inl (Nat.le_trans hs y)))
        · rcases c.2.2 _ y with w | w
          · exact Or.inr (Or.inr (Or.inr (Or.inl w)))
          · exact Or.inr (Or.inr (Or.inl w))
        · exact Or.inr (Or.inr (Or.inr (Or.inr y)))
    · have z := b q hq
      refine ⟨fun hm => ?_, z.2⟩
      rw [adr, List.map_append] at hm
      rcases List.mem_append.mp hm with hm | hm
      · obtain ⟨q', hq', e⟩ := adr_mem hm
        rcases (a' q' hq').2.1 with y | y
        · refine z.1 (inapp _ ?_)
          rw [← e]; exact y
        · exact absurd (own_lt r hq) (Nat.not_lt.mpr (e ▸ y))
      · exact z.1 (inapp' _ hm)
  · refine f' x cl (f x cl hx hn) fun hm => ?_
    rcases orig _ hm with z | z
    · exact hn z
    · exact absurd (Array.getElem?_eq_some_iff.mp hx).1 (Nat.not_lt.mpr z)
end HpLaws
/-! ## own: the walk's point (Wk), what is still to be reached (Go), a contract (Met) -/
abbrev Ctx := Program × Env × State × MethodId × Array Value × List Frame × Method × Code × HL × HL
abbrev Ctx.p (X : Ctx) : Program := X.1
abbrev Ctx.e (X : Ctx) : Env := X.2.1
abbrev Ctx.s (X : Ctx) : State := X.2.2.1
abbrev Ctx.m (X : Ctx) : MethodId := X.2.2.2.1
abbrev Ctx.args (X : Ctx) : Array Value := X.2.2.2.2.1
abbrev Ctx.below (X : Ctx) : List Frame := X.2.2.2.2.2.1
abbrev Ctx.meth (X : Ctx) : Method := X.2.2.2.2.2.2.1
abbrev Ctx.c (X : Ctx) : Code := X.2.2.2.2.2.2.2.1
abbrev Ctx.so (X : Ctx) : HL := X.2.2.2.2.2.2.2.2.1
abbrev Ctx.ro (X : Ctx) : HL := X.2.2.2.2.2.2.2.2.2
def Wk (l : Launch) (Z : State) (EL : List (String × Nat)) (R : Room) (own : String) (bytes : ByteArray) (maxL : Nat) (ret : Option FieldType) (nm : String) (X : Ctx) (σ ρ : HL) (T : State) (k n : Nat) : Prop :=
  (X.p.tables.exec = Jvm.exec ∧ X.c.code = bytes ∧ X.c.maxLocals = maxL ∧ X.meth.sig.returnType = ret ∧ X.meth.locks = false ∧ X.meth.name = nm ∧ ∃ a : Array Value, EW Z a EL) ∧
  ∃ (vm0 : Vm) (k0 : Nat) (locs : List Loc), Stand X.p l X.e R (X.s.setVm vm0) X.m X.args X.below X.meth X.c T locs k n ∧ X.s.Since vm0 k0 ∧ k0 ≤ T.heap.size ∧ Z.Warmed39 vm0 ∧ vm0.findClass own = some X.m.cls ∧ Fr Z.heap.size locs ∧ Hp Z EL X.so X.ro X.s σ ρ vm0 T.heap
def Go (Z : State) (EL : List (String × Nat)) (K N : Nat) (Q : Option Value → HL → HL → Prop) (X : Ctx) (T : State) (pc : Nat) (Ls : Array Slot) (st : List Value) : Prop :=
  ∃ (s₂ : State) (o : Outcome), Steps X.p.tables X.e X.below (T.setTop (mkF X.m pc Ls st)) s₂ ∧ s₂.status = .running ∧ Ended s₂ X.below o ∧
    ∃ v σ ρ L, o = .returned v ∧ Q v σ ρ ∧ Fr Z.heap.size L ∧ Hp Z EL X.so X.ro X.s σ ρ s₂.vm s₂.heap ∧ ReturnedEndW X.s o s₂ L K N
def Met (l : Launch) (Z : State) (EL : List (String × Nat)) (y : MethodName) (bytes : ByteArray) (maxL : Nat) (ret : Option FieldType) (rm : Room) (as' : Array Value) (σi ρi : HL) (Q : Option Value → HL → HL → Prop) : Prop :=
  MetFree l y (head1 [Jvm.Cond.code y bytes maxL ret] rm) (fun a U => a = as' ∧ Z.Warmed39 U.vm ∧ Hp Z EL σi ρi U σi ρi U.vm U.heap) (fun _ _ _ _ _ => True)
    (fun _ U o U' => ∃ v σ ρ L, o = .returned v ∧ Q v σ ρ ∧ Fr Z.heap.size L ∧ Hp Z EL σi ρi U σ ρ U'.vm U'.heap ∧ ReturnedEndW U o U' L rm.cells rm.slots)
section WkLaws
variable {l : Launch} {Z : State} {a0 : Array Value} {EL : List (String × Nat)} {R : Room} {own : String} {bytes : ByteArray} {maxL : Nat} {ret : Option FieldType} {nm : String} {X : Ctx} {σ ρ σ' ρ' : HL} {T T' : State} {k n K N : Nat} {Q Q' : Option Value → HL → HL → Prop} {pc pc' : Nat} {Ls Ls' : Array Slot} {st st' : List Value}
theorem Wk.here (W : Wk l Z EL R own bytes maxL ret nm X σ ρ T k n) : At T X.m X.c X.below := by obtain ⟨-, _, _, _, Y, -⟩ := W; exact Y.here
theorem Wk.hx (W : Wk l Z EL R own bytes maxL ret nm X σ ρ T k n) : X.p.tables.exec = Jvm.exec := W.1.1
theorem Wk.hb (W : Wk l Z EL R own bytes maxL ret nm X σ ρ T k n) {r : Except ClassFile.DecodeError (ClassFile.Instr × Nat)} (hd : decode bytes pc = r) : decode X.c.code pc = r := by rw [W.1.2.1]; exact hd
theorem Go.by (f : ∀ t, Steps X.p.tables X.e X.below (T'.setTop (mkF X.m pc' Ls' st')) t → Steps X.p.tables X.e X.below (T.setTop (mkF X.m pc Ls st)) t) (r : Go Z EL K N Q X T' pc' Ls' st') : Go Z EL K N Q X T pc Ls st := by
  obtain ⟨s2, o, h1, h2⟩ := r
  exact ⟨s2, o, f _ h1, h2⟩
theorem Go.mono (h : ∀ v σ ρ, Q v σ ρ → Q' v σ ρ) (r : Go Z EL K N Q X T pc Ls st) : Go Z EL K N Q' X T pc Ls st := by
  obtain ⟨s2, o, h1, h2, h3, v, a, b, L, e, q, r⟩ := r
  exact ⟨s2, o, h1, h2, h3, v, a, b, L, e, h _ _ _ q, r⟩
theorem Met.mono {y : MethodName} {rm : Room} {as' : Array Value} (h : ∀ v σ ρ, Q v σ ρ → Q' v σ ρ) (M : Met l Z EL y bytes maxL ret rm as' σ ρ Q) : Met l Z EL y bytes maxL ret rm as' σ ρ Q' :=
  fun p e ha hc hk s m args below hf happ hP hK => by
    obtain ⟨n, o, h1, h2, h3, v, s1, r1, L, e1, q, r⟩ := M p e ha hc hk s m args below hf happ hP hK
    exact ⟨n, o, h1, h2, h3, v, s1, r1, L, e1, h _ _ _ q, r⟩
theorem Hp.enter {s U : State} {σ0 ρ0 σi σf ρi : HL} (H : Hp Z EL σ0 ρ0 s (σi ++ σf) ρ U.vm U.heap) (hρ : ∀ q ∈ ρi, q ∈ ρ) : Hp Z EL σi ρi U σi ρi U.vm U.heap := by
  obtain ⟨c, o, r, nd, a, b, f, z0⟩ := H
  rw [adr, List.map_append, List.nodup_append] at nd
  refine ⟨CHr.refl c.1, o.sub fun q hq => List.mem_append_left _ hq, r.sub hρ, nd.1, fun q hq => ?_, fun q hq => ⟨fun hm => (b q (hρ q hq)).1 ?_, Or.inl (mem_adr hq)⟩, fun _ _ q _ => q, z0⟩
  · have z := a q (List.mem_append_left _ hq)
    exact ⟨z.1, Or.inl (mem_adr hq), z.2.2⟩
  · rw [adr, List.map_append]; exact List.mem_append_left _ hm
/-- a walk of the body meets the contract -/
theorem Met.walk {y : MethodName} {rm : Room} {as' : Array Value} {σi ρi : HL} (hEL : EW Z a0 EL) (hp : plainName y.cls = true) (Ls0 : Array Slot) (ent : ∀ m, entryFrame m as' maxL = mkF m 0 Ls0 [])
    (w : ∀ (X : Ctx) (T : State), Wk l Z EL rm y.cls bytes maxL ret y.name X σi ρi T 0 0 → Go Z EL rm.cells rm.slots Q X T 0 Ls0 []) : Met l Z EL y bytes maxL ret rm as' σi ρi Q := by
  refine MetFree.of_bodySF (plainFor_of_name hp) hisR ?_
  intro p e s m args below meth c s₁ Bd hml hP hK
  obtain ⟨rfl, hZ, H⟩ := hP
  have X0 : Stand p l e rm s m args below meth c s₁ [] 0 0 := Stand.of_body Bd
  have e0 : s₁.heap = s.heap := by rw [Bd.state]; rfl
  obtain ⟨s2, o, h1, h2, h3, h4⟩ := w (p, e, s, m, args, below, meth, c, σi, ρi) s₁ ⟨⟨Bd.exec, Bd.bytes, hml, Bd.returns, Bd.notSynchronized, (name_of_methodNamed Bd.named Bd.method).1, a0, hEL⟩, s.vm, s.heap.size, [], X0, (State.WarmedH.refl s).since _, by rw [e0]; exact Nat.le_refl _, hZ, findClass_of_methodNamed Bd.named, Fr.nil _, by rw [e0]; exact H⟩
  exact ⟨s2, o, castTop (ent m) h1, h2, h3, h4⟩
/-- a contract pays a call -/
theorem Met.back {p : Program} {e : Env} {below : List Frame} {s : State} {args : Array Value} {vm0 : Vm} {y : MethodName} {rm : Room} {as' : Array Value} {σi ρi σf σ0 ρ0 : HL} {len W : Nat} {h : Heap} (M : Met l Z EL y bytes maxL ret rm as' σi ρi Q)
    (hZ : Z.Warmed39 vm0) (wc : (Jvm.Cond.code y bytes maxL ret).before a0 Z = true) (wz : (Jvm.Cond.initialized y.cls).before a0 Z = true) (hf : rm.frames + 1 ≤ R.frames) (hl : W + (maxL + 11) + rm.locals ≤ R.locals) {a1 : Array Value} (hEL : EW Z a1 EL)
    (H : Hp Z EL σ0 ρ0 s (σi ++ σf) ρ vm0 h) (hρ : ∀ q ∈ ρi, q ∈ ρ) :
    BackS l R p e below (s.setVm vm0) args y len W (fun A a => a = as' ∧ A.U.heap = h ∧ A.cells + rm.cells ≤ R.cells ∧ A.slots + rm.slots ≤ R.slots)
      (fun A _ v B => ∃ σ' ρ' L, Q v σ' ρ' ∧ Fr Z.heap.size L ∧ Hp Z EL σ0 ρ0 s (σ' ++ σf) (ρ' ++ ρ) B.U.vm B.U.heap ∧ B.locs = A.locs ++ L ∧ B.cells = A.cells + rm.cells ∧ B.slots = A.slots + rm.slots) := by
  have key : ∀ m meth c (A : Pt) (g : JFrame) mk (a : Array Value), Stand p l e R (s.setVm vm0) m args below meth c A.U A.locs A.cells A.slots → A.U.heap = h → Hp Z EL σ0 ρ0 s (σi ++ σf) ρ (A.U.calling g mk a).vm (A.U.calling g mk a).heap := fun m meth c A g mk a Y hp => by
    have C := CHv.at Y hZ hEL H.1.1
    have q := H.later C ⟨Nat.le_refl _, fun _ _ z => z⟩
    show Hp Z EL σ0 ρ0 s (σi ++ σf) ρ A.U.vm A.U.heap
    rw [hp]; exact q
  refine BackS.of_freeW (bytes := bytes) (maxL := maxL) (ret := ret) (E := fun _ first o t L k n => k = rm.cells ∧ n = rm.slots ∧ ∃ v σ ρ, o = .returned v ∧ Q v σ ρ ∧ Fr Z.heap.size L ∧ Hp Z EL σi ρi first σ ρ t.vm t.heap) M hf hl
    (fun m meth c A a Y hp => have hU : Z.Warmed39 A.U.vm := wtrans (s := s.setVm vm0) hZ Y.warmed
      ⟨by show (Jvm.Cond.and _ .tt).before a A.U = true; rw [Cond.before_and, mv hU wc]; rfl, mv hU wc, mv hU wz, hp.2.2.1, hp.2.2.2⟩)
    (fun m meth c A a g mk Y hp => ⟨hp.1, wtrans (s := s.setVm vm0) hZ Y.warmed, (key m meth c A g mk a Y hp.2.1).enter hρ⟩) (fun _ _ _ _ _ _ _ _ _ => trivial)
    (fun _ _ _ _ ⟨v, s1, r1, L, h1, h2, h3, h4, h5⟩ => ⟨L, _, _, h5, rfl, rfl, v, s1, r1, h1, h2, h3, h4⟩) ?_
  intro m meth c A a g mk v t L k n Y hp _ _ ⟨e1, e2, v', s1, r1, e3, e4, e5, e6⟩
  cases e3
  subst e1 e2
  exact ⟨s1, r1, L, e4, e5, (key m meth c A g mk a Y hp.2.1).call hρ e6, rfl, rfl, rfl⟩
/-! picking out of lists -/
def takeAt {α : Type} : Nat → List α → Option (α × List α)
  | _, [] => none
  | 0, x :: l => some (x, l)
  | i + 1, x :: l => match takeAt i l with
    | none => none
    | some (y, l') => some (y, x :: l')
def pick {α : Type} : List Nat → List α → Option (List α × List α)
  | [], l => some ([], l)
  | i :: is, l => match takeAt i l with
    | none => none
    | some (x, l') => match pick is l' with
      | none => none
      | some (a, b) => some (x :: a, b)
theorem takeAt_perm {α : Type} : ∀ (i : Nat) (l : List α) (x : α) (l' : List α), takeAt i l = some (x, l') → (x :: l').Perm l
  | _, [], _, _, h => by simp [takeAt] at h
  | 0, y :: l, x, l', h => by simp [takeAt] at h; obtain ⟨rfl, rfl⟩ := h; exact List.Perm.refl _
  | i + 1, y :: l, x, l', h => by
    simp only [takeAt] at h
    cases hq : takeAt i l with
    | none => simp [hq] at h
    | some q =>
      obtain ⟨z, l2⟩ := q
      simp [hq] at h
      obtain ⟨rfl, rfl⟩ := h
      exact (List.Perm.swap _ _ _).trans ((takeAt_perm i l z l2 hq).cons y)
theorem pick_perm {α : Type} : ∀ (is : List Nat) (l a b : List α), pick is l = some (a, b) → (a ++ b).Perm l
  | [], l, a, b, h => by simp [pick] at h; obtain ⟨rfl, rfl⟩ := h; exact List.Perm.refl _
  | i :: is, l, a, b, h => by
    simp only [pick] at h
    cases hq : takeAt i l with
    | none => simp [hq] at h
    | some q =>
      obtain ⟨x, l'⟩ := q
      cases hp : pick is l' with
      | none => simp [hq, hp] at h
      | some r =>
        obtain ⟨a', b'⟩ := r
        simp [hq, hp] at h
        obtain ⟨rfl, rfl⟩ := h
        exact ((pick_perm is l' a' b' hp).cons x).trans (takeAt_perm i l x l' hq)
theorem Hp.perm {s : State} {σ0 ρ0 : HL} {vm : Vm} {h : Heap} (H : Hp Z EL σ0 ρ0 s σ ρ vm h) (hp : σ'.Perm σ) : Hp Z EL σ0 ρ0 s σ' ρ vm h :=
  H.sub (fun q hq => hp.mem_iff.mp hq) ((hp.map Prod.fst).nodup_iff.mpr H.2.2.2.1) fun _ q => q
def roOf (is : List Nat) (ρ ρi : HL) : Prop := is.map (fun i => ρ[i]?) = ρi.map some
theorem roOf.mem {is : List Nat} {ρi : HL} (h : roOf is ρ ρi) : ∀ q ∈ ρi, q ∈ ρ := fun q hq => by
  have h1 : some q ∈ ρi.map some := List.mem_map.mpr ⟨q, hq, rfl⟩
  rw [← h] at h1
  obtain ⟨i, -, e⟩ := List.mem_map.mp h1
  exact List.mem_of_getElem? e
theorem Wk.perm (W : Wk l Z EL R own bytes maxL ret nm X σ ρ T k n) (hp : σ'.Perm σ) : Wk l Z EL R own bytes maxL ret nm X σ' ρ T k n := by
  obtain ⟨w, vm0, k0, locs, a, b, c, d, e, f, H⟩ := W
  exact ⟨w, vm0, k0, locs, a, b, c, d, e, f, H.perm hp⟩
/-- owned cells become read-only -/
theorem Wk.freeze (W : Wk l Z EL R own bytes maxL ret nm X σ ρ T k n) (is : List Nat) {σi σf : HL} (hp : pick is σ = some (σi, σf)) : Wk l Z EL R own bytes maxL ret nm X σf (σi ++ ρ) T k n := by
  obtain ⟨w, vm0, k0, locs, a, b, c, d, e, f, H⟩ := W
  exact ⟨w, vm0, k0, locs, a, b, c, d, e, f, (H.perm (pick_perm _ _ _ _ hp)).freeze⟩
/-- cells forgotten -/
theorem Wk.drop (W : Wk l Z EL R own bytes maxL ret nm X σ ρ T k n) (is : List Nat) {σi σf : HL} (hp : pick is σ = some (σi, σf)) : Wk l Z EL R own bytes maxL ret nm X σf ρ T k n := by
  obtain ⟨w, vm0, k0, locs, a, b, c, d, e, f, H⟩ := W
  have H' := H.perm (pick_perm _ _ _ _ hp)
  refine ⟨w, vm0, k0, locs, a, b, c, d, e, f, H'.sub (fun q hq => List.mem_append_right _ hq) ?_ fun _ q => q⟩
  have nd := H'.2.2.2.1
  rw [adr, List.map_append, List.nodup_append] at nd
  exact nd.2.1
theorem Wk.keepRo (W : Wk l Z EL R own bytes maxL ret nm X σ ρ T k n) (is : List Nat) (hp : roOf is ρ ρ') : Wk l Z EL R own bytes maxL ret nm X σ ρ' T k n := by
  obtain ⟨w, vm0, k0, locs, a, b, c, d, e, f, H⟩ := W
  exact ⟨w, vm0, k0, locs, a, b, c, d, e, f, H.sub (fun _ q => q) H.2.2.2.1 hp.mem⟩
theorem Wk.old (W : Wk l Z EL R own bytes maxL ret nm X σ ρ T k n) {a : Addr} {c : Cell} (ha : Z.heap[a]? = some c) : Wk l Z EL R own bytes maxL ret nm X σ ((a, c) :: ρ) T k n := by
  obtain ⟨w, vm0, k0, locs, a, b, c, d, e, f, H⟩ := W
  exact ⟨w, vm0, k0, locs, a, b, c, d, e, f, H.old ha⟩
theorem Wk.more (W : Wk l Z EL R own bytes maxL ret nm X σ ρ T k n) {k' n' : Nat} (hk : k ≤ k') (hn : n ≤ n') : Wk l Z EL R own bytes maxL ret nm X σ ρ T k' n' := by
  obtain ⟨w, vm0, k0, locs, a, b⟩ := W
  exact ⟨w, vm0, k0, locs, a.more hk hn, b⟩
theorem Wk.ext (W : Wk l Z EL R own bytes maxL ret nm X σ ρ T k n) : Ext Z.heap T.heap := by
  obtain ⟨w, vm0, k0, locs, a, b, c, d, e, f, H⟩ := W
  exact H.2.2.2.2.2.2.2
theorem Wk.cell (W : Wk l Z EL R own bytes maxL ret nm X σ ρ T k n) {q : Addr × Cell} (hq : q ∈ σ ∨ q ∈ ρ ∨ Z.heap[q.1]? = some q.2) : T.heap[q.1]? = some q.2 := by
  obtain ⟨w, vm0, k0, locs, a, b, c, d, e, f, H⟩ := W
  exact hq.elim (H.2.1 q) fun z => z.elim (H.2.2.1 q) (H.2.2.2.2.2.2.2.2 _ _)
end WkLaws
/-! ## own: single steps in the Go form (printed by gen_steps.py) -/
section StepLaws
variable {l : Launch} {Z : State} {a0 : Array Value} {EL : List (String × Nat)} {R : Room} {own : String} {bytes : ByteArray} {maxL : Nat} {ret : Option FieldType} {nm : String} {X : Ctx} {σ ρ : HL} {T : State} {k n K N : Nat} {Q : Option Value → HL → HL → Prop} {pc pc' : Nat} {Ls : Array Slot} {st : List Value}
theorem Go.aload (W : Wk l Z EL R own bytes maxL ret nm X σ ρ T k n) {k' : Nat} {v : Value} (hd : decode bytes pc = .ok (.aload k', 2)) (hl : Ls[k']? = some (.val v)) (hv : v.isRef = true) (hp : pc + 2 = pc') (r : Go Z EL K N Q X T pc' Ls (v :: st)) : Go Z EL K N Q X T pc Ls st :=
  Go.by (fun t kk => XS.aload W.here W.hx rfl (W.hb hd) hl hv (by subst hp; exact kk)) r
theorem Go.aloadN (W : Wk l Z EL R own bytes maxL ret nm X σ ρ T k n) {k' : Fin 4} {v : Value} (hd : decode bytes pc = .ok (.aload_n k', 1)) (hl : Ls[k'.val]? = some (.val v)) (hv : v.isRef = true) (hp : pc + 1 = pc') (r : Go Z EL K N Q X T pc' Ls (v :: st)) : Go Z EL K N Q X T pc Ls st :=
  Go.by (fun t kk => XS.aloadN W.here W.hx rfl (W.hb hd) hl hv (by subst hp; exact kk)) r
theorem Go.iload (W : Wk l Z EL R own bytes maxL ret nm X σ ρ T k n) {k' : Nat} {v : Int32} (hd : decode bytes pc = .ok (.iload k', 2)) (hl : Ls[k']? = some (.val (.int v))) (hp : pc + 2 = pc') (r : Go Z EL K N Q X T pc' Ls (.int v :: st)) : Go Z EL K N Q X T pc Ls st :=
  Go.by (fun t kk => XS.iload W.here W.hx rfl (W.hb hd) hl (by subst hp; exact kk)) r
theorem Go.iloadN (W : Wk l Z EL R own bytes maxL ret nm X σ ρ T k n) {k' : Fin 4} {v : Int32} (hd : decode bytes pc = .ok (.iload_n k', 1)) (hl : Ls[k'.val]? = some (.val (.int v))) (hp : pc + 1 = pc') (r : Go Z EL K N Q X T pc' Ls (.int v :: st)) : Go Z EL K N Q X T pc Ls st :=
  Go.by (fun t kk => XS.iloadN W.here W.hx rfl (W.hb hd) hl (by subst hp; exact kk)) r
theorem Go.lload (W : Wk l Z EL R own bytes maxL ret nm X σ ρ T k n) {k' : Nat} {v : Int64} (hd : decode bytes pc = .ok (.lload k', 2)) (hl : Ls[k']? = some (.val (.long v))) (hp : pc + 2 = pc') (r : Go Z EL K N Q X T pc' Ls (.long v :: st)) : Go Z EL K N Q X T pc Ls st :=
  Go.by (fun t kk => XT.lload W.here W.hx rfl (W.hb hd) hl (by subst hp; exact kk)) r
theorem Go.lloadN (W : Wk l Z EL R own bytes maxL ret nm X σ ρ T k n) {k' : Fin 4} {v : Int64} (hd : decode bytes pc = .ok (.lload_n k', 1)) (hl : Ls[k'.val]? = some (.val (.long v))) (hp : pc + 1 = pc') (r : Go Z EL K N Q X T pc' Ls (.long v :: st)) : Go Z EL K N Q X T pc Ls st :=
  Go.by (fun t kk => XT.lloadN W.here W.hx rfl (W.hb hd) hl (by subst hp; exact kk)) r
theorem Go.istore (W : Wk l Z EL R own bytes maxL ret nm X σ ρ T k n) {k' : Nat} {x : Int32} (Ls' : Array Slot) (hd : decode bytes pc = .ok (.istore k', 2)) (hl : storeLocals Ls k' (.int x) = some Ls') (hp : pc + 2 = pc') (r : Go Z EL K N Q X T pc' Ls' st) : Go Z EL K N Q X T pc Ls (.int x :: st) :=
  Go.by (fun t kk => XS.istore W.here W.hx rfl (W.hb hd) rfl hl (by subst hp; exact kk)) r
theorem Go.istoreN (W : Wk l Z EL R own bytes maxL ret nm X σ ρ T k n) {k' : Fin 4} {x : Int32} (Ls' : Array Slot) (hd : decode bytes pc = .ok (.istore_n k', 1)) (hl : storeLocals Ls k'.val (.int x) = some Ls') (hp : pc + 1 = pc') (r : Go Z EL K N Q X T pc' Ls' st) : Go Z EL K N Q X T pc Ls (.int x :: st) :=
  Go.by (fun t kk => XS.istoreN W.here W.hx rfl (W.hb hd) rfl hl (by subst hp; exact kk)) r
theorem Go.astore (W : Wk l Z EL R own bytes maxL ret nm X σ ρ T k n) {k' : Nat} {x : Value} (Ls' : Array Slot) (hd : decode bytes pc = .ok (.astore k', 2)) (hv : x.isRef = true) (hl : storeLocals Ls k' x = some Ls') (hp : pc + 2 = pc') (r : Go Z EL K N Q X T pc' Ls' st) : Go Z EL K N Q X T pc Ls (x :: st) :=
  Go.by (fun t kk => XS.astore W.here W.hx rfl (W.hb hd) rfl hv hl (by subst hp; exact kk)) r
theorem Go.astoreN (W : Wk l Z EL R own bytes maxL ret nm X σ ρ T k n) {k' : Fin 4} {x : Value} (Ls' : Array Slot) (hd : decode bytes pc = .ok (.astore_n k', 1)) (hv : x.isRef = true) (hl : storeLocals Ls k'.val x = some Ls') (hp : pc + 1 = pc') (r : Go Z EL K N Q X T pc' Ls' st) : Go Z EL K N Q X T pc Ls (x :: st) :=
  Go.by (fun t kk => XS.astoreN W.here W.hx rfl (W.hb hd) rfl hv hl (by subst hp; exact kk)) r
theorem Go.lstore (W : Wk l Z EL R own bytes maxL ret nm X σ ρ T k n) {k' : Nat} {x : Int64} (Ls' : Array Slot) (hd : decode bytes pc = .ok (.lstore k', 2)) (hl : storeLocals Ls k' (.long x) = some Ls') (hp : pc + 2 = pc') (r : Go Z EL K N Q X T pc' Ls' st) : Go Z EL K N Q X T pc Ls (.long x :: st) :=
  Go.by (fun t kk => XT.lstore W.here W.hx rfl (W.hb hd) rfl hl (by subst hp; exact kk)) r
theorem Go.lstoreN (W : Wk l Z EL R own bytes maxL ret nm X σ ρ T k n) {k' : Fin 4} {x : Int64} (Ls' : Array Slot) (hd : decode bytes pc = .ok (.lstore_n k', 1)) (hl : storeLocals Ls k'.val (.long x) = some Ls') (hp : pc + 1 = pc') (r : Go Z EL K N Q X T pc' Ls' st) : Go Z EL K N Q X T pc Ls (.long x :: st) :=
  Go.by (fun t kk => XT.lstoreN W.here W.hx rfl (W.hb hd) rfl hl (by subst hp; exact kk)) r
theorem Go.iconst (W : Wk l Z EL R own bytes maxL ret nm X σ ρ T k n) {i : Int} (v : Int32) (hd : decode bytes pc = .ok (.iconst i, 1)) (hv : Int32.ofInt i = v) (hp : pc + 1 = pc') (r : Go Z EL K N Q X T pc' Ls (.int v :: st)) : Go Z EL K N Q X T pc Ls st :=
  Go.by (fun t kk => XS.iconst W.here W.hx rfl (W.hb hd)  (by subst hp; subst hv; exact kk)) r
theorem Go.bipush (W : Wk l Z EL R own bytes maxL ret nm X σ ρ T k n) {i : Int} (v : Int32) (hd : decode bytes pc = .ok (.bipush i, 2)) (hv : (Int8.ofInt i).toInt32 = v) (hp : pc + 2 = pc') (r : Go Z EL K N Q X T pc' Ls (.int v :: st)) : Go Z EL K N Q X T pc Ls st :=
  Go.by (fun t kk => XS.bipush W.here W.hx rfl (W.hb hd)  (by subst hp; subst hv; exact kk)) r
theorem Go.sipush (W : Wk l Z EL R own bytes maxL ret nm X σ ρ T k n) {i : Int} (v : Int32) (hd : decode bytes pc = .ok (.sipush i, 3)) (hv : (Int16.ofInt i).toInt32 = v) (hp : pc + 3 = pc') (r : Go Z EL K N Q X T pc' Ls (.int v :: st)) : Go Z EL K N Q X T pc Ls st :=
  Go.by (fun t kk => XS.sipush W.here W.hx rfl (W.hb hd)  (by subst hp; subst hv; exact kk)) r
theorem Go.lconst (W : Wk l Z EL R own bytes maxL ret nm X σ ρ T k n) {i : Fin 2} (v : Int64) (hd : decode bytes pc = .ok (.lconst i, 1)) (hv : Int64.ofNat i = v) (hp : pc + 1 = pc') (r : Go Z EL K N Q X T pc' Ls (.long v :: st)) : Go Z EL K N Q X T pc Ls st :=
  Go.by (fun t kk => XT.lconst W.here W.hx rfl (W.hb hd)  (by subst hp; subst hv; exact kk)) r
theorem Go.aconstNull (W : Wk l Z EL R own bytes maxL ret nm X σ ρ T k n)  (hd : decode bytes pc = .ok (.aconst_null, 1))  (hp : pc + 1 = pc') (r : Go Z EL K N Q X T pc' Ls (.null :: st)) : Go Z EL K N Q X T pc Ls st :=
  Go.by (fun t kk => XS.aconstNull W.here W.hx rfl (W.hb hd)  (by subst hp; exact kk)) r
theorem Go.iadd (W : Wk l Z EL R own bytes maxL ret nm X σ ρ T k n) {x y : Int32} (hd : decode bytes pc = .ok (.iadd, 1))  (hp : pc + 1 = pc') (r : Go Z EL K N Q X T pc' Ls (.int (x + y) :: st)) : Go Z EL K N Q X T pc Ls (.int y :: .int x :: st) :=
  Go.by (fun t kk => XS.iadd W.here W.hx rfl (W.hb hd) rfl (by subst hp; exact kk)) r
theorem Go.isub (W : Wk l Z EL R own bytes maxL ret nm X σ ρ T k n) {x y : Int32} (hd : decode bytes pc = .ok (.isub, 1))  (hp : pc + 1 = pc') (r : Go Z EL K N Q X T pc' Ls (.int (x - y) :: st)) : Go Z EL K N Q X T pc Ls (.int y :: .int x :: st) :=
  Go.by (fun t kk => XS.isub W.here W.hx rfl (W.hb hd) rfl (by subst hp; exact kk)) r
theorem Go.imul (W : Wk l Z EL R own bytes maxL ret nm X σ ρ T k n) {x y : Int32} (hd : decode bytes pc = .ok (.imul, 1))  (hp : pc + 1 = pc') (r : Go Z EL K N Q X T pc' Ls (.int (x * y) :: st)) : Go Z EL K N Q X T pc Ls (.int y :: .int x :: st) :=
  Go.by (fun t kk => XS.imul W.here W.hx rfl (W.hb hd) rfl (by subst hp; exact kk)) r
theorem Go.iand (W : Wk l Z EL R own bytes maxL ret nm X σ ρ T k n) {x y : Int32} (hd : decode bytes pc = .ok (.iand, 1))  (hp : pc + 1 = pc') (r : Go Z EL K N Q X T pc' Ls (.int (x &&& y) :: st)) : Go Z EL K N Q X T pc Ls (.int y :: .int x :: st) :=
  Go.by (fun t kk => XS.iand W.here W.hx rfl (W.hb hd) rfl (by subst hp; exact kk)) r
theorem Go.ior (W : Wk l Z EL R own bytes maxL ret nm X σ ρ T k n) {x y : Int32} (hd : decode bytes pc = .ok (.ior, 1))  (hp : pc + 1 = pc') (r : Go Z EL K N Q X T pc' Ls (.int (x ||| y) :: st)) : Go Z EL K N Q X T pc Ls (.int y :: .int x :: st) :=
  Go.by (fun t kk => XT.ior W.here W.hx rfl (W.hb hd) rfl (by subst hp; exact kk)) r
theorem Go.ixor (W : Wk l Z EL R own bytes maxL ret nm X σ ρ T k n) {x y : Int32} (hd : decode bytes pc = .ok (.ixor, 1))  (hp : pc + 1 = pc') (r : Go Z EL K N Q X T pc' Ls (.int (x ^^^ y) :: st)) : Go Z EL K N Q X T pc Ls (.int y :: .int x :: st) :=
  Go.by (fun t kk => XT.ixor W.here W.hx rfl (W.hb hd) rfl (by subst hp; exact kk)) r
theorem Go.ishl (W : Wk l Z EL R own bytes maxL ret nm X σ ρ T k n) {x y : Int32} (hd : decode bytes pc = .ok (.ishl, 1))  (hp : pc + 1 = pc') (r : Go Z EL K N Q X T pc' Ls (.int (x <<< (y &&& 31)) :: st)) : Go Z EL K N Q X T pc Ls (.int y :: .int x :: st) :=
  Go.by (fun t kk => XT.ishl W.here W.hx rfl (W.hb hd) rfl (by subst hp; exact kk)) r
theorem Go.ishr (W : Wk l Z EL R own bytes maxL ret nm X σ ρ T k n) {x y : Int32} (hd : decode bytes pc = .ok (.ishr, 1))  (hp : pc + 1 = pc') (r : Go Z EL K N Q X T pc' Ls (.int (x >>> (y &&& 31)) :: st)) : Go Z EL K N Q X T pc Ls (.int y :: .int x :: st) :=
  Go.by (fun t kk => XT.ishr W.here W.hx rfl (W.hb hd) rfl (by subst hp; exact kk)) r
theorem Go.iushr (W : Wk l Z EL R own bytes maxL ret nm X σ ρ T k n) {x y : Int32} (hd : decode bytes pc = .ok (.iushr, 1))  (hp : pc + 1 = pc') (r : Go Z EL K N Q X T pc' Ls (.int ((x.toUInt32 >>> (y &&& 31).toUInt32).toInt32) :: st)) : Go Z EL K N Q X T pc Ls (.int y :: .int x :: st) :=
  Go.by (fun t kk => XT.iushr W.here W.hx rfl (W.hb hd) rfl (by subst hp; exact kk)) r
theorem Go.idiv (W : Wk l Z EL R own bytes maxL ret nm X σ ρ T k n) {x y : Int32} (hd : decode bytes pc = .ok (.idiv, 1)) (hy : y ≠ 0) (hp : pc + 1 = pc') (r : Go Z EL K N Q X T pc' Ls (.int (x / y) :: st)) : Go Z EL K N Q X T pc Ls (.int y :: .int x :: st) :=
  Go.by (fun t kk => XS.idiv W.here W.hx rfl (W.hb hd) rfl hy (by subst hp; exact kk)) r
theorem Go.irem (W : Wk l Z EL R own bytes maxL ret nm X σ ρ T k n) {x y : Int32} (hd : decode bytes pc = .ok (.irem, 1)) (hy : y ≠ 0) (hp : pc + 1 = pc') (r : Go Z EL K N Q X T pc' Ls (.int (x % y) :: st)) : Go Z EL K N Q X T pc Ls (.int y :: .int x :: st) :=
  Go.by (fun t kk => XS.irem W.here W.hx rfl (W.hb hd) rfl hy (by subst hp; rw [irem_eq_mod x y]; exact kk)) r
theorem Go.ineg (W : Wk l Z EL R own bytes maxL ret nm X σ ρ T k n) {x : Int32} (hd : decode bytes pc = .ok (.ineg, 1))  (hp : pc + 1 = pc') (r : Go Z EL K N Q X T pc' Ls (.int (-x) :: st)) : Go Z EL K N Q X T pc Ls (.int x :: st) :=
  Go.by (fun t kk => XS.ineg W.here W.hx rfl (W.hb hd) rfl (by subst hp; exact kk)) r
theorem Go.i2b (W : Wk l Z EL R own bytes maxL ret nm X σ ρ T k n) {x : Int32} (hd : decode bytes pc = .ok (.i2b, 1))  (hp : pc + 1 = pc') (r : Go Z EL K N Q X T pc' Ls (.int x.toInt8.toInt32 :: st)) : Go Z EL K N Q X T pc Ls (.int x :: st) :=
  Go.by (fun t kk => XT.i2b W.here W.hx rfl (W.hb hd) rfl (by subst hp; exact kk)) r
theorem Go.i2c (W : Wk l Z EL R own bytes maxL ret nm X σ ρ T k n) {x : Int32} (hd : decode bytes pc = .ok (.i2c, 1))  (hp : pc + 1 = pc') (r : Go Z EL K N Q X T pc' Ls (.int x.toUInt32.toUInt16.toUInt32.toInt32 :: st)) : Go Z EL K N Q X T pc Ls (.int x :: st) :=
  Go.by (fun t kk => XT.i2c W.here W.hx rfl (W.hb hd) rfl (by subst hp; exact kk)) r
theorem Go.i2s (W : Wk l Z EL R own bytes maxL ret nm X σ ρ T k n) {x : Int32} (hd : decode bytes pc = .ok (.i2s, 1))  (hp : pc + 1 = pc') (r : Go Z EL K N Q X T pc' Ls (.int x.toInt16.toInt32 :: st)) : Go Z EL K N Q X T pc Ls (.int x :: st) :=
  Go.by (fun t kk => XT.i2s W.here W.hx rfl (W.hb hd) rfl (by subst hp; exact kk)) r
theorem Go.i2l (W : Wk l Z EL R own bytes maxL ret nm X σ ρ T k n) {x : Int32} (hd : decode bytes pc = .ok (.i2l, 1))  (hp : pc + 1 = pc') (r : Go Z EL K N Q X T pc' Ls (.long x.toInt64 :: st)) : Go Z EL K N Q X T pc Ls (.int x :: st) :=
  Go.by (fun t kk => XT.i2l W.here W.hx rfl (W.hb hd) rfl (by subst hp; exact kk)) r
theorem Go.l2i (W : Wk l Z EL R own bytes maxL ret nm X σ ρ T k n) {x : Int64} (hd : decode bytes pc = .ok (.l2i, 1))  (hp : pc + 1 = pc') (r : Go Z EL K N Q X T pc' Ls (.int x.toInt32 :: st)) : Go Z EL K N Q X T pc Ls (.long x :: st) :=
  Go.by (fun t kk => XT.l2i W.here W.hx rfl (W.hb hd) rfl (by subst hp; exact kk)) r
theorem Go.ladd (W : Wk l Z EL R own bytes maxL ret nm X σ ρ T k n) {x y : Int64} (hd : decode bytes pc = .ok (.ladd, 1))  (hp : pc + 1 = pc') (r : Go Z EL K N Q X T pc' Ls (.long (x + y) :: st)) : Go Z EL K N Q X T pc Ls (.long y :: .long x :: st) :=
  Go.by (fun t kk => XT.ladd W.here W.hx rfl (W.hb hd) rfl (by subst hp; exact kk)) r
theorem Go.lsub (W : Wk l Z EL R own bytes maxL ret nm X σ ρ T k n) {x y : Int64} (hd : decode bytes pc = .ok (.lsub, 1))  (hp : pc + 1 = pc') (r : Go Z EL K N Q X T pc' Ls (.long (x - y) :: st)) : Go Z EL K N Q X T pc Ls (.long y :: .long x :: st) :=
  Go.by (fun t kk => XT.lsub W.here W.hx rfl (W.hb hd) rfl (by subst hp; exact kk)) r
theorem Go.lmul (W : Wk l Z EL R own bytes maxL ret nm X σ ρ T k n) {x y : Int64} (hd : decode bytes pc = .ok (.lmul, 1))  (hp : pc + 1 = pc') (r : Go Z EL K N Q X T pc' Ls (.long (x * y) :: st)) : Go Z EL K N Q X T pc Ls (.long y :: .long x :: st) :=
  Go.by (fun t kk => XT.lmul W.here W.hx rfl (W.hb hd) rfl (by subst hp; exact kk)) r
theorem Go.land (W : Wk l Z EL R own bytes maxL ret nm X σ ρ T k n) {x y : Int64} (hd : decode bytes pc = .ok (.land, 1))  (hp : pc + 1 = pc') (r : Go Z EL K N Q X T pc' Ls (.long (x &&& y) :: st)) : Go Z EL K N Q X T pc Ls (.long y :: .long x :: st) :=
  Go.by (fun t kk => XT.land W.here W.hx rfl (W.hb hd) rfl (by subst hp; exact kk)) r
theorem Go.lor (W : Wk l Z EL R own bytes maxL ret nm X σ ρ T k n) {x y : Int64} (hd : decode bytes pc = .ok (.lor, 1))  (hp : pc + 1 = pc') (r : Go Z EL K N Q X T pc' Ls (.long (x ||| y) :: st)) : Go Z EL K N Q X T pc Ls (.long y :: .long x :: st) :=
  Go.by (fun t kk => XT.lor W.here W.hx rfl (W.hb hd) rfl (by subst hp; exact kk)) r
theorem Go.lxor (W : Wk l Z EL R own bytes maxL ret nm X σ ρ T k n) {x y : Int64} (hd : decode bytes pc = .ok (.lxor, 1))  (hp : pc + 1 = pc') (r : Go Z EL K N Q X T pc' Ls (.long (x ^^^ y) :: st)) : Go Z EL K N Q X T pc Ls (.long y :: .long x :: st) :=
  Go.by (fun t kk => XT.lxor W.here W.hx rfl (W.hb hd) rfl (by subst hp; exact kk)) r
theorem Go.ldiv (W : Wk l Z EL R own bytes maxL ret nm X σ ρ T k n) {x y : Int64} (hd : decode bytes pc = .ok (.ldiv, 1)) (hy : y ≠ 0) (hp : pc + 1 = pc') (r : Go Z EL K N Q X T pc' Ls (.long (x / y) :: st)) : Go Z EL K N Q X T pc Ls (.long y :: .long x :: st) :=
  Go.by (fun t kk => XT.ldiv W.here W.hx rfl (W.hb hd) rfl hy (by subst hp; exact kk)) r
theorem Go.lrem (W : Wk l Z EL R own bytes maxL ret nm X σ ρ T k n) {x y : Int64} (hd : decode bytes pc = .ok (.lrem, 1)) (hy : y ≠ 0) (hp : pc + 1 = pc') (r : Go Z EL K N Q X T pc' Ls (.long (x % y) :: st)) : Go Z EL K N Q X T pc Ls (.long y :: .long x :: st) :=
  Go.by (fun t kk => XT.lrem W.here W.hx rfl (W.hb hd) rfl hy (by subst hp; rw [lrem_mod x y]; exact kk)) r
theorem Go.lneg (W : Wk l Z EL R own bytes maxL ret nm X σ ρ T k n) {x : Int64} (hd : decode bytes pc = .ok (.lneg, 1))  (hp : pc + 1 = pc') (r : Go Z EL K N Q X T pc' Ls (.long (-x) :: st)) : Go Z EL K N Q X T pc Ls (.long x :: st) :=
  Go.by (fun t kk => XT.lneg W.here W.hx rfl (W.hb hd) rfl (by subst hp; exact kk)) r
theorem Go.lushr (W : Wk l Z EL R own bytes maxL ret nm X σ ρ T k n) {x : Int64} {y : Int32} (hd : decode bytes pc = .ok (.lushr, 1))  (hp : pc + 1 = pc') (r : Go Z EL K N Q X T pc' Ls (.long (Jvm.Free.XT.ushrL x y) :: st)) : Go Z EL K N Q X T pc Ls (.int y :: .long x :: st) :=
  Go.by (fun t kk => XT.lushr W.here W.hx rfl (W.hb hd) rfl (by subst hp; exact kk)) r
theorem Go.lcmp (W : Wk l Z EL R own bytes maxL ret nm X σ ρ T k n) {x y : Int64} (hd : decode bytes pc = .ok (.lcmp, 1))  (hp : pc + 1 = pc') (r : Go Z EL K N Q X T pc' Ls (.int (lcmpW x y) :: st)) : Go Z EL K N Q X T pc Ls (.long y :: .long x :: st) :=
  Go.by (fun t kk => XT.lcmp W.here W.hx rfl (W.hb hd) rfl (by subst hp; exact kk)) r
theorem Go.dup (W : Wk l Z EL R own bytes maxL ret nm X σ ρ T k n) {x : Value} (hd : decode bytes pc = .ok (.dup, 1)) (hc : x.category = 1) (hp : pc + 1 = pc') (r : Go Z EL K N Q X T pc' Ls (x :: x :: st)) : Go Z EL K N Q X T pc Ls (x :: st) :=
  Go.by (fun t kk => XS.dup W.here W.hx rfl (W.hb hd) rfl hc (by subst hp; exact kk)) r
theorem Go.dupX1 (W : Wk l Z EL R own bytes maxL ret nm X σ ρ T k n) {x y : Value} (hd : decode bytes pc = .ok (.dup_x1, 1)) (hc : x.category = 1) (hc' : y.category = 1) (hp : pc + 1 = pc') (r : Go Z EL K N Q X T pc' Ls (x :: y :: x :: st)) : Go Z EL K N Q X T pc Ls (x :: y :: st) :=
  Go.by (fun t kk => XT.dupX1 W.here W.hx rfl (W.hb hd) rfl hc hc' (by subst hp; exact kk)) r
theorem Go.dup2 (W : Wk l Z EL R own bytes maxL ret nm X σ ρ T k n) {x y : Value} (hd : decode bytes pc = .ok (.dup2, 1)) (hc : x.category = 1) (hc' : y.category = 1) (hp : pc + 1 = pc') (r : Go Z EL K N Q X T pc' Ls (x :: y :: x :: y :: st)) : Go Z EL K N Q X T pc Ls (x :: y :: st) :=
  Go.by (fun t kk => XT.dup2 W.here W.hx rfl (W.hb hd) rfl hc hc' (by subst hp; exact kk)) r
theorem Go.pop (W : Wk l Z EL R own bytes maxL ret nm X σ ρ T k n) {x : Value} (hd : decode bytes pc = .ok (.pop, 1)) (hc : x.category = 1) (hp : pc + 1 = pc') (r : Go Z EL K N Q X T pc' Ls st) : Go Z EL K N Q X T pc Ls (x :: st) :=
  Go.by (fun t kk => XT.pop W.here W.hx rfl (W.hb hd) rfl hc (by subst hp; exact kk)) r
theorem Go.iinc (W : Wk l Z EL R own bytes maxL ret nm X σ ρ T k n) {k' : Nat} {cst : Int} {x : Int32} (v : Int32) (Ls' : Array Slot) (hd : decode bytes pc = .ok (.iinc k' cst, 3)) (hl : Ls[k']? = some (.val (.int x))) (hv : Int32.ofInt cst = v) (hl' : storeLocals Ls k' (.int (x + v)) = some Ls') (hp : pc + 3 = pc') (r : Go Z EL K N Q X T pc' Ls' st) : Go Z EL K N Q X T pc Ls st :=
  Go.by (fun t kk => XS.iinc W.here W.hx rfl (W.hb hd) hl (by rw [hv]; exact hl') (by subst hp; exact kk)) r
theorem Go.goto (W : Wk l Z EL R own bytes maxL ret nm X σ ρ T k n) {o : Int} (pcY : Nat) (hd : decode bytes pc = .ok (.goto o, 3)) (hy : (pc : Int) + o = (pcY : Nat)) (r : Go Z EL K N Q X T pcY Ls st) : Go Z EL K N Q X T pc Ls st :=
  Go.by (fun t kk => XS.goto W.here W.hx rfl (pc0 := pc) (pc' := pcY) rfl (W.hb hd) (by omega) (by omega) kk) r
theorem Go.icmp_eq (W : Wk l Z EL R own bytes maxL ret nm X σ ρ T k n) {x y : Int32} {o : Int} (pcY : Nat) (hd : decode bytes pc = .ok (.if_icmp .eq o, 3)) (hy : (pc : Int) + o = (pcY : Nat)) (hp : pc + 3 = pc') (rY : (x = y) → Go Z EL K N Q X T pcY Ls st) (rN : (¬ x = y) → Go Z EL K N Q X T pc' Ls st) : Go Z EL K N Q X T pc Ls (.int y :: .int x :: st) := by
  by_cases q : x = y
  · exact Go.by (fun t kk => XS.icmpYes W.here W.hx rfl (pc0 := pc) (pc' := pcY) rfl (W.hb hd) rfl (teq q).1 (by omega) (by omega) kk) (rY q)
  · exact Go.by (fun t kk => XS.icmpNo W.here W.hx rfl (W.hb hd) rfl (feq q).1 (by subst hp; exact kk)) (rN q)
theorem Go.if_eq (W : Wk l Z EL R own bytes maxL ret nm X σ ρ T k n) {x : Int32} {o : Int} (pcY : Nat) (hd : decode bytes pc = .ok (.ifCond .eq o, 3)) (hy : (pc : Int) + o = (pcY : Nat)) (hp : pc + 3 = pc') (rY : (x = 0) → Go Z EL K N Q X T pcY Ls st) (rN : (¬ x = 0) → Go Z EL K N Q X T pc' Ls st) : Go Z EL K N Q X T pc Ls (.int x :: st) := by
  by_cases q : x = 0
  · exact Go.by (fun t kk => XS.ifYes W.here W.hx rfl (pc0 := pc) (pc' := pcY) rfl (W.hb hd) rfl ((if0 .eq x).trans (teq q).1) (by omega) (by omega) kk) (rY q)
  · exact Go.by (fun t kk => XS.ifNo W.here W.hx rfl (W.hb hd) rfl ((if0 .eq x).trans (feq q).1) (by subst hp; exact kk)) (rN q)
theorem Go.icmp_ne (W : Wk l Z EL R own bytes maxL ret nm X σ ρ T k n) {x y : Int32} {o : Int} (pcY : Nat) (hd : decode bytes pc = .ok (.if_icmp .ne o, 3)) (hy : (pc : Int) + o = (pcY : Nat)) (hp : pc + 3 = pc') (rY : (¬ x = y) → Go Z EL K N Q X T pcY Ls st) (rN : (x = y) → Go Z EL K N Q X T pc' Ls st) : Go Z EL K N Q X T pc Ls (.int y :: .int x :: st) := by
  by_cases q : x = y
  · exact Go.by (fun t kk => XS.icmpNo W.here W.hx rfl (W.hb hd) rfl (teq q).2 (by subst hp; exact kk)) (rN q)
  · exact Go.by (fun t kk => XS.icmpYes W.here W.hx rfl (pc0 := pc) (pc' := pcY) rfl (W.hb hd) rfl (feq q).2 (by omega) (by omega) kk) (rY q)
theorem Go.if_ne (W : Wk l Z EL R own bytes maxL ret nm X σ ρ T k n) {x : Int32} {o : Int} (pcY : Nat) (hd : decode bytes pc = .ok (.ifCond .ne o, 3)) (hy : (pc : Int) + o = (pcY : Nat)) (hp : pc + 3 = pc') (rY : (¬ x = 0) → Go Z EL K N Q X T pcY Ls st) (rN : (x = 0) → Go Z EL K N Q X T pc' Ls st) : Go Z EL K N Q X T pc Ls (.int x :: st) := by
  by_cases q : x = 0
  · exact Go.by (fun t kk => XS.ifNo W.here W.hx rfl (W.hb hd) rfl ((if0 .ne x).trans (teq q).2) (by subst hp; exact kk)) (rN q)
  · exact Go.by (fun t kk => XS.ifYes W.here W.hx rfl (pc0 := pc) (pc' := pcY) rfl (W.hb hd) rfl ((if0 .ne x).trans (feq q).2) (by omega) (by omega) kk) (rY q)
theorem Go.icmp_lt (W : Wk l Z EL R own bytes maxL ret nm X σ ρ T k n) {x y : Int32} {o : Int} (pcY : Nat) (hd : decode bytes pc = .ok (.if_icmp .lt o, 3)) (hy : (pc : Int) + o = (pcY : Nat)) (hp : pc + 3 = pc') (rY : (x < y) → Go Z EL K N Q X T pcY Ls st) (rN : (¬ x < y) → Go Z EL K N Q X T pc' Ls st) : Go Z EL K N Q X T pc Ls (.int y :: .int x :: st) := by
  by_cases q : x < y
  · exact Go.by (fun t kk => XS.icmpYes W.here W.hx rfl (pc0 := pc) (pc' := pcY) rfl (W.hb hd) rfl (tlt q).1 (by omega) (by omega) kk) (rY q)
  · exact Go.by (fun t kk => XS.icmpNo W.here W.hx rfl (W.hb hd) rfl (flt q).1 (by subst hp; exact kk)) (rN q)
theorem Go.if_lt (W : Wk l Z EL R own bytes maxL ret nm X σ ρ T k n) {x : Int32} {o : Int} (pcY : Nat) (hd : decode bytes pc = .ok (.ifCond .lt o, 3)) (hy : (pc : Int) + o = (pcY : Nat)) (hp : pc + 3 = pc') (rY : (x < 0) → Go Z EL K N Q X T pcY Ls st) (rN : (¬ x < 0) → Go Z EL K N Q X T pc' Ls st) : Go Z EL K N Q X T pc Ls (.int x :: st) := by
  by_cases q : x < 0
  · exact Go.by (fun t kk => XS.ifYes W.here W.hx rfl (pc0 := pc) (pc' := pcY) rfl (W.hb hd) rfl ((if0 .lt x).trans (tlt q).1) (by omega) (by omega) kk) (rY q)
  · exact Go.by (fun t kk => XS.ifNo W.here W.hx rfl (W.hb hd) rfl ((if0 .lt x).trans (flt q).1) (by subst hp; exact kk)) (rN q)
theorem Go.icmp_ge (W : Wk l Z EL R own bytes maxL ret nm X σ ρ T k n) {x y : Int32} {o : Int} (pcY : Nat) (hd : decode bytes pc = .ok (.if_icmp .ge o, 3)) (hy : (pc : Int) + o = (pcY : Nat)) (hp : pc + 3 = pc') (rY : (¬ x < y) → Go Z EL K N Q X T pcY Ls st) (rN : (x < y) → Go Z EL K N Q X T pc' Ls st) : Go Z EL K N Q X T pc Ls (.int y :: .int x :: st) := by
  by_cases q : x < y
  · exact Go.by (fun t kk => XS.icmpNo W.here W.hx rfl (W.hb hd) rfl (tlt q).2.1 (by subst hp; exact kk)) (rN q)
  · exact Go.by (fun t kk => XS.icmpYes W.here W.hx rfl (pc0 := pc) (pc' := pcY) rfl (W.hb hd) rfl (flt q).2.1 (by omega) (by omega) kk) (rY q)
theorem Go.if_ge (W : Wk l Z EL R own bytes maxL ret nm X σ ρ T k n) {x : Int32} {o : Int} (pcY : Nat) (hd : decode bytes pc = .ok (.ifCond .ge o, 3)) (hy : (pc : Int) + o = (pcY : Nat)) (hp : pc + 3 = pc') (rY : (¬ x < 0) → Go Z EL K N Q X T pcY Ls st) (rN : (x < 0) → Go Z EL K N Q X T pc' Ls st) : Go Z EL K N Q X T pc Ls (.int x :: st) := by
  by_cases q : x < 0
  · exact Go.by (fun t kk => XS.ifNo W.here W.hx rfl (W.hb hd) rfl ((if0 .ge x).trans (tlt q).2.1) (by subst hp; exact kk)) (rN q)
  · exact Go.by (fun t kk => XS.ifYes W.here W.hx rfl (pc0 := pc) (pc' := pcY) rfl (W.hb hd) rfl ((if0 .ge x).trans (flt q).2.1) (by omega) (by omega) kk) (rY q)
theorem Go.icmp_gt (W : Wk l Z EL R own bytes maxL ret nm X σ ρ T k n) {x y : Int32} {o : Int} (pcY : Nat) (hd : decode bytes pc = .ok (.if_icmp .gt o, 3)) (hy : (pc : Int) + o = (pcY : Nat)) (hp : pc + 3 = pc') (rY : (y < x) → Go Z EL K N Q X T pcY Ls st) (rN : (¬ y < x) → Go Z EL K N Q X T pc' Ls st) : Go Z EL K N Q X T pc Ls (.int y :: .int x :: st) := by
  by_cases q : y < x
  · exact Go.by (fun t kk => XS.icmpYes W.here W.hx rfl (pc0 := pc) (pc' := pcY) rfl (W.hb hd) rfl (tlt q).2.2.1 (by omega) (by omega) kk) (rY q)
  · exact Go.by (fun t kk => XS.icmpNo W.here W.hx rfl (W.hb hd) rfl (flt q).2.2.1 (by subst hp; exact kk)) (rN q)
theorem Go.if_gt (W : Wk l Z EL R own bytes maxL ret nm X σ ρ T k n) {x : Int32} {o : Int} (pcY : Nat) (hd : decode bytes pc = .ok (.ifCond .gt o, 3)) (hy : (pc : Int) + o = (pcY : Nat)) (hp : pc + 3 = pc') (rY : (0 < x) → Go Z EL K N Q X T pcY Ls st) (rN : (¬ 0 < x) → Go Z EL K N Q X T pc' Ls st) : Go Z EL K N Q X T pc Ls (.int x :: st) := by
  by_cases q : 0 < x
  · exact Go.by (fun t kk => XS.ifYes W.here W.hx rfl (pc0 := pc) (pc' := pcY) rfl (W.hb hd) rfl ((if0 .gt x).trans (tlt q).2.2.1) (by omega) (by omega) kk) (rY q)
  · exact Go.by (fun t kk => XS.ifNo W.here W.hx rfl (W.hb hd) rfl ((if0 .gt x).trans (flt q).2.2.1) (by subst hp; exact kk)) (rN q)
theorem Go.icmp_le (W : Wk l Z EL R own bytes maxL ret nm X σ ρ T k n) {x y : Int32} {o : Int} (pcY : Nat) (hd : decode bytes pc = .ok (.if_icmp .le o, 3)) (hy : (pc : Int) + o = (pcY : Nat)) (hp : pc + 3 = pc') (rY : (¬ y < x) → Go Z EL K N Q X T pcY Ls st) (rN : (y < x) → Go Z EL K N Q X T pc' Ls st) : Go Z EL K N Q X T pc Ls (.int y :: .int x :: st) := by
  by_cases q : y < x
  · exact Go.by (fun t kk => XS.icmpNo W.here W.hx rfl (W.hb hd) rfl (tlt q).2.2.2 (by subst hp; exact kk)) (rN q)
  · exact Go.by (fun t kk => XS.icmpYes W.here W.hx rfl (pc0 := pc) (pc' := pcY) rfl (W.hb hd) rfl (flt q).2.2.2 (by omega) (by omega) kk) (rY q)
theorem Go.if_le (W : Wk l Z EL R own bytes maxL ret nm X σ ρ T k n) {x : Int32} {o : Int} (pcY : Nat) (hd : decode bytes pc = .ok (.ifCond .le o, 3)) (hy : (pc : Int) + o = (pcY : Nat)) (hp : pc + 3 = pc') (rY : (¬ 0 < x) → Go Z EL K N Q X T pcY Ls st) (rN : (0 < x) → Go Z EL K N Q X T pc' Ls st) : Go Z EL K N Q X T pc Ls (.int x :: st) := by
  by_cases q : 0 < x
  · exact Go.by (fun t kk => XS.ifNo W.here W.hx rfl (W.hb hd) rfl ((if0 .le x).trans (tlt q).2.2.2) (by subst hp; exact kk)) (rN q)
  · exact Go.by (fun t kk => XS.ifYes W.here W.hx rfl (pc0 := pc) (pc' := pcY) rfl (W.hb hd) rfl ((if0 .le x).trans (flt q).2.2.2) (by omega) (by omega) kk) (rY q)
theorem Go.ifnull_yes (W : Wk l Z EL R own bytes maxL ret nm X σ ρ T k n) {o : Int} (pcY : Nat) (hd : decode bytes pc = .ok (.ifnull o, 3)) (hy : (pc : Int) + o = (pcY : Nat)) (r : Go Z EL K N Q X T pcY Ls st) : Go Z EL K N Q X T pc Ls (.null :: st) :=
  Go.by (fun t kk => XS.ifnullYes W.here W.hx rfl (pc0 := pc) (pc' := pcY) rfl (W.hb hd) rfl (by omega) (by omega) kk) r
theorem Go.ifnull_no (W : Wk l Z EL R own bytes maxL ret nm X σ ρ T k n) {b : Addr} {o : Int} (hd : decode bytes pc = .ok (.ifnull o, 3)) (hp : pc + 3 = pc') (r : Go Z EL K N Q X T pc' Ls st) : Go Z EL K N Q X T pc Ls (.ref b :: st) :=
  Go.by (fun t kk => XS.ifnullNo W.here W.hx rfl (W.hb hd) rfl (by subst hp; exact kk)) r
theorem Go.ifnonnull_yes (W : Wk l Z EL R own bytes maxL ret nm X σ ρ T k n) {b : Addr} {o : Int} (pcY : Nat) (hd : decode bytes pc = .ok (.ifnonnull o, 3)) (hy : (pc : Int) + o = (pcY : Nat)) (r : Go Z EL K N Q X T pcY Ls st) : Go Z EL K N Q X T pc Ls (.ref b :: st) :=
  Go.by (fun t kk => XT.ifnonnullYes W.here W.hx rfl (pc0 := pc) (pc' := pcY) rfl (W.hb hd) rfl (by omega) (by omega) kk) r
theorem Go.ifnonnull_no (W : Wk l Z EL R own bytes maxL ret nm X σ ρ T k n) {o : Int} (hd : decode bytes pc = .ok (.ifnonnull o, 3)) (hp : pc + 3 = pc') (r : Go Z EL K N Q X T pc' Ls st) : Go Z EL K N Q X T pc Ls (.null :: st) :=
  Go.by (fun t kk => XT.ifnonnullNo W.here W.hx rfl (W.hb hd) rfl (by subst hp; exact kk)) r
end StepLaws
/-! ## own: what is known of one cell -/
def ObjC (Z : State) (c : Cell) (C : String) : Prop := ∃ k : Class, Z.vm.findClass C = some c.cls ∧ Z.vm.classes[c.cls]? = some k ∧ c.vm.isStatics = false ∧ (k.kind = .ordinary → c.slots.size = k.instanceTypes.size)
def FldC (Z : State) (c : Cell) (C n d : String) (v : Value) : Prop := ∃ (cf : ClassId) (k : Class) (i : Nat) (f : Field), Z.fieldFound? C n d = some (cf, k, i, f) ∧ f.isStatic = false ∧ c.vm ≠ .unknown ∧ c.vm.isStatics = false ∧ Z.vm.assignable c.cls cf = true ∧ c.slots[f.slot]? = some v
def ArrC (Z : State) (c : Cell) (ty : FieldType) (vs : List Value) : Prop := Z.isArrayOf c ty ∧ c.vm ≠ .unknown ∧ c.slots.toList = vs ∧ (∀ v ∈ vs, fits ty v = true) ∧ vs.length < 2147483648
section CellLaws
variable {Z : State} {c c' : Cell} {C n d C' n' d' : String} {v w : Value} {h : Heap} {a : Addr} {ty : FieldType} {vs : List Value}
theorem ObjC.exa (F : ObjC Z c C) (ha : h[a]? = some c) : Exa Z h a C := by obtain ⟨k, h1, h2, h3, h4⟩ := F; exact ⟨c, k, ha, h1, h2, h3, h4⟩
theorem ObjC.of (F : Exa Z h a C) (ha : h[a]? = some c) : ObjC Z c C := by
  obtain ⟨c', k, h0, h1, h2, h3, h4⟩ := F
  cases ha.symm.trans h0
  exact ⟨k, h1, h2, h3, h4⟩
theorem FldC.fld (F : FldC Z c C n d v) (ha : h[a]? = some c) : Fld Z h a C n d v := by obtain ⟨cf, k, i, f, r⟩ := F; exact ⟨c, cf, k, i, f, ha, r⟩
theorem FldC.of (F : Fld Z h a C n d v) (ha : h[a]? = some c) : FldC Z c C n d v := by
  obtain ⟨c', cf, k, i, f, h0, r⟩ := F
  cases ha.symm.trans h0
  exact ⟨cf, k, i, f, r⟩
theorem ArrC.arr (F : ArrC Z c ty vs) (ha : h[a]? = some c) : Arr Z h a c ty := ⟨ha, F.1, F.2.1⟩
theorem ArrC.size (F : ArrC Z c ty vs) : c.slots.size = vs.length := by rw [← F.2.2.1]; simp
theorem ArrC.get (F : ArrC Z c ty vs) (i : Nat) : c.slots[i]? = vs[i]? := by rw [← F.2.2.1]; simp
theorem FldC.put {v' : Value} (F : FldC Z c C n d v) : FldC Z (c.setSlot (Jvm.RoadKit.slotOf Z C n d) v') C n d v' := by
  obtain ⟨cf, k, i, f, h1, h2, h3, h4, h5, h6⟩ := F
  have hlt := (Array.getElem?_eq_some_iff.mp h6).1
  exact ⟨cf, k, i, f, h1, h2, h3, h4, h5, by simp [Cell.setSlot, Jvm.RoadKit.slotOf, h1, hlt]⟩
theorem FldC.keep {sl : Nat} {v' : Value} (F : FldC Z c C n d v) (hne : Jvm.RoadKit.slotOf Z C n d ≠ sl) : FldC Z (c.setSlot sl v') C n d v := by
  obtain ⟨cf, k, i, f, h1, h2, h3, h4, h5, h6⟩ := F
  have e : Jvm.RoadKit.slotOf Z C n d = f.slot := by simp [Jvm.RoadKit.slotOf, h1]
  rw [e] at hne
  exact ⟨cf, k, i, f, h1, h2, h3, h4, h5, by show (c.slots.setIfInBounds sl v')[f.slot]? = _; rw [Array.getElem?_setIfInBounds_ne (Ne.symm hne)]; exact h6⟩
theorem ObjC.put {sl : Nat} {v' : Value} (F : ObjC Z c C) : ObjC Z (c.setSlot sl v') C := by
  obtain ⟨k, h1, h2, h3, h4⟩ := F
  exact ⟨k, h1, h2, h3, fun q => by rw [← h4 q]; simp [Cell.setSlot]⟩
theorem FldC.put' {v' : Value} (F : FldC Z c C n d v) (e : c' = c.setSlot (Jvm.RoadKit.slotOf Z C n d) v') : FldC Z c' C n d v' := e ▸ F.put
theorem FldC.keep' {sl : Nat} {v' : Value} (F : FldC Z c C n d v) (e : c' = c.setSlot sl v') (hne : Jvm.RoadKit.slotOf Z C n d ≠ sl) : FldC Z c' C n d v := e ▸ F.keep hne
theorem ObjC.put' {sl : Nat} {v' : Value} (F : ObjC Z c C) (e : c' = c.setSlot sl v') : ObjC Z c' C := e ▸ F.put
theorem fits_isref (ht : ty.isReference = true) (hv : v.isRef = true) : fits ty v = true := by cases ty <;> first | (cases ht; done) | (cases v <;> first | (cases hv; done) | rfl)
theorem ArrC.put {i : Nat} {v' : Value} (F : ArrC Z c ty vs) (hf : fits ty v' = true) : ArrC Z (c.setSlot i v') ty (vs.set i v') := by
  obtain ⟨h1, h2, h3, h4, h5⟩ := F
  refine ⟨h1, h2, by simp [Cell.setSlot, h3], fun v hv => ?_, by simpa using h5⟩
  rcases List.mem_or_eq_of_mem_set hv with q | q
  · exact h4 v q
  · rw [q]; exact hf
end CellLaws
/-! ## own: steps that read or make or write cells, and calls, in the Go form -/
section HeapLaws
variable {l : Launch} {Z : State} {a0 : Array Value} {EL : List (String × Nat)} {R : Room} {own : String} {bytes : ByteArray} {maxL : Nat} {ret : Option FieldType} {nm : String} {X : Ctx} {σ ρ : HL} {T : State} {k n K N : Nat} {Q : Option Value → HL → HL → Prop} {pc pc' : Nat} {Ls : Array Slot} {st : List Value} {a : Addr} {c : Cell} {vs : List Value}
theorem Go.new (W : Wk l Z EL R own bytes maxL ret nm X σ ρ T k n) {C : String} {ix cnt : Nat} (w : (Jvm.Cond.classLink own ix C).before a0 Z = true) (wi : (Jvm.Cond.instantiable C cnt).before a0 Z = true) (wz : (Jvm.Cond.initialized C).before a0 Z = true)
    (hd : decode bytes pc = .ok (.new ix, 3)) (hp : pc + 3 = pc') (hk : k + 1 ≤ R.cells) (hn : n + cnt ≤ R.slots)
    (r : ∀ (T' : State) (a : Addr) (c : Cell), Wk l Z EL R own bytes maxL ret nm X ((a, c) :: σ) ρ T' (k + 1) (n + cnt) → ObjC Z c C → (∀ {O nm d : String} {ty : FieldType}, Laid Z a0 C O nm d → parseFieldDescriptor d = some ty → FldC Z c O nm d (defaultValue ty)) → Go Z EL K N Q X T' pc' Ls (.ref a :: st)) :
    Go Z EL K N Q X T pc Ls st := by
  obtain ⟨w0, vm0, k0, locs, Y, hS, hk0, hZ, hown, hFr, H⟩ := W
  obtain ⟨T', h', Y', e', E, A, D, ⟨cl, hcl, -⟩, stp⟩ := newO Y w0.1 hZ hown w wi wz rfl (g := mkF X.m pc Ls st) rfl (by rw [w0.2.1]; exact hd) hk hn
  subst e'
  refine Go.by stp (by subst hp; exact r T' T.heap.size cl ⟨w0, vm0, k0, locs, Y', hS, Nat.le_trans hk0 E.1, hZ, hown, hFr, H.alloc E hcl⟩ (ObjC.of A hcl) fun L ht => FldC.of (D L ht) hcl)
theorem fits_default (ty : FieldType) : fits ty (defaultValue ty) = true := by cases ty <;> rfl
theorem Go.newarr (W : Wk l Z EL R own bytes maxL ret nm X σ ρ T k n) {aty : ArrayType} {z : Int32} (ty : FieldType) (hty : newarray.typeOf aty = ty) (len : Nat) (w : (Jvm.Cond.arrayClass ty).before a0 Z = true) (hd : decode bytes pc = .ok (.newarray aty, 2)) (hp : pc + 2 = pc')
    (hz : ¬ z < 0) (hl : z.toNatClampNeg = len) (hb : len * 8 ≤ 536870912) (hk : k + 1 ≤ R.cells) (hn : n + len ≤ R.slots)
    (r : ∀ (T' : State) (a : Addr) (c : Cell), Wk l Z EL R own bytes maxL ret nm X ((a, c) :: σ) ρ T' (k + 1) (n + len) → ArrC Z c ty (List.replicate len (defaultValue ty)) → Go Z EL K N Q X T' pc' Ls (.ref a :: st)) :
    Go Z EL K N Q X T pc Ls (.int z :: st) := by
  subst hty
  obtain ⟨w0, vm0, k0, locs, Y, hS, hk0, hZ, hown, hFr, H⟩ := W
  obtain ⟨T', h', cA, Y', e', E, A, stp⟩ := newP Y w0.1 hZ w rfl (g := mkF X.m pc Ls (.int z :: st)) rfl (by rw [w0.2.1]; exact hd) rfl hz (cap := len) (Nat.le_of_eq hl) hb hk hn
  subst e' hp
  have hfd : ∀ v ∈ List.replicate len (defaultValue (newarray.typeOf aty)), fits (newarray.typeOf aty) v = true := fun v hv => by rw [(List.mem_replicate.mp hv).2]; exact fits_default _
  exact Go.by stp (r T' T.heap.size _ ⟨w0, vm0, k0, locs, Y', hS, Nat.le_trans hk0 E.1, hZ, hown, hFr, H.alloc E A.1⟩ ⟨A.2.1, A.2.2, by simp [newA, hl], hfd, by simp; omega⟩)
theorem Go.arrlen (W : Wk l Z EL R own bytes maxL ret nm X σ ρ T k n) (hm : (a, c) ∈ σ ∨ (a, c) ∈ ρ ∨ Z.heap[a]? = some c) {ty : FieldType} (A : ArrC Z c ty vs) (z : Int32) (hz : vs.length.toInt32 = z) (hd : decode bytes pc = .ok (.arraylength, 1)) (hp : pc + 1 = pc')
    (r : Go Z EL K N Q X T pc' Ls (.int z :: st)) : Go Z EL K N Q X T pc Ls (.ref a :: st) := by
  have hc := W.cell hm
  obtain ⟨w0, vm0, k0, locs, Y, hS, hk0, hZ, hown, hFr, H⟩ := W
  refine Go.by (fun t kk => Y.arraylength w0.1 (cell := c) hc (State.isArrayOf_alike hZ.alike A.1) (g := mkF X.m pc Ls (.ref a :: st)) rfl rfl (by rw [w0.2.1]; exact hd) t ?_) r
  rw [A.size, hz]; subst hp; exact kk
theorem arr_in' {ty : FieldType} (A : ArrC Z c ty vs) {j : Int32} {i : Nat} (hj : ¬ j < 0) (hi : j.toNatClampNeg = i) (hl : i < vs.length) : ¬ (j < 0 ∨ c.slots.size ≤ j.toNatClampNeg) := by
  rw [A.size, hi]; rintro (q | q)
  · exact hj q
  · omega
theorem Go.caload (W : Wk l Z EL R own bytes maxL ret nm X σ ρ T k n) (hm : (a, c) ∈ σ ∨ (a, c) ∈ ρ ∨ Z.heap[a]? = some c) (A : ArrC Z c .char vs) {j : Int32} (i : Nat) {v : Value} (hj : ¬ j < 0) (hi : j.toNatClampNeg = i) (hv : vs[i]? = some v) (hd : decode bytes pc = .ok (.caload, 1)) (hp : pc + 1 = pc')
    (r : Go Z EL K N Q X T pc' Ls (v :: st)) : Go Z EL K N Q X T pc Ls (.int j :: .ref a :: st) := by
  have hc := W.cell hm
  obtain ⟨w0, vm0, k0, locs, Y, hS, hk0, hZ, hown, hFr, H⟩ := W
  exact Go.by (fun t kk => Y.caload w0.1 hc (State.isArrayOf_alike hZ.alike A.1) A.2.1 (arr_in' A hj hi (List.getElem?_eq_some_iff.mp hv).1) (by rw [hi, A.get, hv]) (g := mkF X.m pc Ls (.int j :: .ref a :: st)) rfl rfl (by rw [w0.2.1]; exact hd) t (by subst hp; exact kk)) r
theorem Go.baload (W : Wk l Z EL R own bytes maxL ret nm X σ ρ T k n) (hm : (a, c) ∈ σ ∨ (a, c) ∈ ρ ∨ Z.heap[a]? = some c) (A : ArrC Z c .byte vs) {j : Int32} (i : Nat) {v : Value} (hj : ¬ j < 0) (hi : j.toNatClampNeg = i) (hv : vs[i]? = some v) (hd : decode bytes pc = .ok (.baload, 1)) (hp : pc + 1 = pc')
    (r : Go Z EL K N Q X T pc' Ls (v :: st)) : Go Z EL K N Q X T pc Ls (.int j :: .ref a :: st) := by
  have hc := W.cell hm
  obtain ⟨w0, vm0, k0, locs, Y, hS, hk0, hZ, hown, hFr, H⟩ := W
  exact Go.by (fun t kk => Y.baloadBytes w0.1 hc (State.isArrayOf_alike hZ.alike A.1) A.2.1 (arr_in' A hj hi (List.getElem?_eq_some_iff.mp hv).1) (by rw [hi, A.get, hv]) (g := mkF X.m pc Ls (.int j :: .ref a :: st)) rfl rfl (by rw [w0.2.1]; exact hd) t (by subst hp; exact kk)) r
theorem Go.aaload (W : Wk l Z EL R own bytes maxL ret nm X σ ρ T k n) (hm : (a, c) ∈ σ ∨ (a, c) ∈ ρ ∨ Z.heap[a]? = some c) {ty : FieldType} (A : ArrC Z c ty vs) (hty : ty.isReference = true) {j : Int32} (i : Nat) {v : Value} (hj : ¬ j < 0) (hi : j.toNatClampNeg = i) (hv : vs[i]? = some v) (hd : decode bytes pc = .ok (.aaload, 1)) (hp : pc + 1 = pc')
    (r : Go Z EL K N Q X T pc' Ls (v :: st)) : Go Z EL K N Q X T pc Ls (.int j :: .ref a :: st) := by
  have hc := W.cell hm
  obtain ⟨w0, vm0, k0, locs, Y, hS, hk0, hZ, hown, hFr, H⟩ := W
  exact Go.by (fun t kk => Y.aaload w0.1 hc (State.isArrayOf_alike hZ.alike A.1) hty A.2.1 (arr_in' A hj hi (List.getElem?_eq_some_iff.mp hv).1) (by rw [hi, A.get, hv]) (g := mkF X.m pc Ls (.int j :: .ref a :: st)) rfl rfl (by rw [w0.2.1]; exact hd) t (by subst hp; exact kk)) r
/-- the step of one write: the point behind it -/
theorem Wk.wrote (W : Wk l Z EL R own bytes maxL ret nm X σ ρ T k n) {i : Nat} (hi : σ[i]? = some (a, c)) {vm0 : Vm} {k0 : Nat} {locs : List Loc} {T' : State} {sl : Nat} {v : Value}
    (hS : X.s.Since vm0 k0) (hk0 : k0 ≤ T.heap.size) (hZ : Z.Warmed39 vm0) (hown : vm0.findClass own = some X.m.cls) (hFr : Fr Z.heap.size locs) (H : Hp Z EL X.so X.ro X.s σ ρ vm0 T.heap)
    (Y' : Stand X.p l X.e R (X.s.setVm vm0) X.m X.args X.below X.meth X.c T' (locs ++ [⟨a, sl⟩]) k n) (Wr' : Wr T.heap T'.heap a sl v) : Wk l Z EL R own bytes maxL ret nm X (σ.set i (a, c.setSlot sl v)) ρ T' k n := by
  obtain ⟨cl, h1, -, -, h4⟩ := Wr'
  have hmem : (a, c) ∈ σ := List.mem_of_getElem? hi
  cases (H.2.1 _ hmem).symm.trans h1
  exact ⟨W.1, vm0, k0, _, Y', hS, by rw [h4]; simpa using hk0, hZ, hown, hFr.app fun y hy => by cases List.mem_singleton.mp hy; exact (H.2.2.2.2.1 _ hmem).1, H.write hi h4⟩
theorem Go.castore (W : Wk l Z EL R own bytes maxL ret nm X σ ρ T k n) (ix : Nat) (hm : σ[ix]? = some (a, c)) (A : ArrC Z c .char vs) {j x : Int32} (i : Nat) (x' : Int32) (hx : nar .char x = x') (hj : ¬ j < 0) (hi : j.toNatClampNeg = i) (hl : i < vs.length) (hd : decode bytes pc = .ok (.castore, 1)) (hp : pc + 1 = pc')
    (r : ∀ (T' : State) (c' : Cell), Wk l Z EL R own bytes maxL ret nm X (σ.set ix (a, c')) ρ T' k n → ArrC Z c' .char (vs.set i (.int x')) → Go Z EL K N Q X T' pc' Ls st) : Go Z EL K N Q X T pc Ls (.int x :: .int j :: .ref a :: st) := by
  have hc := W.cell (Or.inl (List.mem_of_getElem? hm))
  have W1 := W
  obtain ⟨w0, vm0, k0, locs, Y, hS, hk0, hZ, hown, hFr, H⟩ := W
  obtain ⟨T', h', Y', e', Wr', stp⟩ := stC Y w0.1 hZ rfl (A.arr hc) (arr_in' A hj hi hl) (g := mkF X.m pc Ls (.int x :: .int j :: .ref a :: st)) rfl rfl (by rw [w0.2.1]; exact hd)
  subst e' hp hi hx
  exact Go.by stp (r T' _ (W1.wrote hm hS hk0 hZ hown hFr H Y' Wr') (A.put (fits_nar_char x)))
theorem Go.bastore (W : Wk l Z EL R own bytes maxL ret nm X σ ρ T k n) (ix : Nat) (hm : σ[ix]? = some (a, c)) (A : ArrC Z c .byte vs) {j x : Int32} (i : Nat) (hj : ¬ j < 0) (hi : j.toNatClampNeg = i) (hl : i < vs.length) (hd : decode bytes pc = .ok (.bastore, 1)) (hp : pc + 1 = pc')
    (r : ∀ (T' : State) (c' : Cell), Wk l Z EL R own bytes maxL ret nm X (σ.set ix (a, c')) ρ T' k n → ArrC Z c' .byte (vs.set i (.int x.toInt8.toInt32)) → Go Z EL K N Q X T' pc' Ls st) : Go Z EL K N Q X T pc Ls (.int x :: .int j :: .ref a :: st) := by
  have hc := W.cell (Or.inl (List.mem_of_getElem? hm))
  have W1 := W
  obtain ⟨w0, vm0, k0, locs, Y, hS, hk0, hZ, hown, hFr, H⟩ := W
  obtain ⟨T', h', Y', e', Wr', stp⟩ := stB Y w0.1 hZ rfl (A.arr hc) (arr_in' A hj hi hl) (g := mkF X.m pc Ls (.int x :: .int j :: .ref a :: st)) rfl rfl (by rw [w0.2.1]; exact hd)
  subst e' hp hi
  exact Go.by stp (r T' _ (W1.wrote hm hS hk0 hZ hown hFr H Y' Wr') (A.put (fits_nar_byte x)))
theorem Go.aastore (W : Wk l Z EL R own bytes maxL ret nm X σ ρ T k n) (ix : Nat) (hm : σ[ix]? = some (a, c)) {ty : FieldType} (A : ArrC Z c ty vs) (hty : ty.isReference = true) {j : Int32} {v : Value} (i : Nat) (hj : ¬ j < 0) (hi : j.toNatClampNeg = i) (hl : i < vs.length) (hf : fits ty v = true) (F : Sto Z T.heap a v) (hd : decode bytes pc = .ok (.aastore, 1)) (hp : pc + 1 = pc')
    (r : ∀ (T' : State) (c' : Cell), Wk l Z EL R own bytes maxL ret nm X (σ.set ix (a, c')) ρ T' k n → ArrC Z c' ty (vs.set i v) → c'.cls = c.cls → Go Z EL K N Q X T' pc' Ls st) : Go Z EL K N Q X T pc Ls (v :: .int j :: .ref a :: st) := by
  have hc := W.cell (Or.inl (List.mem_of_getElem? hm))
  have W1 := W
  obtain ⟨w0, vm0, k0, locs, Y, hS, hk0, hZ, hown, hFr, H⟩ := W
  obtain ⟨T', h', Y', e', Wr', stp⟩ := stR Y w0.1 hZ rfl (A.arr hc) (arr_in' A hj hi hl) hty F (g := mkF X.m pc Ls (v :: .int j :: .ref a :: st)) rfl rfl (by rw [w0.2.1]; exact hd)
  subst e' hp hi
  exact Go.by stp (r T' _ (W1.wrote hm hS hk0 hZ hown hFr H Y' Wr') (A.put hf) rfl)
/-- a step that changes nothing of the heap -/
theorem Wk.same {vm0 : Vm} {k0 : Nat} {locs : List Loc} {T' : State} (W : Wk l Z EL R own bytes maxL ret nm X σ ρ T k n)
    (hS : X.s.Since vm0 k0) (hk0 : k0 ≤ T.heap.size) (hZ : Z.Warmed39 vm0) (hown : vm0.findClass own = some X.m.cls) (hFr : Fr Z.heap.size locs) (H : Hp Z EL X.so X.ro X.s σ ρ vm0 T.heap)
    (Y' : Stand X.p l X.e R (X.s.setVm vm0) X.m X.args X.below X.meth X.c T' locs k n) (e : T'.heap = T.heap) : Wk l Z EL R own bytes maxL ret nm X σ ρ T' k n :=
  ⟨W.1, vm0, k0, locs, Y', hS, by rw [e]; exact hk0, hZ, hown, hFr, by rw [e]; exact H⟩
theorem Go.getfield (W : Wk l Z EL R own bytes maxL ret nm X σ ρ T k n) (hm : (a, c) ∈ σ ∨ (a, c) ∈ ρ ∨ Z.heap[a]? = some c) {R0 O nF d : String} {ix : Nat} {v : Value} (w : (Jvm.Cond.fieldLink own ix R0 nF d).before a0 Z = true) (via : Via Z R0 O nF d) (F : FldC Z c O nF d v) (hd : decode bytes pc = .ok (.getfield ix, 3)) (hp : pc + 3 = pc')
    (r : ∀ T' : State, Wk l Z EL R own bytes maxL ret nm X σ ρ T' k n → Go Z EL K N Q X T' pc' Ls (v :: st)) : Go Z EL K N Q X T pc Ls (.ref a :: st) := by
  have hc := W.cell hm
  have W1 := W
  obtain ⟨w0, vm0, k0, locs, Y, hS, hk0, hZ, hown, hFr, H⟩ := W
  obtain ⟨T', Y', e', stp⟩ := getF Y w0.1 hZ hown (host := "") (Or.inl w) via rfl (F.fld hc) (g := mkF X.m pc Ls (.ref a :: st)) rfl rfl (by rw [w0.2.1]; exact hd)
  subst hp
  exact Go.by stp (r T' (W1.same hS hk0 hZ hown hFr H Y' e'))
theorem Go.getstatic (W : Wk l Z EL R own bytes maxL ret nm X σ ρ T k n) {R0 O nF d : String} {ix : Nat} {v : Value} (w : (Jvm.Cond.fieldLink own ix R0 nF d).before a0 Z = true) (via : Via Z R0 O nF d) (F : Sta Z Z.heap O nF d v) (hd : decode bytes pc = .ok (.getstatic ix, 3)) (hp : pc + 3 = pc')
    (r : ∀ T' : State, Wk l Z EL R own bytes maxL ret nm X σ ρ T' k n → Go Z EL K N Q X T' pc' Ls (v :: st)) : Go Z EL K N Q X T pc Ls st := by
  have hE := W.ext
  have W1 := W
  obtain ⟨w0, vm0, k0, locs, Y, hS, hk0, hZ, hown, hFr, H⟩ := W
  obtain ⟨T', Y', e', stp⟩ := getS Y w0.1 hZ (host := "") hown w via rfl (F.ext hE) (g := mkF X.m pc Ls st) rfl (by rw [w0.2.1]; exact hd)
  subst hp
  exact Go.by stp (r T' (W1.same hS hk0 hZ hown hFr H Y' e'))
theorem Go.putfield (W : Wk l Z EL R own bytes maxL ret nm X σ ρ T k n) (i : Nat) (hm : σ[i]? = some (a, c)) {R0 O nF d C : String} {ix kk : Nat} {ty : FieldType} {v v' old : Value} (w : (Jvm.Cond.fieldLink own ix R0 nF d).before a0 Z = true) (via : Via Z R0 O nF d) (F : FldC Z c O nF d old) (E : ObjC Z c C)
    (L : (Jvm.Cond.lays C O nF d).before a0 Z = true ∨ ((Jvm.Cond.laysFinal C O nF d).before a0 Z = true ∧ own = O ∧ nm = "<init>")) (wi : (Jvm.Cond.instantiable C kk).before a0 Z = true) (hty : parseFieldDescriptor d = some ty) (hn : narrow ty v = v') (hf : fits ty v' = true)
    (hd : decode bytes pc = .ok (.putfield ix, 3)) (hp : pc + 3 = pc')
    (r : ∀ (T' : State) (c' : Cell), c' = c.setSlot (Jvm.RoadKit.slotOf Z O nF d) v' → Wk l Z EL R own bytes maxL ret nm X (σ.set i (a, c')) ρ T' k n → Go Z EL K N Q X T' pc' Ls st) : Go Z EL K N Q X T pc Ls (v :: .ref a :: st) := by
  have hc := W.cell (Or.inl (List.mem_of_getElem? hm))
  have W1 := W
  obtain ⟨w0, vm0, k0, locs, Y, hS, hk0, hZ, hown, hFr, H⟩ := W
  obtain ⟨T', h', Y', e', Wr', stp⟩ := putFN Y w0.1 hZ hown w via rfl (F.fld hc) (E.exa hc) (L.imp id fun q => ⟨q.1, q.2.1, by rw [w0.2.2.2.2.2.1]; exact q.2.2⟩) wi hty hn hf (g := mkF X.m pc Ls (v :: .ref a :: st)) rfl rfl (by rw [w0.2.1]; exact hd)
  subst e' hp
  exact Go.by stp (r T' _ rfl (W1.wrote hm hS hk0 hZ hown hFr H Y' Wr'))
theorem Go.objInit (W : Wk l Z EL R own bytes maxL ret nm X σ ρ T k n) {ix : Nat} (w1 : (Jvm.Cond.methodLink own ix Lib.objectInit).before a0 Z = true) (w2 : (Jvm.Cond.instanceMethod Lib.objectInit).before a0 Z = true) (w3 : (Jvm.Cond.code Lib.objectInit ⟨#[0xb1]⟩ 1 none).before a0 Z = true) (hLs : Ls.size = maxL)
    (hd : decode bytes pc = .ok (.invokespecial ix, 3)) (hp : pc + 3 = pc') (hf : 1 ≤ R.frames) (hl : (st.map fun v => v.category).sum + 12 ≤ R.locals)
    (r : ∀ T' : State, Wk l Z EL R own bytes maxL ret nm X σ ρ T' k n → Go Z EL K N Q X T' pc' Ls st) : Go Z EL K N Q X T pc Ls (.ref a :: st) := by
  have W1 := W
  obtain ⟨w0, vm0, k0, locs, Y, hS, hk0, hZ, hown, hFr, H⟩ := W
  obtain ⟨T', Y', e', stp⟩ := initO Y w0.1 hZ hown w1 w2 w3 rfl (g := mkF X.m pc Ls (.ref a :: st)) rfl (by show Ls.size = _; rw [hLs, w0.2.2.1]) rfl (by rw [w0.2.1]; exact hd) hf (W := (st.map fun v => v.category).sum) (by show 2 * 0 + _ ≤ _; omega) hl
  subst hp
  exact Go.by stp (r T' (W1.same hS hk0 hZ hown hFr H Y' e'))
theorem Go.ldcInt (W : Wk l Z EL R own bytes maxL ret nm X σ ρ T k n) {ix : Nat} {v : Int32} (w : (Jvm.Cond.constant own ix v).before a0 Z = true) (hd : decode bytes pc = .ok (.ldc ix, 2)) (hp : pc + 2 = pc') (r : Go Z EL K N Q X T pc' Ls (.int v :: st)) : Go Z EL K N Q X T pc Ls st := by
  obtain ⟨w0, vm0, k0, locs, Y, hS, hk0, hZ, hown, hFr, H⟩ := W
  exact Go.by (fun t kk => Y.ldcI w0.1 hown (mvT hZ w) (g := mkF X.m pc Ls st) rfl (by rw [w0.2.1]; exact hd) (by subst hp; exact kk)) r
theorem Go.ldcwInt (W : Wk l Z EL R own bytes maxL ret nm X σ ρ T k n) {ix : Nat} {v : Int32} (w : (Jvm.Cond.constant own ix v).before a0 Z = true) (hd : decode bytes pc = .ok (.ldc_w ix, 3)) (hp : pc + 3 = pc') (r : Go Z EL K N Q X T pc' Ls (.int v :: st)) : Go Z EL K N Q X T pc Ls st := by
  obtain ⟨w0, vm0, k0, locs, Y, hS, hk0, hZ, hown, hFr, H⟩ := W
  exact Go.by (fun t kk => Y.ldcWI w0.1 hown (mvT hZ w) (g := mkF X.m pc Ls st) rfl (by rw [w0.2.1]; exact hd) (by subst hp; exact kk)) r
theorem Go.ldc2 (W : Wk l Z EL R own bytes maxL ret nm X σ ρ T k n) {ix : Nat} {v : Int64} (w : (Jvm.Cond.constantLong own ix v).before a0 Z = true) (hd : decode bytes pc = .ok (.ldc2_w ix, 3)) (hp : pc + 3 = pc') (r : Go Z EL K N Q X T pc' Ls (.long v :: st)) : Go Z EL K N Q X T pc Ls st := by
  obtain ⟨w0, vm0, k0, locs, Y, hS, hk0, hZ, hown, hFr, H⟩ := W
  exact Go.by (fun t kk => Y.ldc2J w0.1 hown (mvT hZ w) (g := mkF X.m pc Ls st) rfl (by rw [w0.2.1]; exact hd) (by subst hp; exact kk)) r
/-- a literal that may be made: what it holds -/
theorem Go.ldcStr (W : Wk l Z EL R own bytes maxL ret nm X σ ρ T k n) (hEL : EW Z a0 EL) {text : String} {ix : Nat} (w : (Jvm.Cond.stringLink own ix text).before a0 Z = true) (wS : ∀ d ∈ Bundle.stringAtoms, d.before a0 Z = true) (hmem : (own, ix) ∈ EL)
    {bs : List Value} {z : Int32} (ht : (∀ c ∈ text.toList, c.toNat < 256) ∧ text.toList.map (fun c => Value.int (Jvm.Lit.byteI c.toNat.toUInt16)) = bs) (hz : ¬ z < 0) (hl : z.toNatClampNeg = bs.length) (hbl : bs.length < 2147483648)
    (hd : decode bytes pc = .ok (.ldc ix, 2)) (hp : pc + 2 = pc') {m : Nat} (hm : 4 * text.toList.length ≤ m) (hbig : m ≤ 536870912) (hk : k + 2 ≤ R.cells) (hn : n + (m + 4) ≤ R.slots)
    (r : ∀ (T' : State) (a b : Addr) (c cb : Cell), Wk l Z EL R own bytes maxL ret nm X σ ((a, c) :: (b, cb) :: ρ) T' (k + 2) (n + (m + 4)) → ObjC Z c "java/lang/String" → FldC Z c "java/lang/String" "coder" "B" (.int 0) → FldC Z c "java/lang/String" "value" "[B" (.ref b) → ArrC Z cb .byte bs → Go Z EL K N Q X T' pc' Ls (.ref a :: st)) :
    Go Z EL K N Q X T pc Ls st := by
  obtain ⟨w0, vm0, k0, locs, Y, hS, hk0, hZ, hown, hFr, H⟩ := W
  obtain ⟨a, T', h', k1, b, kc, Y', e', E, hS', hk1, hZ', hown', A1, F1, F2, V1, la, lb, C, -, hne, stp⟩ := ldcCH Y w0.1 hZ hown w wS rfl hS hk0 hEL hmem H.1.1 ht hz hl (g := mkF X.m pc Ls st) rfl (by rw [w0.2.1]; exact hd) hm hbig hk hn
  subst e' hp
  obtain ⟨cb, Ab, -, sz, -, hh, hfit⟩ := V1
  have hcb : T'.heap[b]? = some cb := Ab.1
  obtain ⟨c, hc⟩ : ∃ c, T'.heap[a]? = some c := by obtain ⟨c, _, q, -⟩ := A1; exact ⟨c, q⟩
  have H2 := ((H.later C E).lit hcb fun x q => (hne x q).2).lit hc fun x q => (hne x q).1
  have hlen : cb.slots.size = bs.length := by rw [sz, hl]
  have hsl : cb.slots.toList = bs := by
    apply List.ext_getElem?
    intro i
    by_cases q : i < bs.length
    · have := hh i (by omega)
      rw [Array.getElem?_toList, this, List.getD_eq_getElem?_getD, List.getElem?_eq_getElem q]; rfl
    · rw [Array.getElem?_toList, Array.getElem?_eq_none (by omega), List.getElem?_eq_none (by omega)]
  refine Go.by stp (r T' a b c cb ⟨w0, T'.vm, k1, locs, Y', hS', hk1, hZ', hown', hFr, H2⟩ (ObjC.of A1 hc) (FldC.of F1 hc) (FldC.of F2 hc) ⟨Ab.2.1, Ab.2.2, hsl, fun v hv => ?_, hbl⟩)
  obtain ⟨i, hi⟩ := List.mem_iff_getElem?.mp hv
  have hlt := (List.getElem?_eq_some_iff.mp hi).1
  have q := hfit i (by omega)
  rw [List.getD_eq_getElem?_getD, hi] at q
  exact q
end HeapLaws
/-! ## own: calls and returns in the Go form -/
section CallLaws
variable {l : Launch} {Z : State} {a0 : Array Value} {EL : List (String × Nat)} {R : Room} {own : String} {bytes : ByteArray} {maxL : Nat} {ret : Option FieldType} {nm : String} {X : Ctx} {σ ρ : HL} {T : State} {k n K N : Nat} {Q Q' : Option Value → HL → HL → Prop} {pc pc' : Nat} {Ls : Array Slot} {st rest : List Value} {a : Addr} {c : Cell}
  {y y' : MethodName} {by' : ByteArray} {mL : Nat} {rt : Option FieldType} {rm : Room} {as' : Array Value} {σi σf ρi : HL}
/-- the point behind a call -/
theorem Wk.called (W : Wk l Z EL R own bytes maxL ret nm X σ ρ T k n) {vm0 : Vm} {k0 : Nat} {locs L : List Loc} (hS : X.s.Since vm0 k0) (hk0 : k0 ≤ T.heap.size) (hZ : Z.Warmed39 vm0) (hown : vm0.findClass own = some X.m.cls) (hFr : Fr Z.heap.size locs) (B : Pt) {σ' ρ' : HL}
    (Y' : Stand X.p l X.e R ((X.s.setVm vm0).setVm B.U.vm) X.m X.args X.below X.meth X.c B.U B.locs B.cells B.slots) (hS2 : (X.s.setVm vm0).Since B.U.vm B.U.heap.size) (g : T.heap.size ≤ B.U.heap.size) (hL : Fr Z.heap.size L) (H : Hp Z EL X.so X.ro X.s σ' ρ' B.U.vm B.U.heap)
    (e1 : B.locs = locs ++ L) (e2 : B.cells = k + rm.cells) (e3 : B.slots = n + rm.slots) : Wk l Z EL R own bytes maxL ret nm X σ' ρ' B.U (k + rm.cells) (n + rm.slots) := by
  obtain ⟨U, Lo, c1, s1⟩ := B
  dsimp only [Pt.U, Pt.locs, Pt.cells, Pt.slots] at *
  subst e1 e2 e3
  exact ⟨W.1, U.vm, U.heap.size, _, Y', hS.trans hS2 (Nat.le_trans hk0 g), Nat.le_refl _, State.Warmed39.trans (t := X.s.setVm vm0) hZ hS2.1, by rw [hS2.1.alike.findClass]; exact hown, hFr.app hL, H⟩
theorem Go.static (W : Wk l Z EL R own bytes maxL ret nm X σ ρ T k n) {ix : Nat} (M : Met l Z EL y by' mL rt rm as' σi ρi Q') (w1 : (Jvm.Cond.methodLink own ix y).before a0 Z = true) (w2 : (Jvm.Cond.static y).before a0 Z = true) (w3 : (Jvm.Cond.initialized y.cls).before a0 Z = true) (w4 : (Jvm.Cond.code y by' mL rt).before a0 Z = true)
    (hy : y.cls ≠ "java/lang/invoke/MethodHandle" ∧ y.cls ≠ "java/lang/invoke/VarHandle") (is js : List Nat) (hσ : pick is σ = some (σi, σf)) (hρ : roOf js ρ ρi) (argsL : List Value) (rest : List Value) (has : argsL.toArray = as') (hlen : ∀ sig, parseMethodDescriptor y.desc = some sig → argsL.length = sig.parameters.length) (hst : st = argsL.reverse ++ rest)
    (hLs : Ls.size = maxL) (hd : decode bytes pc = .ok (.invokestatic ix, 3)) (hp : pc + 3 = pc') (hf : rm.frames + 1 ≤ R.frames) (hl : (rest.map fun v => v.category).sum + (mL + 11) + rm.locals ≤ R.locals) (hk : k + rm.cells ≤ R.cells) (hn : n + rm.slots ≤ R.slots)
    (r : ∀ (v : Option Value) (σ' ρ' : HL) (T' : State), Q' v σ' ρ' → Wk l Z EL R own bytes maxL ret nm X (σ' ++ σf) (ρ' ++ ρ) T' (k + rm.cells) (n + rm.slots) → Go Z EL K N Q X T' pc' Ls (v.toList ++ rest)) : Go Z EL K N Q X T pc Ls st := by
  have W1 := W
  obtain ⟨w0, vm0, k0, locs, Y, hS, hk0, hZ, hown, hFr, H⟩ := W
  obtain ⟨ae, hEL⟩ := w0.2.2.2.2.2.2
  subst has hst
  have B1 := M.back (R := R) (p := X.p) (e := X.e) (below := X.below) (args := X.args) (len := 3) (W := (rest.map fun v => v.category).sum) hZ w4 w3 hf hl hEL (H.perm (pick_perm _ _ _ _ hσ)) hρ.mem
  obtain ⟨v, vm1, B, -, Y', hS2, g, ⟨σ', ρ', L, q, hL, H', e1, e2, e3⟩, stp⟩ := callSS Y w0.1 hown (mvT hZ w1) (mvT hZ w2) (mvT hZ w3) (mvT hZ w4) hy B1 (g := mkF X.m pc Ls (argsL.reverse ++ rest)) rfl (by show Ls.size = _; rw [hLs, w0.2.2.1]) (argsL := argsL) (rest := rest) hlen rfl (by show 2 * 0 + _ ≤ _; omega) (by rw [w0.2.1]; exact hd) (fun _ _ => ⟨rfl, rfl, hk, hn⟩)
  subst hp
  exact Go.by (fun t kk => stp.trans kk) (r v σ' ρ' B.U q (W1.called hS hk0 hZ hown hFr B Y' hS2 g hL H' e1 e2 e3))
theorem Go.special (W : Wk l Z EL R own bytes maxL ret nm X σ ρ T k n) {ix : Nat} (M : Met l Z EL y by' mL none rm as' σi ρi Q') (hy1 : y.name = "<init>") (w1 : (Jvm.Cond.methodLink own ix y).before a0 Z = true) (w2 : (Jvm.Cond.instanceMethod y).before a0 Z = true) (w3 : (Jvm.Cond.initialized y.cls).before a0 Z = true) (w4 : (Jvm.Cond.code y by' mL none).before a0 Z = true)
    (hy : y.cls ≠ "java/lang/invoke/MethodHandle" ∧ y.cls ≠ "java/lang/invoke/VarHandle") (is js : List Nat) (hσ : pick is σ = some (σi, σf)) (hρ : roOf js ρ ρi) (argsL : List Value) (rest : List Value) (has : (.ref a :: argsL).toArray = as') (hlen : ∀ sig, parseMethodDescriptor y.desc = some sig → argsL.length = sig.parameters.length) (hst : st = argsL.reverse ++ .ref a :: rest)
    (hLs : Ls.size = maxL) (hd : decode bytes pc = .ok (.invokespecial ix, 3)) (hp : pc + 3 = pc') (hf : rm.frames + 1 ≤ R.frames) (hl : (rest.map fun v => v.category).sum + (mL + 11) + rm.locals ≤ R.locals) (hk : k + rm.cells ≤ R.cells) (hn : n + rm.slots ≤ R.slots)
    (r : ∀ (v : Option Value) (σ' ρ' : HL) (T' : State), Q' v σ' ρ' → Wk l Z EL R own bytes maxL ret nm X (σ' ++ σf) (ρ' ++ ρ) T' (k + rm.cells) (n + rm.slots) → Go Z EL K N Q X T' pc' Ls (v.toList ++ rest)) : Go Z EL K N Q X T pc Ls st := by
  have W1 := W
  obtain ⟨w0, vm0, k0, locs, Y, hS, hk0, hZ, hown, hFr, H⟩ := W
  obtain ⟨ae, hEL⟩ := w0.2.2.2.2.2.2
  subst has hst
  have B1 := M.back (R := R) (p := X.p) (e := X.e) (below := X.below) (args := X.args) (len := 3) (W := (rest.map fun v => v.category).sum) hZ w4 w3 hf hl hEL (H.perm (pick_perm _ _ _ _ hσ)) hρ.mem
  obtain ⟨v, vm1, B, -, Y', hS2, g, ⟨σ', ρ', L, q, hL, H', e1, e2, e3⟩, stp⟩ := Y.specialBackS w0.1 hy1 hown (mvT hZ w1) (mvT hZ w2) (mvT hZ w4) hy B1 (g := mkF X.m pc Ls (argsL.reverse ++ .ref a :: rest)) rfl (by show Ls.size = _; rw [hLs, w0.2.2.1]) (Steps.refl _) (a := a) (argsL := argsL) (rest := rest) hlen rfl (by show 2 * 0 + _ ≤ _; omega) (by rw [w0.2.1]; exact hd) (fun _ _ => ⟨rfl, rfl, hk, hn⟩)
  subst hp
  exact Go.by (fun t kk => stp.trans kk) (r v σ' ρ' B.U q (W1.called hS hk0 hZ hown hFr B Y' hS2 g hL H' e1 e2 e3))
theorem Go.virtual (W : Wk l Z EL R own bytes maxL ret nm X σ ρ T k n) {ix : Nat} {C : String} (M : Met l Z EL y by' mL rt rm as' σi ρi Q') (hm : (a, c) ∈ σ ∨ (a, c) ∈ ρ ∨ Z.heap[a]? = some c) (O : ObjC Z c C) (w1 : (Jvm.Cond.methodLink own ix y).before a0 Z = true) (wd : (Jvm.Cond.declares y).before a0 Z = true) (ws : (Jvm.Cond.selects C y y).before a0 Z = true) (w2 : (Jvm.Cond.instanceMethod y).before a0 Z = true) (w3 : (Jvm.Cond.initialized y.cls).before a0 Z = true) (w4 : (Jvm.Cond.code y by' mL rt).before a0 Z = true)
    (hy : y.cls ≠ "java/lang/invoke/MethodHandle" ∧ y.cls ≠ "java/lang/invoke/VarHandle") (is js : List Nat) (hσ : pick is σ = some (σi, σf)) (hρ : roOf js ρ ρi) (argsL : List Value) (rest : List Value) (has : (.ref a :: argsL).toArray = as') (hlen : ∀ sig, parseMethodDescriptor y.desc = some sig → argsL.length = sig.parameters.length) (hst : st = argsL.reverse ++ .ref a :: rest)
    (hLs : Ls.size = maxL) (hd : decode bytes pc = .ok (.invokevirtual ix, 3)) (hp : pc + 3 = pc') (hf : rm.frames + 1 ≤ R.frames) (hl : (rest.map fun v => v.category).sum + (mL + 11) + rm.locals ≤ R.locals) (hk : k + rm.cells ≤ R.cells) (hn : n + rm.slots ≤ R.slots)
    (r : ∀ (v : Option Value) (σ' ρ' : HL) (T' : State), Q' v σ' ρ' → Wk l Z EL R own bytes maxL ret nm X (σ' ++ σf) (ρ' ++ ρ) T' (k + rm.cells) (n + rm.slots) → Go Z EL K N Q X T' pc' Ls (v.toList ++ rest)) : Go Z EL K N Q X T pc Ls st := by
  have W1 := W
  have hc := W.cell hm
  obtain ⟨w0, vm0, k0, locs, Y, hS, hk0, hZ, hown, hFr, H⟩ := W
  obtain ⟨ae, hEL⟩ := w0.2.2.2.2.2.2
  subst has hst
  have B1 := M.back (R := R) (p := X.p) (e := X.e) (below := X.below) (args := X.args) (len := 3) (W := (rest.map fun v => v.category).sum) hZ w4 w3 hf hl hEL (H.perm (pick_perm _ _ _ _ hσ)) hρ.mem
  obtain ⟨cq, kq, qa, qb, qc⟩ := isOf (s := X.s.setVm vm0) hZ rfl (O.exa hc)
  obtain ⟨v, vm1, B, -, Y', hS2, g, ⟨σ', ρ', L, q, hL, H', e1, e2, e3⟩, stp⟩ := Y.virtualBackS w0.1 hown (mvT hZ w1) (mvT hZ wd) (notFace_of_selects (args := #[]) (mvT hZ ws)) (mvT hZ ws) (mvT hZ w2) hy B1 qa qc (g := mkF X.m pc Ls (argsL.reverse ++ .ref a :: rest)) rfl (by show Ls.size = _; rw [hLs, w0.2.2.1]) (Steps.refl _) (argsL := argsL) (rest := rest) hlen rfl (by show 2 * 0 + _ ≤ _; omega) (by rw [w0.2.1]; exact hd) (fun _ _ => ⟨rfl, rfl, hk, hn⟩)
  subst hp
  exact Go.by (fun t kk => stp.trans kk) (r v σ' ρ' B.U q (W1.called hS hk0 hZ hown hFr B Y' hS2 g hL H' e1 e2 e3))
/-! returns -/
theorem Go.leave (W : Wk l Z EL R own bytes maxL ret nm X σ ρ T k n) (v : Option Value) (hv : ret = none → v = none) (hk : k ≤ K) (hn : n ≤ N) (q : Q v σ ρ)
    (hstep : ∀ (fs : List Frame) (vm0 : Vm) (locs : List Loc), Stand X.p l X.e R (X.s.setVm vm0) X.m X.args X.below X.meth X.c T locs K N → (∀ (f : JFrame) (acts : List Action), f.method = X.m → f.locked = none → f.entered = [] → (doReturn X.e (T.setTop f) acts v).1 = T.setFrames fs) → Steps X.p.tables X.e X.below (T.setTop (mkF X.m pc Ls st)) (T.setFrames fs)) :
    Go Z EL K N Q X T pc Ls st := by
  obtain ⟨w0, vm0, k0, locs, Y, hS, hk0, hZ, hown, hFr, H⟩ := W
  obtain ⟨ae, hEL⟩ := w0.2.2.2.2.2.2
  have Y2 := Y.more hk hn
  obtain ⟨fs, h1, h2, h3, h4⟩ := Y2.leaveW hS hk0 (v := v) (fun h => hv (by rw [← w0.2.2.2.1]; exact h)) w0.2.2.2.2.1
  have H2 : Hp Z EL X.so X.ro X.s σ ρ T.vm T.heap := H.later (CHv.at Y hZ hEL H.1.1) ⟨Nat.le_refl _, fun _ _ z => z⟩
  exact ⟨T.setFrames fs, _, hstep fs vm0 locs Y2 h1, h2, h3, v, σ, ρ, locs, rfl, q, hFr, H2, h4⟩
theorem Go.retV (W : Wk l Z EL R own bytes maxL none nm X σ ρ T k n) (hd : decode bytes pc = .ok (.return_, 1)) (hk : k ≤ K) (hn : n ≤ N) (q : Q none σ ρ) : Go Z EL K N Q X T pc Ls [] := by
  refine Go.leave W none (fun _ => rfl) hk hn q fun fs vm0 locs Y h => ?_
  exact Y.returnOut W.hx W.1.2.2.2.1 (W.hb hd) h
theorem Go.iret (W : Wk l Z EL R own bytes maxL (some .int) nm X σ ρ T k n) {z : Int32} (hd : decode bytes pc = .ok (.ireturn, 1)) (hk : k ≤ K) (hn : n ≤ N) (q : Q (some (.int z)) σ ρ) : Go Z EL K N Q X T pc Ls (.int z :: st) := by
  refine Go.leave W (some (.int z)) (fun h => nomatch h) hk hn q fun fs vm0 locs Y h => ?_
  exact retOut Y W.hx W.1.2.2.2.1 rfl (Or.inl ⟨rfl, Or.inl rfl, z, rfl⟩) (W.hb hd) h
theorem Go.nret (W : Wk l Z EL R own bytes maxL (some t) nm X σ ρ T k n) {z z' : Int32} (ht : t = .boolean ∨ t = .byte ∨ t = .char ∨ t = .short) (hz : nar t z = z') (hd : decode bytes pc = .ok (.ireturn, 1)) (hk : k ≤ K) (hn : n ≤ N) (q : Q (some (.int z')) σ ρ) : Go Z EL K N Q X T pc Ls (.int z :: st) := by
  subst hz
  refine Go.leave W (some (.int (nar t z))) (fun h => nomatch h) hk hn q fun fs vm0 locs Y h => ?_
  exact retN Y W.hx W.1.2.2.2.1 ht (W.hb hd) h
theorem Go.lret (W : Wk l Z EL R own bytes maxL (some .long) nm X σ ρ T k n) {z : Int64} (hd : decode bytes pc = .ok (.lreturn, 1)) (hk : k ≤ K) (hn : n ≤ N) (q : Q (some (.long z)) σ ρ) : Go Z EL K N Q X T pc Ls (.long z :: st) := by
  refine Go.leave W (some (.long z)) (fun h => nomatch h) hk hn q fun fs vm0 locs Y h => ?_
  exact retOut Y W.hx W.1.2.2.2.1 rfl (Or.inr (Or.inl ⟨rfl, rfl, z, rfl⟩)) (W.hb hd) h
theorem narrow_ref {t : FieldType} (ht : t.isReference = true) (w : Value) : narrow t w = w := by cases t <;> first | (cases ht; done) | rfl
theorem Go.aret (W : Wk l Z EL R own bytes maxL (some t) nm X σ ρ T k n) {w : Value} (hw : w.isRef = true) (ht : t.isReference = true) (hd : decode bytes pc = .ok (.areturn, 1)) (hk : k ≤ K) (hn : n ≤ N) (q : Q (some w) σ ρ) : Go Z EL K N Q X T pc Ls (w :: st) := by
  refine Go.leave W (some w) (fun h => nomatch h) hk hn q fun fs vm0 locs Y h => ?_
  exact retOut Y W.hx W.1.2.2.2.1 (narrow_ref ht w) (Or.inr (Or.inr (Or.inr (Or.inr ⟨rfl, ht, hw⟩)))) (W.hb hd) h
end CallLaws
/-! ## own: numbers and lists for the loops over arrays -/
theorem i32_toInt {i : Nat} (hi : i < 2147483648) : i.toInt32.toInt = (i : Int) := by
  rw [show i.toInt32 = Int32.ofNat i from rfl, Int32.toInt_ofNat_of_lt (by omega)]
theorem i32_lt {i n : Nat} (hi : i < 2147483648) (hn : n < 2147483648) : i.toInt32 < n.toInt32 ↔ i < n := by
  rw [Int32.lt_iff_toInt_lt, i32_toInt hi, i32_toInt hn]; omega
theorem i32_nn {i : Nat} (hi : i < 2147483648) : ¬ i.toInt32 < 0 := by
  rw [Int32.lt_iff_toInt_lt, i32_toInt hi]
  have : (0 : Int32).toInt = 0 := by decide
  omega
theorem i32_clamp {i : Nat} (hi : i < 2147483648) : i.toInt32.toNatClampNeg = i := by
  have h := nat_of (i32_nn hi)
  rw [i32_toInt hi] at h
  omega
theorem i32_succ {i : Nat} (hi : i + 1 < 2147483648) : i.toInt32 + 1 = (i + 1).toInt32 := by
  apply Int32.toInt_inj.mp
  have h := c_iadd i.toInt32 1
  rw [i32_toInt (by omega)] at h
  rw [i32_toInt hi]
  have h1 : (1 : Int32).toInt = 1 := by decide
  rw [h1] at h
  have r := rng32 (i.toInt32 + 1)
  omega
theorem i32_inj {i n : Nat} (hi : i < 2147483648) (hn : n < 2147483648) : i.toInt32 = n.toInt32 ↔ i = n := by
  constructor
  · intro h
    have := congrArg Int32.toInt h
    rw [i32_toInt hi, i32_toInt hn] at this
    omega
  · intro h; rw [h]
/-- a char's low byte, as a byte[] holds it -/
abbrev lo8 (x : Int32) : Value := .int x.toInt8.toInt32
abbrev latB (cs : List Int32) : List Value := cs.map lo8
abbrev chV (cs : List Int32) : List Value := cs.map Value.int
/-- each is a Latin-1 char -/
def Lat (cs : List Int32) : Prop := ∀ x ∈ cs, ¬ x < 0 ∧ ¬ (255 : Int32) < x
theorem Lat.nil : Lat [] := fun _ h => nomatch h
theorem Lat.cons {x : Int32} {cs : List Int32} (h : ¬ x < 0 ∧ ¬ (255 : Int32) < x) (r : Lat cs) : Lat (x :: cs) := fun y hy => by
  rcases List.mem_cons.mp hy with rfl | hy
  · exact h
  · exact r y hy
/-- a Latin-1 String's two cells -/
def StrL (Z : State) (c : Cell) (b : Addr) (cb : Cell) (cs : List Int32) : Prop :=
  ObjC Z c "java/lang/String" ∧ FldC Z c "java/lang/String" "coder" "B" (.int 0) ∧ FldC Z c "java/lang/String" "value" "[B" (.ref b) ∧ ArrC Z cb .byte (latB cs) ∧ Lat cs
theorem take_succ' {α : Type} {l : List α} {i : Nat} {x : α} (h : l[i]? = some x) : l.take (i + 1) = l.take i ++ [x] := by
  rw [List.take_add_one, h]; rfl
theorem set_next {cs : List Int32} {i j : Nat} {x : Int32} (hx : cs[i]? = some x) : (latB (cs.take i) ++ List.replicate (j + 1) (.int 0 : Value)).set i (lo8 x) = latB (cs.take (i + 1)) ++ List.replicate j (.int 0) := by
  have hi : i < cs.length := (List.getElem?_eq_some_iff.mp hx).1
  have hl : (latB (cs.take i)).length = i := by simp; omega
  rw [List.set_append_right _ _ (by omega), hl, Nat.sub_self, List.replicate_succ, List.set_cons_zero, take_succ' hx]
  simp [latB]
theorem and255 (x : Int32) : ¬ (x &&& 255) < 0 ∧ ¬ (255 : Int32) < (x &&& 255) := by
  have h := c_and x 255 (by decide)
  have h0 : (0 : Int32).toInt = 0 := by decide
  have h1 : (255 : Int32).toInt = 255 := by decide
  rw [Int32.lt_iff_toInt_lt, Int32.lt_iff_toInt_lt, h0]
  rw [h1] at h ⊢
  omega
/-- a char stays a char -/
theorem i2c_id {x : Int32} (h0 : ¬ x < 0) (h1 : ¬ (65535 : Int32) < x) : x.toUInt32.toUInt16.toUInt32.toInt32 = x := by
  apply Int32.toInt_inj.mp
  have h := c_i2c x
  rw [Int32.lt_iff_toInt_lt] at h0 h1
  have e0 : (0 : Int32).toInt = 0 := by decide
  have e1 : (65535 : Int32).toInt = 65535 := by decide
  rw [e0] at h0
  rw [e1] at h1
  omega
theorem lat_char {x : Int32} (h : ¬ x < 0 ∧ ¬ (255 : Int32) < x) : ¬ x < 0 ∧ ¬ (65535 : Int32) < x := by
  obtain ⟨h0, h1⟩ := h
  refine ⟨h0, ?_⟩
  rw [Int32.lt_iff_toInt_lt] at h1 ⊢
  have e0 : (255 : Int32).toInt = 255 := by decide
  have e1 : (65535 : Int32).toInt = 65535 := by decide
  rw [e0] at h1
  rw [e1]
  omega
theorem nar_char_id {x : Int32} (h : ¬ x < 0 ∧ ¬ (65535 : Int32) < x) : nar .char x = x := i2c_id h.1 h.2
/-- a byte read back with & 255 -/
theorem byte_back {x : Int32} (h : ¬ x < 0 ∧ ¬ (255 : Int32) < x) : x.toInt8.toInt32 &&& 255 = x := by
  apply Int32.toInt_inj.mp
  rw [c_mask _ 255 8 (by decide) (by decide)]
  have hb := c_i2b x
  obtain ⟨h0, h1⟩ := h
  rw [Int32.lt_iff_toInt_lt] at h0 h1
  have e0 : (0 : Int32).toInt = 0 := by decide
  have e1 : (255 : Int32).toInt = 255 := by decide
  rw [e0] at h0
  rw [e1] at h1
  omega
theorem lo8_inj {x y : Int32} (hx : ¬ x < 0 ∧ ¬ (255 : Int32) < x) (hy : ¬ y < 0 ∧ ¬ (255 : Int32) < y) (h : x.toInt8.toInt32 = y.toInt8.toInt32) : x = y := by
  rw [← byte_back hx, ← byte_back hy, h]
theorem i8_i8 (x : Int32) : x.toInt8.toInt32.toInt8.toInt32 = x.toInt8.toInt32 := by
  apply Int32.toInt_inj.mp
  have h1 := c_i2b x
  have h2 := c_i2b x.toInt8.toInt32
  omega
theorem andchr (x m : Int32) (h0 : 0 ≤ m.toInt) (h1 : m.toInt ≤ 65535) : ¬ (x &&& m) < 0 ∧ ¬ (65535 : Int32) < (x &&& m) := by
  have h := c_and x m h0
  have e0 : (0 : Int32).toInt = 0 := by decide
  have e1 : (65535 : Int32).toInt = 65535 := by decide
  rw [Int32.lt_iff_toInt_lt, Int32.lt_iff_toInt_lt, e0, e1]
  omega
theorem ite10_z {P : Prop} [Decidable P] : ((if P then (1 : Int32) else 0) = 0) ↔ ¬ P := by by_cases h : P <;> simp [h]
theorem ite10_o {P : Prop} [Decidable P] : ((if P then (1 : Int32) else 0) = 1) ↔ P := by by_cases h : P <;> simp [h]
theorem ite01_z {P : Prop} [Decidable P] : ((if P then (0 : Int32) else 1) = 0) ↔ P := by by_cases h : P <;> simp [h]
theorem ite01_o {P : Prop} [Decidable P] : ((if P then (0 : Int32) else 1) = 1) ↔ ¬ P := by by_cases h : P <;> simp [h]
/-! ## own: casts and comparisons of references in the Go form -/
section RefLaws
variable {l : Launch} {Z : State} {a0 : Array Value} {EL : List (String × Nat)} {R : Room} {own : String} {bytes : ByteArray} {maxL : Nat} {ret : Option FieldType} {nm : String} {X : Ctx} {σ ρ : HL} {T : State} {k n K N : Nat} {Q : Option Value → HL → HL → Prop} {pc pc' : Nat} {Ls : Array Slot} {st : List Value} {a : Addr} {c : Cell}
theorem Go.instY (W : Wk l Z EL R own bytes maxL ret nm X σ ρ T k n) (hm : (a, c) ∈ σ ∨ (a, c) ∈ ρ ∨ Z.heap[a]? = some c) {C : String} {ix : Nat} (O : ObjC Z c C) (w : (Jvm.Cond.classLink own ix C).before a0 Z = true) (hd : decode bytes pc = .ok (.instanceof ix, 3)) (hp : pc + 3 = pc')
    (r : ∀ T' : State, Wk l Z EL R own bytes maxL ret nm X σ ρ T' k n → Go Z EL K N Q X T' pc' Ls (.int 1 :: st)) : Go Z EL K N Q X T pc Ls (.ref a :: st) := by
  have hc := W.cell hm
  have W1 := W
  obtain ⟨w0, vm0, k0, locs, Y, hS, hk0, hZ, hown, hFr, H⟩ := W
  obtain ⟨T', Y', e', stp⟩ := Jvm.RoadKit.instY Y w0.1 hZ hown w rfl (Ins.self (O.exa hc)) (g := mkF X.m pc Ls (.ref a :: st)) rfl rfl (by rw [w0.2.1]; exact hd)
  subst hp
  exact Go.by stp (r T' (W1.same hS hk0 hZ hown hFr H Y' e'))
theorem Go.castY (W : Wk l Z EL R own bytes maxL ret nm X σ ρ T k n) (hm : (a, c) ∈ σ ∨ (a, c) ∈ ρ ∨ Z.heap[a]? = some c) {C : String} {ix : Nat} (O : ObjC Z c C) (w : (Jvm.Cond.classLink own ix C).before a0 Z = true) (hd : decode bytes pc = .ok (.checkcast ix, 3)) (hp : pc + 3 = pc')
    (r : ∀ T' : State, Wk l Z EL R own bytes maxL ret nm X σ ρ T' k n → Go Z EL K N Q X T' pc' Ls (.ref a :: st)) : Go Z EL K N Q X T pc Ls (.ref a :: st) := by
  have hc := W.cell hm
  have W1 := W
  obtain ⟨w0, vm0, k0, locs, Y, hS, hk0, hZ, hown, hFr, H⟩ := W
  obtain ⟨T', Y', e', stp⟩ := Jvm.RoadKit.castY Y w0.1 hZ hown w rfl (Ins.self (O.exa hc)) (g := mkF X.m pc Ls (.ref a :: st)) rfl rfl (by rw [w0.2.1]; exact hd)
  subst hp
  exact Go.by stp (r T' (W1.same hS hk0 hZ hown hFr H Y' e'))
theorem Go.acmp_ne (W : Wk l Z EL R own bytes maxL ret nm X σ ρ T k n) {x y : Value} {o : Int} (pcY : Nat) (h1 : x.isRef = true) (h2 : y.isRef = true) (hd : decode bytes pc = .ok (.if_acmp .ne o, 3)) (hy : (pc : Int) + o = (pcY : Nat)) (hp : pc + 3 = pc')
    (rY : ¬ x = y → Go Z EL K N Q X T pcY Ls st) (rN : x = y → Go Z EL K N Q X T pc' Ls st) : Go Z EL K N Q X T pc Ls (y :: x :: st) := by
  obtain ⟨w0, vm0, k0, locs, Y, hS, hk0, hZ, hown, hFr, H⟩ := W
  by_cases q : x = y
  · exact Go.by (fun t kk => acmp Y w0.1 (g := mkF X.m pc Ls (y :: x :: st)) rfl h1 h2 (pc0 := pc) (pc' := pc') (same := true) rfl (by rw [w0.2.1]; exact hd) rfl (by simp [q]) (by omega) (by subst hp; rfl) kk) (rN q)
  · exact Go.by (fun t kk => acmp Y w0.1 (g := mkF X.m pc Ls (y :: x :: st)) rfl h1 h2 (pc0 := pc) (pc' := pcY) (same := false) rfl (by rw [w0.2.1]; exact hd) rfl (by simp [q]) (by omega) (by simp [acV]; omega) kk) (rY q)
theorem Go.acmp_eq (W : Wk l Z EL R own bytes maxL ret nm X σ ρ T k n) {x y : Value} {o : Int} (pcY : Nat) (h1 : x.isRef = true) (h2 : y.isRef = true) (hd : decode bytes pc = .ok (.if_acmp .eq o, 3)) (hy : (pc : Int) + o = (pcY : Nat)) (hp : pc + 3 = pc')
    (rY : x = y → Go Z EL K N Q X T pcY Ls st) (rN : ¬ x = y → Go Z EL K N Q X T pc' Ls st) : Go Z EL K N Q X T pc Ls (y :: x :: st) := by
  obtain ⟨w0, vm0, k0, locs, Y, hS, hk0, hZ, hown, hFr, H⟩ := W
  by_cases q : x = y
  · exact Go.by (fun t kk => acmp Y w0.1 (g := mkF X.m pc Ls (y :: x :: st)) rfl h1 h2 (pc0 := pc) (pc' := pcY) (same := true) rfl (by rw [w0.2.1]; exact hd) rfl (by simp [q]) (by omega) (by simp [acV]; omega) kk) (rY q)
  · exact Go.by (fun t kk => acmp Y w0.1 (g := mkF X.m pc Ls (y :: x :: st)) rfl h1 h2 (pc0 := pc) (pc' := pc') (same := false) rfl (by rw [w0.2.1]; exact hd) rfl (by simp [q]) (by omega) (by subst hp; rfl) kk) (rN q)
theorem Go.instNull (W : Wk l Z EL R own bytes maxL ret nm X σ ρ T k n) {ix : Nat} (hd : decode bytes pc = .ok (.instanceof ix, 3)) (hp : pc + 3 = pc') (r : Go Z EL K N Q X T pc' Ls (.int 0 :: st)) : Go Z EL K N Q X T pc Ls (.null :: st) := by
  obtain ⟨w0, vm0, k0, locs, Y, hS, hk0, hZ, hown, hFr, H⟩ := W
  exact Go.by (fun t kk => Y.instanceofNull w0.1 (g := mkF X.m pc Ls (.null :: st)) rfl rfl (by rw [w0.2.1]; exact hd) t (by subst hp; exact kk)) r
theorem Go.castNull (W : Wk l Z EL R own bytes maxL ret nm X σ ρ T k n) {ix : Nat} (hd : decode bytes pc = .ok (.checkcast ix, 3)) (hp : pc + 3 = pc') (r : Go Z EL K N Q X T pc' Ls (.null :: st)) : Go Z EL K N Q X T pc Ls (.null :: st) := by
  obtain ⟨w0, vm0, k0, locs, Y, hS, hk0, hZ, hown, hFr, H⟩ := W
  exact Go.by (fun t kk => Y.checkcastNull w0.1 (g := mkF X.m pc Ls (.null :: st)) rfl rfl (by rw [w0.2.1]; exact hd) t (by subst hp; exact kk)) r
end RefLaws
/-! ## own: two Strings at one address -/
theorem FldC.uniq {Z : State} {c : Cell} {C n d : String} {v w : Value} (F : FldC Z c C n d v) (F' : FldC Z c C n d w) : v = w := by
  obtain ⟨cf, k, i, f, h1, -, -, -, -, h6⟩ := F
  obtain ⟨cf', k', i', f', g1, -, -, -, -, g6⟩ := F'
  cases h1.symm.trans g1
  exact Option.some.inj (h6.symm.trans g6)
theorem latB_inj {cs ds : List Int32} (hc : Lat cs) (hd : Lat ds) (h : cs.map (fun x => x.toInt8.toInt32) = ds.map (fun x => x.toInt8.toInt32)) : cs = ds := by
  induction cs generalizing ds with
  | nil => cases ds with
    | nil => rfl
    | cons y ds => simp at h
  | cons x cs ih => cases ds with
    | nil => simp at h
    | cons y ds =>
      simp only [List.map_cons, List.cons.injEq] at h
      rw [lo8_inj (hc x (by simp)) (hd y (by simp)) h.1, ih (fun z hz => hc z (by simp [hz])) (fun z hz => hd z (by simp [hz])) h.2]
theorem latB_eq (cs : List Int32) : latB cs = chV (cs.map fun x => x.toInt8.toInt32) := by simp [latB, chV, lo8]
theorem chV_inj {xs ys : List Int32} (h : chV xs = chV ys) : xs = ys := by
  induction xs generalizing ys with
  | nil => cases ys with
    | nil => rfl
    | cons y ys => simp at h
  | cons x xs ih => cases ys with
    | nil => simp at h
    | cons y ys =>
      simp only [chV, List.map_cons, List.cons.injEq, Value.int.injEq] at h
      rw [h.1, ih h.2]
theorem StrL.uniq {Z : State} {h : Heap} {a b b' : Addr} {c c' cb cb' : Cell} {cs ds : List Int32} (S : StrL Z c b cb cs) (S' : StrL Z c' b' cb' ds) (h1 : h[a]? = some c) (h2 : h[a]? = some c') (h3 : h[b]? = some cb) (h4 : h[b']? = some cb') : cs = ds := by
  cases h1.symm.trans h2
  have e : b = b' := Value.ref.inj (S.2.2.1.uniq S'.2.2.1)
  subst e
  cases h3.symm.trans h4
  have q : latB cs = latB ds := S.2.2.2.1.2.2.1.symm.trans S'.2.2.2.1.2.2.1
  rw [latB_eq, latB_eq] at q
  exact latB_inj S.2.2.2.2 S'.2.2.2.2 (chV_inj q)

theorem len0 {Z : State} {cb : Cell} {cs : List Int32} (A : ArrC Z cb .byte (latB cs)) (h : cs.length.toInt32 = 0) : cs = [] := by
  have hn : cs.length < 2147483648 := by have := A.2.2.2.2; rwa [latB, List.length_map] at this
  have := (i32_inj hn (n := 0) (by decide)).mp h
  exact List.length_eq_zero_iff.mp this
theorem shr0 (x : Int32) : x >>> ((0 : Int32) &&& 31) = x := by
  apply Int32.toInt_inj.mp
  rw [c_ishr x 0 0 (by decide)]
  simp
/-! ## own: UTF-16 Strings -/
abbrev hi8 (x : Int32) : Value := .int (x >>> ((8 : Int32) &&& 31)).toInt8.toInt32
def utfB : List Int32 → List Value
  | [] => []
  | x :: r => lo8 x :: hi8 x :: utfB r
def Chr (cs : List Int32) : Prop := ∀ x ∈ cs, ¬ x < 0 ∧ ¬ (65535 : Int32) < x
theorem Chr.nil : Chr [] := fun _ h => nomatch h
theorem Chr.cons {x : Int32} {cs : List Int32} (h : ¬ x < 0 ∧ ¬ (65535 : Int32) < x) (r : Chr cs) : Chr (x :: cs) := fun y hy => by
  rcases List.mem_cons.mp hy with rfl | hy
  · exact h
  · exact r y hy
theorem Lat.chr {cs : List Int32} (h : Lat cs) : Chr cs := fun x hx => lat_char (h x hx)
theorem utfB_len : ∀ cs : List Int32, (utfB cs).length = 2 * cs.length
  | [] => rfl
  | x :: r => by simp only [utfB, List.length_cons, utfB_len r]; omega
theorem utfB_app : ∀ a b : List Int32, utfB (a ++ b) = utfB a ++ utfB b
  | [], b => rfl
  | x :: r, b => by simp only [utfB, List.cons_append, utfB_app r b]
theorem utfB_get : ∀ {cs : List Int32} {i : Nat} {x : Int32}, cs[i]? = some x → (utfB cs)[2 * i]? = some (lo8 x) ∧ (utfB cs)[2 * i + 1]? = some (hi8 x)
  | y :: r, 0, x, h => by simp at h; subst h; exact ⟨rfl, rfl⟩
  | y :: r, i + 1, x, h => by
    have h' : r[i]? = some x := by simpa using h
    have := utfB_get h'
    rw [show 2 * (i + 1) = 2 * i + 2 by omega, show 2 * i + 2 + 1 = (2 * i + 1) + 2 by omega]
    simpa [utfB] using this
theorem set2_next {cs : List Int32} {i j : Nat} {x : Int32} (hx : cs[i]? = some x) : ((utfB (cs.take i) ++ List.replicate (2 * (j + 1)) (.int 0 : Value)).set (2 * i) (lo8 x)).set (2 * i + 1) (hi8 x) = utfB (cs.take (i + 1)) ++ List.replicate (2 * j) (.int 0) := by
  have hi : i < cs.length := (List.getElem?_eq_some_iff.mp hx).1
  have hl : (utfB (cs.take i)).length = 2 * i := by rw [utfB_len, List.length_take]; omega
  rw [List.set_append_right _ _ (by omega), hl, Nat.sub_self, show 2 * (j + 1) = (2 * j + 1) + 1 by omega, List.replicate_succ, List.set_cons_zero, List.set_append_right _ _ (by omega), hl, show 2 * i + 1 - 2 * i = 0 + 1 by omega, List.set_cons_succ, List.replicate_succ, List.set_cons_zero, take_succ' hx, utfB_app]
  simp [utfB]
theorem shl1 {i : Nat} (hi : 2 * i < 2147483648) : i.toInt32 <<< ((1 : Int32) &&& 31) = (2 * i).toInt32 := by
  apply Int32.toInt_inj.mp
  have h := c_ishl i.toInt32 1 1 (by decide)
  rw [i32_toInt (by omega)] at h
  rw [i32_toInt hi]
  have r := rng32 (i.toInt32 <<< ((1 : Int32) &&& 31))
  simp only [Nat.reducePow] at h
  omega
theorem shr1 {i : Nat} (hi : 2 * i < 2147483648) : (2 * i).toInt32 >>> ((1 : Int32) &&& 31) = i.toInt32 := by
  apply Int32.toInt_inj.mp
  rw [c_ishr _ 1 1 (by decide), i32_toInt hi, i32_toInt (by omega)]
  simp only [Nat.reducePow]
  omega
theorem shl0 (x : Int32) : x <<< ((0 : Int32) &&& 31) = x := by
  apply Int32.toInt_inj.mp
  have h := c_ishl x 0 0 (by decide)
  have r := rng32 (x <<< ((0 : Int32) &&& 31))
  have r' := rng32 x
  simp only [Nat.reducePow] at h
  omega
/-- the two bytes of a char make the char -/
theorem getch {x : Int32} (hx : ¬ x < 0 ∧ ¬ (65535 : Int32) < x) : (((x.toInt8.toInt32 &&& 255) <<< ((0 : Int32) &&& 31)) ||| (((x >>> ((8 : Int32) &&& 31)).toInt8.toInt32 &&& 255) <<< ((8 : Int32) &&& 31))) = x := by
  rw [shl0]
  apply Int32.toInt_inj.mp
  obtain ⟨h0, h1⟩ := hx
  rw [Int32.lt_iff_toInt_lt] at h0 h1
  have e0 : (0 : Int32).toInt = 0 := by decide
  have e1 : (65535 : Int32).toInt = 65535 := by decide
  rw [e0] at h0
  rw [e1] at h1
  have ha := c_mask x.toInt8.toInt32 255 8 (by decide) (by decide)
  have hb := c_mask (x >>> ((8 : Int32) &&& 31)).toInt8.toInt32 255 8 (by decide) (by decide)
  have hba := c_i2b x
  have hbb := c_i2b (x >>> ((8 : Int32) &&& 31))
  have hs := c_ishr x 8 8 (by decide)
  simp only [Nat.reducePow] at ha hb hs
  have hl := c_ishl ((x >>> ((8 : Int32) &&& 31)).toInt8.toInt32 &&& 255) 8 8 (by decide)
  have rl := rng32 (((x >>> ((8 : Int32) &&& 31)).toInt8.toInt32 &&& 255) <<< ((8 : Int32) &&& 31))
  simp only [Nat.reducePow] at hl
  have ho := c_or' (x.toInt8.toInt32 &&& 255) (((x >>> ((8 : Int32) &&& 31)).toInt8.toInt32 &&& 255) <<< ((8 : Int32) &&& 31)) 8 (by decide) 256 (by decide) (by omega) (by omega) (by omega)
  have ro := rng32 ((x.toInt8.toInt32 &&& 255) ||| (((x >>> ((8 : Int32) &&& 31)).toInt8.toInt32 &&& 255) <<< ((8 : Int32) &&& 31)))
  omega
/-- a UTF-16 String's two cells -/
def StrU (Z : State) (c : Cell) (b : Addr) (cb : Cell) (cs : List Int32) : Prop :=
  ObjC Z c "java/lang/String" ∧ FldC Z c "java/lang/String" "coder" "B" (.int 1) ∧ FldC Z c "java/lang/String" "value" "[B" (.ref b) ∧ ArrC Z cb .byte (utfB cs) ∧ Chr cs
/-- a String's two cells, of either kind -/
def StrG (Z : State) (c : Cell) (b : Addr) (cb : Cell) (cs : List Int32) : Prop := StrL Z c b cb cs ∨ StrU Z c b cb cs
theorem eqI {args : Array Value} {s : State} {t : Term} {v : Int32} (h : (Jvm.Cond.eq t (Term.int v)).value args s none s [] = some true) : t.eval args s none [] s = some (.int v) := by
  obtain ⟨x, y, h1, h2, -, h4⟩ := cmp_v (Or.inl h)
  cases (Term.int_eval v).symm.trans h2
  obtain ⟨z, rfl⟩ := h4
  rw [Cond.value, h1, Term.int_eval] at h
  simp at h
  rw [h1, h]
/-- where the first sign above 255 stands, if there is one -/
def Upto (cs : List Int32) (k : Nat) : Prop := (k = cs.length ∧ Lat cs) ∨ (k < cs.length ∧ ∃ x, cs[k]? = some x ∧ (255 : Int32) < x)
theorem coder_u {n : Nat} (h0 : 0 < n) (hn : n < 65536) : nar .byte ((n.toInt32 - (2 * n).toInt32).toUInt32 >>> ((31 : Int32) &&& 31).toUInt32).toInt32.toInt8.toInt32 = 1 := by
  have e : ((n.toInt32 - (2 * n).toInt32).toUInt32 >>> ((31 : Int32) &&& 31).toUInt32).toInt32 = 1 := by
    apply Int32.toInt_inj.mp
    rw [c_iushr _ 31 31 (by decide) (by decide)]
    have h := c_isub n.toInt32 (2 * n).toInt32
    have r := rng32 (n.toInt32 - (2 * n).toInt32)
    rw [i32_toInt (by omega), i32_toInt (by omega)] at h
    have e1 : (1 : Int32).toInt = 1 := by decide
    rw [e1]
    simp only [Nat.reducePow]
    omega
  rw [e]; decide
theorem StrG.obj {Z : State} {c : Cell} {b : Addr} {cb : Cell} {cs : List Int32} (S : StrG Z c b cb cs) : ObjC Z c "java/lang/String" := S.elim (·.1) (·.1)
theorem i32_big {n : Nat} (hn : n < 65536) : n.toInt32 < (1073741823 : Int32) := by
  have h := i32_toInt (i := n) (by omega)
  have e : (1073741823 : Int32).toInt = 1073741823 := by decide
  rw [Int32.lt_iff_toInt_lt, h, e]
  omega
/-! ## own: arrays of references, old arrays -/
section RefArr
variable {l : Launch} {Z : State} {a0 : Array Value} {EL : List (String × Nat)} {R : Room} {own : String} {bytes : ByteArray} {maxL : Nat} {ret : Option FieldType} {nm : String} {X : Ctx} {σ ρ : HL} {T : State} {k n K N : Nat} {Q : Option Value → HL → HL → Prop} {pc pc' : Nat} {Ls : Array Slot} {st : List Value} {a y : Addr} {c cy : Cell} {vs : List Value}
theorem Go.anewarr (W : Wk l Z EL R own bytes maxL ret nm X σ ρ T k n) {C : String} {ix : Nat} {z : Int32} (len : Nat) (w1 : (Jvm.Cond.classLink own ix C).before a0 Z = true) (w2 : (Jvm.Cond.arrayOver (.object C)).before a0 Z = true) (hd : decode bytes pc = .ok (.anewarray ix, 3)) (hp : pc + 3 = pc')
    (hz : ¬ z < 0) (hl : z.toNatClampNeg = len) (hb : len * 8 ≤ 536870912) (hk : k + 1 ≤ R.cells) (hn : n + len ≤ R.slots)
    (r : ∀ (T' : State) (a : Addr) (c : Cell), Wk l Z EL R own bytes maxL ret nm X ((a, c) :: σ) ρ T' (k + 1) (n + len) → ArrC Z c (.object C) (List.replicate len .null) → Ovr Z c.cls C → Go Z EL K N Q X T' pc' Ls (.ref a :: st)) :
    Go Z EL K N Q X T pc Ls (.int z :: st) := by
  obtain ⟨w0, vm0, k0, locs, Y, hS, hk0, hZ, hown, hFr, H⟩ := W
  obtain ⟨T', h', cA, Y', e', E, A, O, stp⟩ := newR Y w0.1 hZ hown w1 w2 rfl (g := mkF X.m pc Ls (.int z :: st)) rfl (by rw [w0.2.1]; exact hd) rfl hz (cap := len) (Nat.le_of_eq hl) hb hk hn
  subst e' hp
  have hfd : ∀ v ∈ List.replicate len (Value.null), fits (.object C) v = true := fun v hv => by rw [(List.mem_replicate.mp hv).2]; rfl
  exact Go.by stp (r T' T.heap.size _ ⟨w0, vm0, k0, locs, Y', hS, Nat.le_trans hk0 E.1, hZ, hown, hFr, H.alloc E A.1⟩ ⟨A.2.1, A.2.2, by simp [newA, hl, defaultValue], hfd, by simp; omega⟩ O)
theorem Go.aastoreObj (W : Wk l Z EL R own bytes maxL ret nm X σ ρ T k n) (ix : Nat) (hm : σ[ix]? = some (a, c)) {C D : String} (A : ArrC Z c (.object D) vs) (O : Ovr Z c.cls C) (hmy : (y, cy) ∈ σ ∨ (y, cy) ∈ ρ ∨ Z.heap[y]? = some cy) (Oy : ObjC Z cy C) {j : Int32} (i : Nat) (hj : ¬ j < 0) (hi : j.toNatClampNeg = i) (hl : i < vs.length) (hd : decode bytes pc = .ok (.aastore, 1)) (hp : pc + 1 = pc')
    (r : ∀ (T' : State) (c' : Cell), Wk l Z EL R own bytes maxL ret nm X (σ.set ix (a, c')) ρ T' k n → ArrC Z c' (.object D) (vs.set i (.ref y)) → Ovr Z c'.cls C → Go Z EL K N Q X T' pc' Ls st) : Go Z EL K N Q X T pc Ls (.ref y :: .int j :: .ref a :: st) := by
  have hc := W.cell (Or.inl (List.mem_of_getElem? hm))
  have hcy := W.cell hmy
  exact Go.aastore W ix hm A rfl i hj hi hl rfl (Sto.of (A.arr hc) O (Ins.self (Oy.exa hcy))) hd hp fun T' c' W' A' e' => r T' c' W' A' (e' ▸ O)
/-- an array that stood at the start, its components known -/
theorem arrC_old {cl : Cell} {ty : FieldType} (hf : Fit Z) (A : Arr Z Z.heap a cl ty) (hl : cl.slots.size = vs.length) (he : ∀ i, i < vs.length → cl.slots[i]? = vs[i]?) (hb : vs.length < 2147483648) : ArrC Z cl ty vs := by
  have e : cl.slots.toList = vs := by
    apply List.ext_getElem?
    intro i
    by_cases q : i < vs.length
    · rw [Array.getElem?_toList]; exact he i q
    · rw [Array.getElem?_toList, Array.getElem?_eq_none (by omega), List.getElem?_eq_none (by omega)]
  refine ⟨A.2.1, A.2.2, e, fun v hv => ?_, hb⟩
  obtain ⟨i, hi⟩ := List.mem_iff_getElem?.mp hv
  have hlt := (List.getElem?_eq_some_iff.mp hi).1
  refine elem_fits (j := i.toInt32) hf A ?_ ?_
  · rw [i32_clamp (by omega), hl]
    rintro (q | q)
    · exact i32_nn (by omega) q
    · omega
  · rw [i32_clamp (by omega), he i hlt, hi]
end RefArr
/-! ## own: facts on what stood at the start, out of the case's own words; the clone of an array -/
section OldFacts
variable {Z : State} {args : Array Value} {t u : Term} {a : Addr} {c : Cell} {C n d : String} {ty : FieldType} {v : Value} {vs : List Value}
theorem objC_start (hx : (Jvm.Cond.exactly t C).value args Z none Z [] = some true) : ∃ a c, t.eval args Z none [] Z = some (.ref a) ∧ Z.heap[a]? = some c ∧ ObjC Z c C := by
  obtain ⟨a, ev⟩ := exa_v hx
  have E := Exa.start ev hx
  obtain ⟨c, k, h0, h⟩ := E
  exact ⟨a, c, ev, h0, k, h⟩
theorem fldC_start (ev : t.eval args Z none [] Z = some (.ref a)) (hc : Z.heap[a]? = some c) (e : (Term.field t C n d).eval args Z none [] Z = some v) : FldC Z c C n d v :=
  FldC.of (Fld.start ((fld_at ev) ▸ e)) hc
theorem eqR (h : (Jvm.Cond.eq t u).value args Z none Z [] = some true) (hu : u.eval args Z none [] Z = some (.ref a)) : t.eval args Z none [] Z = some (.ref a) := by
  obtain ⟨x, y, h1, h2, h3, h4⟩ := cmp_v (Or.inl h)
  cases hu.symm.trans h2
  rw [Cond.value, h1, hu] at h
  cases x <;> simp at h
  rw [h1, h]
/-- the components, one by one -/
def Els (Z : State) (args : Array Value) (t : Term) : Nat → List Value → Prop
  | _, [] => True
  | k, v :: vs => (Term.elem t (Term.int k.toInt32)).eval args Z none [] Z = some v ∧ Els Z args t (k + 1) vs
theorem Els.get : ∀ (vs : List Value) (k : Nat), Els Z args t k vs → ∀ i v, vs[i]? = some v → (Term.elem t (Term.int (k + i).toInt32)).eval args Z none [] Z = some v
  | [], k, h, i, v, hv => by simp at hv
  | w :: vs, k, h, 0, v, hv => by
    obtain rfl : w = v := by simpa using hv
    exact h.1
  | w :: vs, k, h, i + 1, v, hv => by
    have := Els.get vs (k + 1) h.2 i v (by simpa using hv)
    rwa [show k + 1 + i = k + (i + 1) by omega] at this
theorem arrC_start (hf : Fit Z) (ev : t.eval args Z none [] Z = some (.ref a)) (hc : Z.heap[a]? = some c) (hx : (Jvm.Cond.arrayOf t ty).value args Z none Z [] = some true) {z : Int32} (hl : (Term.length t).eval args Z none [] Z = some (.int z)) (vs : List Value) (hz : vs.length.toInt32 = z) (hb : vs.length < 2147483648) (he : Els Z args t 0 vs) : ArrC Z c ty vs := by
  obtain ⟨c', A⟩ := Arr.start ev hx
  cases hc.symm.trans A.1
  obtain ⟨b, cell, e1, e2, e3, e4⟩ := Jvm.Lib.length_spec hl
  cases ev.symm.trans e1
  have e5 : Z.heap[a]? = some cell := (Jvm.Lib.arrayAt_spec e2).1
  cases hc.symm.trans e5
  have hs : c.slots.size = vs.length := by
    have q := Value.int.inj e4
    rw [← hz] at q
    exact ((i32_inj hb (by omega)).mp q).symm
  refine arrC_old hf A hs (fun i hi => ?_) hb
  have hv : vs[i]? = some vs[i] := List.getElem?_eq_getElem hi
  have q := (elem_in (Els.get vs 0 he i _ hv) ev (Term.int_eval _) hc).2
  rw [Nat.zero_add, i32_clamp (by omega)] at q
  rw [q, hv]
end OldFacts
section CloneLaw
variable {l : Launch} {Z : State} {a0 : Array Value} {EL : List (String × Nat)} {R : Room} {own : String} {bytes : ByteArray} {maxL : Nat} {ret : Option FieldType} {nm : String} {X : Ctx} {σ ρ : HL} {T : State} {k n K N : Nat} {Q : Option Value → HL → HL → Prop} {pc pc' : Nat} {Ls : Array Slot} {st : List Value} {a : Addr} {c : Cell} {vs : List Value}
theorem Go.clone (W : Wk l Z EL R own bytes maxL ret nm X σ ρ T k n) (hm : (a, c) ∈ σ ∨ (a, c) ∈ ρ ∨ Z.heap[a]? = some c) {ad : String} {ty : FieldType} {ix : Nat} (A : ArrC Z c ty vs) (O : ObjC Z c ad)
    (w1 : (Jvm.Cond.methodLink own ix ⟨ad, "clone", "()Ljava/lang/Object;"⟩).before a0 Z = true) (w2 : (Jvm.Cond.sameMethod ad "java/lang/Object" "clone" "()Ljava/lang/Object;").before a0 Z = true) (w3 : (Jvm.Cond.native ⟨"java/lang/Object", "clone", "()Ljava/lang/Object;"⟩).before a0 Z = true)
    (w4 : (Jvm.Cond.instanceMethod ⟨"java/lang/Object", "clone", "()Ljava/lang/Object;"⟩).before a0 Z = true) (w5 : (Jvm.Cond.selects ad ⟨ad, "clone", "()Ljava/lang/Object;"⟩ ⟨"java/lang/Object", "clone", "()Ljava/lang/Object;"⟩).before a0 Z = true) (w6 : (Jvm.Cond.castable ad "java/lang/Cloneable").before a0 Z = true)
    (hLs : Ls.size = maxL) (hd : decode bytes pc = .ok (.invokevirtual ix, 3)) (hp : pc + 3 = pc') (hf : 1 ≤ R.frames) (hl : (st.map fun v => v.category).sum + 14 ≤ R.locals) (hk : k + 1 ≤ R.cells) (hn : n + vs.length ≤ R.slots)
    (r : ∀ (T' : State) (a' : Addr) (c' : Cell), Wk l Z EL R own bytes maxL ret nm X ((a', c') :: σ) ρ T' (k + 1) (n + vs.length) → ArrC Z c' ty vs → ObjC Z c' ad → Go Z EL K N Q X T' pc' Ls (.ref a' :: st)) :
    Go Z EL K N Q X T pc Ls (.ref a :: st) := by
  have hc := W.cell hm
  obtain ⟨w0, vm0, k0, locs, Y, hS, hk0, hZ, hown, hFr, H⟩ := W
  have F : FitC Z c := fitC_of (A.arr hc) fun i hi v hv => A.2.2.2.1 v (by rw [A.get] at hv; exact List.mem_of_getElem? hv)
  obtain ⟨T', h', Y', e', E, A', O', stp⟩ := cloneA Y w0.1 hZ hown w1 w2 w3 w4 w5 w6 rfl (A.arr hc) (O.exa hc) F (g := mkF X.m pc Ls (.ref a :: st)) rfl (by show Ls.size = _; rw [hLs, w0.2.2.1]) (rest := st) rfl (by rw [w0.2.1]; exact hd) hf (W := (st.map fun v => v.category).sum) (by show 2 * 0 + _ ≤ _; omega) hl (cap := vs.length) (Nat.le_of_eq A.size) hk hn
  subst e' hp
  exact Go.by stp (r T' T.heap.size _ ⟨w0, vm0, k0, locs, Y', hS, Nat.le_trans hk0 E.1, hZ, hown, hFr, H.alloc E A'.1⟩ ⟨A'.2.1, A'.2.2, A.2.2.1, A.2.2.2.1, A.2.2.2.2⟩ (ObjC.of O' A'.1))
end CloneLaw
abbrev EL1 : List (String × Nat) := consts_1
def Cl (Z : State) (a0 : Array Value) : Prop := (∀ d ∈ tables_1, d.before a0 Z = true) ∧ EW Z a0 EL1 ∧ (∃ cv : Int32, Sta Z Z.heap "java/lang/String" "COMPACT_STRINGS" "Z" (.int cv) ∧ ¬ cv = 0) ∧ (∃ fv : Value, Sta Z Z.heap "jdk/internal/util/Preconditions" "SIOOBE_FORMATTER" "Ljava/util/function/BiFunction;" fv ∧ fv.isRef = true) ∧ True
theorem strAtoms {Z : State} {a0 : Array Value} (G : Cl Z a0) : ∀ d ∈ Bundle.stringAtoms, d.before a0 Z = true := fun d hd => G.1 d ((by decide +kernel : ∀ d ∈ Bundle.stringAtoms, d ∈ tables_1) d hd)
theorem d_jdk_52_method_21_code_0 : decode jdk_52_method_21_code 0 = .ok (.iconst 0, 1) := by decide +kernel
theorem d_jdk_52_method_21_code_1 : decode jdk_52_method_21_code 1 = .ok (.istore 5, 2) := by decide +kernel
theorem d_jdk_52_method_21_code_3 : decode jdk_52_method_21_code 3 = .ok (.iload 5, 2) := by decide +kernel
theorem d_jdk_52_method_21_code_5 : decode jdk_52_method_21_code 5 = .ok (.iload 4, 2) := by decide +kernel
theorem d_jdk_52_method_21_code_7 : decode jdk_52_method_21_code 7 = .ok (.if_icmp .ge 37, 3) := by decide +kernel
theorem d_jdk_52_method_21_code_10 : decode jdk_52_method_21_code 10 = .ok (.aload_n 0, 1) := by decide +kernel
theorem d_jdk_52_method_21_code_11 : decode jdk_52_method_21_code 11 = .ok (.iload_n 1, 1) := by decide +kernel
theorem d_jdk_52_method_21_code_12 : decode jdk_52_method_21_code 12 = .ok (.caload, 1) := by decide +kernel
theorem d_jdk_52_method_21_code_13 : decode jdk_52_method_21_code 13 = .ok (.istore 6, 2) := by decide +kernel
theorem d_jdk_52_method_21_code_15 : decode jdk_52_method_21_code 15 = .ok (.iload 6, 2) := by decide +kernel
theorem d_jdk_52_method_21_code_17 : decode jdk_52_method_21_code 17 = .ok (.sipush 255, 3) := by decide +kernel
theorem d_jdk_52_method_21_code_20 : decode jdk_52_method_21_code 20 = .ok (.if_icmp .le 6, 3) := by decide +kernel
theorem d_jdk_52_method_21_code_23 : decode jdk_52_method_21_code 23 = .ok (.iload 5, 2) := by decide +kernel
theorem d_jdk_52_method_21_code_25 : decode jdk_52_method_21_code 25 = .ok (.ireturn, 1) := by decide +kernel
theorem d_jdk_52_method_21_code_26 : decode jdk_52_method_21_code 26 = .ok (.aload_n 2, 1) := by decide +kernel
theorem d_jdk_52_method_21_code_27 : decode jdk_52_method_21_code 27 = .ok (.iload_n 3, 1) := by decide +kernel
theorem d_jdk_52_method_21_code_28 : decode jdk_52_method_21_code 28 = .ok (.iload 6, 2) := by decide +kernel
theorem d_jdk_52_method_21_code_30 : decode jdk_52_method_21_code 30 = .ok (.i2b, 1) := by decide +kernel
theorem d_jdk_52_method_21_code_31 : decode jdk_52_method_21_code 31 = .ok (.bastore, 1) := by decide +kernel
theorem d_jdk_52_method_21_code_32 : decode jdk_52_method_21_code 32 = .ok (.iinc 1 1, 3) := by decide +kernel
theorem d_jdk_52_method_21_code_35 : decode jdk_52_method_21_code 35 = .ok (.iinc 3 1, 3) := by decide +kernel
theorem d_jdk_52_method_21_code_38 : decode jdk_52_method_21_code 38 = .ok (.iinc 5 1, 3) := by decide +kernel
theorem d_jdk_52_method_21_code_41 : decode jdk_52_method_21_code 41 = .ok (.goto (-38), 3) := by decide +kernel
theorem d_jdk_52_method_21_code_44 : decode jdk_52_method_21_code 44 = .ok (.iload 4, 2) := by decide +kernel
theorem d_jdk_52_method_21_code_46 : decode jdk_52_method_21_code 46 = .ok (.ireturn, 1) := by decide +kernel
theorem lp_cmp5 {l : Launch} {Z : State} {X : Ctx} {ac b : Addr} {cc : Cell} {cs : List Int32} (A : ArrC Z cc .char (chV cs)) (hl : Lat cs) (hn : cs.length < 2147483648) :
    ∀ (j i : Nat), i + j = cs.length → ∀ (o6 : Slot), One o6 → ∀ (T : State) (cb : Cell), Wk l Z EL1 ({ frames := 0, cells := 0, slots := 0, locals := 0 } : Room) "java/lang/StringUTF16" jdk_52_method_21_code 7 (some .int) "compress" X [(ac, cc), (b, cb)] [] T 0 0 → ArrC Z cb .byte (latB (cs.take i) ++ List.replicate j (.int 0)) →
      Go Z EL1 0 0 (fun v σ ρ => ∃ cb', v = some (.int cs.length.toInt32) ∧ σ = [(ac, cc), (b, cb')] ∧ ρ = [] ∧ ArrC Z cb' .byte (latB cs)) X T 3 #[.val (.ref ac), .val (.int i.toInt32), .val (.ref b), .val (.int i.toInt32), .val (.int cs.length.toInt32), .val (.int i.toInt32), o6] []
  | 0, i, hij, o6, ho, T, cb, W, B => by
    obtain rfl : i = cs.length := by omega
    refine Go.iload (pc' := 5) W d_jdk_52_method_21_code_3 rfl rfl ?_
    refine Go.iload (pc' := 7) W d_jdk_52_method_21_code_5 rfl rfl ?_
    refine Go.icmp_ge (pc' := 10) W 44 d_jdk_52_method_21_code_7 (by decide) rfl (fun _ => ?_) (fun q => absurd q (by rw [i32_lt hn hn]; omega))
    refine Go.iload (pc' := 46) W d_jdk_52_method_21_code_44 rfl rfl ?_
    refine Go.iret W d_jdk_52_method_21_code_46 (by decide) (by decide) ⟨cb, rfl, rfl, rfl, ?_⟩
    simpa using B
  | j + 1, i, hij, o6, ho, T, cb, W, B => by
    have hi : i < cs.length := by omega
    obtain ⟨x, hx⟩ : ∃ x, cs[i]? = some x := ⟨_, List.getElem?_eq_getElem hi⟩
    have hL := hl x (List.mem_of_getElem? hx)
    have hlen : i < (latB (cs.take i) ++ List.replicate (j + 1) (.int 0 : Value)).length := by simp; omega
    refine Go.iload (pc' := 5) W d_jdk_52_method_21_code_3 rfl rfl ?_
    refine Go.iload (pc' := 7) W d_jdk_52_method_21_code_5 rfl rfl ?_
    refine Go.icmp_ge (pc' := 10) W 44 d_jdk_52_method_21_code_7 (by decide) rfl (fun q => absurd ((i32_lt (by omega) hn).mpr hi) q) (fun _ => ?_)
    refine Go.aloadN (pc' := 11) W d_jdk_52_method_21_code_10 rfl rfl rfl ?_
    refine Go.iloadN (pc' := 12) W d_jdk_52_method_21_code_11 rfl rfl ?_
    refine Go.caload (pc' := 13) W (Or.inl (List.mem_of_getElem? (i := 0) rfl)) A i (i32_nn (by omega)) (i32_clamp (by omega)) (v := .int x) (by rw [chV, List.getElem?_map, hx]; rfl) d_jdk_52_method_21_code_12 rfl ?_
    refine Go.istore (pc' := 15) W #[.val (.ref ac), .val (.int i.toInt32), .val (.ref b), .val (.int i.toInt32), .val (.int cs.length.toInt32), .val (.int i.toInt32), .val (.int x)] d_jdk_52_method_21_code_13 (XS.store1 (o := o6) rfl ho rfl) rfl ?_
    refine Go.iload (pc' := 17) W d_jdk_52_method_21_code_15 rfl rfl ?_
    refine Go.sipush (pc' := 20) W (255 : Int32) d_jdk_52_method_21_code_17 (by decide) rfl ?_
    refine Go.icmp_le (pc' := 23) W 26 d_jdk_52_method_21_code_20 (by decide) rfl (fun _ => ?_) (fun q => absurd q hL.2)
    refine Go.aloadN (pc' := 27) W d_jdk_52_method_21_code_26 rfl rfl rfl ?_
    refine Go.iloadN (pc' := 28) W d_jdk_52_method_21_code_27 rfl rfl ?_
    refine Go.iload (pc' := 30) W d_jdk_52_method_21_code_28 rfl rfl ?_
    refine Go.i2b (pc' := 31) W d_jdk_52_method_21_code_30 rfl ?_
    refine Go.bastore (pc' := 32) W 1 rfl B i (i32_nn (by omega)) (i32_clamp (by omega)) hlen d_jdk_52_method_21_code_31 rfl (fun T2 cb2 W2 B2 => ?_)
    rw [i8_i8, set_next hx] at B2
    refine Go.iinc (pc' := 35) W2 (1 : Int32) #[.val (.ref ac), .val (.int (i.toInt32 + 1)), .val (.ref b), .val (.int i.toInt32), .val (.int cs.length.toInt32), .val (.int i.toInt32), .val (.int x)] d_jdk_52_method_21_code_32 rfl (by decide) rfl rfl ?_
    refine Go.iinc (pc' := 38) W2 (1 : Int32) #[.val (.ref ac), .val (.int (i.toInt32 + 1)), .val (.ref b), .val (.int (i.toInt32 + 1)), .val (.int cs.length.toInt32), .val (.int i.toInt32), .val (.int x)] d_jdk_52_method_21_code_35 rfl (by decide) rfl rfl ?_
    refine Go.iinc (pc' := 41) W2 (1 : Int32) #[.val (.ref ac), .val (.int (i.toInt32 + 1)), .val (.ref b), .val (.int (i.toInt32 + 1)), .val (.int cs.length.toInt32), .val (.int (i.toInt32 + 1)), .val (.int x)] d_jdk_52_method_21_code_38 rfl (by decide) rfl rfl ?_
    refine Go.goto W2 3 d_jdk_52_method_21_code_41 (by decide) ?_
    rw [i32_succ (by omega)]
    exact lp_cmp5 A hl hn j (i + 1) (by omega) _ (One.val rfl) T2 cb2 W2 B2
theorem pn_0 : plainName "java/lang/StringUTF16" = true := by first | (simp [plainName, overriddenIn]; done) | decide +kernel
theorem rm_cmp5 {l : Launch} {Z : State} {a0 : Array Value} (G : Cl Z a0) (ac b : Addr) (cc cb : Cell) (cs : List Int32) (A : ArrC Z cc .char (chV cs)) (hl : Lat cs) (hn : cs.length < 2147483648) (B : ArrC Z cb .byte (List.replicate cs.length (.int 0))) :
    Met l Z EL1 (⟨"java/lang/StringUTF16", "compress", "([CI[BII)I"⟩ : MethodName) jdk_52_method_21_code 7 (some .int) ({ frames := 0, cells := 0, slots := 0, locals := 0 } : Room) #[.ref ac, .int 0, .ref b, .int 0, .int cs.length.toInt32] [(ac, cc), (b, cb)] [] (fun v σ ρ => ∃ cb', v = some (.int cs.length.toInt32) ∧ σ = [(ac, cc), (b, cb')] ∧ ρ = [] ∧ ArrC Z cb' .byte (latB cs)) := by
  refine Met.walk G.2.1 pn_0 #[.val (.ref ac), .val (.int 0), .val (.ref b), .val (.int 0), .val (.int cs.length.toInt32), .unset, .unset] (fun m => by first | (simp [entryFrame, mkF, argsToLocals, Value.category]; done) | rfl) ?_
  intro X T W
  refine Go.iconst (pc' := 1) W (0 : Int32) d_jdk_52_method_21_code_0 (by decide) rfl ?_
  refine Go.istore (pc' := 3) W #[.val (.ref ac), .val (.int 0), .val (.ref b), .val (.int 0), .val (.int cs.length.toInt32), .val (.int 0), .unset] d_jdk_52_method_21_code_1 rfl rfl ?_
  exact lp_cmp5 A hl hn cs.length 0 (by omega) .unset One.u T cb W (by simpa using B)
theorem d_jdk_52_method_16_code_0 : decode jdk_52_method_16_code 0 = .ok (.iload_n 2, 1) := by decide +kernel
theorem w_24 {Z : State} {a0 : Array Value} (G : Cl Z a0) : (Jvm.Cond.arrayClass .byte).before a0 Z = true := G.1 _ (List.mem_of_getElem? (l := tables_1) (i := 24) rfl)
theorem d_jdk_52_method_16_code_1 : decode jdk_52_method_16_code 1 = .ok (.newarray .byte, 2) := by decide +kernel
theorem d_jdk_52_method_16_code_3 : decode jdk_52_method_16_code 3 = .ok (.astore_n 3, 1) := by decide +kernel
theorem d_jdk_52_method_16_code_4 : decode jdk_52_method_16_code 4 = .ok (.aload_n 0, 1) := by decide +kernel
theorem d_jdk_52_method_16_code_5 : decode jdk_52_method_16_code 5 = .ok (.iload_n 1, 1) := by decide +kernel
theorem d_jdk_52_method_16_code_6 : decode jdk_52_method_16_code 6 = .ok (.aload_n 3, 1) := by decide +kernel
theorem d_jdk_52_method_16_code_7 : decode jdk_52_method_16_code 7 = .ok (.iconst 0, 1) := by decide +kernel
theorem d_jdk_52_method_16_code_8 : decode jdk_52_method_16_code 8 = .ok (.iload_n 2, 1) := by decide +kernel
theorem w_25 {Z : State} {a0 : Array Value} (G : Cl Z a0) : (Jvm.Cond.methodLink "java/lang/StringUTF16" 115 (⟨"java/lang/StringUTF16", "compress", "([CI[BII)I"⟩ : MethodName)).before a0 Z = true := G.1 _ (List.mem_of_getElem? (l := tables_1) (i := 25) rfl)
theorem w_26 {Z : State} {a0 : Array Value} (G : Cl Z a0) : (Jvm.Cond.static (⟨"java/lang/StringUTF16", "compress", "([CI[BII)I"⟩ : MethodName)).before a0 Z = true := G.1 _ (List.mem_of_getElem? (l := tables_1) (i := 26) rfl)
theorem w_22 {Z : State} {a0 : Array Value} (G : Cl Z a0) : (Jvm.Cond.initialized "java/lang/StringUTF16").before a0 Z = true := G.1 _ (List.mem_of_getElem? (l := tables_1) (i := 22) rfl)
theorem w_27 {Z : State} {a0 : Array Value} (G : Cl Z a0) : (Jvm.Cond.code (⟨"java/lang/StringUTF16", "compress", "([CI[BII)I"⟩ : MethodName) jdk_52_method_21_code 7 (some .int)).before a0 Z = true := G.1 _ (List.mem_of_getElem? (l := tables_1) (i := 27) rfl)
theorem pd_1 : parseMethodDescriptor "([CI[BII)I" = some ⟨[(.array .char), .int, (.array .byte), .int, .int], some .int⟩ := by decide +kernel
theorem d_jdk_52_method_16_code_9 : decode jdk_52_method_16_code 9 = .ok (.invokestatic 115, 3) := by decide +kernel
theorem d_jdk_52_method_16_code_12 : decode jdk_52_method_16_code 12 = .ok (.istore 4, 2) := by decide +kernel
theorem d_jdk_52_method_16_code_14 : decode jdk_52_method_16_code 14 = .ok (.iload 4, 2) := by decide +kernel
theorem d_jdk_52_method_16_code_16 : decode jdk_52_method_16_code 16 = .ok (.iload_n 2, 1) := by decide +kernel
theorem d_jdk_52_method_16_code_17 : decode jdk_52_method_16_code 17 = .ok (.if_icmp .eq 40, 3) := by decide +kernel
theorem d_jdk_52_method_16_code_57 : decode jdk_52_method_16_code 57 = .ok (.aload_n 3, 1) := by decide +kernel
theorem d_jdk_52_method_16_code_58 : decode jdk_52_method_16_code 58 = .ok (.areturn, 1) := by decide +kernel
theorem rm_cmp3 {l : Launch} {Z : State} {a0 : Array Value} (G : Cl Z a0) (ac : Addr) (cc : Cell) (cs : List Int32) (A : ArrC Z cc .char (chV cs)) (hl : Lat cs) (hn : cs.length < 65536) :
    Met l Z EL1 (⟨"java/lang/StringUTF16", "compress", "([CII)[B"⟩ : MethodName) jdk_52_method_16_code 6 (some (.array .byte)) ({ frames := 1, cells := 1, slots := cs.length, locals := 18 } : Room) #[.ref ac, .int 0, .int cs.length.toInt32] [(ac, cc)] [] (fun v σ ρ => ∃ b cb, v = some (.ref b) ∧ σ = [(ac, cc), (b, cb)] ∧ ρ = [] ∧ ArrC Z cb .byte (latB cs)) := by
  refine Met.walk G.2.1 pn_0 #[.val (.ref ac), .val (.int 0), .val (.int cs.length.toInt32), .unset, .unset, .unset] (fun m => by first | (simp [entryFrame, mkF, argsToLocals, Value.category]; done) | rfl) ?_
  intro X T0 W0
  refine Go.iloadN (pc' := 1) W0 d_jdk_52_method_16_code_0 rfl rfl ?_
  refine Go.newarr (pc' := 3) W0 .byte rfl cs.length (w_24 G) d_jdk_52_method_16_code_1 rfl (i32_nn (by omega)) (i32_clamp (by omega)) (by omega) (by first | exact Nat.le_of_ble_eq_true rfl | (simp; done) | (simp; omega) | omega) (by first | exact Nat.le_of_ble_eq_true rfl | (simp; done) | (simp; omega) | omega) (fun T1 b cb W1 B => ?_)
  refine Go.astoreN (pc' := 4) W1 #[.val (.ref ac), .val (.int 0), .val (.int cs.length.toInt32), .val (.ref b), .unset, .unset] d_jdk_52_method_16_code_3 rfl rfl rfl ?_
  refine Go.aloadN (pc' := 5) W1 d_jdk_52_method_16_code_4 rfl rfl rfl ?_
  refine Go.iloadN (pc' := 6) W1 d_jdk_52_method_16_code_5 rfl rfl ?_
  refine Go.aloadN (pc' := 7) W1 d_jdk_52_method_16_code_6 rfl rfl rfl ?_
  refine Go.iconst (pc' := 8) W1 (0 : Int32) d_jdk_52_method_16_code_7 (by decide) rfl ?_
  refine Go.iloadN (pc' := 9) W1 d_jdk_52_method_16_code_8 rfl rfl ?_
  refine Go.static (pc' := 12) W1 (rm_cmp5 G ac b cc cb cs A hl (by omega) B) (w_25 G) (w_26 G) (w_22 G) (w_27 G) (by decide) [1, 0] [] (σf := []) rfl rfl [.ref ac, .int 0, .ref b, .int 0, .int cs.length.toInt32] [] rfl (lenOf pd_1 rfl) rfl rfl d_jdk_52_method_16_code_9 rfl (by first | exact Nat.le_of_ble_eq_true rfl | (simp; done) | (simp; omega) | omega) (by first | exact Nat.le_of_ble_eq_true rfl | (simp; done) | (simp; omega) | omega) (by first | exact Nat.le_of_ble_eq_true rfl | (simp; done) | (simp; omega) | omega) (by first | exact Nat.le_of_ble_eq_true rfl | (simp; done) | (simp; omega) | omega) ?_
  rintro _ _ _ T2 ⟨cb2, rfl, rfl, rfl, B2⟩ W2
  refine Go.istore (pc' := 14) W2 #[.val (.ref ac), .val (.int 0), .val (.int cs.length.toInt32), .val (.ref b), .val (.int cs.length.toInt32), .unset] d_jdk_52_method_16_code_12 rfl rfl ?_
  refine Go.iload (pc' := 16) W2 d_jdk_52_method_16_code_14 rfl rfl ?_
  refine Go.iloadN (pc' := 17) W2 d_jdk_52_method_16_code_16 rfl rfl ?_
  refine Go.icmp_eq (pc' := 20) W2 57 d_jdk_52_method_16_code_17 (by decide) rfl (fun _ => ?_) (fun q => absurd rfl q)
  refine Go.aloadN (pc' := 58) W2 d_jdk_52_method_16_code_57 rfl rfl rfl ?_
  exact Go.aret W2 rfl rfl d_jdk_52_method_16_code_58 (by first | exact Nat.le_of_ble_eq_true rfl | (simp; done) | (simp; omega) | omega) (by first | exact Nat.le_of_ble_eq_true rfl | (simp; done) | (simp; omega) | omega) ⟨b, cb2, rfl, rfl, rfl, B2⟩
theorem d_jdk_52_method_15_code_0 : decode jdk_52_method_15_code 0 = .ok (.iload_n 1, 1) := by decide +kernel
theorem d_jdk_52_method_15_code_1 : decode jdk_52_method_15_code 1 = .ok (.aload_n 0, 1) := by decide +kernel
theorem d_jdk_52_method_15_code_2 : decode jdk_52_method_15_code 2 = .ok (.arraylength, 1) := by decide +kernel
theorem d_jdk_52_method_15_code_3 : decode jdk_52_method_15_code 3 = .ok (.isub, 1) := by decide +kernel
theorem d_jdk_52_method_15_code_4 : decode jdk_52_method_15_code 4 = .ok (.bipush 31, 2) := by decide +kernel
theorem d_jdk_52_method_15_code_6 : decode jdk_52_method_15_code 6 = .ok (.iushr, 1) := by decide +kernel
theorem d_jdk_52_method_15_code_7 : decode jdk_52_method_15_code 7 = .ok (.i2b, 1) := by decide +kernel
theorem d_jdk_52_method_15_code_8 : decode jdk_52_method_15_code 8 = .ok (.ireturn, 1) := by decide +kernel
theorem rm_cod {l : Launch} {Z : State} {a0 : Array Value} (G : Cl Z a0) (b : Addr) (cb : Cell) (cs : List Int32) (B : ArrC Z cb .byte (latB cs)) :
    Met l Z EL1 (⟨"java/lang/StringUTF16", "coderFromArrayLen", "([BI)B"⟩ : MethodName) jdk_52_method_15_code 2 (some .byte) ({ frames := 0, cells := 0, slots := 0, locals := 0 } : Room) #[.ref b, .int cs.length.toInt32] [(b, cb)] [] (fun v σ ρ => v = some (.int 0) ∧ σ = [(b, cb)] ∧ ρ = []) := by
  refine Met.walk G.2.1 pn_0 #[.val (.ref b), .val (.int cs.length.toInt32)] (fun m => by first | (simp [entryFrame, mkF, argsToLocals, Value.category]; done) | rfl) ?_
  intro X T0 W0
  refine Go.iloadN (pc' := 1) W0 d_jdk_52_method_15_code_0 rfl rfl ?_
  refine Go.aloadN (pc' := 2) W0 d_jdk_52_method_15_code_1 rfl rfl rfl ?_
  refine Go.arrlen (pc' := 3) W0 (Or.inl (List.mem_of_getElem? (i := 0) rfl)) B cs.length.toInt32 (by rw [latB, List.length_map]) d_jdk_52_method_15_code_2 rfl ?_
  refine Go.isub (pc' := 4) W0 d_jdk_52_method_15_code_3 rfl ?_
  rw [Int32.sub_self]
  refine Go.bipush (pc' := 6) W0 (31 : Int32) d_jdk_52_method_15_code_4 (by decide) rfl ?_
  refine Go.iushr (pc' := 7) W0 d_jdk_52_method_15_code_6 rfl ?_
  refine Go.i2b (pc' := 8) W0 d_jdk_52_method_15_code_7 rfl ?_
  exact Go.nret (z' := 0) W0 (by simp) (by decide) d_jdk_52_method_15_code_8 (by decide) (by decide) ⟨rfl, rfl, rfl⟩
theorem pn_2 : plainName "java/lang/String" = true := by first | (simp [plainName, overriddenIn]; done) | decide +kernel
theorem d_jdk_42_method_149_code_0 : decode jdk_42_method_149_code 0 = .ok (.aload_n 0, 1) := by decide +kernel
theorem d_jdk_42_method_149_code_1 : decode jdk_42_method_149_code 1 = .ok (.invokespecial 1, 3) := by decide +kernel
theorem w_16 {Z : State} {a0 : Array Value} (G : Cl Z a0) : (Jvm.Cond.methodLink "java/lang/String" 1 (⟨"java/lang/Object", "<init>", "()V"⟩ : MethodName)).before a0 Z = true := G.1 _ (List.mem_of_getElem? (l := tables_1) (i := 16) rfl)
theorem w_17 {Z : State} {a0 : Array Value} (G : Cl Z a0) : (Jvm.Cond.instanceMethod (⟨"java/lang/Object", "<init>", "()V"⟩ : MethodName)).before a0 Z = true := G.1 _ (List.mem_of_getElem? (l := tables_1) (i := 17) rfl)
theorem w_18 {Z : State} {a0 : Array Value} (G : Cl Z a0) : (Jvm.Cond.code (⟨"java/lang/Object", "<init>", "()V"⟩ : MethodName) object_method_1_code 1 none).before a0 Z = true := G.1 _ (List.mem_of_getElem? (l := tables_1) (i := 18) rfl)
theorem d_jdk_42_method_149_code_4 : decode jdk_42_method_149_code 4 = .ok (.iload_n 3, 1) := by decide +kernel
theorem d_jdk_42_method_149_code_5 : decode jdk_42_method_149_code 5 = .ok (.ifCond .ne 22, 3) := by decide +kernel
theorem d_jdk_42_method_149_code_27 : decode jdk_42_method_149_code 27 = .ok (.getstatic 38, 3) := by decide +kernel
theorem w_19 {Z : State} {a0 : Array Value} (G : Cl Z a0) : (Jvm.Cond.fieldLink "java/lang/String" 38 "java/lang/String" "COMPACT_STRINGS" "Z").before a0 Z = true := G.1 _ (List.mem_of_getElem? (l := tables_1) (i := 19) rfl)
theorem d_jdk_42_method_149_code_30 : decode jdk_42_method_149_code 30 = .ok (.ifCond .eq 28, 3) := by decide +kernel
theorem d_jdk_42_method_149_code_33 : decode jdk_42_method_149_code 33 = .ok (.aload_n 1, 1) := by decide +kernel
theorem d_jdk_42_method_149_code_34 : decode jdk_42_method_149_code 34 = .ok (.iload_n 2, 1) := by decide +kernel
theorem d_jdk_42_method_149_code_35 : decode jdk_42_method_149_code 35 = .ok (.iload_n 3, 1) := by decide +kernel
theorem d_jdk_42_method_149_code_36 : decode jdk_42_method_149_code 36 = .ok (.invokestatic 177, 3) := by decide +kernel
theorem w_20 {Z : State} {a0 : Array Value} (G : Cl Z a0) : (Jvm.Cond.methodLink "java/lang/String" 177 (⟨"java/lang/StringUTF16", "compress", "([CII)[B"⟩ : MethodName)).before a0 Z = true := G.1 _ (List.mem_of_getElem? (l := tables_1) (i := 20) rfl)
theorem w_23 {Z : State} {a0 : Array Value} (G : Cl Z a0) : (Jvm.Cond.code (⟨"java/lang/StringUTF16", "compress", "([CII)[B"⟩ : MethodName) jdk_52_method_16_code 6 (some (.array .byte))).before a0 Z = true := G.1 _ (List.mem_of_getElem? (l := tables_1) (i := 23) rfl)
theorem pd_3 : parseMethodDescriptor "([CII)[B" = some ⟨[(.array .char), .int, .int], some (.array .byte)⟩ := by decide +kernel
theorem w_21 {Z : State} {a0 : Array Value} (G : Cl Z a0) : (Jvm.Cond.static (⟨"java/lang/StringUTF16", "compress", "([CII)[B"⟩ : MethodName)).before a0 Z = true := G.1 _ (List.mem_of_getElem? (l := tables_1) (i := 21) rfl)
theorem d_jdk_42_method_149_code_39 : decode jdk_42_method_149_code 39 = .ok (.astore 5, 2) := by decide +kernel
theorem d_jdk_42_method_149_code_41 : decode jdk_42_method_149_code 41 = .ok (.aload_n 0, 1) := by decide +kernel
theorem d_jdk_42_method_149_code_42 : decode jdk_42_method_149_code 42 = .ok (.aload 5, 2) := by decide +kernel
theorem d_jdk_42_method_149_code_44 : decode jdk_42_method_149_code 44 = .ok (.iload_n 3, 1) := by decide +kernel
theorem d_jdk_42_method_149_code_45 : decode jdk_42_method_149_code 45 = .ok (.invokestatic 47, 3) := by decide +kernel
theorem w_28 {Z : State} {a0 : Array Value} (G : Cl Z a0) : (Jvm.Cond.methodLink "java/lang/String" 47 (⟨"java/lang/StringUTF16", "coderFromArrayLen", "([BI)B"⟩ : MethodName)).before a0 Z = true := G.1 _ (List.mem_of_getElem? (l := tables_1) (i := 28) rfl)
theorem w_30 {Z : State} {a0 : Array Value} (G : Cl Z a0) : (Jvm.Cond.code (⟨"java/lang/StringUTF16", "coderFromArrayLen", "([BI)B"⟩ : MethodName) jdk_52_method_15_code 2 (some .byte)).before a0 Z = true := G.1 _ (List.mem_of_getElem? (l := tables_1) (i := 30) rfl)
theorem pd_4 : parseMethodDescriptor "([BI)B" = some ⟨[(.array .byte), .int], some .byte⟩ := by decide +kernel
theorem w_29 {Z : State} {a0 : Array Value} (G : Cl Z a0) : (Jvm.Cond.static (⟨"java/lang/StringUTF16", "coderFromArrayLen", "([BI)B"⟩ : MethodName)).before a0 Z = true := G.1 _ (List.mem_of_getElem? (l := tables_1) (i := 29) rfl)
theorem d_jdk_42_method_149_code_48 : decode jdk_42_method_149_code 48 = .ok (.putfield 15, 3) := by decide +kernel
theorem w_31 {Z : State} {a0 : Array Value} (G : Cl Z a0) : (Jvm.Cond.fieldLink "java/lang/String" 15 "java/lang/String" "coder" "B").before a0 Z = true := G.1 _ (List.mem_of_getElem? (l := tables_1) (i := 31) rfl)
theorem w_32 {Z : State} {a0 : Array Value} (G : Cl Z a0) : (Jvm.Cond.laysFinal "java/lang/String" "java/lang/String" "coder" "B").before a0 Z = true := G.1 _ (List.mem_of_getElem? (l := tables_1) (i := 32) rfl)
theorem w_7 {Z : State} {a0 : Array Value} (G : Cl Z a0) : (Jvm.Cond.instantiable "java/lang/String" 4).before a0 Z = true := G.1 _ (List.mem_of_getElem? (l := tables_1) (i := 7) rfl)
theorem w_34 {Z : State} {a0 : Array Value} (G : Cl Z a0) : (Jvm.Cond.laysFinal "java/lang/String" "java/lang/String" "value" "[B").before a0 Z = true := G.1 _ (List.mem_of_getElem? (l := tables_1) (i := 34) rfl)
theorem d_jdk_42_method_149_code_51 : decode jdk_42_method_149_code 51 = .ok (.aload_n 0, 1) := by decide +kernel
theorem d_jdk_42_method_149_code_52 : decode jdk_42_method_149_code 52 = .ok (.aload 5, 2) := by decide +kernel
theorem d_jdk_42_method_149_code_54 : decode jdk_42_method_149_code 54 = .ok (.putfield 9, 3) := by decide +kernel
theorem w_33 {Z : State} {a0 : Array Value} (G : Cl Z a0) : (Jvm.Cond.fieldLink "java/lang/String" 9 "java/lang/String" "value" "[B").before a0 Z = true := G.1 _ (List.mem_of_getElem? (l := tables_1) (i := 33) rfl)
theorem d_jdk_42_method_149_code_57 : decode jdk_42_method_149_code 57 = .ok (.return_, 1) := by decide +kernel
set_option maxRecDepth 65536 in
set_option maxHeartbeats 40000000 in
theorem rm_initV {l : Launch} {Z : State} {a0 : Array Value} (G : Cl Z a0) (a ac : Addr) (c cc : Cell) (cs : List Int32) (A : ArrC Z cc .char (chV cs)) (hO : ObjC Z c "java/lang/String") (hC : FldC Z c "java/lang/String" "coder" "B" (.int 0)) (hV : FldC Z c "java/lang/String" "value" "[B" .null) (hl : Lat cs) (hn : cs.length < 65536) (h0 : ¬ cs.length.toInt32 = 0) :
    Met l Z EL1 (⟨"java/lang/String", "<init>", "([CIILjava/lang/Void;)V"⟩ : MethodName) jdk_42_method_149_code 6 none ({ frames := 2, cells := 1, slots := cs.length, locals := 35 } : Room) #[.ref a, .ref ac, .int (0 : Int32), .int cs.length.toInt32, .null] [(a, c), (ac, cc)] [] (fun v σ ρ => ∃ c' b cb, v = none ∧ σ = [(ac, cc)] ∧ ρ = [(a, c'), (b, cb)] ∧ StrL Z c' b cb cs) := by
  refine Met.walk G.2.1 pn_2 #[.val (.ref a), .val (.ref ac), .val (.int (0 : Int32)), .val (.int cs.length.toInt32), .val (.null), .unset] (fun m => by first | (simp [entryFrame, mkF, argsToLocals, Value.category]; done) | rfl) ?_
  intro X T0 W0
  obtain ⟨cv, Scv, hcv⟩ := G.2.2.1
  refine Go.aloadN (pc' := 1) W0 d_jdk_42_method_149_code_0 rfl rfl rfl ?_
  refine Go.objInit (pc' := 4) W0 (w_16 G) (w_17 G) (w_18 G) rfl d_jdk_42_method_149_code_1 rfl (by first | exact Nat.le_of_ble_eq_true rfl | (simp; done) | (simp; omega) | omega) (by first | exact Nat.le_of_ble_eq_true rfl | (simp; done) | (simp; omega) | omega) (fun T1 W2 => ?_)
  refine Go.iloadN (pc' := 5) W2 d_jdk_42_method_149_code_4 rfl rfl ?_
  refine Go.if_ne (pc' := 8) W2 27 d_jdk_42_method_149_code_5 (by decide) rfl (fun _ => ?_) (fun q => absurd q h0)
  refine Go.getstatic (pc' := 30) W2 (w_19 G) Via.refl Scv d_jdk_42_method_149_code_27 rfl (fun T3 W4 => ?_)
  refine Go.if_eq (pc' := 33) W4 58 d_jdk_42_method_149_code_30 (by decide) rfl (fun q => absurd q hcv) (fun _ => ?_)
  refine Go.aloadN (pc' := 34) W4 d_jdk_42_method_149_code_33 rfl rfl rfl ?_
  refine Go.iloadN (pc' := 35) W4 d_jdk_42_method_149_code_34 rfl rfl ?_
  refine Go.iloadN (pc' := 36) W4 d_jdk_42_method_149_code_35 rfl rfl ?_
  refine Go.static (pc' := 39) W4 (rm_cmp3 G ac cc cs A hl hn) (w_20 G) (w_21 G) (w_22 G) (w_23 G) (by decide) [1] [] (σf := [(a, c)]) rfl rfl [(.ref ac), (.int (0 : Int32)), (.int cs.length.toInt32)] [] rfl (lenOf pd_3 rfl) rfl rfl d_jdk_42_method_149_code_36 rfl (by first | exact Nat.le_of_ble_eq_true rfl | (simp; done) | (simp; omega) | omega) (by first | exact Nat.le_of_ble_eq_true rfl | (simp; done) | (simp; omega) | omega) (by first | exact Nat.le_of_ble_eq_true rfl | (simp; done) | (simp; omega) | omega) (by first | exact Nat.le_of_ble_eq_true rfl | (simp; done) | (simp; omega) | omega) ?_
  rintro _ _ _ T5 ⟨b, cb, rfl, rfl, rfl, B⟩ W6
  replace W6 : Wk l Z EL1 ({ frames := 2, cells := 1, slots := cs.length, locals := 35 } : Room) "java/lang/String" jdk_42_method_149_code 6 none "<init>" X [(ac, cc), (b, cb), (a, c)] [] T5 1 (0 + cs.length) := W6
  show Go Z EL1 _ _ _ X T5 39 #[.val (.ref a), .val (.ref ac), .val (.int (0 : Int32)), .val (.int cs.length.toInt32), .val (.null), .unset] [(.ref b)]
  refine Go.astore (pc' := 41) W6 #[.val (.ref a), .val (.ref ac), .val (.int (0 : Int32)), .val (.int cs.length.toInt32), .val (.null), .val (.ref b)] d_jdk_42_method_149_code_39 rfl rfl rfl ?_
  refine Go.aloadN (pc' := 42) W6 d_jdk_42_method_149_code_41 rfl rfl rfl ?_
  refine Go.aload (pc' := 44) W6 d_jdk_42_method_149_code_42 rfl rfl rfl ?_
  refine Go.iloadN (pc' := 45) W6 d_jdk_42_method_149_code_44 rfl rfl ?_
  refine Go.static (pc' := 48) W6 (rm_cod G b cb cs B) (w_28 G) (w_29 G) (w_22 G) (w_30 G) (by decide) [1] [] (σf := [(ac, cc), (a, c)]) rfl rfl [(.ref b), (.int cs.length.toInt32)] [(.ref a)] rfl (lenOf pd_4 rfl) rfl rfl d_jdk_42_method_149_code_45 rfl (by first | exact Nat.le_of_ble_eq_true rfl | (simp; done) | (simp; omega) | omega) (by first | exact Nat.le_of_ble_eq_true rfl | (simp; done) | (simp; omega) | omega) (by first | exact Nat.le_of_ble_eq_true rfl | (simp; done) | (simp; omega) | omega) (by first | exact Nat.le_of_ble_eq_true rfl | (simp; done) | (simp; omega) | omega) ?_
  rintro _ _ _ T7 ⟨rfl, rfl, rfl⟩ W8
  replace W8 : Wk l Z EL1 ({ frames := 2, cells := 1, slots := cs.length, locals := 35 } : Room) "java/lang/String" jdk_42_method_149_code 6 none "<init>" X [(b, cb), (ac, cc), (a, c)] [] T7 1 (0 + cs.length + 0) := W8
  show Go Z EL1 _ _ _ X T7 48 #[.val (.ref a), .val (.ref ac), .val (.int (0 : Int32)), .val (.int cs.length.toInt32), .val (.null), .val (.ref b)] [(.int (0 : Int32)), (.ref a)]
  refine Go.putfield (pc' := 51) W8 2 rfl (w_31 G) Via.refl hC hO (Or.inr ⟨(w_32 G), rfl, rfl⟩) (w_7 G) (ty := .byte) (v' := .int (0 : Int32)) (by decide) rfl rfl d_jdk_42_method_149_code_48 rfl (fun T9 c11 q12 W10 => ?_)
  replace W10 : Wk l Z EL1 ({ frames := 2, cells := 1, slots := cs.length, locals := 35 } : Room) "java/lang/String" jdk_42_method_149_code 6 none "<init>" X [(b, cb), (ac, cc), (a, c11)] [] T9 1 (0 + cs.length + 0) := W10
  have O13 := hO.put' q12
  have F14 := hC.put' q12
  have F15 := hV.keep' q12 (slot_ne (Or.inr (w_34 G)) (Or.inr (w_32 G)) (by decide) (t := (.array .byte)) (t' := .byte) (by decide) (by decide))
  refine Go.aloadN (pc' := 52) W10 d_jdk_42_method_149_code_51 rfl rfl rfl ?_
  refine Go.aload (pc' := 54) W10 d_jdk_42_method_149_code_52 rfl rfl rfl ?_
  refine Go.putfield (pc' := 57) W10 2 rfl (w_33 G) Via.refl F15 O13 (Or.inr ⟨(w_34 G), rfl, rfl⟩) (w_7 G) (ty := (.array .byte)) (v' := .ref b) (by decide) rfl rfl d_jdk_42_method_149_code_54 rfl (fun T16 c18 q19 W17 => ?_)
  replace W17 : Wk l Z EL1 ({ frames := 2, cells := 1, slots := cs.length, locals := 35 } : Room) "java/lang/String" jdk_42_method_149_code 6 none "<init>" X [(b, cb), (ac, cc), (a, c18)] [] T16 1 (0 + cs.length + 0) := W17
  have O20 := O13.put' q19
  have F21 := F14.keep' q19 (slot_ne (Or.inr (w_32 G)) (Or.inr (w_34 G)) (by decide) (t := .byte) (t' := (.array .byte)) (by decide) (by decide))
  have F22 := F15.put' q19
  have W23 := W17.freeze [2, 0] (σi := [(a, c18), (b, cb)]) (σf := [(ac, cc)]) rfl
  replace W23 : Wk l Z EL1 ({ frames := 2, cells := 1, slots := cs.length, locals := 35 } : Room) "java/lang/String" jdk_42_method_149_code 6 none "<init>" X [(ac, cc)] [(a, c18), (b, cb)] T16 1 (0 + cs.length + 0) := W23
  refine Go.retV W23 d_jdk_42_method_149_code_57 (by first | exact Nat.le_of_ble_eq_true rfl | (simp; done) | (simp; omega) | omega) (by first | exact Nat.le_of_ble_eq_true rfl | (simp; done) | (simp; omega) | omega) ?_
  exact ⟨_, b, cb, rfl, rfl, rfl, O20, F21, F22, B, hl⟩
theorem d_jdk_42_method_149_code_8 : decode jdk_42_method_149_code 8 = .ok (.aload_n 0, 1) := by decide +kernel
theorem d_jdk_42_method_149_code_9 : decode jdk_42_method_149_code 9 = .ok (.ldc 7, 2) := by decide +kernel
theorem w_101 {Z : State} {a0 : Array Value} (G : Cl Z a0) : (Jvm.Cond.stringLink "java/lang/String" 7 "").before a0 Z = true := G.1 _ (List.mem_of_getElem? (l := tables_1) (i := 101) rfl)
theorem d_jdk_42_method_149_code_11 : decode jdk_42_method_149_code 11 = .ok (.getfield 9, 3) := by decide +kernel
theorem d_jdk_42_method_149_code_14 : decode jdk_42_method_149_code 14 = .ok (.putfield 9, 3) := by decide +kernel
theorem d_jdk_42_method_149_code_17 : decode jdk_42_method_149_code 17 = .ok (.aload_n 0, 1) := by decide +kernel
theorem d_jdk_42_method_149_code_18 : decode jdk_42_method_149_code 18 = .ok (.ldc 7, 2) := by decide +kernel
theorem d_jdk_42_method_149_code_20 : decode jdk_42_method_149_code 20 = .ok (.getfield 15, 3) := by decide +kernel
theorem d_jdk_42_method_149_code_23 : decode jdk_42_method_149_code 23 = .ok (.putfield 15, 3) := by decide +kernel
theorem d_jdk_42_method_149_code_26 : decode jdk_42_method_149_code 26 = .ok (.return_, 1) := by decide +kernel
set_option maxRecDepth 65536 in
set_option maxHeartbeats 40000000 in
theorem rm_initV0 {l : Launch} {Z : State} {a0 : Array Value} (G : Cl Z a0) (a ac : Addr) (c cc : Cell) (A : ArrC Z cc .char []) (hO : ObjC Z c "java/lang/String") (hC : FldC Z c "java/lang/String" "coder" "B" (.int 0)) (hV : FldC Z c "java/lang/String" "value" "[B" .null) :
    Met l Z EL1 (⟨"java/lang/String", "<init>", "([CIILjava/lang/Void;)V"⟩ : MethodName) jdk_42_method_149_code 6 none ({ frames := 1, cells := 4, slots := 8, locals := 12 } : Room) #[.ref a, .ref ac, .int (0 : Int32), .int (0 : Int32), .null] [(a, c), (ac, cc)] [] (fun v σ ρ => ∃ c' b cb, v = none ∧ σ = [(ac, cc)] ∧ ρ = [(a, c'), (b, cb)] ∧ StrL Z c' b cb []) := by
  refine Met.walk G.2.1 pn_2 #[.val (.ref a), .val (.ref ac), .val (.int (0 : Int32)), .val (.int (0 : Int32)), .val (.null), .unset] (fun m => by first | (simp [entryFrame, mkF, argsToLocals, Value.category]; done) | rfl) ?_
  intro X T0 W0
  refine Go.aloadN (pc' := 1) W0 d_jdk_42_method_149_code_0 rfl rfl rfl ?_
  refine Go.objInit (pc' := 4) W0 (w_16 G) (w_17 G) (w_18 G) rfl d_jdk_42_method_149_code_1 rfl (by first | exact Nat.le_of_ble_eq_true rfl | (simp; done) | (simp; omega) | omega) (by first | exact Nat.le_of_ble_eq_true rfl | (simp; done) | (simp; omega) | omega) (fun T1 W2 => ?_)
  refine Go.iloadN (pc' := 5) W2 d_jdk_42_method_149_code_4 rfl rfl ?_
  refine Go.if_ne (pc' := 8) W2 27 d_jdk_42_method_149_code_5 (by decide) rfl (fun q => absurd (by decide) q) (fun _ => ?_)
  refine Go.aloadN (pc' := 9) W2 d_jdk_42_method_149_code_8 rfl rfl rfl ?_
  refine Go.ldcStr (pc' := 11) W2 G.2.1 (w_101 G) (strAtoms G) (by decide) (bs := []) (z := 0) (by decide +kernel) (by decide) (by decide) (by decide) d_jdk_42_method_149_code_9 rfl (m := 0) (by decide +kernel) (by decide) (by first | exact Nat.le_of_ble_eq_true rfl | (simp; done) | (simp; omega) | omega) (by first | exact Nat.le_of_ble_eq_true rfl | (simp; done) | (simp; omega) | omega) (fun T3 a5 b6 c7 c8 W4 O9 F10 F11 A12 => ?_)
  replace W4 : Wk l Z EL1 ({ frames := 1, cells := 4, slots := 8, locals := 12 } : Room) "java/lang/String" jdk_42_method_149_code 6 none "<init>" X [(a, c), (ac, cc)] [(a5, c7), (b6, c8)] T3 2 (4) := W4
  refine Go.getfield (pc' := 14) W4 (Or.inr (Or.inl (List.mem_of_getElem? (i := 0) rfl))) (w_33 G) Via.refl F11 d_jdk_42_method_149_code_11 rfl (fun T13 W14 => ?_)
  refine Go.putfield (pc' := 17) W14 0 rfl (w_33 G) Via.refl hV hO (Or.inr ⟨(w_34 G), rfl, rfl⟩) (w_7 G) (ty := (.array .byte)) (v' := .ref b6) (by decide) rfl rfl d_jdk_42_method_149_code_14 rfl (fun T15 c17 q18 W16 => ?_)
  replace W16 : Wk l Z EL1 ({ frames := 1, cells := 4, slots := 8, locals := 12 } : Room) "java/lang/String" jdk_42_method_149_code 6 none "<init>" X [(a, c17), (ac, cc)] [(a5, c7), (b6, c8)] T15 2 (4) := W16
  have O19 := hO.put' q18
  have F20 := hC.keep' q18 (slot_ne (Or.inr (w_32 G)) (Or.inr (w_34 G)) (by decide) (t := .byte) (t' := (.array .byte)) (by decide) (by decide))
  have F21 := hV.put' q18
  refine Go.aloadN (pc' := 18) W16 d_jdk_42_method_149_code_17 rfl rfl rfl ?_
  refine Go.ldcStr (pc' := 20) W16 G.2.1 (w_101 G) (strAtoms G) (by decide) (bs := []) (z := 0) (by decide +kernel) (by decide) (by decide) (by decide) d_jdk_42_method_149_code_18 rfl (m := 0) (by decide +kernel) (by decide) (by first | exact Nat.le_of_ble_eq_true rfl | (simp; done) | (simp; omega) | omega) (by first | exact Nat.le_of_ble_eq_true rfl | (simp; done) | (simp; omega) | omega) (fun T22 a24 b25 c26 c27 W23 O28 F29 F30 A31 => ?_)
  replace W23 : Wk l Z EL1 ({ frames := 1, cells := 4, slots := 8, locals := 12 } : Room) "java/lang/String" jdk_42_method_149_code 6 none "<init>" X [(a, c17), (ac, cc)] [(a24, c26), (b25, c27), (a5, c7), (b6, c8)] T22 4 (8) := W23
  refine Go.getfield (pc' := 23) W23 (Or.inr (Or.inl (List.mem_of_getElem? (i := 0) rfl))) (w_31 G) Via.refl F29 d_jdk_42_method_149_code_20 rfl (fun T32 W33 => ?_)
  refine Go.putfield (pc' := 26) W33 0 rfl (w_31 G) Via.refl F20 O19 (Or.inr ⟨(w_32 G), rfl, rfl⟩) (w_7 G) (ty := .byte) (v' := .int (0 : Int32)) (by decide) rfl rfl d_jdk_42_method_149_code_23 rfl (fun T34 c36 q37 W35 => ?_)
  replace W35 : Wk l Z EL1 ({ frames := 1, cells := 4, slots := 8, locals := 12 } : Room) "java/lang/String" jdk_42_method_149_code 6 none "<init>" X [(a, c36), (ac, cc)] [(a24, c26), (b25, c27), (a5, c7), (b6, c8)] T34 4 (8) := W35
  have O38 := O19.put' q37
  have F39 := F20.put' q37
  have F40 := F21.keep' q37 (slot_ne (Or.inr (w_34 G)) (Or.inr (w_32 G)) (by decide) (t := (.array .byte)) (t' := .byte) (by decide) (by decide))
  have W41 := W35.freeze [0] (σi := [(a, c36)]) (σf := [(ac, cc)]) rfl
  replace W41 : Wk l Z EL1 ({ frames := 1, cells := 4, slots := 8, locals := 12 } : Room) "java/lang/String" jdk_42_method_149_code 6 none "<init>" X [(ac, cc)] [(a, c36), (a24, c26), (b25, c27), (a5, c7), (b6, c8)] T34 4 (8) := W41
  have W42 := W41.keepRo [0, 4] (ρ' := [(a, c36), (b6, c8)]) rfl
  replace W42 : Wk l Z EL1 ({ frames := 1, cells := 4, slots := 8, locals := 12 } : Room) "java/lang/String" jdk_42_method_149_code 6 none "<init>" X [(ac, cc)] [(a, c36), (b6, c8)] T34 4 (8) := W42
  refine Go.retV W42 d_jdk_42_method_149_code_26 (by first | exact Nat.le_of_ble_eq_true rfl | (simp; done) | (simp; omega) | omega) (by first | exact Nat.le_of_ble_eq_true rfl | (simp; done) | (simp; omega) | omega) ?_
  exact ⟨_, b6, c8, rfl, rfl, rfl, O38, F39, F40, A12, Lat.nil⟩
theorem d_jdk_42_method_3_code_0 : decode jdk_42_method_3_code 0 = .ok (.aload_n 0, 1) := by decide +kernel
theorem d_jdk_42_method_3_code_1 : decode jdk_42_method_3_code 1 = .ok (.aload_n 1, 1) := by decide +kernel
theorem d_jdk_42_method_3_code_2 : decode jdk_42_method_3_code 2 = .ok (.iconst 0, 1) := by decide +kernel
theorem d_jdk_42_method_3_code_3 : decode jdk_42_method_3_code 3 = .ok (.aload_n 1, 1) := by decide +kernel
theorem d_jdk_42_method_3_code_4 : decode jdk_42_method_3_code 4 = .ok (.arraylength, 1) := by decide +kernel
theorem d_jdk_42_method_3_code_5 : decode jdk_42_method_3_code 5 = .ok (.aconst_null, 1) := by decide +kernel
theorem d_jdk_42_method_3_code_6 : decode jdk_42_method_3_code 6 = .ok (.invokespecial 27, 3) := by decide +kernel
theorem w_12 {Z : State} {a0 : Array Value} (G : Cl Z a0) : (Jvm.Cond.methodLink "java/lang/String" 27 (⟨"java/lang/String", "<init>", "([CIILjava/lang/Void;)V"⟩ : MethodName)).before a0 Z = true := G.1 _ (List.mem_of_getElem? (l := tables_1) (i := 12) rfl)
theorem w_8 {Z : State} {a0 : Array Value} (G : Cl Z a0) : (Jvm.Cond.initialized "java/lang/String").before a0 Z = true := G.1 _ (List.mem_of_getElem? (l := tables_1) (i := 8) rfl)
theorem w_15 {Z : State} {a0 : Array Value} (G : Cl Z a0) : (Jvm.Cond.code (⟨"java/lang/String", "<init>", "([CIILjava/lang/Void;)V"⟩ : MethodName) jdk_42_method_149_code 6 none).before a0 Z = true := G.1 _ (List.mem_of_getElem? (l := tables_1) (i := 15) rfl)
theorem pd_5 : parseMethodDescriptor "([CIILjava/lang/Void;)V" = some ⟨[(.array .char), .int, .int, (.object "java/lang/Void")], none⟩ := by decide +kernel
theorem w_13 {Z : State} {a0 : Array Value} (G : Cl Z a0) : (Jvm.Cond.instanceMethod (⟨"java/lang/String", "<init>", "([CIILjava/lang/Void;)V"⟩ : MethodName)).before a0 Z = true := G.1 _ (List.mem_of_getElem? (l := tables_1) (i := 13) rfl)
theorem d_jdk_42_method_3_code_9 : decode jdk_42_method_3_code 9 = .ok (.return_, 1) := by decide +kernel
set_option maxRecDepth 65536 in
set_option maxHeartbeats 40000000 in
theorem rm_initC0 {l : Launch} {Z : State} {a0 : Array Value} (G : Cl Z a0) (a ac : Addr) (c cc : Cell) (A : ArrC Z cc .char []) (hO : ObjC Z c "java/lang/String") (hC : FldC Z c "java/lang/String" "coder" "B" (.int 0)) (hV : FldC Z c "java/lang/String" "value" "[B" .null) :
    Met l Z EL1 (⟨"java/lang/String", "<init>", "([C)V"⟩ : MethodName) jdk_42_method_3_code 2 none ({ frames := 2, cells := 4, slots := 8, locals := 29 } : Room) #[.ref a, .ref ac] [(a, c), (ac, cc)] [] (fun v σ ρ => ∃ c' b cb, v = none ∧ σ = [(ac, cc)] ∧ ρ = [(a, c'), (b, cb)] ∧ StrL Z c' b cb []) := by
  refine Met.walk G.2.1 pn_2 #[.val (.ref a), .val (.ref ac)] (fun m => by first | (simp [entryFrame, mkF, argsToLocals, Value.category]; done) | rfl) ?_
  intro X T0 W0
  refine Go.aloadN (pc' := 1) W0 d_jdk_42_method_3_code_0 rfl rfl rfl ?_
  refine Go.aloadN (pc' := 2) W0 d_jdk_42_method_3_code_1 rfl rfl rfl ?_
  refine Go.iconst (pc' := 3) W0 (0 : Int32) d_jdk_42_method_3_code_2 (by decide) rfl ?_
  refine Go.aloadN (pc' := 4) W0 d_jdk_42_method_3_code_3 rfl rfl rfl ?_
  refine Go.arrlen (pc' := 5) W0 (Or.inl (List.mem_of_getElem? (i := 1) rfl)) A (0 : Int32) rfl d_jdk_42_method_3_code_4 rfl ?_
  refine Go.aconstNull (pc' := 6) W0 d_jdk_42_method_3_code_5 rfl ?_
  refine Go.special (pc' := 9) W0 (a := a) (rm_initV0 G a ac c cc A hO hC hV) rfl (w_12 G) (w_13 G) (w_8 G) (w_15 G) (by decide) [0, 0] [] (σf := []) rfl rfl [(.ref ac), (.int (0 : Int32)), (.int (0 : Int32)), (.null)] [] rfl (lenOf pd_5 rfl) rfl rfl d_jdk_42_method_3_code_6 rfl (by first | exact Nat.le_of_ble_eq_true rfl | (simp; done) | (simp; omega) | omega) (by first | exact Nat.le_of_ble_eq_true rfl | (simp; done) | (simp; omega) | omega) (by first | exact Nat.le_of_ble_eq_true rfl | (simp; done) | (simp; omega) | omega) (by first | exact Nat.le_of_ble_eq_true rfl | (simp; done) | (simp; omega) | omega) ?_
  rintro _ _ _ T1 ⟨c', b, cb, rfl, rfl, rfl, S⟩ W2
  replace W2 : Wk l Z EL1 ({ frames := 2, cells := 4, slots := 8, locals := 29 } : Room) "java/lang/String" jdk_42_method_3_code 2 none "<init>" X [(ac, cc)] [(a, c'), (b, cb)] T1 4 (8) := W2
  show Go Z EL1 _ _ _ X T1 9 #[.val (.ref a), .val (.ref ac)] []
  refine Go.retV W2 d_jdk_42_method_3_code_9 (by first | exact Nat.le_of_ble_eq_true rfl | (simp; done) | (simp; omega) | omega) (by first | exact Nat.le_of_ble_eq_true rfl | (simp; done) | (simp; omega) | omega) ?_
  exact ⟨c', b, cb, rfl, rfl, rfl, S⟩
set_option maxRecDepth 65536 in
set_option maxHeartbeats 40000000 in
theorem rm_initC {l : Launch} {Z : State} {a0 : Array Value} (G : Cl Z a0) (a ac : Addr) (c cc : Cell) (cs : List Int32) (A : ArrC Z cc .char (chV cs)) (hO : ObjC Z c "java/lang/String") (hC : FldC Z c "java/lang/String" "coder" "B" (.int 0)) (hV : FldC Z c "java/lang/String" "value" "[B" .null) (hl : Lat cs) (hn : cs.length < 65536) (h0 : ¬ cs.length.toInt32 = 0) :
    Met l Z EL1 (⟨"java/lang/String", "<init>", "([C)V"⟩ : MethodName) jdk_42_method_3_code 2 none ({ frames := 3, cells := 1, slots := cs.length, locals := 52 } : Room) #[.ref a, .ref ac] [(a, c), (ac, cc)] [] (fun v σ ρ => ∃ c' b cb, v = none ∧ σ = [(ac, cc)] ∧ ρ = [(a, c'), (b, cb)] ∧ StrL Z c' b cb cs) := by
  refine Met.walk G.2.1 pn_2 #[.val (.ref a), .val (.ref ac)] (fun m => by first | (simp [entryFrame, mkF, argsToLocals, Value.category]; done) | rfl) ?_
  intro X T0 W0
  refine Go.aloadN (pc' := 1) W0 d_jdk_42_method_3_code_0 rfl rfl rfl ?_
  refine Go.aloadN (pc' := 2) W0 d_jdk_42_method_3_code_1 rfl rfl rfl ?_
  refine Go.iconst (pc' := 3) W0 (0 : Int32) d_jdk_42_method_3_code_2 (by decide) rfl ?_
  refine Go.aloadN (pc' := 4) W0 d_jdk_42_method_3_code_3 rfl rfl rfl ?_
  refine Go.arrlen (pc' := 5) W0 (Or.inl (List.mem_of_getElem? (i := 1) rfl)) A cs.length.toInt32 (by rw [chV, List.length_map]) d_jdk_42_method_3_code_4 rfl ?_
  refine Go.aconstNull (pc' := 6) W0 d_jdk_42_method_3_code_5 rfl ?_
  refine Go.special (pc' := 9) W0 (a := a) (rm_initV G a ac c cc cs A hO hC hV hl hn h0) rfl (w_12 G) (w_13 G) (w_8 G) (w_15 G) (by decide) [0, 0] [] (σf := []) rfl rfl [(.ref ac), (.int (0 : Int32)), (.int cs.length.toInt32), (.null)] [] rfl (lenOf pd_5 rfl) rfl rfl d_jdk_42_method_3_code_6 rfl (by first | exact Nat.le_of_ble_eq_true rfl | (simp; done) | (simp; omega) | omega) (by first | exact Nat.le_of_ble_eq_true rfl | (simp; done) | (simp; omega) | omega) (by first | exact Nat.le_of_ble_eq_true rfl | (simp; done) | (simp; omega) | omega) (by first | exact Nat.le_of_ble_eq_true rfl | (simp; done) | (simp; omega) | omega) ?_
  rintro _ _ _ T1 ⟨c', b, cb, rfl, rfl, rfl, S⟩ W2
  replace W2 : Wk l Z EL1 ({ frames := 3, cells := 1, slots := cs.length, locals := 52 } : Room) "java/lang/String" jdk_42_method_3_code 2 none "<init>" X [(ac, cc)] [(a, c'), (b, cb)] T1 1 (0 + cs.length) := W2
  show Go Z EL1 _ _ _ X T1 9 #[.val (.ref a), .val (.ref ac)] []
  refine Go.retV W2 d_jdk_42_method_3_code_9 (by first | exact Nat.le_of_ble_eq_true rfl | (simp; done) | (simp; omega) | omega) (by first | exact Nat.le_of_ble_eq_true rfl | (simp; done) | (simp; omega) | omega) ?_
  exact ⟨c', b, cb, rfl, rfl, rfl, S⟩
theorem d_jdk_43_method_13_code_0 : decode jdk_43_method_13_code 0 = .ok (.aload_n 0, 1) := by decide +kernel
theorem d_jdk_43_method_13_code_1 : decode jdk_43_method_13_code 1 = .ok (.arraylength, 1) := by decide +kernel
theorem d_jdk_43_method_13_code_2 : decode jdk_43_method_13_code 2 = .ok (.aload_n 1, 1) := by decide +kernel
theorem d_jdk_43_method_13_code_3 : decode jdk_43_method_13_code 3 = .ok (.arraylength, 1) := by decide +kernel
theorem d_jdk_43_method_13_code_4 : decode jdk_43_method_13_code 4 = .ok (.if_icmp .ne 30, 3) := by decide +kernel
theorem d_jdk_43_method_13_code_7 : decode jdk_43_method_13_code 7 = .ok (.iconst 0, 1) := by decide +kernel
theorem d_jdk_43_method_13_code_8 : decode jdk_43_method_13_code 8 = .ok (.istore_n 2, 1) := by decide +kernel
theorem d_jdk_43_method_13_code_9 : decode jdk_43_method_13_code 9 = .ok (.iload_n 2, 1) := by decide +kernel
theorem d_jdk_43_method_13_code_10 : decode jdk_43_method_13_code 10 = .ok (.aload_n 0, 1) := by decide +kernel
theorem d_jdk_43_method_13_code_11 : decode jdk_43_method_13_code 11 = .ok (.arraylength, 1) := by decide +kernel
theorem d_jdk_43_method_13_code_12 : decode jdk_43_method_13_code 12 = .ok (.if_icmp .ge 20, 3) := by decide +kernel
theorem d_jdk_43_method_13_code_15 : decode jdk_43_method_13_code 15 = .ok (.aload_n 0, 1) := by decide +kernel
theorem d_jdk_43_method_13_code_16 : decode jdk_43_method_13_code 16 = .ok (.iload_n 2, 1) := by decide +kernel
theorem d_jdk_43_method_13_code_17 : decode jdk_43_method_13_code 17 = .ok (.baload, 1) := by decide +kernel
theorem d_jdk_43_method_13_code_18 : decode jdk_43_method_13_code 18 = .ok (.aload_n 1, 1) := by decide +kernel
theorem d_jdk_43_method_13_code_19 : decode jdk_43_method_13_code 19 = .ok (.iload_n 2, 1) := by decide +kernel
theorem d_jdk_43_method_13_code_20 : decode jdk_43_method_13_code 20 = .ok (.baload, 1) := by decide +kernel
theorem d_jdk_43_method_13_code_21 : decode jdk_43_method_13_code 21 = .ok (.if_icmp .eq 5, 3) := by decide +kernel
theorem d_jdk_43_method_13_code_24 : decode jdk_43_method_13_code 24 = .ok (.iconst 0, 1) := by decide +kernel
theorem d_jdk_43_method_13_code_25 : decode jdk_43_method_13_code 25 = .ok (.ireturn, 1) := by decide +kernel
theorem d_jdk_43_method_13_code_26 : decode jdk_43_method_13_code 26 = .ok (.iinc 2 1, 3) := by decide +kernel
theorem d_jdk_43_method_13_code_29 : decode jdk_43_method_13_code 29 = .ok (.goto (-20), 3) := by decide +kernel
theorem d_jdk_43_method_13_code_32 : decode jdk_43_method_13_code 32 = .ok (.iconst 1, 1) := by decide +kernel
theorem d_jdk_43_method_13_code_33 : decode jdk_43_method_13_code 33 = .ok (.ireturn, 1) := by decide +kernel
theorem d_jdk_43_method_13_code_34 : decode jdk_43_method_13_code 34 = .ok (.iconst 0, 1) := by decide +kernel
theorem d_jdk_43_method_13_code_35 : decode jdk_43_method_13_code 35 = .ok (.ireturn, 1) := by decide +kernel
theorem lp_leq {l : Launch} {Z : State} {X : Ctx} {b b' : Addr} {cb cb' : Cell} {xs ys : List Int32} (A : ArrC Z cb .byte (chV xs)) (B : ArrC Z cb' .byte (chV ys)) (hn : xs.length < 2147483648) (he : xs.length = ys.length) :
    ∀ (j i : Nat), i + j = xs.length → xs.take i = ys.take i → ∀ (T : State), Wk l Z EL1 ({ frames := 0, cells := 0, slots := 0, locals := 0 } : Room) "java/lang/StringLatin1" jdk_43_method_13_code 3 (some .boolean) "equals" X [] [(b, cb), (b', cb')] T 0 0 → Go Z EL1 0 0 (fun v σ ρ => v = some (.int (if xs = ys then 1 else 0)) ∧ σ = [] ∧ ρ = [(b, cb), (b', cb')]) X T 9 #[.val (.ref b), .val (.ref b'), .val (.int i.toInt32)] []
  | 0, i, hij, ht, T, W => by
    obtain rfl : i = xs.length := by omega
    have hxy : xs = ys := by rw [List.take_length, he, List.take_length] at ht; exact ht
    refine Go.iloadN (pc' := 10) W d_jdk_43_method_13_code_9 rfl rfl ?_
    refine Go.aloadN (pc' := 11) W d_jdk_43_method_13_code_10 rfl rfl rfl ?_
    refine Go.arrlen (pc' := 12) W (Or.inr (Or.inl (List.mem_of_getElem? (i := 0) rfl))) A xs.length.toInt32 (by rw [chV, List.length_map]) d_jdk_43_method_13_code_11 rfl ?_
    refine Go.icmp_ge (pc' := 15) W 32 d_jdk_43_method_13_code_12 (by decide) rfl (fun _ => ?_) (fun q => absurd q (by rw [i32_lt hn hn]; omega))
    refine Go.iconst (pc' := 33) W (1 : Int32) d_jdk_43_method_13_code_32 (by decide) rfl ?_
    exact Go.nret (z' := 1) W (by simp) (by decide) d_jdk_43_method_13_code_33 (by decide) (by decide) ⟨by rw [if_pos hxy], rfl, rfl⟩
  | j + 1, i, hij, ht, T, W => by
    have hi : i < xs.length := by omega
    obtain ⟨x, hx⟩ : ∃ x, xs[i]? = some x := ⟨_, List.getElem?_eq_getElem hi⟩
    obtain ⟨y, hy⟩ : ∃ y, ys[i]? = some y := ⟨_, List.getElem?_eq_getElem (by omega)⟩
    refine Go.iloadN (pc' := 10) W d_jdk_43_method_13_code_9 rfl rfl ?_
    refine Go.aloadN (pc' := 11) W d_jdk_43_method_13_code_10 rfl rfl rfl ?_
    refine Go.arrlen (pc' := 12) W (Or.inr (Or.inl (List.mem_of_getElem? (i := 0) rfl))) A xs.length.toInt32 (by rw [chV, List.length_map]) d_jdk_43_method_13_code_11 rfl ?_
    refine Go.icmp_ge (pc' := 15) W 32 d_jdk_43_method_13_code_12 (by decide) rfl (fun q => absurd ((i32_lt (by omega) hn).mpr hi) q) (fun _ => ?_)
    refine Go.aloadN (pc' := 16) W d_jdk_43_method_13_code_15 rfl rfl rfl ?_
    refine Go.iloadN (pc' := 17) W d_jdk_43_method_13_code_16 rfl rfl ?_
    refine Go.baload (pc' := 18) W (Or.inr (Or.inl (List.mem_of_getElem? (i := 0) rfl))) A i (i32_nn (by omega)) (i32_clamp (by omega)) (v := .int x) (by rw [chV, List.getElem?_map, hx]; rfl) d_jdk_43_method_13_code_17 rfl ?_
    refine Go.aloadN (pc' := 19) W d_jdk_43_method_13_code_18 rfl rfl rfl ?_
    refine Go.iloadN (pc' := 20) W d_jdk_43_method_13_code_19 rfl rfl ?_
    refine Go.baload (pc' := 21) W (Or.inr (Or.inl (List.mem_of_getElem? (i := 1) rfl))) B i (i32_nn (by omega)) (i32_clamp (by omega)) (v := .int y) (by rw [chV, List.getElem?_map, hy]; rfl) d_jdk_43_method_13_code_20 rfl ?_
    refine Go.icmp_eq (pc' := 24) W 26 d_jdk_43_method_13_code_21 (by decide) rfl (fun (c : x = y) => ?_) (fun (c : ¬ x = y) => ?_)
    · refine Go.iinc (pc' := 29) W (1 : Int32) #[.val (.ref b), .val (.ref b'), .val (.int (i.toInt32 + 1))] d_jdk_43_method_13_code_26 rfl (by decide) rfl rfl ?_
      refine Go.goto W 9 d_jdk_43_method_13_code_29 (by decide) ?_
      rw [i32_succ (by omega)]
      exact lp_leq A B hn he j (i + 1) (by omega) (by rw [take_succ' hx, take_succ' hy, ht, c]) T W
    · refine Go.iconst (pc' := 25) W (0 : Int32) d_jdk_43_method_13_code_24 (by decide) rfl ?_
      refine Go.nret (z' := 0) W (by simp) (by decide) d_jdk_43_method_13_code_25 (by decide) (by decide) ⟨?_, rfl, rfl⟩
      rw [if_neg]
      rintro rfl
      exact c (Option.some.inj (hx.symm.trans hy))
theorem pn_6 : plainName "java/lang/StringLatin1" = true := by first | (simp [plainName, overriddenIn]; done) | decide +kernel
theorem rm_leq {l : Launch} {Z : State} {a0 : Array Value} (G : Cl Z a0) (b b' : Addr) (cb cb' : Cell) (xs ys : List Int32) (A : ArrC Z cb .byte (chV xs)) (B : ArrC Z cb' .byte (chV ys)) :
    Met l Z EL1 (⟨"java/lang/StringLatin1", "equals", "([B[B)Z"⟩ : MethodName) jdk_43_method_13_code 3 (some .boolean) ({ frames := 0, cells := 0, slots := 0, locals := 0 } : Room) #[.ref b, .ref b'] [] [(b, cb), (b', cb')] (fun v σ ρ => v = some (.int (if xs = ys then 1 else 0)) ∧ σ = [] ∧ ρ = [(b, cb), (b', cb')]) := by
  have hn : xs.length < 2147483648 := by have := A.2.2.2.2; rwa [chV, List.length_map] at this
  have hn' : ys.length < 2147483648 := by have := B.2.2.2.2; rwa [chV, List.length_map] at this
  refine Met.walk G.2.1 pn_6 #[.val (.ref b), .val (.ref b'), .unset] (fun m => by first | (simp [entryFrame, mkF, argsToLocals, Value.category]; done) | rfl) ?_
  intro X T W
  refine Go.aloadN (pc' := 1) W d_jdk_43_method_13_code_0 rfl rfl rfl ?_
  refine Go.arrlen (pc' := 2) W (Or.inr (Or.inl (List.mem_of_getElem? (i := 0) rfl))) A xs.length.toInt32 (by rw [chV, List.length_map]) d_jdk_43_method_13_code_1 rfl ?_
  refine Go.aloadN (pc' := 3) W d_jdk_43_method_13_code_2 rfl rfl rfl ?_
  refine Go.arrlen (pc' := 4) W (Or.inr (Or.inl (List.mem_of_getElem? (i := 1) rfl))) B ys.length.toInt32 (by rw [chV, List.length_map]) d_jdk_43_method_13_code_3 rfl ?_
  refine Go.icmp_ne (pc' := 7) W 34 d_jdk_43_method_13_code_4 (by decide) rfl (fun (c : ¬ xs.length.toInt32 = ys.length.toInt32) => ?_) (fun (c : xs.length.toInt32 = ys.length.toInt32) => ?_)
  · refine Go.iconst (pc' := 35) W (0 : Int32) d_jdk_43_method_13_code_34 (by decide) rfl ?_
    refine Go.nret (z' := 0) W (by simp) (by decide) d_jdk_43_method_13_code_35 (by decide) (by decide) ⟨?_, rfl, rfl⟩
    rw [if_neg]
    rintro rfl
    exact c rfl
  · refine Go.iconst (pc' := 8) W (0 : Int32) d_jdk_43_method_13_code_7 (by decide) rfl ?_
    refine Go.istoreN (pc' := 9) W #[.val (.ref b), .val (.ref b'), .val (.int 0)] d_jdk_43_method_13_code_8 rfl rfl ?_
    exact lp_leq A B hn ((i32_inj hn hn').mp c) xs.length 0 (by omega) rfl T W
theorem d_jdk_42_method_66_code_0 : decode jdk_42_method_66_code 0 = .ok (.aload_n 0, 1) := by decide +kernel
theorem d_jdk_42_method_66_code_1 : decode jdk_42_method_66_code 1 = .ok (.aload_n 1, 1) := by decide +kernel
theorem d_jdk_42_method_66_code_2 : decode jdk_42_method_66_code 2 = .ok (.if_acmp .ne 5, 3) := by decide +kernel
theorem d_jdk_42_method_66_code_5 : decode jdk_42_method_66_code 5 = .ok (.iconst 1, 1) := by decide +kernel
theorem d_jdk_42_method_66_code_6 : decode jdk_42_method_66_code 6 = .ok (.ireturn, 1) := by decide +kernel
theorem d_jdk_42_method_66_code_7 : decode jdk_42_method_66_code 7 = .ok (.aload_n 1, 1) := by decide +kernel
theorem d_jdk_42_method_66_code_8 : decode jdk_42_method_66_code 8 = .ok (.instanceof 10, 3) := by decide +kernel
theorem w_43 {Z : State} {a0 : Array Value} (G : Cl Z a0) : (Jvm.Cond.classLink "java/lang/String" 10 "java/lang/String").before a0 Z = true := G.1 _ (List.mem_of_getElem? (l := tables_1) (i := 43) rfl)
theorem d_jdk_42_method_66_code_11 : decode jdk_42_method_66_code 11 = .ok (.ifCond .eq 43, 3) := by decide +kernel
theorem d_jdk_42_method_66_code_14 : decode jdk_42_method_66_code 14 = .ok (.aload_n 1, 1) := by decide +kernel
theorem d_jdk_42_method_66_code_15 : decode jdk_42_method_66_code 15 = .ok (.checkcast 10, 3) := by decide +kernel
theorem d_jdk_42_method_66_code_18 : decode jdk_42_method_66_code 18 = .ok (.astore_n 2, 1) := by decide +kernel
theorem d_jdk_42_method_66_code_19 : decode jdk_42_method_66_code 19 = .ok (.getstatic 38, 3) := by decide +kernel
theorem d_jdk_42_method_66_code_22 : decode jdk_42_method_66_code 22 = .ok (.ifCond .eq 14, 3) := by decide +kernel
theorem d_jdk_42_method_66_code_25 : decode jdk_42_method_66_code 25 = .ok (.aload_n 0, 1) := by decide +kernel
theorem d_jdk_42_method_66_code_26 : decode jdk_42_method_66_code 26 = .ok (.getfield 15, 3) := by decide +kernel
theorem d_jdk_42_method_66_code_29 : decode jdk_42_method_66_code 29 = .ok (.aload_n 2, 1) := by decide +kernel
theorem d_jdk_42_method_66_code_30 : decode jdk_42_method_66_code 30 = .ok (.getfield 15, 3) := by decide +kernel
theorem d_jdk_42_method_66_code_33 : decode jdk_42_method_66_code 33 = .ok (.if_icmp .ne 21, 3) := by decide +kernel
theorem d_jdk_42_method_66_code_36 : decode jdk_42_method_66_code 36 = .ok (.aload_n 0, 1) := by decide +kernel
theorem d_jdk_42_method_66_code_37 : decode jdk_42_method_66_code 37 = .ok (.getfield 9, 3) := by decide +kernel
theorem d_jdk_42_method_66_code_40 : decode jdk_42_method_66_code 40 = .ok (.aload_n 2, 1) := by decide +kernel
theorem d_jdk_42_method_66_code_41 : decode jdk_42_method_66_code 41 = .ok (.getfield 9, 3) := by decide +kernel
theorem d_jdk_42_method_66_code_44 : decode jdk_42_method_66_code 44 = .ok (.invokestatic 541, 3) := by decide +kernel
theorem w_44 {Z : State} {a0 : Array Value} (G : Cl Z a0) : (Jvm.Cond.methodLink "java/lang/String" 541 (⟨"java/lang/StringLatin1", "equals", "([B[B)Z"⟩ : MethodName)).before a0 Z = true := G.1 _ (List.mem_of_getElem? (l := tables_1) (i := 44) rfl)
theorem w_46 {Z : State} {a0 : Array Value} (G : Cl Z a0) : (Jvm.Cond.initialized "java/lang/StringLatin1").before a0 Z = true := G.1 _ (List.mem_of_getElem? (l := tables_1) (i := 46) rfl)
theorem w_47 {Z : State} {a0 : Array Value} (G : Cl Z a0) : (Jvm.Cond.code (⟨"java/lang/StringLatin1", "equals", "([B[B)Z"⟩ : MethodName) jdk_43_method_13_code 3 (some .boolean)).before a0 Z = true := G.1 _ (List.mem_of_getElem? (l := tables_1) (i := 47) rfl)
theorem pd_7 : parseMethodDescriptor "([B[B)Z" = some ⟨[(.array .byte), (.array .byte)], some .boolean⟩ := by decide +kernel
theorem w_45 {Z : State} {a0 : Array Value} (G : Cl Z a0) : (Jvm.Cond.static (⟨"java/lang/StringLatin1", "equals", "([B[B)Z"⟩ : MethodName)).before a0 Z = true := G.1 _ (List.mem_of_getElem? (l := tables_1) (i := 45) rfl)
theorem d_jdk_42_method_66_code_47 : decode jdk_42_method_66_code 47 = .ok (.ifCond .eq 7, 3) := by decide +kernel
theorem d_jdk_42_method_66_code_54 : decode jdk_42_method_66_code 54 = .ok (.iconst 0, 1) := by decide +kernel
theorem d_jdk_42_method_66_code_55 : decode jdk_42_method_66_code 55 = .ok (.ireturn, 1) := by decide +kernel
theorem d_jdk_42_method_66_code_50 : decode jdk_42_method_66_code 50 = .ok (.iconst 1, 1) := by decide +kernel
theorem d_jdk_42_method_66_code_51 : decode jdk_42_method_66_code 51 = .ok (.goto 4, 3) := by decide +kernel
set_option maxRecDepth 65536 in
set_option maxHeartbeats 40000000 in
theorem rm_eqs {l : Launch} {Z : State} {a0 : Array Value} (G : Cl Z a0) (a a' b b' : Addr) (c c' cb cb' : Cell) (cs ds : List Int32) (S : StrL Z c b cb cs) (S' : StrL Z c' b' cb' ds) :
    Met l Z EL1 (⟨"java/lang/String", "equals", "(Ljava/lang/Object;)Z"⟩ : MethodName) jdk_42_method_66_code 3 (some .boolean) ({ frames := 1, cells := 0, slots := 0, locals := 14 } : Room) #[.ref a, .ref a'] [] [(a, c), (b, cb), (a', c'), (b', cb')] (fun v σ ρ => v = some (.int (if cs = ds then 1 else 0)) ∧ σ = [] ∧ ρ = []) := by
  refine Met.walk G.2.1 pn_2 #[.val (.ref a), .val (.ref a'), .unset] (fun m => by first | (simp [entryFrame, mkF, argsToLocals, Value.category]; done) | rfl) ?_
  intro X T0 W0
  obtain ⟨cv, Scv, hcv⟩ := G.2.2.1
  refine Go.aloadN (pc' := 1) W0 d_jdk_42_method_66_code_0 rfl rfl rfl ?_
  refine Go.aloadN (pc' := 2) W0 d_jdk_42_method_66_code_1 rfl rfl rfl ?_
  refine Go.acmp_ne (pc' := 5) W0 7 rfl rfl d_jdk_42_method_66_code_2 (by decide) rfl (fun _ => ?_) (fun hq => ?_)
  rotate_left
  · refine Go.iconst (pc' := 6) W0 (1 : Int32) d_jdk_42_method_66_code_5 (by decide) rfl ?_
    have W1 := W0.keepRo [] (ρ' := []) rfl
    replace W1 : Wk l Z EL1 ({ frames := 1, cells := 0, slots := 0, locals := 14 } : Room) "java/lang/String" jdk_42_method_66_code 3 (some .boolean) "equals" X [] [] T0 0 (0) := W1
    refine Go.nret (z' := (1 : Int32)) W1 (by simp) (by decide) d_jdk_42_method_66_code_6 (by first | exact Nat.le_of_ble_eq_true rfl | (simp; done) | (simp; omega) | omega) (by first | exact Nat.le_of_ble_eq_true rfl | (simp; done) | (simp; omega) | omega) ?_
    exact ⟨by rw [if_pos (StrL.uniq S S' (W0.cell (q := (a, c)) (Or.inr (Or.inl (List.mem_of_getElem? (i := 0) rfl)))) (by have e := Value.ref.inj hq; rw [e]; exact W0.cell (q := (a', c')) (Or.inr (Or.inl (List.mem_of_getElem? (i := 2) rfl)))) (W0.cell (q := (b, cb)) (Or.inr (Or.inl (List.mem_of_getElem? (i := 1) rfl)))) (W0.cell (q := (b', cb')) (Or.inr (Or.inl (List.mem_of_getElem? (i := 3) rfl)))))], rfl, rfl⟩
  refine Go.aloadN (pc' := 8) W0 d_jdk_42_method_66_code_7 rfl rfl rfl ?_
  refine Go.instY (pc' := 11) W0 (Or.inr (Or.inl (List.mem_of_getElem? (i := 2) rfl))) S'.1 (w_43 G) d_jdk_42_method_66_code_8 rfl (fun T2 W3 => ?_)
  refine Go.if_eq (pc' := 14) W3 54 d_jdk_42_method_66_code_11 (by decide) rfl (fun q => absurd q (by decide)) (fun _ => ?_)
  refine Go.aloadN (pc' := 15) W3 d_jdk_42_method_66_code_14 rfl rfl rfl ?_
  refine Go.castY (pc' := 18) W3 (Or.inr (Or.inl (List.mem_of_getElem? (i := 2) rfl))) S'.1 (w_43 G) d_jdk_42_method_66_code_15 rfl (fun T4 W5 => ?_)
  refine Go.astoreN (pc' := 19) W5 #[.val (.ref a), .val (.ref a'), .val (.ref a')] d_jdk_42_method_66_code_18 rfl rfl rfl ?_
  refine Go.getstatic (pc' := 22) W5 (w_19 G) Via.refl Scv d_jdk_42_method_66_code_19 rfl (fun T6 W7 => ?_)
  refine Go.if_eq (pc' := 25) W7 36 d_jdk_42_method_66_code_22 (by decide) rfl (fun q => absurd q hcv) (fun _ => ?_)
  refine Go.aloadN (pc' := 26) W7 d_jdk_42_method_66_code_25 rfl rfl rfl ?_
  refine Go.getfield (pc' := 29) W7 (Or.inr (Or.inl (List.mem_of_getElem? (i := 0) rfl))) (w_31 G) Via.refl S.2.1 d_jdk_42_method_66_code_26 rfl (fun T8 W9 => ?_)
  refine Go.aloadN (pc' := 30) W9 d_jdk_42_method_66_code_29 rfl rfl rfl ?_
  refine Go.getfield (pc' := 33) W9 (Or.inr (Or.inl (List.mem_of_getElem? (i := 2) rfl))) (w_31 G) Via.refl S'.2.1 d_jdk_42_method_66_code_30 rfl (fun T10 W11 => ?_)
  refine Go.icmp_ne (pc' := 36) W11 54 d_jdk_42_method_66_code_33 (by decide) rfl (fun q => absurd (by decide) q) (fun _ => ?_)
  refine Go.aloadN (pc' := 37) W11 d_jdk_42_method_66_code_36 rfl rfl rfl ?_
  refine Go.getfield (pc' := 40) W11 (Or.inr (Or.inl (List.mem_of_getElem? (i := 0) rfl))) (w_33 G) Via.refl S.2.2.1 d_jdk_42_method_66_code_37 rfl (fun T12 W13 => ?_)
  refine Go.aloadN (pc' := 41) W13 d_jdk_42_method_66_code_40 rfl rfl rfl ?_
  refine Go.getfield (pc' := 44) W13 (Or.inr (Or.inl (List.mem_of_getElem? (i := 2) rfl))) (w_33 G) Via.refl S'.2.2.1 d_jdk_42_method_66_code_41 rfl (fun T14 W15 => ?_)
  refine Go.static (pc' := 47) W15 (rm_leq G b b' cb cb' (cs.map fun x => x.toInt8.toInt32) (ds.map fun x => x.toInt8.toInt32) (latB_eq cs ▸ S.2.2.2.1) (latB_eq ds ▸ S'.2.2.2.1)) (w_44 G) (w_45 G) (w_46 G) (w_47 G) (by decide) [] [1, 3] (σf := []) rfl rfl [(.ref b), (.ref b')] [] rfl (lenOf pd_7 rfl) rfl rfl d_jdk_42_method_66_code_44 rfl (by first | exact Nat.le_of_ble_eq_true rfl | (simp; done) | (simp; omega) | omega) (by first | exact Nat.le_of_ble_eq_true rfl | (simp; done) | (simp; omega) | omega) (by first | exact Nat.le_of_ble_eq_true rfl | (simp; done) | (simp; omega) | omega) (by first | exact Nat.le_of_ble_eq_true rfl | (simp; done) | (simp; omega) | omega) ?_
  rintro _ _ _ T16 ⟨rfl, rfl, rfl⟩ W17
  replace W17 : Wk l Z EL1 ({ frames := 1, cells := 0, slots := 0, locals := 14 } : Room) "java/lang/String" jdk_42_method_66_code 3 (some .boolean) "equals" X [] [(b, cb), (b', cb'), (a, c), (b, cb), (a', c'), (b', cb')] T16 0 (0) := W17
  show Go Z EL1 _ _ _ X T16 47 #[.val (.ref a), .val (.ref a'), .val (.ref a')] [(.int (if cs.map (fun x => x.toInt8.toInt32) = ds.map (fun x => x.toInt8.toInt32) then 1 else 0))]
  refine Go.if_eq (pc' := 50) W17 54 d_jdk_42_method_66_code_47 (by decide) rfl (fun (c18 : (if cs.map (fun x => x.toInt8.toInt32) = ds.map (fun x => x.toInt8.toInt32) then 1 else 0) = 0) => ?_) (fun (c18 : ¬ ((if cs.map (fun x => x.toInt8.toInt32) = ds.map (fun x => x.toInt8.toInt32) then 1 else 0) = 0)) => ?_)
  · refine Go.iconst (pc' := 55) W17 (0 : Int32) d_jdk_42_method_66_code_54 (by decide) rfl ?_
    have W19 := W17.keepRo [] (ρ' := []) rfl
    replace W19 : Wk l Z EL1 ({ frames := 1, cells := 0, slots := 0, locals := 14 } : Room) "java/lang/String" jdk_42_method_66_code 3 (some .boolean) "equals" X [] [] T16 0 (0) := W19
    refine Go.nret (z' := (0 : Int32)) W19 (by simp) (by decide) d_jdk_42_method_66_code_55 (by first | exact Nat.le_of_ble_eq_true rfl | (simp; done) | (simp; omega) | omega) (by first | exact Nat.le_of_ble_eq_true rfl | (simp; done) | (simp; omega) | omega) ?_
    refine ⟨?_, rfl, rfl⟩
    rw [if_neg]
    rintro rfl
    simp at c18
  · refine Go.iconst (pc' := 51) W17 (1 : Int32) d_jdk_42_method_66_code_50 (by decide) rfl ?_
    refine Go.goto W17 55 d_jdk_42_method_66_code_51 (by decide) ?_
    have W20 := W17.keepRo [] (ρ' := []) rfl
    replace W20 : Wk l Z EL1 ({ frames := 1, cells := 0, slots := 0, locals := 14 } : Room) "java/lang/String" jdk_42_method_66_code 3 (some .boolean) "equals" X [] [] T16 0 (0) := W20
    refine Go.nret (z' := (1 : Int32)) W20 (by simp) (by decide) d_jdk_42_method_66_code_55 (by first | exact Nat.le_of_ble_eq_true rfl | (simp; done) | (simp; omega) | omega) (by first | exact Nat.le_of_ble_eq_true rfl | (simp; done) | (simp; omega) | omega) ?_
    refine ⟨?_, rfl, rfl⟩
    rw [if_pos]
    refine latB_inj S.2.2.2.2 S'.2.2.2.2 (Classical.byContradiction fun h => c18 (if_neg h))
def fsn (pa pb pd : Addr) (cs : List Int32) : Value := if cs = [(47 : Int32), (97 : Int32), (112 : Int32), (105 : Int32), (47 : Int32), (118 : Int32), (50 : Int32), (47 : Int32), (98 : Int32), (109 : Int32), (99 : Int32)] then .ref pa else if cs = [(47 : Int32), (97 : Int32), (112 : Int32), (105 : Int32), (47 : Int32), (118 : Int32), (50 : Int32), (47 : Int32), (122 : Int32), (101 : Int32), (99 : Int32)] then .ref pb else if cs = [(47 : Int32), (97 : Int32), (112 : Int32), (105 : Int32), (47 : Int32), (118 : Int32), (50 : Int32), (47 : Int32), (118 : Int32), (109 : Int32)] then .ref pd else .null
theorem and3 (p : Int32) : p &&& (3 : Int32) = (0 : Int32) ∨ p &&& (3 : Int32) = (1 : Int32) ∨ p &&& (3 : Int32) = (2 : Int32) ∨ p &&& (3 : Int32) = (3 : Int32) := by
  have h := c_and p 3 (by decide)
  have e : (3 : Int32).toInt = 3 := by decide
  rw [e] at h
  have k : (p &&& 3).toInt = 0 ∨ (p &&& 3).toInt = 1 ∨ (p &&& 3).toInt = 2 ∨ (p &&& 3).toInt = 3 := by omega
  rcases k with k | k | k | k
  · exact Or.inl (Int32.toInt_inj.mp k)
  · exact Or.inr (Or.inl (Int32.toInt_inj.mp k))
  · exact Or.inr (Or.inr (Or.inl (Int32.toInt_inj.mp k)))
  · exact Or.inr (Or.inr (Or.inr (Int32.toInt_inj.mp k)))
theorem rem3 (n : Int32) : (n &&& (2147483647 : Int32)) % (3 : Int32) = (0 : Int32) ∨ (n &&& (2147483647 : Int32)) % (3 : Int32) = (1 : Int32) ∨ (n &&& (2147483647 : Int32)) % (3 : Int32) = (2 : Int32) := by
  have h := c_and n 2147483647 (by decide)
  have k := (c_irem (n &&& 2147483647) 3 3 (by decide)).1 h.1
  generalize (n &&& (2147483647 : Int32)) % (3 : Int32) = z at k ⊢
  have k' : z.toInt = 0 ∨ z.toInt = 1 ∨ z.toInt = 2 := by omega
  rcases k' with q | q | q
  · exact Or.inl (Int32.toInt_inj.mp q)
  · exact Or.inr (Or.inl (Int32.toInt_inj.mp q))
  · exact Or.inr (Or.inr (Int32.toInt_inj.mp q))
theorem pj (n : Int32) : ∃ j : Nat, j < 12 ∧ (n &&& (2147483647 : Int32)) % (12 : Int32) = j.toInt32 := by
  have h := c_and n 2147483647 (by decide)
  have k := (c_irem (n &&& 2147483647) 12 12 (by decide)).1 h.1
  generalize (n &&& (2147483647 : Int32)) % (12 : Int32) = z at k ⊢
  exact ⟨z.toInt.toNat, by omega, Int32.toInt_inj.mp (by rw [i32_toInt (by omega)]; omega)⟩
theorem dest : ∀ {l : List Int32}, l.length = 12 → ∃ xa xb xc xd xe xf xg xh xi xj xk xl : Int32, l = [xa, xb, xc, xd, xe, xf, xg, xh, xi, xj, xk, xl]
  | [xa, xb, xc, xd, xe, xf, xg, xh, xi, xj, xk, xl], _ => ⟨xa, xb, xc, xd, xe, xf, xg, xh, xi, xj, xk, xl, rfl⟩
theorem lat_set {l : List Int32} {j : Nat} {y : Int32} (hl : Lat l) (hy : ¬ y < 0 ∧ ¬ (255 : Int32) < y) : Lat (l.set j y) := fun x hx => by
  rcases List.mem_or_eq_of_mem_set hx with h | h
  · exact hl x h
  · rw [h]; exact hy
theorem chV_set {l : List Int32} {j : Nat} {y : Int32} : (chV l).set j (.int y) = chV (l.set j y) := by rw [chV, chV, List.map_set]
theorem pn_8 : plainName "com/example/upfront_quote/upfrontquote/ProductLine" = true := by first | (simp [plainName, overriddenIn]; done) | decide +kernel
theorem d_prog_17_method_1_code_0 : decode prog_17_method_1_code 0 = .ok (.getstatic 13, 3) := by decide +kernel
theorem w_57 {Z : State} {a0 : Array Value} (G : Cl Z a0) : (Jvm.Cond.fieldLink "com/example/upfront_quote/upfrontquote/ProductLine" 13 "com/example/upfront_quote/upfrontquote/ProductLine" "$VALUES" "[Lcom/example/upfront_quote/upfrontquote/ProductLine;").before a0 Z = true := G.1 _ (List.mem_of_getElem? (l := tables_1) (i := 57) rfl)
theorem d_prog_17_method_1_code_3 : decode prog_17_method_1_code 3 = .ok (.invokevirtual 17, 3) := by decide +kernel
theorem w_59 {Z : State} {a0 : Array Value} (G : Cl Z a0) : (Jvm.Cond.methodLink "com/example/upfront_quote/upfrontquote/ProductLine" 17 (⟨"[Lcom/example/upfront_quote/upfrontquote/ProductLine;", "clone", "()Ljava/lang/Object;"⟩ : MethodName)).before a0 Z = true := G.1 _ (List.mem_of_getElem? (l := tables_1) (i := 59) rfl)
theorem w_60 {Z : State} {a0 : Array Value} (G : Cl Z a0) : (Jvm.Cond.sameMethod "[Lcom/example/upfront_quote/upfrontquote/ProductLine;" "java/lang/Object" "clone" "()Ljava/lang/Object;").before a0 Z = true := G.1 _ (List.mem_of_getElem? (l := tables_1) (i := 60) rfl)
theorem w_64 {Z : State} {a0 : Array Value} (G : Cl Z a0) : (Jvm.Cond.native (⟨"java/lang/Object", "clone", "()Ljava/lang/Object;"⟩ : MethodName)).before a0 Z = true := G.1 _ (List.mem_of_getElem? (l := tables_1) (i := 64) rfl)
theorem w_62 {Z : State} {a0 : Array Value} (G : Cl Z a0) : (Jvm.Cond.instanceMethod (⟨"java/lang/Object", "clone", "()Ljava/lang/Object;"⟩ : MethodName)).before a0 Z = true := G.1 _ (List.mem_of_getElem? (l := tables_1) (i := 62) rfl)
theorem w_63 {Z : State} {a0 : Array Value} (G : Cl Z a0) : (Jvm.Cond.selects "[Lcom/example/upfront_quote/upfrontquote/ProductLine;" (⟨"[Lcom/example/upfront_quote/upfrontquote/ProductLine;", "clone", "()Ljava/lang/Object;"⟩ : MethodName) (⟨"java/lang/Object", "clone", "()Ljava/lang/Object;"⟩ : MethodName)).before a0 Z = true := G.1 _ (List.mem_of_getElem? (l := tables_1) (i := 63) rfl)
theorem w_65 {Z : State} {a0 : Array Value} (G : Cl Z a0) : (Jvm.Cond.castable "[Lcom/example/upfront_quote/upfrontquote/ProductLine;" "java/lang/Cloneable").before a0 Z = true := G.1 _ (List.mem_of_getElem? (l := tables_1) (i := 65) rfl)
theorem d_prog_17_method_1_code_6 : decode prog_17_method_1_code 6 = .ok (.checkcast 18, 3) := by decide +kernel
theorem w_69 {Z : State} {a0 : Array Value} (G : Cl Z a0) : (Jvm.Cond.classLink "com/example/upfront_quote/upfrontquote/ProductLine" 18 "[Lcom/example/upfront_quote/upfrontquote/ProductLine;").before a0 Z = true := G.1 _ (List.mem_of_getElem? (l := tables_1) (i := 69) rfl)
theorem d_prog_17_method_1_code_9 : decode prog_17_method_1_code 9 = .ok (.areturn, 1) := by decide +kernel
set_option maxRecDepth 65536 in
set_option maxHeartbeats 40000000 in
theorem rm_vals {l : Launch} {Z : State} {a0 : Array Value} (G : Cl Z a0) (adA : Addr) (adB : Addr) (adC : Addr) (adD : Addr) (adE : Addr) (adF : Addr) (adG : Addr) (adH : Addr) (adI : Addr) (adJ : Addr) (ceA : Cell) (ceB : Cell) (ceC : Cell) (ceD : Cell) (ceE : Cell) (ceF : Cell) (ceG : Cell) (ceH : Cell) (ceI : Cell) (ceJ : Cell) (hzA : Z.heap[adA]? = some ceA) (obA : ObjC Z ceA "com/example/upfront_quote/upfrontquote/ProductLine") (fdA : FldC Z ceA "com/example/upfront_quote/upfrontquote/ProductLine" "path" "Ljava/lang/String;" (.ref adE)) (hzB : Z.heap[adB]? = some ceB) (obB : ObjC Z ceB "[Lcom/example/upfront_quote/upfrontquote/ProductLine;") (arA : ArrC Z ceB (.object "com/example/upfront_quote/upfrontquote/ProductLine") [(.ref adA), (.ref adC), (.ref adD)]) (hzC : Z.heap[adC]? = some ceC) (obC : ObjC Z ceC "com/example/upfront_quote/upfrontquote/ProductLine") (fdC : FldC Z ceC "com/example/upfront_quote/upfrontquote/ProductLine" "path" "Ljava/lang/String;" (.ref adG)) (hzD : Z.heap[adD]? = some ceD) (obD : ObjC Z ceD "com/example/upfront_quote/upfrontquote/ProductLine") (fdE : FldC Z ceD "com/example/upfront_quote/upfrontquote/ProductLine" "path" "Ljava/lang/String;" (.ref adI)) (hzE : Z.heap[adE]? = some ceE) (slA : StrL Z ceE adF ceF [(47 : Int32), (97 : Int32), (112 : Int32), (105 : Int32), (47 : Int32), (118 : Int32), (50 : Int32), (47 : Int32), (98 : Int32), (109 : Int32), (99 : Int32)]) (hzF : Z.heap[adF]? = some ceF) (hzG : Z.heap[adG]? = some ceG) (slB : StrL Z ceG adH ceH [(47 : Int32), (97 : Int32), (112 : Int32), (105 : Int32), (47 : Int32), (118 : Int32), (50 : Int32), (47 : Int32), (122 : Int32), (101 : Int32), (99 : Int32)]) (hzH : Z.heap[adH]? = some ceH) (hzI : Z.heap[adI]? = some ceI) (slC : StrL Z ceI adJ ceJ [(47 : Int32), (97 : Int32), (112 : Int32), (105 : Int32), (47 : Int32), (118 : Int32), (50 : Int32), (47 : Int32), (118 : Int32), (109 : Int32)]) (hzJ : Z.heap[adJ]? = some ceJ) (stA : Sta Z Z.heap "com/example/upfront_quote/upfrontquote/ProductLine" "BMC" "Lcom/example/upfront_quote/upfrontquote/ProductLine;" (.ref adA)) (stB : Sta Z Z.heap "com/example/upfront_quote/upfrontquote/ProductLine" "$VALUES" "[Lcom/example/upfront_quote/upfrontquote/ProductLine;" (.ref adB)) (stC : Sta Z Z.heap "com/example/upfront_quote/upfrontquote/ProductLine" "ZEC" "Lcom/example/upfront_quote/upfrontquote/ProductLine;" (.ref adC)) (stD : Sta Z Z.heap "com/example/upfront_quote/upfrontquote/ProductLine" "VM" "Lcom/example/upfront_quote/upfrontquote/ProductLine;" (.ref adD)) :
    Met l Z EL1 (⟨"com/example/upfront_quote/upfrontquote/ProductLine", "values", "()[Lcom/example/upfront_quote/upfrontquote/ProductLine;"⟩ : MethodName) prog_17_method_1_code 0 (some (.array (.object "com/example/upfront_quote/upfrontquote/ProductLine"))) ({ frames := 1, cells := 1, slots := 3, locals := 14 } : Room) #[] [] [] (fun v σ ρ => ∃ a c, v = some (.ref a) ∧ σ = [(a, c)] ∧ ρ = [] ∧ ArrC Z c (.object "com/example/upfront_quote/upfrontquote/ProductLine") [(.ref adA), (.ref adC), (.ref adD)]) := by
  refine Met.walk G.2.1 pn_8 #[] (fun m => by first | (simp [entryFrame, mkF, argsToLocals, Value.category]; done) | rfl) ?_
  intro X T0 W0
  refine Go.getstatic (pc' := 3) W0 (w_57 G) Via.refl stB d_prog_17_method_1_code_0 rfl (fun T1 W2 => ?_)
  refine Go.clone (pc' := 6) W2 (Or.inr (Or.inr hzB)) arA obB (w_59 G) (w_60 G) (w_64 G) (w_62 G) (w_63 G) (w_65 G) rfl d_prog_17_method_1_code_3 rfl (by first | exact Nat.le_of_ble_eq_true rfl | (simp; done) | (simp; omega) | omega) (by first | exact Nat.le_of_ble_eq_true rfl | (simp; done) | (simp; omega) | omega) (by first | exact Nat.le_of_ble_eq_true rfl | (simp; done) | (simp; omega) | omega) (by first | exact Nat.le_of_ble_eq_true rfl | (simp; done) | (simp; omega) | omega) (fun T3 a5 c6 W4 A7 O8 => ?_)
  replace W4 : Wk l Z EL1 ({ frames := 1, cells := 1, slots := 3, locals := 14 } : Room) "com/example/upfront_quote/upfrontquote/ProductLine" prog_17_method_1_code 0 (some (.array (.object "com/example/upfront_quote/upfrontquote/ProductLine"))) "values" X [(a5, c6)] [] T3 1 (3) := W4
  refine Go.castY (pc' := 9) W4 (Or.inl (List.mem_of_getElem? (i := 0) rfl)) O8 (w_69 G) d_prog_17_method_1_code_6 rfl (fun T9 W10 => ?_)
  refine Go.aret W10 rfl rfl d_prog_17_method_1_code_9 (by first | exact Nat.le_of_ble_eq_true rfl | (simp; done) | (simp; omega) | omega) (by first | exact Nat.le_of_ble_eq_true rfl | (simp; done) | (simp; omega) | omega) ?_
  exact ⟨a5, c6, rfl, rfl, rfl, A7⟩
theorem pn_9 : plainName "java/util/Objects" = true := by first | (simp [plainName, overriddenIn]; done) | decide +kernel
theorem d_jdk_31_method_10_code_0 : decode jdk_31_method_10_code 0 = .ok (.aload_n 0, 1) := by decide +kernel
theorem d_jdk_31_method_10_code_1 : decode jdk_31_method_10_code 1 = .ok (.ifnonnull 11, 3) := by decide +kernel
theorem d_jdk_31_method_10_code_12 : decode jdk_31_method_10_code 12 = .ok (.aload_n 0, 1) := by decide +kernel
theorem d_jdk_31_method_10_code_13 : decode jdk_31_method_10_code 13 = .ok (.areturn, 1) := by decide +kernel
set_option maxRecDepth 65536 in
set_option maxHeartbeats 40000000 in
theorem rm_rnq {l : Launch} {Z : State} {a0 : Array Value} (G : Cl Z a0) (a : Addr) :
    Met l Z EL1 (⟨"java/util/Objects", "requireNonNull", "(Ljava/lang/Object;)Ljava/lang/Object;"⟩ : MethodName) jdk_31_method_10_code 1 (some (.object "java/lang/Object")) ({ frames := 0, cells := 0, slots := 0, locals := 0 } : Room) #[.ref a] [] [] (fun v σ ρ => v = some (.ref a) ∧ σ = [] ∧ ρ = []) := by
  refine Met.walk G.2.1 pn_9 #[.val (.ref a)] (fun m => by first | (simp [entryFrame, mkF, argsToLocals, Value.category]; done) | rfl) ?_
  intro X T0 W0
  refine Go.aloadN (pc' := 1) W0 d_jdk_31_method_10_code_0 rfl rfl rfl ?_
  refine Go.ifnonnull_yes W0 12 d_jdk_31_method_10_code_1 (by decide) ?_
  refine Go.aloadN (pc' := 13) W0 d_jdk_31_method_10_code_12 rfl rfl rfl ?_
  refine Go.aret W0 rfl rfl d_jdk_31_method_10_code_13 (by first | exact Nat.le_of_ble_eq_true rfl | (simp; done) | (simp; omega) | omega) (by first | exact Nat.le_of_ble_eq_true rfl | (simp; done) | (simp; omega) | omega) ?_
  exact ⟨rfl, rfl, rfl⟩
theorem pn_10 : plainName "java/util/Optional" = true := by first | (simp [plainName, overriddenIn]; done) | decide +kernel
theorem d_jdk_32_method_2_code_0 : decode jdk_32_method_2_code 0 = .ok (.aload_n 0, 1) := by decide +kernel
theorem d_jdk_32_method_2_code_1 : decode jdk_32_method_2_code 1 = .ok (.invokespecial 7, 3) := by decide +kernel
theorem w_88 {Z : State} {a0 : Array Value} (G : Cl Z a0) : (Jvm.Cond.methodLink "java/util/Optional" 7 (⟨"java/lang/Object", "<init>", "()V"⟩ : MethodName)).before a0 Z = true := G.1 _ (List.mem_of_getElem? (l := tables_1) (i := 88) rfl)
theorem d_jdk_32_method_2_code_4 : decode jdk_32_method_2_code 4 = .ok (.aload_n 0, 1) := by decide +kernel
theorem d_jdk_32_method_2_code_5 : decode jdk_32_method_2_code 5 = .ok (.aload_n 1, 1) := by decide +kernel
theorem d_jdk_32_method_2_code_6 : decode jdk_32_method_2_code 6 = .ok (.putfield 13, 3) := by decide +kernel
theorem w_89 {Z : State} {a0 : Array Value} (G : Cl Z a0) : (Jvm.Cond.fieldLink "java/util/Optional" 13 "java/util/Optional" "value" "Ljava/lang/Object;").before a0 Z = true := G.1 _ (List.mem_of_getElem? (l := tables_1) (i := 89) rfl)
theorem w_90 {Z : State} {a0 : Array Value} (G : Cl Z a0) : (Jvm.Cond.laysFinal "java/util/Optional" "java/util/Optional" "value" "Ljava/lang/Object;").before a0 Z = true := G.1 _ (List.mem_of_getElem? (l := tables_1) (i := 90) rfl)
theorem w_79 {Z : State} {a0 : Array Value} (G : Cl Z a0) : (Jvm.Cond.instantiable "java/util/Optional" 1).before a0 Z = true := G.1 _ (List.mem_of_getElem? (l := tables_1) (i := 79) rfl)
theorem d_jdk_32_method_2_code_9 : decode jdk_32_method_2_code 9 = .ok (.return_, 1) := by decide +kernel
set_option maxRecDepth 65536 in
set_option maxHeartbeats 40000000 in
theorem rm_oi {l : Launch} {Z : State} {a0 : Array Value} (G : Cl Z a0) (a y : Addr) (c : Cell) (hO : ObjC Z c "java/util/Optional") (hV : FldC Z c "java/util/Optional" "value" "Ljava/lang/Object;" .null) :
    Met l Z EL1 (⟨"java/util/Optional", "<init>", "(Ljava/lang/Object;)V"⟩ : MethodName) jdk_32_method_2_code 2 none ({ frames := 1, cells := 0, slots := 0, locals := 12 } : Room) #[.ref a, .ref y] [(a, c)] [] (fun v σ ρ => ∃ c', v = none ∧ σ = [(a, c')] ∧ ρ = [] ∧ ObjC Z c' "java/util/Optional" ∧ FldC Z c' "java/util/Optional" "value" "Ljava/lang/Object;" (.ref y)) := by
  refine Met.walk G.2.1 pn_10 #[.val (.ref a), .val (.ref y)] (fun m => by first | (simp [entryFrame, mkF, argsToLocals, Value.category]; done) | rfl) ?_
  intro X T0 W0
  refine Go.aloadN (pc' := 1) W0 d_jdk_32_method_2_code_0 rfl rfl rfl ?_
  refine Go.objInit (pc' := 4) W0 (w_88 G) (w_17 G) (w_18 G) rfl d_jdk_32_method_2_code_1 rfl (by first | exact Nat.le_of_ble_eq_true rfl | (simp; done) | (simp; omega) | omega) (by first | exact Nat.le_of_ble_eq_true rfl | (simp; done) | (simp; omega) | omega) (fun T1 W2 => ?_)
  refine Go.aloadN (pc' := 5) W2 d_jdk_32_method_2_code_4 rfl rfl rfl ?_
  refine Go.aloadN (pc' := 6) W2 d_jdk_32_method_2_code_5 rfl rfl rfl ?_
  refine Go.putfield (pc' := 9) W2 0 rfl (w_89 G) Via.refl hV hO (Or.inr ⟨(w_90 G), rfl, rfl⟩) (w_79 G) (ty := (.object "java/lang/Object")) (v' := .ref y) (by decide) rfl rfl d_jdk_32_method_2_code_6 rfl (fun T3 c5 q6 W4 => ?_)
  replace W4 : Wk l Z EL1 ({ frames := 1, cells := 0, slots := 0, locals := 12 } : Room) "java/util/Optional" jdk_32_method_2_code 2 none "<init>" X [(a, c5)] [] T3 0 (0) := W4
  have O7 := hO.put' q6
  have F8 := hV.put' q6
  refine Go.retV W4 d_jdk_32_method_2_code_9 (by first | exact Nat.le_of_ble_eq_true rfl | (simp; done) | (simp; omega) | omega) (by first | exact Nat.le_of_ble_eq_true rfl | (simp; done) | (simp; omega) | omega) ?_
  exact ⟨_, rfl, rfl, rfl, O7, F8⟩
theorem d_jdk_32_method_3_code_0 : decode jdk_32_method_3_code 0 = .ok (.new 2, 3) := by decide +kernel
theorem w_78 {Z : State} {a0 : Array Value} (G : Cl Z a0) : (Jvm.Cond.classLink "java/util/Optional" 2 "java/util/Optional").before a0 Z = true := G.1 _ (List.mem_of_getElem? (l := tables_1) (i := 78) rfl)
theorem w_76 {Z : State} {a0 : Array Value} (G : Cl Z a0) : (Jvm.Cond.initialized "java/util/Optional").before a0 Z = true := G.1 _ (List.mem_of_getElem? (l := tables_1) (i := 76) rfl)
theorem d_jdk_32_method_3_code_3 : decode jdk_32_method_3_code 3 = .ok (.dup, 1) := by decide +kernel
theorem d_jdk_32_method_3_code_4 : decode jdk_32_method_3_code 4 = .ok (.aload_n 0, 1) := by decide +kernel
theorem d_jdk_32_method_3_code_5 : decode jdk_32_method_3_code 5 = .ok (.invokestatic 17, 3) := by decide +kernel
theorem w_80 {Z : State} {a0 : Array Value} (G : Cl Z a0) : (Jvm.Cond.methodLink "java/util/Optional" 17 (⟨"java/util/Objects", "requireNonNull", "(Ljava/lang/Object;)Ljava/lang/Object;"⟩ : MethodName)).before a0 Z = true := G.1 _ (List.mem_of_getElem? (l := tables_1) (i := 80) rfl)
theorem w_82 {Z : State} {a0 : Array Value} (G : Cl Z a0) : (Jvm.Cond.initialized "java/util/Objects").before a0 Z = true := G.1 _ (List.mem_of_getElem? (l := tables_1) (i := 82) rfl)
theorem w_83 {Z : State} {a0 : Array Value} (G : Cl Z a0) : (Jvm.Cond.code (⟨"java/util/Objects", "requireNonNull", "(Ljava/lang/Object;)Ljava/lang/Object;"⟩ : MethodName) jdk_31_method_10_code 1 (some (.object "java/lang/Object"))).before a0 Z = true := G.1 _ (List.mem_of_getElem? (l := tables_1) (i := 83) rfl)
theorem pd_11 : parseMethodDescriptor "(Ljava/lang/Object;)Ljava/lang/Object;" = some ⟨[(.object "java/lang/Object")], some (.object "java/lang/Object")⟩ := by decide +kernel
theorem w_81 {Z : State} {a0 : Array Value} (G : Cl Z a0) : (Jvm.Cond.static (⟨"java/util/Objects", "requireNonNull", "(Ljava/lang/Object;)Ljava/lang/Object;"⟩ : MethodName)).before a0 Z = true := G.1 _ (List.mem_of_getElem? (l := tables_1) (i := 81) rfl)
theorem d_jdk_32_method_3_code_8 : decode jdk_32_method_3_code 8 = .ok (.invokespecial 23, 3) := by decide +kernel
theorem w_84 {Z : State} {a0 : Array Value} (G : Cl Z a0) : (Jvm.Cond.methodLink "java/util/Optional" 23 (⟨"java/util/Optional", "<init>", "(Ljava/lang/Object;)V"⟩ : MethodName)).before a0 Z = true := G.1 _ (List.mem_of_getElem? (l := tables_1) (i := 84) rfl)
theorem w_87 {Z : State} {a0 : Array Value} (G : Cl Z a0) : (Jvm.Cond.code (⟨"java/util/Optional", "<init>", "(Ljava/lang/Object;)V"⟩ : MethodName) jdk_32_method_2_code 2 none).before a0 Z = true := G.1 _ (List.mem_of_getElem? (l := tables_1) (i := 87) rfl)
theorem pd_12 : parseMethodDescriptor "(Ljava/lang/Object;)V" = some ⟨[(.object "java/lang/Object")], none⟩ := by decide +kernel
theorem w_85 {Z : State} {a0 : Array Value} (G : Cl Z a0) : (Jvm.Cond.instanceMethod (⟨"java/util/Optional", "<init>", "(Ljava/lang/Object;)V"⟩ : MethodName)).before a0 Z = true := G.1 _ (List.mem_of_getElem? (l := tables_1) (i := 85) rfl)
theorem d_jdk_32_method_3_code_11 : decode jdk_32_method_3_code 11 = .ok (.areturn, 1) := by decide +kernel
set_option maxRecDepth 65536 in
set_option maxHeartbeats 40000000 in
theorem rm_of {l : Launch} {Z : State} {a0 : Array Value} (G : Cl Z a0) (y : Addr) :
    Met l Z EL1 (⟨"java/util/Optional", "of", "(Ljava/lang/Object;)Ljava/util/Optional;"⟩ : MethodName) jdk_32_method_3_code 1 (some (.object "java/util/Optional")) ({ frames := 2, cells := 1, slots := 1, locals := 28 } : Room) #[.ref y] [] [] (fun v σ ρ => ∃ a c, v = some (.ref a) ∧ σ = [] ∧ ρ = [(a, c)] ∧ ObjC Z c "java/util/Optional" ∧ FldC Z c "java/util/Optional" "value" "Ljava/lang/Object;" (.ref y)) := by
  refine Met.walk G.2.1 pn_10 #[.val (.ref y)] (fun m => by first | (simp [entryFrame, mkF, argsToLocals, Value.category]; done) | rfl) ?_
  intro X T0 W0
  refine Go.new (pc' := 3) W0 (w_78 G) (w_79 G) (w_76 G) d_jdk_32_method_3_code_0 rfl (by first | exact Nat.le_of_ble_eq_true rfl | (simp; done) | (simp; omega) | omega) (by first | exact Nat.le_of_ble_eq_true rfl | (simp; done) | (simp; omega) | omega) (fun T1 a3 c4 W2 O5 D6 => ?_)
  replace W2 : Wk l Z EL1 ({ frames := 2, cells := 1, slots := 1, locals := 28 } : Room) "java/util/Optional" jdk_32_method_3_code 1 (some (.object "java/util/Optional")) "of" X [(a3, c4)] [] T1 1 (1) := W2
  have F7 : FldC Z c4 "java/util/Optional" "value" "Ljava/lang/Object;" (.null) := D6 (Or.inr (w_90 G)) (ty := (.object "java/lang/Object")) (by decide)
  refine Go.dup (pc' := 4) W2 d_jdk_32_method_3_code_3 rfl rfl ?_
  refine Go.aloadN (pc' := 5) W2 d_jdk_32_method_3_code_4 rfl rfl rfl ?_
  refine Go.static (pc' := 8) W2 (rm_rnq G y) (w_80 G) (w_81 G) (w_82 G) (w_83 G) (by decide) [] [] (σf := [(a3, c4)]) rfl rfl [(.ref y)] [(.ref a3), (.ref a3)] rfl (lenOf pd_11 rfl) rfl rfl d_jdk_32_method_3_code_5 rfl (by first | exact Nat.le_of_ble_eq_true rfl | (simp; done) | (simp; omega) | omega) (by first | exact Nat.le_of_ble_eq_true rfl | (simp; done) | (simp; omega) | omega) (by first | exact Nat.le_of_ble_eq_true rfl | (simp; done) | (simp; omega) | omega) (by first | exact Nat.le_of_ble_eq_true rfl | (simp; done) | (simp; omega) | omega) ?_
  rintro _ _ _ T8 ⟨rfl, rfl, rfl⟩ W9
  replace W9 : Wk l Z EL1 ({ frames := 2, cells := 1, slots := 1, locals := 28 } : Room) "java/util/Optional" jdk_32_method_3_code 1 (some (.object "java/util/Optional")) "of" X [(a3, c4)] [] T8 1 (1) := W9
  show Go Z EL1 _ _ _ X T8 8 #[.val (.ref y)] [(.ref y), (.ref a3), (.ref a3)]
  refine Go.special (pc' := 11) W9 (a := a3) (rm_oi G a3 y c4 O5 F7) rfl (w_84 G) (w_85 G) (w_76 G) (w_87 G) (by decide) [0] [] (σf := []) rfl rfl [(.ref y)] [(.ref a3)] rfl (lenOf pd_12 rfl) rfl rfl d_jdk_32_method_3_code_8 rfl (by first | exact Nat.le_of_ble_eq_true rfl | (simp; done) | (simp; omega) | omega) (by first | exact Nat.le_of_ble_eq_true rfl | (simp; done) | (simp; omega) | omega) (by first | exact Nat.le_of_ble_eq_true rfl | (simp; done) | (simp; omega) | omega) (by first | exact Nat.le_of_ble_eq_true rfl | (simp; done) | (simp; omega) | omega) ?_
  rintro _ _ _ T13 ⟨c10, rfl, rfl, rfl, O11, F12⟩ W14
  replace W14 : Wk l Z EL1 ({ frames := 2, cells := 1, slots := 1, locals := 28 } : Room) "java/util/Optional" jdk_32_method_3_code 1 (some (.object "java/util/Optional")) "of" X [(a3, c10)] [] T13 1 (1) := W14
  show Go Z EL1 _ _ _ X T13 11 #[.val (.ref y)] [(.ref a3)]
  have W15 := W14.freeze [0] (σi := [(a3, c10)]) (σf := []) rfl
  replace W15 : Wk l Z EL1 ({ frames := 2, cells := 1, slots := 1, locals := 28 } : Room) "java/util/Optional" jdk_32_method_3_code 1 (some (.object "java/util/Optional")) "of" X [] [(a3, c10)] T13 1 (1) := W15
  refine Go.aret W15 rfl rfl d_jdk_32_method_3_code_11 (by first | exact Nat.le_of_ble_eq_true rfl | (simp; done) | (simp; omega) | omega) (by first | exact Nat.le_of_ble_eq_true rfl | (simp; done) | (simp; omega) | omega) ?_
  exact ⟨_, _, rfl, rfl, rfl, O11, F12⟩
theorem d_jdk_32_method_1_code_0 : decode jdk_32_method_1_code 0 = .ok (.getstatic 1, 3) := by decide +kernel
theorem w_107 {Z : State} {a0 : Array Value} (G : Cl Z a0) : (Jvm.Cond.fieldLink "java/util/Optional" 1 "java/util/Optional" "EMPTY" "Ljava/util/Optional;").before a0 Z = true := G.1 _ (List.mem_of_getElem? (l := tables_1) (i := 107) rfl)
theorem d_jdk_32_method_1_code_3 : decode jdk_32_method_1_code 3 = .ok (.astore_n 0, 1) := by decide +kernel
theorem d_jdk_32_method_1_code_4 : decode jdk_32_method_1_code 4 = .ok (.aload_n 0, 1) := by decide +kernel
theorem d_jdk_32_method_1_code_5 : decode jdk_32_method_1_code 5 = .ok (.areturn, 1) := by decide +kernel
set_option maxRecDepth 65536 in
set_option maxHeartbeats 40000000 in
theorem rm_em {l : Launch} {Z : State} {a0 : Array Value} (G : Cl Z a0) (em : Addr) (cem : Cell) (hzem : Z.heap[em]? = some cem) (obem : ObjC Z cem "java/util/Optional") (fdem : FldC Z cem "java/util/Optional" "value" "Ljava/lang/Object;" .null) (stem : Sta Z Z.heap "java/util/Optional" "EMPTY" "Ljava/util/Optional;" (.ref em)) :
    Met l Z EL1 (⟨"java/util/Optional", "empty", "()Ljava/util/Optional;"⟩ : MethodName) jdk_32_method_1_code 1 (some (.object "java/util/Optional")) ({ frames := 0, cells := 0, slots := 0, locals := 0 } : Room) #[] [] [] (fun v σ ρ => v = some (.ref em) ∧ σ = [] ∧ ρ = []) := by
  refine Met.walk G.2.1 pn_10 #[.unset] (fun m => by first | (simp [entryFrame, mkF, argsToLocals, Value.category]; done) | rfl) ?_
  intro X T0 W0
  refine Go.getstatic (pc' := 3) W0 (w_107 G) Via.refl stem d_jdk_32_method_1_code_0 rfl (fun T1 W2 => ?_)
  refine Go.astoreN (pc' := 4) W2 #[.val (.ref em)] d_jdk_32_method_1_code_3 rfl rfl rfl ?_
  refine Go.aloadN (pc' := 5) W2 d_jdk_32_method_1_code_4 rfl rfl rfl ?_
  refine Go.aret W2 rfl rfl d_jdk_32_method_1_code_5 (by first | exact Nat.le_of_ble_eq_true rfl | (simp; done) | (simp; omega) | omega) (by first | exact Nat.le_of_ble_eq_true rfl | (simp; done) | (simp; omega) | omega) ?_
  exact ⟨rfl, rfl, rfl⟩
theorem d_jdk_32_method_6_code_0 : decode jdk_32_method_6_code 0 = .ok (.aload_n 0, 1) := by decide +kernel
theorem d_jdk_32_method_6_code_1 : decode jdk_32_method_6_code 1 = .ok (.getfield 13, 3) := by decide +kernel
theorem d_jdk_32_method_6_code_4 : decode jdk_32_method_6_code 4 = .ok (.ifnull 7, 3) := by decide +kernel
theorem d_jdk_32_method_6_code_11 : decode jdk_32_method_6_code 11 = .ok (.iconst 0, 1) := by decide +kernel
theorem d_jdk_32_method_6_code_12 : decode jdk_32_method_6_code 12 = .ok (.ireturn, 1) := by decide +kernel
set_option maxRecDepth 65536 in
set_option maxHeartbeats 40000000 in
theorem rm_isp_z {l : Launch} {Z : State} {a0 : Array Value} (G : Cl Z a0) (a  : Addr) (c : Cell) (hF : FldC Z c "java/util/Optional" "value" "Ljava/lang/Object;" (.null)) :
    Met l Z EL1 (⟨"java/util/Optional", "isPresent", "()Z"⟩ : MethodName) jdk_32_method_6_code 1 (some .boolean) ({ frames := 0, cells := 0, slots := 0, locals := 0 } : Room) #[.ref a] [] [(a, c)] (fun v σ ρ => v = some (.int 0) ∧ σ = [] ∧ ρ = []) := by
  refine Met.walk G.2.1 pn_10 #[.val (.ref a)] (fun m => by first | (simp [entryFrame, mkF, argsToLocals, Value.category]; done) | rfl) ?_
  intro X T0 W0
  refine Go.aloadN (pc' := 1) W0 d_jdk_32_method_6_code_0 rfl rfl rfl ?_
  refine Go.getfield (pc' := 4) W0 (Or.inr (Or.inl (List.mem_of_getElem? (i := 0) rfl))) (w_89 G) Via.refl hF d_jdk_32_method_6_code_1 rfl (fun T1 W2 => ?_)
  refine Go.ifnull_yes W2 11 d_jdk_32_method_6_code_4 (by decide) ?_
  refine Go.iconst (pc' := 12) W2 (0 : Int32) d_jdk_32_method_6_code_11 (by decide) rfl ?_
  have W3 := W2.keepRo [] (ρ' := []) rfl
  replace W3 : Wk l Z EL1 ({ frames := 0, cells := 0, slots := 0, locals := 0 } : Room) "java/util/Optional" jdk_32_method_6_code 1 (some .boolean) "isPresent" X [] [] T1 0 (0) := W3
  refine Go.nret (z' := (0 : Int32)) W3 (by simp) (by decide) d_jdk_32_method_6_code_12 (by first | exact Nat.le_of_ble_eq_true rfl | (simp; done) | (simp; omega) | omega) (by first | exact Nat.le_of_ble_eq_true rfl | (simp; done) | (simp; omega) | omega) ?_
  exact ⟨rfl, rfl, rfl⟩
theorem d_jdk_32_method_6_code_7 : decode jdk_32_method_6_code 7 = .ok (.iconst 1, 1) := by decide +kernel
theorem d_jdk_32_method_6_code_8 : decode jdk_32_method_6_code 8 = .ok (.goto 4, 3) := by decide +kernel
set_option maxRecDepth 65536 in
set_option maxHeartbeats 40000000 in
theorem rm_isp_o {l : Launch} {Z : State} {a0 : Array Value} (G : Cl Z a0) (a y : Addr) (c : Cell) (hF : FldC Z c "java/util/Optional" "value" "Ljava/lang/Object;" (.ref y)) :
    Met l Z EL1 (⟨"java/util/Optional", "isPresent", "()Z"⟩ : MethodName) jdk_32_method_6_code 1 (some .boolean) ({ frames := 0, cells := 0, slots := 0, locals := 0 } : Room) #[.ref a] [] [(a, c)] (fun v σ ρ => v = some (.int 1) ∧ σ = [] ∧ ρ = []) := by
  refine Met.walk G.2.1 pn_10 #[.val (.ref a)] (fun m => by first | (simp [entryFrame, mkF, argsToLocals, Value.category]; done) | rfl) ?_
  intro X T0 W0
  refine Go.aloadN (pc' := 1) W0 d_jdk_32_method_6_code_0 rfl rfl rfl ?_
  refine Go.getfield (pc' := 4) W0 (Or.inr (Or.inl (List.mem_of_getElem? (i := 0) rfl))) (w_89 G) Via.refl hF d_jdk_32_method_6_code_1 rfl (fun T1 W2 => ?_)
  refine Go.ifnull_no (pc' := 7) W2 d_jdk_32_method_6_code_4 rfl ?_
  refine Go.iconst (pc' := 8) W2 (1 : Int32) d_jdk_32_method_6_code_7 (by decide) rfl ?_
  refine Go.goto W2 12 d_jdk_32_method_6_code_8 (by decide) ?_
  have W3 := W2.keepRo [] (ρ' := []) rfl
  replace W3 : Wk l Z EL1 ({ frames := 0, cells := 0, slots := 0, locals := 0 } : Room) "java/util/Optional" jdk_32_method_6_code 1 (some .boolean) "isPresent" X [] [] T1 0 (0) := W3
  refine Go.nret (z' := (1 : Int32)) W3 (by simp) (by decide) d_jdk_32_method_6_code_12 (by first | exact Nat.le_of_ble_eq_true rfl | (simp; done) | (simp; omega) | omega) (by first | exact Nat.le_of_ble_eq_true rfl | (simp; done) | (simp; omega) | omega) ?_
  exact ⟨rfl, rfl, rfl⟩
theorem d_jdk_32_method_5_code_0 : decode jdk_32_method_5_code 0 = .ok (.aload_n 0, 1) := by decide +kernel
theorem d_jdk_32_method_5_code_1 : decode jdk_32_method_5_code 1 = .ok (.getfield 13, 3) := by decide +kernel
theorem d_jdk_32_method_5_code_4 : decode jdk_32_method_5_code 4 = .ok (.ifnonnull 13, 3) := by decide +kernel
theorem d_jdk_32_method_5_code_17 : decode jdk_32_method_5_code 17 = .ok (.aload_n 0, 1) := by decide +kernel
theorem d_jdk_32_method_5_code_18 : decode jdk_32_method_5_code 18 = .ok (.getfield 13, 3) := by decide +kernel
theorem d_jdk_32_method_5_code_21 : decode jdk_32_method_5_code 21 = .ok (.areturn, 1) := by decide +kernel
set_option maxRecDepth 65536 in
set_option maxHeartbeats 40000000 in
theorem rm_get_o {l : Launch} {Z : State} {a0 : Array Value} (G : Cl Z a0) (a y : Addr) (c : Cell) (hF : FldC Z c "java/util/Optional" "value" "Ljava/lang/Object;" (.ref y)) :
    Met l Z EL1 (⟨"java/util/Optional", "get", "()Ljava/lang/Object;"⟩ : MethodName) jdk_32_method_5_code 1 (some (.object "java/lang/Object")) ({ frames := 0, cells := 0, slots := 0, locals := 0 } : Room) #[.ref a] [] [(a, c)] (fun v σ ρ => v = some (.ref y) ∧ σ = [] ∧ ρ = []) := by
  refine Met.walk G.2.1 pn_10 #[.val (.ref a)] (fun m => by first | (simp [entryFrame, mkF, argsToLocals, Value.category]; done) | rfl) ?_
  intro X T0 W0
  refine Go.aloadN (pc' := 1) W0 d_jdk_32_method_5_code_0 rfl rfl rfl ?_
  refine Go.getfield (pc' := 4) W0 (Or.inr (Or.inl (List.mem_of_getElem? (i := 0) rfl))) (w_89 G) Via.refl hF d_jdk_32_method_5_code_1 rfl (fun T1 W2 => ?_)
  refine Go.ifnonnull_yes W2 17 d_jdk_32_method_5_code_4 (by decide) ?_
  refine Go.aloadN (pc' := 18) W2 d_jdk_32_method_5_code_17 rfl rfl rfl ?_
  refine Go.getfield (pc' := 21) W2 (Or.inr (Or.inl (List.mem_of_getElem? (i := 0) rfl))) (w_89 G) Via.refl hF d_jdk_32_method_5_code_18 rfl (fun T3 W4 => ?_)
  have W5 := W4.keepRo [] (ρ' := []) rfl
  replace W5 : Wk l Z EL1 ({ frames := 0, cells := 0, slots := 0, locals := 0 } : Room) "java/util/Optional" jdk_32_method_5_code 1 (some (.object "java/lang/Object")) "get" X [] [] T3 0 (0) := W5
  refine Go.aret W5 rfl rfl d_jdk_32_method_5_code_21 (by first | exact Nat.le_of_ble_eq_true rfl | (simp; done) | (simp; omega) | omega) (by first | exact Nat.le_of_ble_eq_true rfl | (simp; done) | (simp; omega) | omega) ?_
  exact ⟨rfl, rfl, rfl⟩
theorem d_prog_17_method_4_code_0 : decode prog_17_method_4_code 0 = .ok (.invokestatic 36, 3) := by decide +kernel
theorem w_54 {Z : State} {a0 : Array Value} (G : Cl Z a0) : (Jvm.Cond.methodLink "com/example/upfront_quote/upfrontquote/ProductLine" 36 (⟨"com/example/upfront_quote/upfrontquote/ProductLine", "values", "()[Lcom/example/upfront_quote/upfrontquote/ProductLine;"⟩ : MethodName)).before a0 Z = true := G.1 _ (List.mem_of_getElem? (l := tables_1) (i := 54) rfl)
theorem w_49 {Z : State} {a0 : Array Value} (G : Cl Z a0) : (Jvm.Cond.initialized "com/example/upfront_quote/upfrontquote/ProductLine").before a0 Z = true := G.1 _ (List.mem_of_getElem? (l := tables_1) (i := 49) rfl)
theorem w_56 {Z : State} {a0 : Array Value} (G : Cl Z a0) : (Jvm.Cond.code (⟨"com/example/upfront_quote/upfrontquote/ProductLine", "values", "()[Lcom/example/upfront_quote/upfrontquote/ProductLine;"⟩ : MethodName) prog_17_method_1_code 0 (some (.array (.object "com/example/upfront_quote/upfrontquote/ProductLine")))).before a0 Z = true := G.1 _ (List.mem_of_getElem? (l := tables_1) (i := 56) rfl)
theorem pd_13 : parseMethodDescriptor "()[Lcom/example/upfront_quote/upfrontquote/ProductLine;" = some ⟨[], some (.array (.object "com/example/upfront_quote/upfrontquote/ProductLine"))⟩ := by decide +kernel
theorem w_55 {Z : State} {a0 : Array Value} (G : Cl Z a0) : (Jvm.Cond.static (⟨"com/example/upfront_quote/upfrontquote/ProductLine", "values", "()[Lcom/example/upfront_quote/upfrontquote/ProductLine;"⟩ : MethodName)).before a0 Z = true := G.1 _ (List.mem_of_getElem? (l := tables_1) (i := 55) rfl)
theorem d_prog_17_method_4_code_3 : decode prog_17_method_4_code 3 = .ok (.astore_n 1, 1) := by decide +kernel
theorem d_prog_17_method_4_code_4 : decode prog_17_method_4_code 4 = .ok (.aload_n 1, 1) := by decide +kernel
theorem d_prog_17_method_4_code_5 : decode prog_17_method_4_code 5 = .ok (.arraylength, 1) := by decide +kernel
theorem d_prog_17_method_4_code_6 : decode prog_17_method_4_code 6 = .ok (.istore_n 2, 1) := by decide +kernel
theorem d_prog_17_method_4_code_7 : decode prog_17_method_4_code 7 = .ok (.iconst 0, 1) := by decide +kernel
theorem d_prog_17_method_4_code_8 : decode prog_17_method_4_code 8 = .ok (.istore_n 3, 1) := by decide +kernel
theorem d_prog_17_method_4_code_9 : decode prog_17_method_4_code 9 = .ok (.iload_n 3, 1) := by decide +kernel
theorem d_prog_17_method_4_code_10 : decode prog_17_method_4_code 10 = .ok (.iload_n 2, 1) := by decide +kernel
theorem d_prog_17_method_4_code_11 : decode prog_17_method_4_code 11 = .ok (.if_icmp .ge 32, 3) := by decide +kernel
theorem d_prog_17_method_4_code_14 : decode prog_17_method_4_code 14 = .ok (.aload_n 1, 1) := by decide +kernel
theorem d_prog_17_method_4_code_15 : decode prog_17_method_4_code 15 = .ok (.iload_n 3, 1) := by decide +kernel
theorem d_prog_17_method_4_code_16 : decode prog_17_method_4_code 16 = .ok (.aaload, 1) := by decide +kernel
theorem d_prog_17_method_4_code_17 : decode prog_17_method_4_code 17 = .ok (.astore 4, 2) := by decide +kernel
theorem d_prog_17_method_4_code_19 : decode prog_17_method_4_code 19 = .ok (.aload 4, 2) := by decide +kernel
theorem d_prog_17_method_4_code_21 : decode prog_17_method_4_code 21 = .ok (.getfield 32, 3) := by decide +kernel
theorem w_71 {Z : State} {a0 : Array Value} (G : Cl Z a0) : (Jvm.Cond.fieldLink "com/example/upfront_quote/upfrontquote/ProductLine" 32 "com/example/upfront_quote/upfrontquote/ProductLine" "path" "Ljava/lang/String;").before a0 Z = true := G.1 _ (List.mem_of_getElem? (l := tables_1) (i := 71) rfl)
theorem d_prog_17_method_4_code_24 : decode prog_17_method_4_code 24 = .ok (.aload_n 0, 1) := by decide +kernel
theorem d_prog_17_method_4_code_25 : decode prog_17_method_4_code 25 = .ok (.invokevirtual 40, 3) := by decide +kernel
theorem w_73 {Z : State} {a0 : Array Value} (G : Cl Z a0) : (Jvm.Cond.methodLink "com/example/upfront_quote/upfrontquote/ProductLine" 40 (⟨"java/lang/String", "equals", "(Ljava/lang/Object;)Z"⟩ : MethodName)).before a0 Z = true := G.1 _ (List.mem_of_getElem? (l := tables_1) (i := 73) rfl)
theorem w_42 {Z : State} {a0 : Array Value} (G : Cl Z a0) : (Jvm.Cond.code (⟨"java/lang/String", "equals", "(Ljava/lang/Object;)Z"⟩ : MethodName) jdk_42_method_66_code 3 (some .boolean)).before a0 Z = true := G.1 _ (List.mem_of_getElem? (l := tables_1) (i := 42) rfl)
theorem pd_14 : parseMethodDescriptor "(Ljava/lang/Object;)Z" = some ⟨[(.object "java/lang/Object")], some .boolean⟩ := by decide +kernel
theorem w_39 {Z : State} {a0 : Array Value} (G : Cl Z a0) : (Jvm.Cond.declares (⟨"java/lang/String", "equals", "(Ljava/lang/Object;)Z"⟩ : MethodName)).before a0 Z = true := G.1 _ (List.mem_of_getElem? (l := tables_1) (i := 39) rfl)
theorem w_41 {Z : State} {a0 : Array Value} (G : Cl Z a0) : (Jvm.Cond.selects "java/lang/String" (⟨"java/lang/String", "equals", "(Ljava/lang/Object;)Z"⟩ : MethodName) (⟨"java/lang/String", "equals", "(Ljava/lang/Object;)Z"⟩ : MethodName)).before a0 Z = true := G.1 _ (List.mem_of_getElem? (l := tables_1) (i := 41) rfl)
theorem w_40 {Z : State} {a0 : Array Value} (G : Cl Z a0) : (Jvm.Cond.instanceMethod (⟨"java/lang/String", "equals", "(Ljava/lang/Object;)Z"⟩ : MethodName)).before a0 Z = true := G.1 _ (List.mem_of_getElem? (l := tables_1) (i := 40) rfl)
theorem d_prog_17_method_4_code_28 : decode prog_17_method_4_code 28 = .ok (.ifCond .eq 9, 3) := by decide +kernel
theorem d_prog_17_method_4_code_37 : decode prog_17_method_4_code 37 = .ok (.iinc 3 1, 3) := by decide +kernel
theorem d_prog_17_method_4_code_40 : decode prog_17_method_4_code 40 = .ok (.goto (-31), 3) := by decide +kernel
theorem d_prog_17_method_4_code_43 : decode prog_17_method_4_code 43 = .ok (.invokestatic 52, 3) := by decide +kernel
theorem w_104 {Z : State} {a0 : Array Value} (G : Cl Z a0) : (Jvm.Cond.methodLink "com/example/upfront_quote/upfrontquote/ProductLine" 52 (⟨"java/util/Optional", "empty", "()Ljava/util/Optional;"⟩ : MethodName)).before a0 Z = true := G.1 _ (List.mem_of_getElem? (l := tables_1) (i := 104) rfl)
theorem w_106 {Z : State} {a0 : Array Value} (G : Cl Z a0) : (Jvm.Cond.code (⟨"java/util/Optional", "empty", "()Ljava/util/Optional;"⟩ : MethodName) jdk_32_method_1_code 1 (some (.object "java/util/Optional"))).before a0 Z = true := G.1 _ (List.mem_of_getElem? (l := tables_1) (i := 106) rfl)
theorem pd_15 : parseMethodDescriptor "()Ljava/util/Optional;" = some ⟨[], some (.object "java/util/Optional")⟩ := by decide +kernel
theorem w_105 {Z : State} {a0 : Array Value} (G : Cl Z a0) : (Jvm.Cond.static (⟨"java/util/Optional", "empty", "()Ljava/util/Optional;"⟩ : MethodName)).before a0 Z = true := G.1 _ (List.mem_of_getElem? (l := tables_1) (i := 105) rfl)
theorem d_prog_17_method_4_code_46 : decode prog_17_method_4_code 46 = .ok (.areturn, 1) := by decide +kernel
theorem d_prog_17_method_4_code_31 : decode prog_17_method_4_code 31 = .ok (.aload 4, 2) := by decide +kernel
theorem d_prog_17_method_4_code_33 : decode prog_17_method_4_code 33 = .ok (.invokestatic 46, 3) := by decide +kernel
theorem w_74 {Z : State} {a0 : Array Value} (G : Cl Z a0) : (Jvm.Cond.methodLink "com/example/upfront_quote/upfrontquote/ProductLine" 46 (⟨"java/util/Optional", "of", "(Ljava/lang/Object;)Ljava/util/Optional;"⟩ : MethodName)).before a0 Z = true := G.1 _ (List.mem_of_getElem? (l := tables_1) (i := 74) rfl)
theorem w_77 {Z : State} {a0 : Array Value} (G : Cl Z a0) : (Jvm.Cond.code (⟨"java/util/Optional", "of", "(Ljava/lang/Object;)Ljava/util/Optional;"⟩ : MethodName) jdk_32_method_3_code 1 (some (.object "java/util/Optional"))).before a0 Z = true := G.1 _ (List.mem_of_getElem? (l := tables_1) (i := 77) rfl)
theorem pd_16 : parseMethodDescriptor "(Ljava/lang/Object;)Ljava/util/Optional;" = some ⟨[(.object "java/lang/Object")], some (.object "java/util/Optional")⟩ := by decide +kernel
theorem w_75 {Z : State} {a0 : Array Value} (G : Cl Z a0) : (Jvm.Cond.static (⟨"java/util/Optional", "of", "(Ljava/lang/Object;)Ljava/util/Optional;"⟩ : MethodName)).before a0 Z = true := G.1 _ (List.mem_of_getElem? (l := tables_1) (i := 75) rfl)
theorem d_prog_17_method_4_code_36 : decode prog_17_method_4_code 36 = .ok (.areturn, 1) := by decide +kernel
set_option maxRecDepth 65536 in
set_option maxHeartbeats 40000000 in
theorem rm_srv {l : Launch} {Z : State} {a0 : Array Value} (G : Cl Z a0) (adA : Addr) (adB : Addr) (adC : Addr) (adD : Addr) (adE : Addr) (adF : Addr) (adG : Addr) (adH : Addr) (adI : Addr) (adJ : Addr) (ceA : Cell) (ceB : Cell) (ceC : Cell) (ceD : Cell) (ceE : Cell) (ceF : Cell) (ceG : Cell) (ceH : Cell) (ceI : Cell) (ceJ : Cell) (hzA : Z.heap[adA]? = some ceA) (obA : ObjC Z ceA "com/example/upfront_quote/upfrontquote/ProductLine") (fdA : FldC Z ceA "com/example/upfront_quote/upfrontquote/ProductLine" "path" "Ljava/lang/String;" (.ref adE)) (hzB : Z.heap[adB]? = some ceB) (obB : ObjC Z ceB "[Lcom/example/upfront_quote/upfrontquote/ProductLine;") (arA : ArrC Z ceB (.object "com/example/upfront_quote/upfrontquote/ProductLine") [(.ref adA), (.ref adC), (.ref adD)]) (hzC : Z.heap[adC]? = some ceC) (obC : ObjC Z ceC "com/example/upfront_quote/upfrontquote/ProductLine") (fdC : FldC Z ceC "com/example/upfront_quote/upfrontquote/ProductLine" "path" "Ljava/lang/String;" (.ref adG)) (hzD : Z.heap[adD]? = some ceD) (obD : ObjC Z ceD "com/example/upfront_quote/upfrontquote/ProductLine") (fdE : FldC Z ceD "com/example/upfront_quote/upfrontquote/ProductLine" "path" "Ljava/lang/String;" (.ref adI)) (hzE : Z.heap[adE]? = some ceE) (slA : StrL Z ceE adF ceF [(47 : Int32), (97 : Int32), (112 : Int32), (105 : Int32), (47 : Int32), (118 : Int32), (50 : Int32), (47 : Int32), (98 : Int32), (109 : Int32), (99 : Int32)]) (hzF : Z.heap[adF]? = some ceF) (hzG : Z.heap[adG]? = some ceG) (slB : StrL Z ceG adH ceH [(47 : Int32), (97 : Int32), (112 : Int32), (105 : Int32), (47 : Int32), (118 : Int32), (50 : Int32), (47 : Int32), (122 : Int32), (101 : Int32), (99 : Int32)]) (hzH : Z.heap[adH]? = some ceH) (hzI : Z.heap[adI]? = some ceI) (slC : StrL Z ceI adJ ceJ [(47 : Int32), (97 : Int32), (112 : Int32), (105 : Int32), (47 : Int32), (118 : Int32), (50 : Int32), (47 : Int32), (118 : Int32), (109 : Int32)]) (hzJ : Z.heap[adJ]? = some ceJ) (stA : Sta Z Z.heap "com/example/upfront_quote/upfrontquote/ProductLine" "BMC" "Lcom/example/upfront_quote/upfrontquote/ProductLine;" (.ref adA)) (stB : Sta Z Z.heap "com/example/upfront_quote/upfrontquote/ProductLine" "$VALUES" "[Lcom/example/upfront_quote/upfrontquote/ProductLine;" (.ref adB)) (stC : Sta Z Z.heap "com/example/upfront_quote/upfrontquote/ProductLine" "ZEC" "Lcom/example/upfront_quote/upfrontquote/ProductLine;" (.ref adC)) (stD : Sta Z Z.heap "com/example/upfront_quote/upfrontquote/ProductLine" "VM" "Lcom/example/upfront_quote/upfrontquote/ProductLine;" (.ref adD)) (em : Addr) (cem : Cell) (hzem : Z.heap[em]? = some cem) (obem : ObjC Z cem "java/util/Optional") (fdem : FldC Z cem "java/util/Optional" "value" "Ljava/lang/Object;" .null) (stem : Sta Z Z.heap "java/util/Optional" "EMPTY" "Ljava/util/Optional;" (.ref em)) (a b : Addr) (c cb : Cell) (cs : List Int32) (S : StrL Z c b cb cs) :
    Met l Z EL1 (⟨"com/example/upfront_quote/upfrontquote/ProductLine", "servedOn", "(Ljava/lang/String;)Ljava/util/Optional;"⟩ : MethodName) prog_17_method_4_code 5 (some (.object "java/util/Optional")) ({ frames := 3, cells := 2, slots := 4, locals := 40 } : Room) #[.ref a] [] [(a, c), (b, cb)] (fun v σ ρ => ∃ a c, v = some (.ref a) ∧ σ = [] ∧ ρ = [(a, c)] ∧ ObjC Z c "java/util/Optional" ∧ FldC Z c "java/util/Optional" "value" "Ljava/lang/Object;" (fsn adA adC adD cs)) := by
  refine Met.walk G.2.1 pn_8 #[.val (.ref a), .unset, .unset, .unset, .unset] (fun m => by first | (simp [entryFrame, mkF, argsToLocals, Value.category]; done) | rfl) ?_
  intro X T0 W0
  refine Go.static (pc' := 3) W0 (rm_vals G adA adB adC adD adE adF adG adH adI adJ ceA ceB ceC ceD ceE ceF ceG ceH ceI ceJ hzA obA fdA hzB obB arA hzC obC fdC hzD obD fdE hzE slA hzF hzG slB hzH hzI slC hzJ stA stB stC stD) (w_54 G) (w_55 G) (w_49 G) (w_56 G) (by decide) [] [] (σf := []) rfl rfl [] [] rfl (lenOf pd_13 rfl) rfl rfl d_prog_17_method_4_code_0 rfl (by first | exact Nat.le_of_ble_eq_true rfl | (simp; done) | (simp; omega) | omega) (by first | exact Nat.le_of_ble_eq_true rfl | (simp; done) | (simp; omega) | omega) (by first | exact Nat.le_of_ble_eq_true rfl | (simp; done) | (simp; omega) | omega) (by first | exact Nat.le_of_ble_eq_true rfl | (simp; done) | (simp; omega) | omega) ?_
  rintro _ _ _ T4 ⟨a1, c2, rfl, rfl, rfl, A3⟩ W5
  replace W5 : Wk l Z EL1 ({ frames := 3, cells := 2, slots := 4, locals := 40 } : Room) "com/example/upfront_quote/upfrontquote/ProductLine" prog_17_method_4_code 5 (some (.object "java/util/Optional")) "servedOn" X [(a1, c2)] [(a, c), (b, cb)] T4 1 (3) := W5
  show Go Z EL1 _ _ _ X T4 3 #[.val (.ref a), .unset, .unset, .unset, .unset] [(.ref a1)]
  refine Go.astoreN (pc' := 4) W5 #[.val (.ref a), .val (.ref a1), .unset, .unset, .unset] d_prog_17_method_4_code_3 rfl rfl rfl ?_
  refine Go.aloadN (pc' := 5) W5 d_prog_17_method_4_code_4 rfl rfl rfl ?_
  refine Go.arrlen (pc' := 6) W5 (Or.inl (List.mem_of_getElem? (i := 0) rfl)) A3 (3 : Int32) rfl d_prog_17_method_4_code_5 rfl ?_
  refine Go.istoreN (pc' := 7) W5 #[.val (.ref a), .val (.ref a1), .val (.int (3 : Int32)), .unset, .unset] d_prog_17_method_4_code_6 rfl rfl ?_
  refine Go.iconst (pc' := 8) W5 (0 : Int32) d_prog_17_method_4_code_7 (by decide) rfl ?_
  refine Go.istoreN (pc' := 9) W5 #[.val (.ref a), .val (.ref a1), .val (.int (3 : Int32)), .val (.int (0 : Int32)), .unset] d_prog_17_method_4_code_8 rfl rfl ?_
  refine Go.iloadN (pc' := 10) W5 d_prog_17_method_4_code_9 rfl rfl ?_
  refine Go.iloadN (pc' := 11) W5 d_prog_17_method_4_code_10 rfl rfl ?_
  refine Go.icmp_ge (pc' := 14) W5 43 d_prog_17_method_4_code_11 (by decide) rfl (fun q => absurd (by decide) q) (fun _ => ?_)
  refine Go.aloadN (pc' := 15) W5 d_prog_17_method_4_code_14 rfl rfl rfl ?_
  refine Go.iloadN (pc' := 16) W5 d_prog_17_method_4_code_15 rfl rfl ?_
  refine Go.aaload (pc' := 17) W5 (Or.inl (List.mem_of_getElem? (i := 0) rfl)) A3 rfl 0 (by decide) (by decide) rfl d_prog_17_method_4_code_16 rfl ?_
  refine Go.astore (pc' := 19) W5 #[.val (.ref a), .val (.ref a1), .val (.int (3 : Int32)), .val (.int (0 : Int32)), .val (.ref adA)] d_prog_17_method_4_code_17 rfl rfl rfl ?_
  refine Go.aload (pc' := 21) W5 d_prog_17_method_4_code_19 rfl rfl rfl ?_
  refine Go.getfield (pc' := 24) W5 (Or.inr (Or.inr hzA)) (w_71 G) Via.refl fdA d_prog_17_method_4_code_21 rfl (fun T6 W7 => ?_)
  refine Go.aloadN (pc' := 25) W7 d_prog_17_method_4_code_24 rfl rfl rfl ?_
  have W8 := W7.old hzE
  replace W8 : Wk l Z EL1 ({ frames := 3, cells := 2, slots := 4, locals := 40 } : Room) "com/example/upfront_quote/upfrontquote/ProductLine" prog_17_method_4_code 5 (some (.object "java/util/Optional")) "servedOn" X [(a1, c2)] [(adE, ceE), (a, c), (b, cb)] T6 1 (3) := W8
  have W9 := W8.old hzF
  replace W9 : Wk l Z EL1 ({ frames := 3, cells := 2, slots := 4, locals := 40 } : Room) "com/example/upfront_quote/upfrontquote/ProductLine" prog_17_method_4_code 5 (some (.object "java/util/Optional")) "servedOn" X [(a1, c2)] [(adF, ceF), (adE, ceE), (a, c), (b, cb)] T6 1 (3) := W9
  refine Go.virtual (pc' := 28) W9 (rm_eqs G adE a adF b ceE c ceF cb [(47 : Int32), (97 : Int32), (112 : Int32), (105 : Int32), (47 : Int32), (118 : Int32), (50 : Int32), (47 : Int32), (98 : Int32), (109 : Int32), (99 : Int32)] cs slA S) (Or.inr (Or.inl (List.mem_of_getElem? (i := 1) rfl))) slA.1 (w_73 G) (w_39 G) (w_41 G) (w_40 G) (w_8 G) (w_42 G) (by decide) [] [1, 0, 2, 3] (σf := [(a1, c2)]) rfl rfl [(.ref a)] [] rfl (lenOf pd_14 rfl) rfl rfl d_prog_17_method_4_code_25 rfl (by first | exact Nat.le_of_ble_eq_true rfl | (simp; done) | (simp; omega) | omega) (by first | exact Nat.le_of_ble_eq_true rfl | (simp; done) | (simp; omega) | omega) (by first | exact Nat.le_of_ble_eq_true rfl | (simp; done) | (simp; omega) | omega) (by first | exact Nat.le_of_ble_eq_true rfl | (simp; done) | (simp; omega) | omega) ?_
  rintro _ _ _ T10 ⟨rfl, rfl, rfl⟩ W11
  replace W11 : Wk l Z EL1 ({ frames := 3, cells := 2, slots := 4, locals := 40 } : Room) "com/example/upfront_quote/upfrontquote/ProductLine" prog_17_method_4_code 5 (some (.object "java/util/Optional")) "servedOn" X [(a1, c2)] [(adF, ceF), (adE, ceE), (a, c), (b, cb)] T10 1 (3) := W11
  show Go Z EL1 _ _ _ X T10 28 #[.val (.ref a), .val (.ref a1), .val (.int (3 : Int32)), .val (.int (0 : Int32)), .val (.ref adA)] [(.int (if [(47 : Int32), (97 : Int32), (112 : Int32), (105 : Int32), (47 : Int32), (118 : Int32), (50 : Int32), (47 : Int32), (98 : Int32), (109 : Int32), (99 : Int32)] = cs then 1 else 0))]
  refine Go.if_eq (pc' := 31) W11 37 d_prog_17_method_4_code_28 (by decide) rfl (fun (c12 : (if [(47 : Int32), (97 : Int32), (112 : Int32), (105 : Int32), (47 : Int32), (118 : Int32), (50 : Int32), (47 : Int32), (98 : Int32), (109 : Int32), (99 : Int32)] = cs then 1 else 0) = 0) => ?_) (fun (c12 : ¬ ((if [(47 : Int32), (97 : Int32), (112 : Int32), (105 : Int32), (47 : Int32), (118 : Int32), (50 : Int32), (47 : Int32), (98 : Int32), (109 : Int32), (99 : Int32)] = cs then 1 else 0) = 0)) => ?_)
  · refine Go.iinc (pc' := 40) W11 (1 : Int32) #[.val (.ref a), .val (.ref a1), .val (.int (3 : Int32)), .val (.int ((0 : Int32) + (1 : Int32))), .val (.ref adA)] d_prog_17_method_4_code_37 rfl (by decide) rfl rfl ?_
    rw [show ((0 : Int32) + (1 : Int32) : Int32) = (1 : Int32) from by decide]
    refine Go.goto W11 9 d_prog_17_method_4_code_40 (by decide) ?_
    refine Go.iloadN (pc' := 10) W11 d_prog_17_method_4_code_9 rfl rfl ?_
    refine Go.iloadN (pc' := 11) W11 d_prog_17_method_4_code_10 rfl rfl ?_
    refine Go.icmp_ge (pc' := 14) W11 43 d_prog_17_method_4_code_11 (by decide) rfl (fun q => absurd (by decide) q) (fun _ => ?_)
    refine Go.aloadN (pc' := 15) W11 d_prog_17_method_4_code_14 rfl rfl rfl ?_
    refine Go.iloadN (pc' := 16) W11 d_prog_17_method_4_code_15 rfl rfl ?_
    refine Go.aaload (pc' := 17) W11 (Or.inl (List.mem_of_getElem? (i := 0) rfl)) A3 rfl 1 (by decide) (by decide) rfl d_prog_17_method_4_code_16 rfl ?_
    refine Go.astore (pc' := 19) W11 #[.val (.ref a), .val (.ref a1), .val (.int (3 : Int32)), .val (.int (1 : Int32)), .val (.ref adC)] d_prog_17_method_4_code_17 rfl rfl rfl ?_
    refine Go.aload (pc' := 21) W11 d_prog_17_method_4_code_19 rfl rfl rfl ?_
    refine Go.getfield (pc' := 24) W11 (Or.inr (Or.inr hzC)) (w_71 G) Via.refl fdC d_prog_17_method_4_code_21 rfl (fun T13 W14 => ?_)
    refine Go.aloadN (pc' := 25) W14 d_prog_17_method_4_code_24 rfl rfl rfl ?_
    have W15 := W14.old hzG
    replace W15 : Wk l Z EL1 ({ frames := 3, cells := 2, slots := 4, locals := 40 } : Room) "com/example/upfront_quote/upfrontquote/ProductLine" prog_17_method_4_code 5 (some (.object "java/util/Optional")) "servedOn" X [(a1, c2)] [(adG, ceG), (adF, ceF), (adE, ceE), (a, c), (b, cb)] T13 1 (3) := W15
    have W16 := W15.old hzH
    replace W16 : Wk l Z EL1 ({ frames := 3, cells := 2, slots := 4, locals := 40 } : Room) "com/example/upfront_quote/upfrontquote/ProductLine" prog_17_method_4_code 5 (some (.object "java/util/Optional")) "servedOn" X [(a1, c2)] [(adH, ceH), (adG, ceG), (adF, ceF), (adE, ceE), (a, c), (b, cb)] T13 1 (3) := W16
    refine Go.virtual (pc' := 28) W16 (rm_eqs G adG a adH b ceG c ceH cb [(47 : Int32), (97 : Int32), (112 : Int32), (105 : Int32), (47 : Int32), (118 : Int32), (50 : Int32), (47 : Int32), (122 : Int32), (101 : Int32), (99 : Int32)] cs slB S) (Or.inr (Or.inl (List.mem_of_getElem? (i := 1) rfl))) slB.1 (w_73 G) (w_39 G) (w_41 G) (w_40 G) (w_8 G) (w_42 G) (by decide) [] [1, 0, 4, 5] (σf := [(a1, c2)]) rfl rfl [(.ref a)] [] rfl (lenOf pd_14 rfl) rfl rfl d_prog_17_method_4_code_25 rfl (by first | exact Nat.le_of_ble_eq_true rfl | (simp; done) | (simp; omega) | omega) (by first | exact Nat.le_of_ble_eq_true rfl | (simp; done) | (simp; omega) | omega) (by first | exact Nat.le_of_ble_eq_true rfl | (simp; done) | (simp; omega) | omega) (by first | exact Nat.le_of_ble_eq_true rfl | (simp; done) | (simp; omega) | omega) ?_
    rintro _ _ _ T17 ⟨rfl, rfl, rfl⟩ W18
    replace W18 : Wk l Z EL1 ({ frames := 3, cells := 2, slots := 4, locals := 40 } : Room) "com/example/upfront_quote/upfrontquote/ProductLine" prog_17_method_4_code 5 (some (.object "java/util/Optional")) "servedOn" X [(a1, c2)] [(adH, ceH), (adG, ceG), (adF, ceF), (adE, ceE), (a, c), (b, cb)] T17 1 (3) := W18
    show Go Z EL1 _ _ _ X T17 28 #[.val (.ref a), .val (.ref a1), .val (.int (3 : Int32)), .val (.int (1 : Int32)), .val (.ref adC)] [(.int (if [(47 : Int32), (97 : Int32), (112 : Int32), (105 : Int32), (47 : Int32), (118 : Int32), (50 : Int32), (47 : Int32), (122 : Int32), (101 : Int32), (99 : Int32)] = cs then 1 else 0))]
    refine Go.if_eq (pc' := 31) W18 37 d_prog_17_method_4_code_28 (by decide) rfl (fun (c19 : (if [(47 : Int32), (97 : Int32), (112 : Int32), (105 : Int32), (47 : Int32), (118 : Int32), (50 : Int32), (47 : Int32), (122 : Int32), (101 : Int32), (99 : Int32)] = cs then 1 else 0) = 0) => ?_) (fun (c19 : ¬ ((if [(47 : Int32), (97 : Int32), (112 : Int32), (105 : Int32), (47 : Int32), (118 : Int32), (50 : Int32), (47 : Int32), (122 : Int32), (101 : Int32), (99 : Int32)] = cs then 1 else 0) = 0)) => ?_)
    · refine Go.iinc (pc' := 40) W18 (1 : Int32) #[.val (.ref a), .val (.ref a1), .val (.int (3 : Int32)), .val (.int ((1 : Int32) + (1 : Int32))), .val (.ref adC)] d_prog_17_method_4_code_37 rfl (by decide) rfl rfl ?_
      rw [show ((1 : Int32) + (1 : Int32) : Int32) = (2 : Int32) from by decide]
      refine Go.goto W18 9 d_prog_17_method_4_code_40 (by decide) ?_
      refine Go.iloadN (pc' := 10) W18 d_prog_17_method_4_code_9 rfl rfl ?_
      refine Go.iloadN (pc' := 11) W18 d_prog_17_method_4_code_10 rfl rfl ?_
      refine Go.icmp_ge (pc' := 14) W18 43 d_prog_17_method_4_code_11 (by decide) rfl (fun q => absurd (by decide) q) (fun _ => ?_)
      refine Go.aloadN (pc' := 15) W18 d_prog_17_method_4_code_14 rfl rfl rfl ?_
      refine Go.iloadN (pc' := 16) W18 d_prog_17_method_4_code_15 rfl rfl ?_
      refine Go.aaload (pc' := 17) W18 (Or.inl (List.mem_of_getElem? (i := 0) rfl)) A3 rfl 2 (by decide) (by decide) rfl d_prog_17_method_4_code_16 rfl ?_
      refine Go.astore (pc' := 19) W18 #[.val (.ref a), .val (.ref a1), .val (.int (3 : Int32)), .val (.int (2 : Int32)), .val (.ref adD)] d_prog_17_method_4_code_17 rfl rfl rfl ?_
      refine Go.aload (pc' := 21) W18 d_prog_17_method_4_code_19 rfl rfl rfl ?_
      refine Go.getfield (pc' := 24) W18 (Or.inr (Or.inr hzD)) (w_71 G) Via.refl fdE d_prog_17_method_4_code_21 rfl (fun T20 W21 => ?_)
      refine Go.aloadN (pc' := 25) W21 d_prog_17_method_4_code_24 rfl rfl rfl ?_
      have W22 := W21.old hzI
      replace W22 : Wk l Z EL1 ({ frames := 3, cells := 2, slots := 4, locals := 40 } : Room) "com/example/upfront_quote/upfrontquote/ProductLine" prog_17_method_4_code 5 (some (.object "java/util/Optional")) "servedOn" X [(a1, c2)] [(adI, ceI), (adH, ceH), (adG, ceG), (adF, ceF), (adE, ceE), (a, c), (b, cb)] T20 1 (3) := W22
      have W23 := W22.old hzJ
      replace W23 : Wk l Z EL1 ({ frames := 3, cells := 2, slots := 4, locals := 40 } : Room) "com/example/upfront_quote/upfrontquote/ProductLine" prog_17_method_4_code 5 (some (.object "java/util/Optional")) "servedOn" X [(a1, c2)] [(adJ, ceJ), (adI, ceI), (adH, ceH), (adG, ceG), (adF, ceF), (adE, ceE), (a, c), (b, cb)] T20 1 (3) := W23
      refine Go.virtual (pc' := 28) W23 (rm_eqs G adI a adJ b ceI c ceJ cb [(47 : Int32), (97 : Int32), (112 : Int32), (105 : Int32), (47 : Int32), (118 : Int32), (50 : Int32), (47 : Int32), (118 : Int32), (109 : Int32)] cs slC S) (Or.inr (Or.inl (List.mem_of_getElem? (i := 1) rfl))) slC.1 (w_73 G) (w_39 G) (w_41 G) (w_40 G) (w_8 G) (w_42 G) (by decide) [] [1, 0, 6, 7] (σf := [(a1, c2)]) rfl rfl [(.ref a)] [] rfl (lenOf pd_14 rfl) rfl rfl d_prog_17_method_4_code_25 rfl (by first | exact Nat.le_of_ble_eq_true rfl | (simp; done) | (simp; omega) | omega) (by first | exact Nat.le_of_ble_eq_true rfl | (simp; done) | (simp; omega) | omega) (by first | exact Nat.le_of_ble_eq_true rfl | (simp; done) | (simp; omega) | omega) (by first | exact Nat.le_of_ble_eq_true rfl | (simp; done) | (simp; omega) | omega) ?_
      rintro _ _ _ T24 ⟨rfl, rfl, rfl⟩ W25
      replace W25 : Wk l Z EL1 ({ frames := 3, cells := 2, slots := 4, locals := 40 } : Room) "com/example/upfront_quote/upfrontquote/ProductLine" prog_17_method_4_code 5 (some (.object "java/util/Optional")) "servedOn" X [(a1, c2)] [(adJ, ceJ), (adI, ceI), (adH, ceH), (adG, ceG), (adF, ceF), (adE, ceE), (a, c), (b, cb)] T24 1 (3) := W25
      show Go Z EL1 _ _ _ X T24 28 #[.val (.ref a), .val (.ref a1), .val (.int (3 : Int32)), .val (.int (2 : Int32)), .val (.ref adD)] [(.int (if [(47 : Int32), (97 : Int32), (112 : Int32), (105 : Int32), (47 : Int32), (118 : Int32), (50 : Int32), (47 : Int32), (118 : Int32), (109 : Int32)] = cs then 1 else 0))]
      refine Go.if_eq (pc' := 31) W25 37 d_prog_17_method_4_code_28 (by decide) rfl (fun (c26 : (if [(47 : Int32), (97 : Int32), (112 : Int32), (105 : Int32), (47 : Int32), (118 : Int32), (50 : Int32), (47 : Int32), (118 : Int32), (109 : Int32)] = cs then 1 else 0) = 0) => ?_) (fun (c26 : ¬ ((if [(47 : Int32), (97 : Int32), (112 : Int32), (105 : Int32), (47 : Int32), (118 : Int32), (50 : Int32), (47 : Int32), (118 : Int32), (109 : Int32)] = cs then 1 else 0) = 0)) => ?_)
      · refine Go.iinc (pc' := 40) W25 (1 : Int32) #[.val (.ref a), .val (.ref a1), .val (.int (3 : Int32)), .val (.int ((2 : Int32) + (1 : Int32))), .val (.ref adD)] d_prog_17_method_4_code_37 rfl (by decide) rfl rfl ?_
        rw [show ((2 : Int32) + (1 : Int32) : Int32) = (3 : Int32) from by decide]
        refine Go.goto W25 9 d_prog_17_method_4_code_40 (by decide) ?_
        refine Go.iloadN (pc' := 10) W25 d_prog_17_method_4_code_9 rfl rfl ?_
        refine Go.iloadN (pc' := 11) W25 d_prog_17_method_4_code_10 rfl rfl ?_
        refine Go.icmp_ge (pc' := 14) W25 43 d_prog_17_method_4_code_11 (by decide) rfl (fun _ => ?_) (fun q => absurd q (by decide))
        refine Go.static (pc' := 46) W25 (rm_em G em cem hzem obem fdem stem) (w_104 G) (w_105 G) (w_76 G) (w_106 G) (by decide) [] [] (σf := [(a1, c2)]) rfl rfl [] [] rfl (lenOf pd_15 rfl) rfl rfl d_prog_17_method_4_code_43 rfl (by first | exact Nat.le_of_ble_eq_true rfl | (simp; done) | (simp; omega) | omega) (by first | exact Nat.le_of_ble_eq_true rfl | (simp; done) | (simp; omega) | omega) (by first | exact Nat.le_of_ble_eq_true rfl | (simp; done) | (simp; omega) | omega) (by first | exact Nat.le_of_ble_eq_true rfl | (simp; done) | (simp; omega) | omega) ?_
        rintro _ _ _ T27 ⟨rfl, rfl, rfl⟩ W28
        replace W28 : Wk l Z EL1 ({ frames := 3, cells := 2, slots := 4, locals := 40 } : Room) "com/example/upfront_quote/upfrontquote/ProductLine" prog_17_method_4_code 5 (some (.object "java/util/Optional")) "servedOn" X [(a1, c2)] [(adJ, ceJ), (adI, ceI), (adH, ceH), (adG, ceG), (adF, ceF), (adE, ceE), (a, c), (b, cb)] T27 1 (3) := W28
        show Go Z EL1 _ _ _ X T27 46 #[.val (.ref a), .val (.ref a1), .val (.int (3 : Int32)), .val (.int (3 : Int32)), .val (.ref adD)] [(.ref em)]
        have W29 := W28.old hzem
        replace W29 : Wk l Z EL1 ({ frames := 3, cells := 2, slots := 4, locals := 40 } : Room) "com/example/upfront_quote/upfrontquote/ProductLine" prog_17_method_4_code 5 (some (.object "java/util/Optional")) "servedOn" X [(a1, c2)] [(em, cem), (adJ, ceJ), (adI, ceI), (adH, ceH), (adG, ceG), (adF, ceF), (adE, ceE), (a, c), (b, cb)] T27 1 (3) := W29
        have W30 := W29.drop [0] (σi := [(a1, c2)]) (σf := []) rfl
        replace W30 : Wk l Z EL1 ({ frames := 3, cells := 2, slots := 4, locals := 40 } : Room) "com/example/upfront_quote/upfrontquote/ProductLine" prog_17_method_4_code 5 (some (.object "java/util/Optional")) "servedOn" X [] [(em, cem), (adJ, ceJ), (adI, ceI), (adH, ceH), (adG, ceG), (adF, ceF), (adE, ceE), (a, c), (b, cb)] T27 1 (3) := W30
        have W31 := W30.keepRo [0] (ρ' := [(em, cem)]) rfl
        replace W31 : Wk l Z EL1 ({ frames := 3, cells := 2, slots := 4, locals := 40 } : Room) "com/example/upfront_quote/upfrontquote/ProductLine" prog_17_method_4_code 5 (some (.object "java/util/Optional")) "servedOn" X [] [(em, cem)] T27 1 (3) := W31
        refine Go.aret W31 rfl rfl d_prog_17_method_4_code_46 (by first | exact Nat.le_of_ble_eq_true rfl | (simp; done) | (simp; omega) | omega) (by first | exact Nat.le_of_ble_eq_true rfl | (simp; done) | (simp; omega) | omega) ?_
        exact ⟨_, _, rfl, rfl, rfl, obem, by rw [fsn, if_neg (fun e => ite10_z.mp c12 e.symm), if_neg (fun e => ite10_z.mp c19 e.symm), if_neg (fun e => ite10_z.mp c26 e.symm)]; exact fdem⟩
      · refine Go.aload (pc' := 33) W25 d_prog_17_method_4_code_31 rfl rfl rfl ?_
        refine Go.static (pc' := 36) W25 (rm_of G adD) (w_74 G) (w_75 G) (w_76 G) (w_77 G) (by decide) [] [] (σf := [(a1, c2)]) rfl rfl [(.ref adD)] [] rfl (lenOf pd_16 rfl) rfl rfl d_prog_17_method_4_code_33 rfl (by first | exact Nat.le_of_ble_eq_true rfl | (simp; done) | (simp; omega) | omega) (by first | exact Nat.le_of_ble_eq_true rfl | (simp; done) | (simp; omega) | omega) (by first | exact Nat.le_of_ble_eq_true rfl | (simp; done) | (simp; omega) | omega) (by first | exact Nat.le_of_ble_eq_true rfl | (simp; done) | (simp; omega) | omega) ?_
        rintro _ _ _ T36 ⟨a32, c33, rfl, rfl, rfl, O34, F35⟩ W37
        replace W37 : Wk l Z EL1 ({ frames := 3, cells := 2, slots := 4, locals := 40 } : Room) "com/example/upfront_quote/upfrontquote/ProductLine" prog_17_method_4_code 5 (some (.object "java/util/Optional")) "servedOn" X [(a1, c2)] [(a32, c33), (adJ, ceJ), (adI, ceI), (adH, ceH), (adG, ceG), (adF, ceF), (adE, ceE), (a, c), (b, cb)] T36 2 (4) := W37
        show Go Z EL1 _ _ _ X T36 36 #[.val (.ref a), .val (.ref a1), .val (.int (3 : Int32)), .val (.int (2 : Int32)), .val (.ref adD)] [(.ref a32)]
        have W38 := W37.drop [0] (σi := [(a1, c2)]) (σf := []) rfl
        replace W38 : Wk l Z EL1 ({ frames := 3, cells := 2, slots := 4, locals := 40 } : Room) "com/example/upfront_quote/upfrontquote/ProductLine" prog_17_method_4_code 5 (some (.object "java/util/Optional")) "servedOn" X [] [(a32, c33), (adJ, ceJ), (adI, ceI), (adH, ceH), (adG, ceG), (adF, ceF), (adE, ceE), (a, c), (b, cb)] T36 2 (4) := W38
        have W39 := W38.keepRo [0] (ρ' := [(a32, c33)]) rfl
        replace W39 : Wk l Z EL1 ({ frames := 3, cells := 2, slots := 4, locals := 40 } : Room) "com/example/upfront_quote/upfrontquote/ProductLine" prog_17_method_4_code 5 (some (.object "java/util/Optional")) "servedOn" X [] [(a32, c33)] T36 2 (4) := W39
        refine Go.aret W39 rfl rfl d_prog_17_method_4_code_36 (by first | exact Nat.le_of_ble_eq_true rfl | (simp; done) | (simp; omega) | omega) (by first | exact Nat.le_of_ble_eq_true rfl | (simp; done) | (simp; omega) | omega) ?_
        exact ⟨_, _, rfl, rfl, rfl, O34, by rw [fsn, if_neg (fun e => ite10_z.mp c12 e.symm), if_neg (fun e => ite10_z.mp c19 e.symm), if_pos (Classical.not_not.mp (fun e => c26 (ite10_z.mpr (fun e' => e e'.symm))))]; exact F35⟩
    · refine Go.aload (pc' := 33) W18 d_prog_17_method_4_code_31 rfl rfl rfl ?_
      refine Go.static (pc' := 36) W18 (rm_of G adC) (w_74 G) (w_75 G) (w_76 G) (w_77 G) (by decide) [] [] (σf := [(a1, c2)]) rfl rfl [(.ref adC)] [] rfl (lenOf pd_16 rfl) rfl rfl d_prog_17_method_4_code_33 rfl (by first | exact Nat.le_of_ble_eq_true rfl | (simp; done) | (simp; omega) | omega) (by first | exact Nat.le_of_ble_eq_true rfl | (simp; done) | (simp; omega) | omega) (by first | exact Nat.le_of_ble_eq_true rfl | (simp; done) | (simp; omega) | omega) (by first | exact Nat.le_of_ble_eq_true rfl | (simp; done) | (simp; omega) | omega) ?_
      rintro _ _ _ T44 ⟨a40, c41, rfl, rfl, rfl, O42, F43⟩ W45
      replace W45 : Wk l Z EL1 ({ frames := 3, cells := 2, slots := 4, locals := 40 } : Room) "com/example/upfront_quote/upfrontquote/ProductLine" prog_17_method_4_code 5 (some (.object "java/util/Optional")) "servedOn" X [(a1, c2)] [(a40, c41), (adH, ceH), (adG, ceG), (adF, ceF), (adE, ceE), (a, c), (b, cb)] T44 2 (4) := W45
      show Go Z EL1 _ _ _ X T44 36 #[.val (.ref a), .val (.ref a1), .val (.int (3 : Int32)), .val (.int (1 : Int32)), .val (.ref adC)] [(.ref a40)]
      have W46 := W45.drop [0] (σi := [(a1, c2)]) (σf := []) rfl
      replace W46 : Wk l Z EL1 ({ frames := 3, cells := 2, slots := 4, locals := 40 } : Room) "com/example/upfront_quote/upfrontquote/ProductLine" prog_17_method_4_code 5 (some (.object "java/util/Optional")) "servedOn" X [] [(a40, c41), (adH, ceH), (adG, ceG), (adF, ceF), (adE, ceE), (a, c), (b, cb)] T44 2 (4) := W46
      have W47 := W46.keepRo [0] (ρ' := [(a40, c41)]) rfl
      replace W47 : Wk l Z EL1 ({ frames := 3, cells := 2, slots := 4, locals := 40 } : Room) "com/example/upfront_quote/upfrontquote/ProductLine" prog_17_method_4_code 5 (some (.object "java/util/Optional")) "servedOn" X [] [(a40, c41)] T44 2 (4) := W47
      refine Go.aret W47 rfl rfl d_prog_17_method_4_code_36 (by first | exact Nat.le_of_ble_eq_true rfl | (simp; done) | (simp; omega) | omega) (by first | exact Nat.le_of_ble_eq_true rfl | (simp; done) | (simp; omega) | omega) ?_
      exact ⟨_, _, rfl, rfl, rfl, O42, by rw [fsn, if_neg (fun e => ite10_z.mp c12 e.symm), if_pos (Classical.not_not.mp (fun e => c19 (ite10_z.mpr (fun e' => e e'.symm))))]; exact F43⟩
  · refine Go.aload (pc' := 33) W11 d_prog_17_method_4_code_31 rfl rfl rfl ?_
    refine Go.static (pc' := 36) W11 (rm_of G adA) (w_74 G) (w_75 G) (w_76 G) (w_77 G) (by decide) [] [] (σf := [(a1, c2)]) rfl rfl [(.ref adA)] [] rfl (lenOf pd_16 rfl) rfl rfl d_prog_17_method_4_code_33 rfl (by first | exact Nat.le_of_ble_eq_true rfl | (simp; done) | (simp; omega) | omega) (by first | exact Nat.le_of_ble_eq_true rfl | (simp; done) | (simp; omega) | omega) (by first | exact Nat.le_of_ble_eq_true rfl | (simp; done) | (simp; omega) | omega) (by first | exact Nat.le_of_ble_eq_true rfl | (simp; done) | (simp; omega) | omega) ?_
    rintro _ _ _ T52 ⟨a48, c49, rfl, rfl, rfl, O50, F51⟩ W53
    replace W53 : Wk l Z EL1 ({ frames := 3, cells := 2, slots := 4, locals := 40 } : Room) "com/example/upfront_quote/upfrontquote/ProductLine" prog_17_method_4_code 5 (some (.object "java/util/Optional")) "servedOn" X [(a1, c2)] [(a48, c49), (adF, ceF), (adE, ceE), (a, c), (b, cb)] T52 2 (4) := W53
    show Go Z EL1 _ _ _ X T52 36 #[.val (.ref a), .val (.ref a1), .val (.int (3 : Int32)), .val (.int (0 : Int32)), .val (.ref adA)] [(.ref a48)]
    have W54 := W53.drop [0] (σi := [(a1, c2)]) (σf := []) rfl
    replace W54 : Wk l Z EL1 ({ frames := 3, cells := 2, slots := 4, locals := 40 } : Room) "com/example/upfront_quote/upfrontquote/ProductLine" prog_17_method_4_code 5 (some (.object "java/util/Optional")) "servedOn" X [] [(a48, c49), (adF, ceF), (adE, ceE), (a, c), (b, cb)] T52 2 (4) := W54
    have W55 := W54.keepRo [0] (ρ' := [(a48, c49)]) rfl
    replace W55 : Wk l Z EL1 ({ frames := 3, cells := 2, slots := 4, locals := 40 } : Room) "com/example/upfront_quote/upfrontquote/ProductLine" prog_17_method_4_code 5 (some (.object "java/util/Optional")) "servedOn" X [] [(a48, c49)] T52 2 (4) := W55
    refine Go.aret W55 rfl rfl d_prog_17_method_4_code_36 (by first | exact Nat.le_of_ble_eq_true rfl | (simp; done) | (simp; omega) | omega) (by first | exact Nat.le_of_ble_eq_true rfl | (simp; done) | (simp; omega) | omega) ?_
    exact ⟨_, _, rfl, rfl, rfl, O50, by rw [fsn, if_pos (Classical.not_not.mp (fun e => c12 (ite10_z.mpr (fun e' => e e'.symm))))]; exact F51⟩
theorem pn_17 : plainName "com/example/upfront_quote/upfrontquote/ProductLineServedOnPinLaw" = true := by first | (simp [plainName, overriddenIn]; done) | decide +kernel
theorem d_method_2_code_0 : decode method_2_code 0 = .ok (.iload_n 1, 1) := by decide +kernel
theorem d_method_2_code_1 : decode method_2_code 1 = .ok (.ifCond .ne 14, 3) := by decide +kernel
theorem d_method_2_code_4 : decode method_2_code 4 = .ok (.new 7, 3) := by decide +kernel
theorem w_6 {Z : State} {a0 : Array Value} (G : Cl Z a0) : (Jvm.Cond.classLink "com/example/upfront_quote/upfrontquote/ProductLineServedOnPinLaw" 7 "java/lang/String").before a0 Z = true := G.1 _ (List.mem_of_getElem? (l := tables_1) (i := 6) rfl)
theorem d_method_2_code_7 : decode method_2_code 7 = .ok (.dup, 1) := by decide +kernel
theorem d_method_2_code_8 : decode method_2_code 8 = .ok (.iconst 0, 1) := by decide +kernel
theorem d_method_2_code_9 : decode method_2_code 9 = .ok (.newarray .char, 2) := by decide +kernel
theorem w_1 {Z : State} {a0 : Array Value} (G : Cl Z a0) : (Jvm.Cond.arrayClass .char).before a0 Z = true := G.1 _ (List.mem_of_getElem? (l := tables_1) (i := 1) rfl)
theorem d_method_2_code_11 : decode method_2_code 11 = .ok (.invokespecial 9, 3) := by decide +kernel
theorem w_9 {Z : State} {a0 : Array Value} (G : Cl Z a0) : (Jvm.Cond.methodLink "com/example/upfront_quote/upfrontquote/ProductLineServedOnPinLaw" 9 (⟨"java/lang/String", "<init>", "([C)V"⟩ : MethodName)).before a0 Z = true := G.1 _ (List.mem_of_getElem? (l := tables_1) (i := 9) rfl)
theorem w_11 {Z : State} {a0 : Array Value} (G : Cl Z a0) : (Jvm.Cond.code (⟨"java/lang/String", "<init>", "([C)V"⟩ : MethodName) jdk_42_method_3_code 2 none).before a0 Z = true := G.1 _ (List.mem_of_getElem? (l := tables_1) (i := 11) rfl)
theorem pd_18 : parseMethodDescriptor "([C)V" = some ⟨[(.array .char)], none⟩ := by decide +kernel
theorem w_10 {Z : State} {a0 : Array Value} (G : Cl Z a0) : (Jvm.Cond.instanceMethod (⟨"java/lang/String", "<init>", "([C)V"⟩ : MethodName)).before a0 Z = true := G.1 _ (List.mem_of_getElem? (l := tables_1) (i := 10) rfl)
theorem d_method_2_code_14 : decode method_2_code 14 = .ok (.areturn, 1) := by decide +kernel
set_option maxRecDepth 65536 in
set_option maxHeartbeats 40000000 in
theorem rm_cut_A {l : Launch} {Z : State} {a0 : Array Value} (G : Cl Z a0) (ac : Addr) (cc : Cell) (xa xb xc xd xe xf xg xh xi xj xk xl : Int32) (hL : Lat [xa, xb, xc, xd, xe, xf, xg, xh, xi, xj, xk, xl]) (A : ArrC Z cc .char [(.int xa), (.int xb), (.int xc), (.int xd), (.int xe), (.int xf), (.int xg), (.int xh), (.int xi), (.int xj), (.int xk), (.int xl)]) :
    Met l Z EL1 (⟨"com/example/upfront_quote/upfrontquote/ProductLineServedOnPinLaw", "cut", "([CI)Ljava/lang/String;"⟩ : MethodName) method_2_code 2 (some (.object "java/lang/String")) ({ frames := 4, cells := 6, slots := 12, locals := 70 } : Room) #[.ref ac, .int (0 : Int32)] [(ac, cc)] [] (fun v σ ρ => ∃ a c b cb, v = some (.ref a) ∧ σ = [] ∧ ρ = [(a, c), (b, cb)] ∧ StrL Z c b cb []) := by
  refine Met.walk G.2.1 pn_17 #[.val (.ref ac), .val (.int (0 : Int32))] (fun m => by first | (simp [entryFrame, mkF, argsToLocals, Value.category]; done) | rfl) ?_
  intro X T0 W0
  refine Go.iloadN (pc' := 1) W0 d_method_2_code_0 rfl rfl ?_
  refine Go.if_ne (pc' := 4) W0 15 d_method_2_code_1 (by decide) rfl (fun q => absurd (by decide) q) (fun _ => ?_)
  refine Go.new (pc' := 7) W0 (w_6 G) (w_7 G) (w_8 G) d_method_2_code_4 rfl (by first | exact Nat.le_of_ble_eq_true rfl | (simp; done) | (simp; omega) | omega) (by first | exact Nat.le_of_ble_eq_true rfl | (simp; done) | (simp; omega) | omega) (fun T1 a3 c4 W2 O5 D6 => ?_)
  replace W2 : Wk l Z EL1 ({ frames := 4, cells := 6, slots := 12, locals := 70 } : Room) "com/example/upfront_quote/upfrontquote/ProductLineServedOnPinLaw" method_2_code 2 (some (.object "java/lang/String")) "cut" X [(a3, c4), (ac, cc)] [] T1 1 (4) := W2
  have F7 : FldC Z c4 "java/lang/String" "coder" "B" (.int (0 : Int32)) := D6 (Or.inr (w_32 G)) (ty := .byte) (by decide)
  have F8 : FldC Z c4 "java/lang/String" "value" "[B" (.null) := D6 (Or.inr (w_34 G)) (ty := (.array .byte)) (by decide)
  refine Go.dup (pc' := 8) W2 d_method_2_code_7 rfl rfl ?_
  refine Go.iconst (pc' := 9) W2 (0 : Int32) d_method_2_code_8 (by decide) rfl ?_
  refine Go.newarr (pc' := 11) W2 .char rfl 0 (w_1 G) d_method_2_code_9 rfl (by decide) (by decide) (by decide) (by first | exact Nat.le_of_ble_eq_true rfl | (simp; done) | (simp; omega) | omega) (by first | exact Nat.le_of_ble_eq_true rfl | (simp; done) | (simp; omega) | omega) (fun T9 a11 c12 W10 A13 => ?_)
  replace W10 : Wk l Z EL1 ({ frames := 4, cells := 6, slots := 12, locals := 70 } : Room) "com/example/upfront_quote/upfrontquote/ProductLineServedOnPinLaw" method_2_code 2 (some (.object "java/lang/String")) "cut" X [(a11, c12), (a3, c4), (ac, cc)] [] T9 2 (4) := W10
  replace A13 : ArrC Z c12 .char [] := A13
  refine Go.special (pc' := 14) W10 (a := a3) (rm_initC0 G a3 a11 c4 c12 A13 O5 F7 F8) rfl (w_9 G) (w_10 G) (w_8 G) (w_11 G) (by decide) [1, 0] [] (σf := [(ac, cc)]) rfl rfl [(.ref a11)] [(.ref a3)] rfl (lenOf pd_18 rfl) rfl rfl d_method_2_code_11 rfl (by first | exact Nat.le_of_ble_eq_true rfl | (simp; done) | (simp; omega) | omega) (by first | exact Nat.le_of_ble_eq_true rfl | (simp; done) | (simp; omega) | omega) (by first | exact Nat.le_of_ble_eq_true rfl | (simp; done) | (simp; omega) | omega) (by first | exact Nat.le_of_ble_eq_true rfl | (simp; done) | (simp; omega) | omega) ?_
  rintro _ _ _ T18 ⟨c14, b15, c16, rfl, rfl, rfl, S17⟩ W19
  replace W19 : Wk l Z EL1 ({ frames := 4, cells := 6, slots := 12, locals := 70 } : Room) "com/example/upfront_quote/upfrontquote/ProductLineServedOnPinLaw" method_2_code 2 (some (.object "java/lang/String")) "cut" X [(a11, c12), (ac, cc)] [(a3, c14), (b15, c16)] T18 6 (12) := W19
  show Go Z EL1 _ _ _ X T18 14 #[.val (.ref ac), .val (.int (0 : Int32))] [(.ref a3)]
  have W20 := W19.drop [0, 0] (σi := [(a11, c12), (ac, cc)]) (σf := []) rfl
  replace W20 : Wk l Z EL1 ({ frames := 4, cells := 6, slots := 12, locals := 70 } : Room) "com/example/upfront_quote/upfrontquote/ProductLineServedOnPinLaw" method_2_code 2 (some (.object "java/lang/String")) "cut" X [] [(a3, c14), (b15, c16)] T18 6 (12) := W20
  have W21 := W20.keepRo [0, 1] (ρ' := [(a3, c14), (b15, c16)]) rfl
  replace W21 : Wk l Z EL1 ({ frames := 4, cells := 6, slots := 12, locals := 70 } : Room) "com/example/upfront_quote/upfrontquote/ProductLineServedOnPinLaw" method_2_code 2 (some (.object "java/lang/String")) "cut" X [] [(a3, c14), (b15, c16)] T18 6 (12) := W21
  refine Go.aret W21 rfl rfl d_method_2_code_14 (by first | exact Nat.le_of_ble_eq_true rfl | (simp; done) | (simp; omega) | omega) (by first | exact Nat.le_of_ble_eq_true rfl | (simp; done) | (simp; omega) | omega) ?_
  exact ⟨a3, c14, b15, c16, rfl, rfl, rfl, S17⟩
theorem d_method_2_code_15 : decode method_2_code 15 = .ok (.iload_n 1, 1) := by decide +kernel
theorem d_method_2_code_16 : decode method_2_code 16 = .ok (.bipush 9, 2) := by decide +kernel
theorem d_method_2_code_18 : decode method_2_code 18 = .ok (.if_icmp .ne 75, 3) := by decide +kernel
theorem d_method_2_code_21 : decode method_2_code 21 = .ok (.new 7, 3) := by decide +kernel
theorem d_method_2_code_24 : decode method_2_code 24 = .ok (.dup, 1) := by decide +kernel
theorem d_method_2_code_25 : decode method_2_code 25 = .ok (.bipush 9, 2) := by decide +kernel
theorem d_method_2_code_27 : decode method_2_code 27 = .ok (.newarray .char, 2) := by decide +kernel
theorem d_method_2_code_29 : decode method_2_code 29 = .ok (.dup, 1) := by decide +kernel
theorem d_method_2_code_30 : decode method_2_code 30 = .ok (.iconst 0, 1) := by decide +kernel
theorem d_method_2_code_31 : decode method_2_code 31 = .ok (.aload_n 0, 1) := by decide +kernel
theorem d_method_2_code_32 : decode method_2_code 32 = .ok (.iconst 0, 1) := by decide +kernel
theorem d_method_2_code_33 : decode method_2_code 33 = .ok (.caload, 1) := by decide +kernel
theorem d_method_2_code_34 : decode method_2_code 34 = .ok (.castore, 1) := by decide +kernel
theorem d_method_2_code_35 : decode method_2_code 35 = .ok (.dup, 1) := by decide +kernel
theorem d_method_2_code_36 : decode method_2_code 36 = .ok (.iconst 1, 1) := by decide +kernel
theorem d_method_2_code_37 : decode method_2_code 37 = .ok (.aload_n 0, 1) := by decide +kernel
theorem d_method_2_code_38 : decode method_2_code 38 = .ok (.iconst 1, 1) := by decide +kernel
theorem d_method_2_code_39 : decode method_2_code 39 = .ok (.caload, 1) := by decide +kernel
theorem d_method_2_code_40 : decode method_2_code 40 = .ok (.castore, 1) := by decide +kernel
theorem d_method_2_code_41 : decode method_2_code 41 = .ok (.dup, 1) := by decide +kernel
theorem d_method_2_code_42 : decode method_2_code 42 = .ok (.iconst 2, 1) := by decide +kernel
theorem d_method_2_code_43 : decode method_2_code 43 = .ok (.aload_n 0, 1) := by decide +kernel
theorem d_method_2_code_44 : decode method_2_code 44 = .ok (.iconst 2, 1) := by decide +kernel
theorem d_method_2_code_45 : decode method_2_code 45 = .ok (.caload, 1) := by decide +kernel
theorem d_method_2_code_46 : decode method_2_code 46 = .ok (.castore, 1) := by decide +kernel
theorem d_method_2_code_47 : decode method_2_code 47 = .ok (.dup, 1) := by decide +kernel
theorem d_method_2_code_48 : decode method_2_code 48 = .ok (.iconst 3, 1) := by decide +kernel
theorem d_method_2_code_49 : decode method_2_code 49 = .ok (.aload_n 0, 1) := by decide +kernel
theorem d_method_2_code_50 : decode method_2_code 50 = .ok (.iconst 3, 1) := by decide +kernel
theorem d_method_2_code_51 : decode method_2_code 51 = .ok (.caload, 1) := by decide +kernel
theorem d_method_2_code_52 : decode method_2_code 52 = .ok (.castore, 1) := by decide +kernel
theorem d_method_2_code_53 : decode method_2_code 53 = .ok (.dup, 1) := by decide +kernel
theorem d_method_2_code_54 : decode method_2_code 54 = .ok (.iconst 4, 1) := by decide +kernel
theorem d_method_2_code_55 : decode method_2_code 55 = .ok (.aload_n 0, 1) := by decide +kernel
theorem d_method_2_code_56 : decode method_2_code 56 = .ok (.iconst 4, 1) := by decide +kernel
theorem d_method_2_code_57 : decode method_2_code 57 = .ok (.caload, 1) := by decide +kernel
theorem d_method_2_code_58 : decode method_2_code 58 = .ok (.castore, 1) := by decide +kernel
theorem d_method_2_code_59 : decode method_2_code 59 = .ok (.dup, 1) := by decide +kernel
theorem d_method_2_code_60 : decode method_2_code 60 = .ok (.iconst 5, 1) := by decide +kernel
theorem d_method_2_code_61 : decode method_2_code 61 = .ok (.aload_n 0, 1) := by decide +kernel
theorem d_method_2_code_62 : decode method_2_code 62 = .ok (.iconst 5, 1) := by decide +kernel
theorem d_method_2_code_63 : decode method_2_code 63 = .ok (.caload, 1) := by decide +kernel
theorem d_method_2_code_64 : decode method_2_code 64 = .ok (.castore, 1) := by decide +kernel
theorem d_method_2_code_65 : decode method_2_code 65 = .ok (.dup, 1) := by decide +kernel
theorem d_method_2_code_66 : decode method_2_code 66 = .ok (.bipush 6, 2) := by decide +kernel
theorem d_method_2_code_68 : decode method_2_code 68 = .ok (.aload_n 0, 1) := by decide +kernel
theorem d_method_2_code_69 : decode method_2_code 69 = .ok (.bipush 6, 2) := by decide +kernel
theorem d_method_2_code_71 : decode method_2_code 71 = .ok (.caload, 1) := by decide +kernel
theorem d_method_2_code_72 : decode method_2_code 72 = .ok (.castore, 1) := by decide +kernel
theorem d_method_2_code_73 : decode method_2_code 73 = .ok (.dup, 1) := by decide +kernel
theorem d_method_2_code_74 : decode method_2_code 74 = .ok (.bipush 7, 2) := by decide +kernel
theorem d_method_2_code_76 : decode method_2_code 76 = .ok (.aload_n 0, 1) := by decide +kernel
theorem d_method_2_code_77 : decode method_2_code 77 = .ok (.bipush 7, 2) := by decide +kernel
theorem d_method_2_code_79 : decode method_2_code 79 = .ok (.caload, 1) := by decide +kernel
theorem d_method_2_code_80 : decode method_2_code 80 = .ok (.castore, 1) := by decide +kernel
theorem d_method_2_code_81 : decode method_2_code 81 = .ok (.dup, 1) := by decide +kernel
theorem d_method_2_code_82 : decode method_2_code 82 = .ok (.bipush 8, 2) := by decide +kernel
theorem d_method_2_code_84 : decode method_2_code 84 = .ok (.aload_n 0, 1) := by decide +kernel
theorem d_method_2_code_85 : decode method_2_code 85 = .ok (.bipush 8, 2) := by decide +kernel
theorem d_method_2_code_87 : decode method_2_code 87 = .ok (.caload, 1) := by decide +kernel
theorem d_method_2_code_88 : decode method_2_code 88 = .ok (.castore, 1) := by decide +kernel
theorem d_method_2_code_89 : decode method_2_code 89 = .ok (.invokespecial 9, 3) := by decide +kernel
theorem d_method_2_code_92 : decode method_2_code 92 = .ok (.areturn, 1) := by decide +kernel
set_option maxRecDepth 65536 in
set_option maxHeartbeats 40000000 in
theorem rm_cut_J {l : Launch} {Z : State} {a0 : Array Value} (G : Cl Z a0) (ac : Addr) (cc : Cell) (xa xb xc xd xe xf xg xh xi xj xk xl : Int32) (hL : Lat [xa, xb, xc, xd, xe, xf, xg, xh, xi, xj, xk, xl]) (A : ArrC Z cc .char [(.int xa), (.int xb), (.int xc), (.int xd), (.int xe), (.int xf), (.int xg), (.int xh), (.int xi), (.int xj), (.int xk), (.int xl)]) :
    Met l Z EL1 (⟨"com/example/upfront_quote/upfrontquote/ProductLineServedOnPinLaw", "cut", "([CI)Ljava/lang/String;"⟩ : MethodName) method_2_code 2 (some (.object "java/lang/String")) ({ frames := 4, cells := 3, slots := 22, locals := 70 } : Room) #[.ref ac, .int (9 : Int32)] [(ac, cc)] [] (fun v σ ρ => ∃ a c b cb, v = some (.ref a) ∧ σ = [] ∧ ρ = [(a, c), (b, cb)] ∧ StrL Z c b cb [xa, xb, xc, xd, xe, xf, xg, xh, xi]) := by
  refine Met.walk G.2.1 pn_17 #[.val (.ref ac), .val (.int (9 : Int32))] (fun m => by first | (simp [entryFrame, mkF, argsToLocals, Value.category]; done) | rfl) ?_
  intro X T0 W0
  refine Go.iloadN (pc' := 1) W0 d_method_2_code_0 rfl rfl ?_
  refine Go.if_ne (pc' := 4) W0 15 d_method_2_code_1 (by decide) rfl (fun _ => ?_) (fun q => absurd q (by decide))
  refine Go.iloadN (pc' := 16) W0 d_method_2_code_15 rfl rfl ?_
  refine Go.bipush (pc' := 18) W0 (9 : Int32) d_method_2_code_16 (by decide) rfl ?_
  refine Go.icmp_ne (pc' := 21) W0 93 d_method_2_code_18 (by decide) rfl (fun q => absurd (by decide) q) (fun _ => ?_)
  refine Go.new (pc' := 24) W0 (w_6 G) (w_7 G) (w_8 G) d_method_2_code_21 rfl (by first | exact Nat.le_of_ble_eq_true rfl | (simp; done) | (simp; omega) | omega) (by first | exact Nat.le_of_ble_eq_true rfl | (simp; done) | (simp; omega) | omega) (fun T1 a3 c4 W2 O5 D6 => ?_)
  replace W2 : Wk l Z EL1 ({ frames := 4, cells := 3, slots := 22, locals := 70 } : Room) "com/example/upfront_quote/upfrontquote/ProductLineServedOnPinLaw" method_2_code 2 (some (.object "java/lang/String")) "cut" X [(a3, c4), (ac, cc)] [] T1 1 (4) := W2
  have F7 : FldC Z c4 "java/lang/String" "coder" "B" (.int (0 : Int32)) := D6 (Or.inr (w_32 G)) (ty := .byte) (by decide)
  have F8 : FldC Z c4 "java/lang/String" "value" "[B" (.null) := D6 (Or.inr (w_34 G)) (ty := (.array .byte)) (by decide)
  refine Go.dup (pc' := 25) W2 d_method_2_code_24 rfl rfl ?_
  refine Go.bipush (pc' := 27) W2 (9 : Int32) d_method_2_code_25 (by decide) rfl ?_
  refine Go.newarr (pc' := 29) W2 .char rfl 9 (w_1 G) d_method_2_code_27 rfl (by decide) (by decide) (by decide) (by first | exact Nat.le_of_ble_eq_true rfl | (simp; done) | (simp; omega) | omega) (by first | exact Nat.le_of_ble_eq_true rfl | (simp; done) | (simp; omega) | omega) (fun T9 a11 c12 W10 A13 => ?_)
  replace W10 : Wk l Z EL1 ({ frames := 4, cells := 3, slots := 22, locals := 70 } : Room) "com/example/upfront_quote/upfrontquote/ProductLineServedOnPinLaw" method_2_code 2 (some (.object "java/lang/String")) "cut" X [(a11, c12), (a3, c4), (ac, cc)] [] T9 2 (13) := W10
  replace A13 : ArrC Z c12 .char [(.int (0 : Int32)), (.int (0 : Int32)), (.int (0 : Int32)), (.int (0 : Int32)), (.int (0 : Int32)), (.int (0 : Int32)), (.int (0 : Int32)), (.int (0 : Int32)), (.int (0 : Int32))] := A13
  refine Go.dup (pc' := 30) W10 d_method_2_code_29 rfl rfl ?_
  refine Go.iconst (pc' := 31) W10 (0 : Int32) d_method_2_code_30 (by decide) rfl ?_
  refine Go.aloadN (pc' := 32) W10 d_method_2_code_31 rfl rfl rfl ?_
  refine Go.iconst (pc' := 33) W10 (0 : Int32) d_method_2_code_32 (by decide) rfl ?_
  refine Go.caload (pc' := 34) W10 (Or.inl (List.mem_of_getElem? (i := 2) rfl)) A 0 (by decide) (by decide) rfl d_method_2_code_33 rfl ?_
  refine Go.castore (pc' := 35) W10 0 rfl A13 0 xa (nar_char_id (lat_char (hL xa (by simp)))) (by decide) (by decide) (by simp) d_method_2_code_34 rfl (fun T14 c16 W15 A17 => ?_)
  replace W15 : Wk l Z EL1 ({ frames := 4, cells := 3, slots := 22, locals := 70 } : Room) "com/example/upfront_quote/upfrontquote/ProductLineServedOnPinLaw" method_2_code 2 (some (.object "java/lang/String")) "cut" X [(a11, c16), (a3, c4), (ac, cc)] [] T14 2 (13) := W15
  replace A17 : ArrC Z c16 .char [(.int xa), (.int (0 : Int32)), (.int (0 : Int32)), (.int (0 : Int32)), (.int (0 : Int32)), (.int (0 : Int32)), (.int (0 : Int32)), (.int (0 : Int32)), (.int (0 : Int32))] := A17
  refine Go.dup (pc' := 36) W15 d_method_2_code_35 rfl rfl ?_
  refine Go.iconst (pc' := 37) W15 (1 : Int32) d_method_2_code_36 (by decide) rfl ?_
  refine Go.aloadN (pc' := 38) W15 d_method_2_code_37 rfl rfl rfl ?_
  refine Go.iconst (pc' := 39) W15 (1 : Int32) d_method_2_code_38 (by decide) rfl ?_
  refine Go.caload (pc' := 40) W15 (Or.inl (List.mem_of_getElem? (i := 2) rfl)) A 1 (by decide) (by decide) rfl d_method_2_code_39 rfl ?_
  refine Go.castore (pc' := 41) W15 0 rfl A17 1 xb (nar_char_id (lat_char (hL xb (by simp)))) (by decide) (by decide) (by simp) d_method_2_code_40 rfl (fun T18 c20 W19 A21 => ?_)
  replace W19 : Wk l Z EL1 ({ frames := 4, cells := 3, slots := 22, locals := 70 } : Room) "com/example/upfront_quote/upfrontquote/ProductLineServedOnPinLaw" method_2_code 2 (some (.object "java/lang/String")) "cut" X [(a11, c20), (a3, c4), (ac, cc)] [] T18 2 (13) := W19
  replace A21 : ArrC Z c20 .char [(.int xa), (.int xb), (.int (0 : Int32)), (.int (0 : Int32)), (.int (0 : Int32)), (.int (0 : Int32)), (.int (0 : Int32)), (.int (0 : Int32)), (.int (0 : Int32))] := A21
  refine Go.dup (pc' := 42) W19 d_method_2_code_41 rfl rfl ?_
  refine Go.iconst (pc' := 43) W19 (2 : Int32) d_method_2_code_42 (by decide) rfl ?_
  refine Go.aloadN (pc' := 44) W19 d_method_2_code_43 rfl rfl rfl ?_
  refine Go.iconst (pc' := 45) W19 (2 : Int32) d_method_2_code_44 (by decide) rfl ?_
  refine Go.caload (pc' := 46) W19 (Or.inl (List.mem_of_getElem? (i := 2) rfl)) A 2 (by decide) (by decide) rfl d_method_2_code_45 rfl ?_
  refine Go.castore (pc' := 47) W19 0 rfl A21 2 xc (nar_char_id (lat_char (hL xc (by simp)))) (by decide) (by decide) (by simp) d_method_2_code_46 rfl (fun T22 c24 W23 A25 => ?_)
  replace W23 : Wk l Z EL1 ({ frames := 4, cells := 3, slots := 22, locals := 70 } : Room) "com/example/upfront_quote/upfrontquote/ProductLineServedOnPinLaw" method_2_code 2 (some (.object "java/lang/String")) "cut" X [(a11, c24), (a3, c4), (ac, cc)] [] T22 2 (13) := W23
  replace A25 : ArrC Z c24 .char [(.int xa), (.int xb), (.int xc), (.int (0 : Int32)), (.int (0 : Int32)), (.int (0 : Int32)), (.int (0 : Int32)), (.int (0 : Int32)), (.int (0 : Int32))] := A25
  refine Go.dup (pc' := 48) W23 d_method_2_code_47 rfl rfl ?_
  refine Go.iconst (pc' := 49) W23 (3 : Int32) d_method_2_code_48 (by decide) rfl ?_
  refine Go.aloadN (pc' := 50) W23 d_method_2_code_49 rfl rfl rfl ?_
  refine Go.iconst (pc' := 51) W23 (3 : Int32) d_method_2_code_50 (by decide) rfl ?_
  refine Go.caload (pc' := 52) W23 (Or.inl (List.mem_of_getElem? (i := 2) rfl)) A 3 (by decide) (by decide) rfl d_method_2_code_51 rfl ?_
  refine Go.castore (pc' := 53) W23 0 rfl A25 3 xd (nar_char_id (lat_char (hL xd (by simp)))) (by decide) (by decide) (by simp) d_method_2_code_52 rfl (fun T26 c28 W27 A29 => ?_)
  replace W27 : Wk l Z EL1 ({ frames := 4, cells := 3, slots := 22, locals := 70 } : Room) "com/example/upfront_quote/upfrontquote/ProductLineServedOnPinLaw" method_2_code 2 (some (.object "java/lang/String")) "cut" X [(a11, c28), (a3, c4), (ac, cc)] [] T26 2 (13) := W27
  replace A29 : ArrC Z c28 .char [(.int xa), (.int xb), (.int xc), (.int xd), (.int (0 : Int32)), (.int (0 : Int32)), (.int (0 : Int32)), (.int (0 : Int32)), (.int (0 : Int32))] := A29
  refine Go.dup (pc' := 54) W27 d_method_2_code_53 rfl rfl ?_
  refine Go.iconst (pc' := 55) W27 (4 : Int32) d_method_2_code_54 (by decide) rfl ?_
  refine Go.aloadN (pc' := 56) W27 d_method_2_code_55 rfl rfl rfl ?_
  refine Go.iconst (pc' := 57) W27 (4 : Int32) d_method_2_code_56 (by decide) rfl ?_
  refine Go.caload (pc' := 58) W27 (Or.inl (List.mem_of_getElem? (i := 2) rfl)) A 4 (by decide) (by decide) rfl d_method_2_code_57 rfl ?_
  refine Go.castore (pc' := 59) W27 0 rfl A29 4 xe (nar_char_id (lat_char (hL xe (by simp)))) (by decide) (by decide) (by simp) d_method_2_code_58 rfl (fun T30 c32 W31 A33 => ?_)
  replace W31 : Wk l Z EL1 ({ frames := 4, cells := 3, slots := 22, locals := 70 } : Room) "com/example/upfront_quote/upfrontquote/ProductLineServedOnPinLaw" method_2_code 2 (some (.object "java/lang/String")) "cut" X [(a11, c32), (a3, c4), (ac, cc)] [] T30 2 (13) := W31
  replace A33 : ArrC Z c32 .char [(.int xa), (.int xb), (.int xc), (.int xd), (.int xe), (.int (0 : Int32)), (.int (0 : Int32)), (.int (0 : Int32)), (.int (0 : Int32))] := A33
  refine Go.dup (pc' := 60) W31 d_method_2_code_59 rfl rfl ?_
  refine Go.iconst (pc' := 61) W31 (5 : Int32) d_method_2_code_60 (by decide) rfl ?_
  refine Go.aloadN (pc' := 62) W31 d_method_2_code_61 rfl rfl rfl ?_
  refine Go.iconst (pc' := 63) W31 (5 : Int32) d_method_2_code_62 (by decide) rfl ?_
  refine Go.caload (pc' := 64) W31 (Or.inl (List.mem_of_getElem? (i := 2) rfl)) A 5 (by decide) (by decide) rfl d_method_2_code_63 rfl ?_
  refine Go.castore (pc' := 65) W31 0 rfl A33 5 xf (nar_char_id (lat_char (hL xf (by simp)))) (by decide) (by decide) (by simp) d_method_2_code_64 rfl (fun T34 c36 W35 A37 => ?_)
  replace W35 : Wk l Z EL1 ({ frames := 4, cells := 3, slots := 22, locals := 70 } : Room) "com/example/upfront_quote/upfrontquote/ProductLineServedOnPinLaw" method_2_code 2 (some (.object "java/lang/String")) "cut" X [(a11, c36), (a3, c4), (ac, cc)] [] T34 2 (13) := W35
  replace A37 : ArrC Z c36 .char [(.int xa), (.int xb), (.int xc), (.int xd), (.int xe), (.int xf), (.int (0 : Int32)), (.int (0 : Int32)), (.int (0 : Int32))] := A37
  refine Go.dup (pc' := 66) W35 d_method_2_code_65 rfl rfl ?_
  refine Go.bipush (pc' := 68) W35 (6 : Int32) d_method_2_code_66 (by decide) rfl ?_
  refine Go.aloadN (pc' := 69) W35 d_method_2_code_68 rfl rfl rfl ?_
  refine Go.bipush (pc' := 71) W35 (6 : Int32) d_method_2_code_69 (by decide) rfl ?_
  refine Go.caload (pc' := 72) W35 (Or.inl (List.mem_of_getElem? (i := 2) rfl)) A 6 (by decide) (by decide) rfl d_method_2_code_71 rfl ?_
  refine Go.castore (pc' := 73) W35 0 rfl A37 6 xg (nar_char_id (lat_char (hL xg (by simp)))) (by decide) (by decide) (by simp) d_method_2_code_72 rfl (fun T38 c40 W39 A41 => ?_)
  replace W39 : Wk l Z EL1 ({ frames := 4, cells := 3, slots := 22, locals := 70 } : Room) "com/example/upfront_quote/upfrontquote/ProductLineServedOnPinLaw" method_2_code 2 (some (.object "java/lang/String")) "cut" X [(a11, c40), (a3, c4), (ac, cc)] [] T38 2 (13) := W39
  replace A41 : ArrC Z c40 .char [(.int xa), (.int xb), (.int xc), (.int xd), (.int xe), (.int xf), (.int xg), (.int (0 : Int32)), (.int (0 : Int32))] := A41
  refine Go.dup (pc' := 74) W39 d_method_2_code_73 rfl rfl ?_
  refine Go.bipush (pc' := 76) W39 (7 : Int32) d_method_2_code_74 (by decide) rfl ?_
  refine Go.aloadN (pc' := 77) W39 d_method_2_code_76 rfl rfl rfl ?_
  refine Go.bipush (pc' := 79) W39 (7 : Int32) d_method_2_code_77 (by decide) rfl ?_
  refine Go.caload (pc' := 80) W39 (Or.inl (List.mem_of_getElem? (i := 2) rfl)) A 7 (by decide) (by decide) rfl d_method_2_code_79 rfl ?_
  refine Go.castore (pc' := 81) W39 0 rfl A41 7 xh (nar_char_id (lat_char (hL xh (by simp)))) (by decide) (by decide) (by simp) d_method_2_code_80 rfl (fun T42 c44 W43 A45 => ?_)
  replace W43 : Wk l Z EL1 ({ frames := 4, cells := 3, slots := 22, locals := 70 } : Room) "com/example/upfront_quote/upfrontquote/ProductLineServedOnPinLaw" method_2_code 2 (some (.object "java/lang/String")) "cut" X [(a11, c44), (a3, c4), (ac, cc)] [] T42 2 (13) := W43
  replace A45 : ArrC Z c44 .char [(.int xa), (.int xb), (.int xc), (.int xd), (.int xe), (.int xf), (.int xg), (.int xh), (.int (0 : Int32))] := A45
  refine Go.dup (pc' := 82) W43 d_method_2_code_81 rfl rfl ?_
  refine Go.bipush (pc' := 84) W43 (8 : Int32) d_method_2_code_82 (by decide) rfl ?_
  refine Go.aloadN (pc' := 85) W43 d_method_2_code_84 rfl rfl rfl ?_
  refine Go.bipush (pc' := 87) W43 (8 : Int32) d_method_2_code_85 (by decide) rfl ?_
  refine Go.caload (pc' := 88) W43 (Or.inl (List.mem_of_getElem? (i := 2) rfl)) A 8 (by decide) (by decide) rfl d_method_2_code_87 rfl ?_
  refine Go.castore (pc' := 89) W43 0 rfl A45 8 xi (nar_char_id (lat_char (hL xi (by simp)))) (by decide) (by decide) (by simp) d_method_2_code_88 rfl (fun T46 c48 W47 A49 => ?_)
  replace W47 : Wk l Z EL1 ({ frames := 4, cells := 3, slots := 22, locals := 70 } : Room) "com/example/upfront_quote/upfrontquote/ProductLineServedOnPinLaw" method_2_code 2 (some (.object "java/lang/String")) "cut" X [(a11, c48), (a3, c4), (ac, cc)] [] T46 2 (13) := W47
  replace A49 : ArrC Z c48 .char [(.int xa), (.int xb), (.int xc), (.int xd), (.int xe), (.int xf), (.int xg), (.int xh), (.int xi)] := A49
  refine Go.special (pc' := 92) W47 (a := a3) (rm_initC G a3 a11 c4 c48 [xa, xb, xc, xd, xe, xf, xg, xh, xi] A49 O5 F7 F8 (Lat.cons (hL xa (by simp)) (Lat.cons (hL xb (by simp)) (Lat.cons (hL xc (by simp)) (Lat.cons (hL xd (by simp)) (Lat.cons (hL xe (by simp)) (Lat.cons (hL xf (by simp)) (Lat.cons (hL xg (by simp)) (Lat.cons (hL xh (by simp)) (Lat.cons (hL xi (by simp)) Lat.nil))))))))) (by simp) (show ¬ (9 : Nat).toInt32 = 0 by decide)) rfl (w_9 G) (w_10 G) (w_8 G) (w_11 G) (by decide) [1, 0] [] (σf := [(ac, cc)]) rfl rfl [(.ref a11)] [(.ref a3)] rfl (lenOf pd_18 rfl) rfl rfl d_method_2_code_89 rfl (by first | exact Nat.le_of_ble_eq_true rfl | (simp; done) | (simp; omega) | omega) (by first | exact Nat.le_of_ble_eq_true rfl | (simp; done) | (simp; omega) | omega) (by first | exact Nat.le_of_ble_eq_true rfl | (simp; done) | (simp; omega) | omega) (by first | exact Nat.le_of_ble_eq_true rfl | (simp; done) | (simp; omega) | omega) ?_
  rintro _ _ _ T54 ⟨c50, b51, c52, rfl, rfl, rfl, S53⟩ W55
  replace W55 : Wk l Z EL1 ({ frames := 4, cells := 3, slots := 22, locals := 70 } : Room) "com/example/upfront_quote/upfrontquote/ProductLineServedOnPinLaw" method_2_code 2 (some (.object "java/lang/String")) "cut" X [(a11, c48), (ac, cc)] [(a3, c50), (b51, c52)] T54 3 (22) := W55
  show Go Z EL1 _ _ _ X T54 92 #[.val (.ref ac), .val (.int (9 : Int32))] [(.ref a3)]
  have W56 := W55.drop [0, 0] (σi := [(a11, c48), (ac, cc)]) (σf := []) rfl
  replace W56 : Wk l Z EL1 ({ frames := 4, cells := 3, slots := 22, locals := 70 } : Room) "com/example/upfront_quote/upfrontquote/ProductLineServedOnPinLaw" method_2_code 2 (some (.object "java/lang/String")) "cut" X [] [(a3, c50), (b51, c52)] T54 3 (22) := W56
  have W57 := W56.keepRo [0, 1] (ρ' := [(a3, c50), (b51, c52)]) rfl
  replace W57 : Wk l Z EL1 ({ frames := 4, cells := 3, slots := 22, locals := 70 } : Room) "com/example/upfront_quote/upfrontquote/ProductLineServedOnPinLaw" method_2_code 2 (some (.object "java/lang/String")) "cut" X [] [(a3, c50), (b51, c52)] T54 3 (22) := W57
  refine Go.aret W57 rfl rfl d_method_2_code_92 (by first | exact Nat.le_of_ble_eq_true rfl | (simp; done) | (simp; omega) | omega) (by first | exact Nat.le_of_ble_eq_true rfl | (simp; done) | (simp; omega) | omega) ?_
  exact ⟨a3, c50, b51, c52, rfl, rfl, rfl, S53⟩
theorem d_method_2_code_93 : decode method_2_code 93 = .ok (.iload_n 1, 1) := by decide +kernel
theorem d_method_2_code_94 : decode method_2_code 94 = .ok (.bipush 10, 2) := by decide +kernel
theorem d_method_2_code_96 : decode method_2_code 96 = .ok (.if_icmp .ne 83, 3) := by decide +kernel
theorem d_method_2_code_99 : decode method_2_code 99 = .ok (.new 7, 3) := by decide +kernel
theorem d_method_2_code_102 : decode method_2_code 102 = .ok (.dup, 1) := by decide +kernel
theorem d_method_2_code_103 : decode method_2_code 103 = .ok (.bipush 10, 2) := by decide +kernel
theorem d_method_2_code_105 : decode method_2_code 105 = .ok (.newarray .char, 2) := by decide +kernel
theorem d_method_2_code_107 : decode method_2_code 107 = .ok (.dup, 1) := by decide +kernel
theorem d_method_2_code_108 : decode method_2_code 108 = .ok (.iconst 0, 1) := by decide +kernel
theorem d_method_2_code_109 : decode method_2_code 109 = .ok (.aload_n 0, 1) := by decide +kernel
theorem d_method_2_code_110 : decode method_2_code 110 = .ok (.iconst 0, 1) := by decide +kernel
theorem d_method_2_code_111 : decode method_2_code 111 = .ok (.caload, 1) := by decide +kernel
theorem d_method_2_code_112 : decode method_2_code 112 = .ok (.castore, 1) := by decide +kernel
theorem d_method_2_code_113 : decode method_2_code 113 = .ok (.dup, 1) := by decide +kernel
theorem d_method_2_code_114 : decode method_2_code 114 = .ok (.iconst 1, 1) := by decide +kernel
theorem d_method_2_code_115 : decode method_2_code 115 = .ok (.aload_n 0, 1) := by decide +kernel
theorem d_method_2_code_116 : decode method_2_code 116 = .ok (.iconst 1, 1) := by decide +kernel
theorem d_method_2_code_117 : decode method_2_code 117 = .ok (.caload, 1) := by decide +kernel
theorem d_method_2_code_118 : decode method_2_code 118 = .ok (.castore, 1) := by decide +kernel
theorem d_method_2_code_119 : decode method_2_code 119 = .ok (.dup, 1) := by decide +kernel
theorem d_method_2_code_120 : decode method_2_code 120 = .ok (.iconst 2, 1) := by decide +kernel
theorem d_method_2_code_121 : decode method_2_code 121 = .ok (.aload_n 0, 1) := by decide +kernel
theorem d_method_2_code_122 : decode method_2_code 122 = .ok (.iconst 2, 1) := by decide +kernel
theorem d_method_2_code_123 : decode method_2_code 123 = .ok (.caload, 1) := by decide +kernel
theorem d_method_2_code_124 : decode method_2_code 124 = .ok (.castore, 1) := by decide +kernel
theorem d_method_2_code_125 : decode method_2_code 125 = .ok (.dup, 1) := by decide +kernel
theorem d_method_2_code_126 : decode method_2_code 126 = .ok (.iconst 3, 1) := by decide +kernel
theorem d_method_2_code_127 : decode method_2_code 127 = .ok (.aload_n 0, 1) := by decide +kernel
theorem d_method_2_code_128 : decode method_2_code 128 = .ok (.iconst 3, 1) := by decide +kernel
theorem d_method_2_code_129 : decode method_2_code 129 = .ok (.caload, 1) := by decide +kernel
theorem d_method_2_code_130 : decode method_2_code 130 = .ok (.castore, 1) := by decide +kernel
theorem d_method_2_code_131 : decode method_2_code 131 = .ok (.dup, 1) := by decide +kernel
theorem d_method_2_code_132 : decode method_2_code 132 = .ok (.iconst 4, 1) := by decide +kernel
theorem d_method_2_code_133 : decode method_2_code 133 = .ok (.aload_n 0, 1) := by decide +kernel
theorem d_method_2_code_134 : decode method_2_code 134 = .ok (.iconst 4, 1) := by decide +kernel
theorem d_method_2_code_135 : decode method_2_code 135 = .ok (.caload, 1) := by decide +kernel
theorem d_method_2_code_136 : decode method_2_code 136 = .ok (.castore, 1) := by decide +kernel
theorem d_method_2_code_137 : decode method_2_code 137 = .ok (.dup, 1) := by decide +kernel
theorem d_method_2_code_138 : decode method_2_code 138 = .ok (.iconst 5, 1) := by decide +kernel
theorem d_method_2_code_139 : decode method_2_code 139 = .ok (.aload_n 0, 1) := by decide +kernel
theorem d_method_2_code_140 : decode method_2_code 140 = .ok (.iconst 5, 1) := by decide +kernel
theorem d_method_2_code_141 : decode method_2_code 141 = .ok (.caload, 1) := by decide +kernel
theorem d_method_2_code_142 : decode method_2_code 142 = .ok (.castore, 1) := by decide +kernel
theorem d_method_2_code_143 : decode method_2_code 143 = .ok (.dup, 1) := by decide +kernel
theorem d_method_2_code_144 : decode method_2_code 144 = .ok (.bipush 6, 2) := by decide +kernel
theorem d_method_2_code_146 : decode method_2_code 146 = .ok (.aload_n 0, 1) := by decide +kernel
theorem d_method_2_code_147 : decode method_2_code 147 = .ok (.bipush 6, 2) := by decide +kernel
theorem d_method_2_code_149 : decode method_2_code 149 = .ok (.caload, 1) := by decide +kernel
theorem d_method_2_code_150 : decode method_2_code 150 = .ok (.castore, 1) := by decide +kernel
theorem d_method_2_code_151 : decode method_2_code 151 = .ok (.dup, 1) := by decide +kernel
theorem d_method_2_code_152 : decode method_2_code 152 = .ok (.bipush 7, 2) := by decide +kernel
theorem d_method_2_code_154 : decode method_2_code 154 = .ok (.aload_n 0, 1) := by decide +kernel
theorem d_method_2_code_155 : decode method_2_code 155 = .ok (.bipush 7, 2) := by decide +kernel
theorem d_method_2_code_157 : decode method_2_code 157 = .ok (.caload, 1) := by decide +kernel
theorem d_method_2_code_158 : decode method_2_code 158 = .ok (.castore, 1) := by decide +kernel
theorem d_method_2_code_159 : decode method_2_code 159 = .ok (.dup, 1) := by decide +kernel
theorem d_method_2_code_160 : decode method_2_code 160 = .ok (.bipush 8, 2) := by decide +kernel
theorem d_method_2_code_162 : decode method_2_code 162 = .ok (.aload_n 0, 1) := by decide +kernel
theorem d_method_2_code_163 : decode method_2_code 163 = .ok (.bipush 8, 2) := by decide +kernel
theorem d_method_2_code_165 : decode method_2_code 165 = .ok (.caload, 1) := by decide +kernel
theorem d_method_2_code_166 : decode method_2_code 166 = .ok (.castore, 1) := by decide +kernel
theorem d_method_2_code_167 : decode method_2_code 167 = .ok (.dup, 1) := by decide +kernel
theorem d_method_2_code_168 : decode method_2_code 168 = .ok (.bipush 9, 2) := by decide +kernel
theorem d_method_2_code_170 : decode method_2_code 170 = .ok (.aload_n 0, 1) := by decide +kernel
theorem d_method_2_code_171 : decode method_2_code 171 = .ok (.bipush 9, 2) := by decide +kernel
theorem d_method_2_code_173 : decode method_2_code 173 = .ok (.caload, 1) := by decide +kernel
theorem d_method_2_code_174 : decode method_2_code 174 = .ok (.castore, 1) := by decide +kernel
theorem d_method_2_code_175 : decode method_2_code 175 = .ok (.invokespecial 9, 3) := by decide +kernel
theorem d_method_2_code_178 : decode method_2_code 178 = .ok (.areturn, 1) := by decide +kernel
set_option maxRecDepth 65536 in
set_option maxHeartbeats 40000000 in
theorem rm_cut_K {l : Launch} {Z : State} {a0 : Array Value} (G : Cl Z a0) (ac : Addr) (cc : Cell) (xa xb xc xd xe xf xg xh xi xj xk xl : Int32) (hL : Lat [xa, xb, xc, xd, xe, xf, xg, xh, xi, xj, xk, xl]) (A : ArrC Z cc .char [(.int xa), (.int xb), (.int xc), (.int xd), (.int xe), (.int xf), (.int xg), (.int xh), (.int xi), (.int xj), (.int xk), (.int xl)]) :
    Met l Z EL1 (⟨"com/example/upfront_quote/upfrontquote/ProductLineServedOnPinLaw", "cut", "([CI)Ljava/lang/String;"⟩ : MethodName) method_2_code 2 (some (.object "java/lang/String")) ({ frames := 4, cells := 3, slots := 24, locals := 70 } : Room) #[.ref ac, .int (10 : Int32)] [(ac, cc)] [] (fun v σ ρ => ∃ a c b cb, v = some (.ref a) ∧ σ = [] ∧ ρ = [(a, c), (b, cb)] ∧ StrL Z c b cb [xa, xb, xc, xd, xe, xf, xg, xh, xi, xj]) := by
  refine Met.walk G.2.1 pn_17 #[.val (.ref ac), .val (.int (10 : Int32))] (fun m => by first | (simp [entryFrame, mkF, argsToLocals, Value.category]; done) | rfl) ?_
  intro X T0 W0
  refine Go.iloadN (pc' := 1) W0 d_method_2_code_0 rfl rfl ?_
  refine Go.if_ne (pc' := 4) W0 15 d_method_2_code_1 (by decide) rfl (fun _ => ?_) (fun q => absurd q (by decide))
  refine Go.iloadN (pc' := 16) W0 d_method_2_code_15 rfl rfl ?_
  refine Go.bipush (pc' := 18) W0 (9 : Int32) d_method_2_code_16 (by decide) rfl ?_
  refine Go.icmp_ne (pc' := 21) W0 93 d_method_2_code_18 (by decide) rfl (fun _ => ?_) (fun q => absurd q (by decide))
  refine Go.iloadN (pc' := 94) W0 d_method_2_code_93 rfl rfl ?_
  refine Go.bipush (pc' := 96) W0 (10 : Int32) d_method_2_code_94 (by decide) rfl ?_
  refine Go.icmp_ne (pc' := 99) W0 179 d_method_2_code_96 (by decide) rfl (fun q => absurd (by decide) q) (fun _ => ?_)
  refine Go.new (pc' := 102) W0 (w_6 G) (w_7 G) (w_8 G) d_method_2_code_99 rfl (by first | exact Nat.le_of_ble_eq_true rfl | (simp; done) | (simp; omega) | omega) (by first | exact Nat.le_of_ble_eq_true rfl | (simp; done) | (simp; omega) | omega) (fun T1 a3 c4 W2 O5 D6 => ?_)
  replace W2 : Wk l Z EL1 ({ frames := 4, cells := 3, slots := 24, locals := 70 } : Room) "com/example/upfront_quote/upfrontquote/ProductLineServedOnPinLaw" method_2_code 2 (some (.object "java/lang/String")) "cut" X [(a3, c4), (ac, cc)] [] T1 1 (4) := W2
  have F7 : FldC Z c4 "java/lang/String" "coder" "B" (.int (0 : Int32)) := D6 (Or.inr (w_32 G)) (ty := .byte) (by decide)
  have F8 : FldC Z c4 "java/lang/String" "value" "[B" (.null) := D6 (Or.inr (w_34 G)) (ty := (.array .byte)) (by decide)
  refine Go.dup (pc' := 103) W2 d_method_2_code_102 rfl rfl ?_
  refine Go.bipush (pc' := 105) W2 (10 : Int32) d_method_2_code_103 (by decide) rfl ?_
  refine Go.newarr (pc' := 107) W2 .char rfl 10 (w_1 G) d_method_2_code_105 rfl (by decide) (by decide) (by decide) (by first | exact Nat.le_of_ble_eq_true rfl | (simp; done) | (simp; omega) | omega) (by first | exact Nat.le_of_ble_eq_true rfl | (simp; done) | (simp; omega) | omega) (fun T9 a11 c12 W10 A13 => ?_)
  replace W10 : Wk l Z EL1 ({ frames := 4, cells := 3, slots := 24, locals := 70 } : Room) "com/example/upfront_quote/upfrontquote/ProductLineServedOnPinLaw" method_2_code 2 (some (.object "java/lang/String")) "cut" X [(a11, c12), (a3, c4), (ac, cc)] [] T9 2 (14) := W10
  replace A13 : ArrC Z c12 .char [(.int (0 : Int32)), (.int (0 : Int32)), (.int (0 : Int32)), (.int (0 : Int32)), (.int (0 : Int32)), (.int (0 : Int32)), (.int (0 : Int32)), (.int (0 : Int32)), (.int (0 : Int32)), (.int (0 : Int32))] := A13
  refine Go.dup (pc' := 108) W10 d_method_2_code_107 rfl rfl ?_
  refine Go.iconst (pc' := 109) W10 (0 : Int32) d_method_2_code_108 (by decide) rfl ?_
  refine Go.aloadN (pc' := 110) W10 d_method_2_code_109 rfl rfl rfl ?_
  refine Go.iconst (pc' := 111) W10 (0 : Int32) d_method_2_code_110 (by decide) rfl ?_
  refine Go.caload (pc' := 112) W10 (Or.inl (List.mem_of_getElem? (i := 2) rfl)) A 0 (by decide) (by decide) rfl d_method_2_code_111 rfl ?_
  refine Go.castore (pc' := 113) W10 0 rfl A13 0 xa (nar_char_id (lat_char (hL xa (by simp)))) (by decide) (by decide) (by simp) d_method_2_code_112 rfl (fun T14 c16 W15 A17 => ?_)
  replace W15 : Wk l Z EL1 ({ frames := 4, cells := 3, slots := 24, locals := 70 } : Room) "com/example/upfront_quote/upfrontquote/ProductLineServedOnPinLaw" method_2_code 2 (some (.object "java/lang/String")) "cut" X [(a11, c16), (a3, c4), (ac, cc)] [] T14 2 (14) := W15
  replace A17 : ArrC Z c16 .char [(.int xa), (.int (0 : Int32)), (.int (0 : Int32)), (.int (0 : Int32)), (.int (0 : Int32)), (.int (0 : Int32)), (.int (0 : Int32)), (.int (0 : Int32)), (.int (0 : Int32)), (.int (0 : Int32))] := A17
  refine Go.dup (pc' := 114) W15 d_method_2_code_113 rfl rfl ?_
  refine Go.iconst (pc' := 115) W15 (1 : Int32) d_method_2_code_114 (by decide) rfl ?_
  refine Go.aloadN (pc' := 116) W15 d_method_2_code_115 rfl rfl rfl ?_
  refine Go.iconst (pc' := 117) W15 (1 : Int32) d_method_2_code_116 (by decide) rfl ?_
  refine Go.caload (pc' := 118) W15 (Or.inl (List.mem_of_getElem? (i := 2) rfl)) A 1 (by decide) (by decide) rfl d_method_2_code_117 rfl ?_
  refine Go.castore (pc' := 119) W15 0 rfl A17 1 xb (nar_char_id (lat_char (hL xb (by simp)))) (by decide) (by decide) (by simp) d_method_2_code_118 rfl (fun T18 c20 W19 A21 => ?_)
  replace W19 : Wk l Z EL1 ({ frames := 4, cells := 3, slots := 24, locals := 70 } : Room) "com/example/upfront_quote/upfrontquote/ProductLineServedOnPinLaw" method_2_code 2 (some (.object "java/lang/String")) "cut" X [(a11, c20), (a3, c4), (ac, cc)] [] T18 2 (14) := W19
  replace A21 : ArrC Z c20 .char [(.int xa), (.int xb), (.int (0 : Int32)), (.int (0 : Int32)), (.int (0 : Int32)), (.int (0 : Int32)), (.int (0 : Int32)), (.int (0 : Int32)), (.int (0 : Int32)), (.int (0 : Int32))] := A21
  refine Go.dup (pc' := 120) W19 d_method_2_code_119 rfl rfl ?_
  refine Go.iconst (pc' := 121) W19 (2 : Int32) d_method_2_code_120 (by decide) rfl ?_
  refine Go.aloadN (pc' := 122) W19 d_method_2_code_121 rfl rfl rfl ?_
  refine Go.iconst (pc' := 123) W19 (2 : Int32) d_method_2_code_122 (by decide) rfl ?_
  refine Go.caload (pc' := 124) W19 (Or.inl (List.mem_of_getElem? (i := 2) rfl)) A 2 (by decide) (by decide) rfl d_method_2_code_123 rfl ?_
  refine Go.castore (pc' := 125) W19 0 rfl A21 2 xc (nar_char_id (lat_char (hL xc (by simp)))) (by decide) (by decide) (by simp) d_method_2_code_124 rfl (fun T22 c24 W23 A25 => ?_)
  replace W23 : Wk l Z EL1 ({ frames := 4, cells := 3, slots := 24, locals := 70 } : Room) "com/example/upfront_quote/upfrontquote/ProductLineServedOnPinLaw" method_2_code 2 (some (.object "java/lang/String")) "cut" X [(a11, c24), (a3, c4), (ac, cc)] [] T22 2 (14) := W23
  replace A25 : ArrC Z c24 .char [(.int xa), (.int xb), (.int xc), (.int (0 : Int32)), (.int (0 : Int32)), (.int (0 : Int32)), (.int (0 : Int32)), (.int (0 : Int32)), (.int (0 : Int32)), (.int (0 : Int32))] := A25
  refine Go.dup (pc' := 126) W23 d_method_2_code_125 rfl rfl ?_
  refine Go.iconst (pc' := 127) W23 (3 : Int32) d_method_2_code_126 (by decide) rfl ?_
  refine Go.aloadN (pc' := 128) W23 d_method_2_code_127 rfl rfl rfl ?_
  refine Go.iconst (pc' := 129) W23 (3 : Int32) d_method_2_code_128 (by decide) rfl ?_
  refine Go.caload (pc' := 130) W23 (Or.inl (List.mem_of_getElem? (i := 2) rfl)) A 3 (by decide) (by decide) rfl d_method_2_code_129 rfl ?_
  refine Go.castore (pc' := 131) W23 0 rfl A25 3 xd (nar_char_id (lat_char (hL xd (by simp)))) (by decide) (by decide) (by simp) d_method_2_code_130 rfl (fun T26 c28 W27 A29 => ?_)
  replace W27 : Wk l Z EL1 ({ frames := 4, cells := 3, slots := 24, locals := 70 } : Room) "com/example/upfront_quote/upfrontquote/ProductLineServedOnPinLaw" method_2_code 2 (some (.object "java/lang/String")) "cut" X [(a11, c28), (a3, c4), (ac, cc)] [] T26 2 (14) := W27
  replace A29 : ArrC Z c28 .char [(.int xa), (.int xb), (.int xc), (.int xd), (.int (0 : Int32)), (.int (0 : Int32)), (.int (0 : Int32)), (.int (0 : Int32)), (.int (0 : Int32)), (.int (0 : Int32))] := A29
  refine Go.dup (pc' := 132) W27 d_method_2_code_131 rfl rfl ?_
  refine Go.iconst (pc' := 133) W27 (4 : Int32) d_method_2_code_132 (by decide) rfl ?_
  refine Go.aloadN (pc' := 134) W27 d_method_2_code_133 rfl rfl rfl ?_
  refine Go.iconst (pc' := 135) W27 (4 : Int32) d_method_2_code_134 (by decide) rfl ?_
  refine Go.caload (pc' := 136) W27 (Or.inl (List.mem_of_getElem? (i := 2) rfl)) A 4 (by decide) (by decide) rfl d_method_2_code_135 rfl ?_
  refine Go.castore (pc' := 137) W27 0 rfl A29 4 xe (nar_char_id (lat_char (hL xe (by simp)))) (by decide) (by decide) (by simp) d_method_2_code_136 rfl (fun T30 c32 W31 A33 => ?_)
  replace W31 : Wk l Z EL1 ({ frames := 4, cells := 3, slots := 24, locals := 70 } : Room) "com/example/upfront_quote/upfrontquote/ProductLineServedOnPinLaw" method_2_code 2 (some (.object "java/lang/String")) "cut" X [(a11, c32), (a3, c4), (ac, cc)] [] T30 2 (14) := W31
  replace A33 : ArrC Z c32 .char [(.int xa), (.int xb), (.int xc), (.int xd), (.int xe), (.int (0 : Int32)), (.int (0 : Int32)), (.int (0 : Int32)), (.int (0 : Int32)), (.int (0 : Int32))] := A33
  refine Go.dup (pc' := 138) W31 d_method_2_code_137 rfl rfl ?_
  refine Go.iconst (pc' := 139) W31 (5 : Int32) d_method_2_code_138 (by decide) rfl ?_
  refine Go.aloadN (pc' := 140) W31 d_method_2_code_139 rfl rfl rfl ?_
  refine Go.iconst (pc' := 141) W31 (5 : Int32) d_method_2_code_140 (by decide) rfl ?_
  refine Go.caload (pc' := 142) W31 (Or.inl (List.mem_of_getElem? (i := 2) rfl)) A 5 (by decide) (by decide) rfl d_method_2_code_141 rfl ?_
  refine Go.castore (pc' := 143) W31 0 rfl A33 5 xf (nar_char_id (lat_char (hL xf (by simp)))) (by decide) (by decide) (by simp) d_method_2_code_142 rfl (fun T34 c36 W35 A37 => ?_)
  replace W35 : Wk l Z EL1 ({ frames := 4, cells := 3, slots := 24, locals := 70 } : Room) "com/example/upfront_quote/upfrontquote/ProductLineServedOnPinLaw" method_2_code 2 (some (.object "java/lang/String")) "cut" X [(a11, c36), (a3, c4), (ac, cc)] [] T34 2 (14) := W35
  replace A37 : ArrC Z c36 .char [(.int xa), (.int xb), (.int xc), (.int xd), (.int xe), (.int xf), (.int (0 : Int32)), (.int (0 : Int32)), (.int (0 : Int32)), (.int (0 : Int32))] := A37
  refine Go.dup (pc' := 144) W35 d_method_2_code_143 rfl rfl ?_
  refine Go.bipush (pc' := 146) W35 (6 : Int32) d_method_2_code_144 (by decide) rfl ?_
  refine Go.aloadN (pc' := 147) W35 d_method_2_code_146 rfl rfl rfl ?_
  refine Go.bipush (pc' := 149) W35 (6 : Int32) d_method_2_code_147 (by decide) rfl ?_
  refine Go.caload (pc' := 150) W35 (Or.inl (List.mem_of_getElem? (i := 2) rfl)) A 6 (by decide) (by decide) rfl d_method_2_code_149 rfl ?_
  refine Go.castore (pc' := 151) W35 0 rfl A37 6 xg (nar_char_id (lat_char (hL xg (by simp)))) (by decide) (by decide) (by simp) d_method_2_code_150 rfl (fun T38 c40 W39 A41 => ?_)
  replace W39 : Wk l Z EL1 ({ frames := 4, cells := 3, slots := 24, locals := 70 } : Room) "com/example/upfront_quote/upfrontquote/ProductLineServedOnPinLaw" method_2_code 2 (some (.object "java/lang/String")) "cut" X [(a11, c40), (a3, c4), (ac, cc)] [] T38 2 (14) := W39
  replace A41 : ArrC Z c40 .char [(.int xa), (.int xb), (.int xc), (.int xd), (.int xe), (.int xf), (.int xg), (.int (0 : Int32)), (.int (0 : Int32)), (.int (0 : Int32))] := A41
  refine Go.dup (pc' := 152) W39 d_method_2_code_151 rfl rfl ?_
  refine Go.bipush (pc' := 154) W39 (7 : Int32) d_method_2_code_152 (by decide) rfl ?_
  refine Go.aloadN (pc' := 155) W39 d_method_2_code_154 rfl rfl rfl ?_
  refine Go.bipush (pc' := 157) W39 (7 : Int32) d_method_2_code_155 (by decide) rfl ?_
  refine Go.caload (pc' := 158) W39 (Or.inl (List.mem_of_getElem? (i := 2) rfl)) A 7 (by decide) (by decide) rfl d_method_2_code_157 rfl ?_
  refine Go.castore (pc' := 159) W39 0 rfl A41 7 xh (nar_char_id (lat_char (hL xh (by simp)))) (by decide) (by decide) (by simp) d_method_2_code_158 rfl (fun T42 c44 W43 A45 => ?_)
  replace W43 : Wk l Z EL1 ({ frames := 4, cells := 3, slots := 24, locals := 70 } : Room) "com/example/upfront_quote/upfrontquote/ProductLineServedOnPinLaw" method_2_code 2 (some (.object "java/lang/String")) "cut" X [(a11, c44), (a3, c4), (ac, cc)] [] T42 2 (14) := W43
  replace A45 : ArrC Z c44 .char [(.int xa), (.int xb), (.int xc), (.int xd), (.int xe), (.int xf), (.int xg), (.int xh), (.int (0 : Int32)), (.int (0 : Int32))] := A45
  refine Go.dup (pc' := 160) W43 d_method_2_code_159 rfl rfl ?_
  refine Go.bipush (pc' := 162) W43 (8 : Int32) d_method_2_code_160 (by decide) rfl ?_
  refine Go.aloadN (pc' := 163) W43 d_method_2_code_162 rfl rfl rfl ?_
  refine Go.bipush (pc' := 165) W43 (8 : Int32) d_method_2_code_163 (by decide) rfl ?_
  refine Go.caload (pc' := 166) W43 (Or.inl (List.mem_of_getElem? (i := 2) rfl)) A 8 (by decide) (by decide) rfl d_method_2_code_165 rfl ?_
  refine Go.castore (pc' := 167) W43 0 rfl A45 8 xi (nar_char_id (lat_char (hL xi (by simp)))) (by decide) (by decide) (by simp) d_method_2_code_166 rfl (fun T46 c48 W47 A49 => ?_)
  replace W47 : Wk l Z EL1 ({ frames := 4, cells := 3, slots := 24, locals := 70 } : Room) "com/example/upfront_quote/upfrontquote/ProductLineServedOnPinLaw" method_2_code 2 (some (.object "java/lang/String")) "cut" X [(a11, c48), (a3, c4), (ac, cc)] [] T46 2 (14) := W47
  replace A49 : ArrC Z c48 .char [(.int xa), (.int xb), (.int xc), (.int xd), (.int xe), (.int xf), (.int xg), (.int xh), (.int xi), (.int (0 : Int32))] := A49
  refine Go.dup (pc' := 168) W47 d_method_2_code_167 rfl rfl ?_
  refine Go.bipush (pc' := 170) W47 (9 : Int32) d_method_2_code_168 (by decide) rfl ?_
  refine Go.aloadN (pc' := 171) W47 d_method_2_code_170 rfl rfl rfl ?_
  refine Go.bipush (pc' := 173) W47 (9 : Int32) d_method_2_code_171 (by decide) rfl ?_
  refine Go.caload (pc' := 174) W47 (Or.inl (List.mem_of_getElem? (i := 2) rfl)) A 9 (by decide) (by decide) rfl d_method_2_code_173 rfl ?_
  refine Go.castore (pc' := 175) W47 0 rfl A49 9 xj (nar_char_id (lat_char (hL xj (by simp)))) (by decide) (by decide) (by simp) d_method_2_code_174 rfl (fun T50 c52 W51 A53 => ?_)
  replace W51 : Wk l Z EL1 ({ frames := 4, cells := 3, slots := 24, locals := 70 } : Room) "com/example/upfront_quote/upfrontquote/ProductLineServedOnPinLaw" method_2_code 2 (some (.object "java/lang/String")) "cut" X [(a11, c52), (a3, c4), (ac, cc)] [] T50 2 (14) := W51
  replace A53 : ArrC Z c52 .char [(.int xa), (.int xb), (.int xc), (.int xd), (.int xe), (.int xf), (.int xg), (.int xh), (.int xi), (.int xj)] := A53
  refine Go.special (pc' := 178) W51 (a := a3) (rm_initC G a3 a11 c4 c52 [xa, xb, xc, xd, xe, xf, xg, xh, xi, xj] A53 O5 F7 F8 (Lat.cons (hL xa (by simp)) (Lat.cons (hL xb (by simp)) (Lat.cons (hL xc (by simp)) (Lat.cons (hL xd (by simp)) (Lat.cons (hL xe (by simp)) (Lat.cons (hL xf (by simp)) (Lat.cons (hL xg (by simp)) (Lat.cons (hL xh (by simp)) (Lat.cons (hL xi (by simp)) (Lat.cons (hL xj (by simp)) Lat.nil)))))))))) (by simp) (show ¬ (10 : Nat).toInt32 = 0 by decide)) rfl (w_9 G) (w_10 G) (w_8 G) (w_11 G) (by decide) [1, 0] [] (σf := [(ac, cc)]) rfl rfl [(.ref a11)] [(.ref a3)] rfl (lenOf pd_18 rfl) rfl rfl d_method_2_code_175 rfl (by first | exact Nat.le_of_ble_eq_true rfl | (simp; done) | (simp; omega) | omega) (by first | exact Nat.le_of_ble_eq_true rfl | (simp; done) | (simp; omega) | omega) (by first | exact Nat.le_of_ble_eq_true rfl | (simp; done) | (simp; omega) | omega) (by first | exact Nat.le_of_ble_eq_true rfl | (simp; done) | (simp; omega) | omega) ?_
  rintro _ _ _ T58 ⟨c54, b55, c56, rfl, rfl, rfl, S57⟩ W59
  replace W59 : Wk l Z EL1 ({ frames := 4, cells := 3, slots := 24, locals := 70 } : Room) "com/example/upfront_quote/upfrontquote/ProductLineServedOnPinLaw" method_2_code 2 (some (.object "java/lang/String")) "cut" X [(a11, c52), (ac, cc)] [(a3, c54), (b55, c56)] T58 3 (24) := W59
  show Go Z EL1 _ _ _ X T58 178 #[.val (.ref ac), .val (.int (10 : Int32))] [(.ref a3)]
  have W60 := W59.drop [0, 0] (σi := [(a11, c52), (ac, cc)]) (σf := []) rfl
  replace W60 : Wk l Z EL1 ({ frames := 4, cells := 3, slots := 24, locals := 70 } : Room) "com/example/upfront_quote/upfrontquote/ProductLineServedOnPinLaw" method_2_code 2 (some (.object "java/lang/String")) "cut" X [] [(a3, c54), (b55, c56)] T58 3 (24) := W60
  have W61 := W60.keepRo [0, 1] (ρ' := [(a3, c54), (b55, c56)]) rfl
  replace W61 : Wk l Z EL1 ({ frames := 4, cells := 3, slots := 24, locals := 70 } : Room) "com/example/upfront_quote/upfrontquote/ProductLineServedOnPinLaw" method_2_code 2 (some (.object "java/lang/String")) "cut" X [] [(a3, c54), (b55, c56)] T58 3 (24) := W61
  refine Go.aret W61 rfl rfl d_method_2_code_178 (by first | exact Nat.le_of_ble_eq_true rfl | (simp; done) | (simp; omega) | omega) (by first | exact Nat.le_of_ble_eq_true rfl | (simp; done) | (simp; omega) | omega) ?_
  exact ⟨a3, c54, b55, c56, rfl, rfl, rfl, S57⟩
theorem d_method_2_code_179 : decode method_2_code 179 = .ok (.iload_n 1, 1) := by decide +kernel
theorem d_method_2_code_180 : decode method_2_code 180 = .ok (.bipush 11, 2) := by decide +kernel
theorem d_method_2_code_182 : decode method_2_code 182 = .ok (.if_icmp .ne 91, 3) := by decide +kernel
theorem d_method_2_code_185 : decode method_2_code 185 = .ok (.new 7, 3) := by decide +kernel
theorem d_method_2_code_188 : decode method_2_code 188 = .ok (.dup, 1) := by decide +kernel
theorem d_method_2_code_189 : decode method_2_code 189 = .ok (.bipush 11, 2) := by decide +kernel
theorem d_method_2_code_191 : decode method_2_code 191 = .ok (.newarray .char, 2) := by decide +kernel
theorem d_method_2_code_193 : decode method_2_code 193 = .ok (.dup, 1) := by decide +kernel
theorem d_method_2_code_194 : decode method_2_code 194 = .ok (.iconst 0, 1) := by decide +kernel
theorem d_method_2_code_195 : decode method_2_code 195 = .ok (.aload_n 0, 1) := by decide +kernel
theorem d_method_2_code_196 : decode method_2_code 196 = .ok (.iconst 0, 1) := by decide +kernel
theorem d_method_2_code_197 : decode method_2_code 197 = .ok (.caload, 1) := by decide +kernel
theorem d_method_2_code_198 : decode method_2_code 198 = .ok (.castore, 1) := by decide +kernel
theorem d_method_2_code_199 : decode method_2_code 199 = .ok (.dup, 1) := by decide +kernel
theorem d_method_2_code_200 : decode method_2_code 200 = .ok (.iconst 1, 1) := by decide +kernel
theorem d_method_2_code_201 : decode method_2_code 201 = .ok (.aload_n 0, 1) := by decide +kernel
theorem d_method_2_code_202 : decode method_2_code 202 = .ok (.iconst 1, 1) := by decide +kernel
theorem d_method_2_code_203 : decode method_2_code 203 = .ok (.caload, 1) := by decide +kernel
theorem d_method_2_code_204 : decode method_2_code 204 = .ok (.castore, 1) := by decide +kernel
theorem d_method_2_code_205 : decode method_2_code 205 = .ok (.dup, 1) := by decide +kernel
theorem d_method_2_code_206 : decode method_2_code 206 = .ok (.iconst 2, 1) := by decide +kernel
theorem d_method_2_code_207 : decode method_2_code 207 = .ok (.aload_n 0, 1) := by decide +kernel
theorem d_method_2_code_208 : decode method_2_code 208 = .ok (.iconst 2, 1) := by decide +kernel
theorem d_method_2_code_209 : decode method_2_code 209 = .ok (.caload, 1) := by decide +kernel
theorem d_method_2_code_210 : decode method_2_code 210 = .ok (.castore, 1) := by decide +kernel
theorem d_method_2_code_211 : decode method_2_code 211 = .ok (.dup, 1) := by decide +kernel
theorem d_method_2_code_212 : decode method_2_code 212 = .ok (.iconst 3, 1) := by decide +kernel
theorem d_method_2_code_213 : decode method_2_code 213 = .ok (.aload_n 0, 1) := by decide +kernel
theorem d_method_2_code_214 : decode method_2_code 214 = .ok (.iconst 3, 1) := by decide +kernel
theorem d_method_2_code_215 : decode method_2_code 215 = .ok (.caload, 1) := by decide +kernel
theorem d_method_2_code_216 : decode method_2_code 216 = .ok (.castore, 1) := by decide +kernel
theorem d_method_2_code_217 : decode method_2_code 217 = .ok (.dup, 1) := by decide +kernel
theorem d_method_2_code_218 : decode method_2_code 218 = .ok (.iconst 4, 1) := by decide +kernel
theorem d_method_2_code_219 : decode method_2_code 219 = .ok (.aload_n 0, 1) := by decide +kernel
theorem d_method_2_code_220 : decode method_2_code 220 = .ok (.iconst 4, 1) := by decide +kernel
theorem d_method_2_code_221 : decode method_2_code 221 = .ok (.caload, 1) := by decide +kernel
theorem d_method_2_code_222 : decode method_2_code 222 = .ok (.castore, 1) := by decide +kernel
theorem d_method_2_code_223 : decode method_2_code 223 = .ok (.dup, 1) := by decide +kernel
theorem d_method_2_code_224 : decode method_2_code 224 = .ok (.iconst 5, 1) := by decide +kernel
theorem d_method_2_code_225 : decode method_2_code 225 = .ok (.aload_n 0, 1) := by decide +kernel
theorem d_method_2_code_226 : decode method_2_code 226 = .ok (.iconst 5, 1) := by decide +kernel
theorem d_method_2_code_227 : decode method_2_code 227 = .ok (.caload, 1) := by decide +kernel
theorem d_method_2_code_228 : decode method_2_code 228 = .ok (.castore, 1) := by decide +kernel
theorem d_method_2_code_229 : decode method_2_code 229 = .ok (.dup, 1) := by decide +kernel
theorem d_method_2_code_230 : decode method_2_code 230 = .ok (.bipush 6, 2) := by decide +kernel
theorem d_method_2_code_232 : decode method_2_code 232 = .ok (.aload_n 0, 1) := by decide +kernel
theorem d_method_2_code_233 : decode method_2_code 233 = .ok (.bipush 6, 2) := by decide +kernel
theorem d_method_2_code_235 : decode method_2_code 235 = .ok (.caload, 1) := by decide +kernel
theorem d_method_2_code_236 : decode method_2_code 236 = .ok (.castore, 1) := by decide +kernel
theorem d_method_2_code_237 : decode method_2_code 237 = .ok (.dup, 1) := by decide +kernel
theorem d_method_2_code_238 : decode method_2_code 238 = .ok (.bipush 7, 2) := by decide +kernel
theorem d_method_2_code_240 : decode method_2_code 240 = .ok (.aload_n 0, 1) := by decide +kernel
theorem d_method_2_code_241 : decode method_2_code 241 = .ok (.bipush 7, 2) := by decide +kernel
theorem d_method_2_code_243 : decode method_2_code 243 = .ok (.caload, 1) := by decide +kernel
theorem d_method_2_code_244 : decode method_2_code 244 = .ok (.castore, 1) := by decide +kernel
theorem d_method_2_code_245 : decode method_2_code 245 = .ok (.dup, 1) := by decide +kernel
theorem d_method_2_code_246 : decode method_2_code 246 = .ok (.bipush 8, 2) := by decide +kernel
theorem d_method_2_code_248 : decode method_2_code 248 = .ok (.aload_n 0, 1) := by decide +kernel
theorem d_method_2_code_249 : decode method_2_code 249 = .ok (.bipush 8, 2) := by decide +kernel
theorem d_method_2_code_251 : decode method_2_code 251 = .ok (.caload, 1) := by decide +kernel
theorem d_method_2_code_252 : decode method_2_code 252 = .ok (.castore, 1) := by decide +kernel
theorem d_method_2_code_253 : decode method_2_code 253 = .ok (.dup, 1) := by decide +kernel
theorem d_method_2_code_254 : decode method_2_code 254 = .ok (.bipush 9, 2) := by decide +kernel
theorem d_method_2_code_256 : decode method_2_code 256 = .ok (.aload_n 0, 1) := by decide +kernel
theorem d_method_2_code_257 : decode method_2_code 257 = .ok (.bipush 9, 2) := by decide +kernel
theorem d_method_2_code_259 : decode method_2_code 259 = .ok (.caload, 1) := by decide +kernel
theorem d_method_2_code_260 : decode method_2_code 260 = .ok (.castore, 1) := by decide +kernel
theorem d_method_2_code_261 : decode method_2_code 261 = .ok (.dup, 1) := by decide +kernel
theorem d_method_2_code_262 : decode method_2_code 262 = .ok (.bipush 10, 2) := by decide +kernel
theorem d_method_2_code_264 : decode method_2_code 264 = .ok (.aload_n 0, 1) := by decide +kernel
theorem d_method_2_code_265 : decode method_2_code 265 = .ok (.bipush 10, 2) := by decide +kernel
theorem d_method_2_code_267 : decode method_2_code 267 = .ok (.caload, 1) := by decide +kernel
theorem d_method_2_code_268 : decode method_2_code 268 = .ok (.castore, 1) := by decide +kernel
theorem d_method_2_code_269 : decode method_2_code 269 = .ok (.invokespecial 9, 3) := by decide +kernel
theorem d_method_2_code_272 : decode method_2_code 272 = .ok (.areturn, 1) := by decide +kernel
set_option maxRecDepth 65536 in
set_option maxHeartbeats 40000000 in
theorem rm_cut_L {l : Launch} {Z : State} {a0 : Array Value} (G : Cl Z a0) (ac : Addr) (cc : Cell) (xa xb xc xd xe xf xg xh xi xj xk xl : Int32) (hL : Lat [xa, xb, xc, xd, xe, xf, xg, xh, xi, xj, xk, xl]) (A : ArrC Z cc .char [(.int xa), (.int xb), (.int xc), (.int xd), (.int xe), (.int xf), (.int xg), (.int xh), (.int xi), (.int xj), (.int xk), (.int xl)]) :
    Met l Z EL1 (⟨"com/example/upfront_quote/upfrontquote/ProductLineServedOnPinLaw", "cut", "([CI)Ljava/lang/String;"⟩ : MethodName) method_2_code 2 (some (.object "java/lang/String")) ({ frames := 4, cells := 3, slots := 26, locals := 70 } : Room) #[.ref ac, .int (11 : Int32)] [(ac, cc)] [] (fun v σ ρ => ∃ a c b cb, v = some (.ref a) ∧ σ = [] ∧ ρ = [(a, c), (b, cb)] ∧ StrL Z c b cb [xa, xb, xc, xd, xe, xf, xg, xh, xi, xj, xk]) := by
  refine Met.walk G.2.1 pn_17 #[.val (.ref ac), .val (.int (11 : Int32))] (fun m => by first | (simp [entryFrame, mkF, argsToLocals, Value.category]; done) | rfl) ?_
  intro X T0 W0
  refine Go.iloadN (pc' := 1) W0 d_method_2_code_0 rfl rfl ?_
  refine Go.if_ne (pc' := 4) W0 15 d_method_2_code_1 (by decide) rfl (fun _ => ?_) (fun q => absurd q (by decide))
  refine Go.iloadN (pc' := 16) W0 d_method_2_code_15 rfl rfl ?_
  refine Go.bipush (pc' := 18) W0 (9 : Int32) d_method_2_code_16 (by decide) rfl ?_
  refine Go.icmp_ne (pc' := 21) W0 93 d_method_2_code_18 (by decide) rfl (fun _ => ?_) (fun q => absurd q (by decide))
  refine Go.iloadN (pc' := 94) W0 d_method_2_code_93 rfl rfl ?_
  refine Go.bipush (pc' := 96) W0 (10 : Int32) d_method_2_code_94 (by decide) rfl ?_
  refine Go.icmp_ne (pc' := 99) W0 179 d_method_2_code_96 (by decide) rfl (fun _ => ?_) (fun q => absurd q (by decide))
  refine Go.iloadN (pc' := 180) W0 d_method_2_code_179 rfl rfl ?_
  refine Go.bipush (pc' := 182) W0 (11 : Int32) d_method_2_code_180 (by decide) rfl ?_
  refine Go.icmp_ne (pc' := 185) W0 273 d_method_2_code_182 (by decide) rfl (fun q => absurd (by decide) q) (fun _ => ?_)
  refine Go.new (pc' := 188) W0 (w_6 G) (w_7 G) (w_8 G) d_method_2_code_185 rfl (by first | exact Nat.le_of_ble_eq_true rfl | (simp; done) | (simp; omega) | omega) (by first | exact Nat.le_of_ble_eq_true rfl | (simp; done) | (simp; omega) | omega) (fun T1 a3 c4 W2 O5 D6 => ?_)
  replace W2 : Wk l Z EL1 ({ frames := 4, cells := 3, slots := 26, locals := 70 } : Room) "com/example/upfront_quote/upfrontquote/ProductLineServedOnPinLaw" method_2_code 2 (some (.object "java/lang/String")) "cut" X [(a3, c4), (ac, cc)] [] T1 1 (4) := W2
  have F7 : FldC Z c4 "java/lang/String" "coder" "B" (.int (0 : Int32)) := D6 (Or.inr (w_32 G)) (ty := .byte) (by decide)
  have F8 : FldC Z c4 "java/lang/String" "value" "[B" (.null) := D6 (Or.inr (w_34 G)) (ty := (.array .byte)) (by decide)
  refine Go.dup (pc' := 189) W2 d_method_2_code_188 rfl rfl ?_
  refine Go.bipush (pc' := 191) W2 (11 : Int32) d_method_2_code_189 (by decide) rfl ?_
  refine Go.newarr (pc' := 193) W2 .char rfl 11 (w_1 G) d_method_2_code_191 rfl (by decide) (by decide) (by decide) (by first | exact Nat.le_of_ble_eq_true rfl | (simp; done) | (simp; omega) | omega) (by first | exact Nat.le_of_ble_eq_true rfl | (simp; done) | (simp; omega) | omega) (fun T9 a11 c12 W10 A13 => ?_)
  replace W10 : Wk l Z EL1 ({ frames := 4, cells := 3, slots := 26, locals := 70 } : Room) "com/example/upfront_quote/upfrontquote/ProductLineServedOnPinLaw" method_2_code 2 (some (.object "java/lang/String")) "cut" X [(a11, c12), (a3, c4), (ac, cc)] [] T9 2 (15) := W10
  replace A13 : ArrC Z c12 .char [(.int (0 : Int32)), (.int (0 : Int32)), (.int (0 : Int32)), (.int (0 : Int32)), (.int (0 : Int32)), (.int (0 : Int32)), (.int (0 : Int32)), (.int (0 : Int32)), (.int (0 : Int32)), (.int (0 : Int32)), (.int (0 : Int32))] := A13
  refine Go.dup (pc' := 194) W10 d_method_2_code_193 rfl rfl ?_
  refine Go.iconst (pc' := 195) W10 (0 : Int32) d_method_2_code_194 (by decide) rfl ?_
  refine Go.aloadN (pc' := 196) W10 d_method_2_code_195 rfl rfl rfl ?_
  refine Go.iconst (pc' := 197) W10 (0 : Int32) d_method_2_code_196 (by decide) rfl ?_
  refine Go.caload (pc' := 198) W10 (Or.inl (List.mem_of_getElem? (i := 2) rfl)) A 0 (by decide) (by decide) rfl d_method_2_code_197 rfl ?_
  refine Go.castore (pc' := 199) W10 0 rfl A13 0 xa (nar_char_id (lat_char (hL xa (by simp)))) (by decide) (by decide) (by simp) d_method_2_code_198 rfl (fun T14 c16 W15 A17 => ?_)
  replace W15 : Wk l Z EL1 ({ frames := 4, cells := 3, slots := 26, locals := 70 } : Room) "com/example/upfront_quote/upfrontquote/ProductLineServedOnPinLaw" method_2_code 2 (some (.object "java/lang/String")) "cut" X [(a11, c16), (a3, c4), (ac, cc)] [] T14 2 (15) := W15
  replace A17 : ArrC Z c16 .char [(.int xa), (.int (0 : Int32)), (.int (0 : Int32)), (.int (0 : Int32)), (.int (0 : Int32)), (.int (0 : Int32)), (.int (0 : Int32)), (.int (0 : Int32)), (.int (0 : Int32)), (.int (0 : Int32)), (.int (0 : Int32))] := A17
  refine Go.dup (pc' := 200) W15 d_method_2_code_199 rfl rfl ?_
  refine Go.iconst (pc' := 201) W15 (1 : Int32) d_method_2_code_200 (by decide) rfl ?_
  refine Go.aloadN (pc' := 202) W15 d_method_2_code_201 rfl rfl rfl ?_
  refine Go.iconst (pc' := 203) W15 (1 : Int32) d_method_2_code_202 (by decide) rfl ?_
  refine Go.caload (pc' := 204) W15 (Or.inl (List.mem_of_getElem? (i := 2) rfl)) A 1 (by decide) (by decide) rfl d_method_2_code_203 rfl ?_
  refine Go.castore (pc' := 205) W15 0 rfl A17 1 xb (nar_char_id (lat_char (hL xb (by simp)))) (by decide) (by decide) (by simp) d_method_2_code_204 rfl (fun T18 c20 W19 A21 => ?_)
  replace W19 : Wk l Z EL1 ({ frames := 4, cells := 3, slots := 26, locals := 70 } : Room) "com/example/upfront_quote/upfrontquote/ProductLineServedOnPinLaw" method_2_code 2 (some (.object "java/lang/String")) "cut" X [(a11, c20), (a3, c4), (ac, cc)] [] T18 2 (15) := W19
  replace A21 : ArrC Z c20 .char [(.int xa), (.int xb), (.int (0 : Int32)), (.int (0 : Int32)), (.int (0 : Int32)), (.int (0 : Int32)), (.int (0 : Int32)), (.int (0 : Int32)), (.int (0 : Int32)), (.int (0 : Int32)), (.int (0 : Int32))] := A21
  refine Go.dup (pc' := 206) W19 d_method_2_code_205 rfl rfl ?_
  refine Go.iconst (pc' := 207) W19 (2 : Int32) d_method_2_code_206 (by decide) rfl ?_
  refine Go.aloadN (pc' := 208) W19 d_method_2_code_207 rfl rfl rfl ?_
  refine Go.iconst (pc' := 209) W19 (2 : Int32) d_method_2_code_208 (by decide) rfl ?_
  refine Go.caload (pc' := 210) W19 (Or.inl (List.mem_of_getElem? (i := 2) rfl)) A 2 (by decide) (by decide) rfl d_method_2_code_209 rfl ?_
  refine Go.castore (pc' := 211) W19 0 rfl A21 2 xc (nar_char_id (lat_char (hL xc (by simp)))) (by decide) (by decide) (by simp) d_method_2_code_210 rfl (fun T22 c24 W23 A25 => ?_)
  replace W23 : Wk l Z EL1 ({ frames := 4, cells := 3, slots := 26, locals := 70 } : Room) "com/example/upfront_quote/upfrontquote/ProductLineServedOnPinLaw" method_2_code 2 (some (.object "java/lang/String")) "cut" X [(a11, c24), (a3, c4), (ac, cc)] [] T22 2 (15) := W23
  replace A25 : ArrC Z c24 .char [(.int xa), (.int xb), (.int xc), (.int (0 : Int32)), (.int (0 : Int32)), (.int (0 : Int32)), (.int (0 : Int32)), (.int (0 : Int32)), (.int (0 : Int32)), (.int (0 : Int32)), (.int (0 : Int32))] := A25
  refine Go.dup (pc' := 212) W23 d_method_2_code_211 rfl rfl ?_
  refine Go.iconst (pc' := 213) W23 (3 : Int32) d_method_2_code_212 (by decide) rfl ?_
  refine Go.aloadN (pc' := 214) W23 d_method_2_code_213 rfl rfl rfl ?_
  refine Go.iconst (pc' := 215) W23 (3 : Int32) d_method_2_code_214 (by decide) rfl ?_
  refine Go.caload (pc' := 216) W23 (Or.inl (List.mem_of_getElem? (i := 2) rfl)) A 3 (by decide) (by decide) rfl d_method_2_code_215 rfl ?_
  refine Go.castore (pc' := 217) W23 0 rfl A25 3 xd (nar_char_id (lat_char (hL xd (by simp)))) (by decide) (by decide) (by simp) d_method_2_code_216 rfl (fun T26 c28 W27 A29 => ?_)
  replace W27 : Wk l Z EL1 ({ frames := 4, cells := 3, slots := 26, locals := 70 } : Room) "com/example/upfront_quote/upfrontquote/ProductLineServedOnPinLaw" method_2_code 2 (some (.object "java/lang/String")) "cut" X [(a11, c28), (a3, c4), (ac, cc)] [] T26 2 (15) := W27
  replace A29 : ArrC Z c28 .char [(.int xa), (.int xb), (.int xc), (.int xd), (.int (0 : Int32)), (.int (0 : Int32)), (.int (0 : Int32)), (.int (0 : Int32)), (.int (0 : Int32)), (.int (0 : Int32)), (.int (0 : Int32))] := A29
  refine Go.dup (pc' := 218) W27 d_method_2_code_217 rfl rfl ?_
  refine Go.iconst (pc' := 219) W27 (4 : Int32) d_method_2_code_218 (by decide) rfl ?_
  refine Go.aloadN (pc' := 220) W27 d_method_2_code_219 rfl rfl rfl ?_
  refine Go.iconst (pc' := 221) W27 (4 : Int32) d_method_2_code_220 (by decide) rfl ?_
  refine Go.caload (pc' := 222) W27 (Or.inl (List.mem_of_getElem? (i := 2) rfl)) A 4 (by decide) (by decide) rfl d_method_2_code_221 rfl ?_
  refine Go.castore (pc' := 223) W27 0 rfl A29 4 xe (nar_char_id (lat_char (hL xe (by simp)))) (by decide) (by decide) (by simp) d_method_2_code_222 rfl (fun T30 c32 W31 A33 => ?_)
  replace W31 : Wk l Z EL1 ({ frames := 4, cells := 3, slots := 26, locals := 70 } : Room) "com/example/upfront_quote/upfrontquote/ProductLineServedOnPinLaw" method_2_code 2 (some (.object "java/lang/String")) "cut" X [(a11, c32), (a3, c4), (ac, cc)] [] T30 2 (15) := W31
  replace A33 : ArrC Z c32 .char [(.int xa), (.int xb), (.int xc), (.int xd), (.int xe), (.int (0 : Int32)), (.int (0 : Int32)), (.int (0 : Int32)), (.int (0 : Int32)), (.int (0 : Int32)), (.int (0 : Int32))] := A33
  refine Go.dup (pc' := 224) W31 d_method_2_code_223 rfl rfl ?_
  refine Go.iconst (pc' := 225) W31 (5 : Int32) d_method_2_code_224 (by decide) rfl ?_
  refine Go.aloadN (pc' := 226) W31 d_method_2_code_225 rfl rfl rfl ?_
  refine Go.iconst (pc' := 227) W31 (5 : Int32) d_method_2_code_226 (by decide) rfl ?_
  refine Go.caload (pc' := 228) W31 (Or.inl (List.mem_of_getElem? (i := 2) rfl)) A 5 (by decide) (by decide) rfl d_method_2_code_227 rfl ?_
  refine Go.castore (pc' := 229) W31 0 rfl A33 5 xf (nar_char_id (lat_char (hL xf (by simp)))) (by decide) (by decide) (by simp) d_method_2_code_228 rfl (fun T34 c36 W35 A37 => ?_)
  replace W35 : Wk l Z EL1 ({ frames := 4, cells := 3, slots := 26, locals := 70 } : Room) "com/example/upfront_quote/upfrontquote/ProductLineServedOnPinLaw" method_2_code 2 (some (.object "java/lang/String")) "cut" X [(a11, c36), (a3, c4), (ac, cc)] [] T34 2 (15) := W35
  replace A37 : ArrC Z c36 .char [(.int xa), (.int xb), (.int xc), (.int xd), (.int xe), (.int xf), (.int (0 : Int32)), (.int (0 : Int32)), (.int (0 : Int32)), (.int (0 : Int32)), (.int (0 : Int32))] := A37
  refine Go.dup (pc' := 230) W35 d_method_2_code_229 rfl rfl ?_
  refine Go.bipush (pc' := 232) W35 (6 : Int32) d_method_2_code_230 (by decide) rfl ?_
  refine Go.aloadN (pc' := 233) W35 d_method_2_code_232 rfl rfl rfl ?_
  refine Go.bipush (pc' := 235) W35 (6 : Int32) d_method_2_code_233 (by decide) rfl ?_
  refine Go.caload (pc' := 236) W35 (Or.inl (List.mem_of_getElem? (i := 2) rfl)) A 6 (by decide) (by decide) rfl d_method_2_code_235 rfl ?_
  refine Go.castore (pc' := 237) W35 0 rfl A37 6 xg (nar_char_id (lat_char (hL xg (by simp)))) (by decide) (by decide) (by simp) d_method_2_code_236 rfl (fun T38 c40 W39 A41 => ?_)
  replace W39 : Wk l Z EL1 ({ frames := 4, cells := 3, slots := 26, locals := 70 } : Room) "com/example/upfront_quote/upfrontquote/ProductLineServedOnPinLaw" method_2_code 2 (some (.object "java/lang/String")) "cut" X [(a11, c40), (a3, c4), (ac, cc)] [] T38 2 (15) := W39
  replace A41 : ArrC Z c40 .char [(.int xa), (.int xb), (.int xc), (.int xd), (.int xe), (.int xf), (.int xg), (.int (0 : Int32)), (.int (0 : Int32)), (.int (0 : Int32)), (.int (0 : Int32))] := A41
  refine Go.dup (pc' := 238) W39 d_method_2_code_237 rfl rfl ?_
  refine Go.bipush (pc' := 240) W39 (7 : Int32) d_method_2_code_238 (by decide) rfl ?_
  refine Go.aloadN (pc' := 241) W39 d_method_2_code_240 rfl rfl rfl ?_
  refine Go.bipush (pc' := 243) W39 (7 : Int32) d_method_2_code_241 (by decide) rfl ?_
  refine Go.caload (pc' := 244) W39 (Or.inl (List.mem_of_getElem? (i := 2) rfl)) A 7 (by decide) (by decide) rfl d_method_2_code_243 rfl ?_
  refine Go.castore (pc' := 245) W39 0 rfl A41 7 xh (nar_char_id (lat_char (hL xh (by simp)))) (by decide) (by decide) (by simp) d_method_2_code_244 rfl (fun T42 c44 W43 A45 => ?_)
  replace W43 : Wk l Z EL1 ({ frames := 4, cells := 3, slots := 26, locals := 70 } : Room) "com/example/upfront_quote/upfrontquote/ProductLineServedOnPinLaw" method_2_code 2 (some (.object "java/lang/String")) "cut" X [(a11, c44), (a3, c4), (ac, cc)] [] T42 2 (15) := W43
  replace A45 : ArrC Z c44 .char [(.int xa), (.int xb), (.int xc), (.int xd), (.int xe), (.int xf), (.int xg), (.int xh), (.int (0 : Int32)), (.int (0 : Int32)), (.int (0 : Int32))] := A45
  refine Go.dup (pc' := 246) W43 d_method_2_code_245 rfl rfl ?_
  refine Go.bipush (pc' := 248) W43 (8 : Int32) d_method_2_code_246 (by decide) rfl ?_
  refine Go.aloadN (pc' := 249) W43 d_method_2_code_248 rfl rfl rfl ?_
  refine Go.bipush (pc' := 251) W43 (8 : Int32) d_method_2_code_249 (by decide) rfl ?_
  refine Go.caload (pc' := 252) W43 (Or.inl (List.mem_of_getElem? (i := 2) rfl)) A 8 (by decide) (by decide) rfl d_method_2_code_251 rfl ?_
  refine Go.castore (pc' := 253) W43 0 rfl A45 8 xi (nar_char_id (lat_char (hL xi (by simp)))) (by decide) (by decide) (by simp) d_method_2_code_252 rfl (fun T46 c48 W47 A49 => ?_)
  replace W47 : Wk l Z EL1 ({ frames := 4, cells := 3, slots := 26, locals := 70 } : Room) "com/example/upfront_quote/upfrontquote/ProductLineServedOnPinLaw" method_2_code 2 (some (.object "java/lang/String")) "cut" X [(a11, c48), (a3, c4), (ac, cc)] [] T46 2 (15) := W47
  replace A49 : ArrC Z c48 .char [(.int xa), (.int xb), (.int xc), (.int xd), (.int xe), (.int xf), (.int xg), (.int xh), (.int xi), (.int (0 : Int32)), (.int (0 : Int32))] := A49
  refine Go.dup (pc' := 254) W47 d_method_2_code_253 rfl rfl ?_
  refine Go.bipush (pc' := 256) W47 (9 : Int32) d_method_2_code_254 (by decide) rfl ?_
  refine Go.aloadN (pc' := 257) W47 d_method_2_code_256 rfl rfl rfl ?_
  refine Go.bipush (pc' := 259) W47 (9 : Int32) d_method_2_code_257 (by decide) rfl ?_
  refine Go.caload (pc' := 260) W47 (Or.inl (List.mem_of_getElem? (i := 2) rfl)) A 9 (by decide) (by decide) rfl d_method_2_code_259 rfl ?_
  refine Go.castore (pc' := 261) W47 0 rfl A49 9 xj (nar_char_id (lat_char (hL xj (by simp)))) (by decide) (by decide) (by simp) d_method_2_code_260 rfl (fun T50 c52 W51 A53 => ?_)
  replace W51 : Wk l Z EL1 ({ frames := 4, cells := 3, slots := 26, locals := 70 } : Room) "com/example/upfront_quote/upfrontquote/ProductLineServedOnPinLaw" method_2_code 2 (some (.object "java/lang/String")) "cut" X [(a11, c52), (a3, c4), (ac, cc)] [] T50 2 (15) := W51
  replace A53 : ArrC Z c52 .char [(.int xa), (.int xb), (.int xc), (.int xd), (.int xe), (.int xf), (.int xg), (.int xh), (.int xi), (.int xj), (.int (0 : Int32))] := A53
  refine Go.dup (pc' := 262) W51 d_method_2_code_261 rfl rfl ?_
  refine Go.bipush (pc' := 264) W51 (10 : Int32) d_method_2_code_262 (by decide) rfl ?_
  refine Go.aloadN (pc' := 265) W51 d_method_2_code_264 rfl rfl rfl ?_
  refine Go.bipush (pc' := 267) W51 (10 : Int32) d_method_2_code_265 (by decide) rfl ?_
  refine Go.caload (pc' := 268) W51 (Or.inl (List.mem_of_getElem? (i := 2) rfl)) A 10 (by decide) (by decide) rfl d_method_2_code_267 rfl ?_
  refine Go.castore (pc' := 269) W51 0 rfl A53 10 xk (nar_char_id (lat_char (hL xk (by simp)))) (by decide) (by decide) (by simp) d_method_2_code_268 rfl (fun T54 c56 W55 A57 => ?_)
  replace W55 : Wk l Z EL1 ({ frames := 4, cells := 3, slots := 26, locals := 70 } : Room) "com/example/upfront_quote/upfrontquote/ProductLineServedOnPinLaw" method_2_code 2 (some (.object "java/lang/String")) "cut" X [(a11, c56), (a3, c4), (ac, cc)] [] T54 2 (15) := W55
  replace A57 : ArrC Z c56 .char [(.int xa), (.int xb), (.int xc), (.int xd), (.int xe), (.int xf), (.int xg), (.int xh), (.int xi), (.int xj), (.int xk)] := A57
  refine Go.special (pc' := 272) W55 (a := a3) (rm_initC G a3 a11 c4 c56 [xa, xb, xc, xd, xe, xf, xg, xh, xi, xj, xk] A57 O5 F7 F8 (Lat.cons (hL xa (by simp)) (Lat.cons (hL xb (by simp)) (Lat.cons (hL xc (by simp)) (Lat.cons (hL xd (by simp)) (Lat.cons (hL xe (by simp)) (Lat.cons (hL xf (by simp)) (Lat.cons (hL xg (by simp)) (Lat.cons (hL xh (by simp)) (Lat.cons (hL xi (by simp)) (Lat.cons (hL xj (by simp)) (Lat.cons (hL xk (by simp)) Lat.nil))))))))))) (by simp) (show ¬ (11 : Nat).toInt32 = 0 by decide)) rfl (w_9 G) (w_10 G) (w_8 G) (w_11 G) (by decide) [1, 0] [] (σf := [(ac, cc)]) rfl rfl [(.ref a11)] [(.ref a3)] rfl (lenOf pd_18 rfl) rfl rfl d_method_2_code_269 rfl (by first | exact Nat.le_of_ble_eq_true rfl | (simp; done) | (simp; omega) | omega) (by first | exact Nat.le_of_ble_eq_true rfl | (simp; done) | (simp; omega) | omega) (by first | exact Nat.le_of_ble_eq_true rfl | (simp; done) | (simp; omega) | omega) (by first | exact Nat.le_of_ble_eq_true rfl | (simp; done) | (simp; omega) | omega) ?_
  rintro _ _ _ T62 ⟨c58, b59, c60, rfl, rfl, rfl, S61⟩ W63
  replace W63 : Wk l Z EL1 ({ frames := 4, cells := 3, slots := 26, locals := 70 } : Room) "com/example/upfront_quote/upfrontquote/ProductLineServedOnPinLaw" method_2_code 2 (some (.object "java/lang/String")) "cut" X [(a11, c56), (ac, cc)] [(a3, c58), (b59, c60)] T62 3 (26) := W63
  show Go Z EL1 _ _ _ X T62 272 #[.val (.ref ac), .val (.int (11 : Int32))] [(.ref a3)]
  have W64 := W63.drop [0, 0] (σi := [(a11, c56), (ac, cc)]) (σf := []) rfl
  replace W64 : Wk l Z EL1 ({ frames := 4, cells := 3, slots := 26, locals := 70 } : Room) "com/example/upfront_quote/upfrontquote/ProductLineServedOnPinLaw" method_2_code 2 (some (.object "java/lang/String")) "cut" X [] [(a3, c58), (b59, c60)] T62 3 (26) := W64
  have W65 := W64.keepRo [0, 1] (ρ' := [(a3, c58), (b59, c60)]) rfl
  replace W65 : Wk l Z EL1 ({ frames := 4, cells := 3, slots := 26, locals := 70 } : Room) "com/example/upfront_quote/upfrontquote/ProductLineServedOnPinLaw" method_2_code 2 (some (.object "java/lang/String")) "cut" X [] [(a3, c58), (b59, c60)] T62 3 (26) := W65
  refine Go.aret W65 rfl rfl d_method_2_code_272 (by first | exact Nat.le_of_ble_eq_true rfl | (simp; done) | (simp; omega) | omega) (by first | exact Nat.le_of_ble_eq_true rfl | (simp; done) | (simp; omega) | omega) ?_
  exact ⟨a3, c58, b59, c60, rfl, rfl, rfl, S61⟩
theorem d_method_2_code_273 : decode method_2_code 273 = .ok (.new 7, 3) := by decide +kernel
theorem d_method_2_code_276 : decode method_2_code 276 = .ok (.dup, 1) := by decide +kernel
theorem d_method_2_code_277 : decode method_2_code 277 = .ok (.aload_n 0, 1) := by decide +kernel
theorem d_method_2_code_278 : decode method_2_code 278 = .ok (.invokespecial 9, 3) := by decide +kernel
theorem d_method_2_code_281 : decode method_2_code 281 = .ok (.areturn, 1) := by decide +kernel
set_option maxRecDepth 65536 in
set_option maxHeartbeats 40000000 in
theorem rm_cut_M {l : Launch} {Z : State} {a0 : Array Value} (G : Cl Z a0) (ac : Addr) (cc : Cell) (xa xb xc xd xe xf xg xh xi xj xk xl : Int32) (hL : Lat [xa, xb, xc, xd, xe, xf, xg, xh, xi, xj, xk, xl]) (A : ArrC Z cc .char [(.int xa), (.int xb), (.int xc), (.int xd), (.int xe), (.int xf), (.int xg), (.int xh), (.int xi), (.int xj), (.int xk), (.int xl)]) :
    Met l Z EL1 (⟨"com/example/upfront_quote/upfrontquote/ProductLineServedOnPinLaw", "cut", "([CI)Ljava/lang/String;"⟩ : MethodName) method_2_code 2 (some (.object "java/lang/String")) ({ frames := 4, cells := 2, slots := 16, locals := 70 } : Room) #[.ref ac, .int (12 : Int32)] [(ac, cc)] [] (fun v σ ρ => ∃ a c b cb, v = some (.ref a) ∧ σ = [] ∧ ρ = [(a, c), (b, cb)] ∧ StrL Z c b cb [xa, xb, xc, xd, xe, xf, xg, xh, xi, xj, xk, xl]) := by
  refine Met.walk G.2.1 pn_17 #[.val (.ref ac), .val (.int (12 : Int32))] (fun m => by first | (simp [entryFrame, mkF, argsToLocals, Value.category]; done) | rfl) ?_
  intro X T0 W0
  refine Go.iloadN (pc' := 1) W0 d_method_2_code_0 rfl rfl ?_
  refine Go.if_ne (pc' := 4) W0 15 d_method_2_code_1 (by decide) rfl (fun _ => ?_) (fun q => absurd q (by decide))
  refine Go.iloadN (pc' := 16) W0 d_method_2_code_15 rfl rfl ?_
  refine Go.bipush (pc' := 18) W0 (9 : Int32) d_method_2_code_16 (by decide) rfl ?_
  refine Go.icmp_ne (pc' := 21) W0 93 d_method_2_code_18 (by decide) rfl (fun _ => ?_) (fun q => absurd q (by decide))
  refine Go.iloadN (pc' := 94) W0 d_method_2_code_93 rfl rfl ?_
  refine Go.bipush (pc' := 96) W0 (10 : Int32) d_method_2_code_94 (by decide) rfl ?_
  refine Go.icmp_ne (pc' := 99) W0 179 d_method_2_code_96 (by decide) rfl (fun _ => ?_) (fun q => absurd q (by decide))
  refine Go.iloadN (pc' := 180) W0 d_method_2_code_179 rfl rfl ?_
  refine Go.bipush (pc' := 182) W0 (11 : Int32) d_method_2_code_180 (by decide) rfl ?_
  refine Go.icmp_ne (pc' := 185) W0 273 d_method_2_code_182 (by decide) rfl (fun _ => ?_) (fun q => absurd q (by decide))
  refine Go.new (pc' := 276) W0 (w_6 G) (w_7 G) (w_8 G) d_method_2_code_273 rfl (by first | exact Nat.le_of_ble_eq_true rfl | (simp; done) | (simp; omega) | omega) (by first | exact Nat.le_of_ble_eq_true rfl | (simp; done) | (simp; omega) | omega) (fun T1 a3 c4 W2 O5 D6 => ?_)
  replace W2 : Wk l Z EL1 ({ frames := 4, cells := 2, slots := 16, locals := 70 } : Room) "com/example/upfront_quote/upfrontquote/ProductLineServedOnPinLaw" method_2_code 2 (some (.object "java/lang/String")) "cut" X [(a3, c4), (ac, cc)] [] T1 1 (4) := W2
  have F7 : FldC Z c4 "java/lang/String" "coder" "B" (.int (0 : Int32)) := D6 (Or.inr (w_32 G)) (ty := .byte) (by decide)
  have F8 : FldC Z c4 "java/lang/String" "value" "[B" (.null) := D6 (Or.inr (w_34 G)) (ty := (.array .byte)) (by decide)
  refine Go.dup (pc' := 277) W2 d_method_2_code_276 rfl rfl ?_
  refine Go.aloadN (pc' := 278) W2 d_method_2_code_277 rfl rfl rfl ?_
  refine Go.special (pc' := 281) W2 (a := a3) (rm_initC G a3 ac c4 cc [xa, xb, xc, xd, xe, xf, xg, xh, xi, xj, xk, xl] A O5 F7 F8 (Lat.cons (hL xa (by simp)) (Lat.cons (hL xb (by simp)) (Lat.cons (hL xc (by simp)) (Lat.cons (hL xd (by simp)) (Lat.cons (hL xe (by simp)) (Lat.cons (hL xf (by simp)) (Lat.cons (hL xg (by simp)) (Lat.cons (hL xh (by simp)) (Lat.cons (hL xi (by simp)) (Lat.cons (hL xj (by simp)) (Lat.cons (hL xk (by simp)) (Lat.cons (hL xl (by simp)) Lat.nil)))))))))))) (by simp) (show ¬ (12 : Nat).toInt32 = 0 by decide)) rfl (w_9 G) (w_10 G) (w_8 G) (w_11 G) (by decide) [0, 0] [] (σf := []) rfl rfl [(.ref ac)] [(.ref a3)] rfl (lenOf pd_18 rfl) rfl rfl d_method_2_code_278 rfl (by first | exact Nat.le_of_ble_eq_true rfl | (simp; done) | (simp; omega) | omega) (by first | exact Nat.le_of_ble_eq_true rfl | (simp; done) | (simp; omega) | omega) (by first | exact Nat.le_of_ble_eq_true rfl | (simp; done) | (simp; omega) | omega) (by first | exact Nat.le_of_ble_eq_true rfl | (simp; done) | (simp; omega) | omega) ?_
  rintro _ _ _ T13 ⟨c9, b10, c11, rfl, rfl, rfl, S12⟩ W14
  replace W14 : Wk l Z EL1 ({ frames := 4, cells := 2, slots := 16, locals := 70 } : Room) "com/example/upfront_quote/upfrontquote/ProductLineServedOnPinLaw" method_2_code 2 (some (.object "java/lang/String")) "cut" X [(ac, cc)] [(a3, c9), (b10, c11)] T13 2 (16) := W14
  show Go Z EL1 _ _ _ X T13 281 #[.val (.ref ac), .val (.int (12 : Int32))] [(.ref a3)]
  have W15 := W14.drop [0] (σi := [(ac, cc)]) (σf := []) rfl
  replace W15 : Wk l Z EL1 ({ frames := 4, cells := 2, slots := 16, locals := 70 } : Room) "com/example/upfront_quote/upfrontquote/ProductLineServedOnPinLaw" method_2_code 2 (some (.object "java/lang/String")) "cut" X [] [(a3, c9), (b10, c11)] T13 2 (16) := W15
  have W16 := W15.keepRo [0, 1] (ρ' := [(a3, c9), (b10, c11)]) rfl
  replace W16 : Wk l Z EL1 ({ frames := 4, cells := 2, slots := 16, locals := 70 } : Room) "com/example/upfront_quote/upfrontquote/ProductLineServedOnPinLaw" method_2_code 2 (some (.object "java/lang/String")) "cut" X [] [(a3, c9), (b10, c11)] T13 2 (16) := W16
  refine Go.aret W16 rfl rfl d_method_2_code_281 (by first | exact Nat.le_of_ble_eq_true rfl | (simp; done) | (simp; omega) | omega) (by first | exact Nat.le_of_ble_eq_true rfl | (simp; done) | (simp; omega) | omega) ?_
  exact ⟨a3, c9, b10, c11, rfl, rfl, rfl, S12⟩
theorem d_code_348 : decode code 348 = .ok (.aload 8, 2) := by decide +kernel
theorem d_code_350 : decode code 350 = .ok (.iload 11, 2) := by decide +kernel
theorem d_code_352 : decode code 352 = .ok (.invokestatic 13, 3) := by decide +kernel
theorem w_2 {Z : State} {a0 : Array Value} (G : Cl Z a0) : (Jvm.Cond.methodLink "com/example/upfront_quote/upfrontquote/ProductLineServedOnPinLaw" 13 (⟨"com/example/upfront_quote/upfrontquote/ProductLineServedOnPinLaw", "cut", "([CI)Ljava/lang/String;"⟩ : MethodName)).before a0 Z = true := G.1 _ (List.mem_of_getElem? (l := tables_1) (i := 2) rfl)
theorem w_4 {Z : State} {a0 : Array Value} (G : Cl Z a0) : (Jvm.Cond.initialized "com/example/upfront_quote/upfrontquote/ProductLineServedOnPinLaw").before a0 Z = true := G.1 _ (List.mem_of_getElem? (l := tables_1) (i := 4) rfl)
theorem w_5 {Z : State} {a0 : Array Value} (G : Cl Z a0) : (Jvm.Cond.code (⟨"com/example/upfront_quote/upfrontquote/ProductLineServedOnPinLaw", "cut", "([CI)Ljava/lang/String;"⟩ : MethodName) method_2_code 2 (some (.object "java/lang/String"))).before a0 Z = true := G.1 _ (List.mem_of_getElem? (l := tables_1) (i := 5) rfl)
theorem pd_19 : parseMethodDescriptor "([CI)Ljava/lang/String;" = some ⟨[(.array .char), .int], some (.object "java/lang/String")⟩ := by decide +kernel
theorem w_3 {Z : State} {a0 : Array Value} (G : Cl Z a0) : (Jvm.Cond.static (⟨"com/example/upfront_quote/upfrontquote/ProductLineServedOnPinLaw", "cut", "([CI)Ljava/lang/String;"⟩ : MethodName)).before a0 Z = true := G.1 _ (List.mem_of_getElem? (l := tables_1) (i := 3) rfl)
theorem d_code_355 : decode code 355 = .ok (.astore 12, 2) := by decide +kernel
theorem d_code_357 : decode code 357 = .ok (.aconst_null, 1) := by decide +kernel
theorem d_code_358 : decode code 358 = .ok (.astore 13, 2) := by decide +kernel
theorem d_code_360 : decode code 360 = .ok (.aload 12, 2) := by decide +kernel
theorem d_code_362 : decode code 362 = .ok (.ldc 19, 2) := by decide +kernel
theorem w_35 {Z : State} {a0 : Array Value} (G : Cl Z a0) : (Jvm.Cond.stringLink "com/example/upfront_quote/upfrontquote/ProductLineServedOnPinLaw" 19 "/api/v2/bmc").before a0 Z = true := G.1 _ (List.mem_of_getElem? (l := tables_1) (i := 35) rfl)
theorem d_code_364 : decode code 364 = .ok (.invokevirtual 21, 3) := by decide +kernel
theorem w_38 {Z : State} {a0 : Array Value} (G : Cl Z a0) : (Jvm.Cond.methodLink "com/example/upfront_quote/upfrontquote/ProductLineServedOnPinLaw" 21 (⟨"java/lang/String", "equals", "(Ljava/lang/Object;)Z"⟩ : MethodName)).before a0 Z = true := G.1 _ (List.mem_of_getElem? (l := tables_1) (i := 38) rfl)
theorem d_code_367 : decode code 367 = .ok (.ifCond .eq 11, 3) := by decide +kernel
theorem d_code_378 : decode code 378 = .ok (.aload 12, 2) := by decide +kernel
theorem d_code_380 : decode code 380 = .ok (.ldc 31, 2) := by decide +kernel
theorem w_102 {Z : State} {a0 : Array Value} (G : Cl Z a0) : (Jvm.Cond.stringLink "com/example/upfront_quote/upfrontquote/ProductLineServedOnPinLaw" 31 "/api/v2/zec").before a0 Z = true := G.1 _ (List.mem_of_getElem? (l := tables_1) (i := 102) rfl)
theorem d_code_382 : decode code 382 = .ok (.invokevirtual 21, 3) := by decide +kernel
theorem d_code_385 : decode code 385 = .ok (.ifCond .eq 11, 3) := by decide +kernel
theorem d_code_396 : decode code 396 = .ok (.aload 12, 2) := by decide +kernel
theorem d_code_398 : decode code 398 = .ok (.ldc 36, 2) := by decide +kernel
theorem w_103 {Z : State} {a0 : Array Value} (G : Cl Z a0) : (Jvm.Cond.stringLink "com/example/upfront_quote/upfrontquote/ProductLineServedOnPinLaw" 36 "/api/v2/vm").before a0 Z = true := G.1 _ (List.mem_of_getElem? (l := tables_1) (i := 103) rfl)
theorem d_code_400 : decode code 400 = .ok (.invokevirtual 21, 3) := by decide +kernel
theorem d_code_403 : decode code 403 = .ok (.ifCond .eq 8, 3) := by decide +kernel
theorem d_code_411 : decode code 411 = .ok (.aload 12, 2) := by decide +kernel
theorem d_code_413 : decode code 413 = .ok (.invokestatic 41, 3) := by decide +kernel
theorem w_51 {Z : State} {a0 : Array Value} (G : Cl Z a0) : (Jvm.Cond.methodLink "com/example/upfront_quote/upfrontquote/ProductLineServedOnPinLaw" 41 (⟨"com/example/upfront_quote/upfrontquote/ProductLine", "servedOn", "(Ljava/lang/String;)Ljava/util/Optional;"⟩ : MethodName)).before a0 Z = true := G.1 _ (List.mem_of_getElem? (l := tables_1) (i := 51) rfl)
theorem w_53 {Z : State} {a0 : Array Value} (G : Cl Z a0) : (Jvm.Cond.code (⟨"com/example/upfront_quote/upfrontquote/ProductLine", "servedOn", "(Ljava/lang/String;)Ljava/util/Optional;"⟩ : MethodName) prog_17_method_4_code 5 (some (.object "java/util/Optional"))).before a0 Z = true := G.1 _ (List.mem_of_getElem? (l := tables_1) (i := 53) rfl)
theorem pd_20 : parseMethodDescriptor "(Ljava/lang/String;)Ljava/util/Optional;" = some ⟨[(.object "java/lang/String")], some (.object "java/util/Optional")⟩ := by decide +kernel
theorem w_52 {Z : State} {a0 : Array Value} (G : Cl Z a0) : (Jvm.Cond.static (⟨"com/example/upfront_quote/upfrontquote/ProductLine", "servedOn", "(Ljava/lang/String;)Ljava/util/Optional;"⟩ : MethodName)).before a0 Z = true := G.1 _ (List.mem_of_getElem? (l := tables_1) (i := 52) rfl)
theorem d_code_416 : decode code 416 = .ok (.astore 14, 2) := by decide +kernel
theorem d_code_418 : decode code 418 = .ok (.aload 13, 2) := by decide +kernel
theorem d_code_420 : decode code 420 = .ok (.ifnonnull 17, 3) := by decide +kernel
theorem d_code_423 : decode code 423 = .ok (.aload 14, 2) := by decide +kernel
theorem d_code_425 : decode code 425 = .ok (.invokevirtual 45, 3) := by decide +kernel
theorem w_91 {Z : State} {a0 : Array Value} (G : Cl Z a0) : (Jvm.Cond.methodLink "com/example/upfront_quote/upfrontquote/ProductLineServedOnPinLaw" 45 (⟨"java/util/Optional", "isPresent", "()Z"⟩ : MethodName)).before a0 Z = true := G.1 _ (List.mem_of_getElem? (l := tables_1) (i := 91) rfl)
theorem w_95 {Z : State} {a0 : Array Value} (G : Cl Z a0) : (Jvm.Cond.code (⟨"java/util/Optional", "isPresent", "()Z"⟩ : MethodName) jdk_32_method_6_code 1 (some .boolean)).before a0 Z = true := G.1 _ (List.mem_of_getElem? (l := tables_1) (i := 95) rfl)
theorem pd_21 : parseMethodDescriptor "()Z" = some ⟨[], some .boolean⟩ := by decide +kernel
theorem w_92 {Z : State} {a0 : Array Value} (G : Cl Z a0) : (Jvm.Cond.declares (⟨"java/util/Optional", "isPresent", "()Z"⟩ : MethodName)).before a0 Z = true := G.1 _ (List.mem_of_getElem? (l := tables_1) (i := 92) rfl)
theorem w_94 {Z : State} {a0 : Array Value} (G : Cl Z a0) : (Jvm.Cond.selects "java/util/Optional" (⟨"java/util/Optional", "isPresent", "()Z"⟩ : MethodName) (⟨"java/util/Optional", "isPresent", "()Z"⟩ : MethodName)).before a0 Z = true := G.1 _ (List.mem_of_getElem? (l := tables_1) (i := 94) rfl)
theorem w_93 {Z : State} {a0 : Array Value} (G : Cl Z a0) : (Jvm.Cond.instanceMethod (⟨"java/util/Optional", "isPresent", "()Z"⟩ : MethodName)).before a0 Z = true := G.1 _ (List.mem_of_getElem? (l := tables_1) (i := 93) rfl)
theorem d_code_428 : decode code 428 = .ok (.ifCond .ne 7, 3) := by decide +kernel
theorem d_code_431 : decode code 431 = .ok (.iconst 1, 1) := by decide +kernel
theorem d_code_432 : decode code 432 = .ok (.goto 4, 3) := by decide +kernel
theorem d_code_436 : decode code 436 = .ok (.ireturn, 1) := by decide +kernel
theorem d_code_406 : decode code 406 = .ok (.getstatic 38, 3) := by decide +kernel
theorem w_108 {Z : State} {a0 : Array Value} (G : Cl Z a0) : (Jvm.Cond.fieldLink "com/example/upfront_quote/upfrontquote/ProductLineServedOnPinLaw" 38 "com/example/upfront_quote/upfrontquote/ProductLine" "VM" "Lcom/example/upfront_quote/upfrontquote/ProductLine;").before a0 Z = true := G.1 _ (List.mem_of_getElem? (l := tables_1) (i := 108) rfl)
theorem d_code_409 : decode code 409 = .ok (.astore 13, 2) := by decide +kernel
theorem d_code_437 : decode code 437 = .ok (.aload 14, 2) := by decide +kernel
theorem d_code_439 : decode code 439 = .ok (.invokevirtual 45, 3) := by decide +kernel
theorem d_code_442 : decode code 442 = .ok (.ifCond .eq 17, 3) := by decide +kernel
theorem d_code_445 : decode code 445 = .ok (.aload 14, 2) := by decide +kernel
theorem d_code_447 : decode code 447 = .ok (.invokevirtual 51, 3) := by decide +kernel
theorem w_96 {Z : State} {a0 : Array Value} (G : Cl Z a0) : (Jvm.Cond.methodLink "com/example/upfront_quote/upfrontquote/ProductLineServedOnPinLaw" 51 (⟨"java/util/Optional", "get", "()Ljava/lang/Object;"⟩ : MethodName)).before a0 Z = true := G.1 _ (List.mem_of_getElem? (l := tables_1) (i := 96) rfl)
theorem w_100 {Z : State} {a0 : Array Value} (G : Cl Z a0) : (Jvm.Cond.code (⟨"java/util/Optional", "get", "()Ljava/lang/Object;"⟩ : MethodName) jdk_32_method_5_code 1 (some (.object "java/lang/Object"))).before a0 Z = true := G.1 _ (List.mem_of_getElem? (l := tables_1) (i := 100) rfl)
theorem pd_22 : parseMethodDescriptor "()Ljava/lang/Object;" = some ⟨[], some (.object "java/lang/Object")⟩ := by decide +kernel
theorem w_97 {Z : State} {a0 : Array Value} (G : Cl Z a0) : (Jvm.Cond.declares (⟨"java/util/Optional", "get", "()Ljava/lang/Object;"⟩ : MethodName)).before a0 Z = true := G.1 _ (List.mem_of_getElem? (l := tables_1) (i := 97) rfl)
theorem w_99 {Z : State} {a0 : Array Value} (G : Cl Z a0) : (Jvm.Cond.selects "java/util/Optional" (⟨"java/util/Optional", "get", "()Ljava/lang/Object;"⟩ : MethodName) (⟨"java/util/Optional", "get", "()Ljava/lang/Object;"⟩ : MethodName)).before a0 Z = true := G.1 _ (List.mem_of_getElem? (l := tables_1) (i := 99) rfl)
theorem w_98 {Z : State} {a0 : Array Value} (G : Cl Z a0) : (Jvm.Cond.instanceMethod (⟨"java/util/Optional", "get", "()Ljava/lang/Object;"⟩ : MethodName)).before a0 Z = true := G.1 _ (List.mem_of_getElem? (l := tables_1) (i := 98) rfl)
theorem d_code_450 : decode code 450 = .ok (.aload 13, 2) := by decide +kernel
theorem d_code_452 : decode code 452 = .ok (.if_acmp .ne 7, 3) := by decide +kernel
theorem d_code_455 : decode code 455 = .ok (.iconst 1, 1) := by decide +kernel
theorem d_code_456 : decode code 456 = .ok (.goto 4, 3) := by decide +kernel
theorem d_code_460 : decode code 460 = .ok (.ireturn, 1) := by decide +kernel
theorem d_code_388 : decode code 388 = .ok (.getstatic 33, 3) := by decide +kernel
theorem w_109 {Z : State} {a0 : Array Value} (G : Cl Z a0) : (Jvm.Cond.fieldLink "com/example/upfront_quote/upfrontquote/ProductLineServedOnPinLaw" 33 "com/example/upfront_quote/upfrontquote/ProductLine" "ZEC" "Lcom/example/upfront_quote/upfrontquote/ProductLine;").before a0 Z = true := G.1 _ (List.mem_of_getElem? (l := tables_1) (i := 109) rfl)
theorem d_code_391 : decode code 391 = .ok (.astore 13, 2) := by decide +kernel
theorem d_code_393 : decode code 393 = .ok (.goto 18, 3) := by decide +kernel
theorem d_code_370 : decode code 370 = .ok (.getstatic 25, 3) := by decide +kernel
theorem w_48 {Z : State} {a0 : Array Value} (G : Cl Z a0) : (Jvm.Cond.fieldLink "com/example/upfront_quote/upfrontquote/ProductLineServedOnPinLaw" 25 "com/example/upfront_quote/upfrontquote/ProductLine" "BMC" "Lcom/example/upfront_quote/upfrontquote/ProductLine;").before a0 Z = true := G.1 _ (List.mem_of_getElem? (l := tables_1) (i := 48) rfl)
theorem d_code_373 : decode code 373 = .ok (.astore 13, 2) := by decide +kernel
theorem d_code_375 : decode code 375 = .ok (.goto 36, 3) := by decide +kernel
set_option maxRecDepth 65536 in
set_option maxHeartbeats 40000000 in
theorem rm_tail_A {l : Launch} {Z : State} {a0 : Array Value} (G : Cl Z a0) (sel pos chi ext mode : Int32) (sk va vb nat mm : Int32) (adA : Addr) (adB : Addr) (adC : Addr) (adD : Addr) (adE : Addr) (adF : Addr) (adG : Addr) (adH : Addr) (adI : Addr) (adJ : Addr) (ceA : Cell) (ceB : Cell) (ceC : Cell) (ceD : Cell) (ceE : Cell) (ceF : Cell) (ceG : Cell) (ceH : Cell) (ceI : Cell) (ceJ : Cell) (hzA : Z.heap[adA]? = some ceA) (obA : ObjC Z ceA "com/example/upfront_quote/upfrontquote/ProductLine") (fdA : FldC Z ceA "com/example/upfront_quote/upfrontquote/ProductLine" "path" "Ljava/lang/String;" (.ref adE)) (hzB : Z.heap[adB]? = some ceB) (obB : ObjC Z ceB "[Lcom/example/upfront_quote/upfrontquote/ProductLine;") (arA : ArrC Z ceB (.object "com/example/upfront_quote/upfrontquote/ProductLine") [(.ref adA), (.ref adC), (.ref adD)]) (hzC : Z.heap[adC]? = some ceC) (obC : ObjC Z ceC "com/example/upfront_quote/upfrontquote/ProductLine") (fdC : FldC Z ceC "com/example/upfront_quote/upfrontquote/ProductLine" "path" "Ljava/lang/String;" (.ref adG)) (hzD : Z.heap[adD]? = some ceD) (obD : ObjC Z ceD "com/example/upfront_quote/upfrontquote/ProductLine") (fdE : FldC Z ceD "com/example/upfront_quote/upfrontquote/ProductLine" "path" "Ljava/lang/String;" (.ref adI)) (hzE : Z.heap[adE]? = some ceE) (slA : StrL Z ceE adF ceF [(47 : Int32), (97 : Int32), (112 : Int32), (105 : Int32), (47 : Int32), (118 : Int32), (50 : Int32), (47 : Int32), (98 : Int32), (109 : Int32), (99 : Int32)]) (hzF : Z.heap[adF]? = some ceF) (hzG : Z.heap[adG]? = some ceG) (slB : StrL Z ceG adH ceH [(47 : Int32), (97 : Int32), (112 : Int32), (105 : Int32), (47 : Int32), (118 : Int32), (50 : Int32), (47 : Int32), (122 : Int32), (101 : Int32), (99 : Int32)]) (hzH : Z.heap[adH]? = some ceH) (hzI : Z.heap[adI]? = some ceI) (slC : StrL Z ceI adJ ceJ [(47 : Int32), (97 : Int32), (112 : Int32), (105 : Int32), (47 : Int32), (118 : Int32), (50 : Int32), (47 : Int32), (118 : Int32), (109 : Int32)]) (hzJ : Z.heap[adJ]? = some ceJ) (stA : Sta Z Z.heap "com/example/upfront_quote/upfrontquote/ProductLine" "BMC" "Lcom/example/upfront_quote/upfrontquote/ProductLine;" (.ref adA)) (stB : Sta Z Z.heap "com/example/upfront_quote/upfrontquote/ProductLine" "$VALUES" "[Lcom/example/upfront_quote/upfrontquote/ProductLine;" (.ref adB)) (stC : Sta Z Z.heap "com/example/upfront_quote/upfrontquote/ProductLine" "ZEC" "Lcom/example/upfront_quote/upfrontquote/ProductLine;" (.ref adC)) (stD : Sta Z Z.heap "com/example/upfront_quote/upfrontquote/ProductLine" "VM" "Lcom/example/upfront_quote/upfrontquote/ProductLine;" (.ref adD)) (em : Addr) (cem : Cell) (hzem : Z.heap[em]? = some cem) (obem : ObjC Z cem "java/util/Optional") (fdem : FldC Z cem "java/util/Optional" "value" "Ljava/lang/Object;" .null) (stem : Sta Z Z.heap "java/util/Optional" "EMPTY" "Ljava/util/Optional;" (.ref em)) (ac : Addr) (cc : Cell) (xa xb xc xd xe xf xg xh xi xj xk xl : Int32) (hL : Lat [xa, xb, xc, xd, xe, xf, xg, xh, xi, xj, xk, xl]) (A : ArrC Z cc .char [(.int xa), (.int xb), (.int xc), (.int xd), (.int xe), (.int xf), (.int xg), (.int xh), (.int xi), (.int xj), (.int xk), (.int xl)]) {X : Ctx} {T0 : State} (W0 : Wk l Z EL1 ({ frames := 8, cells := 32, slots := 4288, locals := 192 } : Room) "com/example/upfront_quote/upfrontquote/ProductLineServedOnPinLaw" code 15 (some .boolean) "law" X [(ac, cc)] [] T0 1 (12)) :
    Go Z EL1 32 4288 (fun v _ _ => v = some (.int 1)) X T0 348 #[.val (.int sel), .val (.int pos), .val (.int chi), .val (.int ext), .val (.int mode), .val (.int sk), .val (.int va), .val (.int vb), .val (.ref ac), .val (.int nat), .val (.int mm), .val (.int (0 : Int32)), .unset, .unset, .unset] [] := by
  refine Go.aload (pc' := 350) W0 d_code_348 rfl rfl rfl ?_
  refine Go.iload (pc' := 352) W0 d_code_350 rfl rfl ?_
  refine Go.static (pc' := 355) W0 (rm_cut_A G ac cc xa xb xc xd xe xf xg xh xi xj xk xl hL A) (w_2 G) (w_3 G) (w_4 G) (w_5 G) (by decide) [0] [] (σf := []) rfl rfl [(.ref ac), (.int (0 : Int32))] [] rfl (lenOf pd_19 rfl) rfl rfl d_code_352 rfl (by first | exact Nat.le_of_ble_eq_true rfl | (simp; done) | (simp; omega) | omega) (by first | exact Nat.le_of_ble_eq_true rfl | (simp; done) | (simp; omega) | omega) (by first | exact Nat.le_of_ble_eq_true rfl | (simp; done) | (simp; omega) | omega) (by first | exact Nat.le_of_ble_eq_true rfl | (simp; done) | (simp; omega) | omega) ?_
  rintro _ _ _ T6 ⟨a1, c2, b3, c4, rfl, rfl, rfl, S5⟩ W7
  replace W7 : Wk l Z EL1 ({ frames := 8, cells := 32, slots := 4288, locals := 192 } : Room) "com/example/upfront_quote/upfrontquote/ProductLineServedOnPinLaw" code 15 (some .boolean) "law" X [] [(a1, c2), (b3, c4)] T6 7 (24) := W7
  show Go Z EL1 _ _ _ X T6 355 #[.val (.int sel), .val (.int pos), .val (.int chi), .val (.int ext), .val (.int mode), .val (.int sk), .val (.int va), .val (.int vb), .val (.ref ac), .val (.int nat), .val (.int mm), .val (.int (0 : Int32)), .unset, .unset, .unset] [(.ref a1)]
  refine Go.astore (pc' := 357) W7 #[.val (.int sel), .val (.int pos), .val (.int chi), .val (.int ext), .val (.int mode), .val (.int sk), .val (.int va), .val (.int vb), .val (.ref ac), .val (.int nat), .val (.int mm), .val (.int (0 : Int32)), .val (.ref a1), .unset, .unset] d_code_355 rfl rfl rfl ?_
  refine Go.aconstNull (pc' := 358) W7 d_code_357 rfl ?_
  refine Go.astore (pc' := 360) W7 #[.val (.int sel), .val (.int pos), .val (.int chi), .val (.int ext), .val (.int mode), .val (.int sk), .val (.int va), .val (.int vb), .val (.ref ac), .val (.int nat), .val (.int mm), .val (.int (0 : Int32)), .val (.ref a1), .val (.null), .unset] d_code_358 rfl rfl rfl ?_
  refine Go.aload (pc' := 362) W7 d_code_360 rfl rfl rfl ?_
  refine Go.ldcStr (pc' := 364) W7 G.2.1 (w_35 G) (strAtoms G) (by decide) (bs := [(.int (47 : Int32)), (.int (97 : Int32)), (.int (112 : Int32)), (.int (105 : Int32)), (.int (47 : Int32)), (.int (118 : Int32)), (.int (50 : Int32)), (.int (47 : Int32)), (.int (98 : Int32)), (.int (109 : Int32)), (.int (99 : Int32))]) (z := 11) (by decide +kernel) (by decide) (by decide) (by decide) d_code_362 rfl (m := 44) (by decide +kernel) (by decide) (by first | exact Nat.le_of_ble_eq_true rfl | (simp; done) | (simp; omega) | omega) (by first | exact Nat.le_of_ble_eq_true rfl | (simp; done) | (simp; omega) | omega) (fun T8 a10 b11 c12 c13 W9 O14 F15 F16 A17 => ?_)
  replace W9 : Wk l Z EL1 ({ frames := 8, cells := 32, slots := 4288, locals := 192 } : Room) "com/example/upfront_quote/upfrontquote/ProductLineServedOnPinLaw" code 15 (some .boolean) "law" X [] [(a10, c12), (b11, c13), (a1, c2), (b3, c4)] T8 9 (72) := W9
  have S18 : StrL Z c12 b11 c13 [(47 : Int32), (97 : Int32), (112 : Int32), (105 : Int32), (47 : Int32), (118 : Int32), (50 : Int32), (47 : Int32), (98 : Int32), (109 : Int32), (99 : Int32)] := ⟨O14, F15, F16, (by rw [show latB [(47 : Int32), (97 : Int32), (112 : Int32), (105 : Int32), (47 : Int32), (118 : Int32), (50 : Int32), (47 : Int32), (98 : Int32), (109 : Int32), (99 : Int32)] = [(.int (47 : Int32)), (.int (97 : Int32)), (.int (112 : Int32)), (.int (105 : Int32)), (.int (47 : Int32)), (.int (118 : Int32)), (.int (50 : Int32)), (.int (47 : Int32)), (.int (98 : Int32)), (.int (109 : Int32)), (.int (99 : Int32))] from by decide +kernel]; exact A17), (by decide +kernel : ∀ x ∈ ([(47 : Int32), (97 : Int32), (112 : Int32), (105 : Int32), (47 : Int32), (118 : Int32), (50 : Int32), (47 : Int32), (98 : Int32), (109 : Int32), (99 : Int32)] : List Int32), ¬ x < 0 ∧ ¬ (255 : Int32) < x)⟩
  refine Go.virtual (pc' := 367) W9 (rm_eqs G a1 a10 b3 b11 c2 c12 c4 c13 [] [(47 : Int32), (97 : Int32), (112 : Int32), (105 : Int32), (47 : Int32), (118 : Int32), (50 : Int32), (47 : Int32), (98 : Int32), (109 : Int32), (99 : Int32)] S5 S18) (Or.inr (Or.inl (List.mem_of_getElem? (i := 2) rfl))) S5.1 (w_38 G) (w_39 G) (w_41 G) (w_40 G) (w_8 G) (w_42 G) (by decide) [] [2, 3, 0, 1] (σf := []) rfl rfl [(.ref a10)] [] rfl (lenOf pd_14 rfl) rfl rfl d_code_364 rfl (by first | exact Nat.le_of_ble_eq_true rfl | (simp; done) | (simp; omega) | omega) (by first | exact Nat.le_of_ble_eq_true rfl | (simp; done) | (simp; omega) | omega) (by first | exact Nat.le_of_ble_eq_true rfl | (simp; done) | (simp; omega) | omega) (by first | exact Nat.le_of_ble_eq_true rfl | (simp; done) | (simp; omega) | omega) ?_
  rintro _ _ _ T19 ⟨rfl, rfl, rfl⟩ W20
  replace W20 : Wk l Z EL1 ({ frames := 8, cells := 32, slots := 4288, locals := 192 } : Room) "com/example/upfront_quote/upfrontquote/ProductLineServedOnPinLaw" code 15 (some .boolean) "law" X [] [(a10, c12), (b11, c13), (a1, c2), (b3, c4)] T19 9 (72) := W20
  show Go Z EL1 _ _ _ X T19 367 #[.val (.int sel), .val (.int pos), .val (.int chi), .val (.int ext), .val (.int mode), .val (.int sk), .val (.int va), .val (.int vb), .val (.ref ac), .val (.int nat), .val (.int mm), .val (.int (0 : Int32)), .val (.ref a1), .val (.null), .unset] [(.int (if ([] : List Int32) = [(47 : Int32), (97 : Int32), (112 : Int32), (105 : Int32), (47 : Int32), (118 : Int32), (50 : Int32), (47 : Int32), (98 : Int32), (109 : Int32), (99 : Int32)] then 1 else 0))]
  refine Go.if_eq (pc' := 370) W20 378 d_code_367 (by decide) rfl (fun (c21 : (if ([] : List Int32) = [(47 : Int32), (97 : Int32), (112 : Int32), (105 : Int32), (47 : Int32), (118 : Int32), (50 : Int32), (47 : Int32), (98 : Int32), (109 : Int32), (99 : Int32)] then 1 else 0) = 0) => ?_) (fun (c21 : ¬ ((if ([] : List Int32) = [(47 : Int32), (97 : Int32), (112 : Int32), (105 : Int32), (47 : Int32), (118 : Int32), (50 : Int32), (47 : Int32), (98 : Int32), (109 : Int32), (99 : Int32)] then 1 else 0) = 0)) => ?_)
  · refine Go.aload (pc' := 380) W20 d_code_378 rfl rfl rfl ?_
    refine Go.ldcStr (pc' := 382) W20 G.2.1 (w_102 G) (strAtoms G) (by decide) (bs := [(.int (47 : Int32)), (.int (97 : Int32)), (.int (112 : Int32)), (.int (105 : Int32)), (.int (47 : Int32)), (.int (118 : Int32)), (.int (50 : Int32)), (.int (47 : Int32)), (.int (122 : Int32)), (.int (101 : Int32)), (.int (99 : Int32))]) (z := 11) (by decide +kernel) (by decide) (by decide) (by decide) d_code_380 rfl (m := 44) (by decide +kernel) (by decide) (by first | exact Nat.le_of_ble_eq_true rfl | (simp; done) | (simp; omega) | omega) (by first | exact Nat.le_of_ble_eq_true rfl | (simp; done) | (simp; omega) | omega) (fun T22 a24 b25 c26 c27 W23 O28 F29 F30 A31 => ?_)
    replace W23 : Wk l Z EL1 ({ frames := 8, cells := 32, slots := 4288, locals := 192 } : Room) "com/example/upfront_quote/upfrontquote/ProductLineServedOnPinLaw" code 15 (some .boolean) "law" X [] [(a24, c26), (b25, c27), (a10, c12), (b11, c13), (a1, c2), (b3, c4)] T22 11 (120) := W23
    have S32 : StrL Z c26 b25 c27 [(47 : Int32), (97 : Int32), (112 : Int32), (105 : Int32), (47 : Int32), (118 : Int32), (50 : Int32), (47 : Int32), (122 : Int32), (101 : Int32), (99 : Int32)] := ⟨O28, F29, F30, (by rw [show latB [(47 : Int32), (97 : Int32), (112 : Int32), (105 : Int32), (47 : Int32), (118 : Int32), (50 : Int32), (47 : Int32), (122 : Int32), (101 : Int32), (99 : Int32)] = [(.int (47 : Int32)), (.int (97 : Int32)), (.int (112 : Int32)), (.int (105 : Int32)), (.int (47 : Int32)), (.int (118 : Int32)), (.int (50 : Int32)), (.int (47 : Int32)), (.int (122 : Int32)), (.int (101 : Int32)), (.int (99 : Int32))] from by decide +kernel]; exact A31), (by decide +kernel : ∀ x ∈ ([(47 : Int32), (97 : Int32), (112 : Int32), (105 : Int32), (47 : Int32), (118 : Int32), (50 : Int32), (47 : Int32), (122 : Int32), (101 : Int32), (99 : Int32)] : List Int32), ¬ x < 0 ∧ ¬ (255 : Int32) < x)⟩
    refine Go.virtual (pc' := 385) W23 (rm_eqs G a1 a24 b3 b25 c2 c26 c4 c27 [] [(47 : Int32), (97 : Int32), (112 : Int32), (105 : Int32), (47 : Int32), (118 : Int32), (50 : Int32), (47 : Int32), (122 : Int32), (101 : Int32), (99 : Int32)] S5 S32) (Or.inr (Or.inl (List.mem_of_getElem? (i := 4) rfl))) S5.1 (w_38 G) (w_39 G) (w_41 G) (w_40 G) (w_8 G) (w_42 G) (by decide) [] [4, 5, 0, 1] (σf := []) rfl rfl [(.ref a24)] [] rfl (lenOf pd_14 rfl) rfl rfl d_code_382 rfl (by first | exact Nat.le_of_ble_eq_true rfl | (simp; done) | (simp; omega) | omega) (by first | exact Nat.le_of_ble_eq_true rfl | (simp; done) | (simp; omega) | omega) (by first | exact Nat.le_of_ble_eq_true rfl | (simp; done) | (simp; omega) | omega) (by first | exact Nat.le_of_ble_eq_true rfl | (simp; done) | (simp; omega) | omega) ?_
    rintro _ _ _ T33 ⟨rfl, rfl, rfl⟩ W34
    replace W34 : Wk l Z EL1 ({ frames := 8, cells := 32, slots := 4288, locals := 192 } : Room) "com/example/upfront_quote/upfrontquote/ProductLineServedOnPinLaw" code 15 (some .boolean) "law" X [] [(a24, c26), (b25, c27), (a10, c12), (b11, c13), (a1, c2), (b3, c4)] T33 11 (120) := W34
    show Go Z EL1 _ _ _ X T33 385 #[.val (.int sel), .val (.int pos), .val (.int chi), .val (.int ext), .val (.int mode), .val (.int sk), .val (.int va), .val (.int vb), .val (.ref ac), .val (.int nat), .val (.int mm), .val (.int (0 : Int32)), .val (.ref a1), .val (.null), .unset] [(.int (if ([] : List Int32) = [(47 : Int32), (97 : Int32), (112 : Int32), (105 : Int32), (47 : Int32), (118 : Int32), (50 : Int32), (47 : Int32), (122 : Int32), (101 : Int32), (99 : Int32)] then 1 else 0))]
    refine Go.if_eq (pc' := 388) W34 396 d_code_385 (by decide) rfl (fun (c35 : (if ([] : List Int32) = [(47 : Int32), (97 : Int32), (112 : Int32), (105 : Int32), (47 : Int32), (118 : Int32), (50 : Int32), (47 : Int32), (122 : Int32), (101 : Int32), (99 : Int32)] then 1 else 0) = 0) => ?_) (fun (c35 : ¬ ((if ([] : List Int32) = [(47 : Int32), (97 : Int32), (112 : Int32), (105 : Int32), (47 : Int32), (118 : Int32), (50 : Int32), (47 : Int32), (122 : Int32), (101 : Int32), (99 : Int32)] then 1 else 0) = 0)) => ?_)
    · refine Go.aload (pc' := 398) W34 d_code_396 rfl rfl rfl ?_
      refine Go.ldcStr (pc' := 400) W34 G.2.1 (w_103 G) (strAtoms G) (by decide) (bs := [(.int (47 : Int32)), (.int (97 : Int32)), (.int (112 : Int32)), (.int (105 : Int32)), (.int (47 : Int32)), (.int (118 : Int32)), (.int (50 : Int32)), (.int (47 : Int32)), (.int (118 : Int32)), (.int (109 : Int32))]) (z := 10) (by decide +kernel) (by decide) (by decide) (by decide) d_code_398 rfl (m := 40) (by decide +kernel) (by decide) (by first | exact Nat.le_of_ble_eq_true rfl | (simp; done) | (simp; omega) | omega) (by first | exact Nat.le_of_ble_eq_true rfl | (simp; done) | (simp; omega) | omega) (fun T36 a38 b39 c40 c41 W37 O42 F43 F44 A45 => ?_)
      replace W37 : Wk l Z EL1 ({ frames := 8, cells := 32, slots := 4288, locals := 192 } : Room) "com/example/upfront_quote/upfrontquote/ProductLineServedOnPinLaw" code 15 (some .boolean) "law" X [] [(a38, c40), (b39, c41), (a24, c26), (b25, c27), (a10, c12), (b11, c13), (a1, c2), (b3, c4)] T36 13 (164) := W37
      have S46 : StrL Z c40 b39 c41 [(47 : Int32), (97 : Int32), (112 : Int32), (105 : Int32), (47 : Int32), (118 : Int32), (50 : Int32), (47 : Int32), (118 : Int32), (109 : Int32)] := ⟨O42, F43, F44, (by rw [show latB [(47 : Int32), (97 : Int32), (112 : Int32), (105 : Int32), (47 : Int32), (118 : Int32), (50 : Int32), (47 : Int32), (118 : Int32), (109 : Int32)] = [(.int (47 : Int32)), (.int (97 : Int32)), (.int (112 : Int32)), (.int (105 : Int32)), (.int (47 : Int32)), (.int (118 : Int32)), (.int (50 : Int32)), (.int (47 : Int32)), (.int (118 : Int32)), (.int (109 : Int32))] from by decide +kernel]; exact A45), (by decide +kernel : ∀ x ∈ ([(47 : Int32), (97 : Int32), (112 : Int32), (105 : Int32), (47 : Int32), (118 : Int32), (50 : Int32), (47 : Int32), (118 : Int32), (109 : Int32)] : List Int32), ¬ x < 0 ∧ ¬ (255 : Int32) < x)⟩
      refine Go.virtual (pc' := 403) W37 (rm_eqs G a1 a38 b3 b39 c2 c40 c4 c41 [] [(47 : Int32), (97 : Int32), (112 : Int32), (105 : Int32), (47 : Int32), (118 : Int32), (50 : Int32), (47 : Int32), (118 : Int32), (109 : Int32)] S5 S46) (Or.inr (Or.inl (List.mem_of_getElem? (i := 6) rfl))) S5.1 (w_38 G) (w_39 G) (w_41 G) (w_40 G) (w_8 G) (w_42 G) (by decide) [] [6, 7, 0, 1] (σf := []) rfl rfl [(.ref a38)] [] rfl (lenOf pd_14 rfl) rfl rfl d_code_400 rfl (by first | exact Nat.le_of_ble_eq_true rfl | (simp; done) | (simp; omega) | omega) (by first | exact Nat.le_of_ble_eq_true rfl | (simp; done) | (simp; omega) | omega) (by first | exact Nat.le_of_ble_eq_true rfl | (simp; done) | (simp; omega) | omega) (by first | exact Nat.le_of_ble_eq_true rfl | (simp; done) | (simp; omega) | omega) ?_
      rintro _ _ _ T47 ⟨rfl, rfl, rfl⟩ W48
      replace W48 : Wk l Z EL1 ({ frames := 8, cells := 32, slots := 4288, locals := 192 } : Room) "com/example/upfront_quote/upfrontquote/ProductLineServedOnPinLaw" code 15 (some .boolean) "law" X [] [(a38, c40), (b39, c41), (a24, c26), (b25, c27), (a10, c12), (b11, c13), (a1, c2), (b3, c4)] T47 13 (164) := W48
      show Go Z EL1 _ _ _ X T47 403 #[.val (.int sel), .val (.int pos), .val (.int chi), .val (.int ext), .val (.int mode), .val (.int sk), .val (.int va), .val (.int vb), .val (.ref ac), .val (.int nat), .val (.int mm), .val (.int (0 : Int32)), .val (.ref a1), .val (.null), .unset] [(.int (if ([] : List Int32) = [(47 : Int32), (97 : Int32), (112 : Int32), (105 : Int32), (47 : Int32), (118 : Int32), (50 : Int32), (47 : Int32), (118 : Int32), (109 : Int32)] then 1 else 0))]
      refine Go.if_eq (pc' := 406) W48 411 d_code_403 (by decide) rfl (fun (c49 : (if ([] : List Int32) = [(47 : Int32), (97 : Int32), (112 : Int32), (105 : Int32), (47 : Int32), (118 : Int32), (50 : Int32), (47 : Int32), (118 : Int32), (109 : Int32)] then 1 else 0) = 0) => ?_) (fun (c49 : ¬ ((if ([] : List Int32) = [(47 : Int32), (97 : Int32), (112 : Int32), (105 : Int32), (47 : Int32), (118 : Int32), (50 : Int32), (47 : Int32), (118 : Int32), (109 : Int32)] then 1 else 0) = 0)) => ?_)
      · refine Go.aload (pc' := 413) W48 d_code_411 rfl rfl rfl ?_
        refine Go.static (pc' := 416) W48 (rm_srv G adA adB adC adD adE adF adG adH adI adJ ceA ceB ceC ceD ceE ceF ceG ceH ceI ceJ hzA obA fdA hzB obB arA hzC obC fdC hzD obD fdE hzE slA hzF hzG slB hzH hzI slC hzJ stA stB stC stD em cem hzem obem fdem stem a1 b3 c2 c4 [] S5) (w_51 G) (w_52 G) (w_49 G) (w_53 G) (by decide) [] [6, 7] (σf := []) rfl rfl [(.ref a1)] [] rfl (lenOf pd_20 rfl) rfl rfl d_code_413 rfl (by first | exact Nat.le_of_ble_eq_true rfl | (simp; done) | (simp; omega) | omega) (by first | exact Nat.le_of_ble_eq_true rfl | (simp; done) | (simp; omega) | omega) (by first | exact Nat.le_of_ble_eq_true rfl | (simp; done) | (simp; omega) | omega) (by first | exact Nat.le_of_ble_eq_true rfl | (simp; done) | (simp; omega) | omega) ?_
        rintro _ _ _ T54 ⟨a50, c51, rfl, rfl, rfl, O52, F53⟩ W55
        replace W55 : Wk l Z EL1 ({ frames := 8, cells := 32, slots := 4288, locals := 192 } : Room) "com/example/upfront_quote/upfrontquote/ProductLineServedOnPinLaw" code 15 (some .boolean) "law" X [] [(a50, c51), (a38, c40), (b39, c41), (a24, c26), (b25, c27), (a10, c12), (b11, c13), (a1, c2), (b3, c4)] T54 15 (168) := W55
        show Go Z EL1 _ _ _ X T54 416 #[.val (.int sel), .val (.int pos), .val (.int chi), .val (.int ext), .val (.int mode), .val (.int sk), .val (.int va), .val (.int vb), .val (.ref ac), .val (.int nat), .val (.int mm), .val (.int (0 : Int32)), .val (.ref a1), .val (.null), .unset] [(.ref a50)]
        rw [fsn, if_neg (ite10_z.mp c21), if_neg (ite10_z.mp c35), if_neg (ite10_z.mp c49)] at F53
        refine Go.astore (pc' := 418) W55 #[.val (.int sel), .val (.int pos), .val (.int chi), .val (.int ext), .val (.int mode), .val (.int sk), .val (.int va), .val (.int vb), .val (.ref ac), .val (.int nat), .val (.int mm), .val (.int (0 : Int32)), .val (.ref a1), .val (.null), .val (.ref a50)] d_code_416 rfl rfl rfl ?_
        refine Go.aload (pc' := 420) W55 d_code_418 rfl rfl rfl ?_
        refine Go.ifnonnull_no (pc' := 423) W55 d_code_420 rfl ?_
        refine Go.aload (pc' := 425) W55 d_code_423 rfl rfl rfl ?_
        refine Go.virtual (pc' := 428) W55 (rm_isp_z G a50 c51 F53) (Or.inr (Or.inl (List.mem_of_getElem? (i := 0) rfl))) O52 (w_91 G) (w_92 G) (w_94 G) (w_93 G) (w_76 G) (w_95 G) (by decide) [] [0] (σf := []) rfl rfl [] [] rfl (lenOf pd_21 rfl) rfl rfl d_code_425 rfl (by first | exact Nat.le_of_ble_eq_true rfl | (simp; done) | (simp; omega) | omega) (by first | exact Nat.le_of_ble_eq_true rfl | (simp; done) | (simp; omega) | omega) (by first | exact Nat.le_of_ble_eq_true rfl | (simp; done) | (simp; omega) | omega) (by first | exact Nat.le_of_ble_eq_true rfl | (simp; done) | (simp; omega) | omega) ?_
        rintro _ _ _ T56 ⟨rfl, rfl, rfl⟩ W57
        replace W57 : Wk l Z EL1 ({ frames := 8, cells := 32, slots := 4288, locals := 192 } : Room) "com/example/upfront_quote/upfrontquote/ProductLineServedOnPinLaw" code 15 (some .boolean) "law" X [] [(a50, c51), (a38, c40), (b39, c41), (a24, c26), (b25, c27), (a10, c12), (b11, c13), (a1, c2), (b3, c4)] T56 15 (168) := W57
        show Go Z EL1 _ _ _ X T56 428 #[.val (.int sel), .val (.int pos), .val (.int chi), .val (.int ext), .val (.int mode), .val (.int sk), .val (.int va), .val (.int vb), .val (.ref ac), .val (.int nat), .val (.int mm), .val (.int (0 : Int32)), .val (.ref a1), .val (.null), .val (.ref a50)] [(.int (0 : Int32))]
        refine Go.if_ne (pc' := 431) W57 435 d_code_428 (by decide) rfl (fun q => absurd (by decide) q) (fun _ => ?_)
        refine Go.iconst (pc' := 432) W57 (1 : Int32) d_code_431 (by decide) rfl ?_
        refine Go.goto W57 436 d_code_432 (by decide) ?_
        refine Go.nret (z' := (1 : Int32)) W57 (by simp) (by decide) d_code_436 (by first | exact Nat.le_of_ble_eq_true rfl | (simp; done) | (simp; omega) | omega) (by first | exact Nat.le_of_ble_eq_true rfl | (simp; done) | (simp; omega) | omega) ?_
        rfl
      · refine Go.getstatic (pc' := 409) W48 (w_108 G) Via.refl stD d_code_406 rfl (fun T58 W59 => ?_)
        refine Go.astore (pc' := 411) W59 #[.val (.int sel), .val (.int pos), .val (.int chi), .val (.int ext), .val (.int mode), .val (.int sk), .val (.int va), .val (.int vb), .val (.ref ac), .val (.int nat), .val (.int mm), .val (.int (0 : Int32)), .val (.ref a1), .val (.ref adD), .unset] d_code_409 rfl rfl rfl ?_
        refine Go.aload (pc' := 413) W59 d_code_411 rfl rfl rfl ?_
        refine Go.static (pc' := 416) W59 (rm_srv G adA adB adC adD adE adF adG adH adI adJ ceA ceB ceC ceD ceE ceF ceG ceH ceI ceJ hzA obA fdA hzB obB arA hzC obC fdC hzD obD fdE hzE slA hzF hzG slB hzH hzI slC hzJ stA stB stC stD em cem hzem obem fdem stem a1 b3 c2 c4 [] S5) (w_51 G) (w_52 G) (w_49 G) (w_53 G) (by decide) [] [6, 7] (σf := []) rfl rfl [(.ref a1)] [] rfl (lenOf pd_20 rfl) rfl rfl d_code_413 rfl (by first | exact Nat.le_of_ble_eq_true rfl | (simp; done) | (simp; omega) | omega) (by first | exact Nat.le_of_ble_eq_true rfl | (simp; done) | (simp; omega) | omega) (by first | exact Nat.le_of_ble_eq_true rfl | (simp; done) | (simp; omega) | omega) (by first | exact Nat.le_of_ble_eq_true rfl | (simp; done) | (simp; omega) | omega) ?_
        rintro _ _ _ T64 ⟨a60, c61, rfl, rfl, rfl, O62, F63⟩ W65
        replace W65 : Wk l Z EL1 ({ frames := 8, cells := 32, slots := 4288, locals := 192 } : Room) "com/example/upfront_quote/upfrontquote/ProductLineServedOnPinLaw" code 15 (some .boolean) "law" X [] [(a60, c61), (a38, c40), (b39, c41), (a24, c26), (b25, c27), (a10, c12), (b11, c13), (a1, c2), (b3, c4)] T64 15 (168) := W65
        show Go Z EL1 _ _ _ X T64 416 #[.val (.int sel), .val (.int pos), .val (.int chi), .val (.int ext), .val (.int mode), .val (.int sk), .val (.int va), .val (.int vb), .val (.ref ac), .val (.int nat), .val (.int mm), .val (.int (0 : Int32)), .val (.ref a1), .val (.ref adD), .unset] [(.ref a60)]
        rw [fsn, if_neg (ite10_z.mp c21), if_neg (ite10_z.mp c35), if_pos (Classical.not_not.mp (fun e => c49 (ite10_z.mpr e)))] at F63
        refine Go.astore (pc' := 418) W65 #[.val (.int sel), .val (.int pos), .val (.int chi), .val (.int ext), .val (.int mode), .val (.int sk), .val (.int va), .val (.int vb), .val (.ref ac), .val (.int nat), .val (.int mm), .val (.int (0 : Int32)), .val (.ref a1), .val (.ref adD), .val (.ref a60)] d_code_416 rfl rfl rfl ?_
        refine Go.aload (pc' := 420) W65 d_code_418 rfl rfl rfl ?_
        refine Go.ifnonnull_yes W65 437 d_code_420 (by decide) ?_
        refine Go.aload (pc' := 439) W65 d_code_437 rfl rfl rfl ?_
        refine Go.virtual (pc' := 442) W65 (rm_isp_o G a60 adD c61 F63) (Or.inr (Or.inl (List.mem_of_getElem? (i := 0) rfl))) O62 (w_91 G) (w_92 G) (w_94 G) (w_93 G) (w_76 G) (w_95 G) (by decide) [] [0] (σf := []) rfl rfl [] [] rfl (lenOf pd_21 rfl) rfl rfl d_code_439 rfl (by first | exact Nat.le_of_ble_eq_true rfl | (simp; done) | (simp; omega) | omega) (by first | exact Nat.le_of_ble_eq_true rfl | (simp; done) | (simp; omega) | omega) (by first | exact Nat.le_of_ble_eq_true rfl | (simp; done) | (simp; omega) | omega) (by first | exact Nat.le_of_ble_eq_true rfl | (simp; done) | (simp; omega) | omega) ?_
        rintro _ _ _ T66 ⟨rfl, rfl, rfl⟩ W67
        replace W67 : Wk l Z EL1 ({ frames := 8, cells := 32, slots := 4288, locals := 192 } : Room) "com/example/upfront_quote/upfrontquote/ProductLineServedOnPinLaw" code 15 (some .boolean) "law" X [] [(a60, c61), (a38, c40), (b39, c41), (a24, c26), (b25, c27), (a10, c12), (b11, c13), (a1, c2), (b3, c4)] T66 15 (168) := W67
        show Go Z EL1 _ _ _ X T66 442 #[.val (.int sel), .val (.int pos), .val (.int chi), .val (.int ext), .val (.int mode), .val (.int sk), .val (.int va), .val (.int vb), .val (.ref ac), .val (.int nat), .val (.int mm), .val (.int (0 : Int32)), .val (.ref a1), .val (.ref adD), .val (.ref a60)] [(.int (1 : Int32))]
        refine Go.if_eq (pc' := 445) W67 459 d_code_442 (by decide) rfl (fun q => absurd q (by decide)) (fun _ => ?_)
        refine Go.aload (pc' := 447) W67 d_code_445 rfl rfl rfl ?_
        refine Go.virtual (pc' := 450) W67 (rm_get_o G a60 adD c61 F63) (Or.inr (Or.inl (List.mem_of_getElem? (i := 0) rfl))) O62 (w_96 G) (w_97 G) (w_99 G) (w_98 G) (w_76 G) (w_100 G) (by decide) [] [0] (σf := []) rfl rfl [] [] rfl (lenOf pd_22 rfl) rfl rfl d_code_447 rfl (by first | exact Nat.le_of_ble_eq_true rfl | (simp; done) | (simp; omega) | omega) (by first | exact Nat.le_of_ble_eq_true rfl | (simp; done) | (simp; omega) | omega) (by first | exact Nat.le_of_ble_eq_true rfl | (simp; done) | (simp; omega) | omega) (by first | exact Nat.le_of_ble_eq_true rfl | (simp; done) | (simp; omega) | omega) ?_
        rintro _ _ _ T68 ⟨rfl, rfl, rfl⟩ W69
        replace W69 : Wk l Z EL1 ({ frames := 8, cells := 32, slots := 4288, locals := 192 } : Room) "com/example/upfront_quote/upfrontquote/ProductLineServedOnPinLaw" code 15 (some .boolean) "law" X [] [(a60, c61), (a38, c40), (b39, c41), (a24, c26), (b25, c27), (a10, c12), (b11, c13), (a1, c2), (b3, c4)] T68 15 (168) := W69
        show Go Z EL1 _ _ _ X T68 450 #[.val (.int sel), .val (.int pos), .val (.int chi), .val (.int ext), .val (.int mode), .val (.int sk), .val (.int va), .val (.int vb), .val (.ref ac), .val (.int nat), .val (.int mm), .val (.int (0 : Int32)), .val (.ref a1), .val (.ref adD), .val (.ref a60)] [(.ref adD)]
        refine Go.aload (pc' := 452) W69 d_code_450 rfl rfl rfl ?_
        refine Go.acmp_ne (pc' := 455) W69 459 rfl rfl d_code_452 (by decide) rfl (fun hq => absurd rfl hq) (fun _ => ?_)
        refine Go.iconst (pc' := 456) W69 (1 : Int32) d_code_455 (by decide) rfl ?_
        refine Go.goto W69 460 d_code_456 (by decide) ?_
        refine Go.nret (z' := (1 : Int32)) W69 (by simp) (by decide) d_code_460 (by first | exact Nat.le_of_ble_eq_true rfl | (simp; done) | (simp; omega) | omega) (by first | exact Nat.le_of_ble_eq_true rfl | (simp; done) | (simp; omega) | omega) ?_
        rfl
    · refine Go.getstatic (pc' := 391) W34 (w_109 G) Via.refl stC d_code_388 rfl (fun T70 W71 => ?_)
      refine Go.astore (pc' := 393) W71 #[.val (.int sel), .val (.int pos), .val (.int chi), .val (.int ext), .val (.int mode), .val (.int sk), .val (.int va), .val (.int vb), .val (.ref ac), .val (.int nat), .val (.int mm), .val (.int (0 : Int32)), .val (.ref a1), .val (.ref adC), .unset] d_code_391 rfl rfl rfl ?_
      refine Go.goto W71 411 d_code_393 (by decide) ?_
      refine Go.aload (pc' := 413) W71 d_code_411 rfl rfl rfl ?_
      refine Go.static (pc' := 416) W71 (rm_srv G adA adB adC adD adE adF adG adH adI adJ ceA ceB ceC ceD ceE ceF ceG ceH ceI ceJ hzA obA fdA hzB obB arA hzC obC fdC hzD obD fdE hzE slA hzF hzG slB hzH hzI slC hzJ stA stB stC stD em cem hzem obem fdem stem a1 b3 c2 c4 [] S5) (w_51 G) (w_52 G) (w_49 G) (w_53 G) (by decide) [] [4, 5] (σf := []) rfl rfl [(.ref a1)] [] rfl (lenOf pd_20 rfl) rfl rfl d_code_413 rfl (by first | exact Nat.le_of_ble_eq_true rfl | (simp; done) | (simp; omega) | omega) (by first | exact Nat.le_of_ble_eq_true rfl | (simp; done) | (simp; omega) | omega) (by first | exact Nat.le_of_ble_eq_true rfl | (simp; done) | (simp; omega) | omega) (by first | exact Nat.le_of_ble_eq_true rfl | (simp; done) | (simp; omega) | omega) ?_
      rintro _ _ _ T76 ⟨a72, c73, rfl, rfl, rfl, O74, F75⟩ W77
      replace W77 : Wk l Z EL1 ({ frames := 8, cells := 32, slots := 4288, locals := 192 } : Room) "com/example/upfront_quote/upfrontquote/ProductLineServedOnPinLaw" code 15 (some .boolean) "law" X [] [(a72, c73), (a24, c26), (b25, c27), (a10, c12), (b11, c13), (a1, c2), (b3, c4)] T76 13 (124) := W77
      show Go Z EL1 _ _ _ X T76 416 #[.val (.int sel), .val (.int pos), .val (.int chi), .val (.int ext), .val (.int mode), .val (.int sk), .val (.int va), .val (.int vb), .val (.ref ac), .val (.int nat), .val (.int mm), .val (.int (0 : Int32)), .val (.ref a1), .val (.ref adC), .unset] [(.ref a72)]
      rw [fsn, if_neg (ite10_z.mp c21), if_pos (Classical.not_not.mp (fun e => c35 (ite10_z.mpr e)))] at F75
      refine Go.astore (pc' := 418) W77 #[.val (.int sel), .val (.int pos), .val (.int chi), .val (.int ext), .val (.int mode), .val (.int sk), .val (.int va), .val (.int vb), .val (.ref ac), .val (.int nat), .val (.int mm), .val (.int (0 : Int32)), .val (.ref a1), .val (.ref adC), .val (.ref a72)] d_code_416 rfl rfl rfl ?_
      refine Go.aload (pc' := 420) W77 d_code_418 rfl rfl rfl ?_
      refine Go.ifnonnull_yes W77 437 d_code_420 (by decide) ?_
      refine Go.aload (pc' := 439) W77 d_code_437 rfl rfl rfl ?_
      refine Go.virtual (pc' := 442) W77 (rm_isp_o G a72 adC c73 F75) (Or.inr (Or.inl (List.mem_of_getElem? (i := 0) rfl))) O74 (w_91 G) (w_92 G) (w_94 G) (w_93 G) (w_76 G) (w_95 G) (by decide) [] [0] (σf := []) rfl rfl [] [] rfl (lenOf pd_21 rfl) rfl rfl d_code_439 rfl (by first | exact Nat.le_of_ble_eq_true rfl | (simp; done) | (simp; omega) | omega) (by first | exact Nat.le_of_ble_eq_true rfl | (simp; done) | (simp; omega) | omega) (by first | exact Nat.le_of_ble_eq_true rfl | (simp; done) | (simp; omega) | omega) (by first | exact Nat.le_of_ble_eq_true rfl | (simp; done) | (simp; omega) | omega) ?_
      rintro _ _ _ T78 ⟨rfl, rfl, rfl⟩ W79
      replace W79 : Wk l Z EL1 ({ frames := 8, cells := 32, slots := 4288, locals := 192 } : Room) "com/example/upfront_quote/upfrontquote/ProductLineServedOnPinLaw" code 15 (some .boolean) "law" X [] [(a72, c73), (a24, c26), (b25, c27), (a10, c12), (b11, c13), (a1, c2), (b3, c4)] T78 13 (124) := W79
      show Go Z EL1 _ _ _ X T78 442 #[.val (.int sel), .val (.int pos), .val (.int chi), .val (.int ext), .val (.int mode), .val (.int sk), .val (.int va), .val (.int vb), .val (.ref ac), .val (.int nat), .val (.int mm), .val (.int (0 : Int32)), .val (.ref a1), .val (.ref adC), .val (.ref a72)] [(.int (1 : Int32))]
      refine Go.if_eq (pc' := 445) W79 459 d_code_442 (by decide) rfl (fun q => absurd q (by decide)) (fun _ => ?_)
      refine Go.aload (pc' := 447) W79 d_code_445 rfl rfl rfl ?_
      refine Go.virtual (pc' := 450) W79 (rm_get_o G a72 adC c73 F75) (Or.inr (Or.inl (List.mem_of_getElem? (i := 0) rfl))) O74 (w_96 G) (w_97 G) (w_99 G) (w_98 G) (w_76 G) (w_100 G) (by decide) [] [0] (σf := []) rfl rfl [] [] rfl (lenOf pd_22 rfl) rfl rfl d_code_447 rfl (by first | exact Nat.le_of_ble_eq_true rfl | (simp; done) | (simp; omega) | omega) (by first | exact Nat.le_of_ble_eq_true rfl | (simp; done) | (simp; omega) | omega) (by first | exact Nat.le_of_ble_eq_true rfl | (simp; done) | (simp; omega) | omega) (by first | exact Nat.le_of_ble_eq_true rfl | (simp; done) | (simp; omega) | omega) ?_
      rintro _ _ _ T80 ⟨rfl, rfl, rfl⟩ W81
      replace W81 : Wk l Z EL1 ({ frames := 8, cells := 32, slots := 4288, locals := 192 } : Room) "com/example/upfront_quote/upfrontquote/ProductLineServedOnPinLaw" code 15 (some .boolean) "law" X [] [(a72, c73), (a24, c26), (b25, c27), (a10, c12), (b11, c13), (a1, c2), (b3, c4)] T80 13 (124) := W81
      show Go Z EL1 _ _ _ X T80 450 #[.val (.int sel), .val (.int pos), .val (.int chi), .val (.int ext), .val (.int mode), .val (.int sk), .val (.int va), .val (.int vb), .val (.ref ac), .val (.int nat), .val (.int mm), .val (.int (0 : Int32)), .val (.ref a1), .val (.ref adC), .val (.ref a72)] [(.ref adC)]
      refine Go.aload (pc' := 452) W81 d_code_450 rfl rfl rfl ?_
      refine Go.acmp_ne (pc' := 455) W81 459 rfl rfl d_code_452 (by decide) rfl (fun hq => absurd rfl hq) (fun _ => ?_)
      refine Go.iconst (pc' := 456) W81 (1 : Int32) d_code_455 (by decide) rfl ?_
      refine Go.goto W81 460 d_code_456 (by decide) ?_
      refine Go.nret (z' := (1 : Int32)) W81 (by simp) (by decide) d_code_460 (by first | exact Nat.le_of_ble_eq_true rfl | (simp; done) | (simp; omega) | omega) (by first | exact Nat.le_of_ble_eq_true rfl | (simp; done) | (simp; omega) | omega) ?_
      rfl
  · refine Go.getstatic (pc' := 373) W20 (w_48 G) Via.refl stA d_code_370 rfl (fun T82 W83 => ?_)
    refine Go.astore (pc' := 375) W83 #[.val (.int sel), .val (.int pos), .val (.int chi), .val (.int ext), .val (.int mode), .val (.int sk), .val (.int va), .val (.int vb), .val (.ref ac), .val (.int nat), .val (.int mm), .val (.int (0 : Int32)), .val (.ref a1), .val (.ref adA), .unset] d_code_373 rfl rfl rfl ?_
    refine Go.goto W83 411 d_code_375 (by decide) ?_
    refine Go.aload (pc' := 413) W83 d_code_411 rfl rfl rfl ?_
    refine Go.static (pc' := 416) W83 (rm_srv G adA adB adC adD adE adF adG adH adI adJ ceA ceB ceC ceD ceE ceF ceG ceH ceI ceJ hzA obA fdA hzB obB arA hzC obC fdC hzD obD fdE hzE slA hzF hzG slB hzH hzI slC hzJ stA stB stC stD em cem hzem obem fdem stem a1 b3 c2 c4 [] S5) (w_51 G) (w_52 G) (w_49 G) (w_53 G) (by decide) [] [2, 3] (σf := []) rfl rfl [(.ref a1)] [] rfl (lenOf pd_20 rfl) rfl rfl d_code_413 rfl (by first | exact Nat.le_of_ble_eq_true rfl | (simp; done) | (simp; omega) | omega) (by first | exact Nat.le_of_ble_eq_true rfl | (simp; done) | (simp; omega) | omega) (by first | exact Nat.le_of_ble_eq_true rfl | (simp; done) | (simp; omega) | omega) (by first | exact Nat.le_of_ble_eq_true rfl | (simp; done) | (simp; omega) | omega) ?_
    rintro _ _ _ T88 ⟨a84, c85, rfl, rfl, rfl, O86, F87⟩ W89
    replace W89 : Wk l Z EL1 ({ frames := 8, cells := 32, slots := 4288, locals := 192 } : Room) "com/example/upfront_quote/upfrontquote/ProductLineServedOnPinLaw" code 15 (some .boolean) "law" X [] [(a84, c85), (a10, c12), (b11, c13), (a1, c2), (b3, c4)] T88 11 (76) := W89
    show Go Z EL1 _ _ _ X T88 416 #[.val (.int sel), .val (.int pos), .val (.int chi), .val (.int ext), .val (.int mode), .val (.int sk), .val (.int va), .val (.int vb), .val (.ref ac), .val (.int nat), .val (.int mm), .val (.int (0 : Int32)), .val (.ref a1), .val (.ref adA), .unset] [(.ref a84)]
    rw [fsn, if_pos (Classical.not_not.mp (fun e => c21 (ite10_z.mpr e)))] at F87
    refine Go.astore (pc' := 418) W89 #[.val (.int sel), .val (.int pos), .val (.int chi), .val (.int ext), .val (.int mode), .val (.int sk), .val (.int va), .val (.int vb), .val (.ref ac), .val (.int nat), .val (.int mm), .val (.int (0 : Int32)), .val (.ref a1), .val (.ref adA), .val (.ref a84)] d_code_416 rfl rfl rfl ?_
    refine Go.aload (pc' := 420) W89 d_code_418 rfl rfl rfl ?_
    refine Go.ifnonnull_yes W89 437 d_code_420 (by decide) ?_
    refine Go.aload (pc' := 439) W89 d_code_437 rfl rfl rfl ?_
    refine Go.virtual (pc' := 442) W89 (rm_isp_o G a84 adA c85 F87) (Or.inr (Or.inl (List.mem_of_getElem? (i := 0) rfl))) O86 (w_91 G) (w_92 G) (w_94 G) (w_93 G) (w_76 G) (w_95 G) (by decide) [] [0] (σf := []) rfl rfl [] [] rfl (lenOf pd_21 rfl) rfl rfl d_code_439 rfl (by first | exact Nat.le_of_ble_eq_true rfl | (simp; done) | (simp; omega) | omega) (by first | exact Nat.le_of_ble_eq_true rfl | (simp; done) | (simp; omega) | omega) (by first | exact Nat.le_of_ble_eq_true rfl | (simp; done) | (simp; omega) | omega) (by first | exact Nat.le_of_ble_eq_true rfl | (simp; done) | (simp; omega) | omega) ?_
    rintro _ _ _ T90 ⟨rfl, rfl, rfl⟩ W91
    replace W91 : Wk l Z EL1 ({ frames := 8, cells := 32, slots := 4288, locals := 192 } : Room) "com/example/upfront_quote/upfrontquote/ProductLineServedOnPinLaw" code 15 (some .boolean) "law" X [] [(a84, c85), (a10, c12), (b11, c13), (a1, c2), (b3, c4)] T90 11 (76) := W91
    show Go Z EL1 _ _ _ X T90 442 #[.val (.int sel), .val (.int pos), .val (.int chi), .val (.int ext), .val (.int mode), .val (.int sk), .val (.int va), .val (.int vb), .val (.ref ac), .val (.int nat), .val (.int mm), .val (.int (0 : Int32)), .val (.ref a1), .val (.ref adA), .val (.ref a84)] [(.int (1 : Int32))]
    refine Go.if_eq (pc' := 445) W91 459 d_code_442 (by decide) rfl (fun q => absurd q (by decide)) (fun _ => ?_)
    refine Go.aload (pc' := 447) W91 d_code_445 rfl rfl rfl ?_
    refine Go.virtual (pc' := 450) W91 (rm_get_o G a84 adA c85 F87) (Or.inr (Or.inl (List.mem_of_getElem? (i := 0) rfl))) O86 (w_96 G) (w_97 G) (w_99 G) (w_98 G) (w_76 G) (w_100 G) (by decide) [] [0] (σf := []) rfl rfl [] [] rfl (lenOf pd_22 rfl) rfl rfl d_code_447 rfl (by first | exact Nat.le_of_ble_eq_true rfl | (simp; done) | (simp; omega) | omega) (by first | exact Nat.le_of_ble_eq_true rfl | (simp; done) | (simp; omega) | omega) (by first | exact Nat.le_of_ble_eq_true rfl | (simp; done) | (simp; omega) | omega) (by first | exact Nat.le_of_ble_eq_true rfl | (simp; done) | (simp; omega) | omega) ?_
    rintro _ _ _ T92 ⟨rfl, rfl, rfl⟩ W93
    replace W93 : Wk l Z EL1 ({ frames := 8, cells := 32, slots := 4288, locals := 192 } : Room) "com/example/upfront_quote/upfrontquote/ProductLineServedOnPinLaw" code 15 (some .boolean) "law" X [] [(a84, c85), (a10, c12), (b11, c13), (a1, c2), (b3, c4)] T92 11 (76) := W93
    show Go Z EL1 _ _ _ X T92 450 #[.val (.int sel), .val (.int pos), .val (.int chi), .val (.int ext), .val (.int mode), .val (.int sk), .val (.int va), .val (.int vb), .val (.ref ac), .val (.int nat), .val (.int mm), .val (.int (0 : Int32)), .val (.ref a1), .val (.ref adA), .val (.ref a84)] [(.ref adA)]
    refine Go.aload (pc' := 452) W93 d_code_450 rfl rfl rfl ?_
    refine Go.acmp_ne (pc' := 455) W93 459 rfl rfl d_code_452 (by decide) rfl (fun hq => absurd rfl hq) (fun _ => ?_)
    refine Go.iconst (pc' := 456) W93 (1 : Int32) d_code_455 (by decide) rfl ?_
    refine Go.goto W93 460 d_code_456 (by decide) ?_
    refine Go.nret (z' := (1 : Int32)) W93 (by simp) (by decide) d_code_460 (by first | exact Nat.le_of_ble_eq_true rfl | (simp; done) | (simp; omega) | omega) (by first | exact Nat.le_of_ble_eq_true rfl | (simp; done) | (simp; omega) | omega) ?_
    rfl
set_option maxRecDepth 65536 in
set_option maxHeartbeats 40000000 in
theorem rm_tail_J {l : Launch} {Z : State} {a0 : Array Value} (G : Cl Z a0) (sel pos chi ext mode : Int32) (sk va vb nat mm : Int32) (adA : Addr) (adB : Addr) (adC : Addr) (adD : Addr) (adE : Addr) (adF : Addr) (adG : Addr) (adH : Addr) (adI : Addr) (adJ : Addr) (ceA : Cell) (ceB : Cell) (ceC : Cell) (ceD : Cell) (ceE : Cell) (ceF : Cell) (ceG : Cell) (ceH : Cell) (ceI : Cell) (ceJ : Cell) (hzA : Z.heap[adA]? = some ceA) (obA : ObjC Z ceA "com/example/upfront_quote/upfrontquote/ProductLine") (fdA : FldC Z ceA "com/example/upfront_quote/upfrontquote/ProductLine" "path" "Ljava/lang/String;" (.ref adE)) (hzB : Z.heap[adB]? = some ceB) (obB : ObjC Z ceB "[Lcom/example/upfront_quote/upfrontquote/ProductLine;") (arA : ArrC Z ceB (.object "com/example/upfront_quote/upfrontquote/ProductLine") [(.ref adA), (.ref adC), (.ref adD)]) (hzC : Z.heap[adC]? = some ceC) (obC : ObjC Z ceC "com/example/upfront_quote/upfrontquote/ProductLine") (fdC : FldC Z ceC "com/example/upfront_quote/upfrontquote/ProductLine" "path" "Ljava/lang/String;" (.ref adG)) (hzD : Z.heap[adD]? = some ceD) (obD : ObjC Z ceD "com/example/upfront_quote/upfrontquote/ProductLine") (fdE : FldC Z ceD "com/example/upfront_quote/upfrontquote/ProductLine" "path" "Ljava/lang/String;" (.ref adI)) (hzE : Z.heap[adE]? = some ceE) (slA : StrL Z ceE adF ceF [(47 : Int32), (97 : Int32), (112 : Int32), (105 : Int32), (47 : Int32), (118 : Int32), (50 : Int32), (47 : Int32), (98 : Int32), (109 : Int32), (99 : Int32)]) (hzF : Z.heap[adF]? = some ceF) (hzG : Z.heap[adG]? = some ceG) (slB : StrL Z ceG adH ceH [(47 : Int32), (97 : Int32), (112 : Int32), (105 : Int32), (47 : Int32), (118 : Int32), (50 : Int32), (47 : Int32), (122 : Int32), (101 : Int32), (99 : Int32)]) (hzH : Z.heap[adH]? = some ceH) (hzI : Z.heap[adI]? = some ceI) (slC : StrL Z ceI adJ ceJ [(47 : Int32), (97 : Int32), (112 : Int32), (105 : Int32), (47 : Int32), (118 : Int32), (50 : Int32), (47 : Int32), (118 : Int32), (109 : Int32)]) (hzJ : Z.heap[adJ]? = some ceJ) (stA : Sta Z Z.heap "com/example/upfront_quote/upfrontquote/ProductLine" "BMC" "Lcom/example/upfront_quote/upfrontquote/ProductLine;" (.ref adA)) (stB : Sta Z Z.heap "com/example/upfront_quote/upfrontquote/ProductLine" "$VALUES" "[Lcom/example/upfront_quote/upfrontquote/ProductLine;" (.ref adB)) (stC : Sta Z Z.heap "com/example/upfront_quote/upfrontquote/ProductLine" "ZEC" "Lcom/example/upfront_quote/upfrontquote/ProductLine;" (.ref adC)) (stD : Sta Z Z.heap "com/example/upfront_quote/upfrontquote/ProductLine" "VM" "Lcom/example/upfront_quote/upfrontquote/ProductLine;" (.ref adD)) (em : Addr) (cem : Cell) (hzem : Z.heap[em]? = some cem) (obem : ObjC Z cem "java/util/Optional") (fdem : FldC Z cem "java/util/Optional" "value" "Ljava/lang/Object;" .null) (stem : Sta Z Z.heap "java/util/Optional" "EMPTY" "Ljava/util/Optional;" (.ref em)) (ac : Addr) (cc : Cell) (xa xb xc xd xe xf xg xh xi xj xk xl : Int32) (hL : Lat [xa, xb, xc, xd, xe, xf, xg, xh, xi, xj, xk, xl]) (A : ArrC Z cc .char [(.int xa), (.int xb), (.int xc), (.int xd), (.int xe), (.int xf), (.int xg), (.int xh), (.int xi), (.int xj), (.int xk), (.int xl)]) {X : Ctx} {T0 : State} (W0 : Wk l Z EL1 ({ frames := 8, cells := 32, slots := 4288, locals := 192 } : Room) "com/example/upfront_quote/upfrontquote/ProductLineServedOnPinLaw" code 15 (some .boolean) "law" X [(ac, cc)] [] T0 1 (12)) :
    Go Z EL1 32 4288 (fun v _ _ => v = some (.int 1)) X T0 348 #[.val (.int sel), .val (.int pos), .val (.int chi), .val (.int ext), .val (.int mode), .val (.int sk), .val (.int va), .val (.int vb), .val (.ref ac), .val (.int nat), .val (.int mm), .val (.int (9 : Int32)), .unset, .unset, .unset] [] := by
  refine Go.aload (pc' := 350) W0 d_code_348 rfl rfl rfl ?_
  refine Go.iload (pc' := 352) W0 d_code_350 rfl rfl ?_
  refine Go.static (pc' := 355) W0 (rm_cut_J G ac cc xa xb xc xd xe xf xg xh xi xj xk xl hL A) (w_2 G) (w_3 G) (w_4 G) (w_5 G) (by decide) [0] [] (σf := []) rfl rfl [(.ref ac), (.int (9 : Int32))] [] rfl (lenOf pd_19 rfl) rfl rfl d_code_352 rfl (by first | exact Nat.le_of_ble_eq_true rfl | (simp; done) | (simp; omega) | omega) (by first | exact Nat.le_of_ble_eq_true rfl | (simp; done) | (simp; omega) | omega) (by first | exact Nat.le_of_ble_eq_true rfl | (simp; done) | (simp; omega) | omega) (by first | exact Nat.le_of_ble_eq_true rfl | (simp; done) | (simp; omega) | omega) ?_
  rintro _ _ _ T6 ⟨a1, c2, b3, c4, rfl, rfl, rfl, S5⟩ W7
  replace W7 : Wk l Z EL1 ({ frames := 8, cells := 32, slots := 4288, locals := 192 } : Room) "com/example/upfront_quote/upfrontquote/ProductLineServedOnPinLaw" code 15 (some .boolean) "law" X [] [(a1, c2), (b3, c4)] T6 4 (34) := W7
  show Go Z EL1 _ _ _ X T6 355 #[.val (.int sel), .val (.int pos), .val (.int chi), .val (.int ext), .val (.int mode), .val (.int sk), .val (.int va), .val (.int vb), .val (.ref ac), .val (.int nat), .val (.int mm), .val (.int (9 : Int32)), .unset, .unset, .unset] [(.ref a1)]
  refine Go.astore (pc' := 357) W7 #[.val (.int sel), .val (.int pos), .val (.int chi), .val (.int ext), .val (.int mode), .val (.int sk), .val (.int va), .val (.int vb), .val (.ref ac), .val (.int nat), .val (.int mm), .val (.int (9 : Int32)), .val (.ref a1), .unset, .unset] d_code_355 rfl rfl rfl ?_
  refine Go.aconstNull (pc' := 358) W7 d_code_357 rfl ?_
  refine Go.astore (pc' := 360) W7 #[.val (.int sel), .val (.int pos), .val (.int chi), .val (.int ext), .val (.int mode), .val (.int sk), .val (.int va), .val (.int vb), .val (.ref ac), .val (.int nat), .val (.int mm), .val (.int (9 : Int32)), .val (.ref a1), .val (.null), .unset] d_code_358 rfl rfl rfl ?_
  refine Go.aload (pc' := 362) W7 d_code_360 rfl rfl rfl ?_
  refine Go.ldcStr (pc' := 364) W7 G.2.1 (w_35 G) (strAtoms G) (by decide) (bs := [(.int (47 : Int32)), (.int (97 : Int32)), (.int (112 : Int32)), (.int (105 : Int32)), (.int (47 : Int32)), (.int (118 : Int32)), (.int (50 : Int32)), (.int (47 : Int32)), (.int (98 : Int32)), (.int (109 : Int32)), (.int (99 : Int32))]) (z := 11) (by decide +kernel) (by decide) (by decide) (by decide) d_code_362 rfl (m := 44) (by decide +kernel) (by decide) (by first | exact Nat.le_of_ble_eq_true rfl | (simp; done) | (simp; omega) | omega) (by first | exact Nat.le_of_ble_eq_true rfl | (simp; done) | (simp; omega) | omega) (fun T8 a10 b11 c12 c13 W9 O14 F15 F16 A17 => ?_)
  replace W9 : Wk l Z EL1 ({ frames := 8, cells := 32, slots := 4288, locals := 192 } : Room) "com/example/upfront_quote/upfrontquote/ProductLineServedOnPinLaw" code 15 (some .boolean) "law" X [] [(a10, c12), (b11, c13), (a1, c2), (b3, c4)] T8 6 (82) := W9
  have S18 : StrL Z c12 b11 c13 [(47 : Int32), (97 : Int32), (112 : Int32), (105 : Int32), (47 : Int32), (118 : Int32), (50 : Int32), (47 : Int32), (98 : Int32), (109 : Int32), (99 : Int32)] := ⟨O14, F15, F16, (by rw [show latB [(47 : Int32), (97 : Int32), (112 : Int32), (105 : Int32), (47 : Int32), (118 : Int32), (50 : Int32), (47 : Int32), (98 : Int32), (109 : Int32), (99 : Int32)] = [(.int (47 : Int32)), (.int (97 : Int32)), (.int (112 : Int32)), (.int (105 : Int32)), (.int (47 : Int32)), (.int (118 : Int32)), (.int (50 : Int32)), (.int (47 : Int32)), (.int (98 : Int32)), (.int (109 : Int32)), (.int (99 : Int32))] from by decide +kernel]; exact A17), (by decide +kernel : ∀ x ∈ ([(47 : Int32), (97 : Int32), (112 : Int32), (105 : Int32), (47 : Int32), (118 : Int32), (50 : Int32), (47 : Int32), (98 : Int32), (109 : Int32), (99 : Int32)] : List Int32), ¬ x < 0 ∧ ¬ (255 : Int32) < x)⟩
  refine Go.virtual (pc' := 367) W9 (rm_eqs G a1 a10 b3 b11 c2 c12 c4 c13 [xa, xb, xc, xd, xe, xf, xg, xh, xi] [(47 : Int32), (97 : Int32), (112 : Int32), (105 : Int32), (47 : Int32), (118 : Int32), (50 : Int32), (47 : Int32), (98 : Int32), (109 : Int32), (99 : Int32)] S5 S18) (Or.inr (Or.inl (List.mem_of_getElem? (i := 2) rfl))) S5.1 (w_38 G) (w_39 G) (w_41 G) (w_40 G) (w_8 G) (w_42 G) (by decide) [] [2, 3, 0, 1] (σf := []) rfl rfl [(.ref a10)] [] rfl (lenOf pd_14 rfl) rfl rfl d_code_364 rfl (by first | exact Nat.le_of_ble_eq_true rfl | (simp; done) | (simp; omega) | omega) (by first | exact Nat.le_of_ble_eq_true rfl | (simp; done) | (simp; omega) | omega) (by first | exact Nat.le_of_ble_eq_true rfl | (simp; done) | (simp; omega) | omega) (by first | exact Nat.le_of_ble_eq_true rfl | (simp; done) | (simp; omega) | omega) ?_
  rintro _ _ _ T19 ⟨rfl, rfl, rfl⟩ W20
  replace W20 : Wk l Z EL1 ({ frames := 8, cells := 32, slots := 4288, locals := 192 } : Room) "com/example/upfront_quote/upfrontquote/ProductLineServedOnPinLaw" code 15 (some .boolean) "law" X [] [(a10, c12), (b11, c13), (a1, c2), (b3, c4)] T19 6 (82) := W20
  show Go Z EL1 _ _ _ X T19 367 #[.val (.int sel), .val (.int pos), .val (.int chi), .val (.int ext), .val (.int mode), .val (.int sk), .val (.int va), .val (.int vb), .val (.ref ac), .val (.int nat), .val (.int mm), .val (.int (9 : Int32)), .val (.ref a1), .val (.null), .unset] [(.int (if ([xa, xb, xc, xd, xe, xf, xg, xh, xi] : List Int32) = [(47 : Int32), (97 : Int32), (112 : Int32), (105 : Int32), (47 : Int32), (118 : Int32), (50 : Int32), (47 : Int32), (98 : Int32), (109 : Int32), (99 : Int32)] then 1 else 0))]
  refine Go.if_eq (pc' := 370) W20 378 d_code_367 (by decide) rfl (fun (c21 : (if ([xa, xb, xc, xd, xe, xf, xg, xh, xi] : List Int32) = [(47 : Int32), (97 : Int32), (112 : Int32), (105 : Int32), (47 : Int32), (118 : Int32), (50 : Int32), (47 : Int32), (98 : Int32), (109 : Int32), (99 : Int32)] then 1 else 0) = 0) => ?_) (fun (c21 : ¬ ((if ([xa, xb, xc, xd, xe, xf, xg, xh, xi] : List Int32) = [(47 : Int32), (97 : Int32), (112 : Int32), (105 : Int32), (47 : Int32), (118 : Int32), (50 : Int32), (47 : Int32), (98 : Int32), (109 : Int32), (99 : Int32)] then 1 else 0) = 0)) => ?_)
  · refine Go.aload (pc' := 380) W20 d_code_378 rfl rfl rfl ?_
    refine Go.ldcStr (pc' := 382) W20 G.2.1 (w_102 G) (strAtoms G) (by decide) (bs := [(.int (47 : Int32)), (.int (97 : Int32)), (.int (112 : Int32)), (.int (105 : Int32)), (.int (47 : Int32)), (.int (118 : Int32)), (.int (50 : Int32)), (.int (47 : Int32)), (.int (122 : Int32)), (.int (101 : Int32)), (.int (99 : Int32))]) (z := 11) (by decide +kernel) (by decide) (by decide) (by decide) d_code_380 rfl (m := 44) (by decide +kernel) (by decide) (by first | exact Nat.le_of_ble_eq_true rfl | (simp; done) | (simp; omega) | omega) (by first | exact Nat.le_of_ble_eq_true rfl | (simp; done) | (simp; omega) | omega) (fun T22 a24 b25 c26 c27 W23 O28 F29 F30 A31 => ?_)
    replace W23 : Wk l Z EL1 ({ frames := 8, cells := 32, slots := 4288, locals := 192 } : Room) "com/example/upfront_quote/upfrontquote/ProductLineServedOnPinLaw" code 15 (some .boolean) "law" X [] [(a24, c26), (b25, c27), (a10, c12), (b11, c13), (a1, c2), (b3, c4)] T22 8 (130) := W23
    have S32 : StrL Z c26 b25 c27 [(47 : Int32), (97 : Int32), (112 : Int32), (105 : Int32), (47 : Int32), (118 : Int32), (50 : Int32), (47 : Int32), (122 : Int32), (101 : Int32), (99 : Int32)] := ⟨O28, F29, F30, (by rw [show latB [(47 : Int32), (97 : Int32), (112 : Int32), (105 : Int32), (47 : Int32), (118 : Int32), (50 : Int32), (47 : Int32), (122 : Int32), (101 : Int32), (99 : Int32)] = [(.int (47 : Int32)), (.int (97 : Int32)), (.int (112 : Int32)), (.int (105 : Int32)), (.int (47 : Int32)), (.int (118 : Int32)), (.int (50 : Int32)), (.int (47 : Int32)), (.int (122 : Int32)), (.int (101 : Int32)), (.int (99 : Int32))] from by decide +kernel]; exact A31), (by decide +kernel : ∀ x ∈ ([(47 : Int32), (97 : Int32), (112 : Int32), (105 : Int32), (47 : Int32), (118 : Int32), (50 : Int32), (47 : Int32), (122 : Int32), (101 : Int32), (99 : Int32)] : List Int32), ¬ x < 0 ∧ ¬ (255 : Int32) < x)⟩
    refine Go.virtual (pc' := 385) W23 (rm_eqs G a1 a24 b3 b25 c2 c26 c4 c27 [xa, xb, xc, xd, xe, xf, xg, xh, xi] [(47 : Int32), (97 : Int32), (112 : Int32), (105 : Int32), (47 : Int32), (118 : Int32), (50 : Int32), (47 : Int32), (122 : Int32), (101 : Int32), (99 : Int32)] S5 S32) (Or.inr (Or.inl (List.mem_of_getElem? (i := 4) rfl))) S5.1 (w_38 G) (w_39 G) (w_41 G) (w_40 G) (w_8 G) (w_42 G) (by decide) [] [4, 5, 0, 1] (σf := []) rfl rfl [(.ref a24)] [] rfl (lenOf pd_14 rfl) rfl rfl d_code_382 rfl (by first | exact Nat.le_of_ble_eq_true rfl | (simp; done) | (simp; omega) | omega) (by first | exact Nat.le_of_ble_eq_true rfl | (simp; done) | (simp; omega) | omega) (by first | exact Nat.le_of_ble_eq_true rfl | (simp; done) | (simp; omega) | omega) (by first | exact Nat.le_of_ble_eq_true rfl | (simp; done) | (simp; omega) | omega) ?_
    rintro _ _ _ T33 ⟨rfl, rfl, rfl⟩ W34
    replace W34 : Wk l Z EL1 ({ frames := 8, cells := 32, slots := 4288, locals := 192 } : Room) "com/example/upfront_quote/upfrontquote/ProductLineServedOnPinLaw" code 15 (some .boolean) "law" X [] [(a24, c26), (b25, c27), (a10, c12), (b11, c13), (a1, c2), (b3, c4)] T33 8 (130) := W34
    show Go Z EL1 _ _ _ X T33 385 #[.val (.int sel), .val (.int pos), .val (.int chi), .val (.int ext), .val (.int mode), .val (.int sk), .val (.int va), .val (.int vb), .val (.ref ac), .val (.int nat), .val (.int mm), .val (.int (9 : Int32)), .val (.ref a1), .val (.null), .unset] [(.int (if ([xa, xb, xc, xd, xe, xf, xg, xh, xi] : List Int32) = [(47 : Int32), (97 : Int32), (112 : Int32), (105 : Int32), (47 : Int32), (118 : Int32), (50 : Int32), (47 : Int32), (122 : Int32), (101 : Int32), (99 : Int32)] then 1 else 0))]
    refine Go.if_eq (pc' := 388) W34 396 d_code_385 (by decide) rfl (fun (c35 : (if ([xa, xb, xc, xd, xe, xf, xg, xh, xi] : List Int32) = [(47 : Int32), (97 : Int32), (112 : Int32), (105 : Int32), (47 : Int32), (118 : Int32), (50 : Int32), (47 : Int32), (122 : Int32), (101 : Int32), (99 : Int32)] then 1 else 0) = 0) => ?_) (fun (c35 : ¬ ((if ([xa, xb, xc, xd, xe, xf, xg, xh, xi] : List Int32) = [(47 : Int32), (97 : Int32), (112 : Int32), (105 : Int32), (47 : Int32), (118 : Int32), (50 : Int32), (47 : Int32), (122 : Int32), (101 : Int32), (99 : Int32)] then 1 else 0) = 0)) => ?_)
    · refine Go.aload (pc' := 398) W34 d_code_396 rfl rfl rfl ?_
      refine Go.ldcStr (pc' := 400) W34 G.2.1 (w_103 G) (strAtoms G) (by decide) (bs := [(.int (47 : Int32)), (.int (97 : Int32)), (.int (112 : Int32)), (.int (105 : Int32)), (.int (47 : Int32)), (.int (118 : Int32)), (.int (50 : Int32)), (.int (47 : Int32)), (.int (118 : Int32)), (.int (109 : Int32))]) (z := 10) (by decide +kernel) (by decide) (by decide) (by decide) d_code_398 rfl (m := 40) (by decide +kernel) (by decide) (by first | exact Nat.le_of_ble_eq_true rfl | (simp; done) | (simp; omega) | omega) (by first | exact Nat.le_of_ble_eq_true rfl | (simp; done) | (simp; omega) | omega) (fun T36 a38 b39 c40 c41 W37 O42 F43 F44 A45 => ?_)
      replace W37 : Wk l Z EL1 ({ frames := 8, cells := 32, slots := 4288, locals := 192 } : Room) "com/example/upfront_quote/upfrontquote/ProductLineServedOnPinLaw" code 15 (some .boolean) "law" X [] [(a38, c40), (b39, c41), (a24, c26), (b25, c27), (a10, c12), (b11, c13), (a1, c2), (b3, c4)] T36 10 (174) := W37
      have S46 : StrL Z c40 b39 c41 [(47 : Int32), (97 : Int32), (112 : Int32), (105 : Int32), (47 : Int32), (118 : Int32), (50 : Int32), (47 : Int32), (118 : Int32), (109 : Int32)] := ⟨O42, F43, F44, (by rw [show latB [(47 : Int32), (97 : Int32), (112 : Int32), (105 : Int32), (47 : Int32), (118 : Int32), (50 : Int32), (47 : Int32), (118 : Int32), (109 : Int32)] = [(.int (47 : Int32)), (.int (97 : Int32)), (.int (112 : Int32)), (.int (105 : Int32)), (.int (47 : Int32)), (.int (118 : Int32)), (.int (50 : Int32)), (.int (47 : Int32)), (.int (118 : Int32)), (.int (109 : Int32))] from by decide +kernel]; exact A45), (by decide +kernel : ∀ x ∈ ([(47 : Int32), (97 : Int32), (112 : Int32), (105 : Int32), (47 : Int32), (118 : Int32), (50 : Int32), (47 : Int32), (118 : Int32), (109 : Int32)] : List Int32), ¬ x < 0 ∧ ¬ (255 : Int32) < x)⟩
      refine Go.virtual (pc' := 403) W37 (rm_eqs G a1 a38 b3 b39 c2 c40 c4 c41 [xa, xb, xc, xd, xe, xf, xg, xh, xi] [(47 : Int32), (97 : Int32), (112 : Int32), (105 : Int32), (47 : Int32), (118 : Int32), (50 : Int32), (47 : Int32), (118 : Int32), (109 : Int32)] S5 S46) (Or.inr (Or.inl (List.mem_of_getElem? (i := 6) rfl))) S5.1 (w_38 G) (w_39 G) (w_41 G) (w_40 G) (w_8 G) (w_42 G) (by decide) [] [6, 7, 0, 1] (σf := []) rfl rfl [(.ref a38)] [] rfl (lenOf pd_14 rfl) rfl rfl d_code_400 rfl (by first | exact Nat.le_of_ble_eq_true rfl | (simp; done) | (simp; omega) | omega) (by first | exact Nat.le_of_ble_eq_true rfl | (simp; done) | (simp; omega) | omega) (by first | exact Nat.le_of_ble_eq_true rfl | (simp; done) | (simp; omega) | omega) (by first | exact Nat.le_of_ble_eq_true rfl | (simp; done) | (simp; omega) | omega) ?_
      rintro _ _ _ T47 ⟨rfl, rfl, rfl⟩ W48
      replace W48 : Wk l Z EL1 ({ frames := 8, cells := 32, slots := 4288, locals := 192 } : Room) "com/example/upfront_quote/upfrontquote/ProductLineServedOnPinLaw" code 15 (some .boolean) "law" X [] [(a38, c40), (b39, c41), (a24, c26), (b25, c27), (a10, c12), (b11, c13), (a1, c2), (b3, c4)] T47 10 (174) := W48
      show Go Z EL1 _ _ _ X T47 403 #[.val (.int sel), .val (.int pos), .val (.int chi), .val (.int ext), .val (.int mode), .val (.int sk), .val (.int va), .val (.int vb), .val (.ref ac), .val (.int nat), .val (.int mm), .val (.int (9 : Int32)), .val (.ref a1), .val (.null), .unset] [(.int (if ([xa, xb, xc, xd, xe, xf, xg, xh, xi] : List Int32) = [(47 : Int32), (97 : Int32), (112 : Int32), (105 : Int32), (47 : Int32), (118 : Int32), (50 : Int32), (47 : Int32), (118 : Int32), (109 : Int32)] then 1 else 0))]
      refine Go.if_eq (pc' := 406) W48 411 d_code_403 (by decide) rfl (fun (c49 : (if ([xa, xb, xc, xd, xe, xf, xg, xh, xi] : List Int32) = [(47 : Int32), (97 : Int32), (112 : Int32), (105 : Int32), (47 : Int32), (118 : Int32), (50 : Int32), (47 : Int32), (118 : Int32), (109 : Int32)] then 1 else 0) = 0) => ?_) (fun (c49 : ¬ ((if ([xa, xb, xc, xd, xe, xf, xg, xh, xi] : List Int32) = [(47 : Int32), (97 : Int32), (112 : Int32), (105 : Int32), (47 : Int32), (118 : Int32), (50 : Int32), (47 : Int32), (118 : Int32), (109 : Int32)] then 1 else 0) = 0)) => ?_)
      · refine Go.aload (pc' := 413) W48 d_code_411 rfl rfl rfl ?_
        refine Go.static (pc' := 416) W48 (rm_srv G adA adB adC adD adE adF adG adH adI adJ ceA ceB ceC ceD ceE ceF ceG ceH ceI ceJ hzA obA fdA hzB obB arA hzC obC fdC hzD obD fdE hzE slA hzF hzG slB hzH hzI slC hzJ stA stB stC stD em cem hzem obem fdem stem a1 b3 c2 c4 [xa, xb, xc, xd, xe, xf, xg, xh, xi] S5) (w_51 G) (w_52 G) (w_49 G) (w_53 G) (by decide) [] [6, 7] (σf := []) rfl rfl [(.ref a1)] [] rfl (lenOf pd_20 rfl) rfl rfl d_code_413 rfl (by first | exact Nat.le_of_ble_eq_true rfl | (simp; done) | (simp; omega) | omega) (by first | exact Nat.le_of_ble_eq_true rfl | (simp; done) | (simp; omega) | omega) (by first | exact Nat.le_of_ble_eq_true rfl | (simp; done) | (simp; omega) | omega) (by first | exact Nat.le_of_ble_eq_true rfl | (simp; done) | (simp; omega) | omega) ?_
        rintro _ _ _ T54 ⟨a50, c51, rfl, rfl, rfl, O52, F53⟩ W55
        replace W55 : Wk l Z EL1 ({ frames := 8, cells := 32, slots := 4288, locals := 192 } : Room) "com/example/upfront_quote/upfrontquote/ProductLineServedOnPinLaw" code 15 (some .boolean) "law" X [] [(a50, c51), (a38, c40), (b39, c41), (a24, c26), (b25, c27), (a10, c12), (b11, c13), (a1, c2), (b3, c4)] T54 12 (178) := W55
        show Go Z EL1 _ _ _ X T54 416 #[.val (.int sel), .val (.int pos), .val (.int chi), .val (.int ext), .val (.int mode), .val (.int sk), .val (.int va), .val (.int vb), .val (.ref ac), .val (.int nat), .val (.int mm), .val (.int (9 : Int32)), .val (.ref a1), .val (.null), .unset] [(.ref a50)]
        rw [fsn, if_neg (ite10_z.mp c21), if_neg (ite10_z.mp c35), if_neg (ite10_z.mp c49)] at F53
        refine Go.astore (pc' := 418) W55 #[.val (.int sel), .val (.int pos), .val (.int chi), .val (.int ext), .val (.int mode), .val (.int sk), .val (.int va), .val (.int vb), .val (.ref ac), .val (.int nat), .val (.int mm), .val (.int (9 : Int32)), .val (.ref a1), .val (.null), .val (.ref a50)] d_code_416 rfl rfl rfl ?_
        refine Go.aload (pc' := 420) W55 d_code_418 rfl rfl rfl ?_
        refine Go.ifnonnull_no (pc' := 423) W55 d_code_420 rfl ?_
        refine Go.aload (pc' := 425) W55 d_code_423 rfl rfl rfl ?_
        refine Go.virtual (pc' := 428) W55 (rm_isp_z G a50 c51 F53) (Or.inr (Or.inl (List.mem_of_getElem? (i := 0) rfl))) O52 (w_91 G) (w_92 G) (w_94 G) (w_93 G) (w_76 G) (w_95 G) (by decide) [] [0] (σf := []) rfl rfl [] [] rfl (lenOf pd_21 rfl) rfl rfl d_code_425 rfl (by first | exact Nat.le_of_ble_eq_true rfl | (simp; done) | (simp; omega) | omega) (by first | exact Nat.le_of_ble_eq_true rfl | (simp; done) | (simp; omega) | omega) (by first | exact Nat.le_of_ble_eq_true rfl | (simp; done) | (simp; omega) | omega) (by first | exact Nat.le_of_ble_eq_true rfl | (simp; done) | (simp; omega) | omega) ?_
        rintro _ _ _ T56 ⟨rfl, rfl, rfl⟩ W57
        replace W57 : Wk l Z EL1 ({ frames := 8, cells := 32, slots := 4288, locals := 192 } : Room) "com/example/upfront_quote/upfrontquote/ProductLineServedOnPinLaw" code 15 (some .boolean) "law" X [] [(a50, c51), (a38, c40), (b39, c41), (a24, c26), (b25, c27), (a10, c12), (b11, c13), (a1, c2), (b3, c4)] T56 12 (178) := W57
        show Go Z EL1 _ _ _ X T56 428 #[.val (.int sel), .val (.int pos), .val (.int chi), .val (.int ext), .val (.int mode), .val (.int sk), .val (.int va), .val (.int vb), .val (.ref ac), .val (.int nat), .val (.int mm), .val (.int (9 : Int32)), .val (.ref a1), .val (.null), .val (.ref a50)] [(.int (0 : Int32))]
        refine Go.if_ne (pc' := 431) W57 435 d_code_428 (by decide) rfl (fun q => absurd (by decide) q) (fun _ => ?_)
        refine Go.iconst (pc' := 432) W57 (1 : Int32) d_code_431 (by decide) rfl ?_
        refine Go.goto W57 436 d_code_432 (by decide) ?_
        refine Go.nret (z' := (1 : Int32)) W57 (by simp) (by decide) d_code_436 (by first | exact Nat.le_of_ble_eq_true rfl | (simp; done) | (simp; omega) | omega) (by first | exact Nat.le_of_ble_eq_true rfl | (simp; done) | (simp; omega) | omega) ?_
        rfl
      · refine Go.getstatic (pc' := 409) W48 (w_108 G) Via.refl stD d_code_406 rfl (fun T58 W59 => ?_)
        refine Go.astore (pc' := 411) W59 #[.val (.int sel), .val (.int pos), .val (.int chi), .val (.int ext), .val (.int mode), .val (.int sk), .val (.int va), .val (.int vb), .val (.ref ac), .val (.int nat), .val (.int mm), .val (.int (9 : Int32)), .val (.ref a1), .val (.ref adD), .unset] d_code_409 rfl rfl rfl ?_
        refine Go.aload (pc' := 413) W59 d_code_411 rfl rfl rfl ?_
        refine Go.static (pc' := 416) W59 (rm_srv G adA adB adC adD adE adF adG adH adI adJ ceA ceB ceC ceD ceE ceF ceG ceH ceI ceJ hzA obA fdA hzB obB arA hzC obC fdC hzD obD fdE hzE slA hzF hzG slB hzH hzI slC hzJ stA stB stC stD em cem hzem obem fdem stem a1 b3 c2 c4 [xa, xb, xc, xd, xe, xf, xg, xh, xi] S5) (w_51 G) (w_52 G) (w_49 G) (w_53 G) (by decide) [] [6, 7] (σf := []) rfl rfl [(.ref a1)] [] rfl (lenOf pd_20 rfl) rfl rfl d_code_413 rfl (by first | exact Nat.le_of_ble_eq_true rfl | (simp; done) | (simp; omega) | omega) (by first | exact Nat.le_of_ble_eq_true rfl | (simp; done) | (simp; omega) | omega) (by first | exact Nat.le_of_ble_eq_true rfl | (simp; done) | (simp; omega) | omega) (by first | exact Nat.le_of_ble_eq_true rfl | (simp; done) | (simp; omega) | omega) ?_
        rintro _ _ _ T64 ⟨a60, c61, rfl, rfl, rfl, O62, F63⟩ W65
        replace W65 : Wk l Z EL1 ({ frames := 8, cells := 32, slots := 4288, locals := 192 } : Room) "com/example/upfront_quote/upfrontquote/ProductLineServedOnPinLaw" code 15 (some .boolean) "law" X [] [(a60, c61), (a38, c40), (b39, c41), (a24, c26), (b25, c27), (a10, c12), (b11, c13), (a1, c2), (b3, c4)] T64 12 (178) := W65
        show Go Z EL1 _ _ _ X T64 416 #[.val (.int sel), .val (.int pos), .val (.int chi), .val (.int ext), .val (.int mode), .val (.int sk), .val (.int va), .val (.int vb), .val (.ref ac), .val (.int nat), .val (.int mm), .val (.int (9 : Int32)), .val (.ref a1), .val (.ref adD), .unset] [(.ref a60)]
        rw [fsn, if_neg (ite10_z.mp c21), if_neg (ite10_z.mp c35), if_pos (Classical.not_not.mp (fun e => c49 (ite10_z.mpr e)))] at F63
        refine Go.astore (pc' := 418) W65 #[.val (.int sel), .val (.int pos), .val (.int chi), .val (.int ext), .val (.int mode), .val (.int sk), .val (.int va), .val (.int vb), .val (.ref ac), .val (.int nat), .val (.int mm), .val (.int (9 : Int32)), .val (.ref a1), .val (.ref adD), .val (.ref a60)] d_code_416 rfl rfl rfl ?_
        refine Go.aload (pc' := 420) W65 d_code_418 rfl rfl rfl ?_
        refine Go.ifnonnull_yes W65 437 d_code_420 (by decide) ?_
        refine Go.aload (pc' := 439) W65 d_code_437 rfl rfl rfl ?_
        refine Go.virtual (pc' := 442) W65 (rm_isp_o G a60 adD c61 F63) (Or.inr (Or.inl (List.mem_of_getElem? (i := 0) rfl))) O62 (w_91 G) (w_92 G) (w_94 G) (w_93 G) (w_76 G) (w_95 G) (by decide) [] [0] (σf := []) rfl rfl [] [] rfl (lenOf pd_21 rfl) rfl rfl d_code_439 rfl (by first | exact Nat.le_of_ble_eq_true rfl | (simp; done) | (simp; omega) | omega) (by first | exact Nat.le_of_ble_eq_true rfl | (simp; done) | (simp; omega) | omega) (by first | exact Nat.le_of_ble_eq_true rfl | (simp; done) | (simp; omega) | omega) (by first | exact Nat.le_of_ble_eq_true rfl | (simp; done) | (simp; omega) | omega) ?_
        rintro _ _ _ T66 ⟨rfl, rfl, rfl⟩ W67
        replace W67 : Wk l Z EL1 ({ frames := 8, cells := 32, slots := 4288, locals := 192 } : Room) "com/example/upfront_quote/upfrontquote/ProductLineServedOnPinLaw" code 15 (some .boolean) "law" X [] [(a60, c61), (a38, c40), (b39, c41), (a24, c26), (b25, c27), (a10, c12), (b11, c13), (a1, c2), (b3, c4)] T66 12 (178) := W67
        show Go Z EL1 _ _ _ X T66 442 #[.val (.int sel), .val (.int pos), .val (.int chi), .val (.int ext), .val (.int mode), .val (.int sk), .val (.int va), .val (.int vb), .val (.ref ac), .val (.int nat), .val (.int mm), .val (.int (9 : Int32)), .val (.ref a1), .val (.ref adD), .val (.ref a60)] [(.int (1 : Int32))]
        refine Go.if_eq (pc' := 445) W67 459 d_code_442 (by decide) rfl (fun q => absurd q (by decide)) (fun _ => ?_)
        refine Go.aload (pc' := 447) W67 d_code_445 rfl rfl rfl ?_
        refine Go.virtual (pc' := 450) W67 (rm_get_o G a60 adD c61 F63) (Or.inr (Or.inl (List.mem_of_getElem? (i := 0) rfl))) O62 (w_96 G) (w_97 G) (w_99 G) (w_98 G) (w_76 G) (w_100 G) (by decide) [] [0] (σf := []) rfl rfl [] [] rfl (lenOf pd_22 rfl) rfl rfl d_code_447 rfl (by first | exact Nat.le_of_ble_eq_true rfl | (simp; done) | (simp; omega) | omega) (by first | exact Nat.le_of_ble_eq_true rfl | (simp; done) | (simp; omega) | omega) (by first | exact Nat.le_of_ble_eq_true rfl | (simp; done) | (simp; omega) | omega) (by first | exact Nat.le_of_ble_eq_true rfl | (simp; done) | (simp; omega) | omega) ?_
        rintro _ _ _ T68 ⟨rfl, rfl, rfl⟩ W69
        replace W69 : Wk l Z EL1 ({ frames := 8, cells := 32, slots := 4288, locals := 192 } : Room) "com/example/upfront_quote/upfrontquote/ProductLineServedOnPinLaw" code 15 (some .boolean) "law" X [] [(a60, c61), (a38, c40), (b39, c41), (a24, c26), (b25, c27), (a10, c12), (b11, c13), (a1, c2), (b3, c4)] T68 12 (178) := W69
        show Go Z EL1 _ _ _ X T68 450 #[.val (.int sel), .val (.int pos), .val (.int chi), .val (.int ext), .val (.int mode), .val (.int sk), .val (.int va), .val (.int vb), .val (.ref ac), .val (.int nat), .val (.int mm), .val (.int (9 : Int32)), .val (.ref a1), .val (.ref adD), .val (.ref a60)] [(.ref adD)]
        refine Go.aload (pc' := 452) W69 d_code_450 rfl rfl rfl ?_
        refine Go.acmp_ne (pc' := 455) W69 459 rfl rfl d_code_452 (by decide) rfl (fun hq => absurd rfl hq) (fun _ => ?_)
        refine Go.iconst (pc' := 456) W69 (1 : Int32) d_code_455 (by decide) rfl ?_
        refine Go.goto W69 460 d_code_456 (by decide) ?_
        refine Go.nret (z' := (1 : Int32)) W69 (by simp) (by decide) d_code_460 (by first | exact Nat.le_of_ble_eq_true rfl | (simp; done) | (simp; omega) | omega) (by first | exact Nat.le_of_ble_eq_true rfl | (simp; done) | (simp; omega) | omega) ?_
        rfl
    · refine Go.getstatic (pc' := 391) W34 (w_109 G) Via.refl stC d_code_388 rfl (fun T70 W71 => ?_)
      refine Go.astore (pc' := 393) W71 #[.val (.int sel), .val (.int pos), .val (.int chi), .val (.int ext), .val (.int mode), .val (.int sk), .val (.int va), .val (.int vb), .val (.ref ac), .val (.int nat), .val (.int mm), .val (.int (9 : Int32)), .val (.ref a1), .val (.ref adC), .unset] d_code_391 rfl rfl rfl ?_
      refine Go.goto W71 411 d_code_393 (by decide) ?_
      refine Go.aload (pc' := 413) W71 d_code_411 rfl rfl rfl ?_
      refine Go.static (pc' := 416) W71 (rm_srv G adA adB adC adD adE adF adG adH adI adJ ceA ceB ceC ceD ceE ceF ceG ceH ceI ceJ hzA obA fdA hzB obB arA hzC obC fdC hzD obD fdE hzE slA hzF hzG slB hzH hzI slC hzJ stA stB stC stD em cem hzem obem fdem stem a1 b3 c2 c4 [xa, xb, xc, xd, xe, xf, xg, xh, xi] S5) (w_51 G) (w_52 G) (w_49 G) (w_53 G) (by decide) [] [4, 5] (σf := []) rfl rfl [(.ref a1)] [] rfl (lenOf pd_20 rfl) rfl rfl d_code_413 rfl (by first | exact Nat.le_of_ble_eq_true rfl | (simp; done) | (simp; omega) | omega) (by first | exact Nat.le_of_ble_eq_true rfl | (simp; done) | (simp; omega) | omega) (by first | exact Nat.le_of_ble_eq_true rfl | (simp; done) | (simp; omega) | omega) (by first | exact Nat.le_of_ble_eq_true rfl | (simp; done) | (simp; omega) | omega) ?_
      rintro _ _ _ T76 ⟨a72, c73, rfl, rfl, rfl, O74, F75⟩ W77
      replace W77 : Wk l Z EL1 ({ frames := 8, cells := 32, slots := 4288, locals := 192 } : Room) "com/example/upfront_quote/upfrontquote/ProductLineServedOnPinLaw" code 15 (some .boolean) "law" X [] [(a72, c73), (a24, c26), (b25, c27), (a10, c12), (b11, c13), (a1, c2), (b3, c4)] T76 10 (134) := W77
      show Go Z EL1 _ _ _ X T76 416 #[.val (.int sel), .val (.int pos), .val (.int chi), .val (.int ext), .val (.int mode), .val (.int sk), .val (.int va), .val (.int vb), .val (.ref ac), .val (.int nat), .val (.int mm), .val (.int (9 : Int32)), .val (.ref a1), .val (.ref adC), .unset] [(.ref a72)]
      rw [fsn, if_neg (ite10_z.mp c21), if_pos (Classical.not_not.mp (fun e => c35 (ite10_z.mpr e)))] at F75
      refine Go.astore (pc' := 418) W77 #[.val (.int sel), .val (.int pos), .val (.int chi), .val (.int ext), .val (.int mode), .val (.int sk), .val (.int va), .val (.int vb), .val (.ref ac), .val (.int nat), .val (.int mm), .val (.int (9 : Int32)), .val (.ref a1), .val (.ref adC), .val (.ref a72)] d_code_416 rfl rfl rfl ?_
      refine Go.aload (pc' := 420) W77 d_code_418 rfl rfl rfl ?_
      refine Go.ifnonnull_yes W77 437 d_code_420 (by decide) ?_
      refine Go.aload (pc' := 439) W77 d_code_437 rfl rfl rfl ?_
      refine Go.virtual (pc' := 442) W77 (rm_isp_o G a72 adC c73 F75) (Or.inr (Or.inl (List.mem_of_getElem? (i := 0) rfl))) O74 (w_91 G) (w_92 G) (w_94 G) (w_93 G) (w_76 G) (w_95 G) (by decide) [] [0] (σf := []) rfl rfl [] [] rfl (lenOf pd_21 rfl) rfl rfl d_code_439 rfl (by first | exact Nat.le_of_ble_eq_true rfl | (simp; done) | (simp; omega) | omega) (by first | exact Nat.le_of_ble_eq_true rfl | (simp; done) | (simp; omega) | omega) (by first | exact Nat.le_of_ble_eq_true rfl | (simp; done) | (simp; omega) | omega) (by first | exact Nat.le_of_ble_eq_true rfl | (simp; done) | (simp; omega) | omega) ?_
      rintro _ _ _ T78 ⟨rfl, rfl, rfl⟩ W79
      replace W79 : Wk l Z EL1 ({ frames := 8, cells := 32, slots := 4288, locals := 192 } : Room) "com/example/upfront_quote/upfrontquote/ProductLineServedOnPinLaw" code 15 (some .boolean) "law" X [] [(a72, c73), (a24, c26), (b25, c27), (a10, c12), (b11, c13), (a1, c2), (b3, c4)] T78 10 (134) := W79
      show Go Z EL1 _ _ _ X T78 442 #[.val (.int sel), .val (.int pos), .val (.int chi), .val (.int ext), .val (.int mode), .val (.int sk), .val (.int va), .val (.int vb), .val (.ref ac), .val (.int nat), .val (.int mm), .val (.int (9 : Int32)), .val (.ref a1), .val (.ref adC), .val (.ref a72)] [(.int (1 : Int32))]
      refine Go.if_eq (pc' := 445) W79 459 d_code_442 (by decide) rfl (fun q => absurd q (by decide)) (fun _ => ?_)
      refine Go.aload (pc' := 447) W79 d_code_445 rfl rfl rfl ?_
      refine Go.virtual (pc' := 450) W79 (rm_get_o G a72 adC c73 F75) (Or.inr (Or.inl (List.mem_of_getElem? (i := 0) rfl))) O74 (w_96 G) (w_97 G) (w_99 G) (w_98 G) (w_76 G) (w_100 G) (by decide) [] [0] (σf := []) rfl rfl [] [] rfl (lenOf pd_22 rfl) rfl rfl d_code_447 rfl (by first | exact Nat.le_of_ble_eq_true rfl | (simp; done) | (simp; omega) | omega) (by first | exact Nat.le_of_ble_eq_true rfl | (simp; done) | (simp; omega) | omega) (by first | exact Nat.le_of_ble_eq_true rfl | (simp; done) | (simp; omega) | omega) (by first | exact Nat.le_of_ble_eq_true rfl | (simp; done) | (simp; omega) | omega) ?_
      rintro _ _ _ T80 ⟨rfl, rfl, rfl⟩ W81
      replace W81 : Wk l Z EL1 ({ frames := 8, cells := 32, slots := 4288, locals := 192 } : Room) "com/example/upfront_quote/upfrontquote/ProductLineServedOnPinLaw" code 15 (some .boolean) "law" X [] [(a72, c73), (a24, c26), (b25, c27), (a10, c12), (b11, c13), (a1, c2), (b3, c4)] T80 10 (134) := W81
      show Go Z EL1 _ _ _ X T80 450 #[.val (.int sel), .val (.int pos), .val (.int chi), .val (.int ext), .val (.int mode), .val (.int sk), .val (.int va), .val (.int vb), .val (.ref ac), .val (.int nat), .val (.int mm), .val (.int (9 : Int32)), .val (.ref a1), .val (.ref adC), .val (.ref a72)] [(.ref adC)]
      refine Go.aload (pc' := 452) W81 d_code_450 rfl rfl rfl ?_
      refine Go.acmp_ne (pc' := 455) W81 459 rfl rfl d_code_452 (by decide) rfl (fun hq => absurd rfl hq) (fun _ => ?_)
      refine Go.iconst (pc' := 456) W81 (1 : Int32) d_code_455 (by decide) rfl ?_
      refine Go.goto W81 460 d_code_456 (by decide) ?_
      refine Go.nret (z' := (1 : Int32)) W81 (by simp) (by decide) d_code_460 (by first | exact Nat.le_of_ble_eq_true rfl | (simp; done) | (simp; omega) | omega) (by first | exact Nat.le_of_ble_eq_true rfl | (simp; done) | (simp; omega) | omega) ?_
      rfl
  · refine Go.getstatic (pc' := 373) W20 (w_48 G) Via.refl stA d_code_370 rfl (fun T82 W83 => ?_)
    refine Go.astore (pc' := 375) W83 #[.val (.int sel), .val (.int pos), .val (.int chi), .val (.int ext), .val (.int mode), .val (.int sk), .val (.int va), .val (.int vb), .val (.ref ac), .val (.int nat), .val (.int mm), .val (.int (9 : Int32)), .val (.ref a1), .val (.ref adA), .unset] d_code_373 rfl rfl rfl ?_
    refine Go.goto W83 411 d_code_375 (by decide) ?_
    refine Go.aload (pc' := 413) W83 d_code_411 rfl rfl rfl ?_
    refine Go.static (pc' := 416) W83 (rm_srv G adA adB adC adD adE adF adG adH adI adJ ceA ceB ceC ceD ceE ceF ceG ceH ceI ceJ hzA obA fdA hzB obB arA hzC obC fdC hzD obD fdE hzE slA hzF hzG slB hzH hzI slC hzJ stA stB stC stD em cem hzem obem fdem stem a1 b3 c2 c4 [xa, xb, xc, xd, xe, xf, xg, xh, xi] S5) (w_51 G) (w_52 G) (w_49 G) (w_53 G) (by decide) [] [2, 3] (σf := []) rfl rfl [(.ref a1)] [] rfl (lenOf pd_20 rfl) rfl rfl d_code_413 rfl (by first | exact Nat.le_of_ble_eq_true rfl | (simp; done) | (simp; omega) | omega) (by first | exact Nat.le_of_ble_eq_true rfl | (simp; done) | (simp; omega) | omega) (by first | exact Nat.le_of_ble_eq_true rfl | (simp; done) | (simp; omega) | omega) (by first | exact Nat.le_of_ble_eq_true rfl | (simp; done) | (simp; omega) | omega) ?_
    rintro _ _ _ T88 ⟨a84, c85, rfl, rfl, rfl, O86, F87⟩ W89
    replace W89 : Wk l Z EL1 ({ frames := 8, cells := 32, slots := 4288, locals := 192 } : Room) "com/example/upfront_quote/upfrontquote/ProductLineServedOnPinLaw" code 15 (some .boolean) "law" X [] [(a84, c85), (a10, c12), (b11, c13), (a1, c2), (b3, c4)] T88 8 (86) := W89
    show Go Z EL1 _ _ _ X T88 416 #[.val (.int sel), .val (.int pos), .val (.int chi), .val (.int ext), .val (.int mode), .val (.int sk), .val (.int va), .val (.int vb), .val (.ref ac), .val (.int nat), .val (.int mm), .val (.int (9 : Int32)), .val (.ref a1), .val (.ref adA), .unset] [(.ref a84)]
    rw [fsn, if_pos (Classical.not_not.mp (fun e => c21 (ite10_z.mpr e)))] at F87
    refine Go.astore (pc' := 418) W89 #[.val (.int sel), .val (.int pos), .val (.int chi), .val (.int ext), .val (.int mode), .val (.int sk), .val (.int va), .val (.int vb), .val (.ref ac), .val (.int nat), .val (.int mm), .val (.int (9 : Int32)), .val (.ref a1), .val (.ref adA), .val (.ref a84)] d_code_416 rfl rfl rfl ?_
    refine Go.aload (pc' := 420) W89 d_code_418 rfl rfl rfl ?_
    refine Go.ifnonnull_yes W89 437 d_code_420 (by decide) ?_
    refine Go.aload (pc' := 439) W89 d_code_437 rfl rfl rfl ?_
    refine Go.virtual (pc' := 442) W89 (rm_isp_o G a84 adA c85 F87) (Or.inr (Or.inl (List.mem_of_getElem? (i := 0) rfl))) O86 (w_91 G) (w_92 G) (w_94 G) (w_93 G) (w_76 G) (w_95 G) (by decide) [] [0] (σf := []) rfl rfl [] [] rfl (lenOf pd_21 rfl) rfl rfl d_code_439 rfl (by first | exact Nat.le_of_ble_eq_true rfl | (simp; done) | (simp; omega) | omega) (by first | exact Nat.le_of_ble_eq_true rfl | (simp; done) | (simp; omega) | omega) (by first | exact Nat.le_of_ble_eq_true rfl | (simp; done) | (simp; omega) | omega) (by first | exact Nat.le_of_ble_eq_true rfl | (simp; done) | (simp; omega) | omega) ?_
    rintro _ _ _ T90 ⟨rfl, rfl, rfl⟩ W91
    replace W91 : Wk l Z EL1 ({ frames := 8, cells := 32, slots := 4288, locals := 192 } : Room) "com/example/upfront_quote/upfrontquote/ProductLineServedOnPinLaw" code 15 (some .boolean) "law" X [] [(a84, c85), (a10, c12), (b11, c13), (a1, c2), (b3, c4)] T90 8 (86) := W91
    show Go Z EL1 _ _ _ X T90 442 #[.val (.int sel), .val (.int pos), .val (.int chi), .val (.int ext), .val (.int mode), .val (.int sk), .val (.int va), .val (.int vb), .val (.ref ac), .val (.int nat), .val (.int mm), .val (.int (9 : Int32)), .val (.ref a1), .val (.ref adA), .val (.ref a84)] [(.int (1 : Int32))]
    refine Go.if_eq (pc' := 445) W91 459 d_code_442 (by decide) rfl (fun q => absurd q (by decide)) (fun _ => ?_)
    refine Go.aload (pc' := 447) W91 d_code_445 rfl rfl rfl ?_
    refine Go.virtual (pc' := 450) W91 (rm_get_o G a84 adA c85 F87) (Or.inr (Or.inl (List.mem_of_getElem? (i := 0) rfl))) O86 (w_96 G) (w_97 G) (w_99 G) (w_98 G) (w_76 G) (w_100 G) (by decide) [] [0] (σf := []) rfl rfl [] [] rfl (lenOf pd_22 rfl) rfl rfl d_code_447 rfl (by first | exact Nat.le_of_ble_eq_true rfl | (simp; done) | (simp; omega) | omega) (by first | exact Nat.le_of_ble_eq_true rfl | (simp; done) | (simp; omega) | omega) (by first | exact Nat.le_of_ble_eq_true rfl | (simp; done) | (simp; omega) | omega) (by first | exact Nat.le_of_ble_eq_true rfl | (simp; done) | (simp; omega) | omega) ?_
    rintro _ _ _ T92 ⟨rfl, rfl, rfl⟩ W93
    replace W93 : Wk l Z EL1 ({ frames := 8, cells := 32, slots := 4288, locals := 192 } : Room) "com/example/upfront_quote/upfrontquote/ProductLineServedOnPinLaw" code 15 (some .boolean) "law" X [] [(a84, c85), (a10, c12), (b11, c13), (a1, c2), (b3, c4)] T92 8 (86) := W93
    show Go Z EL1 _ _ _ X T92 450 #[.val (.int sel), .val (.int pos), .val (.int chi), .val (.int ext), .val (.int mode), .val (.int sk), .val (.int va), .val (.int vb), .val (.ref ac), .val (.int nat), .val (.int mm), .val (.int (9 : Int32)), .val (.ref a1), .val (.ref adA), .val (.ref a84)] [(.ref adA)]
    refine Go.aload (pc' := 452) W93 d_code_450 rfl rfl rfl ?_
    refine Go.acmp_ne (pc' := 455) W93 459 rfl rfl d_code_452 (by decide) rfl (fun hq => absurd rfl hq) (fun _ => ?_)
    refine Go.iconst (pc' := 456) W93 (1 : Int32) d_code_455 (by decide) rfl ?_
    refine Go.goto W93 460 d_code_456 (by decide) ?_
    refine Go.nret (z' := (1 : Int32)) W93 (by simp) (by decide) d_code_460 (by first | exact Nat.le_of_ble_eq_true rfl | (simp; done) | (simp; omega) | omega) (by first | exact Nat.le_of_ble_eq_true rfl | (simp; done) | (simp; omega) | omega) ?_
    rfl
set_option maxRecDepth 65536 in
set_option maxHeartbeats 40000000 in
theorem rm_tail_K {l : Launch} {Z : State} {a0 : Array Value} (G : Cl Z a0) (sel pos chi ext mode : Int32) (sk va vb nat mm : Int32) (adA : Addr) (adB : Addr) (adC : Addr) (adD : Addr) (adE : Addr) (adF : Addr) (adG : Addr) (adH : Addr) (adI : Addr) (adJ : Addr) (ceA : Cell) (ceB : Cell) (ceC : Cell) (ceD : Cell) (ceE : Cell) (ceF : Cell) (ceG : Cell) (ceH : Cell) (ceI : Cell) (ceJ : Cell) (hzA : Z.heap[adA]? = some ceA) (obA : ObjC Z ceA "com/example/upfront_quote/upfrontquote/ProductLine") (fdA : FldC Z ceA "com/example/upfront_quote/upfrontquote/ProductLine" "path" "Ljava/lang/String;" (.ref adE)) (hzB : Z.heap[adB]? = some ceB) (obB : ObjC Z ceB "[Lcom/example/upfront_quote/upfrontquote/ProductLine;") (arA : ArrC Z ceB (.object "com/example/upfront_quote/upfrontquote/ProductLine") [(.ref adA), (.ref adC), (.ref adD)]) (hzC : Z.heap[adC]? = some ceC) (obC : ObjC Z ceC "com/example/upfront_quote/upfrontquote/ProductLine") (fdC : FldC Z ceC "com/example/upfront_quote/upfrontquote/ProductLine" "path" "Ljava/lang/String;" (.ref adG)) (hzD : Z.heap[adD]? = some ceD) (obD : ObjC Z ceD "com/example/upfront_quote/upfrontquote/ProductLine") (fdE : FldC Z ceD "com/example/upfront_quote/upfrontquote/ProductLine" "path" "Ljava/lang/String;" (.ref adI)) (hzE : Z.heap[adE]? = some ceE) (slA : StrL Z ceE adF ceF [(47 : Int32), (97 : Int32), (112 : Int32), (105 : Int32), (47 : Int32), (118 : Int32), (50 : Int32), (47 : Int32), (98 : Int32), (109 : Int32), (99 : Int32)]) (hzF : Z.heap[adF]? = some ceF) (hzG : Z.heap[adG]? = some ceG) (slB : StrL Z ceG adH ceH [(47 : Int32), (97 : Int32), (112 : Int32), (105 : Int32), (47 : Int32), (118 : Int32), (50 : Int32), (47 : Int32), (122 : Int32), (101 : Int32), (99 : Int32)]) (hzH : Z.heap[adH]? = some ceH) (hzI : Z.heap[adI]? = some ceI) (slC : StrL Z ceI adJ ceJ [(47 : Int32), (97 : Int32), (112 : Int32), (105 : Int32), (47 : Int32), (118 : Int32), (50 : Int32), (47 : Int32), (118 : Int32), (109 : Int32)]) (hzJ : Z.heap[adJ]? = some ceJ) (stA : Sta Z Z.heap "com/example/upfront_quote/upfrontquote/ProductLine" "BMC" "Lcom/example/upfront_quote/upfrontquote/ProductLine;" (.ref adA)) (stB : Sta Z Z.heap "com/example/upfront_quote/upfrontquote/ProductLine" "$VALUES" "[Lcom/example/upfront_quote/upfrontquote/ProductLine;" (.ref adB)) (stC : Sta Z Z.heap "com/example/upfront_quote/upfrontquote/ProductLine" "ZEC" "Lcom/example/upfront_quote/upfrontquote/ProductLine;" (.ref adC)) (stD : Sta Z Z.heap "com/example/upfront_quote/upfrontquote/ProductLine" "VM" "Lcom/example/upfront_quote/upfrontquote/ProductLine;" (.ref adD)) (em : Addr) (cem : Cell) (hzem : Z.heap[em]? = some cem) (obem : ObjC Z cem "java/util/Optional") (fdem : FldC Z cem "java/util/Optional" "value" "Ljava/lang/Object;" .null) (stem : Sta Z Z.heap "java/util/Optional" "EMPTY" "Ljava/util/Optional;" (.ref em)) (ac : Addr) (cc : Cell) (xa xb xc xd xe xf xg xh xi xj xk xl : Int32) (hL : Lat [xa, xb, xc, xd, xe, xf, xg, xh, xi, xj, xk, xl]) (A : ArrC Z cc .char [(.int xa), (.int xb), (.int xc), (.int xd), (.int xe), (.int xf), (.int xg), (.int xh), (.int xi), (.int xj), (.int xk), (.int xl)]) {X : Ctx} {T0 : State} (W0 : Wk l Z EL1 ({ frames := 8, cells := 32, slots := 4288, locals := 192 } : Room) "com/example/upfront_quote/upfrontquote/ProductLineServedOnPinLaw" code 15 (some .boolean) "law" X [(ac, cc)] [] T0 1 (12)) :
    Go Z EL1 32 4288 (fun v _ _ => v = some (.int 1)) X T0 348 #[.val (.int sel), .val (.int pos), .val (.int chi), .val (.int ext), .val (.int mode), .val (.int sk), .val (.int va), .val (.int vb), .val (.ref ac), .val (.int nat), .val (.int mm), .val (.int (10 : Int32)), .unset, .unset, .unset] [] := by
  refine Go.aload (pc' := 350) W0 d_code_348 rfl rfl rfl ?_
  refine Go.iload (pc' := 352) W0 d_code_350 rfl rfl ?_
  refine Go.static (pc' := 355) W0 (rm_cut_K G ac cc xa xb xc xd xe xf xg xh xi xj xk xl hL A) (w_2 G) (w_3 G) (w_4 G) (w_5 G) (by decide) [0] [] (σf := []) rfl rfl [(.ref ac), (.int (10 : Int32))] [] rfl (lenOf pd_19 rfl) rfl rfl d_code_352 rfl (by first | exact Nat.le_of_ble_eq_true rfl | (simp; done) | (simp; omega) | omega) (by first | exact Nat.le_of_ble_eq_true rfl | (simp; done) | (simp; omega) | omega) (by first | exact Nat.le_of_ble_eq_true rfl | (simp; done) | (simp; omega) | omega) (by first | exact Nat.le_of_ble_eq_true rfl | (simp; done) | (simp; omega) | omega) ?_
  rintro _ _ _ T6 ⟨a1, c2, b3, c4, rfl, rfl, rfl, S5⟩ W7
  replace W7 : Wk l Z EL1 ({ frames := 8, cells := 32, slots := 4288, locals := 192 } : Room) "com/example/upfront_quote/upfrontquote/ProductLineServedOnPinLaw" code 15 (some .boolean) "law" X [] [(a1, c2), (b3, c4)] T6 4 (36) := W7
  show Go Z EL1 _ _ _ X T6 355 #[.val (.int sel), .val (.int pos), .val (.int chi), .val (.int ext), .val (.int mode), .val (.int sk), .val (.int va), .val (.int vb), .val (.ref ac), .val (.int nat), .val (.int mm), .val (.int (10 : Int32)), .unset, .unset, .unset] [(.ref a1)]
  refine Go.astore (pc' := 357) W7 #[.val (.int sel), .val (.int pos), .val (.int chi), .val (.int ext), .val (.int mode), .val (.int sk), .val (.int va), .val (.int vb), .val (.ref ac), .val (.int nat), .val (.int mm), .val (.int (10 : Int32)), .val (.ref a1), .unset, .unset] d_code_355 rfl rfl rfl ?_
  refine Go.aconstNull (pc' := 358) W7 d_code_357 rfl ?_
  refine Go.astore (pc' := 360) W7 #[.val (.int sel), .val (.int pos), .val (.int chi), .val (.int ext), .val (.int mode), .val (.int sk), .val (.int va), .val (.int vb), .val (.ref ac), .val (.int nat), .val (.int mm), .val (.int (10 : Int32)), .val (.ref a1), .val (.null), .unset] d_code_358 rfl rfl rfl ?_
  refine Go.aload (pc' := 362) W7 d_code_360 rfl rfl rfl ?_
  refine Go.ldcStr (pc' := 364) W7 G.2.1 (w_35 G) (strAtoms G) (by decide) (bs := [(.int (47 : Int32)), (.int (97 : Int32)), (.int (112 : Int32)), (.int (105 : Int32)), (.int (47 : Int32)), (.int (118 : Int32)), (.int (50 : Int32)), (.int (47 : Int32)), (.int (98 : Int32)), (.int (109 : Int32)), (.int (99 : Int32))]) (z := 11) (by decide +kernel) (by decide) (by decide) (by decide) d_code_362 rfl (m := 44) (by decide +kernel) (by decide) (by first | exact Nat.le_of_ble_eq_true rfl | (simp; done) | (simp; omega) | omega) (by first | exact Nat.le_of_ble_eq_true rfl | (simp; done) | (simp; omega) | omega) (fun T8 a10 b11 c12 c13 W9 O14 F15 F16 A17 => ?_)
  replace W9 : Wk l Z EL1 ({ frames := 8, cells := 32, slots := 4288, locals := 192 } : Room) "com/example/upfront_quote/upfrontquote/ProductLineServedOnPinLaw" code 15 (some .boolean) "law" X [] [(a10, c12), (b11, c13), (a1, c2), (b3, c4)] T8 6 (84) := W9
  have S18 : StrL Z c12 b11 c13 [(47 : Int32), (97 : Int32), (112 : Int32), (105 : Int32), (47 : Int32), (118 : Int32), (50 : Int32), (47 : Int32), (98 : Int32), (109 : Int32), (99 : Int32)] := ⟨O14, F15, F16, (by rw [show latB [(47 : Int32), (97 : Int32), (112 : Int32), (105 : Int32), (47 : Int32), (118 : Int32), (50 : Int32), (47 : Int32), (98 : Int32), (109 : Int32), (99 : Int32)] = [(.int (47 : Int32)), (.int (97 : Int32)), (.int (112 : Int32)), (.int (105 : Int32)), (.int (47 : Int32)), (.int (118 : Int32)), (.int (50 : Int32)), (.int (47 : Int32)), (.int (98 : Int32)), (.int (109 : Int32)), (.int (99 : Int32))] from by decide +kernel]; exact A17), (by decide +kernel : ∀ x ∈ ([(47 : Int32), (97 : Int32), (112 : Int32), (105 : Int32), (47 : Int32), (118 : Int32), (50 : Int32), (47 : Int32), (98 : Int32), (109 : Int32), (99 : Int32)] : List Int32), ¬ x < 0 ∧ ¬ (255 : Int32) < x)⟩
  refine Go.virtual (pc' := 367) W9 (rm_eqs G a1 a10 b3 b11 c2 c12 c4 c13 [xa, xb, xc, xd, xe, xf, xg, xh, xi, xj] [(47 : Int32), (97 : Int32), (112 : Int32), (105 : Int32), (47 : Int32), (118 : Int32), (50 : Int32), (47 : Int32), (98 : Int32), (109 : Int32), (99 : Int32)] S5 S18) (Or.inr (Or.inl (List.mem_of_getElem? (i := 2) rfl))) S5.1 (w_38 G) (w_39 G) (w_41 G) (w_40 G) (w_8 G) (w_42 G) (by decide) [] [2, 3, 0, 1] (σf := []) rfl rfl [(.ref a10)] [] rfl (lenOf pd_14 rfl) rfl rfl d_code_364 rfl (by first | exact Nat.le_of_ble_eq_true rfl | (simp; done) | (simp; omega) | omega) (by first | exact Nat.le_of_ble_eq_true rfl | (simp; done) | (simp; omega) | omega) (by first | exact Nat.le_of_ble_eq_true rfl | (simp; done) | (simp; omega) | omega) (by first | exact Nat.le_of_ble_eq_true rfl | (simp; done) | (simp; omega) | omega) ?_
  rintro _ _ _ T19 ⟨rfl, rfl, rfl⟩ W20
  replace W20 : Wk l Z EL1 ({ frames := 8, cells := 32, slots := 4288, locals := 192 } : Room) "com/example/upfront_quote/upfrontquote/ProductLineServedOnPinLaw" code 15 (some .boolean) "law" X [] [(a10, c12), (b11, c13), (a1, c2), (b3, c4)] T19 6 (84) := W20
  show Go Z EL1 _ _ _ X T19 367 #[.val (.int sel), .val (.int pos), .val (.int chi), .val (.int ext), .val (.int mode), .val (.int sk), .val (.int va), .val (.int vb), .val (.ref ac), .val (.int nat), .val (.int mm), .val (.int (10 : Int32)), .val (.ref a1), .val (.null), .unset] [(.int (if ([xa, xb, xc, xd, xe, xf, xg, xh, xi, xj] : List Int32) = [(47 : Int32), (97 : Int32), (112 : Int32), (105 : Int32), (47 : Int32), (118 : Int32), (50 : Int32), (47 : Int32), (98 : Int32), (109 : Int32), (99 : Int32)] then 1 else 0))]
  refine Go.if_eq (pc' := 370) W20 378 d_code_367 (by decide) rfl (fun (c21 : (if ([xa, xb, xc, xd, xe, xf, xg, xh, xi, xj] : List Int32) = [(47 : Int32), (97 : Int32), (112 : Int32), (105 : Int32), (47 : Int32), (118 : Int32), (50 : Int32), (47 : Int32), (98 : Int32), (109 : Int32), (99 : Int32)] then 1 else 0) = 0) => ?_) (fun (c21 : ¬ ((if ([xa, xb, xc, xd, xe, xf, xg, xh, xi, xj] : List Int32) = [(47 : Int32), (97 : Int32), (112 : Int32), (105 : Int32), (47 : Int32), (118 : Int32), (50 : Int32), (47 : Int32), (98 : Int32), (109 : Int32), (99 : Int32)] then 1 else 0) = 0)) => ?_)
  · refine Go.aload (pc' := 380) W20 d_code_378 rfl rfl rfl ?_
    refine Go.ldcStr (pc' := 382) W20 G.2.1 (w_102 G) (strAtoms G) (by decide) (bs := [(.int (47 : Int32)), (.int (97 : Int32)), (.int (112 : Int32)), (.int (105 : Int32)), (.int (47 : Int32)), (.int (118 : Int32)), (.int (50 : Int32)), (.int (47 : Int32)), (.int (122 : Int32)), (.int (101 : Int32)), (.int (99 : Int32))]) (z := 11) (by decide +kernel) (by decide) (by decide) (by decide) d_code_380 rfl (m := 44) (by decide +kernel) (by decide) (by first | exact Nat.le_of_ble_eq_true rfl | (simp; done) | (simp; omega) | omega) (by first | exact Nat.le_of_ble_eq_true rfl | (simp; done) | (simp; omega) | omega) (fun T22 a24 b25 c26 c27 W23 O28 F29 F30 A31 => ?_)
    replace W23 : Wk l Z EL1 ({ frames := 8, cells := 32, slots := 4288, locals := 192 } : Room) "com/example/upfront_quote/upfrontquote/ProductLineServedOnPinLaw" code 15 (some .boolean) "law" X [] [(a24, c26), (b25, c27), (a10, c12), (b11, c13), (a1, c2), (b3, c4)] T22 8 (132) := W23
    have S32 : StrL Z c26 b25 c27 [(47 : Int32), (97 : Int32), (112 : Int32), (105 : Int32), (47 : Int32), (118 : Int32), (50 : Int32), (47 : Int32), (122 : Int32), (101 : Int32), (99 : Int32)] := ⟨O28, F29, F30, (by rw [show latB [(47 : Int32), (97 : Int32), (112 : Int32), (105 : Int32), (47 : Int32), (118 : Int32), (50 : Int32), (47 : Int32), (122 : Int32), (101 : Int32), (99 : Int32)] = [(.int (47 : Int32)), (.int (97 : Int32)), (.int (112 : Int32)), (.int (105 : Int32)), (.int (47 : Int32)), (.int (118 : Int32)), (.int (50 : Int32)), (.int (47 : Int32)), (.int (122 : Int32)), (.int (101 : Int32)), (.int (99 : Int32))] from by decide +kernel]; exact A31), (by decide +kernel : ∀ x ∈ ([(47 : Int32), (97 : Int32), (112 : Int32), (105 : Int32), (47 : Int32), (118 : Int32), (50 : Int32), (47 : Int32), (122 : Int32), (101 : Int32), (99 : Int32)] : List Int32), ¬ x < 0 ∧ ¬ (255 : Int32) < x)⟩
    refine Go.virtual (pc' := 385) W23 (rm_eqs G a1 a24 b3 b25 c2 c26 c4 c27 [xa, xb, xc, xd, xe, xf, xg, xh, xi, xj] [(47 : Int32), (97 : Int32), (112 : Int32), (105 : Int32), (47 : Int32), (118 : Int32), (50 : Int32), (47 : Int32), (122 : Int32), (101 : Int32), (99 : Int32)] S5 S32) (Or.inr (Or.inl (List.mem_of_getElem? (i := 4) rfl))) S5.1 (w_38 G) (w_39 G) (w_41 G) (w_40 G) (w_8 G) (w_42 G) (by decide) [] [4, 5, 0, 1] (σf := []) rfl rfl [(.ref a24)] [] rfl (lenOf pd_14 rfl) rfl rfl d_code_382 rfl (by first | exact Nat.le_of_ble_eq_true rfl | (simp; done) | (simp; omega) | omega) (by first | exact Nat.le_of_ble_eq_true rfl | (simp; done) | (simp; omega) | omega) (by first | exact Nat.le_of_ble_eq_true rfl | (simp; done) | (simp; omega) | omega) (by first | exact Nat.le_of_ble_eq_true rfl | (simp; done) | (simp; omega) | omega) ?_
    rintro _ _ _ T33 ⟨rfl, rfl, rfl⟩ W34
    replace W34 : Wk l Z EL1 ({ frames := 8, cells := 32, slots := 4288, locals := 192 } : Room) "com/example/upfront_quote/upfrontquote/ProductLineServedOnPinLaw" code 15 (some .boolean) "law" X [] [(a24, c26), (b25, c27), (a10, c12), (b11, c13), (a1, c2), (b3, c4)] T33 8 (132) := W34
    show Go Z EL1 _ _ _ X T33 385 #[.val (.int sel), .val (.int pos), .val (.int chi), .val (.int ext), .val (.int mode), .val (.int sk), .val (.int va), .val (.int vb), .val (.ref ac), .val (.int nat), .val (.int mm), .val (.int (10 : Int32)), .val (.ref a1), .val (.null), .unset] [(.int (if ([xa, xb, xc, xd, xe, xf, xg, xh, xi, xj] : List Int32) = [(47 : Int32), (97 : Int32), (112 : Int32), (105 : Int32), (47 : Int32), (118 : Int32), (50 : Int32), (47 : Int32), (122 : Int32), (101 : Int32), (99 : Int32)] then 1 else 0))]
    refine Go.if_eq (pc' := 388) W34 396 d_code_385 (by decide) rfl (fun (c35 : (if ([xa, xb, xc, xd, xe, xf, xg, xh, xi, xj] : List Int32) = [(47 : Int32), (97 : Int32), (112 : Int32), (105 : Int32), (47 : Int32), (118 : Int32), (50 : Int32), (47 : Int32), (122 : Int32), (101 : Int32), (99 : Int32)] then 1 else 0) = 0) => ?_) (fun (c35 : ¬ ((if ([xa, xb, xc, xd, xe, xf, xg, xh, xi, xj] : List Int32) = [(47 : Int32), (97 : Int32), (112 : Int32), (105 : Int32), (47 : Int32), (118 : Int32), (50 : Int32), (47 : Int32), (122 : Int32), (101 : Int32), (99 : Int32)] then 1 else 0) = 0)) => ?_)
    · refine Go.aload (pc' := 398) W34 d_code_396 rfl rfl rfl ?_
      refine Go.ldcStr (pc' := 400) W34 G.2.1 (w_103 G) (strAtoms G) (by decide) (bs := [(.int (47 : Int32)), (.int (97 : Int32)), (.int (112 : Int32)), (.int (105 : Int32)), (.int (47 : Int32)), (.int (118 : Int32)), (.int (50 : Int32)), (.int (47 : Int32)), (.int (118 : Int32)), (.int (109 : Int32))]) (z := 10) (by decide +kernel) (by decide) (by decide) (by decide) d_code_398 rfl (m := 40) (by decide +kernel) (by decide) (by first | exact Nat.le_of_ble_eq_true rfl | (simp; done) | (simp; omega) | omega) (by first | exact Nat.le_of_ble_eq_true rfl | (simp; done) | (simp; omega) | omega) (fun T36 a38 b39 c40 c41 W37 O42 F43 F44 A45 => ?_)
      replace W37 : Wk l Z EL1 ({ frames := 8, cells := 32, slots := 4288, locals := 192 } : Room) "com/example/upfront_quote/upfrontquote/ProductLineServedOnPinLaw" code 15 (some .boolean) "law" X [] [(a38, c40), (b39, c41), (a24, c26), (b25, c27), (a10, c12), (b11, c13), (a1, c2), (b3, c4)] T36 10 (176) := W37
      have S46 : StrL Z c40 b39 c41 [(47 : Int32), (97 : Int32), (112 : Int32), (105 : Int32), (47 : Int32), (118 : Int32), (50 : Int32), (47 : Int32), (118 : Int32), (109 : Int32)] := ⟨O42, F43, F44, (by rw [show latB [(47 : Int32), (97 : Int32), (112 : Int32), (105 : Int32), (47 : Int32), (118 : Int32), (50 : Int32), (47 : Int32), (118 : Int32), (109 : Int32)] = [(.int (47 : Int32)), (.int (97 : Int32)), (.int (112 : Int32)), (.int (105 : Int32)), (.int (47 : Int32)), (.int (118 : Int32)), (.int (50 : Int32)), (.int (47 : Int32)), (.int (118 : Int32)), (.int (109 : Int32))] from by decide +kernel]; exact A45), (by decide +kernel : ∀ x ∈ ([(47 : Int32), (97 : Int32), (112 : Int32), (105 : Int32), (47 : Int32), (118 : Int32), (50 : Int32), (47 : Int32), (118 : Int32), (109 : Int32)] : List Int32), ¬ x < 0 ∧ ¬ (255 : Int32) < x)⟩
      refine Go.virtual (pc' := 403) W37 (rm_eqs G a1 a38 b3 b39 c2 c40 c4 c41 [xa, xb, xc, xd, xe, xf, xg, xh, xi, xj] [(47 : Int32), (97 : Int32), (112 : Int32), (105 : Int32), (47 : Int32), (118 : Int32), (50 : Int32), (47 : Int32), (118 : Int32), (109 : Int32)] S5 S46) (Or.inr (Or.inl (List.mem_of_getElem? (i := 6) rfl))) S5.1 (w_38 G) (w_39 G) (w_41 G) (w_40 G) (w_8 G) (w_42 G) (by decide) [] [6, 7, 0, 1] (σf := []) rfl rfl [(.ref a38)] [] rfl (lenOf pd_14 rfl) rfl rfl d_code_400 rfl (by first | exact Nat.le_of_ble_eq_true rfl | (simp; done) | (simp; omega) | omega) (by first | exact Nat.le_of_ble_eq_true rfl | (simp; done) | (simp; omega) | omega) (by first | exact Nat.le_of_ble_eq_true rfl | (simp; done) | (simp; omega) | omega) (by first | exact Nat.le_of_ble_eq_true rfl | (simp; done) | (simp; omega) | omega) ?_
      rintro _ _ _ T47 ⟨rfl, rfl, rfl⟩ W48
      replace W48 : Wk l Z EL1 ({ frames := 8, cells := 32, slots := 4288, locals := 192 } : Room) "com/example/upfront_quote/upfrontquote/ProductLineServedOnPinLaw" code 15 (some .boolean) "law" X [] [(a38, c40), (b39, c41), (a24, c26), (b25, c27), (a10, c12), (b11, c13), (a1, c2), (b3, c4)] T47 10 (176) := W48
      show Go Z EL1 _ _ _ X T47 403 #[.val (.int sel), .val (.int pos), .val (.int chi), .val (.int ext), .val (.int mode), .val (.int sk), .val (.int va), .val (.int vb), .val (.ref ac), .val (.int nat), .val (.int mm), .val (.int (10 : Int32)), .val (.ref a1), .val (.null), .unset] [(.int (if ([xa, xb, xc, xd, xe, xf, xg, xh, xi, xj] : List Int32) = [(47 : Int32), (97 : Int32), (112 : Int32), (105 : Int32), (47 : Int32), (118 : Int32), (50 : Int32), (47 : Int32), (118 : Int32), (109 : Int32)] then 1 else 0))]
      refine Go.if_eq (pc' := 406) W48 411 d_code_403 (by decide) rfl (fun (c49 : (if ([xa, xb, xc, xd, xe, xf, xg, xh, xi, xj] : List Int32) = [(47 : Int32), (97 : Int32), (112 : Int32), (105 : Int32), (47 : Int32), (118 : Int32), (50 : Int32), (47 : Int32), (118 : Int32), (109 : Int32)] then 1 else 0) = 0) => ?_) (fun (c49 : ¬ ((if ([xa, xb, xc, xd, xe, xf, xg, xh, xi, xj] : List Int32) = [(47 : Int32), (97 : Int32), (112 : Int32), (105 : Int32), (47 : Int32), (118 : Int32), (50 : Int32), (47 : Int32), (118 : Int32), (109 : Int32)] then 1 else 0) = 0)) => ?_)
      · refine Go.aload (pc' := 413) W48 d_code_411 rfl rfl rfl ?_
        refine Go.static (pc' := 416) W48 (rm_srv G adA adB adC adD adE adF adG adH adI adJ ceA ceB ceC ceD ceE ceF ceG ceH ceI ceJ hzA obA fdA hzB obB arA hzC obC fdC hzD obD fdE hzE slA hzF hzG slB hzH hzI slC hzJ stA stB stC stD em cem hzem obem fdem stem a1 b3 c2 c4 [xa, xb, xc, xd, xe, xf, xg, xh, xi, xj] S5) (w_51 G) (w_52 G) (w_49 G) (w_53 G) (by decide) [] [6, 7] (σf := []) rfl rfl [(.ref a1)] [] rfl (lenOf pd_20 rfl) rfl rfl d_code_413 rfl (by first | exact Nat.le_of_ble_eq_true rfl | (simp; done) | (simp; omega) | omega) (by first | exact Nat.le_of_ble_eq_true rfl | (simp; done) | (simp; omega) | omega) (by first | exact Nat.le_of_ble_eq_true rfl | (simp; done) | (simp; omega) | omega) (by first | exact Nat.le_of_ble_eq_true rfl | (simp; done) | (simp; omega) | omega) ?_
        rintro _ _ _ T54 ⟨a50, c51, rfl, rfl, rfl, O52, F53⟩ W55
        replace W55 : Wk l Z EL1 ({ frames := 8, cells := 32, slots := 4288, locals := 192 } : Room) "com/example/upfront_quote/upfrontquote/ProductLineServedOnPinLaw" code 15 (some .boolean) "law" X [] [(a50, c51), (a38, c40), (b39, c41), (a24, c26), (b25, c27), (a10, c12), (b11, c13), (a1, c2), (b3, c4)] T54 12 (180) := W55
        show Go Z EL1 _ _ _ X T54 416 #[.val (.int sel), .val (.int pos), .val (.int chi), .val (.int ext), .val (.int mode), .val (.int sk), .val (.int va), .val (.int vb), .val (.ref ac), .val (.int nat), .val (.int mm), .val (.int (10 : Int32)), .val (.ref a1), .val (.null), .unset] [(.ref a50)]
        rw [fsn, if_neg (ite10_z.mp c21), if_neg (ite10_z.mp c35), if_neg (ite10_z.mp c49)] at F53
        refine Go.astore (pc' := 418) W55 #[.val (.int sel), .val (.int pos), .val (.int chi), .val (.int ext), .val (.int mode), .val (.int sk), .val (.int va), .val (.int vb), .val (.ref ac), .val (.int nat), .val (.int mm), .val (.int (10 : Int32)), .val (.ref a1), .val (.null), .val (.ref a50)] d_code_416 rfl rfl rfl ?_
        refine Go.aload (pc' := 420) W55 d_code_418 rfl rfl rfl ?_
        refine Go.ifnonnull_no (pc' := 423) W55 d_code_420 rfl ?_
        refine Go.aload (pc' := 425) W55 d_code_423 rfl rfl rfl ?_
        refine Go.virtual (pc' := 428) W55 (rm_isp_z G a50 c51 F53) (Or.inr (Or.inl (List.mem_of_getElem? (i := 0) rfl))) O52 (w_91 G) (w_92 G) (w_94 G) (w_93 G) (w_76 G) (w_95 G) (by decide) [] [0] (σf := []) rfl rfl [] [] rfl (lenOf pd_21 rfl) rfl rfl d_code_425 rfl (by first | exact Nat.le_of_ble_eq_true rfl | (simp; done) | (simp; omega) | omega) (by first | exact Nat.le_of_ble_eq_true rfl | (simp; done) | (simp; omega) | omega) (by first | exact Nat.le_of_ble_eq_true rfl | (simp; done) | (simp; omega) | omega) (by first | exact Nat.le_of_ble_eq_true rfl | (simp; done) | (simp; omega) | omega) ?_
        rintro _ _ _ T56 ⟨rfl, rfl, rfl⟩ W57
        replace W57 : Wk l Z EL1 ({ frames := 8, cells := 32, slots := 4288, locals := 192 } : Room) "com/example/upfront_quote/upfrontquote/ProductLineServedOnPinLaw" code 15 (some .boolean) "law" X [] [(a50, c51), (a38, c40), (b39, c41), (a24, c26), (b25, c27), (a10, c12), (b11, c13), (a1, c2), (b3, c4)] T56 12 (180) := W57
        show Go Z EL1 _ _ _ X T56 428 #[.val (.int sel), .val (.int pos), .val (.int chi), .val (.int ext), .val (.int mode), .val (.int sk), .val (.int va), .val (.int vb), .val (.ref ac), .val (.int nat), .val (.int mm), .val (.int (10 : Int32)), .val (.ref a1), .val (.null), .val (.ref a50)] [(.int (0 : Int32))]
        refine Go.if_ne (pc' := 431) W57 435 d_code_428 (by decide) rfl (fun q => absurd (by decide) q) (fun _ => ?_)
        refine Go.iconst (pc' := 432) W57 (1 : Int32) d_code_431 (by decide) rfl ?_
        refine Go.goto W57 436 d_code_432 (by decide) ?_
        refine Go.nret (z' := (1 : Int32)) W57 (by simp) (by decide) d_code_436 (by first | exact Nat.le_of_ble_eq_true rfl | (simp; done) | (simp; omega) | omega) (by first | exact Nat.le_of_ble_eq_true rfl | (simp; done) | (simp; omega) | omega) ?_
        rfl
      · refine Go.getstatic (pc' := 409) W48 (w_108 G) Via.refl stD d_code_406 rfl (fun T58 W59 => ?_)
        refine Go.astore (pc' := 411) W59 #[.val (.int sel), .val (.int pos), .val (.int chi), .val (.int ext), .val (.int mode), .val (.int sk), .val (.int va), .val (.int vb), .val (.ref ac), .val (.int nat), .val (.int mm), .val (.int (10 : Int32)), .val (.ref a1), .val (.ref adD), .unset] d_code_409 rfl rfl rfl ?_
        refine Go.aload (pc' := 413) W59 d_code_411 rfl rfl rfl ?_
        refine Go.static (pc' := 416) W59 (rm_srv G adA adB adC adD adE adF adG adH adI adJ ceA ceB ceC ceD ceE ceF ceG ceH ceI ceJ hzA obA fdA hzB obB arA hzC obC fdC hzD obD fdE hzE slA hzF hzG slB hzH hzI slC hzJ stA stB stC stD em cem hzem obem fdem stem a1 b3 c2 c4 [xa, xb, xc, xd, xe, xf, xg, xh, xi, xj] S5) (w_51 G) (w_52 G) (w_49 G) (w_53 G) (by decide) [] [6, 7] (σf := []) rfl rfl [(.ref a1)] [] rfl (lenOf pd_20 rfl) rfl rfl d_code_413 rfl (by first | exact Nat.le_of_ble_eq_true rfl | (simp; done) | (simp; omega) | omega) (by first | exact Nat.le_of_ble_eq_true rfl | (simp; done) | (simp; omega) | omega) (by first | exact Nat.le_of_ble_eq_true rfl | (simp; done) | (simp; omega) | omega) (by first | exact Nat.le_of_ble_eq_true rfl | (simp; done) | (simp; omega) | omega) ?_
        rintro _ _ _ T64 ⟨a60, c61, rfl, rfl, rfl, O62, F63⟩ W65
        replace W65 : Wk l Z EL1 ({ frames := 8, cells := 32, slots := 4288, locals := 192 } : Room) "com/example/upfront_quote/upfrontquote/ProductLineServedOnPinLaw" code 15 (some .boolean) "law" X [] [(a60, c61), (a38, c40), (b39, c41), (a24, c26), (b25, c27), (a10, c12), (b11, c13), (a1, c2), (b3, c4)] T64 12 (180) := W65
        show Go Z EL1 _ _ _ X T64 416 #[.val (.int sel), .val (.int pos), .val (.int chi), .val (.int ext), .val (.int mode), .val (.int sk), .val (.int va), .val (.int vb), .val (.ref ac), .val (.int nat), .val (.int mm), .val (.int (10 : Int32)), .val (.ref a1), .val (.ref adD), .unset] [(.ref a60)]
        rw [fsn, if_neg (ite10_z.mp c21), if_neg (ite10_z.mp c35), if_pos (Classical.not_not.mp (fun e => c49 (ite10_z.mpr e)))] at F63
        refine Go.astore (pc' := 418) W65 #[.val (.int sel), .val (.int pos), .val (.int chi), .val (.int ext), .val (.int mode), .val (.int sk), .val (.int va), .val (.int vb), .val (.ref ac), .val (.int nat), .val (.int mm), .val (.int (10 : Int32)), .val (.ref a1), .val (.ref adD), .val (.ref a60)] d_code_416 rfl rfl rfl ?_
        refine Go.aload (pc' := 420) W65 d_code_418 rfl rfl rfl ?_
        refine Go.ifnonnull_yes W65 437 d_code_420 (by decide) ?_
        refine Go.aload (pc' := 439) W65 d_code_437 rfl rfl rfl ?_
        refine Go.virtual (pc' := 442) W65 (rm_isp_o G a60 adD c61 F63) (Or.inr (Or.inl (List.mem_of_getElem? (i := 0) rfl))) O62 (w_91 G) (w_92 G) (w_94 G) (w_93 G) (w_76 G) (w_95 G) (by decide) [] [0] (σf := []) rfl rfl [] [] rfl (lenOf pd_21 rfl) rfl rfl d_code_439 rfl (by first | exact Nat.le_of_ble_eq_true rfl | (simp; done) | (simp; omega) | omega) (by first | exact Nat.le_of_ble_eq_true rfl | (simp; done) | (simp; omega) | omega) (by first | exact Nat.le_of_ble_eq_true rfl | (simp; done) | (simp; omega) | omega) (by first | exact Nat.le_of_ble_eq_true rfl | (simp; done) | (simp; omega) | omega) ?_
        rintro _ _ _ T66 ⟨rfl, rfl, rfl⟩ W67
        replace W67 : Wk l Z EL1 ({ frames := 8, cells := 32, slots := 4288, locals := 192 } : Room) "com/example/upfront_quote/upfrontquote/ProductLineServedOnPinLaw" code 15 (some .boolean) "law" X [] [(a60, c61), (a38, c40), (b39, c41), (a24, c26), (b25, c27), (a10, c12), (b11, c13), (a1, c2), (b3, c4)] T66 12 (180) := W67
        show Go Z EL1 _ _ _ X T66 442 #[.val (.int sel), .val (.int pos), .val (.int chi), .val (.int ext), .val (.int mode), .val (.int sk), .val (.int va), .val (.int vb), .val (.ref ac), .val (.int nat), .val (.int mm), .val (.int (10 : Int32)), .val (.ref a1), .val (.ref adD), .val (.ref a60)] [(.int (1 : Int32))]
        refine Go.if_eq (pc' := 445) W67 459 d_code_442 (by decide) rfl (fun q => absurd q (by decide)) (fun _ => ?_)
        refine Go.aload (pc' := 447) W67 d_code_445 rfl rfl rfl ?_
        refine Go.virtual (pc' := 450) W67 (rm_get_o G a60 adD c61 F63) (Or.inr (Or.inl (List.mem_of_getElem? (i := 0) rfl))) O62 (w_96 G) (w_97 G) (w_99 G) (w_98 G) (w_76 G) (w_100 G) (by decide) [] [0] (σf := []) rfl rfl [] [] rfl (lenOf pd_22 rfl) rfl rfl d_code_447 rfl (by first | exact Nat.le_of_ble_eq_true rfl | (simp; done) | (simp; omega) | omega) (by first | exact Nat.le_of_ble_eq_true rfl | (simp; done) | (simp; omega) | omega) (by first | exact Nat.le_of_ble_eq_true rfl | (simp; done) | (simp; omega) | omega) (by first | exact Nat.le_of_ble_eq_true rfl | (simp; done) | (simp; omega) | omega) ?_
        rintro _ _ _ T68 ⟨rfl, rfl, rfl⟩ W69
        replace W69 : Wk l Z EL1 ({ frames := 8, cells := 32, slots := 4288, locals := 192 } : Room) "com/example/upfront_quote/upfrontquote/ProductLineServedOnPinLaw" code 15 (some .boolean) "law" X [] [(a60, c61), (a38, c40), (b39, c41), (a24, c26), (b25, c27), (a10, c12), (b11, c13), (a1, c2), (b3, c4)] T68 12 (180) := W69
        show Go Z EL1 _ _ _ X T68 450 #[.val (.int sel), .val (.int pos), .val (.int chi), .val (.int ext), .val (.int mode), .val (.int sk), .val (.int va), .val (.int vb), .val (.ref ac), .val (.int nat), .val (.int mm), .val (.int (10 : Int32)), .val (.ref a1), .val (.ref adD), .val (.ref a60)] [(.ref adD)]
        refine Go.aload (pc' := 452) W69 d_code_450 rfl rfl rfl ?_
        refine Go.acmp_ne (pc' := 455) W69 459 rfl rfl d_code_452 (by decide) rfl (fun hq => absurd rfl hq) (fun _ => ?_)
        refine Go.iconst (pc' := 456) W69 (1 : Int32) d_code_455 (by decide) rfl ?_
        refine Go.goto W69 460 d_code_456 (by decide) ?_
        refine Go.nret (z' := (1 : Int32)) W69 (by simp) (by decide) d_code_460 (by first | exact Nat.le_of_ble_eq_true rfl | (simp; done) | (simp; omega) | omega) (by first | exact Nat.le_of_ble_eq_true rfl | (simp; done) | (simp; omega) | omega) ?_
        rfl
    · refine Go.getstatic (pc' := 391) W34 (w_109 G) Via.refl stC d_code_388 rfl (fun T70 W71 => ?_)
      refine Go.astore (pc' := 393) W71 #[.val (.int sel), .val (.int pos), .val (.int chi), .val (.int ext), .val (.int mode), .val (.int sk), .val (.int va), .val (.int vb), .val (.ref ac), .val (.int nat), .val (.int mm), .val (.int (10 : Int32)), .val (.ref a1), .val (.ref adC), .unset] d_code_391 rfl rfl rfl ?_
      refine Go.goto W71 411 d_code_393 (by decide) ?_
      refine Go.aload (pc' := 413) W71 d_code_411 rfl rfl rfl ?_
      refine Go.static (pc' := 416) W71 (rm_srv G adA adB adC adD adE adF adG adH adI adJ ceA ceB ceC ceD ceE ceF ceG ceH ceI ceJ hzA obA fdA hzB obB arA hzC obC fdC hzD obD fdE hzE slA hzF hzG slB hzH hzI slC hzJ stA stB stC stD em cem hzem obem fdem stem a1 b3 c2 c4 [xa, xb, xc, xd, xe, xf, xg, xh, xi, xj] S5) (w_51 G) (w_52 G) (w_49 G) (w_53 G) (by decide) [] [4, 5] (σf := []) rfl rfl [(.ref a1)] [] rfl (lenOf pd_20 rfl) rfl rfl d_code_413 rfl (by first | exact Nat.le_of_ble_eq_true rfl | (simp; done) | (simp; omega) | omega) (by first | exact Nat.le_of_ble_eq_true rfl | (simp; done) | (simp; omega) | omega) (by first | exact Nat.le_of_ble_eq_true rfl | (simp; done) | (simp; omega) | omega) (by first | exact Nat.le_of_ble_eq_true rfl | (simp; done) | (simp; omega) | omega) ?_
      rintro _ _ _ T76 ⟨a72, c73, rfl, rfl, rfl, O74, F75⟩ W77
      replace W77 : Wk l Z EL1 ({ frames := 8, cells := 32, slots := 4288, locals := 192 } : Room) "com/example/upfront_quote/upfrontquote/ProductLineServedOnPinLaw" code 15 (some .boolean) "law" X [] [(a72, c73), (a24, c26), (b25, c27), (a10, c12), (b11, c13), (a1, c2), (b3, c4)] T76 10 (136) := W77
      show Go Z EL1 _ _ _ X T76 416 #[.val (.int sel), .val (.int pos), .val (.int chi), .val (.int ext), .val (.int mode), .val (.int sk), .val (.int va), .val (.int vb), .val (.ref ac), .val (.int nat), .val (.int mm), .val (.int (10 : Int32)), .val (.ref a1), .val (.ref adC), .unset] [(.ref a72)]
      rw [fsn, if_neg (ite10_z.mp c21), if_pos (Classical.not_not.mp (fun e => c35 (ite10_z.mpr e)))] at F75
      refine Go.astore (pc' := 418) W77 #[.val (.int sel), .val (.int pos), .val (.int chi), .val (.int ext), .val (.int mode), .val (.int sk), .val (.int va), .val (.int vb), .val (.ref ac), .val (.int nat), .val (.int mm), .val (.int (10 : Int32)), .val (.ref a1), .val (.ref adC), .val (.ref a72)] d_code_416 rfl rfl rfl ?_
      refine Go.aload (pc' := 420) W77 d_code_418 rfl rfl rfl ?_
      refine Go.ifnonnull_yes W77 437 d_code_420 (by decide) ?_
      refine Go.aload (pc' := 439) W77 d_code_437 rfl rfl rfl ?_
      refine Go.virtual (pc' := 442) W77 (rm_isp_o G a72 adC c73 F75) (Or.inr (Or.inl (List.mem_of_getElem? (i := 0) rfl))) O74 (w_91 G) (w_92 G) (w_94 G) (w_93 G) (w_76 G) (w_95 G) (by decide) [] [0] (σf := []) rfl rfl [] [] rfl (lenOf pd_21 rfl) rfl rfl d_code_439 rfl (by first | exact Nat.le_of_ble_eq_true rfl | (simp; done) | (simp; omega) | omega) (by first | exact Nat.le_of_ble_eq_true rfl | (simp; done) | (simp; omega) | omega) (by first | exact Nat.le_of_ble_eq_true rfl | (simp; done) | (simp; omega) | omega) (by first | exact Nat.le_of_ble_eq_true rfl | (simp; done) | (simp; omega) | omega) ?_
      rintro _ _ _ T78 ⟨rfl, rfl, rfl⟩ W79
      replace W79 : Wk l Z EL1 ({ frames := 8, cells := 32, slots := 4288, locals := 192 } : Room) "com/example/upfront_quote/upfrontquote/ProductLineServedOnPinLaw" code 15 (some .boolean) "law" X [] [(a72, c73), (a24, c26), (b25, c27), (a10, c12), (b11, c13), (a1, c2), (b3, c4)] T78 10 (136) := W79
      show Go Z EL1 _ _ _ X T78 442 #[.val (.int sel), .val (.int pos), .val (.int chi), .val (.int ext), .val (.int mode), .val (.int sk), .val (.int va), .val (.int vb), .val (.ref ac), .val (.int nat), .val (.int mm), .val (.int (10 : Int32)), .val (.ref a1), .val (.ref adC), .val (.ref a72)] [(.int (1 : Int32))]
      refine Go.if_eq (pc' := 445) W79 459 d_code_442 (by decide) rfl (fun q => absurd q (by decide)) (fun _ => ?_)
      refine Go.aload (pc' := 447) W79 d_code_445 rfl rfl rfl ?_
      refine Go.virtual (pc' := 450) W79 (rm_get_o G a72 adC c73 F75) (Or.inr (Or.inl (List.mem_of_getElem? (i := 0) rfl))) O74 (w_96 G) (w_97 G) (w_99 G) (w_98 G) (w_76 G) (w_100 G) (by decide) [] [0] (σf := []) rfl rfl [] [] rfl (lenOf pd_22 rfl) rfl rfl d_code_447 rfl (by first | exact Nat.le_of_ble_eq_true rfl | (simp; done) | (simp; omega) | omega) (by first | exact Nat.le_of_ble_eq_true rfl | (simp; done) | (simp; omega) | omega) (by first | exact Nat.le_of_ble_eq_true rfl | (simp; done) | (simp; omega) | omega) (by first | exact Nat.le_of_ble_eq_true rfl | (simp; done) | (simp; omega) | omega) ?_
      rintro _ _ _ T80 ⟨rfl, rfl, rfl⟩ W81
      replace W81 : Wk l Z EL1 ({ frames := 8, cells := 32, slots := 4288, locals := 192 } : Room) "com/example/upfront_quote/upfrontquote/ProductLineServedOnPinLaw" code 15 (some .boolean) "law" X [] [(a72, c73), (a24, c26), (b25, c27), (a10, c12), (b11, c13), (a1, c2), (b3, c4)] T80 10 (136) := W81
      show Go Z EL1 _ _ _ X T80 450 #[.val (.int sel), .val (.int pos), .val (.int chi), .val (.int ext), .val (.int mode), .val (.int sk), .val (.int va), .val (.int vb), .val (.ref ac), .val (.int nat), .val (.int mm), .val (.int (10 : Int32)), .val (.ref a1), .val (.ref adC), .val (.ref a72)] [(.ref adC)]
      refine Go.aload (pc' := 452) W81 d_code_450 rfl rfl rfl ?_
      refine Go.acmp_ne (pc' := 455) W81 459 rfl rfl d_code_452 (by decide) rfl (fun hq => absurd rfl hq) (fun _ => ?_)
      refine Go.iconst (pc' := 456) W81 (1 : Int32) d_code_455 (by decide) rfl ?_
      refine Go.goto W81 460 d_code_456 (by decide) ?_
      refine Go.nret (z' := (1 : Int32)) W81 (by simp) (by decide) d_code_460 (by first | exact Nat.le_of_ble_eq_true rfl | (simp; done) | (simp; omega) | omega) (by first | exact Nat.le_of_ble_eq_true rfl | (simp; done) | (simp; omega) | omega) ?_
      rfl
  · refine Go.getstatic (pc' := 373) W20 (w_48 G) Via.refl stA d_code_370 rfl (fun T82 W83 => ?_)
    refine Go.astore (pc' := 375) W83 #[.val (.int sel), .val (.int pos), .val (.int chi), .val (.int ext), .val (.int mode), .val (.int sk), .val (.int va), .val (.int vb), .val (.ref ac), .val (.int nat), .val (.int mm), .val (.int (10 : Int32)), .val (.ref a1), .val (.ref adA), .unset] d_code_373 rfl rfl rfl ?_
    refine Go.goto W83 411 d_code_375 (by decide) ?_
    refine Go.aload (pc' := 413) W83 d_code_411 rfl rfl rfl ?_
    refine Go.static (pc' := 416) W83 (rm_srv G adA adB adC adD adE adF adG adH adI adJ ceA ceB ceC ceD ceE ceF ceG ceH ceI ceJ hzA obA fdA hzB obB arA hzC obC fdC hzD obD fdE hzE slA hzF hzG slB hzH hzI slC hzJ stA stB stC stD em cem hzem obem fdem stem a1 b3 c2 c4 [xa, xb, xc, xd, xe, xf, xg, xh, xi, xj] S5) (w_51 G) (w_52 G) (w_49 G) (w_53 G) (by decide) [] [2, 3] (σf := []) rfl rfl [(.ref a1)] [] rfl (lenOf pd_20 rfl) rfl rfl d_code_413 rfl (by first | exact Nat.le_of_ble_eq_true rfl | (simp; done) | (simp; omega) | omega) (by first | exact Nat.le_of_ble_eq_true rfl | (simp; done) | (simp; omega) | omega) (by first | exact Nat.le_of_ble_eq_true rfl | (simp; done) | (simp; omega) | omega) (by first | exact Nat.le_of_ble_eq_true rfl | (simp; done) | (simp; omega) | omega) ?_
    rintro _ _ _ T88 ⟨a84, c85, rfl, rfl, rfl, O86, F87⟩ W89
    replace W89 : Wk l Z EL1 ({ frames := 8, cells := 32, slots := 4288, locals := 192 } : Room) "com/example/upfront_quote/upfrontquote/ProductLineServedOnPinLaw" code 15 (some .boolean) "law" X [] [(a84, c85), (a10, c12), (b11, c13), (a1, c2), (b3, c4)] T88 8 (88) := W89
    show Go Z EL1 _ _ _ X T88 416 #[.val (.int sel), .val (.int pos), .val (.int chi), .val (.int ext), .val (.int mode), .val (.int sk), .val (.int va), .val (.int vb), .val (.ref ac), .val (.int nat), .val (.int mm), .val (.int (10 : Int32)), .val (.ref a1), .val (.ref adA), .unset] [(.ref a84)]
    rw [fsn, if_pos (Classical.not_not.mp (fun e => c21 (ite10_z.mpr e)))] at F87
    refine Go.astore (pc' := 418) W89 #[.val (.int sel), .val (.int pos), .val (.int chi), .val (.int ext), .val (.int mode), .val (.int sk), .val (.int va), .val (.int vb), .val (.ref ac), .val (.int nat), .val (.int mm), .val (.int (10 : Int32)), .val (.ref a1), .val (.ref adA), .val (.ref a84)] d_code_416 rfl rfl rfl ?_
    refine Go.aload (pc' := 420) W89 d_code_418 rfl rfl rfl ?_
    refine Go.ifnonnull_yes W89 437 d_code_420 (by decide) ?_
    refine Go.aload (pc' := 439) W89 d_code_437 rfl rfl rfl ?_
    refine Go.virtual (pc' := 442) W89 (rm_isp_o G a84 adA c85 F87) (Or.inr (Or.inl (List.mem_of_getElem? (i := 0) rfl))) O86 (w_91 G) (w_92 G) (w_94 G) (w_93 G) (w_76 G) (w_95 G) (by decide) [] [0] (σf := []) rfl rfl [] [] rfl (lenOf pd_21 rfl) rfl rfl d_code_439 rfl (by first | exact Nat.le_of_ble_eq_true rfl | (simp; done) | (simp; omega) | omega) (by first | exact Nat.le_of_ble_eq_true rfl | (simp; done) | (simp; omega) | omega) (by first | exact Nat.le_of_ble_eq_true rfl | (simp; done) | (simp; omega) | omega) (by first | exact Nat.le_of_ble_eq_true rfl | (simp; done) | (simp; omega) | omega) ?_
    rintro _ _ _ T90 ⟨rfl, rfl, rfl⟩ W91
    replace W91 : Wk l Z EL1 ({ frames := 8, cells := 32, slots := 4288, locals := 192 } : Room) "com/example/upfront_quote/upfrontquote/ProductLineServedOnPinLaw" code 15 (some .boolean) "law" X [] [(a84, c85), (a10, c12), (b11, c13), (a1, c2), (b3, c4)] T90 8 (88) := W91
    show Go Z EL1 _ _ _ X T90 442 #[.val (.int sel), .val (.int pos), .val (.int chi), .val (.int ext), .val (.int mode), .val (.int sk), .val (.int va), .val (.int vb), .val (.ref ac), .val (.int nat), .val (.int mm), .val (.int (10 : Int32)), .val (.ref a1), .val (.ref adA), .val (.ref a84)] [(.int (1 : Int32))]
    refine Go.if_eq (pc' := 445) W91 459 d_code_442 (by decide) rfl (fun q => absurd q (by decide)) (fun _ => ?_)
    refine Go.aload (pc' := 447) W91 d_code_445 rfl rfl rfl ?_
    refine Go.virtual (pc' := 450) W91 (rm_get_o G a84 adA c85 F87) (Or.inr (Or.inl (List.mem_of_getElem? (i := 0) rfl))) O86 (w_96 G) (w_97 G) (w_99 G) (w_98 G) (w_76 G) (w_100 G) (by decide) [] [0] (σf := []) rfl rfl [] [] rfl (lenOf pd_22 rfl) rfl rfl d_code_447 rfl (by first | exact Nat.le_of_ble_eq_true rfl | (simp; done) | (simp; omega) | omega) (by first | exact Nat.le_of_ble_eq_true rfl | (simp; done) | (simp; omega) | omega) (by first | exact Nat.le_of_ble_eq_true rfl | (simp; done) | (simp; omega) | omega) (by first | exact Nat.le_of_ble_eq_true rfl | (simp; done) | (simp; omega) | omega) ?_
    rintro _ _ _ T92 ⟨rfl, rfl, rfl⟩ W93
    replace W93 : Wk l Z EL1 ({ frames := 8, cells := 32, slots := 4288, locals := 192 } : Room) "com/example/upfront_quote/upfrontquote/ProductLineServedOnPinLaw" code 15 (some .boolean) "law" X [] [(a84, c85), (a10, c12), (b11, c13), (a1, c2), (b3, c4)] T92 8 (88) := W93
    show Go Z EL1 _ _ _ X T92 450 #[.val (.int sel), .val (.int pos), .val (.int chi), .val (.int ext), .val (.int mode), .val (.int sk), .val (.int va), .val (.int vb), .val (.ref ac), .val (.int nat), .val (.int mm), .val (.int (10 : Int32)), .val (.ref a1), .val (.ref adA), .val (.ref a84)] [(.ref adA)]
    refine Go.aload (pc' := 452) W93 d_code_450 rfl rfl rfl ?_
    refine Go.acmp_ne (pc' := 455) W93 459 rfl rfl d_code_452 (by decide) rfl (fun hq => absurd rfl hq) (fun _ => ?_)
    refine Go.iconst (pc' := 456) W93 (1 : Int32) d_code_455 (by decide) rfl ?_
    refine Go.goto W93 460 d_code_456 (by decide) ?_
    refine Go.nret (z' := (1 : Int32)) W93 (by simp) (by decide) d_code_460 (by first | exact Nat.le_of_ble_eq_true rfl | (simp; done) | (simp; omega) | omega) (by first | exact Nat.le_of_ble_eq_true rfl | (simp; done) | (simp; omega) | omega) ?_
    rfl
set_option maxRecDepth 65536 in
set_option maxHeartbeats 40000000 in
theorem rm_tail_L {l : Launch} {Z : State} {a0 : Array Value} (G : Cl Z a0) (sel pos chi ext mode : Int32) (sk va vb nat mm : Int32) (adA : Addr) (adB : Addr) (adC : Addr) (adD : Addr) (adE : Addr) (adF : Addr) (adG : Addr) (adH : Addr) (adI : Addr) (adJ : Addr) (ceA : Cell) (ceB : Cell) (ceC : Cell) (ceD : Cell) (ceE : Cell) (ceF : Cell) (ceG : Cell) (ceH : Cell) (ceI : Cell) (ceJ : Cell) (hzA : Z.heap[adA]? = some ceA) (obA : ObjC Z ceA "com/example/upfront_quote/upfrontquote/ProductLine") (fdA : FldC Z ceA "com/example/upfront_quote/upfrontquote/ProductLine" "path" "Ljava/lang/String;" (.ref adE)) (hzB : Z.heap[adB]? = some ceB) (obB : ObjC Z ceB "[Lcom/example/upfront_quote/upfrontquote/ProductLine;") (arA : ArrC Z ceB (.object "com/example/upfront_quote/upfrontquote/ProductLine") [(.ref adA), (.ref adC), (.ref adD)]) (hzC : Z.heap[adC]? = some ceC) (obC : ObjC Z ceC "com/example/upfront_quote/upfrontquote/ProductLine") (fdC : FldC Z ceC "com/example/upfront_quote/upfrontquote/ProductLine" "path" "Ljava/lang/String;" (.ref adG)) (hzD : Z.heap[adD]? = some ceD) (obD : ObjC Z ceD "com/example/upfront_quote/upfrontquote/ProductLine") (fdE : FldC Z ceD "com/example/upfront_quote/upfrontquote/ProductLine" "path" "Ljava/lang/String;" (.ref adI)) (hzE : Z.heap[adE]? = some ceE) (slA : StrL Z ceE adF ceF [(47 : Int32), (97 : Int32), (112 : Int32), (105 : Int32), (47 : Int32), (118 : Int32), (50 : Int32), (47 : Int32), (98 : Int32), (109 : Int32), (99 : Int32)]) (hzF : Z.heap[adF]? = some ceF) (hzG : Z.heap[adG]? = some ceG) (slB : StrL Z ceG adH ceH [(47 : Int32), (97 : Int32), (112 : Int32), (105 : Int32), (47 : Int32), (118 : Int32), (50 : Int32), (47 : Int32), (122 : Int32), (101 : Int32), (99 : Int32)]) (hzH : Z.heap[adH]? = some ceH) (hzI : Z.heap[adI]? = some ceI) (slC : StrL Z ceI adJ ceJ [(47 : Int32), (97 : Int32), (112 : Int32), (105 : Int32), (47 : Int32), (118 : Int32), (50 : Int32), (47 : Int32), (118 : Int32), (109 : Int32)]) (hzJ : Z.heap[adJ]? = some ceJ) (stA : Sta Z Z.heap "com/example/upfront_quote/upfrontquote/ProductLine" "BMC" "Lcom/example/upfront_quote/upfrontquote/ProductLine;" (.ref adA)) (stB : Sta Z Z.heap "com/example/upfront_quote/upfrontquote/ProductLine" "$VALUES" "[Lcom/example/upfront_quote/upfrontquote/ProductLine;" (.ref adB)) (stC : Sta Z Z.heap "com/example/upfront_quote/upfrontquote/ProductLine" "ZEC" "Lcom/example/upfront_quote/upfrontquote/ProductLine;" (.ref adC)) (stD : Sta Z Z.heap "com/example/upfront_quote/upfrontquote/ProductLine" "VM" "Lcom/example/upfront_quote/upfrontquote/ProductLine;" (.ref adD)) (em : Addr) (cem : Cell) (hzem : Z.heap[em]? = some cem) (obem : ObjC Z cem "java/util/Optional") (fdem : FldC Z cem "java/util/Optional" "value" "Ljava/lang/Object;" .null) (stem : Sta Z Z.heap "java/util/Optional" "EMPTY" "Ljava/util/Optional;" (.ref em)) (ac : Addr) (cc : Cell) (xa xb xc xd xe xf xg xh xi xj xk xl : Int32) (hL : Lat [xa, xb, xc, xd, xe, xf, xg, xh, xi, xj, xk, xl]) (A : ArrC Z cc .char [(.int xa), (.int xb), (.int xc), (.int xd), (.int xe), (.int xf), (.int xg), (.int xh), (.int xi), (.int xj), (.int xk), (.int xl)]) {X : Ctx} {T0 : State} (W0 : Wk l Z EL1 ({ frames := 8, cells := 32, slots := 4288, locals := 192 } : Room) "com/example/upfront_quote/upfrontquote/ProductLineServedOnPinLaw" code 15 (some .boolean) "law" X [(ac, cc)] [] T0 1 (12)) :
    Go Z EL1 32 4288 (fun v _ _ => v = some (.int 1)) X T0 348 #[.val (.int sel), .val (.int pos), .val (.int chi), .val (.int ext), .val (.int mode), .val (.int sk), .val (.int va), .val (.int vb), .val (.ref ac), .val (.int nat), .val (.int mm), .val (.int (11 : Int32)), .unset, .unset, .unset] [] := by
  refine Go.aload (pc' := 350) W0 d_code_348 rfl rfl rfl ?_
  refine Go.iload (pc' := 352) W0 d_code_350 rfl rfl ?_
  refine Go.static (pc' := 355) W0 (rm_cut_L G ac cc xa xb xc xd xe xf xg xh xi xj xk xl hL A) (w_2 G) (w_3 G) (w_4 G) (w_5 G) (by decide) [0] [] (σf := []) rfl rfl [(.ref ac), (.int (11 : Int32))] [] rfl (lenOf pd_19 rfl) rfl rfl d_code_352 rfl (by first | exact Nat.le_of_ble_eq_true rfl | (simp; done) | (simp; omega) | omega) (by first | exact Nat.le_of_ble_eq_true rfl | (simp; done) | (simp; omega) | omega) (by first | exact Nat.le_of_ble_eq_true rfl | (simp; done) | (simp; omega) | omega) (by first | exact Nat.le_of_ble_eq_true rfl | (simp; done) | (simp; omega) | omega) ?_
  rintro _ _ _ T6 ⟨a1, c2, b3, c4, rfl, rfl, rfl, S5⟩ W7
  replace W7 : Wk l Z EL1 ({ frames := 8, cells := 32, slots := 4288, locals := 192 } : Room) "com/example/upfront_quote/upfrontquote/ProductLineServedOnPinLaw" code 15 (some .boolean) "law" X [] [(a1, c2), (b3, c4)] T6 4 (38) := W7
  show Go Z EL1 _ _ _ X T6 355 #[.val (.int sel), .val (.int pos), .val (.int chi), .val (.int ext), .val (.int mode), .val (.int sk), .val (.int va), .val (.int vb), .val (.ref ac), .val (.int nat), .val (.int mm), .val (.int (11 : Int32)), .unset, .unset, .unset] [(.ref a1)]
  refine Go.astore (pc' := 357) W7 #[.val (.int sel), .val (.int pos), .val (.int chi), .val (.int ext), .val (.int mode), .val (.int sk), .val (.int va), .val (.int vb), .val (.ref ac), .val (.int nat), .val (.int mm), .val (.int (11 : Int32)), .val (.ref a1), .unset, .unset] d_code_355 rfl rfl rfl ?_
  refine Go.aconstNull (pc' := 358) W7 d_code_357 rfl ?_
  refine Go.astore (pc' := 360) W7 #[.val (.int sel), .val (.int pos), .val (.int chi), .val (.int ext), .val (.int mode), .val (.int sk), .val (.int va), .val (.int vb), .val (.ref ac), .val (.int nat), .val (.int mm), .val (.int (11 : Int32)), .val (.ref a1), .val (.null), .unset] d_code_358 rfl rfl rfl ?_
  refine Go.aload (pc' := 362) W7 d_code_360 rfl rfl rfl ?_
  refine Go.ldcStr (pc' := 364) W7 G.2.1 (w_35 G) (strAtoms G) (by decide) (bs := [(.int (47 : Int32)), (.int (97 : Int32)), (.int (112 : Int32)), (.int (105 : Int32)), (.int (47 : Int32)), (.int (118 : Int32)), (.int (50 : Int32)), (.int (47 : Int32)), (.int (98 : Int32)), (.int (109 : Int32)), (.int (99 : Int32))]) (z := 11) (by decide +kernel) (by decide) (by decide) (by decide) d_code_362 rfl (m := 44) (by decide +kernel) (by decide) (by first | exact Nat.le_of_ble_eq_true rfl | (simp; done) | (simp; omega) | omega) (by first | exact Nat.le_of_ble_eq_true rfl | (simp; done) | (simp; omega) | omega) (fun T8 a10 b11 c12 c13 W9 O14 F15 F16 A17 => ?_)
  replace W9 : Wk l Z EL1 ({ frames := 8, cells := 32, slots := 4288, locals := 192 } : Room) "com/example/upfront_quote/upfrontquote/ProductLineServedOnPinLaw" code 15 (some .boolean) "law" X [] [(a10, c12), (b11, c13), (a1, c2), (b3, c4)] T8 6 (86) := W9
  have S18 : StrL Z c12 b11 c13 [(47 : Int32), (97 : Int32), (112 : Int32), (105 : Int32), (47 : Int32), (118 : Int32), (50 : Int32), (47 : Int32), (98 : Int32), (109 : Int32), (99 : Int32)] := ⟨O14, F15, F16, (by rw [show latB [(47 : Int32), (97 : Int32), (112 : Int32), (105 : Int32), (47 : Int32), (118 : Int32), (50 : Int32), (47 : Int32), (98 : Int32), (109 : Int32), (99 : Int32)] = [(.int (47 : Int32)), (.int (97 : Int32)), (.int (112 : Int32)), (.int (105 : Int32)), (.int (47 : Int32)), (.int (118 : Int32)), (.int (50 : Int32)), (.int (47 : Int32)), (.int (98 : Int32)), (.int (109 : Int32)), (.int (99 : Int32))] from by decide +kernel]; exact A17), (by decide +kernel : ∀ x ∈ ([(47 : Int32), (97 : Int32), (112 : Int32), (105 : Int32), (47 : Int32), (118 : Int32), (50 : Int32), (47 : Int32), (98 : Int32), (109 : Int32), (99 : Int32)] : List Int32), ¬ x < 0 ∧ ¬ (255 : Int32) < x)⟩
  refine Go.virtual (pc' := 367) W9 (rm_eqs G a1 a10 b3 b11 c2 c12 c4 c13 [xa, xb, xc, xd, xe, xf, xg, xh, xi, xj, xk] [(47 : Int32), (97 : Int32), (112 : Int32), (105 : Int32), (47 : Int32), (118 : Int32), (50 : Int32), (47 : Int32), (98 : Int32), (109 : Int32), (99 : Int32)] S5 S18) (Or.inr (Or.inl (List.mem_of_getElem? (i := 2) rfl))) S5.1 (w_38 G) (w_39 G) (w_41 G) (w_40 G) (w_8 G) (w_42 G) (by decide) [] [2, 3, 0, 1] (σf := []) rfl rfl [(.ref a10)] [] rfl (lenOf pd_14 rfl) rfl rfl d_code_364 rfl (by first | exact Nat.le_of_ble_eq_true rfl | (simp; done) | (simp; omega) | omega) (by first | exact Nat.le_of_ble_eq_true rfl | (simp; done) | (simp; omega) | omega) (by first | exact Nat.le_of_ble_eq_true rfl | (simp; done) | (simp; omega) | omega) (by first | exact Nat.le_of_ble_eq_true rfl | (simp; done) | (simp; omega) | omega) ?_
  rintro _ _ _ T19 ⟨rfl, rfl, rfl⟩ W20
  replace W20 : Wk l Z EL1 ({ frames := 8, cells := 32, slots := 4288, locals := 192 } : Room) "com/example/upfront_quote/upfrontquote/ProductLineServedOnPinLaw" code 15 (some .boolean) "law" X [] [(a10, c12), (b11, c13), (a1, c2), (b3, c4)] T19 6 (86) := W20
  show Go Z EL1 _ _ _ X T19 367 #[.val (.int sel), .val (.int pos), .val (.int chi), .val (.int ext), .val (.int mode), .val (.int sk), .val (.int va), .val (.int vb), .val (.ref ac), .val (.int nat), .val (.int mm), .val (.int (11 : Int32)), .val (.ref a1), .val (.null), .unset] [(.int (if ([xa, xb, xc, xd, xe, xf, xg, xh, xi, xj, xk] : List Int32) = [(47 : Int32), (97 : Int32), (112 : Int32), (105 : Int32), (47 : Int32), (118 : Int32), (50 : Int32), (47 : Int32), (98 : Int32), (109 : Int32), (99 : Int32)] then 1 else 0))]
  refine Go.if_eq (pc' := 370) W20 378 d_code_367 (by decide) rfl (fun (c21 : (if ([xa, xb, xc, xd, xe, xf, xg, xh, xi, xj, xk] : List Int32) = [(47 : Int32), (97 : Int32), (112 : Int32), (105 : Int32), (47 : Int32), (118 : Int32), (50 : Int32), (47 : Int32), (98 : Int32), (109 : Int32), (99 : Int32)] then 1 else 0) = 0) => ?_) (fun (c21 : ¬ ((if ([xa, xb, xc, xd, xe, xf, xg, xh, xi, xj, xk] : List Int32) = [(47 : Int32), (97 : Int32), (112 : Int32), (105 : Int32), (47 : Int32), (118 : Int32), (50 : Int32), (47 : Int32), (98 : Int32), (109 : Int32), (99 : Int32)] then 1 else 0) = 0)) => ?_)
  · refine Go.aload (pc' := 380) W20 d_code_378 rfl rfl rfl ?_
    refine Go.ldcStr (pc' := 382) W20 G.2.1 (w_102 G) (strAtoms G) (by decide) (bs := [(.int (47 : Int32)), (.int (97 : Int32)), (.int (112 : Int32)), (.int (105 : Int32)), (.int (47 : Int32)), (.int (118 : Int32)), (.int (50 : Int32)), (.int (47 : Int32)), (.int (122 : Int32)), (.int (101 : Int32)), (.int (99 : Int32))]) (z := 11) (by decide +kernel) (by decide) (by decide) (by decide) d_code_380 rfl (m := 44) (by decide +kernel) (by decide) (by first | exact Nat.le_of_ble_eq_true rfl | (simp; done) | (simp; omega) | omega) (by first | exact Nat.le_of_ble_eq_true rfl | (simp; done) | (simp; omega) | omega) (fun T22 a24 b25 c26 c27 W23 O28 F29 F30 A31 => ?_)
    replace W23 : Wk l Z EL1 ({ frames := 8, cells := 32, slots := 4288, locals := 192 } : Room) "com/example/upfront_quote/upfrontquote/ProductLineServedOnPinLaw" code 15 (some .boolean) "law" X [] [(a24, c26), (b25, c27), (a10, c12), (b11, c13), (a1, c2), (b3, c4)] T22 8 (134) := W23
    have S32 : StrL Z c26 b25 c27 [(47 : Int32), (97 : Int32), (112 : Int32), (105 : Int32), (47 : Int32), (118 : Int32), (50 : Int32), (47 : Int32), (122 : Int32), (101 : Int32), (99 : Int32)] := ⟨O28, F29, F30, (by rw [show latB [(47 : Int32), (97 : Int32), (112 : Int32), (105 : Int32), (47 : Int32), (118 : Int32), (50 : Int32), (47 : Int32), (122 : Int32), (101 : Int32), (99 : Int32)] = [(.int (47 : Int32)), (.int (97 : Int32)), (.int (112 : Int32)), (.int (105 : Int32)), (.int (47 : Int32)), (.int (118 : Int32)), (.int (50 : Int32)), (.int (47 : Int32)), (.int (122 : Int32)), (.int (101 : Int32)), (.int (99 : Int32))] from by decide +kernel]; exact A31), (by decide +kernel : ∀ x ∈ ([(47 : Int32), (97 : Int32), (112 : Int32), (105 : Int32), (47 : Int32), (118 : Int32), (50 : Int32), (47 : Int32), (122 : Int32), (101 : Int32), (99 : Int32)] : List Int32), ¬ x < 0 ∧ ¬ (255 : Int32) < x)⟩
    refine Go.virtual (pc' := 385) W23 (rm_eqs G a1 a24 b3 b25 c2 c26 c4 c27 [xa, xb, xc, xd, xe, xf, xg, xh, xi, xj, xk] [(47 : Int32), (97 : Int32), (112 : Int32), (105 : Int32), (47 : Int32), (118 : Int32), (50 : Int32), (47 : Int32), (122 : Int32), (101 : Int32), (99 : Int32)] S5 S32) (Or.inr (Or.inl (List.mem_of_getElem? (i := 4) rfl))) S5.1 (w_38 G) (w_39 G) (w_41 G) (w_40 G) (w_8 G) (w_42 G) (by decide) [] [4, 5, 0, 1] (σf := []) rfl rfl [(.ref a24)] [] rfl (lenOf pd_14 rfl) rfl rfl d_code_382 rfl (by first | exact Nat.le_of_ble_eq_true rfl | (simp; done) | (simp; omega) | omega) (by first | exact Nat.le_of_ble_eq_true rfl | (simp; done) | (simp; omega) | omega) (by first | exact Nat.le_of_ble_eq_true rfl | (simp; done) | (simp; omega) | omega) (by first | exact Nat.le_of_ble_eq_true rfl | (simp; done) | (simp; omega) | omega) ?_
    rintro _ _ _ T33 ⟨rfl, rfl, rfl⟩ W34
    replace W34 : Wk l Z EL1 ({ frames := 8, cells := 32, slots := 4288, locals := 192 } : Room) "com/example/upfront_quote/upfrontquote/ProductLineServedOnPinLaw" code 15 (some .boolean) "law" X [] [(a24, c26), (b25, c27), (a10, c12), (b11, c13), (a1, c2), (b3, c4)] T33 8 (134) := W34
    show Go Z EL1 _ _ _ X T33 385 #[.val (.int sel), .val (.int pos), .val (.int chi), .val (.int ext), .val (.int mode), .val (.int sk), .val (.int va), .val (.int vb), .val (.ref ac), .val (.int nat), .val (.int mm), .val (.int (11 : Int32)), .val (.ref a1), .val (.null), .unset] [(.int (if ([xa, xb, xc, xd, xe, xf, xg, xh, xi, xj, xk] : List Int32) = [(47 : Int32), (97 : Int32), (112 : Int32), (105 : Int32), (47 : Int32), (118 : Int32), (50 : Int32), (47 : Int32), (122 : Int32), (101 : Int32), (99 : Int32)] then 1 else 0))]
    refine Go.if_eq (pc' := 388) W34 396 d_code_385 (by decide) rfl (fun (c35 : (if ([xa, xb, xc, xd, xe, xf, xg, xh, xi, xj, xk] : List Int32) = [(47 : Int32), (97 : Int32), (112 : Int32), (105 : Int32), (47 : Int32), (118 : Int32), (50 : Int32), (47 : Int32), (122 : Int32), (101 : Int32), (99 : Int32)] then 1 else 0) = 0) => ?_) (fun (c35 : ¬ ((if ([xa, xb, xc, xd, xe, xf, xg, xh, xi, xj, xk] : List Int32) = [(47 : Int32), (97 : Int32), (112 : Int32), (105 : Int32), (47 : Int32), (118 : Int32), (50 : Int32), (47 : Int32), (122 : Int32), (101 : Int32), (99 : Int32)] then 1 else 0) = 0)) => ?_)
    · refine Go.aload (pc' := 398) W34 d_code_396 rfl rfl rfl ?_
      refine Go.ldcStr (pc' := 400) W34 G.2.1 (w_103 G) (strAtoms G) (by decide) (bs := [(.int (47 : Int32)), (.int (97 : Int32)), (.int (112 : Int32)), (.int (105 : Int32)), (.int (47 : Int32)), (.int (118 : Int32)), (.int (50 : Int32)), (.int (47 : Int32)), (.int (118 : Int32)), (.int (109 : Int32))]) (z := 10) (by decide +kernel) (by decide) (by decide) (by decide) d_code_398 rfl (m := 40) (by decide +kernel) (by decide) (by first | exact Nat.le_of_ble_eq_true rfl | (simp; done) | (simp; omega) | omega) (by first | exact Nat.le_of_ble_eq_true rfl | (simp; done) | (simp; omega) | omega) (fun T36 a38 b39 c40 c41 W37 O42 F43 F44 A45 => ?_)
      replace W37 : Wk l Z EL1 ({ frames := 8, cells := 32, slots := 4288, locals := 192 } : Room) "com/example/upfront_quote/upfrontquote/ProductLineServedOnPinLaw" code 15 (some .boolean) "law" X [] [(a38, c40), (b39, c41), (a24, c26), (b25, c27), (a10, c12), (b11, c13), (a1, c2), (b3, c4)] T36 10 (178) := W37
      have S46 : StrL Z c40 b39 c41 [(47 : Int32), (97 : Int32), (112 : Int32), (105 : Int32), (47 : Int32), (118 : Int32), (50 : Int32), (47 : Int32), (118 : Int32), (109 : Int32)] := ⟨O42, F43, F44, (by rw [show latB [(47 : Int32), (97 : Int32), (112 : Int32), (105 : Int32), (47 : Int32), (118 : Int32), (50 : Int32), (47 : Int32), (118 : Int32), (109 : Int32)] = [(.int (47 : Int32)), (.int (97 : Int32)), (.int (112 : Int32)), (.int (105 : Int32)), (.int (47 : Int32)), (.int (118 : Int32)), (.int (50 : Int32)), (.int (47 : Int32)), (.int (118 : Int32)), (.int (109 : Int32))] from by decide +kernel]; exact A45), (by decide +kernel : ∀ x ∈ ([(47 : Int32), (97 : Int32), (112 : Int32), (105 : Int32), (47 : Int32), (118 : Int32), (50 : Int32), (47 : Int32), (118 : Int32), (109 : Int32)] : List Int32), ¬ x < 0 ∧ ¬ (255 : Int32) < x)⟩
      refine Go.virtual (pc' := 403) W37 (rm_eqs G a1 a38 b3 b39 c2 c40 c4 c41 [xa, xb, xc, xd, xe, xf, xg, xh, xi, xj, xk] [(47 : Int32), (97 : Int32), (112 : Int32), (105 : Int32), (47 : Int32), (118 : Int32), (50 : Int32), (47 : Int32), (118 : Int32), (109 : Int32)] S5 S46) (Or.inr (Or.inl (List.mem_of_getElem? (i := 6) rfl))) S5.1 (w_38 G) (w_39 G) (w_41 G) (w_40 G) (w_8 G) (w_42 G) (by decide) [] [6, 7, 0, 1] (σf := []) rfl rfl [(.ref a38)] [] rfl (lenOf pd_14 rfl) rfl rfl d_code_400 rfl (by first | exact Nat.le_of_ble_eq_true rfl | (simp; done) | (simp; omega) | omega) (by first | exact Nat.le_of_ble_eq_true rfl | (simp; done) | (simp; omega) | omega) (by first | exact Nat.le_of_ble_eq_true rfl | (simp; done) | (simp; omega) | omega) (by first | exact Nat.le_of_ble_eq_true rfl | (simp; done) | (simp; omega) | omega) ?_
      rintro _ _ _ T47 ⟨rfl, rfl, rfl⟩ W48
      replace W48 : Wk l Z EL1 ({ frames := 8, cells := 32, slots := 4288, locals := 192 } : Room) "com/example/upfront_quote/upfrontquote/ProductLineServedOnPinLaw" code 15 (some .boolean) "law" X [] [(a38, c40), (b39, c41), (a24, c26), (b25, c27), (a10, c12), (b11, c13), (a1, c2), (b3, c4)] T47 10 (178) := W48
      show Go Z EL1 _ _ _ X T47 403 #[.val (.int sel), .val (.int pos), .val (.int chi), .val (.int ext), .val (.int mode), .val (.int sk), .val (.int va), .val (.int vb), .val (.ref ac), .val (.int nat), .val (.int mm), .val (.int (11 : Int32)), .val (.ref a1), .val (.null), .unset] [(.int (if ([xa, xb, xc, xd, xe, xf, xg, xh, xi, xj, xk] : List Int32) = [(47 : Int32), (97 : Int32), (112 : Int32), (105 : Int32), (47 : Int32), (118 : Int32), (50 : Int32), (47 : Int32), (118 : Int32), (109 : Int32)] then 1 else 0))]
      refine Go.if_eq (pc' := 406) W48 411 d_code_403 (by decide) rfl (fun (c49 : (if ([xa, xb, xc, xd, xe, xf, xg, xh, xi, xj, xk] : List Int32) = [(47 : Int32), (97 : Int32), (112 : Int32), (105 : Int32), (47 : Int32), (118 : Int32), (50 : Int32), (47 : Int32), (118 : Int32), (109 : Int32)] then 1 else 0) = 0) => ?_) (fun (c49 : ¬ ((if ([xa, xb, xc, xd, xe, xf, xg, xh, xi, xj, xk] : List Int32) = [(47 : Int32), (97 : Int32), (112 : Int32), (105 : Int32), (47 : Int32), (118 : Int32), (50 : Int32), (47 : Int32), (118 : Int32), (109 : Int32)] then 1 else 0) = 0)) => ?_)
      · refine Go.aload (pc' := 413) W48 d_code_411 rfl rfl rfl ?_
        refine Go.static (pc' := 416) W48 (rm_srv G adA adB adC adD adE adF adG adH adI adJ ceA ceB ceC ceD ceE ceF ceG ceH ceI ceJ hzA obA fdA hzB obB arA hzC obC fdC hzD obD fdE hzE slA hzF hzG slB hzH hzI slC hzJ stA stB stC stD em cem hzem obem fdem stem a1 b3 c2 c4 [xa, xb, xc, xd, xe, xf, xg, xh, xi, xj, xk] S5) (w_51 G) (w_52 G) (w_49 G) (w_53 G) (by decide) [] [6, 7] (σf := []) rfl rfl [(.ref a1)] [] rfl (lenOf pd_20 rfl) rfl rfl d_code_413 rfl (by first | exact Nat.le_of_ble_eq_true rfl | (simp; done) | (simp; omega) | omega) (by first | exact Nat.le_of_ble_eq_true rfl | (simp; done) | (simp; omega) | omega) (by first | exact Nat.le_of_ble_eq_true rfl | (simp; done) | (simp; omega) | omega) (by first | exact Nat.le_of_ble_eq_true rfl | (simp; done) | (simp; omega) | omega) ?_
        rintro _ _ _ T54 ⟨a50, c51, rfl, rfl, rfl, O52, F53⟩ W55
        replace W55 : Wk l Z EL1 ({ frames := 8, cells := 32, slots := 4288, locals := 192 } : Room) "com/example/upfront_quote/upfrontquote/ProductLineServedOnPinLaw" code 15 (some .boolean) "law" X [] [(a50, c51), (a38, c40), (b39, c41), (a24, c26), (b25, c27), (a10, c12), (b11, c13), (a1, c2), (b3, c4)] T54 12 (182) := W55
        show Go Z EL1 _ _ _ X T54 416 #[.val (.int sel), .val (.int pos), .val (.int chi), .val (.int ext), .val (.int mode), .val (.int sk), .val (.int va), .val (.int vb), .val (.ref ac), .val (.int nat), .val (.int mm), .val (.int (11 : Int32)), .val (.ref a1), .val (.null), .unset] [(.ref a50)]
        rw [fsn, if_neg (ite10_z.mp c21), if_neg (ite10_z.mp c35), if_neg (ite10_z.mp c49)] at F53
        refine Go.astore (pc' := 418) W55 #[.val (.int sel), .val (.int pos), .val (.int chi), .val (.int ext), .val (.int mode), .val (.int sk), .val (.int va), .val (.int vb), .val (.ref ac), .val (.int nat), .val (.int mm), .val (.int (11 : Int32)), .val (.ref a1), .val (.null), .val (.ref a50)] d_code_416 rfl rfl rfl ?_
        refine Go.aload (pc' := 420) W55 d_code_418 rfl rfl rfl ?_
        refine Go.ifnonnull_no (pc' := 423) W55 d_code_420 rfl ?_
        refine Go.aload (pc' := 425) W55 d_code_423 rfl rfl rfl ?_
        refine Go.virtual (pc' := 428) W55 (rm_isp_z G a50 c51 F53) (Or.inr (Or.inl (List.mem_of_getElem? (i := 0) rfl))) O52 (w_91 G) (w_92 G) (w_94 G) (w_93 G) (w_76 G) (w_95 G) (by decide) [] [0] (σf := []) rfl rfl [] [] rfl (lenOf pd_21 rfl) rfl rfl d_code_425 rfl (by first | exact Nat.le_of_ble_eq_true rfl | (simp; done) | (simp; omega) | omega) (by first | exact Nat.le_of_ble_eq_true rfl | (simp; done) | (simp; omega) | omega) (by first | exact Nat.le_of_ble_eq_true rfl | (simp; done) | (simp; omega) | omega) (by first | exact Nat.le_of_ble_eq_true rfl | (simp; done) | (simp; omega) | omega) ?_
        rintro _ _ _ T56 ⟨rfl, rfl, rfl⟩ W57
        replace W57 : Wk l Z EL1 ({ frames := 8, cells := 32, slots := 4288, locals := 192 } : Room) "com/example/upfront_quote/upfrontquote/ProductLineServedOnPinLaw" code 15 (some .boolean) "law" X [] [(a50, c51), (a38, c40), (b39, c41), (a24, c26), (b25, c27), (a10, c12), (b11, c13), (a1, c2), (b3, c4)] T56 12 (182) := W57
        show Go Z EL1 _ _ _ X T56 428 #[.val (.int sel), .val (.int pos), .val (.int chi), .val (.int ext), .val (.int mode), .val (.int sk), .val (.int va), .val (.int vb), .val (.ref ac), .val (.int nat), .val (.int mm), .val (.int (11 : Int32)), .val (.ref a1), .val (.null), .val (.ref a50)] [(.int (0 : Int32))]
        refine Go.if_ne (pc' := 431) W57 435 d_code_428 (by decide) rfl (fun q => absurd (by decide) q) (fun _ => ?_)
        refine Go.iconst (pc' := 432) W57 (1 : Int32) d_code_431 (by decide) rfl ?_
        refine Go.goto W57 436 d_code_432 (by decide) ?_
        refine Go.nret (z' := (1 : Int32)) W57 (by simp) (by decide) d_code_436 (by first | exact Nat.le_of_ble_eq_true rfl | (simp; done) | (simp; omega) | omega) (by first | exact Nat.le_of_ble_eq_true rfl | (simp; done) | (simp; omega) | omega) ?_
        rfl
      · refine Go.getstatic (pc' := 409) W48 (w_108 G) Via.refl stD d_code_406 rfl (fun T58 W59 => ?_)
        refine Go.astore (pc' := 411) W59 #[.val (.int sel), .val (.int pos), .val (.int chi), .val (.int ext), .val (.int mode), .val (.int sk), .val (.int va), .val (.int vb), .val (.ref ac), .val (.int nat), .val (.int mm), .val (.int (11 : Int32)), .val (.ref a1), .val (.ref adD), .unset] d_code_409 rfl rfl rfl ?_
        refine Go.aload (pc' := 413) W59 d_code_411 rfl rfl rfl ?_
        refine Go.static (pc' := 416) W59 (rm_srv G adA adB adC adD adE adF adG adH adI adJ ceA ceB ceC ceD ceE ceF ceG ceH ceI ceJ hzA obA fdA hzB obB arA hzC obC fdC hzD obD fdE hzE slA hzF hzG slB hzH hzI slC hzJ stA stB stC stD em cem hzem obem fdem stem a1 b3 c2 c4 [xa, xb, xc, xd, xe, xf, xg, xh, xi, xj, xk] S5) (w_51 G) (w_52 G) (w_49 G) (w_53 G) (by decide) [] [6, 7] (σf := []) rfl rfl [(.ref a1)] [] rfl (lenOf pd_20 rfl) rfl rfl d_code_413 rfl (by first | exact Nat.le_of_ble_eq_true rfl | (simp; done) | (simp; omega) | omega) (by first | exact Nat.le_of_ble_eq_true rfl | (simp; done) | (simp; omega) | omega) (by first | exact Nat.le_of_ble_eq_true rfl | (simp; done) | (simp; omega) | omega) (by first | exact Nat.le_of_ble_eq_true rfl | (simp; done) | (simp; omega) | omega) ?_
        rintro _ _ _ T64 ⟨a60, c61, rfl, rfl, rfl, O62, F63⟩ W65
        replace W65 : Wk l Z EL1 ({ frames := 8, cells := 32, slots := 4288, locals := 192 } : Room) "com/example/upfront_quote/upfrontquote/ProductLineServedOnPinLaw" code 15 (some .boolean) "law" X [] [(a60, c61), (a38, c40), (b39, c41), (a24, c26), (b25, c27), (a10, c12), (b11, c13), (a1, c2), (b3, c4)] T64 12 (182) := W65
        show Go Z EL1 _ _ _ X T64 416 #[.val (.int sel), .val (.int pos), .val (.int chi), .val (.int ext), .val (.int mode), .val (.int sk), .val (.int va), .val (.int vb), .val (.ref ac), .val (.int nat), .val (.int mm), .val (.int (11 : Int32)), .val (.ref a1), .val (.ref adD), .unset] [(.ref a60)]
        rw [fsn, if_neg (ite10_z.mp c21), if_neg (ite10_z.mp c35), if_pos (Classical.not_not.mp (fun e => c49 (ite10_z.mpr e)))] at F63
        refine Go.astore (pc' := 418) W65 #[.val (.int sel), .val (.int pos), .val (.int chi), .val (.int ext), .val (.int mode), .val (.int sk), .val (.int va), .val (.int vb), .val (.ref ac), .val (.int nat), .val (.int mm), .val (.int (11 : Int32)), .val (.ref a1), .val (.ref adD), .val (.ref a60)] d_code_416 rfl rfl rfl ?_
        refine Go.aload (pc' := 420) W65 d_code_418 rfl rfl rfl ?_
        refine Go.ifnonnull_yes W65 437 d_code_420 (by decide) ?_
        refine Go.aload (pc' := 439) W65 d_code_437 rfl rfl rfl ?_
        refine Go.virtual (pc' := 442) W65 (rm_isp_o G a60 adD c61 F63) (Or.inr (Or.inl (List.mem_of_getElem? (i := 0) rfl))) O62 (w_91 G) (w_92 G) (w_94 G) (w_93 G) (w_76 G) (w_95 G) (by decide) [] [0] (σf := []) rfl rfl [] [] rfl (lenOf pd_21 rfl) rfl rfl d_code_439 rfl (by first | exact Nat.le_of_ble_eq_true rfl | (simp; done) | (simp; omega) | omega) (by first | exact Nat.le_of_ble_eq_true rfl | (simp; done) | (simp; omega) | omega) (by first | exact Nat.le_of_ble_eq_true rfl | (simp; done) | (simp; omega) | omega) (by first | exact Nat.le_of_ble_eq_true rfl | (simp; done) | (simp; omega) | omega) ?_
        rintro _ _ _ T66 ⟨rfl, rfl, rfl⟩ W67
        replace W67 : Wk l Z EL1 ({ frames := 8, cells := 32, slots := 4288, locals := 192 } : Room) "com/example/upfront_quote/upfrontquote/ProductLineServedOnPinLaw" code 15 (some .boolean) "law" X [] [(a60, c61), (a38, c40), (b39, c41), (a24, c26), (b25, c27), (a10, c12), (b11, c13), (a1, c2), (b3, c4)] T66 12 (182) := W67
        show Go Z EL1 _ _ _ X T66 442 #[.val (.int sel), .val (.int pos), .val (.int chi), .val (.int ext), .val (.int mode), .val (.int sk), .val (.int va), .val (.int vb), .val (.ref ac), .val (.int nat), .val (.int mm), .val (.int (11 : Int32)), .val (.ref a1), .val (.ref adD), .val (.ref a60)] [(.int (1 : Int32))]
        refine Go.if_eq (pc' := 445) W67 459 d_code_442 (by decide) rfl (fun q => absurd q (by decide)) (fun _ => ?_)
        refine Go.aload (pc' := 447) W67 d_code_445 rfl rfl rfl ?_
        refine Go.virtual (pc' := 450) W67 (rm_get_o G a60 adD c61 F63) (Or.inr (Or.inl (List.mem_of_getElem? (i := 0) rfl))) O62 (w_96 G) (w_97 G) (w_99 G) (w_98 G) (w_76 G) (w_100 G) (by decide) [] [0] (σf := []) rfl rfl [] [] rfl (lenOf pd_22 rfl) rfl rfl d_code_447 rfl (by first | exact Nat.le_of_ble_eq_true rfl | (simp; done) | (simp; omega) | omega) (by first | exact Nat.le_of_ble_eq_true rfl | (simp; done) | (simp; omega) | omega) (by first | exact Nat.le_of_ble_eq_true rfl | (simp; done) | (simp; omega) | omega) (by first | exact Nat.le_of_ble_eq_true rfl | (simp; done) | (simp; omega) | omega) ?_
        rintro _ _ _ T68 ⟨rfl, rfl, rfl⟩ W69
        replace W69 : Wk l Z EL1 ({ frames := 8, cells := 32, slots := 4288, locals := 192 } : Room) "com/example/upfront_quote/upfrontquote/ProductLineServedOnPinLaw" code 15 (some .boolean) "law" X [] [(a60, c61), (a38, c40), (b39, c41), (a24, c26), (b25, c27), (a10, c12), (b11, c13), (a1, c2), (b3, c4)] T68 12 (182) := W69
        show Go Z EL1 _ _ _ X T68 450 #[.val (.int sel), .val (.int pos), .val (.int chi), .val (.int ext), .val (.int mode), .val (.int sk), .val (.int va), .val (.int vb), .val (.ref ac), .val (.int nat), .val (.int mm), .val (.int (11 : Int32)), .val (.ref a1), .val (.ref adD), .val (.ref a60)] [(.ref adD)]
        refine Go.aload (pc' := 452) W69 d_code_450 rfl rfl rfl ?_
        refine Go.acmp_ne (pc' := 455) W69 459 rfl rfl d_code_452 (by decide) rfl (fun hq => absurd rfl hq) (fun _ => ?_)
        refine Go.iconst (pc' := 456) W69 (1 : Int32) d_code_455 (by decide) rfl ?_
        refine Go.goto W69 460 d_code_456 (by decide) ?_
        refine Go.nret (z' := (1 : Int32)) W69 (by simp) (by decide) d_code_460 (by first | exact Nat.le_of_ble_eq_true rfl | (simp; done) | (simp; omega) | omega) (by first | exact Nat.le_of_ble_eq_true rfl | (simp; done) | (simp; omega) | omega) ?_
        rfl
    · refine Go.getstatic (pc' := 391) W34 (w_109 G) Via.refl stC d_code_388 rfl (fun T70 W71 => ?_)
      refine Go.astore (pc' := 393) W71 #[.val (.int sel), .val (.int pos), .val (.int chi), .val (.int ext), .val (.int mode), .val (.int sk), .val (.int va), .val (.int vb), .val (.ref ac), .val (.int nat), .val (.int mm), .val (.int (11 : Int32)), .val (.ref a1), .val (.ref adC), .unset] d_code_391 rfl rfl rfl ?_
      refine Go.goto W71 411 d_code_393 (by decide) ?_
      refine Go.aload (pc' := 413) W71 d_code_411 rfl rfl rfl ?_
      refine Go.static (pc' := 416) W71 (rm_srv G adA adB adC adD adE adF adG adH adI adJ ceA ceB ceC ceD ceE ceF ceG ceH ceI ceJ hzA obA fdA hzB obB arA hzC obC fdC hzD obD fdE hzE slA hzF hzG slB hzH hzI slC hzJ stA stB stC stD em cem hzem obem fdem stem a1 b3 c2 c4 [xa, xb, xc, xd, xe, xf, xg, xh, xi, xj, xk] S5) (w_51 G) (w_52 G) (w_49 G) (w_53 G) (by decide) [] [4, 5] (σf := []) rfl rfl [(.ref a1)] [] rfl (lenOf pd_20 rfl) rfl rfl d_code_413 rfl (by first | exact Nat.le_of_ble_eq_true rfl | (simp; done) | (simp; omega) | omega) (by first | exact Nat.le_of_ble_eq_true rfl | (simp; done) | (simp; omega) | omega) (by first | exact Nat.le_of_ble_eq_true rfl | (simp; done) | (simp; omega) | omega) (by first | exact Nat.le_of_ble_eq_true rfl | (simp; done) | (simp; omega) | omega) ?_
      rintro _ _ _ T76 ⟨a72, c73, rfl, rfl, rfl, O74, F75⟩ W77
      replace W77 : Wk l Z EL1 ({ frames := 8, cells := 32, slots := 4288, locals := 192 } : Room) "com/example/upfront_quote/upfrontquote/ProductLineServedOnPinLaw" code 15 (some .boolean) "law" X [] [(a72, c73), (a24, c26), (b25, c27), (a10, c12), (b11, c13), (a1, c2), (b3, c4)] T76 10 (138) := W77
      show Go Z EL1 _ _ _ X T76 416 #[.val (.int sel), .val (.int pos), .val (.int chi), .val (.int ext), .val (.int mode), .val (.int sk), .val (.int va), .val (.int vb), .val (.ref ac), .val (.int nat), .val (.int mm), .val (.int (11 : Int32)), .val (.ref a1), .val (.ref adC), .unset] [(.ref a72)]
      rw [fsn, if_neg (ite10_z.mp c21), if_pos (Classical.not_not.mp (fun e => c35 (ite10_z.mpr e)))] at F75
      refine Go.astore (pc' := 418) W77 #[.val (.int sel), .val (.int pos), .val (.int chi), .val (.int ext), .val (.int mode), .val (.int sk), .val (.int va), .val (.int vb), .val (.ref ac), .val (.int nat), .val (.int mm), .val (.int (11 : Int32)), .val (.ref a1), .val (.ref adC), .val (.ref a72)] d_code_416 rfl rfl rfl ?_
      refine Go.aload (pc' := 420) W77 d_code_418 rfl rfl rfl ?_
      refine Go.ifnonnull_yes W77 437 d_code_420 (by decide) ?_
      refine Go.aload (pc' := 439) W77 d_code_437 rfl rfl rfl ?_
      refine Go.virtual (pc' := 442) W77 (rm_isp_o G a72 adC c73 F75) (Or.inr (Or.inl (List.mem_of_getElem? (i := 0) rfl))) O74 (w_91 G) (w_92 G) (w_94 G) (w_93 G) (w_76 G) (w_95 G) (by decide) [] [0] (σf := []) rfl rfl [] [] rfl (lenOf pd_21 rfl) rfl rfl d_code_439 rfl (by first | exact Nat.le_of_ble_eq_true rfl | (simp; done) | (simp; omega) | omega) (by first | exact Nat.le_of_ble_eq_true rfl | (simp; done) | (simp; omega) | omega) (by first | exact Nat.le_of_ble_eq_true rfl | (simp; done) | (simp; omega) | omega) (by first | exact Nat.le_of_ble_eq_true rfl | (simp; done) | (simp; omega) | omega) ?_
      rintro _ _ _ T78 ⟨rfl, rfl, rfl⟩ W79
      replace W79 : Wk l Z EL1 ({ frames := 8, cells := 32, slots := 4288, locals := 192 } : Room) "com/example/upfront_quote/upfrontquote/ProductLineServedOnPinLaw" code 15 (some .boolean) "law" X [] [(a72, c73), (a24, c26), (b25, c27), (a10, c12), (b11, c13), (a1, c2), (b3, c4)] T78 10 (138) := W79
      show Go Z EL1 _ _ _ X T78 442 #[.val (.int sel), .val (.int pos), .val (.int chi), .val (.int ext), .val (.int mode), .val (.int sk), .val (.int va), .val (.int vb), .val (.ref ac), .val (.int nat), .val (.int mm), .val (.int (11 : Int32)), .val (.ref a1), .val (.ref adC), .val (.ref a72)] [(.int (1 : Int32))]
      refine Go.if_eq (pc' := 445) W79 459 d_code_442 (by decide) rfl (fun q => absurd q (by decide)) (fun _ => ?_)
      refine Go.aload (pc' := 447) W79 d_code_445 rfl rfl rfl ?_
      refine Go.virtual (pc' := 450) W79 (rm_get_o G a72 adC c73 F75) (Or.inr (Or.inl (List.mem_of_getElem? (i := 0) rfl))) O74 (w_96 G) (w_97 G) (w_99 G) (w_98 G) (w_76 G) (w_100 G) (by decide) [] [0] (σf := []) rfl rfl [] [] rfl (lenOf pd_22 rfl) rfl rfl d_code_447 rfl (by first | exact Nat.le_of_ble_eq_true rfl | (simp; done) | (simp; omega) | omega) (by first | exact Nat.le_of_ble_eq_true rfl | (simp; done) | (simp; omega) | omega) (by first | exact Nat.le_of_ble_eq_true rfl | (simp; done) | (simp; omega) | omega) (by first | exact Nat.le_of_ble_eq_true rfl | (simp; done) | (simp; omega) | omega) ?_
      rintro _ _ _ T80 ⟨rfl, rfl, rfl⟩ W81
      replace W81 : Wk l Z EL1 ({ frames := 8, cells := 32, slots := 4288, locals := 192 } : Room) "com/example/upfront_quote/upfrontquote/ProductLineServedOnPinLaw" code 15 (some .boolean) "law" X [] [(a72, c73), (a24, c26), (b25, c27), (a10, c12), (b11, c13), (a1, c2), (b3, c4)] T80 10 (138) := W81
      show Go Z EL1 _ _ _ X T80 450 #[.val (.int sel), .val (.int pos), .val (.int chi), .val (.int ext), .val (.int mode), .val (.int sk), .val (.int va), .val (.int vb), .val (.ref ac), .val (.int nat), .val (.int mm), .val (.int (11 : Int32)), .val (.ref a1), .val (.ref adC), .val (.ref a72)] [(.ref adC)]
      refine Go.aload (pc' := 452) W81 d_code_450 rfl rfl rfl ?_
      refine Go.acmp_ne (pc' := 455) W81 459 rfl rfl d_code_452 (by decide) rfl (fun hq => absurd rfl hq) (fun _ => ?_)
      refine Go.iconst (pc' := 456) W81 (1 : Int32) d_code_455 (by decide) rfl ?_
      refine Go.goto W81 460 d_code_456 (by decide) ?_
      refine Go.nret (z' := (1 : Int32)) W81 (by simp) (by decide) d_code_460 (by first | exact Nat.le_of_ble_eq_true rfl | (simp; done) | (simp; omega) | omega) (by first | exact Nat.le_of_ble_eq_true rfl | (simp; done) | (simp; omega) | omega) ?_
      rfl
  · refine Go.getstatic (pc' := 373) W20 (w_48 G) Via.refl stA d_code_370 rfl (fun T82 W83 => ?_)
    refine Go.astore (pc' := 375) W83 #[.val (.int sel), .val (.int pos), .val (.int chi), .val (.int ext), .val (.int mode), .val (.int sk), .val (.int va), .val (.int vb), .val (.ref ac), .val (.int nat), .val (.int mm), .val (.int (11 : Int32)), .val (.ref a1), .val (.ref adA), .unset] d_code_373 rfl rfl rfl ?_
    refine Go.goto W83 411 d_code_375 (by decide) ?_
    refine Go.aload (pc' := 413) W83 d_code_411 rfl rfl rfl ?_
    refine Go.static (pc' := 416) W83 (rm_srv G adA adB adC adD adE adF adG adH adI adJ ceA ceB ceC ceD ceE ceF ceG ceH ceI ceJ hzA obA fdA hzB obB arA hzC obC fdC hzD obD fdE hzE slA hzF hzG slB hzH hzI slC hzJ stA stB stC stD em cem hzem obem fdem stem a1 b3 c2 c4 [xa, xb, xc, xd, xe, xf, xg, xh, xi, xj, xk] S5) (w_51 G) (w_52 G) (w_49 G) (w_53 G) (by decide) [] [2, 3] (σf := []) rfl rfl [(.ref a1)] [] rfl (lenOf pd_20 rfl) rfl rfl d_code_413 rfl (by first | exact Nat.le_of_ble_eq_true rfl | (simp; done) | (simp; omega) | omega) (by first | exact Nat.le_of_ble_eq_true rfl | (simp; done) | (simp; omega) | omega) (by first | exact Nat.le_of_ble_eq_true rfl | (simp; done) | (simp; omega) | omega) (by first | exact Nat.le_of_ble_eq_true rfl | (simp; done) | (simp; omega) | omega) ?_
    rintro _ _ _ T88 ⟨a84, c85, rfl, rfl, rfl, O86, F87⟩ W89
    replace W89 : Wk l Z EL1 ({ frames := 8, cells := 32, slots := 4288, locals := 192 } : Room) "com/example/upfront_quote/upfrontquote/ProductLineServedOnPinLaw" code 15 (some .boolean) "law" X [] [(a84, c85), (a10, c12), (b11, c13), (a1, c2), (b3, c4)] T88 8 (90) := W89
    show Go Z EL1 _ _ _ X T88 416 #[.val (.int sel), .val (.int pos), .val (.int chi), .val (.int ext), .val (.int mode), .val (.int sk), .val (.int va), .val (.int vb), .val (.ref ac), .val (.int nat), .val (.int mm), .val (.int (11 : Int32)), .val (.ref a1), .val (.ref adA), .unset] [(.ref a84)]
    rw [fsn, if_pos (Classical.not_not.mp (fun e => c21 (ite10_z.mpr e)))] at F87
    refine Go.astore (pc' := 418) W89 #[.val (.int sel), .val (.int pos), .val (.int chi), .val (.int ext), .val (.int mode), .val (.int sk), .val (.int va), .val (.int vb), .val (.ref ac), .val (.int nat), .val (.int mm), .val (.int (11 : Int32)), .val (.ref a1), .val (.ref adA), .val (.ref a84)] d_code_416 rfl rfl rfl ?_
    refine Go.aload (pc' := 420) W89 d_code_418 rfl rfl rfl ?_
    refine Go.ifnonnull_yes W89 437 d_code_420 (by decide) ?_
    refine Go.aload (pc' := 439) W89 d_code_437 rfl rfl rfl ?_
    refine Go.virtual (pc' := 442) W89 (rm_isp_o G a84 adA c85 F87) (Or.inr (Or.inl (List.mem_of_getElem? (i := 0) rfl))) O86 (w_91 G) (w_92 G) (w_94 G) (w_93 G) (w_76 G) (w_95 G) (by decide) [] [0] (σf := []) rfl rfl [] [] rfl (lenOf pd_21 rfl) rfl rfl d_code_439 rfl (by first | exact Nat.le_of_ble_eq_true rfl | (simp; done) | (simp; omega) | omega) (by first | exact Nat.le_of_ble_eq_true rfl | (simp; done) | (simp; omega) | omega) (by first | exact Nat.le_of_ble_eq_true rfl | (simp; done) | (simp; omega) | omega) (by first | exact Nat.le_of_ble_eq_true rfl | (simp; done) | (simp; omega) | omega) ?_
    rintro _ _ _ T90 ⟨rfl, rfl, rfl⟩ W91
    replace W91 : Wk l Z EL1 ({ frames := 8, cells := 32, slots := 4288, locals := 192 } : Room) "com/example/upfront_quote/upfrontquote/ProductLineServedOnPinLaw" code 15 (some .boolean) "law" X [] [(a84, c85), (a10, c12), (b11, c13), (a1, c2), (b3, c4)] T90 8 (90) := W91
    show Go Z EL1 _ _ _ X T90 442 #[.val (.int sel), .val (.int pos), .val (.int chi), .val (.int ext), .val (.int mode), .val (.int sk), .val (.int va), .val (.int vb), .val (.ref ac), .val (.int nat), .val (.int mm), .val (.int (11 : Int32)), .val (.ref a1), .val (.ref adA), .val (.ref a84)] [(.int (1 : Int32))]
    refine Go.if_eq (pc' := 445) W91 459 d_code_442 (by decide) rfl (fun q => absurd q (by decide)) (fun _ => ?_)
    refine Go.aload (pc' := 447) W91 d_code_445 rfl rfl rfl ?_
    refine Go.virtual (pc' := 450) W91 (rm_get_o G a84 adA c85 F87) (Or.inr (Or.inl (List.mem_of_getElem? (i := 0) rfl))) O86 (w_96 G) (w_97 G) (w_99 G) (w_98 G) (w_76 G) (w_100 G) (by decide) [] [0] (σf := []) rfl rfl [] [] rfl (lenOf pd_22 rfl) rfl rfl d_code_447 rfl (by first | exact Nat.le_of_ble_eq_true rfl | (simp; done) | (simp; omega) | omega) (by first | exact Nat.le_of_ble_eq_true rfl | (simp; done) | (simp; omega) | omega) (by first | exact Nat.le_of_ble_eq_true rfl | (simp; done) | (simp; omega) | omega) (by first | exact Nat.le_of_ble_eq_true rfl | (simp; done) | (simp; omega) | omega) ?_
    rintro _ _ _ T92 ⟨rfl, rfl, rfl⟩ W93
    replace W93 : Wk l Z EL1 ({ frames := 8, cells := 32, slots := 4288, locals := 192 } : Room) "com/example/upfront_quote/upfrontquote/ProductLineServedOnPinLaw" code 15 (some .boolean) "law" X [] [(a84, c85), (a10, c12), (b11, c13), (a1, c2), (b3, c4)] T92 8 (90) := W93
    show Go Z EL1 _ _ _ X T92 450 #[.val (.int sel), .val (.int pos), .val (.int chi), .val (.int ext), .val (.int mode), .val (.int sk), .val (.int va), .val (.int vb), .val (.ref ac), .val (.int nat), .val (.int mm), .val (.int (11 : Int32)), .val (.ref a1), .val (.ref adA), .val (.ref a84)] [(.ref adA)]
    refine Go.aload (pc' := 452) W93 d_code_450 rfl rfl rfl ?_
    refine Go.acmp_ne (pc' := 455) W93 459 rfl rfl d_code_452 (by decide) rfl (fun hq => absurd rfl hq) (fun _ => ?_)
    refine Go.iconst (pc' := 456) W93 (1 : Int32) d_code_455 (by decide) rfl ?_
    refine Go.goto W93 460 d_code_456 (by decide) ?_
    refine Go.nret (z' := (1 : Int32)) W93 (by simp) (by decide) d_code_460 (by first | exact Nat.le_of_ble_eq_true rfl | (simp; done) | (simp; omega) | omega) (by first | exact Nat.le_of_ble_eq_true rfl | (simp; done) | (simp; omega) | omega) ?_
    rfl
set_option maxRecDepth 65536 in
set_option maxHeartbeats 40000000 in
theorem rm_tail_M {l : Launch} {Z : State} {a0 : Array Value} (G : Cl Z a0) (sel pos chi ext mode : Int32) (sk va vb nat mm : Int32) (adA : Addr) (adB : Addr) (adC : Addr) (adD : Addr) (adE : Addr) (adF : Addr) (adG : Addr) (adH : Addr) (adI : Addr) (adJ : Addr) (ceA : Cell) (ceB : Cell) (ceC : Cell) (ceD : Cell) (ceE : Cell) (ceF : Cell) (ceG : Cell) (ceH : Cell) (ceI : Cell) (ceJ : Cell) (hzA : Z.heap[adA]? = some ceA) (obA : ObjC Z ceA "com/example/upfront_quote/upfrontquote/ProductLine") (fdA : FldC Z ceA "com/example/upfront_quote/upfrontquote/ProductLine" "path" "Ljava/lang/String;" (.ref adE)) (hzB : Z.heap[adB]? = some ceB) (obB : ObjC Z ceB "[Lcom/example/upfront_quote/upfrontquote/ProductLine;") (arA : ArrC Z ceB (.object "com/example/upfront_quote/upfrontquote/ProductLine") [(.ref adA), (.ref adC), (.ref adD)]) (hzC : Z.heap[adC]? = some ceC) (obC : ObjC Z ceC "com/example/upfront_quote/upfrontquote/ProductLine") (fdC : FldC Z ceC "com/example/upfront_quote/upfrontquote/ProductLine" "path" "Ljava/lang/String;" (.ref adG)) (hzD : Z.heap[adD]? = some ceD) (obD : ObjC Z ceD "com/example/upfront_quote/upfrontquote/ProductLine") (fdE : FldC Z ceD "com/example/upfront_quote/upfrontquote/ProductLine" "path" "Ljava/lang/String;" (.ref adI)) (hzE : Z.heap[adE]? = some ceE) (slA : StrL Z ceE adF ceF [(47 : Int32), (97 : Int32), (112 : Int32), (105 : Int32), (47 : Int32), (118 : Int32), (50 : Int32), (47 : Int32), (98 : Int32), (109 : Int32), (99 : Int32)]) (hzF : Z.heap[adF]? = some ceF) (hzG : Z.heap[adG]? = some ceG) (slB : StrL Z ceG adH ceH [(47 : Int32), (97 : Int32), (112 : Int32), (105 : Int32), (47 : Int32), (118 : Int32), (50 : Int32), (47 : Int32), (122 : Int32), (101 : Int32), (99 : Int32)]) (hzH : Z.heap[adH]? = some ceH) (hzI : Z.heap[adI]? = some ceI) (slC : StrL Z ceI adJ ceJ [(47 : Int32), (97 : Int32), (112 : Int32), (105 : Int32), (47 : Int32), (118 : Int32), (50 : Int32), (47 : Int32), (118 : Int32), (109 : Int32)]) (hzJ : Z.heap[adJ]? = some ceJ) (stA : Sta Z Z.heap "com/example/upfront_quote/upfrontquote/ProductLine" "BMC" "Lcom/example/upfront_quote/upfrontquote/ProductLine;" (.ref adA)) (stB : Sta Z Z.heap "com/example/upfront_quote/upfrontquote/ProductLine" "$VALUES" "[Lcom/example/upfront_quote/upfrontquote/ProductLine;" (.ref adB)) (stC : Sta Z Z.heap "com/example/upfront_quote/upfrontquote/ProductLine" "ZEC" "Lcom/example/upfront_quote/upfrontquote/ProductLine;" (.ref adC)) (stD : Sta Z Z.heap "com/example/upfront_quote/upfrontquote/ProductLine" "VM" "Lcom/example/upfront_quote/upfrontquote/ProductLine;" (.ref adD)) (em : Addr) (cem : Cell) (hzem : Z.heap[em]? = some cem) (obem : ObjC Z cem "java/util/Optional") (fdem : FldC Z cem "java/util/Optional" "value" "Ljava/lang/Object;" .null) (stem : Sta Z Z.heap "java/util/Optional" "EMPTY" "Ljava/util/Optional;" (.ref em)) (ac : Addr) (cc : Cell) (xa xb xc xd xe xf xg xh xi xj xk xl : Int32) (hL : Lat [xa, xb, xc, xd, xe, xf, xg, xh, xi, xj, xk, xl]) (A : ArrC Z cc .char [(.int xa), (.int xb), (.int xc), (.int xd), (.int xe), (.int xf), (.int xg), (.int xh), (.int xi), (.int xj), (.int xk), (.int xl)]) {X : Ctx} {T0 : State} (W0 : Wk l Z EL1 ({ frames := 8, cells := 32, slots := 4288, locals := 192 } : Room) "com/example/upfront_quote/upfrontquote/ProductLineServedOnPinLaw" code 15 (some .boolean) "law" X [(ac, cc)] [] T0 1 (12)) :
    Go Z EL1 32 4288 (fun v _ _ => v = some (.int 1)) X T0 348 #[.val (.int sel), .val (.int pos), .val (.int chi), .val (.int ext), .val (.int mode), .val (.int sk), .val (.int va), .val (.int vb), .val (.ref ac), .val (.int nat), .val (.int mm), .val (.int (12 : Int32)), .unset, .unset, .unset] [] := by
  refine Go.aload (pc' := 350) W0 d_code_348 rfl rfl rfl ?_
  refine Go.iload (pc' := 352) W0 d_code_350 rfl rfl ?_
  refine Go.static (pc' := 355) W0 (rm_cut_M G ac cc xa xb xc xd xe xf xg xh xi xj xk xl hL A) (w_2 G) (w_3 G) (w_4 G) (w_5 G) (by decide) [0] [] (σf := []) rfl rfl [(.ref ac), (.int (12 : Int32))] [] rfl (lenOf pd_19 rfl) rfl rfl d_code_352 rfl (by first | exact Nat.le_of_ble_eq_true rfl | (simp; done) | (simp; omega) | omega) (by first | exact Nat.le_of_ble_eq_true rfl | (simp; done) | (simp; omega) | omega) (by first | exact Nat.le_of_ble_eq_true rfl | (simp; done) | (simp; omega) | omega) (by first | exact Nat.le_of_ble_eq_true rfl | (simp; done) | (simp; omega) | omega) ?_
  rintro _ _ _ T6 ⟨a1, c2, b3, c4, rfl, rfl, rfl, S5⟩ W7
  replace W7 : Wk l Z EL1 ({ frames := 8, cells := 32, slots := 4288, locals := 192 } : Room) "com/example/upfront_quote/upfrontquote/ProductLineServedOnPinLaw" code 15 (some .boolean) "law" X [] [(a1, c2), (b3, c4)] T6 3 (28) := W7
  show Go Z EL1 _ _ _ X T6 355 #[.val (.int sel), .val (.int pos), .val (.int chi), .val (.int ext), .val (.int mode), .val (.int sk), .val (.int va), .val (.int vb), .val (.ref ac), .val (.int nat), .val (.int mm), .val (.int (12 : Int32)), .unset, .unset, .unset] [(.ref a1)]
  refine Go.astore (pc' := 357) W7 #[.val (.int sel), .val (.int pos), .val (.int chi), .val (.int ext), .val (.int mode), .val (.int sk), .val (.int va), .val (.int vb), .val (.ref ac), .val (.int nat), .val (.int mm), .val (.int (12 : Int32)), .val (.ref a1), .unset, .unset] d_code_355 rfl rfl rfl ?_
  refine Go.aconstNull (pc' := 358) W7 d_code_357 rfl ?_
  refine Go.astore (pc' := 360) W7 #[.val (.int sel), .val (.int pos), .val (.int chi), .val (.int ext), .val (.int mode), .val (.int sk), .val (.int va), .val (.int vb), .val (.ref ac), .val (.int nat), .val (.int mm), .val (.int (12 : Int32)), .val (.ref a1), .val (.null), .unset] d_code_358 rfl rfl rfl ?_
  refine Go.aload (pc' := 362) W7 d_code_360 rfl rfl rfl ?_
  refine Go.ldcStr (pc' := 364) W7 G.2.1 (w_35 G) (strAtoms G) (by decide) (bs := [(.int (47 : Int32)), (.int (97 : Int32)), (.int (112 : Int32)), (.int (105 : Int32)), (.int (47 : Int32)), (.int (118 : Int32)), (.int (50 : Int32)), (.int (47 : Int32)), (.int (98 : Int32)), (.int (109 : Int32)), (.int (99 : Int32))]) (z := 11) (by decide +kernel) (by decide) (by decide) (by decide) d_code_362 rfl (m := 44) (by decide +kernel) (by decide) (by first | exact Nat.le_of_ble_eq_true rfl | (simp; done) | (simp; omega) | omega) (by first | exact Nat.le_of_ble_eq_true rfl | (simp; done) | (simp; omega) | omega) (fun T8 a10 b11 c12 c13 W9 O14 F15 F16 A17 => ?_)
  replace W9 : Wk l Z EL1 ({ frames := 8, cells := 32, slots := 4288, locals := 192 } : Room) "com/example/upfront_quote/upfrontquote/ProductLineServedOnPinLaw" code 15 (some .boolean) "law" X [] [(a10, c12), (b11, c13), (a1, c2), (b3, c4)] T8 5 (76) := W9
  have S18 : StrL Z c12 b11 c13 [(47 : Int32), (97 : Int32), (112 : Int32), (105 : Int32), (47 : Int32), (118 : Int32), (50 : Int32), (47 : Int32), (98 : Int32), (109 : Int32), (99 : Int32)] := ⟨O14, F15, F16, (by rw [show latB [(47 : Int32), (97 : Int32), (112 : Int32), (105 : Int32), (47 : Int32), (118 : Int32), (50 : Int32), (47 : Int32), (98 : Int32), (109 : Int32), (99 : Int32)] = [(.int (47 : Int32)), (.int (97 : Int32)), (.int (112 : Int32)), (.int (105 : Int32)), (.int (47 : Int32)), (.int (118 : Int32)), (.int (50 : Int32)), (.int (47 : Int32)), (.int (98 : Int32)), (.int (109 : Int32)), (.int (99 : Int32))] from by decide +kernel]; exact A17), (by decide +kernel : ∀ x ∈ ([(47 : Int32), (97 : Int32), (112 : Int32), (105 : Int32), (47 : Int32), (118 : Int32), (50 : Int32), (47 : Int32), (98 : Int32), (109 : Int32), (99 : Int32)] : List Int32), ¬ x < 0 ∧ ¬ (255 : Int32) < x)⟩
  refine Go.virtual (pc' := 367) W9 (rm_eqs G a1 a10 b3 b11 c2 c12 c4 c13 [xa, xb, xc, xd, xe, xf, xg, xh, xi, xj, xk, xl] [(47 : Int32), (97 : Int32), (112 : Int32), (105 : Int32), (47 : Int32), (118 : Int32), (50 : Int32), (47 : Int32), (98 : Int32), (109 : Int32), (99 : Int32)] S5 S18) (Or.inr (Or.inl (List.mem_of_getElem? (i := 2) rfl))) S5.1 (w_38 G) (w_39 G) (w_41 G) (w_40 G) (w_8 G) (w_42 G) (by decide) [] [2, 3, 0, 1] (σf := []) rfl rfl [(.ref a10)] [] rfl (lenOf pd_14 rfl) rfl rfl d_code_364 rfl (by first | exact Nat.le_of_ble_eq_true rfl | (simp; done) | (simp; omega) | omega) (by first | exact Nat.le_of_ble_eq_true rfl | (simp; done) | (simp; omega) | omega) (by first | exact Nat.le_of_ble_eq_true rfl | (simp; done) | (simp; omega) | omega) (by first | exact Nat.le_of_ble_eq_true rfl | (simp; done) | (simp; omega) | omega) ?_
  rintro _ _ _ T19 ⟨rfl, rfl, rfl⟩ W20
  replace W20 : Wk l Z EL1 ({ frames := 8, cells := 32, slots := 4288, locals := 192 } : Room) "com/example/upfront_quote/upfrontquote/ProductLineServedOnPinLaw" code 15 (some .boolean) "law" X [] [(a10, c12), (b11, c13), (a1, c2), (b3, c4)] T19 5 (76) := W20
  show Go Z EL1 _ _ _ X T19 367 #[.val (.int sel), .val (.int pos), .val (.int chi), .val (.int ext), .val (.int mode), .val (.int sk), .val (.int va), .val (.int vb), .val (.ref ac), .val (.int nat), .val (.int mm), .val (.int (12 : Int32)), .val (.ref a1), .val (.null), .unset] [(.int (if ([xa, xb, xc, xd, xe, xf, xg, xh, xi, xj, xk, xl] : List Int32) = [(47 : Int32), (97 : Int32), (112 : Int32), (105 : Int32), (47 : Int32), (118 : Int32), (50 : Int32), (47 : Int32), (98 : Int32), (109 : Int32), (99 : Int32)] then 1 else 0))]
  refine Go.if_eq (pc' := 370) W20 378 d_code_367 (by decide) rfl (fun (c21 : (if ([xa, xb, xc, xd, xe, xf, xg, xh, xi, xj, xk, xl] : List Int32) = [(47 : Int32), (97 : Int32), (112 : Int32), (105 : Int32), (47 : Int32), (118 : Int32), (50 : Int32), (47 : Int32), (98 : Int32), (109 : Int32), (99 : Int32)] then 1 else 0) = 0) => ?_) (fun (c21 : ¬ ((if ([xa, xb, xc, xd, xe, xf, xg, xh, xi, xj, xk, xl] : List Int32) = [(47 : Int32), (97 : Int32), (112 : Int32), (105 : Int32), (47 : Int32), (118 : Int32), (50 : Int32), (47 : Int32), (98 : Int32), (109 : Int32), (99 : Int32)] then 1 else 0) = 0)) => ?_)
  · refine Go.aload (pc' := 380) W20 d_code_378 rfl rfl rfl ?_
    refine Go.ldcStr (pc' := 382) W20 G.2.1 (w_102 G) (strAtoms G) (by decide) (bs := [(.int (47 : Int32)), (.int (97 : Int32)), (.int (112 : Int32)), (.int (105 : Int32)), (.int (47 : Int32)), (.int (118 : Int32)), (.int (50 : Int32)), (.int (47 : Int32)), (.int (122 : Int32)), (.int (101 : Int32)), (.int (99 : Int32))]) (z := 11) (by decide +kernel) (by decide) (by decide) (by decide) d_code_380 rfl (m := 44) (by decide +kernel) (by decide) (by first | exact Nat.le_of_ble_eq_true rfl | (simp; done) | (simp; omega) | omega) (by first | exact Nat.le_of_ble_eq_true rfl | (simp; done) | (simp; omega) | omega) (fun T22 a24 b25 c26 c27 W23 O28 F29 F30 A31 => ?_)
    replace W23 : Wk l Z EL1 ({ frames := 8, cells := 32, slots := 4288, locals := 192 } : Room) "com/example/upfront_quote/upfrontquote/ProductLineServedOnPinLaw" code 15 (some .boolean) "law" X [] [(a24, c26), (b25, c27), (a10, c12), (b11, c13), (a1, c2), (b3, c4)] T22 7 (124) := W23
    have S32 : StrL Z c26 b25 c27 [(47 : Int32), (97 : Int32), (112 : Int32), (105 : Int32), (47 : Int32), (118 : Int32), (50 : Int32), (47 : Int32), (122 : Int32), (101 : Int32), (99 : Int32)] := ⟨O28, F29, F30, (by rw [show latB [(47 : Int32), (97 : Int32), (112 : Int32), (105 : Int32), (47 : Int32), (118 : Int32), (50 : Int32), (47 : Int32), (122 : Int32), (101 : Int32), (99 : Int32)] = [(.int (47 : Int32)), (.int (97 : Int32)), (.int (112 : Int32)), (.int (105 : Int32)), (.int (47 : Int32)), (.int (118 : Int32)), (.int (50 : Int32)), (.int (47 : Int32)), (.int (122 : Int32)), (.int (101 : Int32)), (.int (99 : Int32))] from by decide +kernel]; exact A31), (by decide +kernel : ∀ x ∈ ([(47 : Int32), (97 : Int32), (112 : Int32), (105 : Int32), (47 : Int32), (118 : Int32), (50 : Int32), (47 : Int32), (122 : Int32), (101 : Int32), (99 : Int32)] : List Int32), ¬ x < 0 ∧ ¬ (255 : Int32) < x)⟩
    refine Go.virtual (pc' := 385) W23 (rm_eqs G a1 a24 b3 b25 c2 c26 c4 c27 [xa, xb, xc, xd, xe, xf, xg, xh, xi, xj, xk, xl] [(47 : Int32), (97 : Int32), (112 : Int32), (105 : Int32), (47 : Int32), (118 : Int32), (50 : Int32), (47 : Int32), (122 : Int32), (101 : Int32), (99 : Int32)] S5 S32) (Or.inr (Or.inl (List.mem_of_getElem? (i := 4) rfl))) S5.1 (w_38 G) (w_39 G) (w_41 G) (w_40 G) (w_8 G) (w_42 G) (by decide) [] [4, 5, 0, 1] (σf := []) rfl rfl [(.ref a24)] [] rfl (lenOf pd_14 rfl) rfl rfl d_code_382 rfl (by first | exact Nat.le_of_ble_eq_true rfl | (simp; done) | (simp; omega) | omega) (by first | exact Nat.le_of_ble_eq_true rfl | (simp; done) | (simp; omega) | omega) (by first | exact Nat.le_of_ble_eq_true rfl | (simp; done) | (simp; omega) | omega) (by first | exact Nat.le_of_ble_eq_true rfl | (simp; done) | (simp; omega) | omega) ?_
    rintro _ _ _ T33 ⟨rfl, rfl, rfl⟩ W34
    replace W34 : Wk l Z EL1 ({ frames := 8, cells := 32, slots := 4288, locals := 192 } : Room) "com/example/upfront_quote/upfrontquote/ProductLineServedOnPinLaw" code 15 (some .boolean) "law" X [] [(a24, c26), (b25, c27), (a10, c12), (b11, c13), (a1, c2), (b3, c4)] T33 7 (124) := W34
    show Go Z EL1 _ _ _ X T33 385 #[.val (.int sel), .val (.int pos), .val (.int chi), .val (.int ext), .val (.int mode), .val (.int sk), .val (.int va), .val (.int vb), .val (.ref ac), .val (.int nat), .val (.int mm), .val (.int (12 : Int32)), .val (.ref a1), .val (.null), .unset] [(.int (if ([xa, xb, xc, xd, xe, xf, xg, xh, xi, xj, xk, xl] : List Int32) = [(47 : Int32), (97 : Int32), (112 : Int32), (105 : Int32), (47 : Int32), (118 : Int32), (50 : Int32), (47 : Int32), (122 : Int32), (101 : Int32), (99 : Int32)] then 1 else 0))]
    refine Go.if_eq (pc' := 388) W34 396 d_code_385 (by decide) rfl (fun (c35 : (if ([xa, xb, xc, xd, xe, xf, xg, xh, xi, xj, xk, xl] : List Int32) = [(47 : Int32), (97 : Int32), (112 : Int32), (105 : Int32), (47 : Int32), (118 : Int32), (50 : Int32), (47 : Int32), (122 : Int32), (101 : Int32), (99 : Int32)] then 1 else 0) = 0) => ?_) (fun (c35 : ¬ ((if ([xa, xb, xc, xd, xe, xf, xg, xh, xi, xj, xk, xl] : List Int32) = [(47 : Int32), (97 : Int32), (112 : Int32), (105 : Int32), (47 : Int32), (118 : Int32), (50 : Int32), (47 : Int32), (122 : Int32), (101 : Int32), (99 : Int32)] then 1 else 0) = 0)) => ?_)
    · refine Go.aload (pc' := 398) W34 d_code_396 rfl rfl rfl ?_
      refine Go.ldcStr (pc' := 400) W34 G.2.1 (w_103 G) (strAtoms G) (by decide) (bs := [(.int (47 : Int32)), (.int (97 : Int32)), (.int (112 : Int32)), (.int (105 : Int32)), (.int (47 : Int32)), (.int (118 : Int32)), (.int (50 : Int32)), (.int (47 : Int32)), (.int (118 : Int32)), (.int (109 : Int32))]) (z := 10) (by decide +kernel) (by decide) (by decide) (by decide) d_code_398 rfl (m := 40) (by decide +kernel) (by decide) (by first | exact Nat.le_of_ble_eq_true rfl | (simp; done) | (simp; omega) | omega) (by first | exact Nat.le_of_ble_eq_true rfl | (simp; done) | (simp; omega) | omega) (fun T36 a38 b39 c40 c41 W37 O42 F43 F44 A45 => ?_)
      replace W37 : Wk l Z EL1 ({ frames := 8, cells := 32, slots := 4288, locals := 192 } : Room) "com/example/upfront_quote/upfrontquote/ProductLineServedOnPinLaw" code 15 (some .boolean) "law" X [] [(a38, c40), (b39, c41), (a24, c26), (b25, c27), (a10, c12), (b11, c13), (a1, c2), (b3, c4)] T36 9 (168) := W37
      have S46 : StrL Z c40 b39 c41 [(47 : Int32), (97 : Int32), (112 : Int32), (105 : Int32), (47 : Int32), (118 : Int32), (50 : Int32), (47 : Int32), (118 : Int32), (109 : Int32)] := ⟨O42, F43, F44, (by rw [show latB [(47 : Int32), (97 : Int32), (112 : Int32), (105 : Int32), (47 : Int32), (118 : Int32), (50 : Int32), (47 : Int32), (118 : Int32), (109 : Int32)] = [(.int (47 : Int32)), (.int (97 : Int32)), (.int (112 : Int32)), (.int (105 : Int32)), (.int (47 : Int32)), (.int (118 : Int32)), (.int (50 : Int32)), (.int (47 : Int32)), (.int (118 : Int32)), (.int (109 : Int32))] from by decide +kernel]; exact A45), (by decide +kernel : ∀ x ∈ ([(47 : Int32), (97 : Int32), (112 : Int32), (105 : Int32), (47 : Int32), (118 : Int32), (50 : Int32), (47 : Int32), (118 : Int32), (109 : Int32)] : List Int32), ¬ x < 0 ∧ ¬ (255 : Int32) < x)⟩
      refine Go.virtual (pc' := 403) W37 (rm_eqs G a1 a38 b3 b39 c2 c40 c4 c41 [xa, xb, xc, xd, xe, xf, xg, xh, xi, xj, xk, xl] [(47 : Int32), (97 : Int32), (112 : Int32), (105 : Int32), (47 : Int32), (118 : Int32), (50 : Int32), (47 : Int32), (118 : Int32), (109 : Int32)] S5 S46) (Or.inr (Or.inl (List.mem_of_getElem? (i := 6) rfl))) S5.1 (w_38 G) (w_39 G) (w_41 G) (w_40 G) (w_8 G) (w_42 G) (by decide) [] [6, 7, 0, 1] (σf := []) rfl rfl [(.ref a38)] [] rfl (lenOf pd_14 rfl) rfl rfl d_code_400 rfl (by first | exact Nat.le_of_ble_eq_true rfl | (simp; done) | (simp; omega) | omega) (by first | exact Nat.le_of_ble_eq_true rfl | (simp; done) | (simp; omega) | omega) (by first | exact Nat.le_of_ble_eq_true rfl | (simp; done) | (simp; omega) | omega) (by first | exact Nat.le_of_ble_eq_true rfl | (simp; done) | (simp; omega) | omega) ?_
      rintro _ _ _ T47 ⟨rfl, rfl, rfl⟩ W48
      replace W48 : Wk l Z EL1 ({ frames := 8, cells := 32, slots := 4288, locals := 192 } : Room) "com/example/upfront_quote/upfrontquote/ProductLineServedOnPinLaw" code 15 (some .boolean) "law" X [] [(a38, c40), (b39, c41), (a24, c26), (b25, c27), (a10, c12), (b11, c13), (a1, c2), (b3, c4)] T47 9 (168) := W48
      show Go Z EL1 _ _ _ X T47 403 #[.val (.int sel), .val (.int pos), .val (.int chi), .val (.int ext), .val (.int mode), .val (.int sk), .val (.int va), .val (.int vb), .val (.ref ac), .val (.int nat), .val (.int mm), .val (.int (12 : Int32)), .val (.ref a1), .val (.null), .unset] [(.int (if ([xa, xb, xc, xd, xe, xf, xg, xh, xi, xj, xk, xl] : List Int32) = [(47 : Int32), (97 : Int32), (112 : Int32), (105 : Int32), (47 : Int32), (118 : Int32), (50 : Int32), (47 : Int32), (118 : Int32), (109 : Int32)] then 1 else 0))]
      refine Go.if_eq (pc' := 406) W48 411 d_code_403 (by decide) rfl (fun (c49 : (if ([xa, xb, xc, xd, xe, xf, xg, xh, xi, xj, xk, xl] : List Int32) = [(47 : Int32), (97 : Int32), (112 : Int32), (105 : Int32), (47 : Int32), (118 : Int32), (50 : Int32), (47 : Int32), (118 : Int32), (109 : Int32)] then 1 else 0) = 0) => ?_) (fun (c49 : ¬ ((if ([xa, xb, xc, xd, xe, xf, xg, xh, xi, xj, xk, xl] : List Int32) = [(47 : Int32), (97 : Int32), (112 : Int32), (105 : Int32), (47 : Int32), (118 : Int32), (50 : Int32), (47 : Int32), (118 : Int32), (109 : Int32)] then 1 else 0) = 0)) => ?_)
      · refine Go.aload (pc' := 413) W48 d_code_411 rfl rfl rfl ?_
        refine Go.static (pc' := 416) W48 (rm_srv G adA adB adC adD adE adF adG adH adI adJ ceA ceB ceC ceD ceE ceF ceG ceH ceI ceJ hzA obA fdA hzB obB arA hzC obC fdC hzD obD fdE hzE slA hzF hzG slB hzH hzI slC hzJ stA stB stC stD em cem hzem obem fdem stem a1 b3 c2 c4 [xa, xb, xc, xd, xe, xf, xg, xh, xi, xj, xk, xl] S5) (w_51 G) (w_52 G) (w_49 G) (w_53 G) (by decide) [] [6, 7] (σf := []) rfl rfl [(.ref a1)] [] rfl (lenOf pd_20 rfl) rfl rfl d_code_413 rfl (by first | exact Nat.le_of_ble_eq_true rfl | (simp; done) | (simp; omega) | omega) (by first | exact Nat.le_of_ble_eq_true rfl | (simp; done) | (simp; omega) | omega) (by first | exact Nat.le_of_ble_eq_true rfl | (simp; done) | (simp; omega) | omega) (by first | exact Nat.le_of_ble_eq_true rfl | (simp; done) | (simp; omega) | omega) ?_
        rintro _ _ _ T54 ⟨a50, c51, rfl, rfl, rfl, O52, F53⟩ W55
        replace W55 : Wk l Z EL1 ({ frames := 8, cells := 32, slots := 4288, locals := 192 } : Room) "com/example/upfront_quote/upfrontquote/ProductLineServedOnPinLaw" code 15 (some .boolean) "law" X [] [(a50, c51), (a38, c40), (b39, c41), (a24, c26), (b25, c27), (a10, c12), (b11, c13), (a1, c2), (b3, c4)] T54 11 (172) := W55
        show Go Z EL1 _ _ _ X T54 416 #[.val (.int sel), .val (.int pos), .val (.int chi), .val (.int ext), .val (.int mode), .val (.int sk), .val (.int va), .val (.int vb), .val (.ref ac), .val (.int nat), .val (.int mm), .val (.int (12 : Int32)), .val (.ref a1), .val (.null), .unset] [(.ref a50)]
        rw [fsn, if_neg (ite10_z.mp c21), if_neg (ite10_z.mp c35), if_neg (ite10_z.mp c49)] at F53
        refine Go.astore (pc' := 418) W55 #[.val (.int sel), .val (.int pos), .val (.int chi), .val (.int ext), .val (.int mode), .val (.int sk), .val (.int va), .val (.int vb), .val (.ref ac), .val (.int nat), .val (.int mm), .val (.int (12 : Int32)), .val (.ref a1), .val (.null), .val (.ref a50)] d_code_416 rfl rfl rfl ?_
        refine Go.aload (pc' := 420) W55 d_code_418 rfl rfl rfl ?_
        refine Go.ifnonnull_no (pc' := 423) W55 d_code_420 rfl ?_
        refine Go.aload (pc' := 425) W55 d_code_423 rfl rfl rfl ?_
        refine Go.virtual (pc' := 428) W55 (rm_isp_z G a50 c51 F53) (Or.inr (Or.inl (List.mem_of_getElem? (i := 0) rfl))) O52 (w_91 G) (w_92 G) (w_94 G) (w_93 G) (w_76 G) (w_95 G) (by decide) [] [0] (σf := []) rfl rfl [] [] rfl (lenOf pd_21 rfl) rfl rfl d_code_425 rfl (by first | exact Nat.le_of_ble_eq_true rfl | (simp; done) | (simp; omega) | omega) (by first | exact Nat.le_of_ble_eq_true rfl | (simp; done) | (simp; omega) | omega) (by first | exact Nat.le_of_ble_eq_true rfl | (simp; done) | (simp; omega) | omega) (by first | exact Nat.le_of_ble_eq_true rfl | (simp; done) | (simp; omega) | omega) ?_
        rintro _ _ _ T56 ⟨rfl, rfl, rfl⟩ W57
        replace W57 : Wk l Z EL1 ({ frames := 8, cells := 32, slots := 4288, locals := 192 } : Room) "com/example/upfront_quote/upfrontquote/ProductLineServedOnPinLaw" code 15 (some .boolean) "law" X [] [(a50, c51), (a38, c40), (b39, c41), (a24, c26), (b25, c27), (a10, c12), (b11, c13), (a1, c2), (b3, c4)] T56 11 (172) := W57
        show Go Z EL1 _ _ _ X T56 428 #[.val (.int sel), .val (.int pos), .val (.int chi), .val (.int ext), .val (.int mode), .val (.int sk), .val (.int va), .val (.int vb), .val (.ref ac), .val (.int nat), .val (.int mm), .val (.int (12 : Int32)), .val (.ref a1), .val (.null), .val (.ref a50)] [(.int (0 : Int32))]
        refine Go.if_ne (pc' := 431) W57 435 d_code_428 (by decide) rfl (fun q => absurd (by decide) q) (fun _ => ?_)
        refine Go.iconst (pc' := 432) W57 (1 : Int32) d_code_431 (by decide) rfl ?_
        refine Go.goto W57 436 d_code_432 (by decide) ?_
        refine Go.nret (z' := (1 : Int32)) W57 (by simp) (by decide) d_code_436 (by first | exact Nat.le_of_ble_eq_true rfl | (simp; done) | (simp; omega) | omega) (by first | exact Nat.le_of_ble_eq_true rfl | (simp; done) | (simp; omega) | omega) ?_
        rfl
      · refine Go.getstatic (pc' := 409) W48 (w_108 G) Via.refl stD d_code_406 rfl (fun T58 W59 => ?_)
        refine Go.astore (pc' := 411) W59 #[.val (.int sel), .val (.int pos), .val (.int chi), .val (.int ext), .val (.int mode), .val (.int sk), .val (.int va), .val (.int vb), .val (.ref ac), .val (.int nat), .val (.int mm), .val (.int (12 : Int32)), .val (.ref a1), .val (.ref adD), .unset] d_code_409 rfl rfl rfl ?_
        refine Go.aload (pc' := 413) W59 d_code_411 rfl rfl rfl ?_
        refine Go.static (pc' := 416) W59 (rm_srv G adA adB adC adD adE adF adG adH adI adJ ceA ceB ceC ceD ceE ceF ceG ceH ceI ceJ hzA obA fdA hzB obB arA hzC obC fdC hzD obD fdE hzE slA hzF hzG slB hzH hzI slC hzJ stA stB stC stD em cem hzem obem fdem stem a1 b3 c2 c4 [xa, xb, xc, xd, xe, xf, xg, xh, xi, xj, xk, xl] S5) (w_51 G) (w_52 G) (w_49 G) (w_53 G) (by decide) [] [6, 7] (σf := []) rfl rfl [(.ref a1)] [] rfl (lenOf pd_20 rfl) rfl rfl d_code_413 rfl (by first | exact Nat.le_of_ble_eq_true rfl | (simp; done) | (simp; omega) | omega) (by first | exact Nat.le_of_ble_eq_true rfl | (simp; done) | (simp; omega) | omega) (by first | exact Nat.le_of_ble_eq_true rfl | (simp; done) | (simp; omega) | omega) (by first | exact Nat.le_of_ble_eq_true rfl | (simp; done) | (simp; omega) | omega) ?_
        rintro _ _ _ T64 ⟨a60, c61, rfl, rfl, rfl, O62, F63⟩ W65
        replace W65 : Wk l Z EL1 ({ frames := 8, cells := 32, slots := 4288, locals := 192 } : Room) "com/example/upfront_quote/upfrontquote/ProductLineServedOnPinLaw" code 15 (some .boolean) "law" X [] [(a60, c61), (a38, c40), (b39, c41), (a24, c26), (b25, c27), (a10, c12), (b11, c13), (a1, c2), (b3, c4)] T64 11 (172) := W65
        show Go Z EL1 _ _ _ X T64 416 #[.val (.int sel), .val (.int pos), .val (.int chi), .val (.int ext), .val (.int mode), .val (.int sk), .val (.int va), .val (.int vb), .val (.ref ac), .val (.int nat), .val (.int mm), .val (.int (12 : Int32)), .val (.ref a1), .val (.ref adD), .unset] [(.ref a60)]
        rw [fsn, if_neg (ite10_z.mp c21), if_neg (ite10_z.mp c35), if_pos (Classical.not_not.mp (fun e => c49 (ite10_z.mpr e)))] at F63
        refine Go.astore (pc' := 418) W65 #[.val (.int sel), .val (.int pos), .val (.int chi), .val (.int ext), .val (.int mode), .val (.int sk), .val (.int va), .val (.int vb), .val (.ref ac), .val (.int nat), .val (.int mm), .val (.int (12 : Int32)), .val (.ref a1), .val (.ref adD), .val (.ref a60)] d_code_416 rfl rfl rfl ?_
        refine Go.aload (pc' := 420) W65 d_code_418 rfl rfl rfl ?_
        refine Go.ifnonnull_yes W65 437 d_code_420 (by decide) ?_
        refine Go.aload (pc' := 439) W65 d_code_437 rfl rfl rfl ?_
        refine Go.virtual (pc' := 442) W65 (rm_isp_o G a60 adD c61 F63) (Or.inr (Or.inl (List.mem_of_getElem? (i := 0) rfl))) O62 (w_91 G) (w_92 G) (w_94 G) (w_93 G) (w_76 G) (w_95 G) (by decide) [] [0] (σf := []) rfl rfl [] [] rfl (lenOf pd_21 rfl) rfl rfl d_code_439 rfl (by first | exact Nat.le_of_ble_eq_true rfl | (simp; done) | (simp; omega) | omega) (by first | exact Nat.le_of_ble_eq_true rfl | (simp; done) | (simp; omega) | omega) (by first | exact Nat.le_of_ble_eq_true rfl | (simp; done) | (simp; omega) | omega) (by first | exact Nat.le_of_ble_eq_true rfl | (simp; done) | (simp; omega) | omega) ?_
        rintro _ _ _ T66 ⟨rfl, rfl, rfl⟩ W67
        replace W67 : Wk l Z EL1 ({ frames := 8, cells := 32, slots := 4288, locals := 192 } : Room) "com/example/upfront_quote/upfrontquote/ProductLineServedOnPinLaw" code 15 (some .boolean) "law" X [] [(a60, c61), (a38, c40), (b39, c41), (a24, c26), (b25, c27), (a10, c12), (b11, c13), (a1, c2), (b3, c4)] T66 11 (172) := W67
        show Go Z EL1 _ _ _ X T66 442 #[.val (.int sel), .val (.int pos), .val (.int chi), .val (.int ext), .val (.int mode), .val (.int sk), .val (.int va), .val (.int vb), .val (.ref ac), .val (.int nat), .val (.int mm), .val (.int (12 : Int32)), .val (.ref a1), .val (.ref adD), .val (.ref a60)] [(.int (1 : Int32))]
        refine Go.if_eq (pc' := 445) W67 459 d_code_442 (by decide) rfl (fun q => absurd q (by decide)) (fun _ => ?_)
        refine Go.aload (pc' := 447) W67 d_code_445 rfl rfl rfl ?_
        refine Go.virtual (pc' := 450) W67 (rm_get_o G a60 adD c61 F63) (Or.inr (Or.inl (List.mem_of_getElem? (i := 0) rfl))) O62 (w_96 G) (w_97 G) (w_99 G) (w_98 G) (w_76 G) (w_100 G) (by decide) [] [0] (σf := []) rfl rfl [] [] rfl (lenOf pd_22 rfl) rfl rfl d_code_447 rfl (by first | exact Nat.le_of_ble_eq_true rfl | (simp; done) | (simp; omega) | omega) (by first | exact Nat.le_of_ble_eq_true rfl | (simp; done) | (simp; omega) | omega) (by first | exact Nat.le_of_ble_eq_true rfl | (simp; done) | (simp; omega) | omega) (by first | exact Nat.le_of_ble_eq_true rfl | (simp; done) | (simp; omega) | omega) ?_
        rintro _ _ _ T68 ⟨rfl, rfl, rfl⟩ W69
        replace W69 : Wk l Z EL1 ({ frames := 8, cells := 32, slots := 4288, locals := 192 } : Room) "com/example/upfront_quote/upfrontquote/ProductLineServedOnPinLaw" code 15 (some .boolean) "law" X [] [(a60, c61), (a38, c40), (b39, c41), (a24, c26), (b25, c27), (a10, c12), (b11, c13), (a1, c2), (b3, c4)] T68 11 (172) := W69
        show Go Z EL1 _ _ _ X T68 450 #[.val (.int sel), .val (.int pos), .val (.int chi), .val (.int ext), .val (.int mode), .val (.int sk), .val (.int va), .val (.int vb), .val (.ref ac), .val (.int nat), .val (.int mm), .val (.int (12 : Int32)), .val (.ref a1), .val (.ref adD), .val (.ref a60)] [(.ref adD)]
        refine Go.aload (pc' := 452) W69 d_code_450 rfl rfl rfl ?_
        refine Go.acmp_ne (pc' := 455) W69 459 rfl rfl d_code_452 (by decide) rfl (fun hq => absurd rfl hq) (fun _ => ?_)
        refine Go.iconst (pc' := 456) W69 (1 : Int32) d_code_455 (by decide) rfl ?_
        refine Go.goto W69 460 d_code_456 (by decide) ?_
        refine Go.nret (z' := (1 : Int32)) W69 (by simp) (by decide) d_code_460 (by first | exact Nat.le_of_ble_eq_true rfl | (simp; done) | (simp; omega) | omega) (by first | exact Nat.le_of_ble_eq_true rfl | (simp; done) | (simp; omega) | omega) ?_
        rfl
    · refine Go.getstatic (pc' := 391) W34 (w_109 G) Via.refl stC d_code_388 rfl (fun T70 W71 => ?_)
      refine Go.astore (pc' := 393) W71 #[.val (.int sel), .val (.int pos), .val (.int chi), .val (.int ext), .val (.int mode), .val (.int sk), .val (.int va), .val (.int vb), .val (.ref ac), .val (.int nat), .val (.int mm), .val (.int (12 : Int32)), .val (.ref a1), .val (.ref adC), .unset] d_code_391 rfl rfl rfl ?_
      refine Go.goto W71 411 d_code_393 (by decide) ?_
      refine Go.aload (pc' := 413) W71 d_code_411 rfl rfl rfl ?_
      refine Go.static (pc' := 416) W71 (rm_srv G adA adB adC adD adE adF adG adH adI adJ ceA ceB ceC ceD ceE ceF ceG ceH ceI ceJ hzA obA fdA hzB obB arA hzC obC fdC hzD obD fdE hzE slA hzF hzG slB hzH hzI slC hzJ stA stB stC stD em cem hzem obem fdem stem a1 b3 c2 c4 [xa, xb, xc, xd, xe, xf, xg, xh, xi, xj, xk, xl] S5) (w_51 G) (w_52 G) (w_49 G) (w_53 G) (by decide) [] [4, 5] (σf := []) rfl rfl [(.ref a1)] [] rfl (lenOf pd_20 rfl) rfl rfl d_code_413 rfl (by first | exact Nat.le_of_ble_eq_true rfl | (simp; done) | (simp; omega) | omega) (by first | exact Nat.le_of_ble_eq_true rfl | (simp; done) | (simp; omega) | omega) (by first | exact Nat.le_of_ble_eq_true rfl | (simp; done) | (simp; omega) | omega) (by first | exact Nat.le_of_ble_eq_true rfl | (simp; done) | (simp; omega) | omega) ?_
      rintro _ _ _ T76 ⟨a72, c73, rfl, rfl, rfl, O74, F75⟩ W77
      replace W77 : Wk l Z EL1 ({ frames := 8, cells := 32, slots := 4288, locals := 192 } : Room) "com/example/upfront_quote/upfrontquote/ProductLineServedOnPinLaw" code 15 (some .boolean) "law" X [] [(a72, c73), (a24, c26), (b25, c27), (a10, c12), (b11, c13), (a1, c2), (b3, c4)] T76 9 (128) := W77
      show Go Z EL1 _ _ _ X T76 416 #[.val (.int sel), .val (.int pos), .val (.int chi), .val (.int ext), .val (.int mode), .val (.int sk), .val (.int va), .val (.int vb), .val (.ref ac), .val (.int nat), .val (.int mm), .val (.int (12 : Int32)), .val (.ref a1), .val (.ref adC), .unset] [(.ref a72)]
      rw [fsn, if_neg (ite10_z.mp c21), if_pos (Classical.not_not.mp (fun e => c35 (ite10_z.mpr e)))] at F75
      refine Go.astore (pc' := 418) W77 #[.val (.int sel), .val (.int pos), .val (.int chi), .val (.int ext), .val (.int mode), .val (.int sk), .val (.int va), .val (.int vb), .val (.ref ac), .val (.int nat), .val (.int mm), .val (.int (12 : Int32)), .val (.ref a1), .val (.ref adC), .val (.ref a72)] d_code_416 rfl rfl rfl ?_
      refine Go.aload (pc' := 420) W77 d_code_418 rfl rfl rfl ?_
      refine Go.ifnonnull_yes W77 437 d_code_420 (by decide) ?_
      refine Go.aload (pc' := 439) W77 d_code_437 rfl rfl rfl ?_
      refine Go.virtual (pc' := 442) W77 (rm_isp_o G a72 adC c73 F75) (Or.inr (Or.inl (List.mem_of_getElem? (i := 0) rfl))) O74 (w_91 G) (w_92 G) (w_94 G) (w_93 G) (w_76 G) (w_95 G) (by decide) [] [0] (σf := []) rfl rfl [] [] rfl (lenOf pd_21 rfl) rfl rfl d_code_439 rfl (by first | exact Nat.le_of_ble_eq_true rfl | (simp; done) | (simp; omega) | omega) (by first | exact Nat.le_of_ble_eq_true rfl | (simp; done) | (simp; omega) | omega) (by first | exact Nat.le_of_ble_eq_true rfl | (simp; done) | (simp; omega) | omega) (by first | exact Nat.le_of_ble_eq_true rfl | (simp; done) | (simp; omega) | omega) ?_
      rintro _ _ _ T78 ⟨rfl, rfl, rfl⟩ W79
      replace W79 : Wk l Z EL1 ({ frames := 8, cells := 32, slots := 4288, locals := 192 } : Room) "com/example/upfront_quote/upfrontquote/ProductLineServedOnPinLaw" code 15 (some .boolean) "law" X [] [(a72, c73), (a24, c26), (b25, c27), (a10, c12), (b11, c13), (a1, c2), (b3, c4)] T78 9 (128) := W79
      show Go Z EL1 _ _ _ X T78 442 #[.val (.int sel), .val (.int pos), .val (.int chi), .val (.int ext), .val (.int mode), .val (.int sk), .val (.int va), .val (.int vb), .val (.ref ac), .val (.int nat), .val (.int mm), .val (.int (12 : Int32)), .val (.ref a1), .val (.ref adC), .val (.ref a72)] [(.int (1 : Int32))]
      refine Go.if_eq (pc' := 445) W79 459 d_code_442 (by decide) rfl (fun q => absurd q (by decide)) (fun _ => ?_)
      refine Go.aload (pc' := 447) W79 d_code_445 rfl rfl rfl ?_
      refine Go.virtual (pc' := 450) W79 (rm_get_o G a72 adC c73 F75) (Or.inr (Or.inl (List.mem_of_getElem? (i := 0) rfl))) O74 (w_96 G) (w_97 G) (w_99 G) (w_98 G) (w_76 G) (w_100 G) (by decide) [] [0] (σf := []) rfl rfl [] [] rfl (lenOf pd_22 rfl) rfl rfl d_code_447 rfl (by first | exact Nat.le_of_ble_eq_true rfl | (simp; done) | (simp; omega) | omega) (by first | exact Nat.le_of_ble_eq_true rfl | (simp; done) | (simp; omega) | omega) (by first | exact Nat.le_of_ble_eq_true rfl | (simp; done) | (simp; omega) | omega) (by first | exact Nat.le_of_ble_eq_true rfl | (simp; done) | (simp; omega) | omega) ?_
      rintro _ _ _ T80 ⟨rfl, rfl, rfl⟩ W81
      replace W81 : Wk l Z EL1 ({ frames := 8, cells := 32, slots := 4288, locals := 192 } : Room) "com/example/upfront_quote/upfrontquote/ProductLineServedOnPinLaw" code 15 (some .boolean) "law" X [] [(a72, c73), (a24, c26), (b25, c27), (a10, c12), (b11, c13), (a1, c2), (b3, c4)] T80 9 (128) := W81
      show Go Z EL1 _ _ _ X T80 450 #[.val (.int sel), .val (.int pos), .val (.int chi), .val (.int ext), .val (.int mode), .val (.int sk), .val (.int va), .val (.int vb), .val (.ref ac), .val (.int nat), .val (.int mm), .val (.int (12 : Int32)), .val (.ref a1), .val (.ref adC), .val (.ref a72)] [(.ref adC)]
      refine Go.aload (pc' := 452) W81 d_code_450 rfl rfl rfl ?_
      refine Go.acmp_ne (pc' := 455) W81 459 rfl rfl d_code_452 (by decide) rfl (fun hq => absurd rfl hq) (fun _ => ?_)
      refine Go.iconst (pc' := 456) W81 (1 : Int32) d_code_455 (by decide) rfl ?_
      refine Go.goto W81 460 d_code_456 (by decide) ?_
      refine Go.nret (z' := (1 : Int32)) W81 (by simp) (by decide) d_code_460 (by first | exact Nat.le_of_ble_eq_true rfl | (simp; done) | (simp; omega) | omega) (by first | exact Nat.le_of_ble_eq_true rfl | (simp; done) | (simp; omega) | omega) ?_
      rfl
  · refine Go.getstatic (pc' := 373) W20 (w_48 G) Via.refl stA d_code_370 rfl (fun T82 W83 => ?_)
    refine Go.astore (pc' := 375) W83 #[.val (.int sel), .val (.int pos), .val (.int chi), .val (.int ext), .val (.int mode), .val (.int sk), .val (.int va), .val (.int vb), .val (.ref ac), .val (.int nat), .val (.int mm), .val (.int (12 : Int32)), .val (.ref a1), .val (.ref adA), .unset] d_code_373 rfl rfl rfl ?_
    refine Go.goto W83 411 d_code_375 (by decide) ?_
    refine Go.aload (pc' := 413) W83 d_code_411 rfl rfl rfl ?_
    refine Go.static (pc' := 416) W83 (rm_srv G adA adB adC adD adE adF adG adH adI adJ ceA ceB ceC ceD ceE ceF ceG ceH ceI ceJ hzA obA fdA hzB obB arA hzC obC fdC hzD obD fdE hzE slA hzF hzG slB hzH hzI slC hzJ stA stB stC stD em cem hzem obem fdem stem a1 b3 c2 c4 [xa, xb, xc, xd, xe, xf, xg, xh, xi, xj, xk, xl] S5) (w_51 G) (w_52 G) (w_49 G) (w_53 G) (by decide) [] [2, 3] (σf := []) rfl rfl [(.ref a1)] [] rfl (lenOf pd_20 rfl) rfl rfl d_code_413 rfl (by first | exact Nat.le_of_ble_eq_true rfl | (simp; done) | (simp; omega) | omega) (by first | exact Nat.le_of_ble_eq_true rfl | (simp; done) | (simp; omega) | omega) (by first | exact Nat.le_of_ble_eq_true rfl | (simp; done) | (simp; omega) | omega) (by first | exact Nat.le_of_ble_eq_true rfl | (simp; done) | (simp; omega) | omega) ?_
    rintro _ _ _ T88 ⟨a84, c85, rfl, rfl, rfl, O86, F87⟩ W89
    replace W89 : Wk l Z EL1 ({ frames := 8, cells := 32, slots := 4288, locals := 192 } : Room) "com/example/upfront_quote/upfrontquote/ProductLineServedOnPinLaw" code 15 (some .boolean) "law" X [] [(a84, c85), (a10, c12), (b11, c13), (a1, c2), (b3, c4)] T88 7 (80) := W89
    show Go Z EL1 _ _ _ X T88 416 #[.val (.int sel), .val (.int pos), .val (.int chi), .val (.int ext), .val (.int mode), .val (.int sk), .val (.int va), .val (.int vb), .val (.ref ac), .val (.int nat), .val (.int mm), .val (.int (12 : Int32)), .val (.ref a1), .val (.ref adA), .unset] [(.ref a84)]
    rw [fsn, if_pos (Classical.not_not.mp (fun e => c21 (ite10_z.mpr e)))] at F87
    refine Go.astore (pc' := 418) W89 #[.val (.int sel), .val (.int pos), .val (.int chi), .val (.int ext), .val (.int mode), .val (.int sk), .val (.int va), .val (.int vb), .val (.ref ac), .val (.int nat), .val (.int mm), .val (.int (12 : Int32)), .val (.ref a1), .val (.ref adA), .val (.ref a84)] d_code_416 rfl rfl rfl ?_
    refine Go.aload (pc' := 420) W89 d_code_418 rfl rfl rfl ?_
    refine Go.ifnonnull_yes W89 437 d_code_420 (by decide) ?_
    refine Go.aload (pc' := 439) W89 d_code_437 rfl rfl rfl ?_
    refine Go.virtual (pc' := 442) W89 (rm_isp_o G a84 adA c85 F87) (Or.inr (Or.inl (List.mem_of_getElem? (i := 0) rfl))) O86 (w_91 G) (w_92 G) (w_94 G) (w_93 G) (w_76 G) (w_95 G) (by decide) [] [0] (σf := []) rfl rfl [] [] rfl (lenOf pd_21 rfl) rfl rfl d_code_439 rfl (by first | exact Nat.le_of_ble_eq_true rfl | (simp; done) | (simp; omega) | omega) (by first | exact Nat.le_of_ble_eq_true rfl | (simp; done) | (simp; omega) | omega) (by first | exact Nat.le_of_ble_eq_true rfl | (simp; done) | (simp; omega) | omega) (by first | exact Nat.le_of_ble_eq_true rfl | (simp; done) | (simp; omega) | omega) ?_
    rintro _ _ _ T90 ⟨rfl, rfl, rfl⟩ W91
    replace W91 : Wk l Z EL1 ({ frames := 8, cells := 32, slots := 4288, locals := 192 } : Room) "com/example/upfront_quote/upfrontquote/ProductLineServedOnPinLaw" code 15 (some .boolean) "law" X [] [(a84, c85), (a10, c12), (b11, c13), (a1, c2), (b3, c4)] T90 7 (80) := W91
    show Go Z EL1 _ _ _ X T90 442 #[.val (.int sel), .val (.int pos), .val (.int chi), .val (.int ext), .val (.int mode), .val (.int sk), .val (.int va), .val (.int vb), .val (.ref ac), .val (.int nat), .val (.int mm), .val (.int (12 : Int32)), .val (.ref a1), .val (.ref adA), .val (.ref a84)] [(.int (1 : Int32))]
    refine Go.if_eq (pc' := 445) W91 459 d_code_442 (by decide) rfl (fun q => absurd q (by decide)) (fun _ => ?_)
    refine Go.aload (pc' := 447) W91 d_code_445 rfl rfl rfl ?_
    refine Go.virtual (pc' := 450) W91 (rm_get_o G a84 adA c85 F87) (Or.inr (Or.inl (List.mem_of_getElem? (i := 0) rfl))) O86 (w_96 G) (w_97 G) (w_99 G) (w_98 G) (w_76 G) (w_100 G) (by decide) [] [0] (σf := []) rfl rfl [] [] rfl (lenOf pd_22 rfl) rfl rfl d_code_447 rfl (by first | exact Nat.le_of_ble_eq_true rfl | (simp; done) | (simp; omega) | omega) (by first | exact Nat.le_of_ble_eq_true rfl | (simp; done) | (simp; omega) | omega) (by first | exact Nat.le_of_ble_eq_true rfl | (simp; done) | (simp; omega) | omega) (by first | exact Nat.le_of_ble_eq_true rfl | (simp; done) | (simp; omega) | omega) ?_
    rintro _ _ _ T92 ⟨rfl, rfl, rfl⟩ W93
    replace W93 : Wk l Z EL1 ({ frames := 8, cells := 32, slots := 4288, locals := 192 } : Room) "com/example/upfront_quote/upfrontquote/ProductLineServedOnPinLaw" code 15 (some .boolean) "law" X [] [(a84, c85), (a10, c12), (b11, c13), (a1, c2), (b3, c4)] T92 7 (80) := W93
    show Go Z EL1 _ _ _ X T92 450 #[.val (.int sel), .val (.int pos), .val (.int chi), .val (.int ext), .val (.int mode), .val (.int sk), .val (.int va), .val (.int vb), .val (.ref ac), .val (.int nat), .val (.int mm), .val (.int (12 : Int32)), .val (.ref a1), .val (.ref adA), .val (.ref a84)] [(.ref adA)]
    refine Go.aload (pc' := 452) W93 d_code_450 rfl rfl rfl ?_
    refine Go.acmp_ne (pc' := 455) W93 459 rfl rfl d_code_452 (by decide) rfl (fun hq => absurd rfl hq) (fun _ => ?_)
    refine Go.iconst (pc' := 456) W93 (1 : Int32) d_code_455 (by decide) rfl ?_
    refine Go.goto W93 460 d_code_456 (by decide) ?_
    refine Go.nret (z' := (1 : Int32)) W93 (by simp) (by decide) d_code_460 (by first | exact Nat.le_of_ble_eq_true rfl | (simp; done) | (simp; omega) | omega) (by first | exact Nat.le_of_ble_eq_true rfl | (simp; done) | (simp; omega) | omega) ?_
    rfl
theorem d_code_0 : decode code 0 = .ok (.iload_n 0, 1) := by decide +kernel
theorem d_code_1 : decode code 1 = .ok (.ldc 12, 2) := by decide +kernel
theorem w_0 {Z : State} {a0 : Array Value} (G : Cl Z a0) : (Jvm.Cond.constant "com/example/upfront_quote/upfrontquote/ProductLineServedOnPinLaw" 12 (2147483647)).before a0 Z = true := G.1 _ (List.mem_of_getElem? (l := tables_1) (i := 0) rfl)
theorem d_code_3 : decode code 3 = .ok (.iand, 1) := by decide +kernel
theorem d_code_4 : decode code 4 = .ok (.iconst 3, 1) := by decide +kernel
theorem d_code_5 : decode code 5 = .ok (.irem, 1) := by decide +kernel
theorem d_code_6 : decode code 6 = .ok (.istore 5, 2) := by decide +kernel
theorem d_code_8 : decode code 8 = .ok (.iload_n 3, 1) := by decide +kernel
theorem d_code_9 : decode code 9 = .ok (.sipush 255, 3) := by decide +kernel
theorem d_code_12 : decode code 12 = .ok (.iand, 1) := by decide +kernel
theorem d_code_13 : decode code 13 = .ok (.i2c, 1) := by decide +kernel
theorem d_code_14 : decode code 14 = .ok (.istore 6, 2) := by decide +kernel
theorem d_code_16 : decode code 16 = .ok (.iload_n 3, 1) := by decide +kernel
theorem d_code_17 : decode code 17 = .ok (.bipush 8, 2) := by decide +kernel
theorem d_code_19 : decode code 19 = .ok (.iushr, 1) := by decide +kernel
theorem d_code_20 : decode code 20 = .ok (.sipush 255, 3) := by decide +kernel
theorem d_code_23 : decode code 23 = .ok (.iand, 1) := by decide +kernel
theorem d_code_24 : decode code 24 = .ok (.i2c, 1) := by decide +kernel
theorem d_code_25 : decode code 25 = .ok (.istore 7, 2) := by decide +kernel
theorem d_code_27 : decode code 27 = .ok (.iload 5, 2) := by decide +kernel
theorem d_code_29 : decode code 29 = .ok (.ifCond .ne 82, 3) := by decide +kernel
theorem d_code_32 : decode code 32 = .ok (.bipush 12, 2) := by decide +kernel
theorem d_code_34 : decode code 34 = .ok (.newarray .char, 2) := by decide +kernel
theorem d_code_36 : decode code 36 = .ok (.dup, 1) := by decide +kernel
theorem d_code_37 : decode code 37 = .ok (.iconst 0, 1) := by decide +kernel
theorem d_code_38 : decode code 38 = .ok (.bipush 47, 2) := by decide +kernel
theorem d_code_40 : decode code 40 = .ok (.castore, 1) := by decide +kernel
theorem d_code_41 : decode code 41 = .ok (.dup, 1) := by decide +kernel
theorem d_code_42 : decode code 42 = .ok (.iconst 1, 1) := by decide +kernel
theorem d_code_43 : decode code 43 = .ok (.bipush 97, 2) := by decide +kernel
theorem d_code_45 : decode code 45 = .ok (.castore, 1) := by decide +kernel
theorem d_code_46 : decode code 46 = .ok (.dup, 1) := by decide +kernel
theorem d_code_47 : decode code 47 = .ok (.iconst 2, 1) := by decide +kernel
theorem d_code_48 : decode code 48 = .ok (.bipush 112, 2) := by decide +kernel
theorem d_code_50 : decode code 50 = .ok (.castore, 1) := by decide +kernel
theorem d_code_51 : decode code 51 = .ok (.dup, 1) := by decide +kernel
theorem d_code_52 : decode code 52 = .ok (.iconst 3, 1) := by decide +kernel
theorem d_code_53 : decode code 53 = .ok (.bipush 105, 2) := by decide +kernel
theorem d_code_55 : decode code 55 = .ok (.castore, 1) := by decide +kernel
theorem d_code_56 : decode code 56 = .ok (.dup, 1) := by decide +kernel
theorem d_code_57 : decode code 57 = .ok (.iconst 4, 1) := by decide +kernel
theorem d_code_58 : decode code 58 = .ok (.bipush 47, 2) := by decide +kernel
theorem d_code_60 : decode code 60 = .ok (.castore, 1) := by decide +kernel
theorem d_code_61 : decode code 61 = .ok (.dup, 1) := by decide +kernel
theorem d_code_62 : decode code 62 = .ok (.iconst 5, 1) := by decide +kernel
theorem d_code_63 : decode code 63 = .ok (.bipush 118, 2) := by decide +kernel
theorem d_code_65 : decode code 65 = .ok (.castore, 1) := by decide +kernel
theorem d_code_66 : decode code 66 = .ok (.dup, 1) := by decide +kernel
theorem d_code_67 : decode code 67 = .ok (.bipush 6, 2) := by decide +kernel
theorem d_code_69 : decode code 69 = .ok (.bipush 50, 2) := by decide +kernel
theorem d_code_71 : decode code 71 = .ok (.castore, 1) := by decide +kernel
theorem d_code_72 : decode code 72 = .ok (.dup, 1) := by decide +kernel
theorem d_code_73 : decode code 73 = .ok (.bipush 7, 2) := by decide +kernel
theorem d_code_75 : decode code 75 = .ok (.bipush 47, 2) := by decide +kernel
theorem d_code_77 : decode code 77 = .ok (.castore, 1) := by decide +kernel
theorem d_code_78 : decode code 78 = .ok (.dup, 1) := by decide +kernel
theorem d_code_79 : decode code 79 = .ok (.bipush 8, 2) := by decide +kernel
theorem d_code_81 : decode code 81 = .ok (.bipush 98, 2) := by decide +kernel
theorem d_code_83 : decode code 83 = .ok (.castore, 1) := by decide +kernel
theorem d_code_84 : decode code 84 = .ok (.dup, 1) := by decide +kernel
theorem d_code_85 : decode code 85 = .ok (.bipush 9, 2) := by decide +kernel
theorem d_code_87 : decode code 87 = .ok (.bipush 109, 2) := by decide +kernel
theorem d_code_89 : decode code 89 = .ok (.castore, 1) := by decide +kernel
theorem d_code_90 : decode code 90 = .ok (.dup, 1) := by decide +kernel
theorem d_code_91 : decode code 91 = .ok (.bipush 10, 2) := by decide +kernel
theorem d_code_93 : decode code 93 = .ok (.bipush 99, 2) := by decide +kernel
theorem d_code_95 : decode code 95 = .ok (.castore, 1) := by decide +kernel
theorem d_code_96 : decode code 96 = .ok (.dup, 1) := by decide +kernel
theorem d_code_97 : decode code 97 = .ok (.bipush 11, 2) := by decide +kernel
theorem d_code_99 : decode code 99 = .ok (.iload 6, 2) := by decide +kernel
theorem d_code_101 : decode code 101 = .ok (.castore, 1) := by decide +kernel
theorem d_code_102 : decode code 102 = .ok (.astore 8, 2) := by decide +kernel
theorem d_code_104 : decode code 104 = .ok (.bipush 11, 2) := by decide +kernel
theorem d_code_106 : decode code 106 = .ok (.istore 9, 2) := by decide +kernel
theorem d_code_108 : decode code 108 = .ok (.goto 164, 3) := by decide +kernel
theorem d_code_272 : decode code 272 = .ok (.iload 4, 2) := by decide +kernel
theorem d_code_274 : decode code 274 = .ok (.iconst 1, 1) := by decide +kernel
theorem d_code_275 : decode code 275 = .ok (.iand, 1) := by decide +kernel
theorem d_code_276 : decode code 276 = .ok (.ifCond .eq 19, 3) := by decide +kernel
theorem d_code_295 : decode code 295 = .ok (.iload 4, 2) := by decide +kernel
theorem d_code_297 : decode code 297 = .ok (.iconst 1, 1) := by decide +kernel
theorem d_code_298 : decode code 298 = .ok (.iushr, 1) := by decide +kernel
theorem d_code_299 : decode code 299 = .ok (.iconst 3, 1) := by decide +kernel
theorem d_code_300 : decode code 300 = .ok (.iand, 1) := by decide +kernel
theorem d_code_301 : decode code 301 = .ok (.istore 10, 2) := by decide +kernel
theorem d_code_303 : decode code 303 = .ok (.iload 10, 2) := by decide +kernel
theorem d_code_305 : decode code 305 = .ok (.ifCond .ne 10, 3) := by decide +kernel
theorem d_code_308 : decode code 308 = .ok (.iload 9, 2) := by decide +kernel
theorem d_code_310 : decode code 310 = .ok (.istore 11, 2) := by decide +kernel
theorem d_code_312 : decode code 312 = .ok (.goto 36, 3) := by decide +kernel
theorem d_code_315 : decode code 315 = .ok (.iload 10, 2) := by decide +kernel
theorem d_code_317 : decode code 317 = .ok (.iconst 1, 1) := by decide +kernel
theorem d_code_318 : decode code 318 = .ok (.if_icmp .ne 12, 3) := by decide +kernel
theorem d_code_321 : decode code 321 = .ok (.iload 9, 2) := by decide +kernel
theorem d_code_323 : decode code 323 = .ok (.iconst 1, 1) := by decide +kernel
theorem d_code_324 : decode code 324 = .ok (.isub, 1) := by decide +kernel
theorem d_code_325 : decode code 325 = .ok (.istore 11, 2) := by decide +kernel
theorem d_code_327 : decode code 327 = .ok (.goto 21, 3) := by decide +kernel
theorem d_code_330 : decode code 330 = .ok (.iload 10, 2) := by decide +kernel
theorem d_code_332 : decode code 332 = .ok (.iconst 2, 1) := by decide +kernel
theorem d_code_333 : decode code 333 = .ok (.if_icmp .ne 12, 3) := by decide +kernel
theorem d_code_336 : decode code 336 = .ok (.iload 9, 2) := by decide +kernel
theorem d_code_338 : decode code 338 = .ok (.iconst 1, 1) := by decide +kernel
theorem d_code_339 : decode code 339 = .ok (.iadd, 1) := by decide +kernel
theorem d_code_340 : decode code 340 = .ok (.istore 11, 2) := by decide +kernel
theorem d_code_342 : decode code 342 = .ok (.goto 6, 3) := by decide +kernel
theorem d_code_345 : decode code 345 = .ok (.iconst 0, 1) := by decide +kernel
theorem d_code_346 : decode code 346 = .ok (.istore 11, 2) := by decide +kernel
theorem d_code_279 : decode code 279 = .ok (.aload 8, 2) := by decide +kernel
theorem d_code_281 : decode code 281 = .ok (.iload_n 1, 1) := by decide +kernel
theorem d_code_282 : decode code 282 = .ok (.ldc 12, 2) := by decide +kernel
theorem d_code_284 : decode code 284 = .ok (.iand, 1) := by decide +kernel
theorem d_code_285 : decode code 285 = .ok (.bipush 12, 2) := by decide +kernel
theorem d_code_287 : decode code 287 = .ok (.irem, 1) := by decide +kernel
theorem d_code_288 : decode code 288 = .ok (.iload_n 2, 1) := by decide +kernel
theorem d_code_289 : decode code 289 = .ok (.sipush 255, 3) := by decide +kernel
theorem d_code_292 : decode code 292 = .ok (.iand, 1) := by decide +kernel
theorem d_code_293 : decode code 293 = .ok (.i2c, 1) := by decide +kernel
theorem d_code_294 : decode code 294 = .ok (.castore, 1) := by decide +kernel
theorem d_code_111 : decode code 111 = .ok (.iload 5, 2) := by decide +kernel
theorem d_code_113 : decode code 113 = .ok (.iconst 1, 1) := by decide +kernel
theorem d_code_114 : decode code 114 = .ok (.if_icmp .ne 82, 3) := by decide +kernel
theorem d_code_117 : decode code 117 = .ok (.bipush 12, 2) := by decide +kernel
theorem d_code_119 : decode code 119 = .ok (.newarray .char, 2) := by decide +kernel
theorem d_code_121 : decode code 121 = .ok (.dup, 1) := by decide +kernel
theorem d_code_122 : decode code 122 = .ok (.iconst 0, 1) := by decide +kernel
theorem d_code_123 : decode code 123 = .ok (.bipush 47, 2) := by decide +kernel
theorem d_code_125 : decode code 125 = .ok (.castore, 1) := by decide +kernel
theorem d_code_126 : decode code 126 = .ok (.dup, 1) := by decide +kernel
theorem d_code_127 : decode code 127 = .ok (.iconst 1, 1) := by decide +kernel
theorem d_code_128 : decode code 128 = .ok (.bipush 97, 2) := by decide +kernel
theorem d_code_130 : decode code 130 = .ok (.castore, 1) := by decide +kernel
theorem d_code_131 : decode code 131 = .ok (.dup, 1) := by decide +kernel
theorem d_code_132 : decode code 132 = .ok (.iconst 2, 1) := by decide +kernel
theorem d_code_133 : decode code 133 = .ok (.bipush 112, 2) := by decide +kernel
theorem d_code_135 : decode code 135 = .ok (.castore, 1) := by decide +kernel
theorem d_code_136 : decode code 136 = .ok (.dup, 1) := by decide +kernel
theorem d_code_137 : decode code 137 = .ok (.iconst 3, 1) := by decide +kernel
theorem d_code_138 : decode code 138 = .ok (.bipush 105, 2) := by decide +kernel
theorem d_code_140 : decode code 140 = .ok (.castore, 1) := by decide +kernel
theorem d_code_141 : decode code 141 = .ok (.dup, 1) := by decide +kernel
theorem d_code_142 : decode code 142 = .ok (.iconst 4, 1) := by decide +kernel
theorem d_code_143 : decode code 143 = .ok (.bipush 47, 2) := by decide +kernel
theorem d_code_145 : decode code 145 = .ok (.castore, 1) := by decide +kernel
theorem d_code_146 : decode code 146 = .ok (.dup, 1) := by decide +kernel
theorem d_code_147 : decode code 147 = .ok (.iconst 5, 1) := by decide +kernel
theorem d_code_148 : decode code 148 = .ok (.bipush 118, 2) := by decide +kernel
theorem d_code_150 : decode code 150 = .ok (.castore, 1) := by decide +kernel
theorem d_code_151 : decode code 151 = .ok (.dup, 1) := by decide +kernel
theorem d_code_152 : decode code 152 = .ok (.bipush 6, 2) := by decide +kernel
theorem d_code_154 : decode code 154 = .ok (.bipush 50, 2) := by decide +kernel
theorem d_code_156 : decode code 156 = .ok (.castore, 1) := by decide +kernel
theorem d_code_157 : decode code 157 = .ok (.dup, 1) := by decide +kernel
theorem d_code_158 : decode code 158 = .ok (.bipush 7, 2) := by decide +kernel
theorem d_code_160 : decode code 160 = .ok (.bipush 47, 2) := by decide +kernel
theorem d_code_162 : decode code 162 = .ok (.castore, 1) := by decide +kernel
theorem d_code_163 : decode code 163 = .ok (.dup, 1) := by decide +kernel
theorem d_code_164 : decode code 164 = .ok (.bipush 8, 2) := by decide +kernel
theorem d_code_166 : decode code 166 = .ok (.bipush 122, 2) := by decide +kernel
theorem d_code_168 : decode code 168 = .ok (.castore, 1) := by decide +kernel
theorem d_code_169 : decode code 169 = .ok (.dup, 1) := by decide +kernel
theorem d_code_170 : decode code 170 = .ok (.bipush 9, 2) := by decide +kernel
theorem d_code_172 : decode code 172 = .ok (.bipush 101, 2) := by decide +kernel
theorem d_code_174 : decode code 174 = .ok (.castore, 1) := by decide +kernel
theorem d_code_175 : decode code 175 = .ok (.dup, 1) := by decide +kernel
theorem d_code_176 : decode code 176 = .ok (.bipush 10, 2) := by decide +kernel
theorem d_code_178 : decode code 178 = .ok (.bipush 99, 2) := by decide +kernel
theorem d_code_180 : decode code 180 = .ok (.castore, 1) := by decide +kernel
theorem d_code_181 : decode code 181 = .ok (.dup, 1) := by decide +kernel
theorem d_code_182 : decode code 182 = .ok (.bipush 11, 2) := by decide +kernel
theorem d_code_184 : decode code 184 = .ok (.iload 6, 2) := by decide +kernel
theorem d_code_186 : decode code 186 = .ok (.castore, 1) := by decide +kernel
theorem d_code_187 : decode code 187 = .ok (.astore 8, 2) := by decide +kernel
theorem d_code_189 : decode code 189 = .ok (.bipush 11, 2) := by decide +kernel
theorem d_code_191 : decode code 191 = .ok (.istore 9, 2) := by decide +kernel
theorem d_code_193 : decode code 193 = .ok (.goto 79, 3) := by decide +kernel
theorem d_code_196 : decode code 196 = .ok (.bipush 12, 2) := by decide +kernel
theorem d_code_198 : decode code 198 = .ok (.newarray .char, 2) := by decide +kernel
theorem d_code_200 : decode code 200 = .ok (.dup, 1) := by decide +kernel
theorem d_code_201 : decode code 201 = .ok (.iconst 0, 1) := by decide +kernel
theorem d_code_202 : decode code 202 = .ok (.bipush 47, 2) := by decide +kernel
theorem d_code_204 : decode code 204 = .ok (.castore, 1) := by decide +kernel
theorem d_code_205 : decode code 205 = .ok (.dup, 1) := by decide +kernel
theorem d_code_206 : decode code 206 = .ok (.iconst 1, 1) := by decide +kernel
theorem d_code_207 : decode code 207 = .ok (.bipush 97, 2) := by decide +kernel
theorem d_code_209 : decode code 209 = .ok (.castore, 1) := by decide +kernel
theorem d_code_210 : decode code 210 = .ok (.dup, 1) := by decide +kernel
theorem d_code_211 : decode code 211 = .ok (.iconst 2, 1) := by decide +kernel
theorem d_code_212 : decode code 212 = .ok (.bipush 112, 2) := by decide +kernel
theorem d_code_214 : decode code 214 = .ok (.castore, 1) := by decide +kernel
theorem d_code_215 : decode code 215 = .ok (.dup, 1) := by decide +kernel
theorem d_code_216 : decode code 216 = .ok (.iconst 3, 1) := by decide +kernel
theorem d_code_217 : decode code 217 = .ok (.bipush 105, 2) := by decide +kernel
theorem d_code_219 : decode code 219 = .ok (.castore, 1) := by decide +kernel
theorem d_code_220 : decode code 220 = .ok (.dup, 1) := by decide +kernel
theorem d_code_221 : decode code 221 = .ok (.iconst 4, 1) := by decide +kernel
theorem d_code_222 : decode code 222 = .ok (.bipush 47, 2) := by decide +kernel
theorem d_code_224 : decode code 224 = .ok (.castore, 1) := by decide +kernel
theorem d_code_225 : decode code 225 = .ok (.dup, 1) := by decide +kernel
theorem d_code_226 : decode code 226 = .ok (.iconst 5, 1) := by decide +kernel
theorem d_code_227 : decode code 227 = .ok (.bipush 118, 2) := by decide +kernel
theorem d_code_229 : decode code 229 = .ok (.castore, 1) := by decide +kernel
theorem d_code_230 : decode code 230 = .ok (.dup, 1) := by decide +kernel
theorem d_code_231 : decode code 231 = .ok (.bipush 6, 2) := by decide +kernel
theorem d_code_233 : decode code 233 = .ok (.bipush 50, 2) := by decide +kernel
theorem d_code_235 : decode code 235 = .ok (.castore, 1) := by decide +kernel
theorem d_code_236 : decode code 236 = .ok (.dup, 1) := by decide +kernel
theorem d_code_237 : decode code 237 = .ok (.bipush 7, 2) := by decide +kernel
theorem d_code_239 : decode code 239 = .ok (.bipush 47, 2) := by decide +kernel
theorem d_code_241 : decode code 241 = .ok (.castore, 1) := by decide +kernel
theorem d_code_242 : decode code 242 = .ok (.dup, 1) := by decide +kernel
theorem d_code_243 : decode code 243 = .ok (.bipush 8, 2) := by decide +kernel
theorem d_code_245 : decode code 245 = .ok (.bipush 118, 2) := by decide +kernel
theorem d_code_247 : decode code 247 = .ok (.castore, 1) := by decide +kernel
theorem d_code_248 : decode code 248 = .ok (.dup, 1) := by decide +kernel
theorem d_code_249 : decode code 249 = .ok (.bipush 9, 2) := by decide +kernel
theorem d_code_251 : decode code 251 = .ok (.bipush 109, 2) := by decide +kernel
theorem d_code_253 : decode code 253 = .ok (.castore, 1) := by decide +kernel
theorem d_code_254 : decode code 254 = .ok (.dup, 1) := by decide +kernel
theorem d_code_255 : decode code 255 = .ok (.bipush 10, 2) := by decide +kernel
theorem d_code_257 : decode code 257 = .ok (.iload 6, 2) := by decide +kernel
theorem d_code_259 : decode code 259 = .ok (.castore, 1) := by decide +kernel
theorem d_code_260 : decode code 260 = .ok (.dup, 1) := by decide +kernel
theorem d_code_261 : decode code 261 = .ok (.bipush 11, 2) := by decide +kernel
theorem d_code_263 : decode code 263 = .ok (.iload 7, 2) := by decide +kernel
theorem d_code_265 : decode code 265 = .ok (.castore, 1) := by decide +kernel
theorem d_code_266 : decode code 266 = .ok (.astore 8, 2) := by decide +kernel
theorem d_code_268 : decode code 268 = .ok (.bipush 10, 2) := by decide +kernel
theorem d_code_270 : decode code 270 = .ok (.istore 9, 2) := by decide +kernel
set_option maxRecDepth 65536 in
set_option maxHeartbeats 40000000 in
theorem rm_law {l : Launch} {Z : State} {a0 : Array Value} (G : Cl Z a0) (sel pos chi ext mode : Int32) (adA : Addr) (adB : Addr) (adC : Addr) (adD : Addr) (adE : Addr) (adF : Addr) (adG : Addr) (adH : Addr) (adI : Addr) (adJ : Addr) (ceA : Cell) (ceB : Cell) (ceC : Cell) (ceD : Cell) (ceE : Cell) (ceF : Cell) (ceG : Cell) (ceH : Cell) (ceI : Cell) (ceJ : Cell) (hzA : Z.heap[adA]? = some ceA) (obA : ObjC Z ceA "com/example/upfront_quote/upfrontquote/ProductLine") (fdA : FldC Z ceA "com/example/upfront_quote/upfrontquote/ProductLine" "path" "Ljava/lang/String;" (.ref adE)) (hzB : Z.heap[adB]? = some ceB) (obB : ObjC Z ceB "[Lcom/example/upfront_quote/upfrontquote/ProductLine;") (arA : ArrC Z ceB (.object "com/example/upfront_quote/upfrontquote/ProductLine") [(.ref adA), (.ref adC), (.ref adD)]) (hzC : Z.heap[adC]? = some ceC) (obC : ObjC Z ceC "com/example/upfront_quote/upfrontquote/ProductLine") (fdC : FldC Z ceC "com/example/upfront_quote/upfrontquote/ProductLine" "path" "Ljava/lang/String;" (.ref adG)) (hzD : Z.heap[adD]? = some ceD) (obD : ObjC Z ceD "com/example/upfront_quote/upfrontquote/ProductLine") (fdE : FldC Z ceD "com/example/upfront_quote/upfrontquote/ProductLine" "path" "Ljava/lang/String;" (.ref adI)) (hzE : Z.heap[adE]? = some ceE) (slA : StrL Z ceE adF ceF [(47 : Int32), (97 : Int32), (112 : Int32), (105 : Int32), (47 : Int32), (118 : Int32), (50 : Int32), (47 : Int32), (98 : Int32), (109 : Int32), (99 : Int32)]) (hzF : Z.heap[adF]? = some ceF) (hzG : Z.heap[adG]? = some ceG) (slB : StrL Z ceG adH ceH [(47 : Int32), (97 : Int32), (112 : Int32), (105 : Int32), (47 : Int32), (118 : Int32), (50 : Int32), (47 : Int32), (122 : Int32), (101 : Int32), (99 : Int32)]) (hzH : Z.heap[adH]? = some ceH) (hzI : Z.heap[adI]? = some ceI) (slC : StrL Z ceI adJ ceJ [(47 : Int32), (97 : Int32), (112 : Int32), (105 : Int32), (47 : Int32), (118 : Int32), (50 : Int32), (47 : Int32), (118 : Int32), (109 : Int32)]) (hzJ : Z.heap[adJ]? = some ceJ) (stA : Sta Z Z.heap "com/example/upfront_quote/upfrontquote/ProductLine" "BMC" "Lcom/example/upfront_quote/upfrontquote/ProductLine;" (.ref adA)) (stB : Sta Z Z.heap "com/example/upfront_quote/upfrontquote/ProductLine" "$VALUES" "[Lcom/example/upfront_quote/upfrontquote/ProductLine;" (.ref adB)) (stC : Sta Z Z.heap "com/example/upfront_quote/upfrontquote/ProductLine" "ZEC" "Lcom/example/upfront_quote/upfrontquote/ProductLine;" (.ref adC)) (stD : Sta Z Z.heap "com/example/upfront_quote/upfrontquote/ProductLine" "VM" "Lcom/example/upfront_quote/upfrontquote/ProductLine;" (.ref adD)) (em : Addr) (cem : Cell) (hzem : Z.heap[em]? = some cem) (obem : ObjC Z cem "java/util/Optional") (fdem : FldC Z cem "java/util/Optional" "value" "Ljava/lang/Object;" .null) (stem : Sta Z Z.heap "java/util/Optional" "EMPTY" "Ljava/util/Optional;" (.ref em)) :
    Met l Z EL1 (⟨"com/example/upfront_quote/upfrontquote/ProductLineServedOnPinLaw", "law", "(IIIII)Z"⟩ : MethodName) code 15 (some .boolean) ({ frames := 8, cells := 32, slots := 4288, locals := 192 } : Room) #[.int sel, .int pos, .int chi, .int ext, .int mode] [] [] (fun v _ _ => v = some (.int 1)) := by
  refine Met.walk G.2.1 pn_17 #[.val (.int sel), .val (.int pos), .val (.int chi), .val (.int ext), .val (.int mode), .unset, .unset, .unset, .unset, .unset, .unset, .unset, .unset, .unset, .unset] (fun m => by first | (simp [entryFrame, mkF, argsToLocals, Value.category]; done) | rfl) ?_
  intro X T0 W0
  refine Go.iloadN (pc' := 1) W0 d_code_0 rfl rfl ?_
  refine Go.ldcInt (pc' := 3) W0 (w_0 G) d_code_1 rfl ?_
  refine Go.iand (pc' := 4) W0 d_code_3 rfl ?_
  refine Go.iconst (pc' := 5) W0 (3 : Int32) d_code_4 (by decide) rfl ?_
  refine Go.irem (pc' := 6) W0 d_code_5 (by decide) rfl ?_
  generalize e2 : (sel &&& (2147483647 : Int32)) % (3 : Int32) = n1
  have h3 : n1 = (0 : Int32) ∨ n1 = (1 : Int32) ∨ n1 = (2 : Int32) := by rw [← e2]; exact rem3 sel
  rcases h3 with rfl | rfl | rfl
  · refine Go.istore (pc' := 8) W0 #[.val (.int sel), .val (.int pos), .val (.int chi), .val (.int ext), .val (.int mode), .val (.int (0 : Int32)), .unset, .unset, .unset, .unset, .unset, .unset, .unset, .unset, .unset] d_code_6 rfl rfl ?_
    refine Go.iloadN (pc' := 9) W0 d_code_8 rfl rfl ?_
    refine Go.sipush (pc' := 12) W0 (255 : Int32) d_code_9 (by decide) rfl ?_
    refine Go.iand (pc' := 13) W0 d_code_12 rfl ?_
    refine Go.i2c (pc' := 14) W0 d_code_13 rfl ?_
    rw [i2c_id (lat_char (and255 _)).1 (lat_char (and255 _)).2]
    refine Go.istore (pc' := 16) W0 #[.val (.int sel), .val (.int pos), .val (.int chi), .val (.int ext), .val (.int mode), .val (.int (0 : Int32)), .val (.int (ext &&& (255 : Int32))), .unset, .unset, .unset, .unset, .unset, .unset, .unset, .unset] d_code_14 rfl rfl ?_
    refine Go.iloadN (pc' := 17) W0 d_code_16 rfl rfl ?_
    refine Go.bipush (pc' := 19) W0 (8 : Int32) d_code_17 (by decide) rfl ?_
    refine Go.iushr (pc' := 20) W0 d_code_19 rfl ?_
    refine Go.sipush (pc' := 23) W0 (255 : Int32) d_code_20 (by decide) rfl ?_
    refine Go.iand (pc' := 24) W0 d_code_23 rfl ?_
    refine Go.i2c (pc' := 25) W0 d_code_24 rfl ?_
    rw [i2c_id (lat_char (and255 _)).1 (lat_char (and255 _)).2]
    refine Go.istore (pc' := 27) W0 #[.val (.int sel), .val (.int pos), .val (.int chi), .val (.int ext), .val (.int mode), .val (.int (0 : Int32)), .val (.int (ext &&& (255 : Int32))), .val (.int (((ext.toUInt32 >>> ((8 : Int32) &&& 31).toUInt32).toInt32) &&& (255 : Int32))), .unset, .unset, .unset, .unset, .unset, .unset, .unset] d_code_25 rfl rfl ?_
    refine Go.iload (pc' := 29) W0 d_code_27 rfl rfl ?_
    refine Go.if_ne (pc' := 32) W0 111 d_code_29 (by decide) rfl (fun q => absurd (by decide) q) (fun _ => ?_)
    refine Go.bipush (pc' := 34) W0 (12 : Int32) d_code_32 (by decide) rfl ?_
    refine Go.newarr (pc' := 36) W0 .char rfl 12 (w_1 G) d_code_34 rfl (by decide) (by decide) (by decide) (by first | exact Nat.le_of_ble_eq_true rfl | (simp; done) | (simp; omega) | omega) (by first | exact Nat.le_of_ble_eq_true rfl | (simp; done) | (simp; omega) | omega) (fun T4 a6 c7 W5 A8 => ?_)
    replace W5 : Wk l Z EL1 ({ frames := 8, cells := 32, slots := 4288, locals := 192 } : Room) "com/example/upfront_quote/upfrontquote/ProductLineServedOnPinLaw" code 15 (some .boolean) "law" X [(a6, c7)] [] T4 1 (12) := W5
    replace A8 : ArrC Z c7 .char [(.int (0 : Int32)), (.int (0 : Int32)), (.int (0 : Int32)), (.int (0 : Int32)), (.int (0 : Int32)), (.int (0 : Int32)), (.int (0 : Int32)), (.int (0 : Int32)), (.int (0 : Int32)), (.int (0 : Int32)), (.int (0 : Int32)), (.int (0 : Int32))] := A8
    refine Go.dup (pc' := 37) W5 d_code_36 rfl rfl ?_
    refine Go.iconst (pc' := 38) W5 (0 : Int32) d_code_37 (by decide) rfl ?_
    refine Go.bipush (pc' := 40) W5 (47 : Int32) d_code_38 (by decide) rfl ?_
    refine Go.castore (pc' := 41) W5 0 rfl A8 0 (47 : Int32) (by decide) (by decide) (by decide) (by simp) d_code_40 rfl (fun T9 c11 W10 A12 => ?_)
    replace W10 : Wk l Z EL1 ({ frames := 8, cells := 32, slots := 4288, locals := 192 } : Room) "com/example/upfront_quote/upfrontquote/ProductLineServedOnPinLaw" code 15 (some .boolean) "law" X [(a6, c11)] [] T9 1 (12) := W10
    replace A12 : ArrC Z c11 .char [(.int (47 : Int32)), (.int (0 : Int32)), (.int (0 : Int32)), (.int (0 : Int32)), (.int (0 : Int32)), (.int (0 : Int32)), (.int (0 : Int32)), (.int (0 : Int32)), (.int (0 : Int32)), (.int (0 : Int32)), (.int (0 : Int32)), (.int (0 : Int32))] := A12
    refine Go.dup (pc' := 42) W10 d_code_41 rfl rfl ?_
    refine Go.iconst (pc' := 43) W10 (1 : Int32) d_code_42 (by decide) rfl ?_
    refine Go.bipush (pc' := 45) W10 (97 : Int32) d_code_43 (by decide) rfl ?_
    refine Go.castore (pc' := 46) W10 0 rfl A12 1 (97 : Int32) (by decide) (by decide) (by decide) (by simp) d_code_45 rfl (fun T13 c15 W14 A16 => ?_)
    replace W14 : Wk l Z EL1 ({ frames := 8, cells := 32, slots := 4288, locals := 192 } : Room) "com/example/upfront_quote/upfrontquote/ProductLineServedOnPinLaw" code 15 (some .boolean) "law" X [(a6, c15)] [] T13 1 (12) := W14
    replace A16 : ArrC Z c15 .char [(.int (47 : Int32)), (.int (97 : Int32)), (.int (0 : Int32)), (.int (0 : Int32)), (.int (0 : Int32)), (.int (0 : Int32)), (.int (0 : Int32)), (.int (0 : Int32)), (.int (0 : Int32)), (.int (0 : Int32)), (.int (0 : Int32)), (.int (0 : Int32))] := A16
    refine Go.dup (pc' := 47) W14 d_code_46 rfl rfl ?_
    refine Go.iconst (pc' := 48) W14 (2 : Int32) d_code_47 (by decide) rfl ?_
    refine Go.bipush (pc' := 50) W14 (112 : Int32) d_code_48 (by decide) rfl ?_
    refine Go.castore (pc' := 51) W14 0 rfl A16 2 (112 : Int32) (by decide) (by decide) (by decide) (by simp) d_code_50 rfl (fun T17 c19 W18 A20 => ?_)
    replace W18 : Wk l Z EL1 ({ frames := 8, cells := 32, slots := 4288, locals := 192 } : Room) "com/example/upfront_quote/upfrontquote/ProductLineServedOnPinLaw" code 15 (some .boolean) "law" X [(a6, c19)] [] T17 1 (12) := W18
    replace A20 : ArrC Z c19 .char [(.int (47 : Int32)), (.int (97 : Int32)), (.int (112 : Int32)), (.int (0 : Int32)), (.int (0 : Int32)), (.int (0 : Int32)), (.int (0 : Int32)), (.int (0 : Int32)), (.int (0 : Int32)), (.int (0 : Int32)), (.int (0 : Int32)), (.int (0 : Int32))] := A20
    refine Go.dup (pc' := 52) W18 d_code_51 rfl rfl ?_
    refine Go.iconst (pc' := 53) W18 (3 : Int32) d_code_52 (by decide) rfl ?_
    refine Go.bipush (pc' := 55) W18 (105 : Int32) d_code_53 (by decide) rfl ?_
    refine Go.castore (pc' := 56) W18 0 rfl A20 3 (105 : Int32) (by decide) (by decide) (by decide) (by simp) d_code_55 rfl (fun T21 c23 W22 A24 => ?_)
    replace W22 : Wk l Z EL1 ({ frames := 8, cells := 32, slots := 4288, locals := 192 } : Room) "com/example/upfront_quote/upfrontquote/ProductLineServedOnPinLaw" code 15 (some .boolean) "law" X [(a6, c23)] [] T21 1 (12) := W22
    replace A24 : ArrC Z c23 .char [(.int (47 : Int32)), (.int (97 : Int32)), (.int (112 : Int32)), (.int (105 : Int32)), (.int (0 : Int32)), (.int (0 : Int32)), (.int (0 : Int32)), (.int (0 : Int32)), (.int (0 : Int32)), (.int (0 : Int32)), (.int (0 : Int32)), (.int (0 : Int32))] := A24
    refine Go.dup (pc' := 57) W22 d_code_56 rfl rfl ?_
    refine Go.iconst (pc' := 58) W22 (4 : Int32) d_code_57 (by decide) rfl ?_
    refine Go.bipush (pc' := 60) W22 (47 : Int32) d_code_58 (by decide) rfl ?_
    refine Go.castore (pc' := 61) W22 0 rfl A24 4 (47 : Int32) (by decide) (by decide) (by decide) (by simp) d_code_60 rfl (fun T25 c27 W26 A28 => ?_)
    replace W26 : Wk l Z EL1 ({ frames := 8, cells := 32, slots := 4288, locals := 192 } : Room) "com/example/upfront_quote/upfrontquote/ProductLineServedOnPinLaw" code 15 (some .boolean) "law" X [(a6, c27)] [] T25 1 (12) := W26
    replace A28 : ArrC Z c27 .char [(.int (47 : Int32)), (.int (97 : Int32)), (.int (112 : Int32)), (.int (105 : Int32)), (.int (47 : Int32)), (.int (0 : Int32)), (.int (0 : Int32)), (.int (0 : Int32)), (.int (0 : Int32)), (.int (0 : Int32)), (.int (0 : Int32)), (.int (0 : Int32))] := A28
    refine Go.dup (pc' := 62) W26 d_code_61 rfl rfl ?_
    refine Go.iconst (pc' := 63) W26 (5 : Int32) d_code_62 (by decide) rfl ?_
    refine Go.bipush (pc' := 65) W26 (118 : Int32) d_code_63 (by decide) rfl ?_
    refine Go.castore (pc' := 66) W26 0 rfl A28 5 (118 : Int32) (by decide) (by decide) (by decide) (by simp) d_code_65 rfl (fun T29 c31 W30 A32 => ?_)
    replace W30 : Wk l Z EL1 ({ frames := 8, cells := 32, slots := 4288, locals := 192 } : Room) "com/example/upfront_quote/upfrontquote/ProductLineServedOnPinLaw" code 15 (some .boolean) "law" X [(a6, c31)] [] T29 1 (12) := W30
    replace A32 : ArrC Z c31 .char [(.int (47 : Int32)), (.int (97 : Int32)), (.int (112 : Int32)), (.int (105 : Int32)), (.int (47 : Int32)), (.int (118 : Int32)), (.int (0 : Int32)), (.int (0 : Int32)), (.int (0 : Int32)), (.int (0 : Int32)), (.int (0 : Int32)), (.int (0 : Int32))] := A32
    refine Go.dup (pc' := 67) W30 d_code_66 rfl rfl ?_
    refine Go.bipush (pc' := 69) W30 (6 : Int32) d_code_67 (by decide) rfl ?_
    refine Go.bipush (pc' := 71) W30 (50 : Int32) d_code_69 (by decide) rfl ?_
    refine Go.castore (pc' := 72) W30 0 rfl A32 6 (50 : Int32) (by decide) (by decide) (by decide) (by simp) d_code_71 rfl (fun T33 c35 W34 A36 => ?_)
    replace W34 : Wk l Z EL1 ({ frames := 8, cells := 32, slots := 4288, locals := 192 } : Room) "com/example/upfront_quote/upfrontquote/ProductLineServedOnPinLaw" code 15 (some .boolean) "law" X [(a6, c35)] [] T33 1 (12) := W34
    replace A36 : ArrC Z c35 .char [(.int (47 : Int32)), (.int (97 : Int32)), (.int (112 : Int32)), (.int (105 : Int32)), (.int (47 : Int32)), (.int (118 : Int32)), (.int (50 : Int32)), (.int (0 : Int32)), (.int (0 : Int32)), (.int (0 : Int32)), (.int (0 : Int32)), (.int (0 : Int32))] := A36
    refine Go.dup (pc' := 73) W34 d_code_72 rfl rfl ?_
    refine Go.bipush (pc' := 75) W34 (7 : Int32) d_code_73 (by decide) rfl ?_
    refine Go.bipush (pc' := 77) W34 (47 : Int32) d_code_75 (by decide) rfl ?_
    refine Go.castore (pc' := 78) W34 0 rfl A36 7 (47 : Int32) (by decide) (by decide) (by decide) (by simp) d_code_77 rfl (fun T37 c39 W38 A40 => ?_)
    replace W38 : Wk l Z EL1 ({ frames := 8, cells := 32, slots := 4288, locals := 192 } : Room) "com/example/upfront_quote/upfrontquote/ProductLineServedOnPinLaw" code 15 (some .boolean) "law" X [(a6, c39)] [] T37 1 (12) := W38
    replace A40 : ArrC Z c39 .char [(.int (47 : Int32)), (.int (97 : Int32)), (.int (112 : Int32)), (.int (105 : Int32)), (.int (47 : Int32)), (.int (118 : Int32)), (.int (50 : Int32)), (.int (47 : Int32)), (.int (0 : Int32)), (.int (0 : Int32)), (.int (0 : Int32)), (.int (0 : Int32))] := A40
    refine Go.dup (pc' := 79) W38 d_code_78 rfl rfl ?_
    refine Go.bipush (pc' := 81) W38 (8 : Int32) d_code_79 (by decide) rfl ?_
    refine Go.bipush (pc' := 83) W38 (98 : Int32) d_code_81 (by decide) rfl ?_
    refine Go.castore (pc' := 84) W38 0 rfl A40 8 (98 : Int32) (by decide) (by decide) (by decide) (by simp) d_code_83 rfl (fun T41 c43 W42 A44 => ?_)
    replace W42 : Wk l Z EL1 ({ frames := 8, cells := 32, slots := 4288, locals := 192 } : Room) "com/example/upfront_quote/upfrontquote/ProductLineServedOnPinLaw" code 15 (some .boolean) "law" X [(a6, c43)] [] T41 1 (12) := W42
    replace A44 : ArrC Z c43 .char [(.int (47 : Int32)), (.int (97 : Int32)), (.int (112 : Int32)), (.int (105 : Int32)), (.int (47 : Int32)), (.int (118 : Int32)), (.int (50 : Int32)), (.int (47 : Int32)), (.int (98 : Int32)), (.int (0 : Int32)), (.int (0 : Int32)), (.int (0 : Int32))] := A44
    refine Go.dup (pc' := 85) W42 d_code_84 rfl rfl ?_
    refine Go.bipush (pc' := 87) W42 (9 : Int32) d_code_85 (by decide) rfl ?_
    refine Go.bipush (pc' := 89) W42 (109 : Int32) d_code_87 (by decide) rfl ?_
    refine Go.castore (pc' := 90) W42 0 rfl A44 9 (109 : Int32) (by decide) (by decide) (by decide) (by simp) d_code_89 rfl (fun T45 c47 W46 A48 => ?_)
    replace W46 : Wk l Z EL1 ({ frames := 8, cells := 32, slots := 4288, locals := 192 } : Room) "com/example/upfront_quote/upfrontquote/ProductLineServedOnPinLaw" code 15 (some .boolean) "law" X [(a6, c47)] [] T45 1 (12) := W46
    replace A48 : ArrC Z c47 .char [(.int (47 : Int32)), (.int (97 : Int32)), (.int (112 : Int32)), (.int (105 : Int32)), (.int (47 : Int32)), (.int (118 : Int32)), (.int (50 : Int32)), (.int (47 : Int32)), (.int (98 : Int32)), (.int (109 : Int32)), (.int (0 : Int32)), (.int (0 : Int32))] := A48
    refine Go.dup (pc' := 91) W46 d_code_90 rfl rfl ?_
    refine Go.bipush (pc' := 93) W46 (10 : Int32) d_code_91 (by decide) rfl ?_
    refine Go.bipush (pc' := 95) W46 (99 : Int32) d_code_93 (by decide) rfl ?_
    refine Go.castore (pc' := 96) W46 0 rfl A48 10 (99 : Int32) (by decide) (by decide) (by decide) (by simp) d_code_95 rfl (fun T49 c51 W50 A52 => ?_)
    replace W50 : Wk l Z EL1 ({ frames := 8, cells := 32, slots := 4288, locals := 192 } : Room) "com/example/upfront_quote/upfrontquote/ProductLineServedOnPinLaw" code 15 (some .boolean) "law" X [(a6, c51)] [] T49 1 (12) := W50
    replace A52 : ArrC Z c51 .char [(.int (47 : Int32)), (.int (97 : Int32)), (.int (112 : Int32)), (.int (105 : Int32)), (.int (47 : Int32)), (.int (118 : Int32)), (.int (50 : Int32)), (.int (47 : Int32)), (.int (98 : Int32)), (.int (109 : Int32)), (.int (99 : Int32)), (.int (0 : Int32))] := A52
    refine Go.dup (pc' := 97) W50 d_code_96 rfl rfl ?_
    refine Go.bipush (pc' := 99) W50 (11 : Int32) d_code_97 (by decide) rfl ?_
    refine Go.iload (pc' := 101) W50 d_code_99 rfl rfl ?_
    refine Go.castore (pc' := 102) W50 0 rfl A52 11 (ext &&& (255 : Int32)) (nar_char_id (lat_char (and255 _))) (by decide) (by decide) (by simp) d_code_101 rfl (fun T53 c55 W54 A56 => ?_)
    replace W54 : Wk l Z EL1 ({ frames := 8, cells := 32, slots := 4288, locals := 192 } : Room) "com/example/upfront_quote/upfrontquote/ProductLineServedOnPinLaw" code 15 (some .boolean) "law" X [(a6, c55)] [] T53 1 (12) := W54
    replace A56 : ArrC Z c55 .char [(.int (47 : Int32)), (.int (97 : Int32)), (.int (112 : Int32)), (.int (105 : Int32)), (.int (47 : Int32)), (.int (118 : Int32)), (.int (50 : Int32)), (.int (47 : Int32)), (.int (98 : Int32)), (.int (109 : Int32)), (.int (99 : Int32)), (.int (ext &&& (255 : Int32)))] := A56
    refine Go.astore (pc' := 104) W54 #[.val (.int sel), .val (.int pos), .val (.int chi), .val (.int ext), .val (.int mode), .val (.int (0 : Int32)), .val (.int (ext &&& (255 : Int32))), .val (.int (((ext.toUInt32 >>> ((8 : Int32) &&& 31).toUInt32).toInt32) &&& (255 : Int32))), .val (.ref a6), .unset, .unset, .unset, .unset, .unset, .unset] d_code_102 rfl rfl rfl ?_
    refine Go.bipush (pc' := 106) W54 (11 : Int32) d_code_104 (by decide) rfl ?_
    refine Go.istore (pc' := 108) W54 #[.val (.int sel), .val (.int pos), .val (.int chi), .val (.int ext), .val (.int mode), .val (.int (0 : Int32)), .val (.int (ext &&& (255 : Int32))), .val (.int (((ext.toUInt32 >>> ((8 : Int32) &&& 31).toUInt32).toInt32) &&& (255 : Int32))), .val (.ref a6), .val (.int (11 : Int32)), .unset, .unset, .unset, .unset, .unset] d_code_106 rfl rfl ?_
    refine Go.goto W54 272 d_code_108 (by decide) ?_
    refine Go.iload (pc' := 274) W54 d_code_272 rfl rfl ?_
    refine Go.iconst (pc' := 275) W54 (1 : Int32) d_code_274 (by decide) rfl ?_
    refine Go.iand (pc' := 276) W54 d_code_275 rfl ?_
    refine Go.if_eq (pc' := 279) W54 295 d_code_276 (by decide) rfl (fun (c57 : (mode &&& (1 : Int32)) = 0) => ?_) (fun (c57 : ¬ ((mode &&& (1 : Int32)) = 0)) => ?_)
    · refine Go.iload (pc' := 297) W54 d_code_295 rfl rfl ?_
      refine Go.iconst (pc' := 298) W54 (1 : Int32) d_code_297 (by decide) rfl ?_
      refine Go.iushr (pc' := 299) W54 d_code_298 rfl ?_
      refine Go.iconst (pc' := 300) W54 (3 : Int32) d_code_299 (by decide) rfl ?_
      refine Go.iand (pc' := 301) W54 d_code_300 rfl ?_
      generalize e59 : ((mode.toUInt32 >>> ((1 : Int32) &&& 31).toUInt32).toInt32) &&& (3 : Int32) = n58
      have h60 : n58 = (0 : Int32) ∨ n58 = (1 : Int32) ∨ n58 = (2 : Int32) ∨ n58 = (3 : Int32) := by rw [← e59]; exact and3 _
      rcases h60 with rfl | rfl | rfl | rfl
      · refine Go.istore (pc' := 303) W54 #[.val (.int sel), .val (.int pos), .val (.int chi), .val (.int ext), .val (.int mode), .val (.int (0 : Int32)), .val (.int (ext &&& (255 : Int32))), .val (.int (((ext.toUInt32 >>> ((8 : Int32) &&& 31).toUInt32).toInt32) &&& (255 : Int32))), .val (.ref a6), .val (.int (11 : Int32)), .val (.int (0 : Int32)), .unset, .unset, .unset, .unset] d_code_301 rfl rfl ?_
        refine Go.iload (pc' := 305) W54 d_code_303 rfl rfl ?_
        refine Go.if_ne (pc' := 308) W54 315 d_code_305 (by decide) rfl (fun q => absurd (by decide) q) (fun _ => ?_)
        refine Go.iload (pc' := 310) W54 d_code_308 rfl rfl ?_
        refine Go.istore (pc' := 312) W54 #[.val (.int sel), .val (.int pos), .val (.int chi), .val (.int ext), .val (.int mode), .val (.int (0 : Int32)), .val (.int (ext &&& (255 : Int32))), .val (.int (((ext.toUInt32 >>> ((8 : Int32) &&& 31).toUInt32).toInt32) &&& (255 : Int32))), .val (.ref a6), .val (.int (11 : Int32)), .val (.int (0 : Int32)), .val (.int (11 : Int32)), .unset, .unset, .unset] d_code_310 rfl rfl ?_
        refine Go.goto W54 348 d_code_312 (by decide) ?_
        exact rm_tail_L G sel pos chi ext mode (0 : Int32) (ext &&& (255 : Int32)) (((ext.toUInt32 >>> ((8 : Int32) &&& 31).toUInt32).toInt32) &&& (255 : Int32)) (11 : Int32) (0 : Int32) adA adB adC adD adE adF adG adH adI adJ ceA ceB ceC ceD ceE ceF ceG ceH ceI ceJ hzA obA fdA hzB obB arA hzC obC fdC hzD obD fdE hzE slA hzF hzG slB hzH hzI slC hzJ stA stB stC stD em cem hzem obem fdem stem a6 c55 (47 : Int32) (97 : Int32) (112 : Int32) (105 : Int32) (47 : Int32) (118 : Int32) (50 : Int32) (47 : Int32) (98 : Int32) (109 : Int32) (99 : Int32) (ext &&& (255 : Int32)) (Lat.cons (by decide) (Lat.cons (by decide) (Lat.cons (by decide) (Lat.cons (by decide) (Lat.cons (by decide) (Lat.cons (by decide) (Lat.cons (by decide) (Lat.cons (by decide) (Lat.cons (by decide) (Lat.cons (by decide) (Lat.cons (by decide) (Lat.cons (and255 _) Lat.nil)))))))))))) A56 W54
      · refine Go.istore (pc' := 303) W54 #[.val (.int sel), .val (.int pos), .val (.int chi), .val (.int ext), .val (.int mode), .val (.int (0 : Int32)), .val (.int (ext &&& (255 : Int32))), .val (.int (((ext.toUInt32 >>> ((8 : Int32) &&& 31).toUInt32).toInt32) &&& (255 : Int32))), .val (.ref a6), .val (.int (11 : Int32)), .val (.int (1 : Int32)), .unset, .unset, .unset, .unset] d_code_301 rfl rfl ?_
        refine Go.iload (pc' := 305) W54 d_code_303 rfl rfl ?_
        refine Go.if_ne (pc' := 308) W54 315 d_code_305 (by decide) rfl (fun _ => ?_) (fun q => absurd q (by decide))
        refine Go.iload (pc' := 317) W54 d_code_315 rfl rfl ?_
        refine Go.iconst (pc' := 318) W54 (1 : Int32) d_code_317 (by decide) rfl ?_
        refine Go.icmp_ne (pc' := 321) W54 330 d_code_318 (by decide) rfl (fun q => absurd (by decide) q) (fun _ => ?_)
        refine Go.iload (pc' := 323) W54 d_code_321 rfl rfl ?_
        refine Go.iconst (pc' := 324) W54 (1 : Int32) d_code_323 (by decide) rfl ?_
        refine Go.isub (pc' := 325) W54 d_code_324 rfl ?_
        rw [show ((11 : Int32) - (1 : Int32) : Int32) = (10 : Int32) from by decide]
        refine Go.istore (pc' := 327) W54 #[.val (.int sel), .val (.int pos), .val (.int chi), .val (.int ext), .val (.int mode), .val (.int (0 : Int32)), .val (.int (ext &&& (255 : Int32))), .val (.int (((ext.toUInt32 >>> ((8 : Int32) &&& 31).toUInt32).toInt32) &&& (255 : Int32))), .val (.ref a6), .val (.int (11 : Int32)), .val (.int (1 : Int32)), .val (.int (10 : Int32)), .unset, .unset, .unset] d_code_325 rfl rfl ?_
        refine Go.goto W54 348 d_code_327 (by decide) ?_
        exact rm_tail_K G sel pos chi ext mode (0 : Int32) (ext &&& (255 : Int32)) (((ext.toUInt32 >>> ((8 : Int32) &&& 31).toUInt32).toInt32) &&& (255 : Int32)) (11 : Int32) (1 : Int32) adA adB adC adD adE adF adG adH adI adJ ceA ceB ceC ceD ceE ceF ceG ceH ceI ceJ hzA obA fdA hzB obB arA hzC obC fdC hzD obD fdE hzE slA hzF hzG slB hzH hzI slC hzJ stA stB stC stD em cem hzem obem fdem stem a6 c55 (47 : Int32) (97 : Int32) (112 : Int32) (105 : Int32) (47 : Int32) (118 : Int32) (50 : Int32) (47 : Int32) (98 : Int32) (109 : Int32) (99 : Int32) (ext &&& (255 : Int32)) (Lat.cons (by decide) (Lat.cons (by decide) (Lat.cons (by decide) (Lat.cons (by decide) (Lat.cons (by decide) (Lat.cons (by decide) (Lat.cons (by decide) (Lat.cons (by decide) (Lat.cons (by decide) (Lat.cons (by decide) (Lat.cons (by decide) (Lat.cons (and255 _) Lat.nil)))))))))))) A56 W54
      · refine Go.istore (pc' := 303) W54 #[.val (.int sel), .val (.int pos), .val (.int chi), .val (.int ext), .val (.int mode), .val (.int (0 : Int32)), .val (.int (ext &&& (255 : Int32))), .val (.int (((ext.toUInt32 >>> ((8 : Int32) &&& 31).toUInt32).toInt32) &&& (255 : Int32))), .val (.ref a6), .val (.int (11 : Int32)), .val (.int (2 : Int32)), .unset, .unset, .unset, .unset] d_code_301 rfl rfl ?_
        refine Go.iload (pc' := 305) W54 d_code_303 rfl rfl ?_
        refine Go.if_ne (pc' := 308) W54 315 d_code_305 (by decide) rfl (fun _ => ?_) (fun q => absurd q (by decide))
        refine Go.iload (pc' := 317) W54 d_code_315 rfl rfl ?_
        refine Go.iconst (pc' := 318) W54 (1 : Int32) d_code_317 (by decide) rfl ?_
        refine Go.icmp_ne (pc' := 321) W54 330 d_code_318 (by decide) rfl (fun _ => ?_) (fun q => absurd q (by decide))
        refine Go.iload (pc' := 332) W54 d_code_330 rfl rfl ?_
        refine Go.iconst (pc' := 333) W54 (2 : Int32) d_code_332 (by decide) rfl ?_
        refine Go.icmp_ne (pc' := 336) W54 345 d_code_333 (by decide) rfl (fun q => absurd (by decide) q) (fun _ => ?_)
        refine Go.iload (pc' := 338) W54 d_code_336 rfl rfl ?_
        refine Go.iconst (pc' := 339) W54 (1 : Int32) d_code_338 (by decide) rfl ?_
        refine Go.iadd (pc' := 340) W54 d_code_339 rfl ?_
        rw [show ((11 : Int32) + (1 : Int32) : Int32) = (12 : Int32) from by decide]
        refine Go.istore (pc' := 342) W54 #[.val (.int sel), .val (.int pos), .val (.int chi), .val (.int ext), .val (.int mode), .val (.int (0 : Int32)), .val (.int (ext &&& (255 : Int32))), .val (.int (((ext.toUInt32 >>> ((8 : Int32) &&& 31).toUInt32).toInt32) &&& (255 : Int32))), .val (.ref a6), .val (.int (11 : Int32)), .val (.int (2 : Int32)), .val (.int (12 : Int32)), .unset, .unset, .unset] d_code_340 rfl rfl ?_
        refine Go.goto W54 348 d_code_342 (by decide) ?_
        exact rm_tail_M G sel pos chi ext mode (0 : Int32) (ext &&& (255 : Int32)) (((ext.toUInt32 >>> ((8 : Int32) &&& 31).toUInt32).toInt32) &&& (255 : Int32)) (11 : Int32) (2 : Int32) adA adB adC adD adE adF adG adH adI adJ ceA ceB ceC ceD ceE ceF ceG ceH ceI ceJ hzA obA fdA hzB obB arA hzC obC fdC hzD obD fdE hzE slA hzF hzG slB hzH hzI slC hzJ stA stB stC stD em cem hzem obem fdem stem a6 c55 (47 : Int32) (97 : Int32) (112 : Int32) (105 : Int32) (47 : Int32) (118 : Int32) (50 : Int32) (47 : Int32) (98 : Int32) (109 : Int32) (99 : Int32) (ext &&& (255 : Int32)) (Lat.cons (by decide) (Lat.cons (by decide) (Lat.cons (by decide) (Lat.cons (by decide) (Lat.cons (by decide) (Lat.cons (by decide) (Lat.cons (by decide) (Lat.cons (by decide) (Lat.cons (by decide) (Lat.cons (by decide) (Lat.cons (by decide) (Lat.cons (and255 _) Lat.nil)))))))))))) A56 W54
      · refine Go.istore (pc' := 303) W54 #[.val (.int sel), .val (.int pos), .val (.int chi), .val (.int ext), .val (.int mode), .val (.int (0 : Int32)), .val (.int (ext &&& (255 : Int32))), .val (.int (((ext.toUInt32 >>> ((8 : Int32) &&& 31).toUInt32).toInt32) &&& (255 : Int32))), .val (.ref a6), .val (.int (11 : Int32)), .val (.int (3 : Int32)), .unset, .unset, .unset, .unset] d_code_301 rfl rfl ?_
        refine Go.iload (pc' := 305) W54 d_code_303 rfl rfl ?_
        refine Go.if_ne (pc' := 308) W54 315 d_code_305 (by decide) rfl (fun _ => ?_) (fun q => absurd q (by decide))
        refine Go.iload (pc' := 317) W54 d_code_315 rfl rfl ?_
        refine Go.iconst (pc' := 318) W54 (1 : Int32) d_code_317 (by decide) rfl ?_
        refine Go.icmp_ne (pc' := 321) W54 330 d_code_318 (by decide) rfl (fun _ => ?_) (fun q => absurd q (by decide))
        refine Go.iload (pc' := 332) W54 d_code_330 rfl rfl ?_
        refine Go.iconst (pc' := 333) W54 (2 : Int32) d_code_332 (by decide) rfl ?_
        refine Go.icmp_ne (pc' := 336) W54 345 d_code_333 (by decide) rfl (fun _ => ?_) (fun q => absurd q (by decide))
        refine Go.iconst (pc' := 346) W54 (0 : Int32) d_code_345 (by decide) rfl ?_
        refine Go.istore (pc' := 348) W54 #[.val (.int sel), .val (.int pos), .val (.int chi), .val (.int ext), .val (.int mode), .val (.int (0 : Int32)), .val (.int (ext &&& (255 : Int32))), .val (.int (((ext.toUInt32 >>> ((8 : Int32) &&& 31).toUInt32).toInt32) &&& (255 : Int32))), .val (.ref a6), .val (.int (11 : Int32)), .val (.int (3 : Int32)), .val (.int (0 : Int32)), .unset, .unset, .unset] d_code_346 rfl rfl ?_
        exact rm_tail_A G sel pos chi ext mode (0 : Int32) (ext &&& (255 : Int32)) (((ext.toUInt32 >>> ((8 : Int32) &&& 31).toUInt32).toInt32) &&& (255 : Int32)) (11 : Int32) (3 : Int32) adA adB adC adD adE adF adG adH adI adJ ceA ceB ceC ceD ceE ceF ceG ceH ceI ceJ hzA obA fdA hzB obB arA hzC obC fdC hzD obD fdE hzE slA hzF hzG slB hzH hzI slC hzJ stA stB stC stD em cem hzem obem fdem stem a6 c55 (47 : Int32) (97 : Int32) (112 : Int32) (105 : Int32) (47 : Int32) (118 : Int32) (50 : Int32) (47 : Int32) (98 : Int32) (109 : Int32) (99 : Int32) (ext &&& (255 : Int32)) (Lat.cons (by decide) (Lat.cons (by decide) (Lat.cons (by decide) (Lat.cons (by decide) (Lat.cons (by decide) (Lat.cons (by decide) (Lat.cons (by decide) (Lat.cons (by decide) (Lat.cons (by decide) (Lat.cons (by decide) (Lat.cons (by decide) (Lat.cons (and255 _) Lat.nil)))))))))))) A56 W54
    · refine Go.aload (pc' := 281) W54 d_code_279 rfl rfl rfl ?_
      refine Go.iloadN (pc' := 282) W54 d_code_281 rfl rfl ?_
      refine Go.ldcInt (pc' := 284) W54 (w_0 G) d_code_282 rfl ?_
      refine Go.iand (pc' := 285) W54 d_code_284 rfl ?_
      refine Go.bipush (pc' := 287) W54 (12 : Int32) d_code_285 (by decide) rfl ?_
      refine Go.irem (pc' := 288) W54 d_code_287 (by decide) rfl ?_
      obtain ⟨jj, hjj, ejj⟩ := pj pos
      rw [ejj]
      refine Go.iloadN (pc' := 289) W54 d_code_288 rfl rfl ?_
      refine Go.sipush (pc' := 292) W54 (255 : Int32) d_code_289 (by decide) rfl ?_
      refine Go.iand (pc' := 293) W54 d_code_292 rfl ?_
      refine Go.i2c (pc' := 294) W54 d_code_293 rfl ?_
      rw [i2c_id (lat_char (and255 _)).1 (lat_char (and255 _)).2]
      refine Go.castore (pc' := 295) W54 0 rfl A56 jj (chi &&& (255 : Int32)) (nar_char_id (lat_char (and255 _))) (i32_nn (by omega)) (i32_clamp (by omega)) (by simpa using hjj) d_code_294 rfl (fun T61 c63 W62 A64 => ?_)
      replace W62 : Wk l Z EL1 ({ frames := 8, cells := 32, slots := 4288, locals := 192 } : Room) "com/example/upfront_quote/upfrontquote/ProductLineServedOnPinLaw" code 15 (some .boolean) "law" X [(a6, c63)] [] T61 1 (12) := W62
      replace A64 : ArrC Z c63 .char ((chV [(47 : Int32), (97 : Int32), (112 : Int32), (105 : Int32), (47 : Int32), (118 : Int32), (50 : Int32), (47 : Int32), (98 : Int32), (109 : Int32), (99 : Int32), ext &&& (255 : Int32)]).set jj (.int (chi &&& (255 : Int32)))) := A64
      rw [chV_set] at A64
      have h65 := lat_set (j := jj) (y := (chi &&& (255 : Int32))) (show Lat [(47 : Int32), (97 : Int32), (112 : Int32), (105 : Int32), (47 : Int32), (118 : Int32), (50 : Int32), (47 : Int32), (98 : Int32), (109 : Int32), (99 : Int32), ext &&& (255 : Int32)] from (Lat.cons (by decide) (Lat.cons (by decide) (Lat.cons (by decide) (Lat.cons (by decide) (Lat.cons (by decide) (Lat.cons (by decide) (Lat.cons (by decide) (Lat.cons (by decide) (Lat.cons (by decide) (Lat.cons (by decide) (Lat.cons (by decide) (Lat.cons (and255 _) Lat.nil))))))))))))) (and255 _)
      obtain ⟨xa, xb, xc, xd, xe, xf, xg, xh, xi, xj, xk, xl, e66⟩ := dest (l := ([(47 : Int32), (97 : Int32), (112 : Int32), (105 : Int32), (47 : Int32), (118 : Int32), (50 : Int32), (47 : Int32), (98 : Int32), (109 : Int32), (99 : Int32), ext &&& (255 : Int32)] : List Int32).set jj (chi &&& (255 : Int32))) (by simp)
      rw [e66] at A64 h65
      refine Go.iload (pc' := 297) W62 d_code_295 rfl rfl ?_
      refine Go.iconst (pc' := 298) W62 (1 : Int32) d_code_297 (by decide) rfl ?_
      refine Go.iushr (pc' := 299) W62 d_code_298 rfl ?_
      refine Go.iconst (pc' := 300) W62 (3 : Int32) d_code_299 (by decide) rfl ?_
      refine Go.iand (pc' := 301) W62 d_code_300 rfl ?_
      generalize e68 : ((mode.toUInt32 >>> ((1 : Int32) &&& 31).toUInt32).toInt32) &&& (3 : Int32) = n67
      have h69 : n67 = (0 : Int32) ∨ n67 = (1 : Int32) ∨ n67 = (2 : Int32) ∨ n67 = (3 : Int32) := by rw [← e68]; exact and3 _
      rcases h69 with rfl | rfl | rfl | rfl
      · refine Go.istore (pc' := 303) W62 #[.val (.int sel), .val (.int pos), .val (.int chi), .val (.int ext), .val (.int mode), .val (.int (0 : Int32)), .val (.int (ext &&& (255 : Int32))), .val (.int (((ext.toUInt32 >>> ((8 : Int32) &&& 31).toUInt32).toInt32) &&& (255 : Int32))), .val (.ref a6), .val (.int (11 : Int32)), .val (.int (0 : Int32)), .unset, .unset, .unset, .unset] d_code_301 rfl rfl ?_
        refine Go.iload (pc' := 305) W62 d_code_303 rfl rfl ?_
        refine Go.if_ne (pc' := 308) W62 315 d_code_305 (by decide) rfl (fun q => absurd (by decide) q) (fun _ => ?_)
        refine Go.iload (pc' := 310) W62 d_code_308 rfl rfl ?_
        refine Go.istore (pc' := 312) W62 #[.val (.int sel), .val (.int pos), .val (.int chi), .val (.int ext), .val (.int mode), .val (.int (0 : Int32)), .val (.int (ext &&& (255 : Int32))), .val (.int (((ext.toUInt32 >>> ((8 : Int32) &&& 31).toUInt32).toInt32) &&& (255 : Int32))), .val (.ref a6), .val (.int (11 : Int32)), .val (.int (0 : Int32)), .val (.int (11 : Int32)), .unset, .unset, .unset] d_code_310 rfl rfl ?_
        refine Go.goto W62 348 d_code_312 (by decide) ?_
        exact rm_tail_L G sel pos chi ext mode (0 : Int32) (ext &&& (255 : Int32)) (((ext.toUInt32 >>> ((8 : Int32) &&& 31).toUInt32).toInt32) &&& (255 : Int32)) (11 : Int32) (0 : Int32) adA adB adC adD adE adF adG adH adI adJ ceA ceB ceC ceD ceE ceF ceG ceH ceI ceJ hzA obA fdA hzB obB arA hzC obC fdC hzD obD fdE hzE slA hzF hzG slB hzH hzI slC hzJ stA stB stC stD em cem hzem obem fdem stem a6 c63 xa xb xc xd xe xf xg xh xi xj xk xl h65 A64 W62
      · refine Go.istore (pc' := 303) W62 #[.val (.int sel), .val (.int pos), .val (.int chi), .val (.int ext), .val (.int mode), .val (.int (0 : Int32)), .val (.int (ext &&& (255 : Int32))), .val (.int (((ext.toUInt32 >>> ((8 : Int32) &&& 31).toUInt32).toInt32) &&& (255 : Int32))), .val (.ref a6), .val (.int (11 : Int32)), .val (.int (1 : Int32)), .unset, .unset, .unset, .unset] d_code_301 rfl rfl ?_
        refine Go.iload (pc' := 305) W62 d_code_303 rfl rfl ?_
        refine Go.if_ne (pc' := 308) W62 315 d_code_305 (by decide) rfl (fun _ => ?_) (fun q => absurd q (by decide))
        refine Go.iload (pc' := 317) W62 d_code_315 rfl rfl ?_
        refine Go.iconst (pc' := 318) W62 (1 : Int32) d_code_317 (by decide) rfl ?_
        refine Go.icmp_ne (pc' := 321) W62 330 d_code_318 (by decide) rfl (fun q => absurd (by decide) q) (fun _ => ?_)
        refine Go.iload (pc' := 323) W62 d_code_321 rfl rfl ?_
        refine Go.iconst (pc' := 324) W62 (1 : Int32) d_code_323 (by decide) rfl ?_
        refine Go.isub (pc' := 325) W62 d_code_324 rfl ?_
        rw [show ((11 : Int32) - (1 : Int32) : Int32) = (10 : Int32) from by decide]
        refine Go.istore (pc' := 327) W62 #[.val (.int sel), .val (.int pos), .val (.int chi), .val (.int ext), .val (.int mode), .val (.int (0 : Int32)), .val (.int (ext &&& (255 : Int32))), .val (.int (((ext.toUInt32 >>> ((8 : Int32) &&& 31).toUInt32).toInt32) &&& (255 : Int32))), .val (.ref a6), .val (.int (11 : Int32)), .val (.int (1 : Int32)), .val (.int (10 : Int32)), .unset, .unset, .unset] d_code_325 rfl rfl ?_
        refine Go.goto W62 348 d_code_327 (by decide) ?_
        exact rm_tail_K G sel pos chi ext mode (0 : Int32) (ext &&& (255 : Int32)) (((ext.toUInt32 >>> ((8 : Int32) &&& 31).toUInt32).toInt32) &&& (255 : Int32)) (11 : Int32) (1 : Int32) adA adB adC adD adE adF adG adH adI adJ ceA ceB ceC ceD ceE ceF ceG ceH ceI ceJ hzA obA fdA hzB obB arA hzC obC fdC hzD obD fdE hzE slA hzF hzG slB hzH hzI slC hzJ stA stB stC stD em cem hzem obem fdem stem a6 c63 xa xb xc xd xe xf xg xh xi xj xk xl h65 A64 W62
      · refine Go.istore (pc' := 303) W62 #[.val (.int sel), .val (.int pos), .val (.int chi), .val (.int ext), .val (.int mode), .val (.int (0 : Int32)), .val (.int (ext &&& (255 : Int32))), .val (.int (((ext.toUInt32 >>> ((8 : Int32) &&& 31).toUInt32).toInt32) &&& (255 : Int32))), .val (.ref a6), .val (.int (11 : Int32)), .val (.int (2 : Int32)), .unset, .unset, .unset, .unset] d_code_301 rfl rfl ?_
        refine Go.iload (pc' := 305) W62 d_code_303 rfl rfl ?_
        refine Go.if_ne (pc' := 308) W62 315 d_code_305 (by decide) rfl (fun _ => ?_) (fun q => absurd q (by decide))
        refine Go.iload (pc' := 317) W62 d_code_315 rfl rfl ?_
        refine Go.iconst (pc' := 318) W62 (1 : Int32) d_code_317 (by decide) rfl ?_
        refine Go.icmp_ne (pc' := 321) W62 330 d_code_318 (by decide) rfl (fun _ => ?_) (fun q => absurd q (by decide))
        refine Go.iload (pc' := 332) W62 d_code_330 rfl rfl ?_
        refine Go.iconst (pc' := 333) W62 (2 : Int32) d_code_332 (by decide) rfl ?_
        refine Go.icmp_ne (pc' := 336) W62 345 d_code_333 (by decide) rfl (fun q => absurd (by decide) q) (fun _ => ?_)
        refine Go.iload (pc' := 338) W62 d_code_336 rfl rfl ?_
        refine Go.iconst (pc' := 339) W62 (1 : Int32) d_code_338 (by decide) rfl ?_
        refine Go.iadd (pc' := 340) W62 d_code_339 rfl ?_
        rw [show ((11 : Int32) + (1 : Int32) : Int32) = (12 : Int32) from by decide]
        refine Go.istore (pc' := 342) W62 #[.val (.int sel), .val (.int pos), .val (.int chi), .val (.int ext), .val (.int mode), .val (.int (0 : Int32)), .val (.int (ext &&& (255 : Int32))), .val (.int (((ext.toUInt32 >>> ((8 : Int32) &&& 31).toUInt32).toInt32) &&& (255 : Int32))), .val (.ref a6), .val (.int (11 : Int32)), .val (.int (2 : Int32)), .val (.int (12 : Int32)), .unset, .unset, .unset] d_code_340 rfl rfl ?_
        refine Go.goto W62 348 d_code_342 (by decide) ?_
        exact rm_tail_M G sel pos chi ext mode (0 : Int32) (ext &&& (255 : Int32)) (((ext.toUInt32 >>> ((8 : Int32) &&& 31).toUInt32).toInt32) &&& (255 : Int32)) (11 : Int32) (2 : Int32) adA adB adC adD adE adF adG adH adI adJ ceA ceB ceC ceD ceE ceF ceG ceH ceI ceJ hzA obA fdA hzB obB arA hzC obC fdC hzD obD fdE hzE slA hzF hzG slB hzH hzI slC hzJ stA stB stC stD em cem hzem obem fdem stem a6 c63 xa xb xc xd xe xf xg xh xi xj xk xl h65 A64 W62
      · refine Go.istore (pc' := 303) W62 #[.val (.int sel), .val (.int pos), .val (.int chi), .val (.int ext), .val (.int mode), .val (.int (0 : Int32)), .val (.int (ext &&& (255 : Int32))), .val (.int (((ext.toUInt32 >>> ((8 : Int32) &&& 31).toUInt32).toInt32) &&& (255 : Int32))), .val (.ref a6), .val (.int (11 : Int32)), .val (.int (3 : Int32)), .unset, .unset, .unset, .unset] d_code_301 rfl rfl ?_
        refine Go.iload (pc' := 305) W62 d_code_303 rfl rfl ?_
        refine Go.if_ne (pc' := 308) W62 315 d_code_305 (by decide) rfl (fun _ => ?_) (fun q => absurd q (by decide))
        refine Go.iload (pc' := 317) W62 d_code_315 rfl rfl ?_
        refine Go.iconst (pc' := 318) W62 (1 : Int32) d_code_317 (by decide) rfl ?_
        refine Go.icmp_ne (pc' := 321) W62 330 d_code_318 (by decide) rfl (fun _ => ?_) (fun q => absurd q (by decide))
        refine Go.iload (pc' := 332) W62 d_code_330 rfl rfl ?_
        refine Go.iconst (pc' := 333) W62 (2 : Int32) d_code_332 (by decide) rfl ?_
        refine Go.icmp_ne (pc' := 336) W62 345 d_code_333 (by decide) rfl (fun _ => ?_) (fun q => absurd q (by decide))
        refine Go.iconst (pc' := 346) W62 (0 : Int32) d_code_345 (by decide) rfl ?_
        refine Go.istore (pc' := 348) W62 #[.val (.int sel), .val (.int pos), .val (.int chi), .val (.int ext), .val (.int mode), .val (.int (0 : Int32)), .val (.int (ext &&& (255 : Int32))), .val (.int (((ext.toUInt32 >>> ((8 : Int32) &&& 31).toUInt32).toInt32) &&& (255 : Int32))), .val (.ref a6), .val (.int (11 : Int32)), .val (.int (3 : Int32)), .val (.int (0 : Int32)), .unset, .unset, .unset] d_code_346 rfl rfl ?_
        exact rm_tail_A G sel pos chi ext mode (0 : Int32) (ext &&& (255 : Int32)) (((ext.toUInt32 >>> ((8 : Int32) &&& 31).toUInt32).toInt32) &&& (255 : Int32)) (11 : Int32) (3 : Int32) adA adB adC adD adE adF adG adH adI adJ ceA ceB ceC ceD ceE ceF ceG ceH ceI ceJ hzA obA fdA hzB obB arA hzC obC fdC hzD obD fdE hzE slA hzF hzG slB hzH hzI slC hzJ stA stB stC stD em cem hzem obem fdem stem a6 c63 xa xb xc xd xe xf xg xh xi xj xk xl h65 A64 W62
  · refine Go.istore (pc' := 8) W0 #[.val (.int sel), .val (.int pos), .val (.int chi), .val (.int ext), .val (.int mode), .val (.int (1 : Int32)), .unset, .unset, .unset, .unset, .unset, .unset, .unset, .unset, .unset] d_code_6 rfl rfl ?_
    refine Go.iloadN (pc' := 9) W0 d_code_8 rfl rfl ?_
    refine Go.sipush (pc' := 12) W0 (255 : Int32) d_code_9 (by decide) rfl ?_
    refine Go.iand (pc' := 13) W0 d_code_12 rfl ?_
    refine Go.i2c (pc' := 14) W0 d_code_13 rfl ?_
    rw [i2c_id (lat_char (and255 _)).1 (lat_char (and255 _)).2]
    refine Go.istore (pc' := 16) W0 #[.val (.int sel), .val (.int pos), .val (.int chi), .val (.int ext), .val (.int mode), .val (.int (1 : Int32)), .val (.int (ext &&& (255 : Int32))), .unset, .unset, .unset, .unset, .unset, .unset, .unset, .unset] d_code_14 rfl rfl ?_
    refine Go.iloadN (pc' := 17) W0 d_code_16 rfl rfl ?_
    refine Go.bipush (pc' := 19) W0 (8 : Int32) d_code_17 (by decide) rfl ?_
    refine Go.iushr (pc' := 20) W0 d_code_19 rfl ?_
    refine Go.sipush (pc' := 23) W0 (255 : Int32) d_code_20 (by decide) rfl ?_
    refine Go.iand (pc' := 24) W0 d_code_23 rfl ?_
    refine Go.i2c (pc' := 25) W0 d_code_24 rfl ?_
    rw [i2c_id (lat_char (and255 _)).1 (lat_char (and255 _)).2]
    refine Go.istore (pc' := 27) W0 #[.val (.int sel), .val (.int pos), .val (.int chi), .val (.int ext), .val (.int mode), .val (.int (1 : Int32)), .val (.int (ext &&& (255 : Int32))), .val (.int (((ext.toUInt32 >>> ((8 : Int32) &&& 31).toUInt32).toInt32) &&& (255 : Int32))), .unset, .unset, .unset, .unset, .unset, .unset, .unset] d_code_25 rfl rfl ?_
    refine Go.iload (pc' := 29) W0 d_code_27 rfl rfl ?_
    refine Go.if_ne (pc' := 32) W0 111 d_code_29 (by decide) rfl (fun _ => ?_) (fun q => absurd q (by decide))
    refine Go.iload (pc' := 113) W0 d_code_111 rfl rfl ?_
    refine Go.iconst (pc' := 114) W0 (1 : Int32) d_code_113 (by decide) rfl ?_
    refine Go.icmp_ne (pc' := 117) W0 196 d_code_114 (by decide) rfl (fun q => absurd (by decide) q) (fun _ => ?_)
    refine Go.bipush (pc' := 119) W0 (12 : Int32) d_code_117 (by decide) rfl ?_
    refine Go.newarr (pc' := 121) W0 .char rfl 12 (w_1 G) d_code_119 rfl (by decide) (by decide) (by decide) (by first | exact Nat.le_of_ble_eq_true rfl | (simp; done) | (simp; omega) | omega) (by first | exact Nat.le_of_ble_eq_true rfl | (simp; done) | (simp; omega) | omega) (fun T70 a72 c73 W71 A74 => ?_)
    replace W71 : Wk l Z EL1 ({ frames := 8, cells := 32, slots := 4288, locals := 192 } : Room) "com/example/upfront_quote/upfrontquote/ProductLineServedOnPinLaw" code 15 (some .boolean) "law" X [(a72, c73)] [] T70 1 (12) := W71
    replace A74 : ArrC Z c73 .char [(.int (0 : Int32)), (.int (0 : Int32)), (.int (0 : Int32)), (.int (0 : Int32)), (.int (0 : Int32)), (.int (0 : Int32)), (.int (0 : Int32)), (.int (0 : Int32)), (.int (0 : Int32)), (.int (0 : Int32)), (.int (0 : Int32)), (.int (0 : Int32))] := A74
    refine Go.dup (pc' := 122) W71 d_code_121 rfl rfl ?_
    refine Go.iconst (pc' := 123) W71 (0 : Int32) d_code_122 (by decide) rfl ?_
    refine Go.bipush (pc' := 125) W71 (47 : Int32) d_code_123 (by decide) rfl ?_
    refine Go.castore (pc' := 126) W71 0 rfl A74 0 (47 : Int32) (by decide) (by decide) (by decide) (by simp) d_code_125 rfl (fun T75 c77 W76 A78 => ?_)
    replace W76 : Wk l Z EL1 ({ frames := 8, cells := 32, slots := 4288, locals := 192 } : Room) "com/example/upfront_quote/upfrontquote/ProductLineServedOnPinLaw" code 15 (some .boolean) "law" X [(a72, c77)] [] T75 1 (12) := W76
    replace A78 : ArrC Z c77 .char [(.int (47 : Int32)), (.int (0 : Int32)), (.int (0 : Int32)), (.int (0 : Int32)), (.int (0 : Int32)), (.int (0 : Int32)), (.int (0 : Int32)), (.int (0 : Int32)), (.int (0 : Int32)), (.int (0 : Int32)), (.int (0 : Int32)), (.int (0 : Int32))] := A78
    refine Go.dup (pc' := 127) W76 d_code_126 rfl rfl ?_
    refine Go.iconst (pc' := 128) W76 (1 : Int32) d_code_127 (by decide) rfl ?_
    refine Go.bipush (pc' := 130) W76 (97 : Int32) d_code_128 (by decide) rfl ?_
    refine Go.castore (pc' := 131) W76 0 rfl A78 1 (97 : Int32) (by decide) (by decide) (by decide) (by simp) d_code_130 rfl (fun T79 c81 W80 A82 => ?_)
    replace W80 : Wk l Z EL1 ({ frames := 8, cells := 32, slots := 4288, locals := 192 } : Room) "com/example/upfront_quote/upfrontquote/ProductLineServedOnPinLaw" code 15 (some .boolean) "law" X [(a72, c81)] [] T79 1 (12) := W80
    replace A82 : ArrC Z c81 .char [(.int (47 : Int32)), (.int (97 : Int32)), (.int (0 : Int32)), (.int (0 : Int32)), (.int (0 : Int32)), (.int (0 : Int32)), (.int (0 : Int32)), (.int (0 : Int32)), (.int (0 : Int32)), (.int (0 : Int32)), (.int (0 : Int32)), (.int (0 : Int32))] := A82
    refine Go.dup (pc' := 132) W80 d_code_131 rfl rfl ?_
    refine Go.iconst (pc' := 133) W80 (2 : Int32) d_code_132 (by decide) rfl ?_
    refine Go.bipush (pc' := 135) W80 (112 : Int32) d_code_133 (by decide) rfl ?_
    refine Go.castore (pc' := 136) W80 0 rfl A82 2 (112 : Int32) (by decide) (by decide) (by decide) (by simp) d_code_135 rfl (fun T83 c85 W84 A86 => ?_)
    replace W84 : Wk l Z EL1 ({ frames := 8, cells := 32, slots := 4288, locals := 192 } : Room) "com/example/upfront_quote/upfrontquote/ProductLineServedOnPinLaw" code 15 (some .boolean) "law" X [(a72, c85)] [] T83 1 (12) := W84
    replace A86 : ArrC Z c85 .char [(.int (47 : Int32)), (.int (97 : Int32)), (.int (112 : Int32)), (.int (0 : Int32)), (.int (0 : Int32)), (.int (0 : Int32)), (.int (0 : Int32)), (.int (0 : Int32)), (.int (0 : Int32)), (.int (0 : Int32)), (.int (0 : Int32)), (.int (0 : Int32))] := A86
    refine Go.dup (pc' := 137) W84 d_code_136 rfl rfl ?_
    refine Go.iconst (pc' := 138) W84 (3 : Int32) d_code_137 (by decide) rfl ?_
    refine Go.bipush (pc' := 140) W84 (105 : Int32) d_code_138 (by decide) rfl ?_
    refine Go.castore (pc' := 141) W84 0 rfl A86 3 (105 : Int32) (by decide) (by decide) (by decide) (by simp) d_code_140 rfl (fun T87 c89 W88 A90 => ?_)
    replace W88 : Wk l Z EL1 ({ frames := 8, cells := 32, slots := 4288, locals := 192 } : Room) "com/example/upfront_quote/upfrontquote/ProductLineServedOnPinLaw" code 15 (some .boolean) "law" X [(a72, c89)] [] T87 1 (12) := W88
    replace A90 : ArrC Z c89 .char [(.int (47 : Int32)), (.int (97 : Int32)), (.int (112 : Int32)), (.int (105 : Int32)), (.int (0 : Int32)), (.int (0 : Int32)), (.int (0 : Int32)), (.int (0 : Int32)), (.int (0 : Int32)), (.int (0 : Int32)), (.int (0 : Int32)), (.int (0 : Int32))] := A90
    refine Go.dup (pc' := 142) W88 d_code_141 rfl rfl ?_
    refine Go.iconst (pc' := 143) W88 (4 : Int32) d_code_142 (by decide) rfl ?_
    refine Go.bipush (pc' := 145) W88 (47 : Int32) d_code_143 (by decide) rfl ?_
    refine Go.castore (pc' := 146) W88 0 rfl A90 4 (47 : Int32) (by decide) (by decide) (by decide) (by simp) d_code_145 rfl (fun T91 c93 W92 A94 => ?_)
    replace W92 : Wk l Z EL1 ({ frames := 8, cells := 32, slots := 4288, locals := 192 } : Room) "com/example/upfront_quote/upfrontquote/ProductLineServedOnPinLaw" code 15 (some .boolean) "law" X [(a72, c93)] [] T91 1 (12) := W92
    replace A94 : ArrC Z c93 .char [(.int (47 : Int32)), (.int (97 : Int32)), (.int (112 : Int32)), (.int (105 : Int32)), (.int (47 : Int32)), (.int (0 : Int32)), (.int (0 : Int32)), (.int (0 : Int32)), (.int (0 : Int32)), (.int (0 : Int32)), (.int (0 : Int32)), (.int (0 : Int32))] := A94
    refine Go.dup (pc' := 147) W92 d_code_146 rfl rfl ?_
    refine Go.iconst (pc' := 148) W92 (5 : Int32) d_code_147 (by decide) rfl ?_
    refine Go.bipush (pc' := 150) W92 (118 : Int32) d_code_148 (by decide) rfl ?_
    refine Go.castore (pc' := 151) W92 0 rfl A94 5 (118 : Int32) (by decide) (by decide) (by decide) (by simp) d_code_150 rfl (fun T95 c97 W96 A98 => ?_)
    replace W96 : Wk l Z EL1 ({ frames := 8, cells := 32, slots := 4288, locals := 192 } : Room) "com/example/upfront_quote/upfrontquote/ProductLineServedOnPinLaw" code 15 (some .boolean) "law" X [(a72, c97)] [] T95 1 (12) := W96
    replace A98 : ArrC Z c97 .char [(.int (47 : Int32)), (.int (97 : Int32)), (.int (112 : Int32)), (.int (105 : Int32)), (.int (47 : Int32)), (.int (118 : Int32)), (.int (0 : Int32)), (.int (0 : Int32)), (.int (0 : Int32)), (.int (0 : Int32)), (.int (0 : Int32)), (.int (0 : Int32))] := A98
    refine Go.dup (pc' := 152) W96 d_code_151 rfl rfl ?_
    refine Go.bipush (pc' := 154) W96 (6 : Int32) d_code_152 (by decide) rfl ?_
    refine Go.bipush (pc' := 156) W96 (50 : Int32) d_code_154 (by decide) rfl ?_
    refine Go.castore (pc' := 157) W96 0 rfl A98 6 (50 : Int32) (by decide) (by decide) (by decide) (by simp) d_code_156 rfl (fun T99 c101 W100 A102 => ?_)
    replace W100 : Wk l Z EL1 ({ frames := 8, cells := 32, slots := 4288, locals := 192 } : Room) "com/example/upfront_quote/upfrontquote/ProductLineServedOnPinLaw" code 15 (some .boolean) "law" X [(a72, c101)] [] T99 1 (12) := W100
    replace A102 : ArrC Z c101 .char [(.int (47 : Int32)), (.int (97 : Int32)), (.int (112 : Int32)), (.int (105 : Int32)), (.int (47 : Int32)), (.int (118 : Int32)), (.int (50 : Int32)), (.int (0 : Int32)), (.int (0 : Int32)), (.int (0 : Int32)), (.int (0 : Int32)), (.int (0 : Int32))] := A102
    refine Go.dup (pc' := 158) W100 d_code_157 rfl rfl ?_
    refine Go.bipush (pc' := 160) W100 (7 : Int32) d_code_158 (by decide) rfl ?_
    refine Go.bipush (pc' := 162) W100 (47 : Int32) d_code_160 (by decide) rfl ?_
    refine Go.castore (pc' := 163) W100 0 rfl A102 7 (47 : Int32) (by decide) (by decide) (by decide) (by simp) d_code_162 rfl (fun T103 c105 W104 A106 => ?_)
    replace W104 : Wk l Z EL1 ({ frames := 8, cells := 32, slots := 4288, locals := 192 } : Room) "com/example/upfront_quote/upfrontquote/ProductLineServedOnPinLaw" code 15 (some .boolean) "law" X [(a72, c105)] [] T103 1 (12) := W104
    replace A106 : ArrC Z c105 .char [(.int (47 : Int32)), (.int (97 : Int32)), (.int (112 : Int32)), (.int (105 : Int32)), (.int (47 : Int32)), (.int (118 : Int32)), (.int (50 : Int32)), (.int (47 : Int32)), (.int (0 : Int32)), (.int (0 : Int32)), (.int (0 : Int32)), (.int (0 : Int32))] := A106
    refine Go.dup (pc' := 164) W104 d_code_163 rfl rfl ?_
    refine Go.bipush (pc' := 166) W104 (8 : Int32) d_code_164 (by decide) rfl ?_
    refine Go.bipush (pc' := 168) W104 (122 : Int32) d_code_166 (by decide) rfl ?_
    refine Go.castore (pc' := 169) W104 0 rfl A106 8 (122 : Int32) (by decide) (by decide) (by decide) (by simp) d_code_168 rfl (fun T107 c109 W108 A110 => ?_)
    replace W108 : Wk l Z EL1 ({ frames := 8, cells := 32, slots := 4288, locals := 192 } : Room) "com/example/upfront_quote/upfrontquote/ProductLineServedOnPinLaw" code 15 (some .boolean) "law" X [(a72, c109)] [] T107 1 (12) := W108
    replace A110 : ArrC Z c109 .char [(.int (47 : Int32)), (.int (97 : Int32)), (.int (112 : Int32)), (.int (105 : Int32)), (.int (47 : Int32)), (.int (118 : Int32)), (.int (50 : Int32)), (.int (47 : Int32)), (.int (122 : Int32)), (.int (0 : Int32)), (.int (0 : Int32)), (.int (0 : Int32))] := A110
    refine Go.dup (pc' := 170) W108 d_code_169 rfl rfl ?_
    refine Go.bipush (pc' := 172) W108 (9 : Int32) d_code_170 (by decide) rfl ?_
    refine Go.bipush (pc' := 174) W108 (101 : Int32) d_code_172 (by decide) rfl ?_
    refine Go.castore (pc' := 175) W108 0 rfl A110 9 (101 : Int32) (by decide) (by decide) (by decide) (by simp) d_code_174 rfl (fun T111 c113 W112 A114 => ?_)
    replace W112 : Wk l Z EL1 ({ frames := 8, cells := 32, slots := 4288, locals := 192 } : Room) "com/example/upfront_quote/upfrontquote/ProductLineServedOnPinLaw" code 15 (some .boolean) "law" X [(a72, c113)] [] T111 1 (12) := W112
    replace A114 : ArrC Z c113 .char [(.int (47 : Int32)), (.int (97 : Int32)), (.int (112 : Int32)), (.int (105 : Int32)), (.int (47 : Int32)), (.int (118 : Int32)), (.int (50 : Int32)), (.int (47 : Int32)), (.int (122 : Int32)), (.int (101 : Int32)), (.int (0 : Int32)), (.int (0 : Int32))] := A114
    refine Go.dup (pc' := 176) W112 d_code_175 rfl rfl ?_
    refine Go.bipush (pc' := 178) W112 (10 : Int32) d_code_176 (by decide) rfl ?_
    refine Go.bipush (pc' := 180) W112 (99 : Int32) d_code_178 (by decide) rfl ?_
    refine Go.castore (pc' := 181) W112 0 rfl A114 10 (99 : Int32) (by decide) (by decide) (by decide) (by simp) d_code_180 rfl (fun T115 c117 W116 A118 => ?_)
    replace W116 : Wk l Z EL1 ({ frames := 8, cells := 32, slots := 4288, locals := 192 } : Room) "com/example/upfront_quote/upfrontquote/ProductLineServedOnPinLaw" code 15 (some .boolean) "law" X [(a72, c117)] [] T115 1 (12) := W116
    replace A118 : ArrC Z c117 .char [(.int (47 : Int32)), (.int (97 : Int32)), (.int (112 : Int32)), (.int (105 : Int32)), (.int (47 : Int32)), (.int (118 : Int32)), (.int (50 : Int32)), (.int (47 : Int32)), (.int (122 : Int32)), (.int (101 : Int32)), (.int (99 : Int32)), (.int (0 : Int32))] := A118
    refine Go.dup (pc' := 182) W116 d_code_181 rfl rfl ?_
    refine Go.bipush (pc' := 184) W116 (11 : Int32) d_code_182 (by decide) rfl ?_
    refine Go.iload (pc' := 186) W116 d_code_184 rfl rfl ?_
    refine Go.castore (pc' := 187) W116 0 rfl A118 11 (ext &&& (255 : Int32)) (nar_char_id (lat_char (and255 _))) (by decide) (by decide) (by simp) d_code_186 rfl (fun T119 c121 W120 A122 => ?_)
    replace W120 : Wk l Z EL1 ({ frames := 8, cells := 32, slots := 4288, locals := 192 } : Room) "com/example/upfront_quote/upfrontquote/ProductLineServedOnPinLaw" code 15 (some .boolean) "law" X [(a72, c121)] [] T119 1 (12) := W120
    replace A122 : ArrC Z c121 .char [(.int (47 : Int32)), (.int (97 : Int32)), (.int (112 : Int32)), (.int (105 : Int32)), (.int (47 : Int32)), (.int (118 : Int32)), (.int (50 : Int32)), (.int (47 : Int32)), (.int (122 : Int32)), (.int (101 : Int32)), (.int (99 : Int32)), (.int (ext &&& (255 : Int32)))] := A122
    refine Go.astore (pc' := 189) W120 #[.val (.int sel), .val (.int pos), .val (.int chi), .val (.int ext), .val (.int mode), .val (.int (1 : Int32)), .val (.int (ext &&& (255 : Int32))), .val (.int (((ext.toUInt32 >>> ((8 : Int32) &&& 31).toUInt32).toInt32) &&& (255 : Int32))), .val (.ref a72), .unset, .unset, .unset, .unset, .unset, .unset] d_code_187 rfl rfl rfl ?_
    refine Go.bipush (pc' := 191) W120 (11 : Int32) d_code_189 (by decide) rfl ?_
    refine Go.istore (pc' := 193) W120 #[.val (.int sel), .val (.int pos), .val (.int chi), .val (.int ext), .val (.int mode), .val (.int (1 : Int32)), .val (.int (ext &&& (255 : Int32))), .val (.int (((ext.toUInt32 >>> ((8 : Int32) &&& 31).toUInt32).toInt32) &&& (255 : Int32))), .val (.ref a72), .val (.int (11 : Int32)), .unset, .unset, .unset, .unset, .unset] d_code_191 rfl rfl ?_
    refine Go.goto W120 272 d_code_193 (by decide) ?_
    refine Go.iload (pc' := 274) W120 d_code_272 rfl rfl ?_
    refine Go.iconst (pc' := 275) W120 (1 : Int32) d_code_274 (by decide) rfl ?_
    refine Go.iand (pc' := 276) W120 d_code_275 rfl ?_
    refine Go.if_eq (pc' := 279) W120 295 d_code_276 (by decide) rfl (fun (c123 : (mode &&& (1 : Int32)) = 0) => ?_) (fun (c123 : ¬ ((mode &&& (1 : Int32)) = 0)) => ?_)
    · refine Go.iload (pc' := 297) W120 d_code_295 rfl rfl ?_
      refine Go.iconst (pc' := 298) W120 (1 : Int32) d_code_297 (by decide) rfl ?_
      refine Go.iushr (pc' := 299) W120 d_code_298 rfl ?_
      refine Go.iconst (pc' := 300) W120 (3 : Int32) d_code_299 (by decide) rfl ?_
      refine Go.iand (pc' := 301) W120 d_code_300 rfl ?_
      generalize e125 : ((mode.toUInt32 >>> ((1 : Int32) &&& 31).toUInt32).toInt32) &&& (3 : Int32) = n124
      have h126 : n124 = (0 : Int32) ∨ n124 = (1 : Int32) ∨ n124 = (2 : Int32) ∨ n124 = (3 : Int32) := by rw [← e125]; exact and3 _
      rcases h126 with rfl | rfl | rfl | rfl
      · refine Go.istore (pc' := 303) W120 #[.val (.int sel), .val (.int pos), .val (.int chi), .val (.int ext), .val (.int mode), .val (.int (1 : Int32)), .val (.int (ext &&& (255 : Int32))), .val (.int (((ext.toUInt32 >>> ((8 : Int32) &&& 31).toUInt32).toInt32) &&& (255 : Int32))), .val (.ref a72), .val (.int (11 : Int32)), .val (.int (0 : Int32)), .unset, .unset, .unset, .unset] d_code_301 rfl rfl ?_
        refine Go.iload (pc' := 305) W120 d_code_303 rfl rfl ?_
        refine Go.if_ne (pc' := 308) W120 315 d_code_305 (by decide) rfl (fun q => absurd (by decide) q) (fun _ => ?_)
        refine Go.iload (pc' := 310) W120 d_code_308 rfl rfl ?_
        refine Go.istore (pc' := 312) W120 #[.val (.int sel), .val (.int pos), .val (.int chi), .val (.int ext), .val (.int mode), .val (.int (1 : Int32)), .val (.int (ext &&& (255 : Int32))), .val (.int (((ext.toUInt32 >>> ((8 : Int32) &&& 31).toUInt32).toInt32) &&& (255 : Int32))), .val (.ref a72), .val (.int (11 : Int32)), .val (.int (0 : Int32)), .val (.int (11 : Int32)), .unset, .unset, .unset] d_code_310 rfl rfl ?_
        refine Go.goto W120 348 d_code_312 (by decide) ?_
        exact rm_tail_L G sel pos chi ext mode (1 : Int32) (ext &&& (255 : Int32)) (((ext.toUInt32 >>> ((8 : Int32) &&& 31).toUInt32).toInt32) &&& (255 : Int32)) (11 : Int32) (0 : Int32) adA adB adC adD adE adF adG adH adI adJ ceA ceB ceC ceD ceE ceF ceG ceH ceI ceJ hzA obA fdA hzB obB arA hzC obC fdC hzD obD fdE hzE slA hzF hzG slB hzH hzI slC hzJ stA stB stC stD em cem hzem obem fdem stem a72 c121 (47 : Int32) (97 : Int32) (112 : Int32) (105 : Int32) (47 : Int32) (118 : Int32) (50 : Int32) (47 : Int32) (122 : Int32) (101 : Int32) (99 : Int32) (ext &&& (255 : Int32)) (Lat.cons (by decide) (Lat.cons (by decide) (Lat.cons (by decide) (Lat.cons (by decide) (Lat.cons (by decide) (Lat.cons (by decide) (Lat.cons (by decide) (Lat.cons (by decide) (Lat.cons (by decide) (Lat.cons (by decide) (Lat.cons (by decide) (Lat.cons (and255 _) Lat.nil)))))))))))) A122 W120
      · refine Go.istore (pc' := 303) W120 #[.val (.int sel), .val (.int pos), .val (.int chi), .val (.int ext), .val (.int mode), .val (.int (1 : Int32)), .val (.int (ext &&& (255 : Int32))), .val (.int (((ext.toUInt32 >>> ((8 : Int32) &&& 31).toUInt32).toInt32) &&& (255 : Int32))), .val (.ref a72), .val (.int (11 : Int32)), .val (.int (1 : Int32)), .unset, .unset, .unset, .unset] d_code_301 rfl rfl ?_
        refine Go.iload (pc' := 305) W120 d_code_303 rfl rfl ?_
        refine Go.if_ne (pc' := 308) W120 315 d_code_305 (by decide) rfl (fun _ => ?_) (fun q => absurd q (by decide))
        refine Go.iload (pc' := 317) W120 d_code_315 rfl rfl ?_
        refine Go.iconst (pc' := 318) W120 (1 : Int32) d_code_317 (by decide) rfl ?_
        refine Go.icmp_ne (pc' := 321) W120 330 d_code_318 (by decide) rfl (fun q => absurd (by decide) q) (fun _ => ?_)
        refine Go.iload (pc' := 323) W120 d_code_321 rfl rfl ?_
        refine Go.iconst (pc' := 324) W120 (1 : Int32) d_code_323 (by decide) rfl ?_
        refine Go.isub (pc' := 325) W120 d_code_324 rfl ?_
        rw [show ((11 : Int32) - (1 : Int32) : Int32) = (10 : Int32) from by decide]
        refine Go.istore (pc' := 327) W120 #[.val (.int sel), .val (.int pos), .val (.int chi), .val (.int ext), .val (.int mode), .val (.int (1 : Int32)), .val (.int (ext &&& (255 : Int32))), .val (.int (((ext.toUInt32 >>> ((8 : Int32) &&& 31).toUInt32).toInt32) &&& (255 : Int32))), .val (.ref a72), .val (.int (11 : Int32)), .val (.int (1 : Int32)), .val (.int (10 : Int32)), .unset, .unset, .unset] d_code_325 rfl rfl ?_
        refine Go.goto W120 348 d_code_327 (by decide) ?_
        exact rm_tail_K G sel pos chi ext mode (1 : Int32) (ext &&& (255 : Int32)) (((ext.toUInt32 >>> ((8 : Int32) &&& 31).toUInt32).toInt32) &&& (255 : Int32)) (11 : Int32) (1 : Int32) adA adB adC adD adE adF adG adH adI adJ ceA ceB ceC ceD ceE ceF ceG ceH ceI ceJ hzA obA fdA hzB obB arA hzC obC fdC hzD obD fdE hzE slA hzF hzG slB hzH hzI slC hzJ stA stB stC stD em cem hzem obem fdem stem a72 c121 (47 : Int32) (97 : Int32) (112 : Int32) (105 : Int32) (47 : Int32) (118 : Int32) (50 : Int32) (47 : Int32) (122 : Int32) (101 : Int32) (99 : Int32) (ext &&& (255 : Int32)) (Lat.cons (by decide) (Lat.cons (by decide) (Lat.cons (by decide) (Lat.cons (by decide) (Lat.cons (by decide) (Lat.cons (by decide) (Lat.cons (by decide) (Lat.cons (by decide) (Lat.cons (by decide) (Lat.cons (by decide) (Lat.cons (by decide) (Lat.cons (and255 _) Lat.nil)))))))))))) A122 W120
      · refine Go.istore (pc' := 303) W120 #[.val (.int sel), .val (.int pos), .val (.int chi), .val (.int ext), .val (.int mode), .val (.int (1 : Int32)), .val (.int (ext &&& (255 : Int32))), .val (.int (((ext.toUInt32 >>> ((8 : Int32) &&& 31).toUInt32).toInt32) &&& (255 : Int32))), .val (.ref a72), .val (.int (11 : Int32)), .val (.int (2 : Int32)), .unset, .unset, .unset, .unset] d_code_301 rfl rfl ?_
        refine Go.iload (pc' := 305) W120 d_code_303 rfl rfl ?_
        refine Go.if_ne (pc' := 308) W120 315 d_code_305 (by decide) rfl (fun _ => ?_) (fun q => absurd q (by decide))
        refine Go.iload (pc' := 317) W120 d_code_315 rfl rfl ?_
        refine Go.iconst (pc' := 318) W120 (1 : Int32) d_code_317 (by decide) rfl ?_
        refine Go.icmp_ne (pc' := 321) W120 330 d_code_318 (by decide) rfl (fun _ => ?_) (fun q => absurd q (by decide))
        refine Go.iload (pc' := 332) W120 d_code_330 rfl rfl ?_
        refine Go.iconst (pc' := 333) W120 (2 : Int32) d_code_332 (by decide) rfl ?_
        refine Go.icmp_ne (pc' := 336) W120 345 d_code_333 (by decide) rfl (fun q => absurd (by decide) q) (fun _ => ?_)
        refine Go.iload (pc' := 338) W120 d_code_336 rfl rfl ?_
        refine Go.iconst (pc' := 339) W120 (1 : Int32) d_code_338 (by decide) rfl ?_
        refine Go.iadd (pc' := 340) W120 d_code_339 rfl ?_
        rw [show ((11 : Int32) + (1 : Int32) : Int32) = (12 : Int32) from by decide]
        refine Go.istore (pc' := 342) W120 #[.val (.int sel), .val (.int pos), .val (.int chi), .val (.int ext), .val (.int mode), .val (.int (1 : Int32)), .val (.int (ext &&& (255 : Int32))), .val (.int (((ext.toUInt32 >>> ((8 : Int32) &&& 31).toUInt32).toInt32) &&& (255 : Int32))), .val (.ref a72), .val (.int (11 : Int32)), .val (.int (2 : Int32)), .val (.int (12 : Int32)), .unset, .unset, .unset] d_code_340 rfl rfl ?_
        refine Go.goto W120 348 d_code_342 (by decide) ?_
        exact rm_tail_M G sel pos chi ext mode (1 : Int32) (ext &&& (255 : Int32)) (((ext.toUInt32 >>> ((8 : Int32) &&& 31).toUInt32).toInt32) &&& (255 : Int32)) (11 : Int32) (2 : Int32) adA adB adC adD adE adF adG adH adI adJ ceA ceB ceC ceD ceE ceF ceG ceH ceI ceJ hzA obA fdA hzB obB arA hzC obC fdC hzD obD fdE hzE slA hzF hzG slB hzH hzI slC hzJ stA stB stC stD em cem hzem obem fdem stem a72 c121 (47 : Int32) (97 : Int32) (112 : Int32) (105 : Int32) (47 : Int32) (118 : Int32) (50 : Int32) (47 : Int32) (122 : Int32) (101 : Int32) (99 : Int32) (ext &&& (255 : Int32)) (Lat.cons (by decide) (Lat.cons (by decide) (Lat.cons (by decide) (Lat.cons (by decide) (Lat.cons (by decide) (Lat.cons (by decide) (Lat.cons (by decide) (Lat.cons (by decide) (Lat.cons (by decide) (Lat.cons (by decide) (Lat.cons (by decide) (Lat.cons (and255 _) Lat.nil)))))))))))) A122 W120
      · refine Go.istore (pc' := 303) W120 #[.val (.int sel), .val (.int pos), .val (.int chi), .val (.int ext), .val (.int mode), .val (.int (1 : Int32)), .val (.int (ext &&& (255 : Int32))), .val (.int (((ext.toUInt32 >>> ((8 : Int32) &&& 31).toUInt32).toInt32) &&& (255 : Int32))), .val (.ref a72), .val (.int (11 : Int32)), .val (.int (3 : Int32)), .unset, .unset, .unset, .unset] d_code_301 rfl rfl ?_
        refine Go.iload (pc' := 305) W120 d_code_303 rfl rfl ?_
        refine Go.if_ne (pc' := 308) W120 315 d_code_305 (by decide) rfl (fun _ => ?_) (fun q => absurd q (by decide))
        refine Go.iload (pc' := 317) W120 d_code_315 rfl rfl ?_
        refine Go.iconst (pc' := 318) W120 (1 : Int32) d_code_317 (by decide) rfl ?_
        refine Go.icmp_ne (pc' := 321) W120 330 d_code_318 (by decide) rfl (fun _ => ?_) (fun q => absurd q (by decide))
        refine Go.iload (pc' := 332) W120 d_code_330 rfl rfl ?_
        refine Go.iconst (pc' := 333) W120 (2 : Int32) d_code_332 (by decide) rfl ?_
        refine Go.icmp_ne (pc' := 336) W120 345 d_code_333 (by decide) rfl (fun _ => ?_) (fun q => absurd q (by decide))
        refine Go.iconst (pc' := 346) W120 (0 : Int32) d_code_345 (by decide) rfl ?_
        refine Go.istore (pc' := 348) W120 #[.val (.int sel), .val (.int pos), .val (.int chi), .val (.int ext), .val (.int mode), .val (.int (1 : Int32)), .val (.int (ext &&& (255 : Int32))), .val (.int (((ext.toUInt32 >>> ((8 : Int32) &&& 31).toUInt32).toInt32) &&& (255 : Int32))), .val (.ref a72), .val (.int (11 : Int32)), .val (.int (3 : Int32)), .val (.int (0 : Int32)), .unset, .unset, .unset] d_code_346 rfl rfl ?_
        exact rm_tail_A G sel pos chi ext mode (1 : Int32) (ext &&& (255 : Int32)) (((ext.toUInt32 >>> ((8 : Int32) &&& 31).toUInt32).toInt32) &&& (255 : Int32)) (11 : Int32) (3 : Int32) adA adB adC adD adE adF adG adH adI adJ ceA ceB ceC ceD ceE ceF ceG ceH ceI ceJ hzA obA fdA hzB obB arA hzC obC fdC hzD obD fdE hzE slA hzF hzG slB hzH hzI slC hzJ stA stB stC stD em cem hzem obem fdem stem a72 c121 (47 : Int32) (97 : Int32) (112 : Int32) (105 : Int32) (47 : Int32) (118 : Int32) (50 : Int32) (47 : Int32) (122 : Int32) (101 : Int32) (99 : Int32) (ext &&& (255 : Int32)) (Lat.cons (by decide) (Lat.cons (by decide) (Lat.cons (by decide) (Lat.cons (by decide) (Lat.cons (by decide) (Lat.cons (by decide) (Lat.cons (by decide) (Lat.cons (by decide) (Lat.cons (by decide) (Lat.cons (by decide) (Lat.cons (by decide) (Lat.cons (and255 _) Lat.nil)))))))))))) A122 W120
    · refine Go.aload (pc' := 281) W120 d_code_279 rfl rfl rfl ?_
      refine Go.iloadN (pc' := 282) W120 d_code_281 rfl rfl ?_
      refine Go.ldcInt (pc' := 284) W120 (w_0 G) d_code_282 rfl ?_
      refine Go.iand (pc' := 285) W120 d_code_284 rfl ?_
      refine Go.bipush (pc' := 287) W120 (12 : Int32) d_code_285 (by decide) rfl ?_
      refine Go.irem (pc' := 288) W120 d_code_287 (by decide) rfl ?_
      obtain ⟨jj, hjj, ejj⟩ := pj pos
      rw [ejj]
      refine Go.iloadN (pc' := 289) W120 d_code_288 rfl rfl ?_
      refine Go.sipush (pc' := 292) W120 (255 : Int32) d_code_289 (by decide) rfl ?_
      refine Go.iand (pc' := 293) W120 d_code_292 rfl ?_
      refine Go.i2c (pc' := 294) W120 d_code_293 rfl ?_
      rw [i2c_id (lat_char (and255 _)).1 (lat_char (and255 _)).2]
      refine Go.castore (pc' := 295) W120 0 rfl A122 jj (chi &&& (255 : Int32)) (nar_char_id (lat_char (and255 _))) (i32_nn (by omega)) (i32_clamp (by omega)) (by simpa using hjj) d_code_294 rfl (fun T127 c129 W128 A130 => ?_)
      replace W128 : Wk l Z EL1 ({ frames := 8, cells := 32, slots := 4288, locals := 192 } : Room) "com/example/upfront_quote/upfrontquote/ProductLineServedOnPinLaw" code 15 (some .boolean) "law" X [(a72, c129)] [] T127 1 (12) := W128
      replace A130 : ArrC Z c129 .char ((chV [(47 : Int32), (97 : Int32), (112 : Int32), (105 : Int32), (47 : Int32), (118 : Int32), (50 : Int32), (47 : Int32), (122 : Int32), (101 : Int32), (99 : Int32), ext &&& (255 : Int32)]).set jj (.int (chi &&& (255 : Int32)))) := A130
      rw [chV_set] at A130
      have h131 := lat_set (j := jj) (y := (chi &&& (255 : Int32))) (show Lat [(47 : Int32), (97 : Int32), (112 : Int32), (105 : Int32), (47 : Int32), (118 : Int32), (50 : Int32), (47 : Int32), (122 : Int32), (101 : Int32), (99 : Int32), ext &&& (255 : Int32)] from (Lat.cons (by decide) (Lat.cons (by decide) (Lat.cons (by decide) (Lat.cons (by decide) (Lat.cons (by decide) (Lat.cons (by decide) (Lat.cons (by decide) (Lat.cons (by decide) (Lat.cons (by decide) (Lat.cons (by decide) (Lat.cons (by decide) (Lat.cons (and255 _) Lat.nil))))))))))))) (and255 _)
      obtain ⟨xa, xb, xc, xd, xe, xf, xg, xh, xi, xj, xk, xl, e132⟩ := dest (l := ([(47 : Int32), (97 : Int32), (112 : Int32), (105 : Int32), (47 : Int32), (118 : Int32), (50 : Int32), (47 : Int32), (122 : Int32), (101 : Int32), (99 : Int32), ext &&& (255 : Int32)] : List Int32).set jj (chi &&& (255 : Int32))) (by simp)
      rw [e132] at A130 h131
      refine Go.iload (pc' := 297) W128 d_code_295 rfl rfl ?_
      refine Go.iconst (pc' := 298) W128 (1 : Int32) d_code_297 (by decide) rfl ?_
      refine Go.iushr (pc' := 299) W128 d_code_298 rfl ?_
      refine Go.iconst (pc' := 300) W128 (3 : Int32) d_code_299 (by decide) rfl ?_
      refine Go.iand (pc' := 301) W128 d_code_300 rfl ?_
      generalize e134 : ((mode.toUInt32 >>> ((1 : Int32) &&& 31).toUInt32).toInt32) &&& (3 : Int32) = n133
      have h135 : n133 = (0 : Int32) ∨ n133 = (1 : Int32) ∨ n133 = (2 : Int32) ∨ n133 = (3 : Int32) := by rw [← e134]; exact and3 _
      rcases h135 with rfl | rfl | rfl | rfl
      · refine Go.istore (pc' := 303) W128 #[.val (.int sel), .val (.int pos), .val (.int chi), .val (.int ext), .val (.int mode), .val (.int (1 : Int32)), .val (.int (ext &&& (255 : Int32))), .val (.int (((ext.toUInt32 >>> ((8 : Int32) &&& 31).toUInt32).toInt32) &&& (255 : Int32))), .val (.ref a72), .val (.int (11 : Int32)), .val (.int (0 : Int32)), .unset, .unset, .unset, .unset] d_code_301 rfl rfl ?_
        refine Go.iload (pc' := 305) W128 d_code_303 rfl rfl ?_
        refine Go.if_ne (pc' := 308) W128 315 d_code_305 (by decide) rfl (fun q => absurd (by decide) q) (fun _ => ?_)
        refine Go.iload (pc' := 310) W128 d_code_308 rfl rfl ?_
        refine Go.istore (pc' := 312) W128 #[.val (.int sel), .val (.int pos), .val (.int chi), .val (.int ext), .val (.int mode), .val (.int (1 : Int32)), .val (.int (ext &&& (255 : Int32))), .val (.int (((ext.toUInt32 >>> ((8 : Int32) &&& 31).toUInt32).toInt32) &&& (255 : Int32))), .val (.ref a72), .val (.int (11 : Int32)), .val (.int (0 : Int32)), .val (.int (11 : Int32)), .unset, .unset, .unset] d_code_310 rfl rfl ?_
        refine Go.goto W128 348 d_code_312 (by decide) ?_
        exact rm_tail_L G sel pos chi ext mode (1 : Int32) (ext &&& (255 : Int32)) (((ext.toUInt32 >>> ((8 : Int32) &&& 31).toUInt32).toInt32) &&& (255 : Int32)) (11 : Int32) (0 : Int32) adA adB adC adD adE adF adG adH adI adJ ceA ceB ceC ceD ceE ceF ceG ceH ceI ceJ hzA obA fdA hzB obB arA hzC obC fdC hzD obD fdE hzE slA hzF hzG slB hzH hzI slC hzJ stA stB stC stD em cem hzem obem fdem stem a72 c129 xa xb xc xd xe xf xg xh xi xj xk xl h131 A130 W128
      · refine Go.istore (pc' := 303) W128 #[.val (.int sel), .val (.int pos), .val (.int chi), .val (.int ext), .val (.int mode), .val (.int (1 : Int32)), .val (.int (ext &&& (255 : Int32))), .val (.int (((ext.toUInt32 >>> ((8 : Int32) &&& 31).toUInt32).toInt32) &&& (255 : Int32))), .val (.ref a72), .val (.int (11 : Int32)), .val (.int (1 : Int32)), .unset, .unset, .unset, .unset] d_code_301 rfl rfl ?_
        refine Go.iload (pc' := 305) W128 d_code_303 rfl rfl ?_
        refine Go.if_ne (pc' := 308) W128 315 d_code_305 (by decide) rfl (fun _ => ?_) (fun q => absurd q (by decide))
        refine Go.iload (pc' := 317) W128 d_code_315 rfl rfl ?_
        refine Go.iconst (pc' := 318) W128 (1 : Int32) d_code_317 (by decide) rfl ?_
        refine Go.icmp_ne (pc' := 321) W128 330 d_code_318 (by decide) rfl (fun q => absurd (by decide) q) (fun _ => ?_)
        refine Go.iload (pc' := 323) W128 d_code_321 rfl rfl ?_
        refine Go.iconst (pc' := 324) W128 (1 : Int32) d_code_323 (by decide) rfl ?_
        refine Go.isub (pc' := 325) W128 d_code_324 rfl ?_
        rw [show ((11 : Int32) - (1 : Int32) : Int32) = (10 : Int32) from by decide]
        refine Go.istore (pc' := 327) W128 #[.val (.int sel), .val (.int pos), .val (.int chi), .val (.int ext), .val (.int mode), .val (.int (1 : Int32)), .val (.int (ext &&& (255 : Int32))), .val (.int (((ext.toUInt32 >>> ((8 : Int32) &&& 31).toUInt32).toInt32) &&& (255 : Int32))), .val (.ref a72), .val (.int (11 : Int32)), .val (.int (1 : Int32)), .val (.int (10 : Int32)), .unset, .unset, .unset] d_code_325 rfl rfl ?_
        refine Go.goto W128 348 d_code_327 (by decide) ?_
        exact rm_tail_K G sel pos chi ext mode (1 : Int32) (ext &&& (255 : Int32)) (((ext.toUInt32 >>> ((8 : Int32) &&& 31).toUInt32).toInt32) &&& (255 : Int32)) (11 : Int32) (1 : Int32) adA adB adC adD adE adF adG adH adI adJ ceA ceB ceC ceD ceE ceF ceG ceH ceI ceJ hzA obA fdA hzB obB arA hzC obC fdC hzD obD fdE hzE slA hzF hzG slB hzH hzI slC hzJ stA stB stC stD em cem hzem obem fdem stem a72 c129 xa xb xc xd xe xf xg xh xi xj xk xl h131 A130 W128
      · refine Go.istore (pc' := 303) W128 #[.val (.int sel), .val (.int pos), .val (.int chi), .val (.int ext), .val (.int mode), .val (.int (1 : Int32)), .val (.int (ext &&& (255 : Int32))), .val (.int (((ext.toUInt32 >>> ((8 : Int32) &&& 31).toUInt32).toInt32) &&& (255 : Int32))), .val (.ref a72), .val (.int (11 : Int32)), .val (.int (2 : Int32)), .unset, .unset, .unset, .unset] d_code_301 rfl rfl ?_
        refine Go.iload (pc' := 305) W128 d_code_303 rfl rfl ?_
        refine Go.if_ne (pc' := 308) W128 315 d_code_305 (by decide) rfl (fun _ => ?_) (fun q => absurd q (by decide))
        refine Go.iload (pc' := 317) W128 d_code_315 rfl rfl ?_
        refine Go.iconst (pc' := 318) W128 (1 : Int32) d_code_317 (by decide) rfl ?_
        refine Go.icmp_ne (pc' := 321) W128 330 d_code_318 (by decide) rfl (fun _ => ?_) (fun q => absurd q (by decide))
        refine Go.iload (pc' := 332) W128 d_code_330 rfl rfl ?_
        refine Go.iconst (pc' := 333) W128 (2 : Int32) d_code_332 (by decide) rfl ?_
        refine Go.icmp_ne (pc' := 336) W128 345 d_code_333 (by decide) rfl (fun q => absurd (by decide) q) (fun _ => ?_)
        refine Go.iload (pc' := 338) W128 d_code_336 rfl rfl ?_
        refine Go.iconst (pc' := 339) W128 (1 : Int32) d_code_338 (by decide) rfl ?_
        refine Go.iadd (pc' := 340) W128 d_code_339 rfl ?_
        rw [show ((11 : Int32) + (1 : Int32) : Int32) = (12 : Int32) from by decide]
        refine Go.istore (pc' := 342) W128 #[.val (.int sel), .val (.int pos), .val (.int chi), .val (.int ext), .val (.int mode), .val (.int (1 : Int32)), .val (.int (ext &&& (255 : Int32))), .val (.int (((ext.toUInt32 >>> ((8 : Int32) &&& 31).toUInt32).toInt32) &&& (255 : Int32))), .val (.ref a72), .val (.int (11 : Int32)), .val (.int (2 : Int32)), .val (.int (12 : Int32)), .unset, .unset, .unset] d_code_340 rfl rfl ?_
        refine Go.goto W128 348 d_code_342 (by decide) ?_
        exact rm_tail_M G sel pos chi ext mode (1 : Int32) (ext &&& (255 : Int32)) (((ext.toUInt32 >>> ((8 : Int32) &&& 31).toUInt32).toInt32) &&& (255 : Int32)) (11 : Int32) (2 : Int32) adA adB adC adD adE adF adG adH adI adJ ceA ceB ceC ceD ceE ceF ceG ceH ceI ceJ hzA obA fdA hzB obB arA hzC obC fdC hzD obD fdE hzE slA hzF hzG slB hzH hzI slC hzJ stA stB stC stD em cem hzem obem fdem stem a72 c129 xa xb xc xd xe xf xg xh xi xj xk xl h131 A130 W128
      · refine Go.istore (pc' := 303) W128 #[.val (.int sel), .val (.int pos), .val (.int chi), .val (.int ext), .val (.int mode), .val (.int (1 : Int32)), .val (.int (ext &&& (255 : Int32))), .val (.int (((ext.toUInt32 >>> ((8 : Int32) &&& 31).toUInt32).toInt32) &&& (255 : Int32))), .val (.ref a72), .val (.int (11 : Int32)), .val (.int (3 : Int32)), .unset, .unset, .unset, .unset] d_code_301 rfl rfl ?_
        refine Go.iload (pc' := 305) W128 d_code_303 rfl rfl ?_
        refine Go.if_ne (pc' := 308) W128 315 d_code_305 (by decide) rfl (fun _ => ?_) (fun q => absurd q (by decide))
        refine Go.iload (pc' := 317) W128 d_code_315 rfl rfl ?_
        refine Go.iconst (pc' := 318) W128 (1 : Int32) d_code_317 (by decide) rfl ?_
        refine Go.icmp_ne (pc' := 321) W128 330 d_code_318 (by decide) rfl (fun _ => ?_) (fun q => absurd q (by decide))
        refine Go.iload (pc' := 332) W128 d_code_330 rfl rfl ?_
        refine Go.iconst (pc' := 333) W128 (2 : Int32) d_code_332 (by decide) rfl ?_
        refine Go.icmp_ne (pc' := 336) W128 345 d_code_333 (by decide) rfl (fun _ => ?_) (fun q => absurd q (by decide))
        refine Go.iconst (pc' := 346) W128 (0 : Int32) d_code_345 (by decide) rfl ?_
        refine Go.istore (pc' := 348) W128 #[.val (.int sel), .val (.int pos), .val (.int chi), .val (.int ext), .val (.int mode), .val (.int (1 : Int32)), .val (.int (ext &&& (255 : Int32))), .val (.int (((ext.toUInt32 >>> ((8 : Int32) &&& 31).toUInt32).toInt32) &&& (255 : Int32))), .val (.ref a72), .val (.int (11 : Int32)), .val (.int (3 : Int32)), .val (.int (0 : Int32)), .unset, .unset, .unset] d_code_346 rfl rfl ?_
        exact rm_tail_A G sel pos chi ext mode (1 : Int32) (ext &&& (255 : Int32)) (((ext.toUInt32 >>> ((8 : Int32) &&& 31).toUInt32).toInt32) &&& (255 : Int32)) (11 : Int32) (3 : Int32) adA adB adC adD adE adF adG adH adI adJ ceA ceB ceC ceD ceE ceF ceG ceH ceI ceJ hzA obA fdA hzB obB arA hzC obC fdC hzD obD fdE hzE slA hzF hzG slB hzH hzI slC hzJ stA stB stC stD em cem hzem obem fdem stem a72 c129 xa xb xc xd xe xf xg xh xi xj xk xl h131 A130 W128
  · refine Go.istore (pc' := 8) W0 #[.val (.int sel), .val (.int pos), .val (.int chi), .val (.int ext), .val (.int mode), .val (.int (2 : Int32)), .unset, .unset, .unset, .unset, .unset, .unset, .unset, .unset, .unset] d_code_6 rfl rfl ?_
    refine Go.iloadN (pc' := 9) W0 d_code_8 rfl rfl ?_
    refine Go.sipush (pc' := 12) W0 (255 : Int32) d_code_9 (by decide) rfl ?_
    refine Go.iand (pc' := 13) W0 d_code_12 rfl ?_
    refine Go.i2c (pc' := 14) W0 d_code_13 rfl ?_
    rw [i2c_id (lat_char (and255 _)).1 (lat_char (and255 _)).2]
    refine Go.istore (pc' := 16) W0 #[.val (.int sel), .val (.int pos), .val (.int chi), .val (.int ext), .val (.int mode), .val (.int (2 : Int32)), .val (.int (ext &&& (255 : Int32))), .unset, .unset, .unset, .unset, .unset, .unset, .unset, .unset] d_code_14 rfl rfl ?_
    refine Go.iloadN (pc' := 17) W0 d_code_16 rfl rfl ?_
    refine Go.bipush (pc' := 19) W0 (8 : Int32) d_code_17 (by decide) rfl ?_
    refine Go.iushr (pc' := 20) W0 d_code_19 rfl ?_
    refine Go.sipush (pc' := 23) W0 (255 : Int32) d_code_20 (by decide) rfl ?_
    refine Go.iand (pc' := 24) W0 d_code_23 rfl ?_
    refine Go.i2c (pc' := 25) W0 d_code_24 rfl ?_
    rw [i2c_id (lat_char (and255 _)).1 (lat_char (and255 _)).2]
    refine Go.istore (pc' := 27) W0 #[.val (.int sel), .val (.int pos), .val (.int chi), .val (.int ext), .val (.int mode), .val (.int (2 : Int32)), .val (.int (ext &&& (255 : Int32))), .val (.int (((ext.toUInt32 >>> ((8 : Int32) &&& 31).toUInt32).toInt32) &&& (255 : Int32))), .unset, .unset, .unset, .unset, .unset, .unset, .unset] d_code_25 rfl rfl ?_
    refine Go.iload (pc' := 29) W0 d_code_27 rfl rfl ?_
    refine Go.if_ne (pc' := 32) W0 111 d_code_29 (by decide) rfl (fun _ => ?_) (fun q => absurd q (by decide))
    refine Go.iload (pc' := 113) W0 d_code_111 rfl rfl ?_
    refine Go.iconst (pc' := 114) W0 (1 : Int32) d_code_113 (by decide) rfl ?_
    refine Go.icmp_ne (pc' := 117) W0 196 d_code_114 (by decide) rfl (fun _ => ?_) (fun q => absurd q (by decide))
    refine Go.bipush (pc' := 198) W0 (12 : Int32) d_code_196 (by decide) rfl ?_
    refine Go.newarr (pc' := 200) W0 .char rfl 12 (w_1 G) d_code_198 rfl (by decide) (by decide) (by decide) (by first | exact Nat.le_of_ble_eq_true rfl | (simp; done) | (simp; omega) | omega) (by first | exact Nat.le_of_ble_eq_true rfl | (simp; done) | (simp; omega) | omega) (fun T136 a138 c139 W137 A140 => ?_)
    replace W137 : Wk l Z EL1 ({ frames := 8, cells := 32, slots := 4288, locals := 192 } : Room) "com/example/upfront_quote/upfrontquote/ProductLineServedOnPinLaw" code 15 (some .boolean) "law" X [(a138, c139)] [] T136 1 (12) := W137
    replace A140 : ArrC Z c139 .char [(.int (0 : Int32)), (.int (0 : Int32)), (.int (0 : Int32)), (.int (0 : Int32)), (.int (0 : Int32)), (.int (0 : Int32)), (.int (0 : Int32)), (.int (0 : Int32)), (.int (0 : Int32)), (.int (0 : Int32)), (.int (0 : Int32)), (.int (0 : Int32))] := A140
    refine Go.dup (pc' := 201) W137 d_code_200 rfl rfl ?_
    refine Go.iconst (pc' := 202) W137 (0 : Int32) d_code_201 (by decide) rfl ?_
    refine Go.bipush (pc' := 204) W137 (47 : Int32) d_code_202 (by decide) rfl ?_
    refine Go.castore (pc' := 205) W137 0 rfl A140 0 (47 : Int32) (by decide) (by decide) (by decide) (by simp) d_code_204 rfl (fun T141 c143 W142 A144 => ?_)
    replace W142 : Wk l Z EL1 ({ frames := 8, cells := 32, slots := 4288, locals := 192 } : Room) "com/example/upfront_quote/upfrontquote/ProductLineServedOnPinLaw" code 15 (some .boolean) "law" X [(a138, c143)] [] T141 1 (12) := W142
    replace A144 : ArrC Z c143 .char [(.int (47 : Int32)), (.int (0 : Int32)), (.int (0 : Int32)), (.int (0 : Int32)), (.int (0 : Int32)), (.int (0 : Int32)), (.int (0 : Int32)), (.int (0 : Int32)), (.int (0 : Int32)), (.int (0 : Int32)), (.int (0 : Int32)), (.int (0 : Int32))] := A144
    refine Go.dup (pc' := 206) W142 d_code_205 rfl rfl ?_
    refine Go.iconst (pc' := 207) W142 (1 : Int32) d_code_206 (by decide) rfl ?_
    refine Go.bipush (pc' := 209) W142 (97 : Int32) d_code_207 (by decide) rfl ?_
    refine Go.castore (pc' := 210) W142 0 rfl A144 1 (97 : Int32) (by decide) (by decide) (by decide) (by simp) d_code_209 rfl (fun T145 c147 W146 A148 => ?_)
    replace W146 : Wk l Z EL1 ({ frames := 8, cells := 32, slots := 4288, locals := 192 } : Room) "com/example/upfront_quote/upfrontquote/ProductLineServedOnPinLaw" code 15 (some .boolean) "law" X [(a138, c147)] [] T145 1 (12) := W146
    replace A148 : ArrC Z c147 .char [(.int (47 : Int32)), (.int (97 : Int32)), (.int (0 : Int32)), (.int (0 : Int32)), (.int (0 : Int32)), (.int (0 : Int32)), (.int (0 : Int32)), (.int (0 : Int32)), (.int (0 : Int32)), (.int (0 : Int32)), (.int (0 : Int32)), (.int (0 : Int32))] := A148
    refine Go.dup (pc' := 211) W146 d_code_210 rfl rfl ?_
    refine Go.iconst (pc' := 212) W146 (2 : Int32) d_code_211 (by decide) rfl ?_
    refine Go.bipush (pc' := 214) W146 (112 : Int32) d_code_212 (by decide) rfl ?_
    refine Go.castore (pc' := 215) W146 0 rfl A148 2 (112 : Int32) (by decide) (by decide) (by decide) (by simp) d_code_214 rfl (fun T149 c151 W150 A152 => ?_)
    replace W150 : Wk l Z EL1 ({ frames := 8, cells := 32, slots := 4288, locals := 192 } : Room) "com/example/upfront_quote/upfrontquote/ProductLineServedOnPinLaw" code 15 (some .boolean) "law" X [(a138, c151)] [] T149 1 (12) := W150
    replace A152 : ArrC Z c151 .char [(.int (47 : Int32)), (.int (97 : Int32)), (.int (112 : Int32)), (.int (0 : Int32)), (.int (0 : Int32)), (.int (0 : Int32)), (.int (0 : Int32)), (.int (0 : Int32)), (.int (0 : Int32)), (.int (0 : Int32)), (.int (0 : Int32)), (.int (0 : Int32))] := A152
    refine Go.dup (pc' := 216) W150 d_code_215 rfl rfl ?_
    refine Go.iconst (pc' := 217) W150 (3 : Int32) d_code_216 (by decide) rfl ?_
    refine Go.bipush (pc' := 219) W150 (105 : Int32) d_code_217 (by decide) rfl ?_
    refine Go.castore (pc' := 220) W150 0 rfl A152 3 (105 : Int32) (by decide) (by decide) (by decide) (by simp) d_code_219 rfl (fun T153 c155 W154 A156 => ?_)
    replace W154 : Wk l Z EL1 ({ frames := 8, cells := 32, slots := 4288, locals := 192 } : Room) "com/example/upfront_quote/upfrontquote/ProductLineServedOnPinLaw" code 15 (some .boolean) "law" X [(a138, c155)] [] T153 1 (12) := W154
    replace A156 : ArrC Z c155 .char [(.int (47 : Int32)), (.int (97 : Int32)), (.int (112 : Int32)), (.int (105 : Int32)), (.int (0 : Int32)), (.int (0 : Int32)), (.int (0 : Int32)), (.int (0 : Int32)), (.int (0 : Int32)), (.int (0 : Int32)), (.int (0 : Int32)), (.int (0 : Int32))] := A156
    refine Go.dup (pc' := 221) W154 d_code_220 rfl rfl ?_
    refine Go.iconst (pc' := 222) W154 (4 : Int32) d_code_221 (by decide) rfl ?_
    refine Go.bipush (pc' := 224) W154 (47 : Int32) d_code_222 (by decide) rfl ?_
    refine Go.castore (pc' := 225) W154 0 rfl A156 4 (47 : Int32) (by decide) (by decide) (by decide) (by simp) d_code_224 rfl (fun T157 c159 W158 A160 => ?_)
    replace W158 : Wk l Z EL1 ({ frames := 8, cells := 32, slots := 4288, locals := 192 } : Room) "com/example/upfront_quote/upfrontquote/ProductLineServedOnPinLaw" code 15 (some .boolean) "law" X [(a138, c159)] [] T157 1 (12) := W158
    replace A160 : ArrC Z c159 .char [(.int (47 : Int32)), (.int (97 : Int32)), (.int (112 : Int32)), (.int (105 : Int32)), (.int (47 : Int32)), (.int (0 : Int32)), (.int (0 : Int32)), (.int (0 : Int32)), (.int (0 : Int32)), (.int (0 : Int32)), (.int (0 : Int32)), (.int (0 : Int32))] := A160
    refine Go.dup (pc' := 226) W158 d_code_225 rfl rfl ?_
    refine Go.iconst (pc' := 227) W158 (5 : Int32) d_code_226 (by decide) rfl ?_
    refine Go.bipush (pc' := 229) W158 (118 : Int32) d_code_227 (by decide) rfl ?_
    refine Go.castore (pc' := 230) W158 0 rfl A160 5 (118 : Int32) (by decide) (by decide) (by decide) (by simp) d_code_229 rfl (fun T161 c163 W162 A164 => ?_)
    replace W162 : Wk l Z EL1 ({ frames := 8, cells := 32, slots := 4288, locals := 192 } : Room) "com/example/upfront_quote/upfrontquote/ProductLineServedOnPinLaw" code 15 (some .boolean) "law" X [(a138, c163)] [] T161 1 (12) := W162
    replace A164 : ArrC Z c163 .char [(.int (47 : Int32)), (.int (97 : Int32)), (.int (112 : Int32)), (.int (105 : Int32)), (.int (47 : Int32)), (.int (118 : Int32)), (.int (0 : Int32)), (.int (0 : Int32)), (.int (0 : Int32)), (.int (0 : Int32)), (.int (0 : Int32)), (.int (0 : Int32))] := A164
    refine Go.dup (pc' := 231) W162 d_code_230 rfl rfl ?_
    refine Go.bipush (pc' := 233) W162 (6 : Int32) d_code_231 (by decide) rfl ?_
    refine Go.bipush (pc' := 235) W162 (50 : Int32) d_code_233 (by decide) rfl ?_
    refine Go.castore (pc' := 236) W162 0 rfl A164 6 (50 : Int32) (by decide) (by decide) (by decide) (by simp) d_code_235 rfl (fun T165 c167 W166 A168 => ?_)
    replace W166 : Wk l Z EL1 ({ frames := 8, cells := 32, slots := 4288, locals := 192 } : Room) "com/example/upfront_quote/upfrontquote/ProductLineServedOnPinLaw" code 15 (some .boolean) "law" X [(a138, c167)] [] T165 1 (12) := W166
    replace A168 : ArrC Z c167 .char [(.int (47 : Int32)), (.int (97 : Int32)), (.int (112 : Int32)), (.int (105 : Int32)), (.int (47 : Int32)), (.int (118 : Int32)), (.int (50 : Int32)), (.int (0 : Int32)), (.int (0 : Int32)), (.int (0 : Int32)), (.int (0 : Int32)), (.int (0 : Int32))] := A168
    refine Go.dup (pc' := 237) W166 d_code_236 rfl rfl ?_
    refine Go.bipush (pc' := 239) W166 (7 : Int32) d_code_237 (by decide) rfl ?_
    refine Go.bipush (pc' := 241) W166 (47 : Int32) d_code_239 (by decide) rfl ?_
    refine Go.castore (pc' := 242) W166 0 rfl A168 7 (47 : Int32) (by decide) (by decide) (by decide) (by simp) d_code_241 rfl (fun T169 c171 W170 A172 => ?_)
    replace W170 : Wk l Z EL1 ({ frames := 8, cells := 32, slots := 4288, locals := 192 } : Room) "com/example/upfront_quote/upfrontquote/ProductLineServedOnPinLaw" code 15 (some .boolean) "law" X [(a138, c171)] [] T169 1 (12) := W170
    replace A172 : ArrC Z c171 .char [(.int (47 : Int32)), (.int (97 : Int32)), (.int (112 : Int32)), (.int (105 : Int32)), (.int (47 : Int32)), (.int (118 : Int32)), (.int (50 : Int32)), (.int (47 : Int32)), (.int (0 : Int32)), (.int (0 : Int32)), (.int (0 : Int32)), (.int (0 : Int32))] := A172
    refine Go.dup (pc' := 243) W170 d_code_242 rfl rfl ?_
    refine Go.bipush (pc' := 245) W170 (8 : Int32) d_code_243 (by decide) rfl ?_
    refine Go.bipush (pc' := 247) W170 (118 : Int32) d_code_245 (by decide) rfl ?_
    refine Go.castore (pc' := 248) W170 0 rfl A172 8 (118 : Int32) (by decide) (by decide) (by decide) (by simp) d_code_247 rfl (fun T173 c175 W174 A176 => ?_)
    replace W174 : Wk l Z EL1 ({ frames := 8, cells := 32, slots := 4288, locals := 192 } : Room) "com/example/upfront_quote/upfrontquote/ProductLineServedOnPinLaw" code 15 (some .boolean) "law" X [(a138, c175)] [] T173 1 (12) := W174
    replace A176 : ArrC Z c175 .char [(.int (47 : Int32)), (.int (97 : Int32)), (.int (112 : Int32)), (.int (105 : Int32)), (.int (47 : Int32)), (.int (118 : Int32)), (.int (50 : Int32)), (.int (47 : Int32)), (.int (118 : Int32)), (.int (0 : Int32)), (.int (0 : Int32)), (.int (0 : Int32))] := A176
    refine Go.dup (pc' := 249) W174 d_code_248 rfl rfl ?_
    refine Go.bipush (pc' := 251) W174 (9 : Int32) d_code_249 (by decide) rfl ?_
    refine Go.bipush (pc' := 253) W174 (109 : Int32) d_code_251 (by decide) rfl ?_
    refine Go.castore (pc' := 254) W174 0 rfl A176 9 (109 : Int32) (by decide) (by decide) (by decide) (by simp) d_code_253 rfl (fun T177 c179 W178 A180 => ?_)
    replace W178 : Wk l Z EL1 ({ frames := 8, cells := 32, slots := 4288, locals := 192 } : Room) "com/example/upfront_quote/upfrontquote/ProductLineServedOnPinLaw" code 15 (some .boolean) "law" X [(a138, c179)] [] T177 1 (12) := W178
    replace A180 : ArrC Z c179 .char [(.int (47 : Int32)), (.int (97 : Int32)), (.int (112 : Int32)), (.int (105 : Int32)), (.int (47 : Int32)), (.int (118 : Int32)), (.int (50 : Int32)), (.int (47 : Int32)), (.int (118 : Int32)), (.int (109 : Int32)), (.int (0 : Int32)), (.int (0 : Int32))] := A180
    refine Go.dup (pc' := 255) W178 d_code_254 rfl rfl ?_
    refine Go.bipush (pc' := 257) W178 (10 : Int32) d_code_255 (by decide) rfl ?_
    refine Go.iload (pc' := 259) W178 d_code_257 rfl rfl ?_
    refine Go.castore (pc' := 260) W178 0 rfl A180 10 (ext &&& (255 : Int32)) (nar_char_id (lat_char (and255 _))) (by decide) (by decide) (by simp) d_code_259 rfl (fun T181 c183 W182 A184 => ?_)
    replace W182 : Wk l Z EL1 ({ frames := 8, cells := 32, slots := 4288, locals := 192 } : Room) "com/example/upfront_quote/upfrontquote/ProductLineServedOnPinLaw" code 15 (some .boolean) "law" X [(a138, c183)] [] T181 1 (12) := W182
    replace A184 : ArrC Z c183 .char [(.int (47 : Int32)), (.int (97 : Int32)), (.int (112 : Int32)), (.int (105 : Int32)), (.int (47 : Int32)), (.int (118 : Int32)), (.int (50 : Int32)), (.int (47 : Int32)), (.int (118 : Int32)), (.int (109 : Int32)), (.int (ext &&& (255 : Int32))), (.int (0 : Int32))] := A184
    refine Go.dup (pc' := 261) W182 d_code_260 rfl rfl ?_
    refine Go.bipush (pc' := 263) W182 (11 : Int32) d_code_261 (by decide) rfl ?_
    refine Go.iload (pc' := 265) W182 d_code_263 rfl rfl ?_
    refine Go.castore (pc' := 266) W182 0 rfl A184 11 (((ext.toUInt32 >>> ((8 : Int32) &&& 31).toUInt32).toInt32) &&& (255 : Int32)) (nar_char_id (lat_char (and255 _))) (by decide) (by decide) (by simp) d_code_265 rfl (fun T185 c187 W186 A188 => ?_)
    replace W186 : Wk l Z EL1 ({ frames := 8, cells := 32, slots := 4288, locals := 192 } : Room) "com/example/upfront_quote/upfrontquote/ProductLineServedOnPinLaw" code 15 (some .boolean) "law" X [(a138, c187)] [] T185 1 (12) := W186
    replace A188 : ArrC Z c187 .char [(.int (47 : Int32)), (.int (97 : Int32)), (.int (112 : Int32)), (.int (105 : Int32)), (.int (47 : Int32)), (.int (118 : Int32)), (.int (50 : Int32)), (.int (47 : Int32)), (.int (118 : Int32)), (.int (109 : Int32)), (.int (ext &&& (255 : Int32))), (.int (((ext.toUInt32 >>> ((8 : Int32) &&& 31).toUInt32).toInt32) &&& (255 : Int32)))] := A188
    refine Go.astore (pc' := 268) W186 #[.val (.int sel), .val (.int pos), .val (.int chi), .val (.int ext), .val (.int mode), .val (.int (2 : Int32)), .val (.int (ext &&& (255 : Int32))), .val (.int (((ext.toUInt32 >>> ((8 : Int32) &&& 31).toUInt32).toInt32) &&& (255 : Int32))), .val (.ref a138), .unset, .unset, .unset, .unset, .unset, .unset] d_code_266 rfl rfl rfl ?_
    refine Go.bipush (pc' := 270) W186 (10 : Int32) d_code_268 (by decide) rfl ?_
    refine Go.istore (pc' := 272) W186 #[.val (.int sel), .val (.int pos), .val (.int chi), .val (.int ext), .val (.int mode), .val (.int (2 : Int32)), .val (.int (ext &&& (255 : Int32))), .val (.int (((ext.toUInt32 >>> ((8 : Int32) &&& 31).toUInt32).toInt32) &&& (255 : Int32))), .val (.ref a138), .val (.int (10 : Int32)), .unset, .unset, .unset, .unset, .unset] d_code_270 rfl rfl ?_
    refine Go.iload (pc' := 274) W186 d_code_272 rfl rfl ?_
    refine Go.iconst (pc' := 275) W186 (1 : Int32) d_code_274 (by decide) rfl ?_
    refine Go.iand (pc' := 276) W186 d_code_275 rfl ?_
    refine Go.if_eq (pc' := 279) W186 295 d_code_276 (by decide) rfl (fun (c189 : (mode &&& (1 : Int32)) = 0) => ?_) (fun (c189 : ¬ ((mode &&& (1 : Int32)) = 0)) => ?_)
    · refine Go.iload (pc' := 297) W186 d_code_295 rfl rfl ?_
      refine Go.iconst (pc' := 298) W186 (1 : Int32) d_code_297 (by decide) rfl ?_
      refine Go.iushr (pc' := 299) W186 d_code_298 rfl ?_
      refine Go.iconst (pc' := 300) W186 (3 : Int32) d_code_299 (by decide) rfl ?_
      refine Go.iand (pc' := 301) W186 d_code_300 rfl ?_
      generalize e191 : ((mode.toUInt32 >>> ((1 : Int32) &&& 31).toUInt32).toInt32) &&& (3 : Int32) = n190
      have h192 : n190 = (0 : Int32) ∨ n190 = (1 : Int32) ∨ n190 = (2 : Int32) ∨ n190 = (3 : Int32) := by rw [← e191]; exact and3 _
      rcases h192 with rfl | rfl | rfl | rfl
      · refine Go.istore (pc' := 303) W186 #[.val (.int sel), .val (.int pos), .val (.int chi), .val (.int ext), .val (.int mode), .val (.int (2 : Int32)), .val (.int (ext &&& (255 : Int32))), .val (.int (((ext.toUInt32 >>> ((8 : Int32) &&& 31).toUInt32).toInt32) &&& (255 : Int32))), .val (.ref a138), .val (.int (10 : Int32)), .val (.int (0 : Int32)), .unset, .unset, .unset, .unset] d_code_301 rfl rfl ?_
        refine Go.iload (pc' := 305) W186 d_code_303 rfl rfl ?_
        refine Go.if_ne (pc' := 308) W186 315 d_code_305 (by decide) rfl (fun q => absurd (by decide) q) (fun _ => ?_)
        refine Go.iload (pc' := 310) W186 d_code_308 rfl rfl ?_
        refine Go.istore (pc' := 312) W186 #[.val (.int sel), .val (.int pos), .val (.int chi), .val (.int ext), .val (.int mode), .val (.int (2 : Int32)), .val (.int (ext &&& (255 : Int32))), .val (.int (((ext.toUInt32 >>> ((8 : Int32) &&& 31).toUInt32).toInt32) &&& (255 : Int32))), .val (.ref a138), .val (.int (10 : Int32)), .val (.int (0 : Int32)), .val (.int (10 : Int32)), .unset, .unset, .unset] d_code_310 rfl rfl ?_
        refine Go.goto W186 348 d_code_312 (by decide) ?_
        exact rm_tail_K G sel pos chi ext mode (2 : Int32) (ext &&& (255 : Int32)) (((ext.toUInt32 >>> ((8 : Int32) &&& 31).toUInt32).toInt32) &&& (255 : Int32)) (10 : Int32) (0 : Int32) adA adB adC adD adE adF adG adH adI adJ ceA ceB ceC ceD ceE ceF ceG ceH ceI ceJ hzA obA fdA hzB obB arA hzC obC fdC hzD obD fdE hzE slA hzF hzG slB hzH hzI slC hzJ stA stB stC stD em cem hzem obem fdem stem a138 c187 (47 : Int32) (97 : Int32) (112 : Int32) (105 : Int32) (47 : Int32) (118 : Int32) (50 : Int32) (47 : Int32) (118 : Int32) (109 : Int32) (ext &&& (255 : Int32)) (((ext.toUInt32 >>> ((8 : Int32) &&& 31).toUInt32).toInt32) &&& (255 : Int32)) (Lat.cons (by decide) (Lat.cons (by decide) (Lat.cons (by decide) (Lat.cons (by decide) (Lat.cons (by decide) (Lat.cons (by decide) (Lat.cons (by decide) (Lat.cons (by decide) (Lat.cons (by decide) (Lat.cons (by decide) (Lat.cons (and255 _) (Lat.cons (and255 _) Lat.nil)))))))))))) A188 W186
      · refine Go.istore (pc' := 303) W186 #[.val (.int sel), .val (.int pos), .val (.int chi), .val (.int ext), .val (.int mode), .val (.int (2 : Int32)), .val (.int (ext &&& (255 : Int32))), .val (.int (((ext.toUInt32 >>> ((8 : Int32) &&& 31).toUInt32).toInt32) &&& (255 : Int32))), .val (.ref a138), .val (.int (10 : Int32)), .val (.int (1 : Int32)), .unset, .unset, .unset, .unset] d_code_301 rfl rfl ?_
        refine Go.iload (pc' := 305) W186 d_code_303 rfl rfl ?_
        refine Go.if_ne (pc' := 308) W186 315 d_code_305 (by decide) rfl (fun _ => ?_) (fun q => absurd q (by decide))
        refine Go.iload (pc' := 317) W186 d_code_315 rfl rfl ?_
        refine Go.iconst (pc' := 318) W186 (1 : Int32) d_code_317 (by decide) rfl ?_
        refine Go.icmp_ne (pc' := 321) W186 330 d_code_318 (by decide) rfl (fun q => absurd (by decide) q) (fun _ => ?_)
        refine Go.iload (pc' := 323) W186 d_code_321 rfl rfl ?_
        refine Go.iconst (pc' := 324) W186 (1 : Int32) d_code_323 (by decide) rfl ?_
        refine Go.isub (pc' := 325) W186 d_code_324 rfl ?_
        rw [show ((10 : Int32) - (1 : Int32) : Int32) = (9 : Int32) from by decide]
        refine Go.istore (pc' := 327) W186 #[.val (.int sel), .val (.int pos), .val (.int chi), .val (.int ext), .val (.int mode), .val (.int (2 : Int32)), .val (.int (ext &&& (255 : Int32))), .val (.int (((ext.toUInt32 >>> ((8 : Int32) &&& 31).toUInt32).toInt32) &&& (255 : Int32))), .val (.ref a138), .val (.int (10 : Int32)), .val (.int (1 : Int32)), .val (.int (9 : Int32)), .unset, .unset, .unset] d_code_325 rfl rfl ?_
        refine Go.goto W186 348 d_code_327 (by decide) ?_
        exact rm_tail_J G sel pos chi ext mode (2 : Int32) (ext &&& (255 : Int32)) (((ext.toUInt32 >>> ((8 : Int32) &&& 31).toUInt32).toInt32) &&& (255 : Int32)) (10 : Int32) (1 : Int32) adA adB adC adD adE adF adG adH adI adJ ceA ceB ceC ceD ceE ceF ceG ceH ceI ceJ hzA obA fdA hzB obB arA hzC obC fdC hzD obD fdE hzE slA hzF hzG slB hzH hzI slC hzJ stA stB stC stD em cem hzem obem fdem stem a138 c187 (47 : Int32) (97 : Int32) (112 : Int32) (105 : Int32) (47 : Int32) (118 : Int32) (50 : Int32) (47 : Int32) (118 : Int32) (109 : Int32) (ext &&& (255 : Int32)) (((ext.toUInt32 >>> ((8 : Int32) &&& 31).toUInt32).toInt32) &&& (255 : Int32)) (Lat.cons (by decide) (Lat.cons (by decide) (Lat.cons (by decide) (Lat.cons (by decide) (Lat.cons (by decide) (Lat.cons (by decide) (Lat.cons (by decide) (Lat.cons (by decide) (Lat.cons (by decide) (Lat.cons (by decide) (Lat.cons (and255 _) (Lat.cons (and255 _) Lat.nil)))))))))))) A188 W186
      · refine Go.istore (pc' := 303) W186 #[.val (.int sel), .val (.int pos), .val (.int chi), .val (.int ext), .val (.int mode), .val (.int (2 : Int32)), .val (.int (ext &&& (255 : Int32))), .val (.int (((ext.toUInt32 >>> ((8 : Int32) &&& 31).toUInt32).toInt32) &&& (255 : Int32))), .val (.ref a138), .val (.int (10 : Int32)), .val (.int (2 : Int32)), .unset, .unset, .unset, .unset] d_code_301 rfl rfl ?_
        refine Go.iload (pc' := 305) W186 d_code_303 rfl rfl ?_
        refine Go.if_ne (pc' := 308) W186 315 d_code_305 (by decide) rfl (fun _ => ?_) (fun q => absurd q (by decide))
        refine Go.iload (pc' := 317) W186 d_code_315 rfl rfl ?_
        refine Go.iconst (pc' := 318) W186 (1 : Int32) d_code_317 (by decide) rfl ?_
        refine Go.icmp_ne (pc' := 321) W186 330 d_code_318 (by decide) rfl (fun _ => ?_) (fun q => absurd q (by decide))
        refine Go.iload (pc' := 332) W186 d_code_330 rfl rfl ?_
        refine Go.iconst (pc' := 333) W186 (2 : Int32) d_code_332 (by decide) rfl ?_
        refine Go.icmp_ne (pc' := 336) W186 345 d_code_333 (by decide) rfl (fun q => absurd (by decide) q) (fun _ => ?_)
        refine Go.iload (pc' := 338) W186 d_code_336 rfl rfl ?_
        refine Go.iconst (pc' := 339) W186 (1 : Int32) d_code_338 (by decide) rfl ?_
        refine Go.iadd (pc' := 340) W186 d_code_339 rfl ?_
        rw [show ((10 : Int32) + (1 : Int32) : Int32) = (11 : Int32) from by decide]
        refine Go.istore (pc' := 342) W186 #[.val (.int sel), .val (.int pos), .val (.int chi), .val (.int ext), .val (.int mode), .val (.int (2 : Int32)), .val (.int (ext &&& (255 : Int32))), .val (.int (((ext.toUInt32 >>> ((8 : Int32) &&& 31).toUInt32).toInt32) &&& (255 : Int32))), .val (.ref a138), .val (.int (10 : Int32)), .val (.int (2 : Int32)), .val (.int (11 : Int32)), .unset, .unset, .unset] d_code_340 rfl rfl ?_
        refine Go.goto W186 348 d_code_342 (by decide) ?_
        exact rm_tail_L G sel pos chi ext mode (2 : Int32) (ext &&& (255 : Int32)) (((ext.toUInt32 >>> ((8 : Int32) &&& 31).toUInt32).toInt32) &&& (255 : Int32)) (10 : Int32) (2 : Int32) adA adB adC adD adE adF adG adH adI adJ ceA ceB ceC ceD ceE ceF ceG ceH ceI ceJ hzA obA fdA hzB obB arA hzC obC fdC hzD obD fdE hzE slA hzF hzG slB hzH hzI slC hzJ stA stB stC stD em cem hzem obem fdem stem a138 c187 (47 : Int32) (97 : Int32) (112 : Int32) (105 : Int32) (47 : Int32) (118 : Int32) (50 : Int32) (47 : Int32) (118 : Int32) (109 : Int32) (ext &&& (255 : Int32)) (((ext.toUInt32 >>> ((8 : Int32) &&& 31).toUInt32).toInt32) &&& (255 : Int32)) (Lat.cons (by decide) (Lat.cons (by decide) (Lat.cons (by decide) (Lat.cons (by decide) (Lat.cons (by decide) (Lat.cons (by decide) (Lat.cons (by decide) (Lat.cons (by decide) (Lat.cons (by decide) (Lat.cons (by decide) (Lat.cons (and255 _) (Lat.cons (and255 _) Lat.nil)))))))))))) A188 W186
      · refine Go.istore (pc' := 303) W186 #[.val (.int sel), .val (.int pos), .val (.int chi), .val (.int ext), .val (.int mode), .val (.int (2 : Int32)), .val (.int (ext &&& (255 : Int32))), .val (.int (((ext.toUInt32 >>> ((8 : Int32) &&& 31).toUInt32).toInt32) &&& (255 : Int32))), .val (.ref a138), .val (.int (10 : Int32)), .val (.int (3 : Int32)), .unset, .unset, .unset, .unset] d_code_301 rfl rfl ?_
        refine Go.iload (pc' := 305) W186 d_code_303 rfl rfl ?_
        refine Go.if_ne (pc' := 308) W186 315 d_code_305 (by decide) rfl (fun _ => ?_) (fun q => absurd q (by decide))
        refine Go.iload (pc' := 317) W186 d_code_315 rfl rfl ?_
        refine Go.iconst (pc' := 318) W186 (1 : Int32) d_code_317 (by decide) rfl ?_
        refine Go.icmp_ne (pc' := 321) W186 330 d_code_318 (by decide) rfl (fun _ => ?_) (fun q => absurd q (by decide))
        refine Go.iload (pc' := 332) W186 d_code_330 rfl rfl ?_
        refine Go.iconst (pc' := 333) W186 (2 : Int32) d_code_332 (by decide) rfl ?_
        refine Go.icmp_ne (pc' := 336) W186 345 d_code_333 (by decide) rfl (fun _ => ?_) (fun q => absurd q (by decide))
        refine Go.iconst (pc' := 346) W186 (0 : Int32) d_code_345 (by decide) rfl ?_
        refine Go.istore (pc' := 348) W186 #[.val (.int sel), .val (.int pos), .val (.int chi), .val (.int ext), .val (.int mode), .val (.int (2 : Int32)), .val (.int (ext &&& (255 : Int32))), .val (.int (((ext.toUInt32 >>> ((8 : Int32) &&& 31).toUInt32).toInt32) &&& (255 : Int32))), .val (.ref a138), .val (.int (10 : Int32)), .val (.int (3 : Int32)), .val (.int (0 : Int32)), .unset, .unset, .unset] d_code_346 rfl rfl ?_
        exact rm_tail_A G sel pos chi ext mode (2 : Int32) (ext &&& (255 : Int32)) (((ext.toUInt32 >>> ((8 : Int32) &&& 31).toUInt32).toInt32) &&& (255 : Int32)) (10 : Int32) (3 : Int32) adA adB adC adD adE adF adG adH adI adJ ceA ceB ceC ceD ceE ceF ceG ceH ceI ceJ hzA obA fdA hzB obB arA hzC obC fdC hzD obD fdE hzE slA hzF hzG slB hzH hzI slC hzJ stA stB stC stD em cem hzem obem fdem stem a138 c187 (47 : Int32) (97 : Int32) (112 : Int32) (105 : Int32) (47 : Int32) (118 : Int32) (50 : Int32) (47 : Int32) (118 : Int32) (109 : Int32) (ext &&& (255 : Int32)) (((ext.toUInt32 >>> ((8 : Int32) &&& 31).toUInt32).toInt32) &&& (255 : Int32)) (Lat.cons (by decide) (Lat.cons (by decide) (Lat.cons (by decide) (Lat.cons (by decide) (Lat.cons (by decide) (Lat.cons (by decide) (Lat.cons (by decide) (Lat.cons (by decide) (Lat.cons (by decide) (Lat.cons (by decide) (Lat.cons (and255 _) (Lat.cons (and255 _) Lat.nil)))))))))))) A188 W186
    · refine Go.aload (pc' := 281) W186 d_code_279 rfl rfl rfl ?_
      refine Go.iloadN (pc' := 282) W186 d_code_281 rfl rfl ?_
      refine Go.ldcInt (pc' := 284) W186 (w_0 G) d_code_282 rfl ?_
      refine Go.iand (pc' := 285) W186 d_code_284 rfl ?_
      refine Go.bipush (pc' := 287) W186 (12 : Int32) d_code_285 (by decide) rfl ?_
      refine Go.irem (pc' := 288) W186 d_code_287 (by decide) rfl ?_
      obtain ⟨jj, hjj, ejj⟩ := pj pos
      rw [ejj]
      refine Go.iloadN (pc' := 289) W186 d_code_288 rfl rfl ?_
      refine Go.sipush (pc' := 292) W186 (255 : Int32) d_code_289 (by decide) rfl ?_
      refine Go.iand (pc' := 293) W186 d_code_292 rfl ?_
      refine Go.i2c (pc' := 294) W186 d_code_293 rfl ?_
      rw [i2c_id (lat_char (and255 _)).1 (lat_char (and255 _)).2]
      refine Go.castore (pc' := 295) W186 0 rfl A188 jj (chi &&& (255 : Int32)) (nar_char_id (lat_char (and255 _))) (i32_nn (by omega)) (i32_clamp (by omega)) (by simpa using hjj) d_code_294 rfl (fun T193 c195 W194 A196 => ?_)
      replace W194 : Wk l Z EL1 ({ frames := 8, cells := 32, slots := 4288, locals := 192 } : Room) "com/example/upfront_quote/upfrontquote/ProductLineServedOnPinLaw" code 15 (some .boolean) "law" X [(a138, c195)] [] T193 1 (12) := W194
      replace A196 : ArrC Z c195 .char ((chV [(47 : Int32), (97 : Int32), (112 : Int32), (105 : Int32), (47 : Int32), (118 : Int32), (50 : Int32), (47 : Int32), (118 : Int32), (109 : Int32), ext &&& (255 : Int32), ((ext.toUInt32 >>> ((8 : Int32) &&& 31).toUInt32).toInt32) &&& (255 : Int32)]).set jj (.int (chi &&& (255 : Int32)))) := A196
      rw [chV_set] at A196
      have h197 := lat_set (j := jj) (y := (chi &&& (255 : Int32))) (show Lat [(47 : Int32), (97 : Int32), (112 : Int32), (105 : Int32), (47 : Int32), (118 : Int32), (50 : Int32), (47 : Int32), (118 : Int32), (109 : Int32), ext &&& (255 : Int32), ((ext.toUInt32 >>> ((8 : Int32) &&& 31).toUInt32).toInt32) &&& (255 : Int32)] from (Lat.cons (by decide) (Lat.cons (by decide) (Lat.cons (by decide) (Lat.cons (by decide) (Lat.cons (by decide) (Lat.cons (by decide) (Lat.cons (by decide) (Lat.cons (by decide) (Lat.cons (by decide) (Lat.cons (by decide) (Lat.cons (and255 _) (Lat.cons (and255 _) Lat.nil))))))))))))) (and255 _)
      obtain ⟨xa, xb, xc, xd, xe, xf, xg, xh, xi, xj, xk, xl, e198⟩ := dest (l := ([(47 : Int32), (97 : Int32), (112 : Int32), (105 : Int32), (47 : Int32), (118 : Int32), (50 : Int32), (47 : Int32), (118 : Int32), (109 : Int32), ext &&& (255 : Int32), ((ext.toUInt32 >>> ((8 : Int32) &&& 31).toUInt32).toInt32) &&& (255 : Int32)] : List Int32).set jj (chi &&& (255 : Int32))) (by simp)
      rw [e198] at A196 h197
      refine Go.iload (pc' := 297) W194 d_code_295 rfl rfl ?_
      refine Go.iconst (pc' := 298) W194 (1 : Int32) d_code_297 (by decide) rfl ?_
      refine Go.iushr (pc' := 299) W194 d_code_298 rfl ?_
      refine Go.iconst (pc' := 300) W194 (3 : Int32) d_code_299 (by decide) rfl ?_
      refine Go.iand (pc' := 301) W194 d_code_300 rfl ?_
      generalize e200 : ((mode.toUInt32 >>> ((1 : Int32) &&& 31).toUInt32).toInt32) &&& (3 : Int32) = n199
      have h201 : n199 = (0 : Int32) ∨ n199 = (1 : Int32) ∨ n199 = (2 : Int32) ∨ n199 = (3 : Int32) := by rw [← e200]; exact and3 _
      rcases h201 with rfl | rfl | rfl | rfl
      · refine Go.istore (pc' := 303) W194 #[.val (.int sel), .val (.int pos), .val (.int chi), .val (.int ext), .val (.int mode), .val (.int (2 : Int32)), .val (.int (ext &&& (255 : Int32))), .val (.int (((ext.toUInt32 >>> ((8 : Int32) &&& 31).toUInt32).toInt32) &&& (255 : Int32))), .val (.ref a138), .val (.int (10 : Int32)), .val (.int (0 : Int32)), .unset, .unset, .unset, .unset] d_code_301 rfl rfl ?_
        refine Go.iload (pc' := 305) W194 d_code_303 rfl rfl ?_
        refine Go.if_ne (pc' := 308) W194 315 d_code_305 (by decide) rfl (fun q => absurd (by decide) q) (fun _ => ?_)
        refine Go.iload (pc' := 310) W194 d_code_308 rfl rfl ?_
        refine Go.istore (pc' := 312) W194 #[.val (.int sel), .val (.int pos), .val (.int chi), .val (.int ext), .val (.int mode), .val (.int (2 : Int32)), .val (.int (ext &&& (255 : Int32))), .val (.int (((ext.toUInt32 >>> ((8 : Int32) &&& 31).toUInt32).toInt32) &&& (255 : Int32))), .val (.ref a138), .val (.int (10 : Int32)), .val (.int (0 : Int32)), .val (.int (10 : Int32)), .unset, .unset, .unset] d_code_310 rfl rfl ?_
        refine Go.goto W194 348 d_code_312 (by decide) ?_
        exact rm_tail_K G sel pos chi ext mode (2 : Int32) (ext &&& (255 : Int32)) (((ext.toUInt32 >>> ((8 : Int32) &&& 31).toUInt32).toInt32) &&& (255 : Int32)) (10 : Int32) (0 : Int32) adA adB adC adD adE adF adG adH adI adJ ceA ceB ceC ceD ceE ceF ceG ceH ceI ceJ hzA obA fdA hzB obB arA hzC obC fdC hzD obD fdE hzE slA hzF hzG slB hzH hzI slC hzJ stA stB stC stD em cem hzem obem fdem stem a138 c195 xa xb xc xd xe xf xg xh xi xj xk xl h197 A196 W194
      · refine Go.istore (pc' := 303) W194 #[.val (.int sel), .val (.int pos), .val (.int chi), .val (.int ext), .val (.int mode), .val (.int (2 : Int32)), .val (.int (ext &&& (255 : Int32))), .val (.int (((ext.toUInt32 >>> ((8 : Int32) &&& 31).toUInt32).toInt32) &&& (255 : Int32))), .val (.ref a138), .val (.int (10 : Int32)), .val (.int (1 : Int32)), .unset, .unset, .unset, .unset] d_code_301 rfl rfl ?_
        refine Go.iload (pc' := 305) W194 d_code_303 rfl rfl ?_
        refine Go.if_ne (pc' := 308) W194 315 d_code_305 (by decide) rfl (fun _ => ?_) (fun q => absurd q (by decide))
        refine Go.iload (pc' := 317) W194 d_code_315 rfl rfl ?_
        refine Go.iconst (pc' := 318) W194 (1 : Int32) d_code_317 (by decide) rfl ?_
        refine Go.icmp_ne (pc' := 321) W194 330 d_code_318 (by decide) rfl (fun q => absurd (by decide) q) (fun _ => ?_)
        refine Go.iload (pc' := 323) W194 d_code_321 rfl rfl ?_
        refine Go.iconst (pc' := 324) W194 (1 : Int32) d_code_323 (by decide) rfl ?_
        refine Go.isub (pc' := 325) W194 d_code_324 rfl ?_
        rw [show ((10 : Int32) - (1 : Int32) : Int32) = (9 : Int32) from by decide]
        refine Go.istore (pc' := 327) W194 #[.val (.int sel), .val (.int pos), .val (.int chi), .val (.int ext), .val (.int mode), .val (.int (2 : Int32)), .val (.int (ext &&& (255 : Int32))), .val (.int (((ext.toUInt32 >>> ((8 : Int32) &&& 31).toUInt32).toInt32) &&& (255 : Int32))), .val (.ref a138), .val (.int (10 : Int32)), .val (.int (1 : Int32)), .val (.int (9 : Int32)), .unset, .unset, .unset] d_code_325 rfl rfl ?_
        refine Go.goto W194 348 d_code_327 (by decide) ?_
        exact rm_tail_J G sel pos chi ext mode (2 : Int32) (ext &&& (255 : Int32)) (((ext.toUInt32 >>> ((8 : Int32) &&& 31).toUInt32).toInt32) &&& (255 : Int32)) (10 : Int32) (1 : Int32) adA adB adC adD adE adF adG adH adI adJ ceA ceB ceC ceD ceE ceF ceG ceH ceI ceJ hzA obA fdA hzB obB arA hzC obC fdC hzD obD fdE hzE slA hzF hzG slB hzH hzI slC hzJ stA stB stC stD em cem hzem obem fdem stem a138 c195 xa xb xc xd xe xf xg xh xi xj xk xl h197 A196 W194
      · refine Go.istore (pc' := 303) W194 #[.val (.int sel), .val (.int pos), .val (.int chi), .val (.int ext), .val (.int mode), .val (.int (2 : Int32)), .val (.int (ext &&& (255 : Int32))), .val (.int (((ext.toUInt32 >>> ((8 : Int32) &&& 31).toUInt32).toInt32) &&& (255 : Int32))), .val (.ref a138), .val (.int (10 : Int32)), .val (.int (2 : Int32)), .unset, .unset, .unset, .unset] d_code_301 rfl rfl ?_
        refine Go.iload (pc' := 305) W194 d_code_303 rfl rfl ?_
        refine Go.if_ne (pc' := 308) W194 315 d_code_305 (by decide) rfl (fun _ => ?_) (fun q => absurd q (by decide))
        refine Go.iload (pc' := 317) W194 d_code_315 rfl rfl ?_
        refine Go.iconst (pc' := 318) W194 (1 : Int32) d_code_317 (by decide) rfl ?_
        refine Go.icmp_ne (pc' := 321) W194 330 d_code_318 (by decide) rfl (fun _ => ?_) (fun q => absurd q (by decide))
        refine Go.iload (pc' := 332) W194 d_code_330 rfl rfl ?_
        refine Go.iconst (pc' := 333) W194 (2 : Int32) d_code_332 (by decide) rfl ?_
        refine Go.icmp_ne (pc' := 336) W194 345 d_code_333 (by decide) rfl (fun q => absurd (by decide) q) (fun _ => ?_)
        refine Go.iload (pc' := 338) W194 d_code_336 rfl rfl ?_
        refine Go.iconst (pc' := 339) W194 (1 : Int32) d_code_338 (by decide) rfl ?_
        refine Go.iadd (pc' := 340) W194 d_code_339 rfl ?_
        rw [show ((10 : Int32) + (1 : Int32) : Int32) = (11 : Int32) from by decide]
        refine Go.istore (pc' := 342) W194 #[.val (.int sel), .val (.int pos), .val (.int chi), .val (.int ext), .val (.int mode), .val (.int (2 : Int32)), .val (.int (ext &&& (255 : Int32))), .val (.int (((ext.toUInt32 >>> ((8 : Int32) &&& 31).toUInt32).toInt32) &&& (255 : Int32))), .val (.ref a138), .val (.int (10 : Int32)), .val (.int (2 : Int32)), .val (.int (11 : Int32)), .unset, .unset, .unset] d_code_340 rfl rfl ?_
        refine Go.goto W194 348 d_code_342 (by decide) ?_
        exact rm_tail_L G sel pos chi ext mode (2 : Int32) (ext &&& (255 : Int32)) (((ext.toUInt32 >>> ((8 : Int32) &&& 31).toUInt32).toInt32) &&& (255 : Int32)) (10 : Int32) (2 : Int32) adA adB adC adD adE adF adG adH adI adJ ceA ceB ceC ceD ceE ceF ceG ceH ceI ceJ hzA obA fdA hzB obB arA hzC obC fdC hzD obD fdE hzE slA hzF hzG slB hzH hzI slC hzJ stA stB stC stD em cem hzem obem fdem stem a138 c195 xa xb xc xd xe xf xg xh xi xj xk xl h197 A196 W194
      · refine Go.istore (pc' := 303) W194 #[.val (.int sel), .val (.int pos), .val (.int chi), .val (.int ext), .val (.int mode), .val (.int (2 : Int32)), .val (.int (ext &&& (255 : Int32))), .val (.int (((ext.toUInt32 >>> ((8 : Int32) &&& 31).toUInt32).toInt32) &&& (255 : Int32))), .val (.ref a138), .val (.int (10 : Int32)), .val (.int (3 : Int32)), .unset, .unset, .unset, .unset] d_code_301 rfl rfl ?_
        refine Go.iload (pc' := 305) W194 d_code_303 rfl rfl ?_
        refine Go.if_ne (pc' := 308) W194 315 d_code_305 (by decide) rfl (fun _ => ?_) (fun q => absurd q (by decide))
        refine Go.iload (pc' := 317) W194 d_code_315 rfl rfl ?_
        refine Go.iconst (pc' := 318) W194 (1 : Int32) d_code_317 (by decide) rfl ?_
        refine Go.icmp_ne (pc' := 321) W194 330 d_code_318 (by decide) rfl (fun _ => ?_) (fun q => absurd q (by decide))
        refine Go.iload (pc' := 332) W194 d_code_330 rfl rfl ?_
        refine Go.iconst (pc' := 333) W194 (2 : Int32) d_code_332 (by decide) rfl ?_
        refine Go.icmp_ne (pc' := 336) W194 345 d_code_333 (by decide) rfl (fun _ => ?_) (fun q => absurd q (by decide))
        refine Go.iconst (pc' := 346) W194 (0 : Int32) d_code_345 (by decide) rfl ?_
        refine Go.istore (pc' := 348) W194 #[.val (.int sel), .val (.int pos), .val (.int chi), .val (.int ext), .val (.int mode), .val (.int (2 : Int32)), .val (.int (ext &&& (255 : Int32))), .val (.int (((ext.toUInt32 >>> ((8 : Int32) &&& 31).toUInt32).toInt32) &&& (255 : Int32))), .val (.ref a138), .val (.int (10 : Int32)), .val (.int (3 : Int32)), .val (.int (0 : Int32)), .unset, .unset, .unset] d_code_346 rfl rfl ?_
        exact rm_tail_A G sel pos chi ext mode (2 : Int32) (ext &&& (255 : Int32)) (((ext.toUInt32 >>> ((8 : Int32) &&& 31).toUInt32).toInt32) &&& (255 : Int32)) (10 : Int32) (3 : Int32) adA adB adC adD adE adF adG adH adI adJ ceA ceB ceC ceD ceE ceF ceG ceH ceI ceJ hzA obA fdA hzB obB arA hzC obC fdC hzD obD fdE hzE slA hzF hzG slB hzH hzI slC hzJ stA stB stC stD em cem hzem obem fdem stem a138 c195 xa xb xc xd xe xf xg xh xi xj xk xl h197 A196 W194
set_option maxRecDepth 65536 in
set_option maxHeartbeats 40000000 in
theorem comes_1 {Post : Tables → Env → Array Value → State → Outcome → State → Prop} (hpost : ∀ tb e args s v u, (limb_1_1.after args s (.returned v) u = true ∧ limb_1_2.after args s (.returned v) u = true ∧ True) → ReturnedEndW s (.returned v) u (Jvm.fieldLocs frame_1_writes args s ++ Jvm.arrayLocs frame_1_arrays args s ++ Jvm.staticLocs frame_1_statics s) 32 4288 → Post tb e args s (.returned v) u) :
    ArmFor flags0 classFile x code maxLocals ret World_1 tables_1 room_1 Calls_1 rest_1 Pre_1 Post := by
  intro l hfl _ _ p e ha hc hk s m args below hf hA hF happ hP
  obtain ⟨hcalls, hrest, hpre⟩ := hP
  obtain ⟨-, -, -, hnamed, -, -, -, hat⟩ := (Spec.applies_iff hf).mp happ
  obtain ⟨hg, hn⟩ := and_e (Cond.before_iff.mp (show (Jvm.Cond.and given_1 narrow_1).before args s = true from hpre))
  obtain ⟨g0, h0⟩ := and_e hg
  obtain ⟨g1, h1⟩ := and_e h0
  obtain ⟨g2, h2⟩ := and_e h1
  obtain ⟨g3, h3⟩ := and_e h2
  obtain ⟨g4, h4⟩ := and_e h3
  have g5 := h4
  obtain ⟨w0, w1, w2, w3, w4, rfl⟩ : ∃ w0 w1 w2 w3 w4 : Value, args = #[w0, w1, w2, w3, w4] := by
    have hs : args.size = 5 := by simpa [Cond.value, given_1] using g0
    obtain ⟨L⟩ := args
    match L, hs with
    | [w0, w1, w2, w3, w4], _ => exact ⟨w0, w1, w2, w3, w4, rfl⟩
  have hw := fun d (hd : d ∈ tables_1) => atoms_spec (ws := Jvm.Cond.code x code maxLocals ret :: tables_1) hat d (List.mem_cons_of_mem _ hd)
  obtain ⟨hsets, hown0⟩ := atoms_of _ (rest_1_c_eq ▸ (show rest_1_c.before _ s = true from hrest))
  have hfit : Fit s := fun {y c} hc i hi => by
    obtain ⟨ha, rfl⟩ := Array.getElem?_eq_some_iff.mp hc
    have q := List.all_eq_true.mp ((Array.all_eq_true_iff_forall_mem.mp hF) _ (Array.getElem_mem ha)) i (List.mem_range.mpr hi)
    simpa [Array.getElem?_eq_getElem hi] using q
  obtain ⟨i0, e0⟩ := is_v g1
  obtain rfl : w0 = (.int i0) := Option.some.inj e0
  obtain ⟨i1, e1⟩ := is_v g2
  obtain rfl : w1 = (.int i1) := Option.some.inj e1
  obtain ⟨i2, e2⟩ := is_v g3
  obtain rfl : w2 = (.int i2) := Option.some.inj e2
  obtain ⟨i3, e3⟩ := is_v g4
  obtain rfl : w3 = (.int i3) := Option.some.inj e3
  obtain ⟨i4, e4⟩ := is_v g5
  obtain rfl : w4 = (.int i4) := Option.some.inj e4
  have n5 := not_v (Cond.before_iff.mp (hsets _ (List.mem_of_getElem? (i := 2) rfl)))
  obtain ⟨icv, ecv⟩ := is_v (Cond.before_iff.mp (hsets _ (List.mem_of_getElem? (i := 1) rfl)))
  have Scv : Sta s s.heap "java/lang/String" "COMPACT_STRINGS" "Z" (.int icv) := Sta.start ecv (Or.inl (hsets _ (List.mem_of_getElem? (i := 0) rfl)))
  have ccv : ¬ (icv = (0 : Int32)) := gotF (Cond.eq_ints ecv (Term.int_eval (0))) n5
  have hEL : EW s _ EL1 := (EW.cons (text := "/api/v2/bmc") (hw _ (List.mem_of_getElem? (l := tables_1) (i := 35) rfl)) (by decide +kernel) (EW.cons (text := "/api/v2/zec") (hw _ (List.mem_of_getElem? (l := tables_1) (i := 102) rfl)) (by decide +kernel) (EW.cons (text := "/api/v2/vm") (hw _ (List.mem_of_getElem? (l := tables_1) (i := 103) rfl)) (by decide +kernel) (EW.cons (text := "") (hw _ (List.mem_of_getElem? (l := tables_1) (i := 101) rfl)) (by decide +kernel) EW.nil))))
  obtain ⟨moA, nxA⟩ := and_e hn
  obtain ⟨moB, nxB⟩ := and_e nxA
  obtain ⟨moC, nxC⟩ := and_e nxB
  obtain ⟨moD, nxD⟩ := and_e nxC
  obtain ⟨moE, nxE⟩ := and_e nxD
  obtain ⟨moF, nxF⟩ := and_e nxE
  obtain ⟨moG, nxG⟩ := and_e nxF
  obtain ⟨moH, nxH⟩ := and_e nxG
  obtain ⟨moI, nxI⟩ := and_e nxH
  obtain ⟨moJ, nxJ⟩ := and_e nxI
  obtain ⟨moK, nxK⟩ := and_e nxJ
  obtain ⟨moL, nxL⟩ := and_e nxK
  obtain ⟨moM, nxM⟩ := and_e nxL
  obtain ⟨moN, nxN⟩ := and_e nxM
  obtain ⟨moO, nxO⟩ := and_e nxN
  obtain ⟨moP, nxP⟩ := and_e nxO
  obtain ⟨moQ, nxQ⟩ := and_e nxP
  obtain ⟨moR, nxR⟩ := and_e nxQ
  obtain ⟨moS, nxS⟩ := and_e nxR
  obtain ⟨moT, nxT⟩ := and_e nxS
  obtain ⟨moU, nxU⟩ := and_e nxT
  obtain ⟨moV, nxV⟩ := and_e nxU
  obtain ⟨moW, nxW⟩ := and_e nxV
  obtain ⟨moX, nxX⟩ := and_e nxW
  obtain ⟨moY, nxY⟩ := and_e nxX
  obtain ⟨moZ, nxZ⟩ := and_e nxY
  obtain ⟨moAA, nxAA⟩ := and_e nxZ
  obtain ⟨moAB, nxAB⟩ := and_e nxAA
  obtain ⟨moAC, nxAC⟩ := and_e nxAB
  obtain ⟨moAD, nxAD⟩ := and_e nxAC
  obtain ⟨moAE, nxAE⟩ := and_e nxAD
  obtain ⟨moAF, nxAF⟩ := and_e nxAE
  obtain ⟨moAG, nxAG⟩ := and_e nxAF
  obtain ⟨moAH, nxAH⟩ := and_e nxAG
  obtain ⟨moAI, nxAI⟩ := and_e nxAH
  obtain ⟨moAJ, nxAJ⟩ := and_e nxAI
  obtain ⟨moAK, nxAK⟩ := and_e nxAJ
  obtain ⟨moAL, nxAL⟩ := and_e nxAK
  obtain ⟨moAM, nxAM⟩ := and_e nxAL
  obtain ⟨moAN, nxAN⟩ := and_e nxAM
  obtain ⟨moAO, nxAO⟩ := and_e nxAN
  obtain ⟨moAP, nxAP⟩ := and_e nxAO
  obtain ⟨moAQ, nxAQ⟩ := and_e nxAP
  obtain ⟨moAR, nxAR⟩ := and_e nxAQ
  obtain ⟨moAS, nxAS⟩ := and_e nxAR
  obtain ⟨moAT, nxAT⟩ := and_e nxAS
  obtain ⟨moAU, nxAU⟩ := and_e nxAT
  obtain ⟨moAV, nxAV⟩ := and_e nxAU
  obtain ⟨moAW, nxAW⟩ := and_e nxAV
  obtain ⟨moAX, nxAX⟩ := and_e nxAW
  obtain ⟨moAY, nxAY⟩ := and_e nxAX
  obtain ⟨moAZ, nxAZ⟩ := and_e nxAY
  have moBA := nxAZ
  obtain ⟨adA, ceA, evA, hzA, obA⟩ := objC_start moA
  obtain ⟨adB, ceB, evB, hzB, obB⟩ := objC_start moC
  obtain ⟨adC, ceC, evC, hzC, obC⟩ := objC_start moF
  obtain ⟨adD, ceD, evD, hzD, obD⟩ := objC_start moH
  obtain ⟨adE, ceE, evE, hzE, obE⟩ := objC_start moJ
  obtain ⟨adF, evF⟩ := arr_v moL
  obtain ⟨ceF, akF⟩ := Arr.start evF moL
  have hzF := akF.1
  obtain ⟨adG, ceG, evG, hzG, obG⟩ := objC_start moN
  obtain ⟨adH, evH⟩ := arr_v moP
  obtain ⟨ceH, akH⟩ := Arr.start evH moP
  have hzH := akH.1
  obtain ⟨adI, ceI, evI, hzI, obI⟩ := objC_start moR
  obtain ⟨adJ, evJ⟩ := arr_v moT
  obtain ⟨ceJ, akJ⟩ := Arr.start evJ moT
  have hzJ := akJ.1
  have stA : Sta s s.heap "com/example/upfront_quote/upfrontquote/ProductLine" "BMC" "Lcom/example/upfront_quote/upfrontquote/ProductLine;" (.ref adA) := Sta.start evA (Or.inr ⟨hw _ (List.mem_of_getElem? (l := tables_1) (i := 49) rfl), hw _ (List.mem_of_getElem? (l := tables_1) (i := 50) rfl)⟩)
  have stB : Sta s s.heap "com/example/upfront_quote/upfrontquote/ProductLine" "$VALUES" "[Lcom/example/upfront_quote/upfrontquote/ProductLine;" (.ref adB) := Sta.start evB (Or.inr ⟨hw _ (List.mem_of_getElem? (l := tables_1) (i := 49) rfl), hw _ (List.mem_of_getElem? (l := tables_1) (i := 58) rfl)⟩)
  have stC : Sta s s.heap "com/example/upfront_quote/upfrontquote/ProductLine" "ZEC" "Lcom/example/upfront_quote/upfrontquote/ProductLine;" (.ref adC) := Sta.start evC (Or.inr ⟨hw _ (List.mem_of_getElem? (l := tables_1) (i := 49) rfl), hw _ (List.mem_of_getElem? (l := tables_1) (i := 66) rfl)⟩)
  have stD : Sta s s.heap "com/example/upfront_quote/upfrontquote/ProductLine" "VM" "Lcom/example/upfront_quote/upfrontquote/ProductLine;" (.ref adD) := Sta.start evD (Or.inr ⟨hw _ (List.mem_of_getElem? (l := tables_1) (i := 49) rfl), hw _ (List.mem_of_getElem? (l := tables_1) (i := 67) rfl)⟩)
  have fdA : FldC s ceA "com/example/upfront_quote/upfrontquote/ProductLine" "path" "Ljava/lang/String;" (.ref adE) := fldC_start evA hzA evE
  have fdB : FldC s ceE "java/lang/String" "value" "[B" (.ref adF) := fldC_start evE hzE evF
  have fdC : FldC s ceC "com/example/upfront_quote/upfrontquote/ProductLine" "path" "Ljava/lang/String;" (.ref adG) := fldC_start evC hzC evG
  have fdD : FldC s ceG "java/lang/String" "value" "[B" (.ref adH) := fldC_start evG hzG evH
  have fdE : FldC s ceD "com/example/upfront_quote/upfrontquote/ProductLine" "path" "Ljava/lang/String;" (.ref adI) := fldC_start evD hzD evI
  have fdF : FldC s ceI "java/lang/String" "value" "[B" (.ref adJ) := fldC_start evI hzI evJ
  have fdG : FldC s ceE "java/lang/String" "coder" "B" (.int (0 : Int32)) := fldC_start evE hzE (eqI moK)
  have fdH : FldC s ceG "java/lang/String" "coder" "B" (.int (0 : Int32)) := fldC_start evG hzG (eqI moO)
  have fdI : FldC s ceI "java/lang/String" "coder" "B" (.int (0 : Int32)) := fldC_start evI hzI (eqI moS)
  have arA : ArrC s ceB (.object "com/example/upfront_quote/upfrontquote/ProductLine") [(.ref adA), (.ref adC), (.ref adD)] := arrC_start hfit evB hzB moB (eqI moD) _ rfl (by simp) ⟨eqR moE evA, eqR moG evC, eqR moI evD, trivial⟩
  have arB : ArrC s ceF .byte [(.int (47 : Int32)), (.int (97 : Int32)), (.int (112 : Int32)), (.int (105 : Int32)), (.int (47 : Int32)), (.int (118 : Int32)), (.int (50 : Int32)), (.int (47 : Int32)), (.int (98 : Int32)), (.int (109 : Int32)), (.int (99 : Int32))] := arrC_start hfit evF hzF moL (eqI moM) _ rfl (by simp) ⟨eqI moV, eqI moW, eqI moX, eqI moY, eqI moZ, eqI moAA, eqI moAB, eqI moAC, eqI moAD, eqI moAE, eqI moAF, trivial⟩
  have arC : ArrC s ceH .byte [(.int (47 : Int32)), (.int (97 : Int32)), (.int (112 : Int32)), (.int (105 : Int32)), (.int (47 : Int32)), (.int (118 : Int32)), (.int (50 : Int32)), (.int (47 : Int32)), (.int (122 : Int32)), (.int (101 : Int32)), (.int (99 : Int32))] := arrC_start hfit evH hzH moP (eqI moQ) _ rfl (by simp) ⟨eqI moAG, eqI moAH, eqI moAI, eqI moAJ, eqI moAK, eqI moAL, eqI moAM, eqI moAN, eqI moAO, eqI moAP, eqI moAQ, trivial⟩
  have arD : ArrC s ceJ .byte [(.int (47 : Int32)), (.int (97 : Int32)), (.int (112 : Int32)), (.int (105 : Int32)), (.int (47 : Int32)), (.int (118 : Int32)), (.int (50 : Int32)), (.int (47 : Int32)), (.int (118 : Int32)), (.int (109 : Int32))] := arrC_start hfit evJ hzJ moT (eqI moU) _ rfl (by simp) ⟨eqI moAR, eqI moAS, eqI moAT, eqI moAU, eqI moAV, eqI moAW, eqI moAX, eqI moAY, eqI moAZ, eqI moBA, trivial⟩
  have slA : StrL s ceE adF ceF [(47 : Int32), (97 : Int32), (112 : Int32), (105 : Int32), (47 : Int32), (118 : Int32), (50 : Int32), (47 : Int32), (98 : Int32), (109 : Int32), (99 : Int32)] := ⟨obE, fdG, fdB, (by rw [show latB [(47 : Int32), (97 : Int32), (112 : Int32), (105 : Int32), (47 : Int32), (118 : Int32), (50 : Int32), (47 : Int32), (98 : Int32), (109 : Int32), (99 : Int32)] = [(.int (47 : Int32)), (.int (97 : Int32)), (.int (112 : Int32)), (.int (105 : Int32)), (.int (47 : Int32)), (.int (118 : Int32)), (.int (50 : Int32)), (.int (47 : Int32)), (.int (98 : Int32)), (.int (109 : Int32)), (.int (99 : Int32))] from by decide +kernel]; exact arB), (by decide +kernel : ∀ x ∈ ([(47 : Int32), (97 : Int32), (112 : Int32), (105 : Int32), (47 : Int32), (118 : Int32), (50 : Int32), (47 : Int32), (98 : Int32), (109 : Int32), (99 : Int32)] : List Int32), ¬ x < 0 ∧ ¬ (255 : Int32) < x)⟩
  have slB : StrL s ceG adH ceH [(47 : Int32), (97 : Int32), (112 : Int32), (105 : Int32), (47 : Int32), (118 : Int32), (50 : Int32), (47 : Int32), (122 : Int32), (101 : Int32), (99 : Int32)] := ⟨obG, fdH, fdD, (by rw [show latB [(47 : Int32), (97 : Int32), (112 : Int32), (105 : Int32), (47 : Int32), (118 : Int32), (50 : Int32), (47 : Int32), (122 : Int32), (101 : Int32), (99 : Int32)] = [(.int (47 : Int32)), (.int (97 : Int32)), (.int (112 : Int32)), (.int (105 : Int32)), (.int (47 : Int32)), (.int (118 : Int32)), (.int (50 : Int32)), (.int (47 : Int32)), (.int (122 : Int32)), (.int (101 : Int32)), (.int (99 : Int32))] from by decide +kernel]; exact arC), (by decide +kernel : ∀ x ∈ ([(47 : Int32), (97 : Int32), (112 : Int32), (105 : Int32), (47 : Int32), (118 : Int32), (50 : Int32), (47 : Int32), (122 : Int32), (101 : Int32), (99 : Int32)] : List Int32), ¬ x < 0 ∧ ¬ (255 : Int32) < x)⟩
  have slC : StrL s ceI adJ ceJ [(47 : Int32), (97 : Int32), (112 : Int32), (105 : Int32), (47 : Int32), (118 : Int32), (50 : Int32), (47 : Int32), (118 : Int32), (109 : Int32)] := ⟨obI, fdI, fdF, (by rw [show latB [(47 : Int32), (97 : Int32), (112 : Int32), (105 : Int32), (47 : Int32), (118 : Int32), (50 : Int32), (47 : Int32), (118 : Int32), (109 : Int32)] = [(.int (47 : Int32)), (.int (97 : Int32)), (.int (112 : Int32)), (.int (105 : Int32)), (.int (47 : Int32)), (.int (118 : Int32)), (.int (50 : Int32)), (.int (47 : Int32)), (.int (118 : Int32)), (.int (109 : Int32))] from by decide +kernel]; exact arD), (by decide +kernel : ∀ x ∈ ([(47 : Int32), (97 : Int32), (112 : Int32), (105 : Int32), (47 : Int32), (118 : Int32), (50 : Int32), (47 : Int32), (118 : Int32), (109 : Int32)] : List Int32), ¬ x < 0 ∧ ¬ (255 : Int32) < x)⟩
  obtain ⟨em, cem, evem, hzem, obem⟩ := objC_start (Cond.before_iff.mp (hsets _ (List.mem_of_getElem? (i := 11) rfl)))
  have fdem : FldC s cem "java/util/Optional" "value" "Ljava/lang/Object;" .null := fldC_start evem hzem (null_v (Cond.before_iff.mp (hsets _ (List.mem_of_getElem? (i := 12) rfl))))
  have stem : Sta s s.heap "java/util/Optional" "EMPTY" "Ljava/util/Optional;" (.ref em) := Sta.start evem (Or.inl (hsets _ (List.mem_of_getElem? (i := 10) rfl)))
  obtain ⟨vfm, efm, rfm⟩ := isR_v (Cond.before_iff.mp (hsets _ (List.mem_of_getElem? (i := 8) rfl)))
  have Sfm : Sta s s.heap "jdk/internal/util/Preconditions" "SIOOBE_FORMATTER" "Ljava/util/function/BiFunction;" vfm := Sta.start efm (Or.inl (hsets _ (List.mem_of_getElem? (i := 7) rfl)))
  have G : Cl s _ := ⟨hw, hEL, ⟨icv, Scv, ccv⟩, ⟨vfm, Sfm, rfm⟩, trivial⟩
  have hCH : CHv s EL1 s.vm s.heap := CHv.start hEL (fun p hp => hcalls.1 p hp) (hsets _ (List.mem_of_getElem? (i := 2) rfl)) (w_24 G) (w_7 G)
  have H0 : Hp s EL1 [] [] s [] [] s.vm s.heap := ⟨CHr.refl hCH, (fun _ q => nomatch q), (fun _ q => nomatch q), List.nodup_nil, (fun _ q => nomatch q), (fun _ q => nomatch q), (fun _ _ q _ => q), Nat.le_refl _, fun _ _ q => q⟩
  have happ' : (head1 [Jvm.Cond.code x code maxLocals ret] room_1).appliesLoose x e.platform s = true := by
    obtain ⟨q1, q2, q3, q4, q5, q6, q7, q8⟩ := (Spec.appliesLoose_iff hf).mp ((Spec.applies_iff_loose hf).mp happ).1
    refine (Spec.appliesLoose_iff hf).mpr ⟨q1, q2, q3, q4, q5, q6, q7, ?_⟩
    show (Jvm.Cond.and _ .tt).before _ s = true
    rw [Cond.before_and, atoms_spec (ws := Jvm.Cond.code x code maxLocals ret :: tables_1) hat _ (List.mem_cons_self ..)]; rfl
  obtain ⟨n, o, h1, h2, h3, v, σ, ρ, L, rfl, rfl, N, -, hq⟩ := rm_law G i0 i1 i2 i3 i4 adA adB adC adD adE adF adG adH adI adJ ceA ceB ceC ceD ceE ceF ceG ceH ceI ceJ hzA obA fdA hzB obB arA hzC obC fdC hzD obD fdE hzE slA hzF hzG slB hzH hzI slC hzJ stA stB stC stD em cem hzem obem fdem stem p e ha hc hk s m _ below hf happ' ⟨rfl, State.Warmed39.refl s, H0⟩ trivial
  refine ⟨n, _, h1, h2, h3, hpost _ _ _ _ _ _ ⟨Cond.after_iff.mpr rfl, Cond.after_iff.mpr (eq_i res_at (Term.int_eval (1)) rfl), trivial⟩ ⟨hq.1, hq.2.1, hq.2.2.1, (hq.2.2.2.sift fun y hy => Or.inr (N y hy)).mono (by decide) (by decide)⟩⟩
theorem main_1_1 : Claimed_1_1 := comes_1 fun _ _ _ _ _ _ h hF => ⟨h.1, hF⟩
theorem main_1_2 : Claimed_1_2 := comes_1 fun _ _ _ _ _ _ h hF => ⟨h.2.1, hF⟩
end Jvm.Pilot.@@N@@
namespace Jvm.Pilot.@@N@@
open Jvm Jvm.ClassFile Sem Op Lib Jvm.Free Jvm.Stand Jvm.Pilot.@@N@@.Jvm.D
/-! MADE BY PROGRAM (witnessworld.py) out of the Statement's table words and the real class files: 24 classes; the members and pool entries that the words name. The judged class is class 1, her method 2. -/
namespace start1
open Jvm.ClassFile
def u (s : String) : CpInfo := .utf8 (stringToUtf16 s)
/-- a pool by its gaps: so many unusable entries, then the entry; so many at the end -/
def gap : Nat → List CpInfo → List CpInfo
  | 0, r => r
  | n + 1, r => .unusable :: gap n r
def poolList (es : List (Nat × CpInfo)) (last : Nat) : List CpInfo := es.foldr (fun e r => gap e.1 (e.2 :: r)) (gap last [])
def pool (es : List (Nat × CpInfo)) (last : Nat) : Array CpInfo := ⟨poolList es last⟩
def fileOf (pool : Array CpInfo) (this : Nat) (attrs : Array Attribute := #[]) (ms : Array MethodInfo := #[]) (fl : Nat := 33) (sup : Nat := 0) (ifs : Array Nat := #[]) (fds : Array FieldInfo := #[]) : ClassFile where
  minorVersion := 0
  majorVersion := 65
  constantPool := pool
  accessFlags := fl
  thisClass := this
  superClass := sup
  interfaces := ifs
  fields := fds
  methods := ms
  attributes := attrs
def plain (name : String) (sup : Option ClassId) : Class where
  name := name
  kind := .ordinary
  loader := none
  accessFlags := 33
  super := sup
  interfaces := #[]
  cf := none
  fields := #[]
  methods := #[]
  instanceTypes := #[]
  staticTypes := #[]
  resolved := #[]
  callSites := []
  init := .initialized
  statics := none
  mirror := none

def pool0 : Array CpInfo := pool [(5, u "<init>"), (0, u "()V"), (1, .class_ 10), (1, u "java/lang/Object"), (85, u "clone"), (0, u "()Ljava/lang/Object;")] 26

def k0c0 : Code := { maxStack := 0, maxLocals := 1, code := object_method_1_code, exceptionTable := #[], attributes := #[] }
def k0m0 : Method := { name := "<init>", desc := "()V", sig := { parameters := [], returnType := none }, accessFlags := 1, code := some k0c0 }
def k0m1 : Method := { name := "clone", desc := "()Ljava/lang/Object;", sig := { parameters := [], returnType := some (.object "java/lang/Object") }, accessFlags := 260, code := none }
/-- java/lang/Object -/
def k0 : Class := { plain "java/lang/Object" none with
  accessFlags := 33
  interfaces := #[]
  cf := some (fileOf pool0 8 #[] #[{ accessFlags := 1, nameIndex := 5, descriptorIndex := 6, attributes := #[] }, { accessFlags := 260, nameIndex := 96, descriptorIndex := 97, attributes := #[] }] 33 0 #[] #[])
  fields := #[]
  methods := #[k0m0, k0m1]
  instanceTypes := #[]
  staticTypes := #[]
  resolved := Array.replicate 124 none
  statics := none }

def pool1 : Array CpInfo := pool [(2, .class_ 4), (1, u "java/lang/Object"), (0, u "<init>"), (0, u "()V"), (0, .class_ 8), (0, u "java/lang/String"), (0, .methodref 7 10), (0, .nameAndType 5 11), (0, u "([C)V"), (0, .integer 2147483647), (0, .methodref 14 15), (0, .class_ 16), (0, .nameAndType 17 18), (0, u "com/example/upfront_quote/upfrontquote/ProductLineServedOnPinLaw"), (0, u "cut"), (0, u "([CI)Ljava/lang/String;"), (0, .string 20), (0, u "/api/v2/bmc"), (0, .methodref 7 22), (0, .nameAndType 23 24), (0, u "equals"), (0, u "(Ljava/lang/Object;)Z"), (0, .fieldref 26 27), (0, .class_ 28), (0, .nameAndType 29 30), (0, u "com/example/upfront_quote/upfrontquote/ProductLine"), (0, u "BMC"), (0, u "Lcom/example/upfront_quote/upfrontquote/ProductLine;"), (0, .string 32), (0, u "/api/v2/zec"), (0, .fieldref 26 34), (0, .nameAndType 35 30), (0, u "ZEC"), (0, .string 37), (0, u "/api/v2/vm"), (0, .fieldref 26 39), (0, .nameAndType 40 30), (0, u "VM"), (0, .methodref 26 42), (0, .nameAndType 43 44), (0, u "servedOn"), (0, u "(Ljava/lang/String;)Ljava/util/Optional;"), (0, .methodref 46 47), (0, .class_ 48), (0, .nameAndType 49 50), (0, u "java/util/Optional"), (0, u "isPresent"), (0, u "()Z"), (0, .methodref 46 52), (0, .nameAndType 53 54), (0, u "get"), (0, u "()Ljava/lang/Object;"), (3, u "law"), (0, u "(IIIII)Z")] 4

def k1m0 : Method := { name := "<init>", desc := "()V", sig := { parameters := [], returnType := none }, accessFlags := 2, code := none }
def k1c1 : Code := { maxStack := 7, maxLocals := 2, code := method_2_code, exceptionTable := #[], attributes := #[] }
def k1m1 : Method := { name := "cut", desc := "([CI)Ljava/lang/String;", sig := { parameters := [(.array .char), .int], returnType := some (.object "java/lang/String") }, accessFlags := 10, code := some k1c1 }
def k1c2 : Code := { maxStack := 4, maxLocals := 15, code := code, exceptionTable := #[], attributes := #[] }
def k1m2 : Method := { name := "law", desc := "(IIIII)Z", sig := { parameters := [.int, .int, .int, .int, .int], returnType := some .boolean }, accessFlags := 9, code := some k1c2 }
/-- com/example/upfront_quote/upfrontquote/ProductLineServedOnPinLaw -/
def k1 : Class := { plain "com/example/upfront_quote/upfrontquote/ProductLineServedOnPinLaw" (some 0) with
  accessFlags := 49
  interfaces := #[]
  cf := some (fileOf pool1 14 #[] #[{ accessFlags := 2, nameIndex := 5, descriptorIndex := 6, attributes := #[] }, { accessFlags := 10, nameIndex := 17, descriptorIndex := 18, attributes := #[] }, { accessFlags := 9, nameIndex := 58, descriptorIndex := 59, attributes := #[] }] 49 2 #[] #[])
  fields := #[]
  methods := #[k1m0, k1m1, k1m2]
  instanceTypes := #[]
  staticTypes := #[]
  resolved := Array.replicate 64 none
  statics := none }

def pool2 : Array CpInfo := pool [(1, .class_ 2), (0, u "java/io/Serializable"), (0, .class_ 4), (0, u "java/lang/Object")] 2

/-- java/io/Serializable -/
def k2 : Class := { plain "java/io/Serializable" (some 0) with
  accessFlags := 1537
  interfaces := #[]
  cf := some (fileOf pool2 1 #[] #[] 1537 3 #[] #[])
  fields := #[]
  methods := #[]
  instanceTypes := #[]
  staticTypes := #[]
  resolved := Array.replicate 7 none
  statics := none }

def pool3 : Array CpInfo := pool [(1, .class_ 2), (0, u "java/lang/Comparable"), (0, .class_ 4), (0, u "java/lang/Object")] 7

/-- java/lang/Comparable -/
def k3 : Class := { plain "java/lang/Comparable" (some 0) with
  accessFlags := 1537
  interfaces := #[]
  cf := some (fileOf pool3 1 #[] #[] 1537 3 #[] #[])
  fields := #[]
  methods := #[]
  instanceTypes := #[]
  staticTypes := #[]
  resolved := Array.replicate 12 none
  statics := none }

def pool4 : Array CpInfo := pool [(2, .class_ 4), (1, u "java/lang/CharSequence"), (42, .class_ 48), (0, u "java/lang/CharSequence$1CodePointIterator"), (10, .class_ 60), (0, u "java/lang/CharSequence$1CharIterator"), (5, .class_ 67), (0, u "java/lang/Object")] 63

/-- java/lang/CharSequence -/
def k4 : Class := { plain "java/lang/CharSequence" (some 0) with
  accessFlags := 1537
  interfaces := #[]
  cf := some (fileOf pool4 2 #[.nestMembers #[47, 59]] #[] 1537 66 #[] #[])
  fields := #[]
  methods := #[]
  instanceTypes := #[]
  staticTypes := #[]
  resolved := Array.replicate 131 none
  statics := none }

def pool5 : Array CpInfo := pool [(1, .class_ 2), (0, u "java/lang/constant/Constable"), (0, .class_ 4), (0, u "java/lang/Object")] 6

/-- java/lang/constant/Constable -/
def k5 : Class := { plain "java/lang/constant/Constable" (some 0) with
  accessFlags := 1537
  interfaces := #[]
  cf := some (fileOf pool5 1 #[] #[] 1537 3 #[] #[])
  fields := #[]
  methods := #[]
  instanceTypes := #[]
  staticTypes := #[]
  resolved := Array.replicate 11 none
  statics := none }

def pool6 : Array CpInfo := pool [(1, .class_ 2), (0, u "java/lang/constant/ConstantDesc"), (0, .class_ 4), (0, u "java/lang/Object")] 32

/-- java/lang/constant/ConstantDesc -/
def k6 : Class := { plain "java/lang/constant/ConstantDesc" (some 0) with
  accessFlags := 1537
  interfaces := #[]
  cf := some (fileOf pool6 1 #[] #[] 1537 3 #[] #[])
  fields := #[]
  methods := #[]
  instanceTypes := #[]
  staticTypes := #[]
  resolved := Array.replicate 37 none
  statics := none }

def pool7 : Array CpInfo := pool [(1, .methodref 2 3), (0, .class_ 4), (0, .nameAndType 5 6), (0, u "java/lang/Object"), (0, u "<init>"), (0, u "()V"), (0, .string 8), (0, u ""), (0, .fieldref 10 11), (0, .class_ 12), (0, .nameAndType 13 14), (0, u "java/lang/String"), (0, u "value"), (0, u "[B"), (0, .fieldref 10 16), (0, .nameAndType 17 18), (0, u "coder"), (0, u "B"), (2, u "hash"), (0, u "I"), (2, u "hashIsZero"), (0, u "Z"), (0, .methodref 10 28), (0, .nameAndType 5 29), (0, u "([CIILjava/lang/Void;)V"), (8, .fieldref 10 39), (0, .nameAndType 40 26), (0, u "COMPACT_STRINGS"), (1, .class_ 44), (1, u "java/lang/StringUTF16"), (0, u "compress"), (1, .methodref 42 48), (0, .nameAndType 49 50), (0, u "coderFromArrayLen"), (0, u "([BI)B"), (56, .class_ 109), (1, u "java/lang/StringLatin1"), (67, .methodref 42 178), (0, .nameAndType 45 179), (0, u "([CII)[B"), (361, .methodref 107 542), (0, .nameAndType 543 544), (0, u "equals"), (0, u "([B[B)Z"), (28, u "(Ljava/lang/Object;)Z"), (1, .class_ 576), (0, u "java/lang/CharSequence"), (22, u "CASE_INSENSITIVE_ORDER"), (0, u "Ljava/util/Comparator;"), (409, u "([C)V"), (90, u "serialPersistentFields"), (0, u "[Ljava/io/ObjectStreamField;"), (0, .class_ 1104), (0, u "java/lang/String$CaseInsensitiveComparator"), (1, .class_ 1107), (0, u "java/io/Serializable"), (0, .class_ 1109), (0, u "java/lang/Comparable"), (0, .class_ 1111), (0, u "java/lang/constant/Constable"), (0, .class_ 1113), (0, u "java/lang/constant/ConstantDesc"), (2, u "serialVersionUID"), (0, u "J"), (3, u "REPL"), (0, u "C"), (2, u "LATIN1"), (1, u "UTF16")] 323

def k7m0 : Method := { name := "<init>", desc := "()V", sig := { parameters := [], returnType := none }, accessFlags := 1, code := none }
def k7c1 : Code := { maxStack := 5, maxLocals := 2, code := jdk_42_method_3_code, exceptionTable := #[], attributes := #[] }
def k7m1 : Method := { name := "<init>", desc := "([C)V", sig := { parameters := [(.array .char)], returnType := none }, accessFlags := 1, code := some k7c1 }
def k7c2 : Code := { maxStack := 2, maxLocals := 3, code := jdk_42_method_66_code, exceptionTable := #[], attributes := #[] }
def k7m2 : Method := { name := "equals", desc := "(Ljava/lang/Object;)Z", sig := { parameters := [(.object "java/lang/Object")], returnType := some .boolean }, accessFlags := 1, code := some k7c2 }
def k7c3 : Code := { maxStack := 4, maxLocals := 6, code := jdk_42_method_149_code, exceptionTable := #[], attributes := #[] }
def k7m3 : Method := { name := "<init>", desc := "([CIILjava/lang/Void;)V", sig := { parameters := [(.array .char), .int, .int, (.object "java/lang/Void")], returnType := none }, accessFlags := 2, code := some k7c3 }
/-- java/lang/String -/
def k7 : Class := { plain "java/lang/String" (some 0) with
  accessFlags := 49
  interfaces := #[2, 3, 4, 5, 6]
  cf := some (fileOf pool7 10 #[.nestMembers #[1103]] #[{ accessFlags := 1, nameIndex := 5, descriptorIndex := 6, attributes := #[] }, { accessFlags := 1, nameIndex := 5, descriptorIndex := 1010, attributes := #[] }, { accessFlags := 1, nameIndex := 543, descriptorIndex := 573, attributes := #[] }, { accessFlags := 2, nameIndex := 5, descriptorIndex := 29, attributes := #[] }] 49 2 #[1106, 1108, 575, 1110, 1112] #[{ accessFlags := 18, nameIndex := 13, descriptorIndex := 14, attributes := #[] }, { accessFlags := 18, nameIndex := 17, descriptorIndex := 18, attributes := #[] }, { accessFlags := 2, nameIndex := 21, descriptorIndex := 22, attributes := #[] }, { accessFlags := 2, nameIndex := 25, descriptorIndex := 26, attributes := #[] }, { accessFlags := 26, nameIndex := 1116, descriptorIndex := 1117, attributes := #[] }, { accessFlags := 24, nameIndex := 40, descriptorIndex := 26, attributes := #[] }, { accessFlags := 26, nameIndex := 1101, descriptorIndex := 1102, attributes := #[] }, { accessFlags := 26, nameIndex := 1121, descriptorIndex := 1122, attributes := #[] }, { accessFlags := 25, nameIndex := 599, descriptorIndex := 600, attributes := #[] }, { accessFlags := 24, nameIndex := 1125, descriptorIndex := 18, attributes := #[] }, { accessFlags := 24, nameIndex := 1127, descriptorIndex := 18, attributes := #[] }])
  fields := #[{ name := "value", type := (.array .byte), accessFlags := 18, slot := 0, constantValue := 0 }, { name := "coder", type := .byte, accessFlags := 18, slot := 1, constantValue := 0 }, { name := "hash", type := .int, accessFlags := 2, slot := 2, constantValue := 0 }, { name := "hashIsZero", type := .boolean, accessFlags := 2, slot := 3, constantValue := 0 }, { name := "serialVersionUID", type := .long, accessFlags := 26, slot := 0, constantValue := 0 }, { name := "COMPACT_STRINGS", type := .boolean, accessFlags := 24, slot := 1, constantValue := 0 }, { name := "serialPersistentFields", type := (.array (.object "java/io/ObjectStreamField")), accessFlags := 26, slot := 2, constantValue := 0 }, { name := "REPL", type := .char, accessFlags := 26, slot := 3, constantValue := 0 }, { name := "CASE_INSENSITIVE_ORDER", type := (.object "java/util/Comparator"), accessFlags := 25, slot := 4, constantValue := 0 }, { name := "LATIN1", type := .byte, accessFlags := 24, slot := 5, constantValue := 0 }, { name := "UTF16", type := .byte, accessFlags := 24, slot := 6, constantValue := 0 }]
  methods := #[k7m0, k7m1, k7m2, k7m3]
  instanceTypes := #[(.array .byte), .byte, .int, .boolean]
  staticTypes := #[.long, .boolean, (.array (.object "java/io/ObjectStreamField")), .char, (.object "java/util/Comparator"), .byte, .byte]
  resolved := Array.replicate 1451 none
  statics := some 0 }

def pool8 : Array CpInfo := pool [(6, .class_ 8), (1, u "java/lang/Object"), (0, u "<init>"), (0, u "()V"), (1, .class_ 14), (1, u "java/lang/StringUTF16"), (31, u "$assertionsDisabled"), (0, u "Z"), (13, u "HI_BYTE_SHIFT"), (0, u "I"), (2, u "LO_BYTE_SHIFT"), (49, .methodref 12 116), (0, .nameAndType 117 118), (0, u "compress"), (0, u "([CI[BII)I"), (3, u "([CII)[B"), (138, u "coderFromArrayLen"), (0, u "([BI)B"), (106, .class_ 371), (1, u "java/lang/StringUTF16$LinesSpliterator"), (58, u "MAX_LENGTH"), (196, .class_ 628), (0, u "java/lang/StringUTF16$CodePointsSpliterator"), (0, .class_ 630), (0, u "java/lang/StringUTF16$CharsSpliterator")] 4

def k8m0 : Method := { name := "<init>", desc := "()V", sig := { parameters := [], returnType := none }, accessFlags := 0, code := none }
def k8c1 : Code := { maxStack := 2, maxLocals := 2, code := jdk_52_method_15_code, exceptionTable := #[], attributes := #[] }
def k8m1 : Method := { name := "coderFromArrayLen", desc := "([BI)B", sig := { parameters := [(.array .byte), .int], returnType := some .byte }, accessFlags := 8, code := some k8c1 }
def k8c2 : Code := { maxStack := 5, maxLocals := 6, code := jdk_52_method_16_code, exceptionTable := #[], attributes := #[] }
def k8m2 : Method := { name := "compress", desc := "([CII)[B", sig := { parameters := [(.array .char), .int, .int], returnType := some (.array .byte) }, accessFlags := 9, code := some k8c2 }
def k8c3 : Code := { maxStack := 3, maxLocals := 7, code := jdk_52_method_21_code, exceptionTable := #[], attributes := #[] }
def k8m3 : Method := { name := "compress", desc := "([CI[BII)I", sig := { parameters := [(.array .char), .int, (.array .byte), .int, .int], returnType := some .int }, accessFlags := 9, code := some k8c3 }
/-- java/lang/StringUTF16 -/
def k8 : Class := { plain "java/lang/StringUTF16" (some 0) with
  accessFlags := 48
  interfaces := #[]
  cf := some (fileOf pool8 12 #[.nestMembers #[627, 629, 369]] #[{ accessFlags := 0, nameIndex := 9, descriptorIndex := 10, attributes := #[] }, { accessFlags := 8, nameIndex := 261, descriptorIndex := 262, attributes := #[] }, { accessFlags := 9, nameIndex := 117, descriptorIndex := 122, attributes := #[] }, { accessFlags := 9, nameIndex := 117, descriptorIndex := 118, attributes := #[] }] 48 6 #[] #[{ accessFlags := 26, nameIndex := 61, descriptorIndex := 62, attributes := #[] }, { accessFlags := 26, nameIndex := 65, descriptorIndex := 62, attributes := #[] }, { accessFlags := 24, nameIndex := 430, descriptorIndex := 62, attributes := #[] }, { accessFlags := 4120, nameIndex := 46, descriptorIndex := 47, attributes := #[] }])
  fields := #[{ name := "HI_BYTE_SHIFT", type := .int, accessFlags := 26, slot := 0, constantValue := 0 }, { name := "LO_BYTE_SHIFT", type := .int, accessFlags := 26, slot := 1, constantValue := 0 }, { name := "MAX_LENGTH", type := .int, accessFlags := 24, slot := 2, constantValue := 0 }, { name := "$assertionsDisabled", type := .boolean, accessFlags := 4120, slot := 3, constantValue := 0 }]
  methods := #[k8m0, k8m1, k8m2, k8m3]
  instanceTypes := #[]
  staticTypes := #[.int, .int, .int, .boolean]
  resolved := Array.replicate 635 none
  statics := none }

def pool9 : Array CpInfo := pool [(4, .class_ 6), (1, u "java/lang/Object"), (0, u "<init>"), (0, u "()V"), (5, .class_ 16), (1, u "java/lang/StringLatin1"), (104, u "$assertionsDisabled"), (0, u "Z"), (98, .class_ 223), (1, u "java/lang/StringLatin1$LinesSpliterator"), (57, u "equals"), (0, u "([B[B)Z"), (107, .class_ 391), (0, u "java/lang/StringLatin1$CharsSpliterator")] 3

def k9m0 : Method := { name := "<init>", desc := "()V", sig := { parameters := [], returnType := none }, accessFlags := 0, code := none }
def k9c1 : Code := { maxStack := 3, maxLocals := 3, code := jdk_43_method_13_code, exceptionTable := #[], attributes := #[] }
def k9m1 : Method := { name := "equals", desc := "([B[B)Z", sig := { parameters := [(.array .byte), (.array .byte)], returnType := some .boolean }, accessFlags := 9, code := some k9c1 }
/-- java/lang/StringLatin1 -/
def k9 : Class := { plain "java/lang/StringLatin1" (some 0) with
  accessFlags := 48
  interfaces := #[]
  cf := some (fileOf pool9 14 #[.nestMembers #[390, 221]] #[{ accessFlags := 0, nameIndex := 7, descriptorIndex := 8, attributes := #[] }, { accessFlags := 9, nameIndex := 281, descriptorIndex := 282, attributes := #[] }] 48 4 #[] #[{ accessFlags := 4120, nameIndex := 121, descriptorIndex := 122, attributes := #[] }])
  fields := #[{ name := "$assertionsDisabled", type := .boolean, accessFlags := 4120, slot := 0, constantValue := 0 }]
  methods := #[k9m0, k9m1]
  instanceTypes := #[]
  staticTypes := #[.boolean]
  resolved := Array.replicate 395 none
  statics := none }

def pool10 : Array CpInfo := pool [(2, .class_ 4), (1, u "java/lang/Enum"), (0, u "name"), (0, u "Ljava/lang/String;"), (2, u "ordinal"), (0, u "I"), (1, .class_ 14), (1, u "java/lang/Object"), (4, u "hash"), (86, .class_ 108), (1, u "java/lang/Enum$EnumDesc"), (2, .class_ 112), (0, u "java/lang/constant/Constable"), (0, .class_ 114), (0, u "java/lang/Comparable"), (0, .class_ 116), (0, u "java/io/Serializable")] 87

/-- java/lang/Enum -/
def k10 : Class := { plain "java/lang/Enum" (some 0) with
  accessFlags := 1057
  interfaces := #[5, 3, 2]
  cf := some (fileOf pool10 2 #[.nestMembers #[106]] #[] 1057 12 #[111, 113, 115] #[{ accessFlags := 18, nameIndex := 5, descriptorIndex := 6, attributes := #[] }, { accessFlags := 18, nameIndex := 9, descriptorIndex := 10, attributes := #[] }, { accessFlags := 2, nameIndex := 19, descriptorIndex := 10, attributes := #[] }])
  fields := #[{ name := "name", type := (.object "java/lang/String"), accessFlags := 18, slot := 0, constantValue := 0 }, { name := "ordinal", type := .int, accessFlags := 18, slot := 1, constantValue := 0 }, { name := "hash", type := .int, accessFlags := 2, slot := 2, constantValue := 0 }]
  methods := #[]
  instanceTypes := #[(.object "java/lang/String"), .int, .int]
  staticTypes := #[]
  resolved := Array.replicate 204 none
  statics := none }

def pool11 : Array CpInfo := pool [(1, .class_ 2), (0, u "com/example/upfront_quote/upfrontquote/ProductLine"), (2, u "BMC"), (0, u "Lcom/example/upfront_quote/upfrontquote/ProductLine;"), (2, u "ZEC"), (2, u "VM"), (0, .fieldref 1 14), (0, .nameAndType 15 16), (0, u "$VALUES"), (0, u "[Lcom/example/upfront_quote/upfrontquote/ProductLine;"), (0, .methodref 18 19), (0, .class_ 16), (0, .nameAndType 20 21), (0, u "clone"), (0, u "()Ljava/lang/Object;"), (1, .class_ 25), (1, u "java/lang/Enum"), (6, .fieldref 1 33), (0, .nameAndType 34 35), (0, u "path"), (0, u "Ljava/lang/String;"), (0, .methodref 1 37), (0, .nameAndType 38 39), (0, u "values"), (0, u "()[Lcom/example/upfront_quote/upfrontquote/ProductLine;"), (0, .methodref 41 42), (0, .class_ 43), (0, .nameAndType 44 45), (0, u "java/lang/String"), (0, u "equals"), (0, u "(Ljava/lang/Object;)Z"), (0, .methodref 47 48), (0, .class_ 49), (0, .nameAndType 50 51), (0, u "java/util/Optional"), (0, u "of"), (0, u "(Ljava/lang/Object;)Ljava/util/Optional;"), (0, .methodref 47 53), (0, .nameAndType 54 55), (0, u "empty"), (0, u "()Ljava/util/Optional;"), (21, u "servedOn"), (0, u "(Ljava/lang/String;)Ljava/util/Optional;")] 8

def k11c0 : Code := { maxStack := 1, maxLocals := 0, code := prog_17_method_1_code, exceptionTable := #[], attributes := #[] }
def k11m0 : Method := { name := "values", desc := "()[Lcom/example/upfront_quote/upfrontquote/ProductLine;", sig := { parameters := [], returnType := some (.array (.object "com/example/upfront_quote/upfrontquote/ProductLine")) }, accessFlags := 9, code := some k11c0 }
def k11c1 : Code := { maxStack := 2, maxLocals := 5, code := prog_17_method_4_code, exceptionTable := #[], attributes := #[] }
def k11m1 : Method := { name := "servedOn", desc := "(Ljava/lang/String;)Ljava/util/Optional;", sig := { parameters := [(.object "java/lang/String")], returnType := some (.object "java/util/Optional") }, accessFlags := 9, code := some k11c1 }
/-- com/example/upfront_quote/upfrontquote/ProductLine -/
def k11 : Class := { plain "com/example/upfront_quote/upfrontquote/ProductLine" (some 10) with
  accessFlags := 16433
  interfaces := #[]
  cf := some (fileOf pool11 1 #[] #[{ accessFlags := 9, nameIndex := 38, descriptorIndex := 39, attributes := #[] }, { accessFlags := 9, nameIndex := 77, descriptorIndex := 78, attributes := #[] }] 16433 23 #[] #[{ accessFlags := 16409, nameIndex := 5, descriptorIndex := 6, attributes := #[] }, { accessFlags := 16409, nameIndex := 9, descriptorIndex := 6, attributes := #[] }, { accessFlags := 16409, nameIndex := 12, descriptorIndex := 6, attributes := #[] }, { accessFlags := 18, nameIndex := 34, descriptorIndex := 35, attributes := #[] }, { accessFlags := 4122, nameIndex := 15, descriptorIndex := 16, attributes := #[] }])
  fields := #[{ name := "BMC", type := (.object "com/example/upfront_quote/upfrontquote/ProductLine"), accessFlags := 16409, slot := 0, constantValue := 0 }, { name := "ZEC", type := (.object "com/example/upfront_quote/upfrontquote/ProductLine"), accessFlags := 16409, slot := 1, constantValue := 0 }, { name := "VM", type := (.object "com/example/upfront_quote/upfrontquote/ProductLine"), accessFlags := 16409, slot := 2, constantValue := 0 }, { name := "path", type := (.object "java/lang/String"), accessFlags := 18, slot := 3, constantValue := 0 }, { name := "$VALUES", type := (.array (.object "com/example/upfront_quote/upfrontquote/ProductLine")), accessFlags := 4122, slot := 3, constantValue := 0 }]
  methods := #[k11m0, k11m1]
  instanceTypes := #[(.object "java/lang/String"), .int, .int, (.object "java/lang/String")]
  staticTypes := #[(.object "com/example/upfront_quote/upfrontquote/ProductLine"), (.object "com/example/upfront_quote/upfrontquote/ProductLine"), (.object "com/example/upfront_quote/upfrontquote/ProductLine"), (.array (.object "com/example/upfront_quote/upfrontquote/ProductLine"))]
  resolved := Array.replicate 87 none
  statics := some 1 }

def pool12 : Array CpInfo := pool [(1, .class_ 2), (0, u "java/lang/Cloneable"), (0, .class_ 4), (0, u "java/lang/Object")] 2

/-- java/lang/Cloneable -/
def k12 : Class := { plain "java/lang/Cloneable" (some 0) with
  accessFlags := 1537
  interfaces := #[]
  cf := some (fileOf pool12 1 #[] #[] 1537 3 #[] #[])
  fields := #[]
  methods := #[]
  instanceTypes := #[]
  staticTypes := #[]
  resolved := Array.replicate 7 none
  statics := none }

def pool13 : Array CpInfo := pool [(1, .fieldref 2 3), (0, .class_ 4), (0, .nameAndType 5 6), (0, u "java/util/Optional"), (0, u "EMPTY"), (0, u "Ljava/util/Optional;"), (0, .methodref 8 9), (0, .class_ 10), (0, .nameAndType 11 12), (0, u "java/lang/Object"), (0, u "<init>"), (0, u "()V"), (0, .fieldref 2 14), (0, .nameAndType 15 16), (0, u "value"), (0, u "Ljava/lang/Object;"), (0, .methodref 18 19), (0, .class_ 20), (0, .nameAndType 21 22), (0, u "java/util/Objects"), (0, u "requireNonNull"), (0, u "(Ljava/lang/Object;)Ljava/lang/Object;"), (0, .methodref 2 24), (0, .nameAndType 11 25), (0, u "(Ljava/lang/Object;)V"), (20, u "()Z"), (8, u "empty"), (0, u "()Ljava/util/Optional;"), (8, u "(Ljava/lang/Object;)Ljava/util/Optional;"), (2, u "isPresent"), (4, u "get"), (0, u "()Ljava/lang/Object;"), (7, u "of")] 104

def k13c0 : Code := { maxStack := 1, maxLocals := 1, code := jdk_32_method_1_code, exceptionTable := #[], attributes := #[] }
def k13m0 : Method := { name := "empty", desc := "()Ljava/util/Optional;", sig := { parameters := [], returnType := some (.object "java/util/Optional") }, accessFlags := 9, code := some k13c0 }
def k13c1 : Code := { maxStack := 2, maxLocals := 2, code := jdk_32_method_2_code, exceptionTable := #[], attributes := #[] }
def k13m1 : Method := { name := "<init>", desc := "(Ljava/lang/Object;)V", sig := { parameters := [(.object "java/lang/Object")], returnType := none }, accessFlags := 2, code := some k13c1 }
def k13c2 : Code := { maxStack := 3, maxLocals := 1, code := jdk_32_method_3_code, exceptionTable := #[], attributes := #[] }
def k13m2 : Method := { name := "of", desc := "(Ljava/lang/Object;)Ljava/util/Optional;", sig := { parameters := [(.object "java/lang/Object")], returnType := some (.object "java/util/Optional") }, accessFlags := 9, code := some k13c2 }
def k13c3 : Code := { maxStack := 3, maxLocals := 1, code := jdk_32_method_5_code, exceptionTable := #[], attributes := #[] }
def k13m3 : Method := { name := "get", desc := "()Ljava/lang/Object;", sig := { parameters := [], returnType := some (.object "java/lang/Object") }, accessFlags := 1, code := some k13c3 }
def k13c4 : Code := { maxStack := 1, maxLocals := 1, code := jdk_32_method_6_code, exceptionTable := #[], attributes := #[] }
def k13m4 : Method := { name := "isPresent", desc := "()Z", sig := { parameters := [], returnType := some .boolean }, accessFlags := 1, code := some k13c4 }
/-- java/util/Optional -/
def k13 : Class := { plain "java/util/Optional" (some 0) with
  accessFlags := 49
  interfaces := #[]
  cf := some (fileOf pool13 2 #[] #[{ accessFlags := 9, nameIndex := 55, descriptorIndex := 56, attributes := #[] }, { accessFlags := 2, nameIndex := 11, descriptorIndex := 25, attributes := #[] }, { accessFlags := 9, nameIndex := 82, descriptorIndex := 65, attributes := #[] }, { accessFlags := 1, nameIndex := 73, descriptorIndex := 74, attributes := #[] }, { accessFlags := 1, nameIndex := 68, descriptorIndex := 46, attributes := #[] }] 49 8 #[] #[{ accessFlags := 26, nameIndex := 5, descriptorIndex := 6, attributes := #[] }, { accessFlags := 18, nameIndex := 15, descriptorIndex := 16, attributes := #[] }])
  fields := #[{ name := "EMPTY", type := (.object "java/util/Optional"), accessFlags := 26, slot := 0, constantValue := 0 }, { name := "value", type := (.object "java/lang/Object"), accessFlags := 18, slot := 0, constantValue := 0 }]
  methods := #[k13m0, k13m1, k13m2, k13m3, k13m4]
  instanceTypes := #[(.object "java/lang/Object")]
  staticTypes := #[(.object "java/util/Optional")]
  resolved := Array.replicate 187 none
  statics := some 2 }

def pool14 : Array CpInfo := pool [(2, .class_ 4), (1, u "java/lang/Object"), (0, u "<init>"), (0, u "()V"), (35, .class_ 44), (1, u "java/util/Objects"), (0, u "requireNonNull"), (0, u "(Ljava/lang/Object;)Ljava/lang/Object;")] 137

def k14m0 : Method := { name := "<init>", desc := "()V", sig := { parameters := [], returnType := none }, accessFlags := 2, code := none }
def k14c1 : Code := { maxStack := 2, maxLocals := 1, code := jdk_31_method_10_code, exceptionTable := #[], attributes := #[] }
def k14m1 : Method := { name := "requireNonNull", desc := "(Ljava/lang/Object;)Ljava/lang/Object;", sig := { parameters := [(.object "java/lang/Object")], returnType := some (.object "java/lang/Object") }, accessFlags := 9, code := some k14c1 }
/-- java/util/Objects -/
def k14 : Class := { plain "java/util/Objects" (some 0) with
  accessFlags := 49
  interfaces := #[]
  cf := some (fileOf pool14 42 #[] #[{ accessFlags := 2, nameIndex := 5, descriptorIndex := 6, attributes := #[] }, { accessFlags := 9, nameIndex := 45, descriptorIndex := 46, attributes := #[] }] 49 2 #[] #[])
  fields := #[]
  methods := #[k14m0, k14m1]
  instanceTypes := #[]
  staticTypes := #[]
  resolved := Array.replicate 184 none
  statics := none }

def pool15 : Array CpInfo := pool [(2, .class_ 4), (1, u "java/lang/Object"), (0, u "<init>"), (0, u "()V"), (17, .class_ 26), (1, u "jdk/internal/util/Preconditions"), (28, .class_ 56), (0, u "jdk/internal/util/Preconditions$4"), (57, .class_ 115), (0, u "jdk/internal/util/Preconditions$1"), (7, u "SIOOBE_FORMATTER"), (0, u "Ljava/util/function/BiFunction;"), (0, .class_ 126), (0, u "jdk/internal/util/Preconditions$2"), (3, u "AIOOBE_FORMATTER"), (0, .class_ 132), (0, u "jdk/internal/util/Preconditions$3"), (3, u "IOOBE_FORMATTER")] 57

def k15m0 : Method := { name := "<init>", desc := "()V", sig := { parameters := [], returnType := none }, accessFlags := 1, code := none }
/-- jdk/internal/util/Preconditions -/
def k15 : Class := { plain "jdk/internal/util/Preconditions" (some 0) with
  accessFlags := 33
  interfaces := #[]
  cf := some (fileOf pool15 24 #[.nestMembers #[55, 131, 125, 114]] #[{ accessFlags := 1, nameIndex := 5, descriptorIndex := 6, attributes := #[] }] 33 2 #[] #[{ accessFlags := 25, nameIndex := 123, descriptorIndex := 124, attributes := #[] }, { accessFlags := 25, nameIndex := 130, descriptorIndex := 124, attributes := #[] }, { accessFlags := 25, nameIndex := 136, descriptorIndex := 124, attributes := #[] }])
  fields := #[{ name := "SIOOBE_FORMATTER", type := (.object "java/util/function/BiFunction"), accessFlags := 25, slot := 0, constantValue := 0 }, { name := "AIOOBE_FORMATTER", type := (.object "java/util/function/BiFunction"), accessFlags := 25, slot := 1, constantValue := 0 }, { name := "IOOBE_FORMATTER", type := (.object "java/util/function/BiFunction"), accessFlags := 25, slot := 2, constantValue := 0 }]
  methods := #[k15m0]
  instanceTypes := #[]
  staticTypes := #[(.object "java/util/function/BiFunction"), (.object "java/util/function/BiFunction"), (.object "java/util/function/BiFunction")]
  resolved := Array.replicate 194 none
  statics := some 3 }

def pool16 : Array CpInfo := pool [(9, u "<init>"), (6, .class_ 18), (1, u "java/lang/Object"), (0, u "()V"), (1, .class_ 23), (1, u "jdk/internal/util/ArraysSupport"), (0, u "LOG2_ARRAY_LONG_INDEX_SCALE"), (0, u "I"), (2, u "U"), (0, u "Ljdk/internal/misc/Unsafe;"), (8, u "BIG_ENDIAN"), (0, u "Z"), (8, u "LOG2_BYTE_BIT_SIZE"), (4, u "LOG2_ARRAY_INT_INDEX_SCALE"), (54, u "JLA"), (0, u "Ljdk/internal/access/JavaLangAccess;"), (11, u "LOG2_ARRAY_BOOLEAN_INDEX_SCALE"), (9, u "LOG2_ARRAY_BYTE_INDEX_SCALE"), (5, u "LOG2_ARRAY_CHAR_INDEX_SCALE"), (5, u "LOG2_ARRAY_SHORT_INDEX_SCALE"), (18, u "LOG2_ARRAY_FLOAT_INDEX_SCALE"), (24, u "LOG2_ARRAY_DOUBLE_INDEX_SCALE"), (89, u "T_BOOLEAN"), (2, u "T_CHAR"), (1, u "T_FLOAT"), (1, u "T_DOUBLE"), (1, u "T_BYTE"), (1, u "T_SHORT"), (1, u "T_INT"), (1, u "T_LONG"), (1, u "SOFT_MAX_ARRAY_LENGTH")] 83

def k16m0 : Method := { name := "<init>", desc := "()V", sig := { parameters := [], returnType := none }, accessFlags := 2, code := none }
/-- jdk/internal/util/ArraysSupport -/
def k16 : Class := { plain "jdk/internal/util/ArraysSupport" (some 0) with
  accessFlags := 33
  interfaces := #[]
  cf := some (fileOf pool16 21 #[] #[{ accessFlags := 2, nameIndex := 9, descriptorIndex := 19, attributes := #[] }] 33 16 #[] #[{ accessFlags := 24, nameIndex := 28, descriptorIndex := 29, attributes := #[] }, { accessFlags := 26, nameIndex := 38, descriptorIndex := 39, attributes := #[] }, { accessFlags := 25, nameIndex := 121, descriptorIndex := 25, attributes := #[] }, { accessFlags := 25, nameIndex := 131, descriptorIndex := 25, attributes := #[] }, { accessFlags := 25, nameIndex := 137, descriptorIndex := 25, attributes := #[] }, { accessFlags := 25, nameIndex := 143, descriptorIndex := 25, attributes := #[] }, { accessFlags := 25, nameIndex := 53, descriptorIndex := 25, attributes := #[] }, { accessFlags := 25, nameIndex := 24, descriptorIndex := 25, attributes := #[] }, { accessFlags := 25, nameIndex := 162, descriptorIndex := 25, attributes := #[] }, { accessFlags := 25, nameIndex := 187, descriptorIndex := 25, attributes := #[] }, { accessFlags := 26, nameIndex := 48, descriptorIndex := 25, attributes := #[] }, { accessFlags := 25, nameIndex := 277, descriptorIndex := 25, attributes := #[] }, { accessFlags := 25, nameIndex := 280, descriptorIndex := 25, attributes := #[] }, { accessFlags := 25, nameIndex := 282, descriptorIndex := 25, attributes := #[] }, { accessFlags := 25, nameIndex := 284, descriptorIndex := 25, attributes := #[] }, { accessFlags := 25, nameIndex := 286, descriptorIndex := 25, attributes := #[] }, { accessFlags := 25, nameIndex := 288, descriptorIndex := 25, attributes := #[] }, { accessFlags := 25, nameIndex := 290, descriptorIndex := 25, attributes := #[] }, { accessFlags := 25, nameIndex := 292, descriptorIndex := 25, attributes := #[] }, { accessFlags := 26, nameIndex := 108, descriptorIndex := 109, attributes := #[] }, { accessFlags := 25, nameIndex := 294, descriptorIndex := 25, attributes := #[] }])
  fields := #[{ name := "U", type := (.object "jdk/internal/misc/Unsafe"), accessFlags := 24, slot := 0, constantValue := 0 }, { name := "BIG_ENDIAN", type := .boolean, accessFlags := 26, slot := 1, constantValue := 0 }, { name := "LOG2_ARRAY_BOOLEAN_INDEX_SCALE", type := .int, accessFlags := 25, slot := 2, constantValue := 0 }, { name := "LOG2_ARRAY_BYTE_INDEX_SCALE", type := .int, accessFlags := 25, slot := 3, constantValue := 0 }, { name := "LOG2_ARRAY_CHAR_INDEX_SCALE", type := .int, accessFlags := 25, slot := 4, constantValue := 0 }, { name := "LOG2_ARRAY_SHORT_INDEX_SCALE", type := .int, accessFlags := 25, slot := 5, constantValue := 0 }, { name := "LOG2_ARRAY_INT_INDEX_SCALE", type := .int, accessFlags := 25, slot := 6, constantValue := 0 }, { name := "LOG2_ARRAY_LONG_INDEX_SCALE", type := .int, accessFlags := 25, slot := 7, constantValue := 0 }, { name := "LOG2_ARRAY_FLOAT_INDEX_SCALE", type := .int, accessFlags := 25, slot := 8, constantValue := 0 }, { name := "LOG2_ARRAY_DOUBLE_INDEX_SCALE", type := .int, accessFlags := 25, slot := 9, constantValue := 0 }, { name := "LOG2_BYTE_BIT_SIZE", type := .int, accessFlags := 26, slot := 10, constantValue := 0 }, { name := "T_BOOLEAN", type := .int, accessFlags := 25, slot := 11, constantValue := 0 }, { name := "T_CHAR", type := .int, accessFlags := 25, slot := 12, constantValue := 0 }, { name := "T_FLOAT", type := .int, accessFlags := 25, slot := 13, constantValue := 0 }, { name := "T_DOUBLE", type := .int, accessFlags := 25, slot := 14, constantValue := 0 }, { name := "T_BYTE", type := .int, accessFlags := 25, slot := 15, constantValue := 0 }, { name := "T_SHORT", type := .int, accessFlags := 25, slot := 16, constantValue := 0 }, { name := "T_INT", type := .int, accessFlags := 25, slot := 17, constantValue := 0 }, { name := "T_LONG", type := .int, accessFlags := 25, slot := 18, constantValue := 0 }, { name := "JLA", type := (.object "jdk/internal/access/JavaLangAccess"), accessFlags := 26, slot := 19, constantValue := 0 }, { name := "SOFT_MAX_ARRAY_LENGTH", type := .int, accessFlags := 25, slot := 20, constantValue := 0 }]
  methods := #[k16m0]
  instanceTypes := #[]
  staticTypes := #[(.object "jdk/internal/misc/Unsafe"), .boolean, .int, .int, .int, .int, .int, .int, .int, .int, .int, .int, .int, .int, .int, .int, .int, .int, .int, (.object "jdk/internal/access/JavaLangAccess"), .int]
  resolved := Array.replicate 378 none
  statics := none }

/-- the primitive byte -/
def k17 : Class := { plain "byte" none with kind := .primitive 'B', accessFlags := 0x411 }
/-- [B -/
def k18 : Class := { plain "[B" (some 0) with kind := .array 17 .byte, interfaces := #[12, 2], accessFlags := 1041 }

/-- the primitive char -/
def k19 : Class := { plain "char" none with kind := .primitive 'C', accessFlags := 0x411 }
/-- [C -/
def k20 : Class := { plain "[C" (some 0) with kind := .array 19 .char, interfaces := #[12, 2], accessFlags := 1041 }

/-- the primitive int -/
def k21 : Class := { plain "int" none with kind := .primitive 'I', accessFlags := 0x411 }
/-- [I -/
def k22 : Class := { plain "[I" (some 0) with kind := .array 21 .int, interfaces := #[12, 2], accessFlags := 1041 }

/-- [Lcom/example/upfront_quote/upfrontquote/ProductLine; -/
def k23 : Class := { plain "[Lcom/example/upfront_quote/upfrontquote/ProductLine;" (some 0) with kind := .array 11 (.object "com/example/upfront_quote/upfrontquote/ProductLine"), interfaces := #[12, 2], accessFlags := 1041 }

def heap : Heap := #[{ cls := 7, slots := #[.long 0, .int 1, .null, .int 0, .null, .int 0, .int 0], vm := .statics 7 },
  { cls := 11, slots := #[.ref 5, .ref 6, .ref 7, .ref 4], vm := .statics 11 },
  { cls := 13, slots := #[.ref 14], vm := .statics 13 },
  { cls := 15, slots := #[.null, .null, .null], vm := .statics 15 },
  { cls := 23, slots := #[.ref 5, .ref 6, .ref 7], vm := .none },
  { cls := 11, slots := #[.null, .int 0, .int 0, .ref 8], vm := .none },
  { cls := 11, slots := #[.null, .int 1, .int 0, .ref 9], vm := .none },
  { cls := 11, slots := #[.null, .int 2, .int 0, .ref 10], vm := .none },
  { cls := 7, slots := #[.ref 11, .int 0, .int 0, .int 0], vm := .none },
  { cls := 7, slots := #[.ref 12, .int 0, .int 0, .int 0], vm := .none },
  { cls := 7, slots := #[.ref 13, .int 0, .int 0, .int 0], vm := .none },
  { cls := 18, slots := #[.int 47, .int 97, .int 112, .int 105, .int 47, .int 118, .int 50, .int 47, .int 98, .int 109, .int 99], vm := .none },
  { cls := 18, slots := #[.int 47, .int 97, .int 112, .int 105, .int 47, .int 118, .int 50, .int 47, .int 122, .int 101, .int 99], vm := .none },
  { cls := 18, slots := #[.int 47, .int 97, .int 112, .int 105, .int 47, .int 118, .int 50, .int 47, .int 118, .int 109], vm := .none },
  { cls := 13, slots := #[.null], vm := .none }]
def classes : Array Class := #[k0, k1, k2, k3, k4, k5, k6, k7, k8, k9, k10, k11, k12, k13, k14, k15, k16, k17, k18, k19, k20, k21, k22, k23]
def interned : List (Array UInt16 × Addr) := []
def slotsUsed : Nat := 75
def theMethod : MethodId := ⟨1, 2⟩
def args0 : Array Value := #[.int 5, .int 5, .int 5, .int 5, .int 5]
def aboutOver (below : List Frame) : State where
  vm := { classes := classes, interned := interned.toArray }
  heap := heap
  slotsUsed := slotsUsed
  threads := #[{ frames := .invoking theMethod args0 :: below }]
def below0 : List Frame := [.native { method := ⟨0, 0⟩, args := #[] }]
def about1 : State := aboutOver below0
def p0 : Program := .bare "" "" ""
def e0 : Env := launch0.env 0 0 0
theorem w_frames : about1.frames = Frame.invoking theMethod args0 :: below0 := rfl
set_option maxRecDepth 65536 in
theorem w_args : argsFit about1.vm theMethod args0 = true := by decide +kernel
set_option maxRecDepth 65536 in
theorem w_heap : heapFits about1 = true := by decide +kernel
set_option maxRecDepth 65536 in
theorem w_runnable : about1.curStatus? = some .runnable := by decide +kernel
set_option maxRecDepth 65536 in
theorem w_alone : about1.alone = true := by decide +kernel
set_option maxRecDepth 65536 in
theorem w_named : about1.methodNamed? x = some theMethod := by decide +kernel
set_option maxRecDepth 65536 in
theorem w_hears : about1.hears theMethod below0 = true := by decide +kernel
set_option maxRecDepth 65536 in
theorem w_ripe : about1.ripe theMethod args0 below0 = true := by decide +kernel
theorem w_running : about1.status = .running := rfl
set_option maxRecDepth 65536 in
theorem w_room : about1.hasRoom e0.platform room_1 = true :=
  launch0.hasRoom_least _ room_1 (by decide +kernel) (by decide +kernel) (by decide +kernel) (by decide +kernel) (by decide +kernel) (by decide +kernel)
theorem allAtoms_all (ts : List Jvm.Cond) (a : Array Jvm.Value) (st : Jvm.State) : (allAtoms ts).before a st = ts.all (fun c => c.before a st) := by
  induction ts with
  | nil => rfl
  | cons c t ih =>
    show (Jvm.Cond.and c (allAtoms t)).before a st = _
    rw [Jvm.Cond.before_and, ih, List.all_cons]
def words1 : List Jvm.Cond := Jvm.Cond.code x code maxLocals ret :: tables_1
/-- a 'code' word, met by the world's own term for the bytes: nothing is compared byte by byte -/
theorem code_word {y : MethodName} {bytes : ByteArray} {mx : Nat} {rt : Option FieldType} {a : Array Value} {s : State} {m : MethodId} {meth : Method} {c : Code} (h1 : s.methodNamed? y = some m) (h2 : s.vm.method? m = some meth) (h3 : meth.code = some c) (h4 : c.code = bytes)
    (h5 : (c.maxLocals == mx && c.exceptionTable.isEmpty && decide (c.maxStack ≤ mostOperands) && decide (meth.sig.returnType = rt) && !meth.locks && decide (parseMethodDescriptor y.desc = some meth.sig)) = true) : (Jvm.Cond.code y bytes mx rt).before a s = true := by
  simp only [Bool.and_eq_true, beq_iff_eq, Bool.not_eq_true', decide_eq_true_eq] at h5
  obtain ⟨⟨⟨⟨⟨g1, g2⟩, g3⟩, g4⟩, g5⟩, g6⟩ := h5
  simp [Cond.before, Cond.holds, Cond.value, h1, h2, h3, h4, g1, g2, g3, g4, g5, g6]
def isCode : Jvm.Cond → Bool
  | .code _ _ _ _ => true
  | _ => false
theorem all_split {L : List Jvm.Cond} {P : Jvm.Cond → Bool} (h1 : L.all (fun c => isCode c || P c) = true) (h2 : ∀ c ∈ L.filter isCode, P c = true) : L.all P = true := by
  refine List.all_eq_true.mpr fun c hc => ?_
  have h := List.all_eq_true.mp h1 c hc
  rcases Bool.eq_false_or_eq_true (isCode c) with hi | hi
  · exact h2 c (List.mem_filter.mpr ⟨hc, hi⟩)
  · simpa [hi] using h
set_option maxRecDepth 65536 in
theorem w_c0 : (Jvm.Cond.code x code maxLocals ret).before args0 about1 = true := code_word (m := ⟨1, 2⟩) (meth := k1m2) (c := k1c2) (by decide +kernel) rfl rfl rfl (by decide +kernel)
set_option maxRecDepth 65536 in
theorem w_c1 : (Jvm.Cond.code ({ cls := "com/example/upfront_quote/upfrontquote/ProductLineServedOnPinLaw", name := "cut", desc := "([CI)Ljava/lang/String;" } : Jvm.MethodName) method_2_code (2 : Nat) (Option.some (Jvm.ClassFile.FieldType.object "java/lang/String"))).before args0 about1 = true := code_word (m := ⟨1, 1⟩) (meth := k1m1) (c := k1c1) (by decide +kernel) rfl rfl rfl (by decide +kernel)
set_option maxRecDepth 65536 in
theorem w_c2 : (Jvm.Cond.code ({ cls := "java/lang/String", name := "<init>", desc := "([C)V" } : Jvm.MethodName) jdk_42_method_3_code (2 : Nat) (Option.none : Option Jvm.ClassFile.FieldType)).before args0 about1 = true := code_word (m := ⟨7, 1⟩) (meth := k7m1) (c := k7c1) (by decide +kernel) rfl rfl rfl (by decide +kernel)
set_option maxRecDepth 65536 in
theorem w_c3 : (Jvm.Cond.code ({ cls := "java/lang/String", name := "<init>", desc := "([CIILjava/lang/Void;)V" } : Jvm.MethodName) jdk_42_method_149_code (6 : Nat) (Option.none : Option Jvm.ClassFile.FieldType)).before args0 about1 = true := code_word (m := ⟨7, 3⟩) (meth := k7m3) (c := k7c3) (by decide +kernel) rfl rfl rfl (by decide +kernel)
set_option maxRecDepth 65536 in
theorem w_c4 : (Jvm.Cond.code ({ cls := "java/lang/Object", name := "<init>", desc := "()V" } : Jvm.MethodName) object_method_1_code (1 : Nat) (Option.none : Option Jvm.ClassFile.FieldType)).before args0 about1 = true := code_word (m := ⟨0, 0⟩) (meth := k0m0) (c := k0c0) (by decide +kernel) rfl rfl rfl (by decide +kernel)
set_option maxRecDepth 65536 in
theorem w_c5 : (Jvm.Cond.code ({ cls := "java/lang/StringUTF16", name := "compress", desc := "([CII)[B" } : Jvm.MethodName) jdk_52_method_16_code (6 : Nat) (Option.some (Jvm.ClassFile.FieldType.array Jvm.ClassFile.FieldType.byte))).before args0 about1 = true := code_word (m := ⟨8, 2⟩) (meth := k8m2) (c := k8c2) (by decide +kernel) rfl rfl rfl (by decide +kernel)
set_option maxRecDepth 65536 in
theorem w_c6 : (Jvm.Cond.code ({ cls := "java/lang/StringUTF16", name := "compress", desc := "([CI[BII)I" } : Jvm.MethodName) jdk_52_method_21_code (7 : Nat) (Option.some Jvm.ClassFile.FieldType.int)).before args0 about1 = true := code_word (m := ⟨8, 3⟩) (meth := k8m3) (c := k8c3) (by decide +kernel) rfl rfl rfl (by decide +kernel)
set_option maxRecDepth 65536 in
theorem w_c7 : (Jvm.Cond.code ({ cls := "java/lang/StringUTF16", name := "coderFromArrayLen", desc := "([BI)B" } : Jvm.MethodName) jdk_52_method_15_code (2 : Nat) (Option.some Jvm.ClassFile.FieldType.byte)).before args0 about1 = true := code_word (m := ⟨8, 1⟩) (meth := k8m1) (c := k8c1) (by decide +kernel) rfl rfl rfl (by decide +kernel)
set_option maxRecDepth 65536 in
theorem w_c8 : (Jvm.Cond.code ({ cls := "java/lang/String", name := "equals", desc := "(Ljava/lang/Object;)Z" } : Jvm.MethodName) jdk_42_method_66_code (3 : Nat) (Option.some Jvm.ClassFile.FieldType.boolean)).before args0 about1 = true := code_word (m := ⟨7, 2⟩) (meth := k7m2) (c := k7c2) (by decide +kernel) rfl rfl rfl (by decide +kernel)
set_option maxRecDepth 65536 in
theorem w_c9 : (Jvm.Cond.code ({ cls := "java/lang/StringLatin1", name := "equals", desc := "([B[B)Z" } : Jvm.MethodName) jdk_43_method_13_code (3 : Nat) (Option.some Jvm.ClassFile.FieldType.boolean)).before args0 about1 = true := code_word (m := ⟨9, 1⟩) (meth := k9m1) (c := k9c1) (by decide +kernel) rfl rfl rfl (by decide +kernel)
set_option maxRecDepth 65536 in
theorem w_c10 : (Jvm.Cond.code ({ cls := "com/example/upfront_quote/upfrontquote/ProductLine", name := "servedOn", desc := "(Ljava/lang/String;)Ljava/util/Optional;" } : Jvm.MethodName) prog_17_method_4_code (5 : Nat) (Option.some (Jvm.ClassFile.FieldType.object "java/util/Optional"))).before args0 about1 = true := code_word (m := ⟨11, 1⟩) (meth := k11m1) (c := k11c1) (by decide +kernel) rfl rfl rfl (by decide +kernel)
set_option maxRecDepth 65536 in
theorem w_c11 : (Jvm.Cond.code ({ cls := "com/example/upfront_quote/upfrontquote/ProductLine", name := "values", desc := "()[Lcom/example/upfront_quote/upfrontquote/ProductLine;" } : Jvm.MethodName) prog_17_method_1_code (0 : Nat) (Option.some (Jvm.ClassFile.FieldType.array (Jvm.ClassFile.FieldType.object "com/example/upfront_quote/upfrontquote/ProductLine")))).before args0 about1 = true := code_word (m := ⟨11, 0⟩) (meth := k11m0) (c := k11c0) (by decide +kernel) rfl rfl rfl (by decide +kernel)
set_option maxRecDepth 65536 in
theorem w_c12 : (Jvm.Cond.code ({ cls := "java/util/Optional", name := "of", desc := "(Ljava/lang/Object;)Ljava/util/Optional;" } : Jvm.MethodName) jdk_32_method_3_code (1 : Nat) (Option.some (Jvm.ClassFile.FieldType.object "java/util/Optional"))).before args0 about1 = true := code_word (m := ⟨13, 2⟩) (meth := k13m2) (c := k13c2) (by decide +kernel) rfl rfl rfl (by decide +kernel)
set_option maxRecDepth 65536 in
theorem w_c13 : (Jvm.Cond.code ({ cls := "java/util/Objects", name := "requireNonNull", desc := "(Ljava/lang/Object;)Ljava/lang/Object;" } : Jvm.MethodName) jdk_31_method_10_code (1 : Nat) (Option.some (Jvm.ClassFile.FieldType.object "java/lang/Object"))).before args0 about1 = true := code_word (m := ⟨14, 1⟩) (meth := k14m1) (c := k14c1) (by decide +kernel) rfl rfl rfl (by decide +kernel)
set_option maxRecDepth 65536 in
theorem w_c14 : (Jvm.Cond.code ({ cls := "java/util/Optional", name := "<init>", desc := "(Ljava/lang/Object;)V" } : Jvm.MethodName) jdk_32_method_2_code (2 : Nat) (Option.none : Option Jvm.ClassFile.FieldType)).before args0 about1 = true := code_word (m := ⟨13, 1⟩) (meth := k13m1) (c := k13c1) (by decide +kernel) rfl rfl rfl (by decide +kernel)
set_option maxRecDepth 65536 in
theorem w_c15 : (Jvm.Cond.code ({ cls := "java/util/Optional", name := "isPresent", desc := "()Z" } : Jvm.MethodName) jdk_32_method_6_code (1 : Nat) (Option.some Jvm.ClassFile.FieldType.boolean)).before args0 about1 = true := code_word (m := ⟨13, 4⟩) (meth := k13m4) (c := k13c4) (by decide +kernel) rfl rfl rfl (by decide +kernel)
set_option maxRecDepth 65536 in
theorem w_c16 : (Jvm.Cond.code ({ cls := "java/util/Optional", name := "get", desc := "()Ljava/lang/Object;" } : Jvm.MethodName) jdk_32_method_5_code (1 : Nat) (Option.some (Jvm.ClassFile.FieldType.object "java/lang/Object"))).before args0 about1 = true := code_word (m := ⟨13, 3⟩) (meth := k13m3) (c := k13c3) (by decide +kernel) rfl rfl rfl (by decide +kernel)
set_option maxRecDepth 65536 in
theorem w_c17 : (Jvm.Cond.code ({ cls := "java/util/Optional", name := "empty", desc := "()Ljava/util/Optional;" } : Jvm.MethodName) jdk_32_method_1_code (1 : Nat) (Option.some (Jvm.ClassFile.FieldType.object "java/util/Optional"))).before args0 about1 = true := code_word (m := ⟨13, 0⟩) (meth := k13m0) (c := k13c0) (by decide +kernel) rfl rfl rfl (by decide +kernel)
def codes1 : List Jvm.Cond := [Jvm.Cond.code x code maxLocals ret, Jvm.Cond.code ({ cls := "com/example/upfront_quote/upfrontquote/ProductLineServedOnPinLaw", name := "cut", desc := "([CI)Ljava/lang/String;" } : Jvm.MethodName) method_2_code (2 : Nat) (Option.some (Jvm.ClassFile.FieldType.object "java/lang/String")), Jvm.Cond.code ({ cls := "java/lang/String", name := "<init>", desc := "([C)V" } : Jvm.MethodName) jdk_42_method_3_code (2 : Nat) (Option.none : Option Jvm.ClassFile.FieldType), Jvm.Cond.code ({ cls := "java/lang/String", name := "<init>", desc := "([CIILjava/lang/Void;)V" } : Jvm.MethodName) jdk_42_method_149_code (6 : Nat) (Option.none : Option Jvm.ClassFile.FieldType), Jvm.Cond.code ({ cls := "java/lang/Object", name := "<init>", desc := "()V" } : Jvm.MethodName) object_method_1_code (1 : Nat) (Option.none : Option Jvm.ClassFile.FieldType), Jvm.Cond.code ({ cls := "java/lang/StringUTF16", name := "compress", desc := "([CII)[B" } : Jvm.MethodName) jdk_52_method_16_code (6 : Nat) (Option.some (Jvm.ClassFile.FieldType.array Jvm.ClassFile.FieldType.byte)), Jvm.Cond.code ({ cls := "java/lang/StringUTF16", name := "compress", desc := "([CI[BII)I" } : Jvm.MethodName) jdk_52_method_21_code (7 : Nat) (Option.some Jvm.ClassFile.FieldType.int), Jvm.Cond.code ({ cls := "java/lang/StringUTF16", name := "coderFromArrayLen", desc := "([BI)B" } : Jvm.MethodName) jdk_52_method_15_code (2 : Nat) (Option.some Jvm.ClassFile.FieldType.byte), Jvm.Cond.code ({ cls := "java/lang/String", name := "equals", desc := "(Ljava/lang/Object;)Z" } : Jvm.MethodName) jdk_42_method_66_code (3 : Nat) (Option.some Jvm.ClassFile.FieldType.boolean), Jvm.Cond.code ({ cls := "java/lang/StringLatin1", name := "equals", desc := "([B[B)Z" } : Jvm.MethodName) jdk_43_method_13_code (3 : Nat) (Option.some Jvm.ClassFile.FieldType.boolean), Jvm.Cond.code ({ cls := "com/example/upfront_quote/upfrontquote/ProductLine", name := "servedOn", desc := "(Ljava/lang/String;)Ljava/util/Optional;" } : Jvm.MethodName) prog_17_method_4_code (5 : Nat) (Option.some (Jvm.ClassFile.FieldType.object "java/util/Optional")), Jvm.Cond.code ({ cls := "com/example/upfront_quote/upfrontquote/ProductLine", name := "values", desc := "()[Lcom/example/upfront_quote/upfrontquote/ProductLine;" } : Jvm.MethodName) prog_17_method_1_code (0 : Nat) (Option.some (Jvm.ClassFile.FieldType.array (Jvm.ClassFile.FieldType.object "com/example/upfront_quote/upfrontquote/ProductLine"))), Jvm.Cond.code ({ cls := "java/util/Optional", name := "of", desc := "(Ljava/lang/Object;)Ljava/util/Optional;" } : Jvm.MethodName) jdk_32_method_3_code (1 : Nat) (Option.some (Jvm.ClassFile.FieldType.object "java/util/Optional")), Jvm.Cond.code ({ cls := "java/util/Objects", name := "requireNonNull", desc := "(Ljava/lang/Object;)Ljava/lang/Object;" } : Jvm.MethodName) jdk_31_method_10_code (1 : Nat) (Option.some (Jvm.ClassFile.FieldType.object "java/lang/Object")), Jvm.Cond.code ({ cls := "java/util/Optional", name := "<init>", desc := "(Ljava/lang/Object;)V" } : Jvm.MethodName) jdk_32_method_2_code (2 : Nat) (Option.none : Option Jvm.ClassFile.FieldType), Jvm.Cond.code ({ cls := "java/util/Optional", name := "isPresent", desc := "()Z" } : Jvm.MethodName) jdk_32_method_6_code (1 : Nat) (Option.some Jvm.ClassFile.FieldType.boolean), Jvm.Cond.code ({ cls := "java/util/Optional", name := "get", desc := "()Ljava/lang/Object;" } : Jvm.MethodName) jdk_32_method_5_code (1 : Nat) (Option.some (Jvm.ClassFile.FieldType.object "java/lang/Object")), Jvm.Cond.code ({ cls := "java/util/Optional", name := "empty", desc := "()Ljava/util/Optional;" } : Jvm.MethodName) jdk_32_method_1_code (1 : Nat) (Option.some (Jvm.ClassFile.FieldType.object "java/util/Optional"))]
set_option maxRecDepth 65536 in
theorem codes_eq : words1.filter isCode = codes1 := rfl
theorem w_codes : ∀ c ∈ words1.filter isCode, c.before args0 about1 = true := by
  rw [codes_eq]
  intro c hc
  simp only [codes1, List.mem_cons, List.not_mem_nil, or_false] at hc
  rcases hc with rfl | rfl | rfl | rfl | rfl | rfl | rfl | rfl | rfl | rfl | rfl | rfl | rfl | rfl | rfl | rfl | rfl | rfl
  · exact w_c0
  · exact w_c1
  · exact w_c2
  · exact w_c3
  · exact w_c4
  · exact w_c5
  · exact w_c6
  · exact w_c7
  · exact w_c8
  · exact w_c9
  · exact w_c10
  · exact w_c11
  · exact w_c12
  · exact w_c13
  · exact w_c14
  · exact w_c15
  · exact w_c16
  · exact w_c17
set_option maxRecDepth 65536 in
theorem w_t1 : (words1.take 24).all (fun c => isCode c || c.before args0 about1) = true := by decide +kernel
set_option maxRecDepth 65536 in
theorem w_t2 : ((words1.drop 24).take 24).all (fun c => isCode c || c.before args0 about1) = true := by decide +kernel
set_option maxRecDepth 65536 in
theorem w_t3 : (((words1.drop 24).drop 24).take 24).all (fun c => isCode c || c.before args0 about1) = true := by decide +kernel
set_option maxRecDepth 65536 in
theorem w_t4 : ((((words1.drop 24).drop 24).drop 24).take 24).all (fun c => isCode c || c.before args0 about1) = true := by decide +kernel
set_option maxRecDepth 65536 in
theorem w_t5 : ((((words1.drop 24).drop 24).drop 24).drop 24).all (fun c => isCode c || c.before args0 about1) = true := by decide +kernel
theorem w_tables : (allAtoms (Jvm.Cond.code x code maxLocals ret :: tables_1)).before args0 about1 = true := by
  rw [allAtoms_all]
  show words1.all (fun c => c.before args0 about1) = true
  refine all_split ?_ w_codes
  rw [← List.take_append_drop 24 words1, List.all_append, w_t1, ← List.take_append_drop 24 (words1.drop 24), List.all_append, w_t2, ← List.take_append_drop 24 ((words1.drop 24).drop 24), List.all_append, w_t3, ← List.take_append_drop 24 (((words1.drop 24).drop 24).drop 24), List.all_append, w_t4, w_t5]
  rfl
set_option maxRecDepth 65536 in
theorem w_rest : rest_1_c.before args0 about1 = true := by decide +kernel
set_option maxRecDepth 65536 in
theorem w_case : (Jvm.Cond.and given_1 narrow_1).before args0 about1 = true := by decide +kernel
set_option maxRecDepth 65536 in
theorem w_consts : constsHeld consts_1 about1 := Jvm.Lit.constsHeldB_iff.mp (by decide +kernel)
theorem w_applies : (headSpec (Jvm.Cond.code x code maxLocals ret :: tables_1) room_1).applies x e0.platform about1 = true :=
  (Spec.applies_iff w_frames).mpr ⟨w_running, w_runnable, w_alone, w_named, w_hears, w_ripe, w_room, w_tables⟩
theorem atStart : AtStart classFile x code maxLocals ret World_1 tables_1 room_1 Calls_1 rest_1 Pre_1 launch0 p0 e0 about1 theMethod args0 below0 :=
  ⟨lists_1, trivial, launch0.admits_env _ _ _, launch0.least_env, fairChoices_fair.cas, fairChoices_fair.clock, w_frames, w_args, w_heap, w_applies, ⟨w_consts, trivial⟩, w_rest, w_case⟩
end start1
theorem witness_1 : WitnessClaimed_1 := ⟨start1.p0, start1.e0, start1.about1, start1.theMethod, start1.args0, start1.below0, start1.atStart⟩
end Jvm.Pilot.@@N@@
