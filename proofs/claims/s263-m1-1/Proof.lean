import JvmDerived
import JvmDerived.Pilot.@@N@@Statement
import JvmDerived.Pilot.@@N@@Code
set_option linter.unusedVariables false
set_option linter.unusedSimpArgs false
namespace Jvm.Pilot.@@N@@
open Jvm Jvm.ClassFile Sem Op Lib Jvm.Free Jvm.Stand Jvm.LawKit Jvm.RoadKit Bundle Jvm.Pilot.@@N@@.Jvm.D
/-! ## own: a small logic of owned cells over the library's Stand -/
/-- cells by their addresses -/
abbrev HL := List (Addr × Cell)
def Own (h : Heap) (σ : HL) : Prop := ∀ q ∈ σ, h[q.1]? = some q.2
abbrev adr (σ : HL) : List Addr := σ.map Prod.fst
/-- what is known of the heap h under the tables vm, in an activation that began at s owning σ0 and reading ρ0: σ is owned, ρ is read, what stood at the law's start Z stands -/
def Hp (Z : State) (EL : List (String × Nat)) (σ0 ρ0 : HL) (s : State) (σ ρ : HL) (vm : Vm) (h : Heap) : Prop :=
  CHr Z EL s.vm s.heap vm h ∧ Own h σ ∧ Own h ρ ∧ (adr σ).Nodup ∧
  (∀ q ∈ σ, Z.heap.size ≤ q.1 ∧ (q.1 ∈ adr σ0 ∨ s.heap.size ≤ q.1) ∧ Safe Z EL vm h q.1) ∧
  (∀ q ∈ ρ, q.1 ∉ adr σ ∧ (q.1 ∈ adr ρ0 ∨ q.1 ∈ adr σ0 ∨ s.heap.size ≤ q.1 ∨ Bk Z EL s.vm s.heap q.1 ∨ q.1 < Z.heap.size)) ∧
  (∀ (x : Addr) (cl : Cell), s.heap[x]? = some cl → x ∉ adr σ0 → h[x]? = some cl) ∧ Ext Z.heap h
section HpLaws
variable {Z s : State} {EL : List (String × Nat)} {σ0 ρ0 σ ρ σ' ρ' : HL} {vm vm1 : Vm} {h h' : Heap}
theorem own_lt (O : Own h σ) {q : Addr × Cell} (hq : q ∈ σ) : q.1 < h.size := (Array.getElem?_eq_some_iff.mp (O q hq)).1
theorem adr_mem {x : Addr} (hx : x ∈ adr σ) : ∃ q ∈ σ, q.1 = x := List.mem_map.mp hx
theorem mem_adr {q : Addr × Cell} (hq : q ∈ σ) : q.1 ∈ adr σ := List.mem_map.mpr ⟨q, hq, rfl⟩
theorem Own.ext (E : Ext h h') (O : Own h σ) : Own h' σ := fun q hq => E.2 _ _ (O q hq)
theorem Own.sub (O : Own h σ) (hs : ∀ q ∈ σ', q ∈ σ) : Own h σ' := fun q hq => O q (hs q hq)
theorem own_app (O : Own h σ) (O' : Own h σ') : Own h (σ ++ σ') := fun q hq => (List.mem_append.mp hq).elim (O q) (O' q)
theorem ext_tr {h2 : Heap} (E : Ext h h') (E' : Ext h' h2) : Ext h h2 := ⟨Nat.le_trans E.1 E'.1, fun a c q => E'.2 _ _ (E.2 _ _ q)⟩
/-- tables and heap go on; nothing owned or read is touched -/
theorem Hp.later (H : Hp Z EL σ0 ρ0 s σ ρ vm h) (C : CHr Z EL vm h vm1 h') (E : Ext h h') : Hp Z EL σ0 ρ0 s σ ρ vm1 h' := by
  obtain ⟨c, o, r, nd, a, b, f, z⟩ := H
  exact ⟨c.trans C, o.ext E, r.ext E, nd, fun q hq => ⟨(a q hq).1, (a q hq).2.1, C.safe (own_lt o hq) (a q hq).2.2⟩, b, fun x cl hx hn => E.2 _ _ (f x cl hx hn), ext_tr z E⟩
theorem Hp.alloc (H : Hp Z EL σ0 ρ0 s σ ρ vm h) (E : Ext h h') {c : Cell} (hc : h'[h.size]? = some c) : Hp Z EL σ0 ρ0 s ((h.size, c) :: σ) ρ vm h' := by
  have C : CHr Z EL vm h vm h' := CHr.ext E H.1.1
  have H' := H.later C E
  obtain ⟨c1, o, r, nd, a, b, f, z⟩ := H
  obtain ⟨c1', o', r', nd', a', b', f', z'⟩ := H'
  refine ⟨c1', fun q hq => ?_, r', ?_, fun q hq => ?_, fun q hq => ⟨?_, (b q hq).2⟩, f', z'⟩
  · rcases List.mem_cons.mp hq with rfl | hq
    · exact hc
    · exact o' q hq
  · refine List.nodup_cons.mpr ⟨fun hm => ?_, nd⟩
    obtain ⟨q, hq, e⟩ := adr_mem hm
    exact absurd (e ▸ own_lt o hq) (Nat.lt_irrefl _)
  · rcases List.mem_cons.mp hq with rfl | hq
    · exact ⟨z.1, Or.inr c1.2.1, Safe.ext E c1.1 (Safe.new (Nat.le_refl _))⟩
    · exact a' q hq
  · intro hm
    rcases List.mem_cons.mp hm with e | hm
    · exact absurd (e ▸ own_lt r hq) (Nat.lt_irrefl _)
    · exact (b q hq).1 hm
/-- one owned cell is written -/
theorem Hp.write (H : Hp Z EL σ0 ρ0 s σ ρ vm h) {i : Nat} {a : Addr} {c c' : Cell} (hi : σ[i]? = some (a, c)) (hw : h' = h.setIfInBounds a c') : Hp Z EL σ0 ρ0 s (σ.set i (a, c')) ρ vm h' := by
  have hmem : (a, c) ∈ σ := List.mem_of_getElem? hi
  have hadr : adr (σ.set i (a, c')) = adr σ := by
    rw [adr, List.map_set]
    apply List.ext_getElem?
    intro j
    rw [List.getElem?_set]
    split
    · rename_i e
      subst e
      simp only [List.length_map, List.getElem?_map, hi, Option.map_some]
      split
      · rfl
      · rename_i hl
        exact absurd (List.getElem?_eq_some_iff.mp hi).1 (by simpa using hl)
    · rfl
  obtain ⟨c1, o, r, nd, al, b, f, z⟩ := H
  have ha : h[a]? = some c := o _ hmem
  have hlt : a < h.size := (Array.getElem?_eq_some_iff.mp ha).1
  have hS : Safe Z EL vm h a := (al _ hmem).2.2
  have ke : ∀ y, y ≠ a → h'[y]? = h[y]? := fun y hy => by rw [hw, Array.getElem?_setIfInBounds_ne (Ne.symm hy)]
  have hsz : h'.size = h.size := by rw [hw]; simp
  have hstep := c1.1.step (h' := h') fun y B cell q => by
    rw [ke y fun e => hS (e ▸ B)]; exact q
  have C : CHr Z EL vm h vm h' := ⟨hstep.1, by rw [hsz]; exact Nat.le_refl _, fun y q => Or.inl (hstep.2 y q)⟩
  have hin : ∀ q ∈ σ.set i (a, c'), q = (a, c') ∨ (q ∈ σ ∧ q.1 ≠ a) := fun q hq => by
    obtain ⟨j, hj⟩ := List.mem_iff_getElem?.mp hq
    rw [List.getElem?_set] at hj
    split at hj
    · split at hj
      · exact Or.inl (Option.some.inj hj).symm
      · cases hj
    · rename_i hne
      refine Or.inr ⟨List.mem_of_getElem? hj, fun e => hne ?_⟩
      have h1 : (adr σ)[j]? = some a := by rw [adr, List.getElem?_map, hj]; exact congrArg some e
      have h2 : (adr σ)[i]? = some a := by rw [adr, List.getElem?_map, hi]; rfl
      obtain ⟨l1, e1⟩ := List.getElem?_eq_some_iff.mp h1
      obtain ⟨l2, e2⟩ := List.getElem?_eq_some_iff.mp h2
      exact (List.getElem_inj nd).mp (e2.trans e1.symm)
  refine ⟨c1.trans C, fun q hq => ?_, fun q hq => ?_, by rw [hadr]; exact nd, fun q hq => ?_, fun q hq => ⟨by rw [hadr]; exact (b q hq).1, (b q hq).2⟩, fun x cl hx hn => ?_, ⟨by rw [hsz]; exact z.1, fun x cl hx => ?_⟩⟩
  · rcases hin q hq with rfl | ⟨hq, hne⟩
    · show h'[a]? = some c'
      rw [hw]; simp [hlt]
    · rw [ke _ hne]; exact o q hq
  · rw [ke q.1 fun e => (b q hq).1 (by rw [e]; exact mem_adr hmem)]; exact r q hq
  · rcases hin q hq with rfl | ⟨hq, -⟩
    · exact ⟨(al _ hmem).1, (al _ hmem).2.1, C.safe hlt hS⟩
    · exact ⟨(al q hq).1, (al q hq).2.1, C.safe (own_lt o hq) (al q hq).2.2⟩
  · have hx' := f x cl hx hn
    rw [ke x]
    · exact hx'
    · rintro rfl
      rcases (al _ hmem).2.1 with q | q
      · exact hn q
      · exact absurd (Array.getElem?_eq_some_iff.mp hx).1 (Nat.not_lt.mpr q)
  · rw [ke x]
    · exact z.2 x cl hx
    · rintro rfl
      exact absurd (Array.getElem?_eq_some_iff.mp hx).1 (Nat.not_lt.mpr (al _ hmem).1)
/-- fewer, or otherwise ordered -/
theorem Hp.sub (H : Hp Z EL σ0 ρ0 s σ ρ vm h) (hs : ∀ q ∈ σ', q ∈ σ) (nd : (adr σ').Nodup) (hr : ∀ q ∈ ρ', q ∈ ρ) : Hp Z EL σ0 ρ0 s σ' ρ' vm h := by
  obtain ⟨c, o, r, -, a, b, f⟩ := H
  refine ⟨c, o.sub hs, r.sub hr, nd, fun q hq => a q (hs q hq), fun q hq => ⟨fun hm => ?_, (b q (hr q hq)).2⟩, f⟩
  obtain ⟨q', hq', e⟩ := adr_mem hm
  exact (b q (hr q hq)).1 (e ▸ mem_adr (hs q' hq'))
/-- owned cells become read-only -/
theorem Hp.freeze (H : Hp Z EL σ0 ρ0 s (σ' ++ σ) ρ vm h) : Hp Z EL σ0 ρ0 s σ (σ' ++ ρ) vm h := by
  obtain ⟨c, o, r, nd, a, b, f⟩ := H
  have nd' := nd
  rw [adr, List.map_append, List.nodup_append] at nd'
  refine ⟨c, o.sub fun q hq => List.mem_append_right _ hq, own_app (o.sub fun q hq => List.mem_append_left _ hq) r, nd'.2.1, fun q hq => a q (List.mem_append_right _ hq), fun q hq => ?_, f⟩
  rcases List.mem_append.mp hq with hq | hq
  · refine ⟨fun hm => nd'.2.2 _ (mem_adr hq) _ hm rfl, ?_⟩
    rcases (a q (List.mem_append_left _ hq)).2.1 with z | z
    · exact Or.inr (Or.inl z)
    · exact Or.inr (Or.inr (Or.inl z))
  · refine ⟨fun hm => (b q hq).1 ?_, (b q hq).2⟩
    rw [adr, List.map_append]; exact List.mem_append_right _ hm
/-- a booked literal's cells are read-only -/
theorem Hp.lit (H : Hp Z EL σ0 ρ0 s σ ρ vm h) {a : Addr} {c : Cell} (ha : h[a]? = some c) (hb : ∀ x, Safe Z EL vm h x → x ≠ a) : Hp Z EL σ0 ρ0 s σ ((a, c) :: ρ) vm h := by
  obtain ⟨c1, o, r, nd, al, b, f⟩ := H
  refine ⟨c1, o, fun q hq => ?_, nd, al, fun q hq => ?_, f⟩
  · rcases List.mem_cons.mp hq with rfl | hq
    · exact ha
    · exact r q hq
  · rcases List.mem_cons.mp hq with rfl | hq
    · refine ⟨fun hm => ?_, ?_⟩
      · obtain ⟨q, hq, e⟩ := adr_mem hm
        exact hb _ (al q hq).2.2 e
      · have hB : Bk Z EL vm h a := Classical.byContradiction fun hn => hb a hn rfl
        rcases c1.2.2 a hB with z | z
        · exact Or.inr (Or.inr (Or.inr (Or.inl z)))
        · exact Or.inr (Or.inr (Or.inl z))
    · exact b q hq
/-- what stood at the law's start may be read -/
theorem Hp.old (H : Hp Z EL σ0 ρ0 s σ ρ vm h) {a : Addr} {c : Cell} (ha : Z.heap[a]? = some c) : Hp Z EL σ0 ρ0 s σ ((a, c) :: ρ) vm h := by
  obtain ⟨c1, o, r, nd, al, b, f, z⟩ := H
  have hlt : a < Z.heap.size := (Array.getElem?_eq_some_iff.mp ha).1
  refine ⟨c1, o, fun q hq => ?_, nd, al, fun q hq => ?_, f, z⟩
  · rcases List.mem_cons.mp hq with rfl | hq
    · exact z.2 _ _ ha
    · exact r q hq
  · rcases List.mem_cons.mp hq with rfl | hq
    · refine ⟨fun hm => ?_, Or.inr (Or.inr (Or.inr (Or.inr hlt)))⟩
      obtain ⟨q, hq, e⟩ := adr_mem hm
      exact absurd hlt (Nat.not_lt.mpr (by rw [show a = q.1 from e.symm]; exact (al q hq).1))
    · exact b q hq
/-- **THE FRAME RULE**: a callee that was handed σi and ρi gives back σ' and ρ' -/
theorem Hp.call {U : State} {σi σf ρi : HL} (H : Hp Z EL σ0 ρ0 s (σi ++ σf) ρ U.vm U.heap) (hρ : ∀ q ∈ ρi, q ∈ ρ) (Hc : Hp Z EL σi ρi U σ' ρ' vm1 h') : Hp Z EL σ0 ρ0 s (σ' ++ σf) (ρ' ++ ρ) vm1 h' := by
  obtain ⟨c, o, r, nd, a, b, f, z0⟩ := H
  obtain ⟨c', o', r', nd', a', b', f', z'⟩ := Hc
  have nd2 := nd
  rw [adr, List.map_append, List.nodup_append] at nd2
  have of : Own U.heap σf := o.sub fun q hq => List.mem_append_right _ hq
  have disj : ∀ x, x ∈ adr σi → x ∉ adr σf := fun x h1 h2 => nd2.2.2 x h1 x h2 rfl
  have inapp : ∀ x, x ∈ adr σi → x ∈ adr (σi ++ σf) := fun x hx => by rw [adr, List.map_append]; exact List.mem_append_left _ hx
  have inapp' : ∀ x, x ∈ adr σf → x ∈ adr (σi ++ σf) := fun x hx => by rw [adr, List.map_append]; exact List.mem_append_right _ hx
  have flt : ∀ x, x ∈ adr σf → x < U.heap.size := fun x hx => by obtain ⟨q, hq, rfl⟩ := adr_mem hx; exact own_lt of hq
  have orig : ∀ x, x ∈ adr σi → x ∈ adr σ0 ∨ s.heap.size ≤ x := fun x hx => by obtain ⟨q, hq, rfl⟩ := adr_mem hx; exact (a q (List.mem_append_left _ hq)).2.1
  have hs := c.2.1
  refine ⟨c.trans c', own_app o' fun q hq => f' _ _ (of q hq) fun hm => disj _ hm (mem_adr hq), own_app r' fun q hq => f' _ _ (r q hq) fun hm => (b q hq).1 (inapp _ hm), ?_, fun q hq => ?_, fun q hq => ?_, fun x cl hx hn => ?_, z'⟩
  · rw [adr, List.map_append, List.nodup_append]
    refine ⟨nd', nd2.2.1, fun x hx y hy e => ?_⟩
    subst e
    obtain ⟨q, hq, rfl⟩ := adr_mem hx
    rcases (a' q hq).2.1 with z | z
    · exact disj _ z hy
    · exact absurd (flt _ hy) (Nat.not_lt.mpr z)
  · rcases List.mem_append.mp hq with hq | hq
    · refine ⟨(a' q hq).1, ?_, (a' q hq).2.2⟩
      rcases (a' q hq).2.1 with z | z
      · exact orig _ z
      · exact Or.inr (Nat.le_trans hs z)
    · have z := a q (List.mem_append_right _ hq)
      exact ⟨z.1, z.2.1, c'.safe (own_lt of hq) z.2.2⟩
  · rcases List.mem_append.mp hq with hq | hq
    · have z := b' q hq
      refine ⟨fun hm => ?_, ?_⟩
      · rw [adr, List.map_append] at hm
        rcases List.mem_append.mp hm with hm | hm
        · exact z.1 hm
        · rcases z.2 with y | y | y | y | y
          · obtain ⟨q', hq', e⟩ := adr_mem y
            refine (b q' (hρ q' hq')).1 (inapp' _ ?_)
            rw [e]; exact hm
          · exact disj _ y hm
          · exact absurd (flt _ hm) (Nat.not_lt.mpr y)
          · obtain ⟨q', hq', e⟩ := adr_mem hm
            refine (a q' (List.mem_append_right _ hq')).2.2 ?_
            rw [e]; exact y
          · obtain ⟨q', hq', e⟩ := adr_mem hm
            exact absurd y (Nat.not_lt.mpr (e ▸ (a q' (List.mem_append_right _ hq')).1))
      · rcases z.2 with y | y | y | y | y
        · obtain ⟨q', hq', e⟩ := adr_mem y
          have := (b q' (hρ q' hq')).2
          rw [e] at this; exact this
        · rcases orig _ y with w | w
          · exact Or.inr (Or.inl w)
          · exact Or.inr (Or.inr (Or.inl w))
        · exact Or.inr (Or.inr (Or.inl (Nat.le_trans hs y)))
        · rcases c.2.2 _ y with w | w
          · exact Or.inr (Or.inr (Or.inr (Or.inl w)))
          · exact Or.inr (Or.inr (Or.inl w))
        · exact Or.inr (Or.inr (Or.inr (Or.inr y)))
    · have z := b q hq
      refine ⟨fun hm => ?_, z.2⟩
      rw [adr, List.map_append] at hm
      rcases List.mem_append.mp hm with hm | hm
      · obtain ⟨q', hq', e⟩ := adr_mem hm
        rcases (a' q' hq').2.1 with y | y
        · refine z.1 (inapp _ ?_)
          rw [← e]; exact y
        · exact absurd (own_lt r hq) (Nat.not_lt.mpr (e ▸ y))
      · exact z.1 (inapp' _ hm)
  · refine f' x cl (f x cl hx hn) fun hm => ?_
    rcases orig _ hm with z | z
    · exact hn z
    · exact absurd (Array.getElem?_eq_some_iff.mp hx).1 (Nat.not_lt.mpr z)
end HpLaws
/-! ## own: the walk's point (Wk), what is still to be reached (Go), a contract (Met) -/
abbrev Ctx := Program × Env × State × MethodId × Array Value × List Frame × Method × Code × HL × HL
abbrev Ctx.p (X : Ctx) : Program := X.1
abbrev Ctx.e (X : Ctx) : Env := X.2.1
abbrev Ctx.s (X : Ctx) : State := X.2.2.1
abbrev Ctx.m (X : Ctx) : MethodId := X.2.2.2.1
abbrev Ctx.args (X : Ctx) : Array Value := X.2.2.2.2.1
abbrev Ctx.below (X : Ctx) : List Frame := X.2.2.2.2.2.1
abbrev Ctx.meth (X : Ctx) : Method := X.2.2.2.2.2.2.1
abbrev Ctx.c (X : Ctx) : Code := X.2.2.2.2.2.2.2.1
abbrev Ctx.so (X : Ctx) : HL := X.2.2.2.2.2.2.2.2.1
abbrev Ctx.ro (X : Ctx) : HL := X.2.2.2.2.2.2.2.2.2
def Wk (l : Launch) (Z : State) (EL : List (String × Nat)) (R : Room) (own : String) (bytes : ByteArray) (maxL : Nat) (ret : Option FieldType) (nm : String) (X : Ctx) (σ ρ : HL) (T : State) (k n : Nat) : Prop :=
  (X.p.tables.exec = Jvm.exec ∧ X.c.code = bytes ∧ X.c.maxLocals = maxL ∧ X.meth.sig.returnType = ret ∧ X.meth.locks = false ∧ X.meth.name = nm ∧ ∃ a : Array Value, EW Z a EL) ∧
  ∃ (vm0 : Vm) (k0 : Nat) (locs : List Loc), Stand X.p l X.e R (X.s.setVm vm0) X.m X.args X.below X.meth X.c T locs k n ∧ X.s.Since vm0 k0 ∧ k0 ≤ T.heap.size ∧ Z.Warmed39 vm0 ∧ vm0.findClass own = some X.m.cls ∧ Fr Z.heap.size locs ∧ Hp Z EL X.so X.ro X.s σ ρ vm0 T.heap
def Go (Z : State) (EL : List (String × Nat)) (K N : Nat) (Q : Option Value → HL → HL → Prop) (X : Ctx) (T : State) (pc : Nat) (Ls : Array Slot) (st : List Value) : Prop :=
  ∃ (s₂ : State) (o : Outcome), Steps X.p.tables X.e X.below (T.setTop (mkF X.m pc Ls st)) s₂ ∧ s₂.status = .running ∧ Ended s₂ X.below o ∧
    ∃ v σ ρ L, o = .returned v ∧ Q v σ ρ ∧ Fr Z.heap.size L ∧ Hp Z EL X.so X.ro X.s σ ρ s₂.vm s₂.heap ∧ ReturnedEndW X.s o s₂ L K N
def Met (l : Launch) (Z : State) (EL : List (String × Nat)) (y : MethodName) (bytes : ByteArray) (maxL : Nat) (ret : Option FieldType) (rm : Room) (as' : Array Value) (σi ρi : HL) (Q : Option Value → HL → HL → Prop) : Prop :=
  MetFree l y (head1 [Jvm.Cond.code y bytes maxL ret] rm) (fun a U => a = as' ∧ Z.Warmed39 U.vm ∧ Hp Z EL σi ρi U σi ρi U.vm U.heap) (fun _ _ _ _ _ => True)
    (fun _ U o U' => ∃ v σ ρ L, o = .returned v ∧ Q v σ ρ ∧ Fr Z.heap.size L ∧ Hp Z EL σi ρi U σ ρ U'.vm U'.heap ∧ ReturnedEndW U o U' L rm.cells rm.slots)
section WkLaws
variable {l : Launch} {Z : State} {a0 : Array Value} {EL : List (String × Nat)} {R : Room} {own : String} {bytes : ByteArray} {maxL : Nat} {ret : Option FieldType} {nm : String} {X : Ctx} {σ ρ σ' ρ' : HL} {T T' : State} {k n K N : Nat} {Q Q' : Option Value → HL → HL → Prop} {pc pc' : Nat} {Ls Ls' : Array Slot} {st st' : List Value}
theorem Wk.here (W : Wk l Z EL R own bytes maxL ret nm X σ ρ T k n) : At T X.m X.c X.below := by obtain ⟨-, _, _, _, Y, -⟩ := W; exact Y.here
theorem Wk.hx (W : Wk l Z EL R own bytes maxL ret nm X σ ρ T k n) : X.p.tables.exec = Jvm.exec := W.1.1
theorem Wk.hb (W : Wk l Z EL R own bytes maxL ret nm X σ ρ T k n) {r : Except ClassFile.DecodeError (ClassFile.Instr × Nat)} (hd : decode bytes pc = r) : decode X.c.code pc = r := by rw [W.1.2.1]; exact hd
theorem Go.by (f : ∀ t, Steps X.p.tables X.e X.below (T'.setTop (mkF X.m pc' Ls' st')) t → Steps X.p.tables X.e X.below (T.setTop (mkF X.m pc Ls st)) t) (r : Go Z EL K N Q X T' pc' Ls' st') : Go Z EL K N Q X T pc Ls st := by
  obtain ⟨s2, o, h1, h2⟩ := r
  exact ⟨s2, o, f _ h1, h2⟩
theorem Go.mono (h : ∀ v σ ρ, Q v σ ρ → Q' v σ ρ) (r : Go Z EL K N Q X T pc Ls st) : Go Z EL K N Q' X T pc Ls st := by
  obtain ⟨s2, o, h1, h2, h3, v, a, b, L, e, q, r⟩ := r
  exact ⟨s2, o, h1, h2, h3, v, a, b, L, e, h _ _ _ q, r⟩
theorem Met.mono {y : MethodName} {rm : Room} {as' : Array Value} (h : ∀ v σ ρ, Q v σ ρ → Q' v σ ρ) (M : Met l Z EL y bytes maxL ret rm as' σ ρ Q) : Met l Z EL y bytes maxL ret rm as' σ ρ Q' :=
  fun p e ha hc hk s m args below hf happ hP hK => by
    obtain ⟨n, o, h1, h2, h3, v, s1, r1, L, e1, q, r⟩ := M p e ha hc hk s m args below hf happ hP hK
    exact ⟨n, o, h1, h2, h3, v, s1, r1, L, e1, h _ _ _ q, r⟩
theorem Hp.enter {s U : State} {σ0 ρ0 σi σf ρi : HL} (H : Hp Z EL σ0 ρ0 s (σi ++ σf) ρ U.vm U.heap) (hρ : ∀ q ∈ ρi, q ∈ ρ) : Hp Z EL σi ρi U σi ρi U.vm U.heap := by
  obtain ⟨c, o, r, nd, a, b, f, z0⟩ := H
  rw [adr, List.map_append, List.nodup_append] at nd
  refine ⟨CHr.refl c.1, o.sub fun q hq => List.mem_append_left _ hq, r.sub hρ, nd.1, fun q hq => ?_, fun q hq => ⟨fun hm => (b q (hρ q hq)).1 ?_, Or.inl (mem_adr hq)⟩, fun _ _ q _ => q, z0⟩
  · have z := a q (List.mem_append_left _ hq)
    exact ⟨z.1, Or.inl (mem_adr hq), z.2.2⟩
  · rw [adr, List.map_append]; exact List.mem_append_left _ hm
/-- a walk of the body meets the contract -/
theorem Met.walk {y : MethodName} {rm : Room} {as' : Array Value} {σi ρi : HL} (hEL : EW Z a0 EL) (hp : plainName y.cls = true) (Ls0 : Array Slot) (ent : ∀ m, entryFrame m as' maxL = mkF m 0 Ls0 [])
    (w : ∀ (X : Ctx) (T : State), Wk l Z EL rm y.cls bytes maxL ret y.name X σi ρi T 0 0 → Go Z EL rm.cells rm.slots Q X T 0 Ls0 []) : Met l Z EL y bytes maxL ret rm as' σi ρi Q := by
  refine MetFree.of_bodySF (plainFor_of_name hp) hisR ?_
  intro p e s m args below meth c s₁ Bd hml hP hK
  obtain ⟨rfl, hZ, H⟩ := hP
  have X0 : Stand p l e rm s m args below meth c s₁ [] 0 0 := Stand.of_body Bd
  have e0 : s₁.heap = s.heap := by rw [Bd.state]; rfl
  obtain ⟨s2, o, h1, h2, h3, h4⟩ := w (p, e, s, m, args, below, meth, c, σi, ρi) s₁ ⟨⟨Bd.exec, Bd.bytes, hml, Bd.returns, Bd.notSynchronized, (name_of_methodNamed Bd.named Bd.method).1, a0, hEL⟩, s.vm, s.heap.size, [], X0, (State.WarmedH.refl s).since _, by rw [e0]; exact Nat.le_refl _, hZ, findClass_of_methodNamed Bd.named, Fr.nil _, by rw [e0]; exact H⟩
  exact ⟨s2, o, castTop (ent m) h1, h2, h3, h4⟩
/-- a contract pays a call -/
theorem Met.back {p : Program} {e : Env} {below : List Frame} {s : State} {args : Array Value} {vm0 : Vm} {y : MethodName} {rm : Room} {as' : Array Value} {σi ρi σf σ0 ρ0 : HL} {len W : Nat} {h : Heap} (M : Met l Z EL y bytes maxL ret rm as' σi ρi Q)
    (hZ : Z.Warmed39 vm0) (wc : (Jvm.Cond.code y bytes maxL ret).before a0 Z = true) (wz : (Jvm.Cond.initialized y.cls).before a0 Z = true) (hf : rm.frames + 1 ≤ R.frames) (hl : W + (maxL + 11) + rm.locals ≤ R.locals) {a1 : Array Value} (hEL : EW Z a1 EL)
    (H : Hp Z EL σ0 ρ0 s (σi ++ σf) ρ vm0 h) (hρ : ∀ q ∈ ρi, q ∈ ρ) :
    BackS l R p e below (s.setVm vm0) args y len W (fun A a => a = as' ∧ A.U.heap = h ∧ A.cells + rm.cells ≤ R.cells ∧ A.slots + rm.slots ≤ R.slots)
      (fun A _ v B => ∃ σ' ρ' L, Q v σ' ρ' ∧ Fr Z.heap.size L ∧ Hp Z EL σ0 ρ0 s (σ' ++ σf) (ρ' ++ ρ) B.U.vm B.U.heap ∧ B.locs = A.locs ++ L ∧ B.cells = A.cells + rm.cells ∧ B.slots = A.slots + rm.slots) := by
  have key : ∀ m meth c (A : Pt) (g : JFrame) mk (a : Array Value), Stand p l e R (s.setVm vm0) m args below meth c A.U A.locs A.cells A.slots → A.U.heap = h → Hp Z EL σ0 ρ0 s (σi ++ σf) ρ (A.U.calling g mk a).vm (A.U.calling g mk a).heap := fun m meth c A g mk a Y hp => by
    have C := CHv.at Y hZ hEL H.1.1
    have q := H.later C ⟨Nat.le_refl _, fun _ _ z => z⟩
    show Hp Z EL σ0 ρ0 s (σi ++ σf) ρ A.U.vm A.U.heap
    rw [hp]; exact q
  refine BackS.of_freeW (bytes := bytes) (maxL := maxL) (ret := ret) (E := fun _ first o t L k n => k = rm.cells ∧ n = rm.slots ∧ ∃ v σ ρ, o = .returned v ∧ Q v σ ρ ∧ Fr Z.heap.size L ∧ Hp Z EL σi ρi first σ ρ t.vm t.heap) M hf hl
    (fun m meth c A a Y hp => have hU : Z.Warmed39 A.U.vm := wtrans (s := s.setVm vm0) hZ Y.warmed
      ⟨by show (Jvm.Cond.and _ .tt).before a A.U = true; rw [Cond.before_and, mv hU wc]; rfl, mv hU wc, mv hU wz, hp.2.2.1, hp.2.2.2⟩)
    (fun m meth c A a g mk Y hp => ⟨hp.1, wtrans (s := s.setVm vm0) hZ Y.warmed, (key m meth c A g mk a Y hp.2.1).enter hρ⟩) (fun _ _ _ _ _ _ _ _ _ => trivial)
    (fun _ _ _ _ ⟨v, s1, r1, L, h1, h2, h3, h4, h5⟩ => ⟨L, _, _, h5, rfl, rfl, v, s1, r1, h1, h2, h3, h4⟩) ?_
  intro m meth c A a g mk v t L k n Y hp _ _ ⟨e1, e2, v', s1, r1, e3, e4, e5, e6⟩
  cases e3
  subst e1 e2
  exact ⟨s1, r1, L, e4, e5, (key m meth c A g mk a Y hp.2.1).call hρ e6, rfl, rfl, rfl⟩
/-! picking out of lists -/
def takeAt {α : Type} : Nat → List α → Option (α × List α)
  | _, [] => none
  | 0, x :: l => some (x, l)
  | i + 1, x :: l => match takeAt i l with
    | none => none
    | some (y, l') => some (y, x :: l')
def pick {α : Type} : List Nat → List α → Option (List α × List α)
  | [], l => some ([], l)
  | i :: is, l => match takeAt i l with
    | none => none
    | some (x, l') => match pick is l' with
      | none => none
      | some (a, b) => some (x :: a, b)
theorem takeAt_perm {α : Type} : ∀ (i : Nat) (l : List α) (x : α) (l' : List α), takeAt i l = some (x, l') → (x :: l').Perm l
  | _, [], _, _, h => by simp [takeAt] at h
  | 0, y :: l, x, l', h => by simp [takeAt] at h; obtain ⟨rfl, rfl⟩ := h; exact List.Perm.refl _
  | i + 1, y :: l, x, l', h => by
    simp only [takeAt] at h
    cases hq : takeAt i l with
    | none => simp [hq] at h
    | some q =>
      obtain ⟨z, l2⟩ := q
      simp [hq] at h
      obtain ⟨rfl, rfl⟩ := h
      exact (List.Perm.swap _ _ _).trans ((takeAt_perm i l z l2 hq).cons y)
theorem pick_perm {α : Type} : ∀ (is : List Nat) (l a b : List α), pick is l = some (a, b) → (a ++ b).Perm l
  | [], l, a, b, h => by simp [pick] at h; obtain ⟨rfl, rfl⟩ := h; exact List.Perm.refl _
  | i :: is, l, a, b, h => by
    simp only [pick] at h
    cases hq : takeAt i l with
    | none => simp [hq] at h
    | some q =>
      obtain ⟨x, l'⟩ := q
      cases hp : pick is l' with
      | none => simp [hq, hp] at h
      | some r =>
        obtain ⟨a', b'⟩ := r
        simp [hq, hp] at h
        obtain ⟨rfl, rfl⟩ := h
        exact ((pick_perm is l' a' b' hp).cons x).trans (takeAt_perm i l x l' hq)
theorem Hp.perm {s : State} {σ0 ρ0 : HL} {vm : Vm} {h : Heap} (H : Hp Z EL σ0 ρ0 s σ ρ vm h) (hp : σ'.Perm σ) : Hp Z EL σ0 ρ0 s σ' ρ vm h :=
  H.sub (fun q hq => hp.mem_iff.mp hq) ((hp.map Prod.fst).nodup_iff.mpr H.2.2.2.1) fun _ q => q
def roOf (is : List Nat) (ρ ρi : HL) : Prop := is.map (fun i => ρ[i]?) = ρi.map some
theorem roOf.mem {is : List Nat} {ρi : HL} (h : roOf is ρ ρi) : ∀ q ∈ ρi, q ∈ ρ := fun q hq => by
  have h1 : some q ∈ ρi.map some := List.mem_map.mpr ⟨q, hq, rfl⟩
  rw [← h] at h1
  obtain ⟨i, -, e⟩ := List.mem_map.mp h1
  exact List.mem_of_getElem? e
theorem Wk.perm (W : Wk l Z EL R own bytes maxL ret nm X σ ρ T k n) (hp : σ'.Perm σ) : Wk l Z EL R own bytes maxL ret nm X σ' ρ T k n := by
  obtain ⟨w, vm0, k0, locs, a, b, c, d, e, f, H⟩ := W
  exact ⟨w, vm0, k0, locs, a, b, c, d, e, f, H.perm hp⟩
/-- owned cells become read-only -/
theorem Wk.freeze (W : Wk l Z EL R own bytes maxL ret nm X σ ρ T k n) (is : List Nat) {σi σf : HL} (hp : pick is σ = some (σi, σf)) : Wk l Z EL R own bytes maxL ret nm X σf (σi ++ ρ) T k n := by
  obtain ⟨w, vm0, k0, locs, a, b, c, d, e, f, H⟩ := W
  exact ⟨w, vm0, k0, locs, a, b, c, d, e, f, (H.perm (pick_perm _ _ _ _ hp)).freeze⟩
/-- cells forgotten -/
theorem Wk.drop (W : Wk l Z EL R own bytes maxL ret nm X σ ρ T k n) (is : List Nat) {σi σf : HL} (hp : pick is σ = some (σi, σf)) : Wk l Z EL R own bytes maxL ret nm X σf ρ T k n := by
  obtain ⟨w, vm0, k0, locs, a, b, c, d, e, f, H⟩ := W
  have H' := H.perm (pick_perm _ _ _ _ hp)
  refine ⟨w, vm0, k0, locs, a, b, c, d, e, f, H'.sub (fun q hq => List.mem_append_right _ hq) ?_ fun _ q => q⟩
  have nd := H'.2.2.2.1
  rw [adr, List.map_append, List.nodup_append] at nd
  exact nd.2.1
theorem Wk.keepRo (W : Wk l Z EL R own bytes maxL ret nm X σ ρ T k n) (is : List Nat) (hp : roOf is ρ ρ') : Wk l Z EL R own bytes maxL ret nm X σ ρ' T k n := by
  obtain ⟨w, vm0, k0, locs, a, b, c, d, e, f, H⟩ := W
  exact ⟨w, vm0, k0, locs, a, b, c, d, e, f, H.sub (fun _ q => q) H.2.2.2.1 hp.mem⟩
theorem Wk.old (W : Wk l Z EL R own bytes maxL ret nm X σ ρ T k n) {a : Addr} {c : Cell} (ha : Z.heap[a]? = some c) : Wk l Z EL R own bytes maxL ret nm X σ ((a, c) :: ρ) T k n := by
  obtain ⟨w, vm0, k0, locs, a, b, c, d, e, f, H⟩ := W
  exact ⟨w, vm0, k0, locs, a, b, c, d, e, f, H.old ha⟩
theorem Wk.more (W : Wk l Z EL R own bytes maxL ret nm X σ ρ T k n) {k' n' : Nat} (hk : k ≤ k') (hn : n ≤ n') : Wk l Z EL R own bytes maxL ret nm X σ ρ T k' n' := by
  obtain ⟨w, vm0, k0, locs, a, b⟩ := W
  exact ⟨w, vm0, k0, locs, a.more hk hn, b⟩
theorem Wk.ext (W : Wk l Z EL R own bytes maxL ret nm X σ ρ T k n) : Ext Z.heap T.heap := by
  obtain ⟨w, vm0, k0, locs, a, b, c, d, e, f, H⟩ := W
  exact H.2.2.2.2.2.2.2
theorem Wk.cell (W : Wk l Z EL R own bytes maxL ret nm X σ ρ T k n) {q : Addr × Cell} (hq : q ∈ σ ∨ q ∈ ρ ∨ Z.heap[q.1]? = some q.2) : T.heap[q.1]? = some q.2 := by
  obtain ⟨w, vm0, k0, locs, a, b, c, d, e, f, H⟩ := W
  exact hq.elim (H.2.1 q) fun z => z.elim (H.2.2.1 q) (H.2.2.2.2.2.2.2.2 _ _)
end WkLaws
/-! ## own: single steps in the Go form (printed by gen_steps.py) -/
section StepLaws
variable {l : Launch} {Z : State} {a0 : Array Value} {EL : List (String × Nat)} {R : Room} {own : String} {bytes : ByteArray} {maxL : Nat} {ret : Option FieldType} {nm : String} {X : Ctx} {σ ρ : HL} {T : State} {k n K N : Nat} {Q : Option Value → HL → HL → Prop} {pc pc' : Nat} {Ls : Array Slot} {st : List Value}
theorem Go.aload (W : Wk l Z EL R own bytes maxL ret nm X σ ρ T k n) {k' : Nat} {v : Value} (hd : decode bytes pc = .ok (.aload k', 2)) (hl : Ls[k']? = some (.val v)) (hv : v.isRef = true) (hp : pc + 2 = pc') (r : Go Z EL K N Q X T pc' Ls (v :: st)) : Go Z EL K N Q X T pc Ls st :=
  Go.by (fun t kk => XS.aload W.here W.hx rfl (W.hb hd) hl hv (by subst hp; exact kk)) r
theorem Go.aloadN (W : Wk l Z EL R own bytes maxL ret nm X σ ρ T k n) {k' : Fin 4} {v : Value} (hd : decode bytes pc = .ok (.aload_n k', 1)) (hl : Ls[k'.val]? = some (.val v)) (hv : v.isRef = true) (hp : pc + 1 = pc') (r : Go Z EL K N Q X T pc' Ls (v :: st)) : Go Z EL K N Q X T pc Ls st :=
  Go.by (fun t kk => XS.aloadN W.here W.hx rfl (W.hb hd) hl hv (by subst hp; exact kk)) r
theorem Go.iload (W : Wk l Z EL R own bytes maxL ret nm X σ ρ T k n) {k' : Nat} {v : Int32} (hd : decode bytes pc = .ok (.iload k', 2)) (hl : Ls[k']? = some (.val (.int v))) (hp : pc + 2 = pc') (r : Go Z EL K N Q X T pc' Ls (.int v :: st)) : Go Z EL K N Q X T pc Ls st :=
  Go.by (fun t kk => XS.iload W.here W.hx rfl (W.hb hd) hl (by subst hp; exact kk)) r
theorem Go.iloadN (W : Wk l Z EL R own bytes maxL ret nm X σ ρ T k n) {k' : Fin 4} {v : Int32} (hd : decode bytes pc = .ok (.iload_n k', 1)) (hl : Ls[k'.val]? = some (.val (.int v))) (hp : pc + 1 = pc') (r : Go Z EL K N Q X T pc' Ls (.int v :: st)) : Go Z EL K N Q X T pc Ls st :=
  Go.by (fun t kk => XS.iloadN W.here W.hx rfl (W.hb hd) hl (by subst hp; exact kk)) r
theorem Go.lload (W : Wk l Z EL R own bytes maxL ret nm X σ ρ T k n) {k' : Nat} {v : Int64} (hd : decode bytes pc = .ok (.lload k', 2)) (hl : Ls[k']? = some (.val (.long v))) (hp : pc + 2 = pc') (r : Go Z EL K N Q X T pc' Ls (.long v :: st)) : Go Z EL K N Q X T pc Ls st :=
  Go.by (fun t kk => XT.lload W.here W.hx rfl (W.hb hd) hl (by subst hp; exact kk)) r
theorem Go.lloadN (W : Wk l Z EL R own bytes maxL ret nm X σ ρ T k n) {k' : Fin 4} {v : Int64} (hd : decode bytes pc = .ok (.lload_n k', 1)) (hl : Ls[k'.val]? = some (.val (.long v))) (hp : pc + 1 = pc') (r : Go Z EL K N Q X T pc' Ls (.long v :: st)) : Go Z EL K N Q X T pc Ls st :=
  Go.by (fun t kk => XT.lloadN W.here W.hx rfl (W.hb hd) hl (by subst hp; exact kk)) r
theorem Go.istore (W : Wk l Z EL R own bytes maxL ret nm X σ ρ T k n) {k' : Nat} {x : Int32} (Ls' : Array Slot) (hd : decode bytes pc = .ok (.istore k', 2)) (hl : storeLocals Ls k' (.int x) = some Ls') (hp : pc + 2 = pc') (r : Go Z EL K N Q X T pc' Ls' st) : Go Z EL K N Q X T pc Ls (.int x :: st) :=
  Go.by (fun t kk => XS.istore W.here W.hx rfl (W.hb hd) rfl hl (by subst hp; exact kk)) r
theorem Go.istoreN (W : Wk l Z EL R own bytes maxL ret nm X σ ρ T k n) {k' : Fin 4} {x : Int32} (Ls' : Array Slot) (hd : decode bytes pc = .ok (.istore_n k', 1)) (hl : storeLocals Ls k'.val (.int x) = some Ls') (hp : pc + 1 = pc') (r : Go Z EL K N Q X T pc' Ls' st) : Go Z EL K N Q X T pc Ls (.int x :: st) :=
  Go.by (fun t kk => XS.istoreN W.here W.hx rfl (W.hb hd) rfl hl (by subst hp; exact kk)) r
theorem Go.astore (W : Wk l Z EL R own bytes maxL ret nm X σ ρ T k n) {k' : Nat} {x : Value} (Ls' : Array Slot) (hd : decode bytes pc = .ok (.astore k', 2)) (hv : x.isRef = true) (hl : storeLocals Ls k' x = some Ls') (hp : pc + 2 = pc') (r : Go Z EL K N Q X T pc' Ls' st) : Go Z EL K N Q X T pc Ls (x :: st) :=
  Go.by (fun t kk => XS.astore W.here W.hx rfl (W.hb hd) rfl hv hl (by subst hp; exact kk)) r
theorem Go.astoreN (W : Wk l Z EL R own bytes maxL ret nm X σ ρ T k n) {k' : Fin 4} {x : Value} (Ls' : Array Slot) (hd : decode bytes pc = .ok (.astore_n k', 1)) (hv : x.isRef = true) (hl : storeLocals Ls k'.val x = some Ls') (hp : pc + 1 = pc') (r : Go Z EL K N Q X T pc' Ls' st) : Go Z EL K N Q X T pc Ls (x :: st) :=
  Go.by (fun t kk => XS.astoreN W.here W.hx rfl (W.hb hd) rfl hv hl (by subst hp; exact kk)) r
theorem Go.lstore (W : Wk l Z EL R own bytes maxL ret nm X σ ρ T k n) {k' : Nat} {x : Int64} (Ls' : Array Slot) (hd : decode bytes pc = .ok (.lstore k', 2)) (hl : storeLocals Ls k' (.long x) = some Ls') (hp : pc + 2 = pc') (r : Go Z EL K N Q X T pc' Ls' st) : Go Z EL K N Q X T pc Ls (.long x :: st) :=
  Go.by (fun t kk => XT.lstore W.here W.hx rfl (W.hb hd) rfl hl (by subst hp; exact kk)) r
theorem Go.lstoreN (W : Wk l Z EL R own bytes maxL ret nm X σ ρ T k n) {k' : Fin 4} {x : Int64} (Ls' : Array Slot) (hd : decode bytes pc = .ok (.lstore_n k', 1)) (hl : storeLocals Ls k'.val (.long x) = some Ls') (hp : pc + 1 = pc') (r : Go Z EL K N Q X T pc' Ls' st) : Go Z EL K N Q X T pc Ls (.long x :: st) :=
  Go.by (fun t kk => XT.lstoreN W.here W.hx rfl (W.hb hd) rfl hl (by subst hp; exact kk)) r
theorem Go.iconst (W : Wk l Z EL R own bytes maxL ret nm X σ ρ T k n) {i : Int} (v : Int32) (hd : decode bytes pc = .ok (.iconst i, 1)) (hv : Int32.ofInt i = v) (hp : pc + 1 = pc') (r : Go Z EL K N Q X T pc' Ls (.int v :: st)) : Go Z EL K N Q X T pc Ls st :=
  Go.by (fun t kk => XS.iconst W.here W.hx rfl (W.hb hd)  (by subst hp; subst hv; exact kk)) r
theorem Go.bipush (W : Wk l Z EL R own bytes maxL ret nm X σ ρ T k n) {i : Int} (v : Int32) (hd : decode bytes pc = .ok (.bipush i, 2)) (hv : (Int8.ofInt i).toInt32 = v) (hp : pc + 2 = pc') (r : Go Z EL K N Q X T pc' Ls (.int v :: st)) : Go Z EL K N Q X T pc Ls st :=
  Go.by (fun t kk => XS.bipush W.here W.hx rfl (W.hb hd)  (by subst hp; subst hv; exact kk)) r
theorem Go.sipush (W : Wk l Z EL R own bytes maxL ret nm X σ ρ T k n) {i : Int} (v : Int32) (hd : decode bytes pc = .ok (.sipush i, 3)) (hv : (Int16.ofInt i).toInt32 = v) (hp : pc + 3 = pc') (r : Go Z EL K N Q X T pc' Ls (.int v :: st)) : Go Z EL K N Q X T pc Ls st :=
  Go.by (fun t kk => XS.sipush W.here W.hx rfl (W.hb hd)  (by subst hp; subst hv; exact kk)) r
theorem Go.lconst (W : Wk l Z EL R own bytes maxL ret nm X σ ρ T k n) {i : Fin 2} (v : Int64) (hd : decode bytes pc = .ok (.lconst i, 1)) (hv : Int64.ofNat i = v) (hp : pc + 1 = pc') (r : Go Z EL K N Q X T pc' Ls (.long v :: st)) : Go Z EL K N Q X T pc Ls st :=
  Go.by (fun t kk => XT.lconst W.here W.hx rfl (W.hb hd)  (by subst hp; subst hv; exact kk)) r
theorem Go.aconstNull (W : Wk l Z EL R own bytes maxL ret nm X σ ρ T k n)  (hd : decode bytes pc = .ok (.aconst_null, 1))  (hp : pc + 1 = pc') (r : Go Z EL K N Q X T pc' Ls (.null :: st)) : Go Z EL K N Q X T pc Ls st :=
  Go.by (fun t kk => XS.aconstNull W.here W.hx rfl (W.hb hd)  (by subst hp; exact kk)) r
theorem Go.iadd (W : Wk l Z EL R own bytes maxL ret nm X σ ρ T k n) {x y : Int32} (hd : decode bytes pc = .ok (.iadd, 1))  (hp : pc + 1 = pc') (r : Go Z EL K N Q X T pc' Ls (.int (x + y) :: st)) : Go Z EL K N Q X T pc Ls (.int y :: .int x :: st) :=
  Go.by (fun t kk => XS.iadd W.here W.hx rfl (W.hb hd) rfl (by subst hp; exact kk)) r
theorem Go.isub (W : Wk l Z EL R own bytes maxL ret nm X σ ρ T k n) {x y : Int32} (hd : decode bytes pc = .ok (.isub, 1))  (hp : pc + 1 = pc') (r : Go Z EL K N Q X T pc' Ls (.int (x - y) :: st)) : Go Z EL K N Q X T pc Ls (.int y :: .int x :: st) :=
  Go.by (fun t kk => XS.isub W.here W.hx rfl (W.hb hd) rfl (by subst hp; exact kk)) r
theorem Go.imul (W : Wk l Z EL R own bytes maxL ret nm X σ ρ T k n) {x y : Int32} (hd : decode bytes pc = .ok (.imul, 1))  (hp : pc + 1 = pc') (r : Go Z EL K N Q X T pc' Ls (.int (x * y) :: st)) : Go Z EL K N Q X T pc Ls (.int y :: .int x :: st) :=
  Go.by (fun t kk => XS.imul W.here W.hx rfl (W.hb hd) rfl (by subst hp; exact kk)) r
theorem Go.iand (W : Wk l Z EL R own bytes maxL ret nm X σ ρ T k n) {x y : Int32} (hd : decode bytes pc = .ok (.iand, 1))  (hp : pc + 1 = pc') (r : Go Z EL K N Q X T pc' Ls (.int (x &&& y) :: st)) : Go Z EL K N Q X T pc Ls (.int y :: .int x :: st) :=
  Go.by (fun t kk => XS.iand W.here W.hx rfl (W.hb hd) rfl (by subst hp; exact kk)) r
theorem Go.ior (W : Wk l Z EL R own bytes maxL ret nm X σ ρ T k n) {x y : Int32} (hd : decode bytes pc = .ok (.ior, 1))  (hp : pc + 1 = pc') (r : Go Z EL K N Q X T pc' Ls (.int (x ||| y) :: st)) : Go Z EL K N Q X T pc Ls (.int y :: .int x :: st) :=
  Go.by (fun t kk => XT.ior W.here W.hx rfl (W.hb hd) rfl (by subst hp; exact kk)) r
theorem Go.ixor (W : Wk l Z EL R own bytes maxL ret nm X σ ρ T k n) {x y : Int32} (hd : decode bytes pc = .ok (.ixor, 1))  (hp : pc + 1 = pc') (r : Go Z EL K N Q X T pc' Ls (.int (x ^^^ y) :: st)) : Go Z EL K N Q X T pc Ls (.int y :: .int x :: st) :=
  Go.by (fun t kk => XT.ixor W.here W.hx rfl (W.hb hd) rfl (by subst hp; exact kk)) r
theorem Go.ishl (W : Wk l Z EL R own bytes maxL ret nm X σ ρ T k n) {x y : Int32} (hd : decode bytes pc = .ok (.ishl, 1))  (hp : pc + 1 = pc') (r : Go Z EL K N Q X T pc' Ls (.int (x <<< (y &&& 31)) :: st)) : Go Z EL K N Q X T pc Ls (.int y :: .int x :: st) :=
  Go.by (fun t kk => XT.ishl W.here W.hx rfl (W.hb hd) rfl (by subst hp; exact kk)) r
theorem Go.ishr (W : Wk l Z EL R own bytes maxL ret nm X σ ρ T k n) {x y : Int32} (hd : decode bytes pc = .ok (.ishr, 1))  (hp : pc + 1 = pc') (r : Go Z EL K N Q X T pc' Ls (.int (x >>> (y &&& 31)) :: st)) : Go Z EL K N Q X T pc Ls (.int y :: .int x :: st) :=
  Go.by (fun t kk => XT.ishr W.here W.hx rfl (W.hb hd) rfl (by subst hp; exact kk)) r
theorem Go.iushr (W : Wk l Z EL R own bytes maxL ret nm X σ ρ T k n) {x y : Int32} (hd : decode bytes pc = .ok (.iushr, 1))  (hp : pc + 1 = pc') (r : Go Z EL K N Q X T pc' Ls (.int ((x.toUInt32 >>> (y &&& 31).toUInt32).toInt32) :: st)) : Go Z EL K N Q X T pc Ls (.int y :: .int x :: st) :=
  Go.by (fun t kk => XT.iushr W.here W.hx rfl (W.hb hd) rfl (by subst hp; exact kk)) r
theorem Go.idiv (W : Wk l Z EL R own bytes maxL ret nm X σ ρ T k n) {x y : Int32} (hd : decode bytes pc = .ok (.idiv, 1)) (hy : y ≠ 0) (hp : pc + 1 = pc') (r : Go Z EL K N Q X T pc' Ls (.int (x / y) :: st)) : Go Z EL K N Q X T pc Ls (.int y :: .int x :: st) :=
  Go.by (fun t kk => XS.idiv W.here W.hx rfl (W.hb hd) rfl hy (by subst hp; exact kk)) r
theorem Go.irem (W : Wk l Z EL R own bytes maxL ret nm X σ ρ T k n) {x y : Int32} (hd : decode bytes pc = .ok (.irem, 1)) (hy : y ≠ 0) (hp : pc + 1 = pc') (r : Go Z EL K N Q X T pc' Ls (.int (x % y) :: st)) : Go Z EL K N Q X T pc Ls (.int y :: .int x :: st) :=
  Go.by (fun t kk => XS.irem W.here W.hx rfl (W.hb hd) rfl hy (by subst hp; rw [irem_eq_mod x y]; exact kk)) r
theorem Go.ineg (W : Wk l Z EL R own bytes maxL ret nm X σ ρ T k n) {x : Int32} (hd : decode bytes pc = .ok (.ineg, 1))  (hp : pc + 1 = pc') (r : Go Z EL K N Q X T pc' Ls (.int (-x) :: st)) : Go Z EL K N Q X T pc Ls (.int x :: st) :=
  Go.by (fun t kk => XS.ineg W.here W.hx rfl (W.hb hd) rfl (by subst hp; exact kk)) r
theorem Go.i2b (W : Wk l Z EL R own bytes maxL ret nm X σ ρ T k n) {x : Int32} (hd : decode bytes pc = .ok (.i2b, 1))  (hp : pc + 1 = pc') (r : Go Z EL K N Q X T pc' Ls (.int x.toInt8.toInt32 :: st)) : Go Z EL K N Q X T pc Ls (.int x :: st) :=
  Go.by (fun t kk => XT.i2b W.here W.hx rfl (W.hb hd) rfl (by subst hp; exact kk)) r
theorem Go.i2c (W : Wk l Z EL R own bytes maxL ret nm X σ ρ T k n) {x : Int32} (hd : decode bytes pc = .ok (.i2c, 1))  (hp : pc + 1 = pc') (r : Go Z EL K N Q X T pc' Ls (.int x.toUInt32.toUInt16.toUInt32.toInt32 :: st)) : Go Z EL K N Q X T pc Ls (.int x :: st) :=
  Go.by (fun t kk => XT.i2c W.here W.hx rfl (W.hb hd) rfl (by subst hp; exact kk)) r
theorem Go.i2s (W : Wk l Z EL R own bytes maxL ret nm X σ ρ T k n) {x : Int32} (hd : decode bytes pc = .ok (.i2s, 1))  (hp : pc + 1 = pc') (r : Go Z EL K N Q X T pc' Ls (.int x.toInt16.toInt32 :: st)) : Go Z EL K N Q X T pc Ls (.int x :: st) :=
  Go.by (fun t kk => XT.i2s W.here W.hx rfl (W.hb hd) rfl (by subst hp; exact kk)) r
theorem Go.i2l (W : Wk l Z EL R own bytes maxL ret nm X σ ρ T k n) {x : Int32} (hd : decode bytes pc = .ok (.i2l, 1))  (hp : pc + 1 = pc') (r : Go Z EL K N Q X T pc' Ls (.long x.toInt64 :: st)) : Go Z EL K N Q X T pc Ls (.int x :: st) :=
  Go.by (fun t kk => XT.i2l W.here W.hx rfl (W.hb hd) rfl (by subst hp; exact kk)) r
theorem Go.l2i (W : Wk l Z EL R own bytes maxL ret nm X σ ρ T k n) {x : Int64} (hd : decode bytes pc = .ok (.l2i, 1))  (hp : pc + 1 = pc') (r : Go Z EL K N Q X T pc' Ls (.int x.toInt32 :: st)) : Go Z EL K N Q X T pc Ls (.long x :: st) :=
  Go.by (fun t kk => XT.l2i W.here W.hx rfl (W.hb hd) rfl (by subst hp; exact kk)) r
theorem Go.ladd (W : Wk l Z EL R own bytes maxL ret nm X σ ρ T k n) {x y : Int64} (hd : decode bytes pc = .ok (.ladd, 1))  (hp : pc + 1 = pc') (r : Go Z EL K N Q X T pc' Ls (.long (x + y) :: st)) : Go Z EL K N Q X T pc Ls (.long y :: .long x :: st) :=
  Go.by (fun t kk => XT.ladd W.here W.hx rfl (W.hb hd) rfl (by subst hp; exact kk)) r
theorem Go.lsub (W : Wk l Z EL R own bytes maxL ret nm X σ ρ T k n) {x y : Int64} (hd : decode bytes pc = .ok (.lsub, 1))  (hp : pc + 1 = pc') (r : Go Z EL K N Q X T pc' Ls (.long (x - y) :: st)) : Go Z EL K N Q X T pc Ls (.long y :: .long x :: st) :=
  Go.by (fun t kk => XT.lsub W.here W.hx rfl (W.hb hd) rfl (by subst hp; exact kk)) r
theorem Go.lmul (W : Wk l Z EL R own bytes maxL ret nm X σ ρ T k n) {x y : Int64} (hd : decode bytes pc = .ok (.lmul, 1))  (hp : pc + 1 = pc') (r : Go Z EL K N Q X T pc' Ls (.long (x * y) :: st)) : Go Z EL K N Q X T pc Ls (.long y :: .long x :: st) :=
  Go.by (fun t kk => XT.lmul W.here W.hx rfl (W.hb hd) rfl (by subst hp; exact kk)) r
theorem Go.land (W : Wk l Z EL R own bytes maxL ret nm X σ ρ T k n) {x y : Int64} (hd : decode bytes pc = .ok (.land, 1))  (hp : pc + 1 = pc') (r : Go Z EL K N Q X T pc' Ls (.long (x &&& y) :: st)) : Go Z EL K N Q X T pc Ls (.long y :: .long x :: st) :=
  Go.by (fun t kk => XT.land W.here W.hx rfl (W.hb hd) rfl (by subst hp; exact kk)) r
theorem Go.lor (W : Wk l Z EL R own bytes maxL ret nm X σ ρ T k n) {x y : Int64} (hd : decode bytes pc = .ok (.lor, 1))  (hp : pc + 1 = pc') (r : Go Z EL K N Q X T pc' Ls (.long (x ||| y) :: st)) : Go Z EL K N Q X T pc Ls (.long y :: .long x :: st) :=
  Go.by (fun t kk => XT.lor W.here W.hx rfl (W.hb hd) rfl (by subst hp; exact kk)) r
theorem Go.lxor (W : Wk l Z EL R own bytes maxL ret nm X σ ρ T k n) {x y : Int64} (hd : decode bytes pc = .ok (.lxor, 1))  (hp : pc + 1 = pc') (r : Go Z EL K N Q X T pc' Ls (.long (x ^^^ y) :: st)) : Go Z EL K N Q X T pc Ls (.long y :: .long x :: st) :=
  Go.by (fun t kk => XT.lxor W.here W.hx rfl (W.hb hd) rfl (by subst hp; exact kk)) r
theorem Go.ldiv (W : Wk l Z EL R own bytes maxL ret nm X σ ρ T k n) {x y : Int64} (hd : decode bytes pc = .ok (.ldiv, 1)) (hy : y ≠ 0) (hp : pc + 1 = pc') (r : Go Z EL K N Q X T pc' Ls (.long (x / y) :: st)) : Go Z EL K N Q X T pc Ls (.long y :: .long x :: st) :=
  Go.by (fun t kk => XT.ldiv W.here W.hx rfl (W.hb hd) rfl hy (by subst hp; exact kk)) r
theorem Go.lrem (W : Wk l Z EL R own bytes maxL ret nm X σ ρ T k n) {x y : Int64} (hd : decode bytes pc = .ok (.lrem, 1)) (hy : y ≠ 0) (hp : pc + 1 = pc') (r : Go Z EL K N Q X T pc' Ls (.long (x % y) :: st)) : Go Z EL K N Q X T pc Ls (.long y :: .long x :: st) :=
  Go.by (fun t kk => XT.lrem W.here W.hx rfl (W.hb hd) rfl hy (by subst hp; rw [lrem_mod x y]; exact kk)) r
theorem Go.lneg (W : Wk l Z EL R own bytes maxL ret nm X σ ρ T k n) {x : Int64} (hd : decode bytes pc = .ok (.lneg, 1))  (hp : pc + 1 = pc') (r : Go Z EL K N Q X T pc' Ls (.long (-x) :: st)) : Go Z EL K N Q X T pc Ls (.long x :: st) :=
  Go.by (fun t kk => XT.lneg W.here W.hx rfl (W.hb hd) rfl (by subst hp; exact kk)) r
theorem Go.lushr (W : Wk l Z EL R own bytes maxL ret nm X σ ρ T k n) {x : Int64} {y : Int32} (hd : decode bytes pc = .ok (.lushr, 1))  (hp : pc + 1 = pc') (r : Go Z EL K N Q X T pc' Ls (.long (Jvm.Free.XT.ushrL x y) :: st)) : Go Z EL K N Q X T pc Ls (.int y :: .long x :: st) :=
  Go.by (fun t kk => XT.lushr W.here W.hx rfl (W.hb hd) rfl (by subst hp; exact kk)) r
theorem Go.lcmp (W : Wk l Z EL R own bytes maxL ret nm X σ ρ T k n) {x y : Int64} (hd : decode bytes pc = .ok (.lcmp, 1))  (hp : pc + 1 = pc') (r : Go Z EL K N Q X T pc' Ls (.int (lcmpW x y) :: st)) : Go Z EL K N Q X T pc Ls (.long y :: .long x :: st) :=
  Go.by (fun t kk => XT.lcmp W.here W.hx rfl (W.hb hd) rfl (by subst hp; exact kk)) r
theorem Go.dup (W : Wk l Z EL R own bytes maxL ret nm X σ ρ T k n) {x : Value} (hd : decode bytes pc = .ok (.dup, 1)) (hc : x.category = 1) (hp : pc + 1 = pc') (r : Go Z EL K N Q X T pc' Ls (x :: x :: st)) : Go Z EL K N Q X T pc Ls (x :: st) :=
  Go.by (fun t kk => XS.dup W.here W.hx rfl (W.hb hd) rfl hc (by subst hp; exact kk)) r
theorem Go.dupX1 (W : Wk l Z EL R own bytes maxL ret nm X σ ρ T k n) {x y : Value} (hd : decode bytes pc = .ok (.dup_x1, 1)) (hc : x.category = 1) (hc' : y.category = 1) (hp : pc + 1 = pc') (r : Go Z EL K N Q X T pc' Ls (x :: y :: x :: st)) : Go Z EL K N Q X T pc Ls (x :: y :: st) :=
  Go.by (fun t kk => XT.dupX1 W.here W.hx rfl (W.hb hd) rfl hc hc' (by subst hp; exact kk)) r
theorem Go.dup2 (W : Wk l Z EL R own bytes maxL ret nm X σ ρ T k n) {x y : Value} (hd : decode bytes pc = .ok (.dup2, 1)) (hc : x.category = 1) (hc' : y.category = 1) (hp : pc + 1 = pc') (r : Go Z EL K N Q X T pc' Ls (x :: y :: x :: y :: st)) : Go Z EL K N Q X T pc Ls (x :: y :: st) :=
  Go.by (fun t kk => XT.dup2 W.here W.hx rfl (W.hb hd) rfl hc hc' (by subst hp; exact kk)) r
theorem Go.pop (W : Wk l Z EL R own bytes maxL ret nm X σ ρ T k n) {x : Value} (hd : decode bytes pc = .ok (.pop, 1)) (hc : x.category = 1) (hp : pc + 1 = pc') (r : Go Z EL K N Q X T pc' Ls st) : Go Z EL K N Q X T pc Ls (x :: st) :=
  Go.by (fun t kk => XT.pop W.here W.hx rfl (W.hb hd) rfl hc (by subst hp; exact kk)) r
theorem Go.iinc (W : Wk l Z EL R own bytes maxL ret nm X σ ρ T k n) {k' : Nat} {cst : Int} {x : Int32} (v : Int32) (Ls' : Array Slot) (hd : decode bytes pc = .ok (.iinc k' cst, 3)) (hl : Ls[k']? = some (.val (.int x))) (hv : Int32.ofInt cst = v) (hl' : storeLocals Ls k' (.int (x + v)) = some Ls') (hp : pc + 3 = pc') (r : Go Z EL K N Q X T pc' Ls' st) : Go Z EL K N Q X T pc Ls st :=
  Go.by (fun t kk => XS.iinc W.here W.hx rfl (W.hb hd) hl (by rw [hv]; exact hl') (by subst hp; exact kk)) r
theorem Go.goto (W : Wk l Z EL R own bytes maxL ret nm X σ ρ T k n) {o : Int} (pcY : Nat) (hd : decode bytes pc = .ok (.goto o, 3)) (hy : (pc : Int) + o = (pcY : Nat)) (r : Go Z EL K N Q X T pcY Ls st) : Go Z EL K N Q X T pc Ls st :=
  Go.by (fun t kk => XS.goto W.here W.hx rfl (pc0 := pc) (pc' := pcY) rfl (W.hb hd) (by omega) (by omega) kk) r
theorem Go.icmp_eq (W : Wk l Z EL R own bytes maxL ret nm X σ ρ T k n) {x y : Int32} {o : Int} (pcY : Nat) (hd : decode bytes pc = .ok (.if_icmp .eq o, 3)) (hy : (pc : Int) + o = (pcY : Nat)) (hp : pc + 3 = pc') (rY : (x = y) → Go Z EL K N Q X T pcY Ls st) (rN : (¬ x = y) → Go Z EL K N Q X T pc' Ls st) : Go Z EL K N Q X T pc Ls (.int y :: .int x :: st) := by
  by_cases q : x = y
  · exact Go.by (fun t kk => XS.icmpYes W.here W.hx rfl (pc0 := pc) (pc' := pcY) rfl (W.hb hd) rfl (teq q).1 (by omega) (by omega) kk) (rY q)
  · exact Go.by (fun t kk => XS.icmpNo W.here W.hx rfl (W.hb hd) rfl (feq q).1 (by subst hp; exact kk)) (rN q)
theorem Go.if_eq (W : Wk l Z EL R own bytes maxL ret nm X σ ρ T k n) {x : Int32} {o : Int} (pcY : Nat) (hd : decode bytes pc = .ok (.ifCond .eq o, 3)) (hy : (pc : Int) + o = (pcY : Nat)) (hp : pc + 3 = pc') (rY : (x = 0) → Go Z EL K N Q X T pcY Ls st) (rN : (¬ x = 0) → Go Z EL K N Q X T pc' Ls st) : Go Z EL K N Q X T pc Ls (.int x :: st) := by
  by_cases q : x = 0
  · exact Go.by (fun t kk => XS.ifYes W.here W.hx rfl (pc0 := pc) (pc' := pcY) rfl (W.hb hd) rfl ((if0 .eq x).trans (teq q).1) (by omega) (by omega) kk) (rY q)
  · exact Go.by (fun t kk => XS.ifNo W.here W.hx rfl (W.hb hd) rfl ((if0 .eq x).trans (feq q).1) (by subst hp; exact kk)) (rN q)
theorem Go.icmp_ne (W : Wk l Z EL R own bytes maxL ret nm X σ ρ T k n) {x y : Int32} {o : Int} (pcY : Nat) (hd : decode bytes pc = .ok (.if_icmp .ne o, 3)) (hy : (pc : Int) + o = (pcY : Nat)) (hp : pc + 3 = pc') (rY : (¬ x = y) → Go Z EL K N Q X T pcY Ls st) (rN : (x = y) → Go Z EL K N Q X T pc' Ls st) : Go Z EL K N Q X T pc Ls (.int y :: .int x :: st) := by
  by_cases q : x = y
  · exact Go.by (fun t kk => XS.icmpNo W.here W.hx rfl (W.hb hd) rfl (teq q).2 (by subst hp; exact kk)) (rN q)
  · exact Go.by (fun t kk => XS.icmpYes W.here W.hx rfl (pc0 := pc) (pc' := pcY) rfl (W.hb hd) rfl (feq q).2 (by omega) (by omega) kk) (rY q)
theorem Go.if_ne (W : Wk l Z EL R own bytes maxL ret nm X σ ρ T k n) {x : Int32} {o : Int} (pcY : Nat) (hd : decode bytes pc = .ok (.ifCond .ne o, 3)) (hy : (pc : Int) + o = (pcY : Nat)) (hp : pc + 3 = pc') (rY : (¬ x = 0) → Go Z EL K N Q X T pcY Ls st) (rN : (x = 0) → Go Z EL K N Q X T pc' Ls st) : Go Z EL K N Q X T pc Ls (.int x :: st) := by
  by_cases q : x = 0
  · exact Go.by (fun t kk => XS.ifNo W.here W.hx rfl (W.hb hd) rfl ((if0 .ne x).trans (teq q).2) (by subst hp; exact kk)) (rN q)
  · exact Go.by (fun t kk => XS.ifYes W.here W.hx rfl (pc0 := pc) (pc' := pcY) rfl (W.hb hd) rfl ((if0 .ne x).trans (feq q).2) (by omega) (by omega) kk) (rY q)
theorem Go.icmp_lt (W : Wk l Z EL R own bytes maxL ret nm X σ ρ T k n) {x y : Int32} {o : Int} (pcY : Nat) (hd : decode bytes pc = .ok (.if_icmp .lt o, 3)) (hy : (pc : Int) + o = (pcY : Nat)) (hp : pc + 3 = pc') (rY : (x < y) → Go Z EL K N Q X T pcY Ls st) (rN : (¬ x < y) → Go Z EL K N Q X T pc' Ls st) : Go Z EL K N Q X T pc Ls (.int y :: .int x :: st) := by
  by_cases q : x < y
  · exact Go.by (fun t kk => XS.icmpYes W.here W.hx rfl (pc0 := pc) (pc' := pcY) rfl (W.hb hd) rfl (tlt q).1 (by omega) (by omega) kk) (rY q)
  · exact Go.by (fun t kk => XS.icmpNo W.here W.hx rfl (W.hb hd) rfl (flt q).1 (by subst hp; exact kk)) (rN q)
theorem Go.if_lt (W : Wk l Z EL R own bytes maxL ret nm X σ ρ T k n) {x : Int32} {o : Int} (pcY : Nat) (hd : decode bytes pc = .ok (.ifCond .lt o, 3)) (hy : (pc : Int) + o = (pcY : Nat)) (hp : pc + 3 = pc') (rY : (x < 0) → Go Z EL K N Q X T pcY Ls st) (rN : (¬ x < 0) → Go Z EL K N Q X T pc' Ls st) : Go Z EL K N Q X T pc Ls (.int x :: st) := by
  by_cases q : x < 0
  · exact Go.by (fun t kk => XS.ifYes W.here W.hx rfl (pc0 := pc) (pc' := pcY) rfl (W.hb hd) rfl ((if0 .lt x).trans (tlt q).1) (by omega) (by omega) kk) (rY q)
  · exact Go.by (fun t kk => XS.ifNo W.here W.hx rfl (W.hb hd) rfl ((if0 .lt x).trans (flt q).1) (by subst hp; exact kk)) (rN q)
theorem Go.icmp_ge (W : Wk l Z EL R own bytes maxL ret nm X σ ρ T k n) {x y : Int32} {o : Int} (pcY : Nat) (hd : decode bytes pc = .ok (.if_icmp .ge o, 3)) (hy : (pc : Int) + o = (pcY : Nat)) (hp : pc + 3 = pc') (rY : (¬ x < y) → Go Z EL K N Q X T pcY Ls st) (rN : (x < y) → Go Z EL K N Q X T pc' Ls st) : Go Z EL K N Q X T pc Ls (.int y :: .int x :: st) := by
  by_cases q : x < y
  · exact Go.by (fun t kk => XS.icmpNo W.here W.hx rfl (W.hb hd) rfl (tlt q).2.1 (by subst hp; exact kk)) (rN q)
  · exact Go.by (fun t kk => XS.icmpYes W.here W.hx rfl (pc0 := pc) (pc' := pcY) rfl (W.hb hd) rfl (flt q).2.1 (by omega) (by omega) kk) (rY q)
theorem Go.if_ge (W : Wk l Z EL R own bytes maxL ret nm X σ ρ T k n) {x : Int32} {o : Int} (pcY : Nat) (hd : decode bytes pc = .ok (.ifCond .ge o, 3)) (hy : (pc : Int) + o = (pcY : Nat)) (hp : pc + 3 = pc') (rY : (¬ x < 0) → Go Z EL K N Q X T pcY Ls st) (rN : (x < 0) → Go Z EL K N Q X T pc' Ls st) : Go Z EL K N Q X T pc Ls (.int x :: st) := by
  by_cases q : x < 0
  · exact Go.by (fun t kk => XS.ifNo W.here W.hx rfl (W.hb hd) rfl ((if0 .ge x).trans (tlt q).2.1) (by subst hp; exact kk)) (rN q)
  · exact Go.by (fun t kk => XS.ifYes W.here W.hx rfl (pc0 := pc) (pc' := pcY) rfl (W.hb hd) rfl ((if0 .ge x).trans (flt q).2.1) (by omega) (by omega) kk) (rY q)
theorem Go.icmp_gt (W : Wk l Z EL R own bytes maxL ret nm X σ ρ T k n) {x y : Int32} {o : Int} (pcY : Nat) (hd : decode bytes pc = .ok (.if_icmp .gt o, 3)) (hy : (pc : Int) + o = (pcY : Nat)) (hp : pc + 3 = pc') (rY : (y < x) → Go Z EL K N Q X T pcY Ls st) (rN : (¬ y < x) → Go Z EL K N Q X T pc' Ls st) : Go Z EL K N Q X T pc Ls (.int y :: .int x :: st) := by
  by_cases q : y < x
  · exact Go.by (fun t kk => XS.icmpYes W.here W.hx rfl (pc0 := pc) (pc' := pcY) rfl (W.hb hd) rfl (tlt q).2.2.1 (by omega) (by omega) kk) (rY q)
  · exact Go.by (fun t kk => XS.icmpNo W.here W.hx rfl (W.hb hd) rfl (flt q).2.2.1 (by subst hp; exact kk)) (rN q)
theorem Go.if_gt (W : Wk l Z EL R own bytes maxL ret nm X σ ρ T k n) {x : Int32} {o : Int} (pcY : Nat) (hd : decode bytes pc = .ok (.ifCond .gt o, 3)) (hy : (pc : Int) + o = (pcY : Nat)) (hp : pc + 3 = pc') (rY : (0 < x) → Go Z EL K N Q X T pcY Ls st) (rN : (¬ 0 < x) → Go Z EL K N Q X T pc' Ls st) : Go Z EL K N Q X T pc Ls (.int x :: st) := by
  by_cases q : 0 < x
  · exact Go.by (fun t kk => XS.ifYes W.here W.hx rfl (pc0 := pc) (pc' := pcY) rfl (W.hb hd) rfl ((if0 .gt x).trans (tlt q).2.2.1) (by omega) (by omega) kk) (rY q)
  · exact Go.by (fun t kk => XS.ifNo W.here W.hx rfl (W.hb hd) rfl ((if0 .gt x).trans (flt q).2.2.1) (by subst hp; exact kk)) (rN q)
theorem Go.icmp_le (W : Wk l Z EL R own bytes maxL ret nm X σ ρ T k n) {x y : Int32} {o : Int} (pcY : Nat) (hd : decode bytes pc = .ok (.if_icmp .le o, 3)) (hy : (pc : Int) + o = (pcY : Nat)) (hp : pc + 3 = pc') (rY : (¬ y < x) → Go Z EL K N Q X T pcY Ls st) (rN : (y < x) → Go Z EL K N Q X T pc' Ls st) : Go Z EL K N Q X T pc Ls (.int y :: .int x :: st) := by
  by_cases q : y < x
  · exact Go.by (fun t kk => XS.icmpNo W.here W.hx rfl (W.hb hd) rfl (tlt q).2.2.2 (by subst hp; exact kk)) (rN q)
  · exact Go.by (fun t kk => XS.icmpYes W.here W.hx rfl (pc0 := pc) (pc' := pcY) rfl (W.hb hd) rfl (flt q).2.2.2 (by omega) (by omega) kk) (rY q)
theorem Go.if_le (W : Wk l Z EL R own bytes maxL ret nm X σ ρ T k n) {x : Int32} {o : Int} (pcY : Nat) (hd : decode bytes pc = .ok (.ifCond .le o, 3)) (hy : (pc : Int) + o = (pcY : Nat)) (hp : pc + 3 = pc') (rY : (¬ 0 < x) → Go Z EL K N Q X T pcY Ls st) (rN : (0 < x) → Go Z EL K N Q X T pc' Ls st) : Go Z EL K N Q X T pc Ls (.int x :: st) := by
  by_cases q : 0 < x
  · exact Go.by (fun t kk => XS.ifNo W.here W.hx rfl (W.hb hd) rfl ((if0 .le x).trans (tlt q).2.2.2) (by subst hp; exact kk)) (rN q)
  · exact Go.by (fun t kk => XS.ifYes W.here W.hx rfl (pc0 := pc) (pc' := pcY) rfl (W.hb hd) rfl ((if0 .le x).trans (flt q).2.2.2) (by omega) (by omega) kk) (rY q)
theorem Go.ifnull_yes (W : Wk l Z EL R own bytes maxL ret nm X σ ρ T k n) {o : Int} (pcY : Nat) (hd : decode bytes pc = .ok (.ifnull o, 3)) (hy : (pc : Int) + o = (pcY : Nat)) (r : Go Z EL K N Q X T pcY Ls st) : Go Z EL K N Q X T pc Ls (.null :: st) :=
  Go.by (fun t kk => XS.ifnullYes W.here W.hx rfl (pc0 := pc) (pc' := pcY) rfl (W.hb hd) rfl (by omega) (by omega) kk) r
theorem Go.ifnull_no (W : Wk l Z EL R own bytes maxL ret nm X σ ρ T k n) {b : Addr} {o : Int} (hd : decode bytes pc = .ok (.ifnull o, 3)) (hp : pc + 3 = pc') (r : Go Z EL K N Q X T pc' Ls st) : Go Z EL K N Q X T pc Ls (.ref b :: st) :=
  Go.by (fun t kk => XS.ifnullNo W.here W.hx rfl (W.hb hd) rfl (by subst hp; exact kk)) r
theorem Go.ifnonnull_yes (W : Wk l Z EL R own bytes maxL ret nm X σ ρ T k n) {b : Addr} {o : Int} (pcY : Nat) (hd : decode bytes pc = .ok (.ifnonnull o, 3)) (hy : (pc : Int) + o = (pcY : Nat)) (r : Go Z EL K N Q X T pcY Ls st) : Go Z EL K N Q X T pc Ls (.ref b :: st) :=
  Go.by (fun t kk => XT.ifnonnullYes W.here W.hx rfl (pc0 := pc) (pc' := pcY) rfl (W.hb hd) rfl (by omega) (by omega) kk) r
theorem Go.ifnonnull_no (W : Wk l Z EL R own bytes maxL ret nm X σ ρ T k n) {o : Int} (hd : decode bytes pc = .ok (.ifnonnull o, 3)) (hp : pc + 3 = pc') (r : Go Z EL K N Q X T pc' Ls st) : Go Z EL K N Q X T pc Ls (.null :: st) :=
  Go.by (fun t kk => XT.ifnonnullNo W.here W.hx rfl (W.hb hd) rfl (by subst hp; exact kk)) r
end StepLaws
/-! ## own: what is known of one cell -/
def ObjC (Z : State) (c : Cell) (C : String) : Prop := ∃ k : Class, Z.vm.findClass C = some c.cls ∧ Z.vm.classes[c.cls]? = some k ∧ c.vm.isStatics = false ∧ (k.kind = .ordinary → c.slots.size = k.instanceTypes.size)
def FldC (Z : State) (c : Cell) (C n d : String) (v : Value) : Prop := ∃ (cf : ClassId) (k : Class) (i : Nat) (f : Field), Z.fieldFound? C n d = some (cf, k, i, f) ∧ f.isStatic = false ∧ c.vm ≠ .unknown ∧ c.vm.isStatics = false ∧ Z.vm.assignable c.cls cf = true ∧ c.slots[f.slot]? = some v
def ArrC (Z : State) (c : Cell) (ty : FieldType) (vs : List Value) : Prop := Z.isArrayOf c ty ∧ c.vm ≠ .unknown ∧ c.slots.toList = vs ∧ (∀ v ∈ vs, fits ty v = true) ∧ vs.length < 2147483648
section CellLaws
variable {Z : State} {c c' : Cell} {C n d C' n' d' : String} {v w : Value} {h : Heap} {a : Addr} {ty : FieldType} {vs : List Value}
theorem ObjC.exa (F : ObjC Z c C) (ha : h[a]? = some c) : Exa Z h a C := by obtain ⟨k, h1, h2, h3, h4⟩ := F; exact ⟨c, k, ha, h1, h2, h3, h4⟩
theorem ObjC.of (F : Exa Z h a C) (ha : h[a]? = some c) : ObjC Z c C := by
  obtain ⟨c', k, h0, h1, h2, h3, h4⟩ := F
  cases ha.symm.trans h0
  exact ⟨k, h1, h2, h3, h4⟩
theorem FldC.fld (F : FldC Z c C n d v) (ha : h[a]? = some c) : Fld Z h a C n d v := by obtain ⟨cf, k, i, f, r⟩ := F; exact ⟨c, cf, k, i, f, ha, r⟩
theorem FldC.of (F : Fld Z h a C n d v) (ha : h[a]? = some c) : FldC Z c C n d v := by
  obtain ⟨c', cf, k, i, f, h0, r⟩ := F
  cases ha.symm.trans h0
  exact ⟨cf, k, i, f, r⟩
theorem ArrC.arr (F : ArrC Z c ty vs) (ha : h[a]? = some c) : Arr Z h a c ty := ⟨ha, F.1, F.2.1⟩
theorem ArrC.size (F : ArrC Z c ty vs) : c.slots.size = vs.length := by rw [← F.2.2.1]; simp
theorem ArrC.get (F : ArrC Z c ty vs) (i : Nat) : c.slots[i]? = vs[i]? := by rw [← F.2.2.1]; simp
theorem FldC.put {v' : Value} (F : FldC Z c C n d v) : FldC Z (c.setSlot (Jvm.RoadKit.slotOf Z C n d) v') C n d v' := by
  obtain ⟨cf, k, i, f, h1, h2, h3, h4, h5, h6⟩ := F
  have hlt := (Array.getElem?_eq_some_iff.mp h6).1
  exact ⟨cf, k, i, f, h1, h2, h3, h4, h5, by simp [Cell.setSlot, Jvm.RoadKit.slotOf, h1, hlt]⟩
theorem FldC.keep {sl : Nat} {v' : Value} (F : FldC Z c C n d v) (hne : Jvm.RoadKit.slotOf Z C n d ≠ sl) : FldC Z (c.setSlot sl v') C n d v := by
  obtain ⟨cf, k, i, f, h1, h2, h3, h4, h5, h6⟩ := F
  have e : Jvm.RoadKit.slotOf Z C n d = f.slot := by simp [Jvm.RoadKit.slotOf, h1]
  rw [e] at hne
  exact ⟨cf, k, i, f, h1, h2, h3, h4, h5, by show (c.slots.setIfInBounds sl v')[f.slot]? = _; rw [Array.getElem?_setIfInBounds_ne (Ne.symm hne)]; exact h6⟩
theorem ObjC.put {sl : Nat} {v' : Value} (F : ObjC Z c C) : ObjC Z (c.setSlot sl v') C := by
  obtain ⟨k, h1, h2, h3, h4⟩ := F
  exact ⟨k, h1, h2, h3, fun q => by rw [← h4 q]; simp [Cell.setSlot]⟩
theorem FldC.put' {v' : Value} (F : FldC Z c C n d v) (e : c' = c.setSlot (Jvm.RoadKit.slotOf Z C n d) v') : FldC Z c' C n d v' := e ▸ F.put
theorem FldC.keep' {sl : Nat} {v' : Value} (F : FldC Z c C n d v) (e : c' = c.setSlot sl v') (hne : Jvm.RoadKit.slotOf Z C n d ≠ sl) : FldC Z c' C n d v := e ▸ F.keep hne
theorem ObjC.put' {sl : Nat} {v' : Value} (F : ObjC Z c C) (e : c' = c.setSlot sl v') : ObjC Z c' C := e ▸ F.put
theorem fits_isref (ht : ty.isReference = true) (hv : v.isRef = true) : fits ty v = true := by cases ty <;> first | (cases ht; done) | (cases v <;> first | (cases hv; done) | rfl)
theorem ArrC.put {i : Nat} {v' : Value} (F : ArrC Z c ty vs) (hf : fits ty v' = true) : ArrC Z (c.setSlot i v') ty (vs.set i v') := by
  obtain ⟨h1, h2, h3, h4, h5⟩ := F
  refine ⟨h1, h2, by simp [Cell.setSlot, h3], fun v hv => ?_, by simpa using h5⟩
  rcases List.mem_or_eq_of_mem_set hv with q | q
  · exact h4 v q
  · rw [q]; exact hf
end CellLaws
/-! ## own: steps that read or make or write cells, and calls, in the Go form -/
section HeapLaws
variable {l : Launch} {Z : State} {a0 : Array Value} {EL : List (String × Nat)} {R : Room} {own : String} {bytes : ByteArray} {maxL : Nat} {ret : Option FieldType} {nm : String} {X : Ctx} {σ ρ : HL} {T : State} {k n K N : Nat} {Q : Option Value → HL → HL → Prop} {pc pc' : Nat} {Ls : Array Slot} {st : List Value} {a : Addr} {c : Cell} {vs : List Value}
theorem Go.new (W : Wk l Z EL R own bytes maxL ret nm X σ ρ T k n) {C : String} {ix cnt : Nat} (w : (Jvm.Cond.classLink own ix C).before a0 Z = true) (wi : (Jvm.Cond.instantiable C cnt).before a0 Z = true) (wz : (Jvm.Cond.initialized C).before a0 Z = true)
    (hd : decode bytes pc = .ok (.new ix, 3)) (hp : pc + 3 = pc') (hk : k + 1 ≤ R.cells) (hn : n + cnt ≤ R.slots)
    (r : ∀ (T' : State) (a : Addr) (c : Cell), Wk l Z EL R own bytes maxL ret nm X ((a, c) :: σ) ρ T' (k + 1) (n + cnt) → ObjC Z c C → (∀ {O nm d : String} {ty : FieldType}, Laid Z a0 C O nm d → parseFieldDescriptor d = some ty → FldC Z c O nm d (defaultValue ty)) → Go Z EL K N Q X T' pc' Ls (.ref a :: st)) :
    Go Z EL K N Q X T pc Ls st := by
  obtain ⟨w0, vm0, k0, locs, Y, hS, hk0, hZ, hown, hFr, H⟩ := W
  obtain ⟨T', h', Y', e', E, A, D, ⟨cl, hcl, -⟩, stp⟩ := newO Y w0.1 hZ hown w wi wz rfl (g := mkF X.m pc Ls st) rfl (by rw [w0.2.1]; exact hd) hk hn
  subst e'
  refine Go.by stp (by subst hp; exact r T' T.heap.size cl ⟨w0, vm0, k0, locs, Y', hS, Nat.le_trans hk0 E.1, hZ, hown, hFr, H.alloc E hcl⟩ (ObjC.of A hcl) fun L ht => FldC.of (D L ht) hcl)
theorem fits_default (ty : FieldType) : fits ty (defaultValue ty) = true := by cases ty <;> rfl
theorem Go.newarr (W : Wk l Z EL R own bytes maxL ret nm X σ ρ T k n) {aty : ArrayType} {z : Int32} (ty : FieldType) (hty : newarray.typeOf aty = ty) (len : Nat) (w : (Jvm.Cond.arrayClass ty).before a0 Z = true) (hd : decode bytes pc = .ok (.newarray aty, 2)) (hp : pc + 2 = pc')
    (hz : ¬ z < 0) (hl : z.toNatClampNeg = len) (hb : len * 8 ≤ 536870912) (hk : k + 1 ≤ R.cells) (hn : n + len ≤ R.slots)
    (r : ∀ (T' : State) (a : Addr) (c : Cell), Wk l Z EL R own bytes maxL ret nm X ((a, c) :: σ) ρ T' (k + 1) (n + len) → ArrC Z c ty (List.replicate len (defaultValue ty)) → Go Z EL K N Q X T' pc' Ls (.ref a :: st)) :
    Go Z EL K N Q X T pc Ls (.int z :: st) := by
  subst hty
  obtain ⟨w0, vm0, k0, locs, Y, hS, hk0, hZ, hown, hFr, H⟩ := W
  obtain ⟨T', h', cA, Y', e', E, A, stp⟩ := newP Y w0.1 hZ w rfl (g := mkF X.m pc Ls (.int z :: st)) rfl (by rw [w0.2.1]; exact hd) rfl hz (cap := len) (Nat.le_of_eq hl) hb hk hn
  subst e' hp
  have hfd : ∀ v ∈ List.replicate len (defaultValue (newarray.typeOf aty)), fits (newarray.typeOf aty) v = true := fun v hv => by rw [(List.mem_replicate.mp hv).2]; exact fits_default _
  exact Go.by stp (r T' T.heap.size _ ⟨w0, vm0, k0, locs, Y', hS, Nat.le_trans hk0 E.1, hZ, hown, hFr, H.alloc E A.1⟩ ⟨A.2.1, A.2.2, by simp [newA, hl], hfd, by simp; omega⟩)
theorem Go.arrlen (W : Wk l Z EL R own bytes maxL ret nm X σ ρ T k n) (hm : (a, c) ∈ σ ∨ (a, c) ∈ ρ ∨ Z.heap[a]? = some c) {ty : FieldType} (A : ArrC Z c ty vs) (z : Int32) (hz : vs.length.toInt32 = z) (hd : decode bytes pc = .ok (.arraylength, 1)) (hp : pc + 1 = pc')
    (r : Go Z EL K N Q X T pc' Ls (.int z :: st)) : Go Z EL K N Q X T pc Ls (.ref a :: st) := by
  have hc := W.cell hm
  obtain ⟨w0, vm0, k0, locs, Y, hS, hk0, hZ, hown, hFr, H⟩ := W
  refine Go.by (fun t kk => Y.arraylength w0.1 (cell := c) hc (State.isArrayOf_alike hZ.alike A.1) (g := mkF X.m pc Ls (.ref a :: st)) rfl rfl (by rw [w0.2.1]; exact hd) t ?_) r
  rw [A.size, hz]; subst hp; exact kk
theorem arr_in' {ty : FieldType} (A : ArrC Z c ty vs) {j : Int32} {i : Nat} (hj : ¬ j < 0) (hi : j.toNatClampNeg = i) (hl : i < vs.length) : ¬ (j < 0 ∨ c.slots.size ≤ j.toNatClampNeg) := by
  rw [A.size, hi]; rintro (q | q)
  · exact hj q
  · omega
theorem Go.caload (W : Wk l Z EL R own bytes maxL ret nm X σ ρ T k n) (hm : (a, c) ∈ σ ∨ (a, c) ∈ ρ ∨ Z.heap[a]? = some c) (A : ArrC Z c .char vs) {j : Int32} (i : Nat) {v : Value} (hj : ¬ j < 0) (hi : j.toNatClampNeg = i) (hv : vs[i]? = some v) (hd : decode bytes pc = .ok (.caload, 1)) (hp : pc + 1 = pc')
    (r : Go Z EL K N Q X T pc' Ls (v :: st)) : Go Z EL K N Q X T pc Ls (.int j :: .ref a :: st) := by
  have hc := W.cell hm
  obtain ⟨w0, vm0, k0, locs, Y, hS, hk0, hZ, hown, hFr, H⟩ := W
  exact Go.by (fun t kk => Y.caload w0.1 hc (State.isArrayOf_alike hZ.alike A.1) A.2.1 (arr_in' A hj hi (List.getElem?_eq_some_iff.mp hv).1) (by rw [hi, A.get, hv]) (g := mkF X.m pc Ls (.int j :: .ref a :: st)) rfl rfl (by rw [w0.2.1]; exact hd) t (by subst hp; exact kk)) r
theorem Go.baload (W : Wk l Z EL R own bytes maxL ret nm X σ ρ T k n) (hm : (a, c) ∈ σ ∨ (a, c) ∈ ρ ∨ Z.heap[a]? = some c) (A : ArrC Z c .byte vs) {j : Int32} (i : Nat) {v : Value} (hj : ¬ j < 0) (hi : j.toNatClampNeg = i) (hv : vs[i]? = some v) (hd : decode bytes pc = .ok (.baload, 1)) (hp : pc + 1 = pc')
    (r : Go Z EL K N Q X T pc' Ls (v :: st)) : Go Z EL K N Q X T pc Ls (.int j :: .ref a :: st) := by
  have hc := W.cell hm
  obtain ⟨w0, vm0, k0, locs, Y, hS, hk0, hZ, hown, hFr, H⟩ := W
  exact Go.by (fun t kk => Y.baloadBytes w0.1 hc (State.isArrayOf_alike hZ.alike A.1) A.2.1 (arr_in' A hj hi (List.getElem?_eq_some_iff.mp hv).1) (by rw [hi, A.get, hv]) (g := mkF X.m pc Ls (.int j :: .ref a :: st)) rfl rfl (by rw [w0.2.1]; exact hd) t (by subst hp; exact kk)) r
theorem Go.aaload (W : Wk l Z EL R own bytes maxL ret nm X σ ρ T k n) (hm : (a, c) ∈ σ ∨ (a, c) ∈ ρ ∨ Z.heap[a]? = some c) {ty : FieldType} (A : ArrC Z c ty vs) (hty : ty.isReference = true) {j : Int32} (i : Nat) {v : Value} (hj : ¬ j < 0) (hi : j.toNatClampNeg = i) (hv : vs[i]? = some v) (hd : decode bytes pc = .ok (.aaload, 1)) (hp : pc + 1 = pc')
    (r : Go Z EL K N Q X T pc' Ls (v :: st)) : Go Z EL K N Q X T pc Ls (.int j :: .ref a :: st) := by
  have hc := W.cell hm
  obtain ⟨w0, vm0, k0, locs, Y, hS, hk0, hZ, hown, hFr, H⟩ := W
  exact Go.by (fun t kk => Y.aaload w0.1 hc (State.isArrayOf_alike hZ.alike A.1) hty A.2.1 (arr_in' A hj hi (List.getElem?_eq_some_iff.mp hv).1) (by rw [hi, A.get, hv]) (g := mkF X.m pc Ls (.int j :: .ref a :: st)) rfl rfl (by rw [w0.2.1]; exact hd) t (by subst hp; exact kk)) r
/-- the step of one write: the point behind it -/
theorem Wk.wrote (W : Wk l Z EL R own bytes maxL ret nm X σ ρ T k n) {i : Nat} (hi : σ[i]? = some (a, c)) {vm0 : Vm} {k0 : Nat} {locs : List Loc} {T' : State} {sl : Nat} {v : Value}
    (hS : X.s.Since vm0 k0) (hk0 : k0 ≤ T.heap.size) (hZ : Z.Warmed39 vm0) (hown : vm0.findClass own = some X.m.cls) (hFr : Fr Z.heap.size locs) (H : Hp Z EL X.so X.ro X.s σ ρ vm0 T.heap)
    (Y' : Stand X.p l X.e R (X.s.setVm vm0) X.m X.args X.below X.meth X.c T' (locs ++ [⟨a, sl⟩]) k n) (Wr' : Wr T.heap T'.heap a sl v) : Wk l Z EL R own bytes maxL ret nm X (σ.set i (a, c.setSlot sl v)) ρ T' k n := by
  obtain ⟨cl, h1, -, -, h4⟩ := Wr'
  have hmem : (a, c) ∈ σ := List.mem_of_getElem? hi
  cases (H.2.1 _ hmem).symm.trans h1
  exact ⟨W.1, vm0, k0, _, Y', hS, by rw [h4]; simpa using hk0, hZ, hown, hFr.app fun y hy => by cases List.mem_singleton.mp hy; exact (H.2.2.2.2.1 _ hmem).1, H.write hi h4⟩
theorem Go.castore (W : Wk l Z EL R own bytes maxL ret nm X σ ρ T k n) (ix : Nat) (hm : σ[ix]? = some (a, c)) (A : ArrC Z c .char vs) {j x : Int32} (i : Nat) (x' : Int32) (hx : nar .char x = x') (hj : ¬ j < 0) (hi : j.toNatClampNeg = i) (hl : i < vs.length) (hd : decode bytes pc = .ok (.castore, 1)) (hp : pc + 1 = pc')
    (r : ∀ (T' : State) (c' : Cell), Wk l Z EL R own bytes maxL ret nm X (σ.set ix (a, c')) ρ T' k n → ArrC Z c' .char (vs.set i (.int x')) → Go Z EL K N Q X T' pc' Ls st) : Go Z EL K N Q X T pc Ls (.int x :: .int j :: .ref a :: st) := by
  have hc := W.cell (Or.inl (List.mem_of_getElem? hm))
  have W1 := W
  obtain ⟨w0, vm0, k0, locs, Y, hS, hk0, hZ, hown, hFr, H⟩ := W
  obtain ⟨T', h', Y', e', Wr', stp⟩ := stC Y w0.1 hZ rfl (A.arr hc) (arr_in' A hj hi hl) (g := mkF X.m pc Ls (.int x :: .int j :: .ref a :: st)) rfl rfl (by rw [w0.2.1]; exact hd)
  subst e' hp hi hx
  exact Go.by stp (r T' _ (W1.wrote hm hS hk0 hZ hown hFr H Y' Wr') (A.put (fits_nar_char x)))
theorem Go.bastore (W : Wk l Z EL R own bytes maxL ret nm X σ ρ T k n) (ix : Nat) (hm : σ[ix]? = some (a, c)) (A : ArrC Z c .byte vs) {j x : Int32} (i : Nat) (hj : ¬ j < 0) (hi : j.toNatClampNeg = i) (hl : i < vs.length) (hd : decode bytes pc = .ok (.bastore, 1)) (hp : pc + 1 = pc')
    (r : ∀ (T' : State) (c' : Cell), Wk l Z EL R own bytes maxL ret nm X (σ.set ix (a, c')) ρ T' k n → ArrC Z c' .byte (vs.set i (.int x.toInt8.toInt32)) → Go Z EL K N Q X T' pc' Ls st) : Go Z EL K N Q X T pc Ls (.int x :: .int j :: .ref a :: st) := by
  have hc := W.cell (Or.inl (List.mem_of_getElem? hm))
  have W1 := W
  obtain ⟨w0, vm0, k0, locs, Y, hS, hk0, hZ, hown, hFr, H⟩ := W
  obtain ⟨T', h', Y', e', Wr', stp⟩ := stB Y w0.1 hZ rfl (A.arr hc) (arr_in' A hj hi hl) (g := mkF X.m pc Ls (.int x :: .int j :: .ref a :: st)) rfl rfl (by rw [w0.2.1]; exact hd)
  subst e' hp hi
  exact Go.by stp (r T' _ (W1.wrote hm hS hk0 hZ hown hFr H Y' Wr') (A.put (fits_nar_byte x)))
theorem Go.aastore (W : Wk l Z EL R own bytes maxL ret nm X σ ρ T k n) (ix : Nat) (hm : σ[ix]? = some (a, c)) {ty : FieldType} (A : ArrC Z c ty vs) (hty : ty.isReference = true) {j : Int32} {v : Value} (i : Nat) (hj : ¬ j < 0) (hi : j.toNatClampNeg = i) (hl : i < vs.length) (hf : fits ty v = true) (F : Sto Z T.heap a v) (hd : decode bytes pc = .ok (.aastore, 1)) (hp : pc + 1 = pc')
    (r : ∀ (T' : State) (c' : Cell), Wk l Z EL R own bytes maxL ret nm X (σ.set ix (a, c')) ρ T' k n → ArrC Z c' ty (vs.set i v) → c'.cls = c.cls → Go Z EL K N Q X T' pc' Ls st) : Go Z EL K N Q X T pc Ls (v :: .int j :: .ref a :: st) := by
  have hc := W.cell (Or.inl (List.mem_of_getElem? hm))
  have W1 := W
  obtain ⟨w0, vm0, k0, locs, Y, hS, hk0, hZ, hown, hFr, H⟩ := W
  obtain ⟨T', h', Y', e', Wr', stp⟩ := stR Y w0.1 hZ rfl (A.arr hc) (arr_in' A hj hi hl) hty F (g := mkF X.m pc Ls (v :: .int j :: .ref a :: st)) rfl rfl (by rw [w0.2.1]; exact hd)
  subst e' hp hi
  exact Go.by stp (r T' _ (W1.wrote hm hS hk0 hZ hown hFr H Y' Wr') (A.put hf) rfl)
/-- a step that changes nothing of the heap -/
theorem Wk.same {vm0 : Vm} {k0 : Nat} {locs : List Loc} {T' : State} (W : Wk l Z EL R own bytes maxL ret nm X σ ρ T k n)
    (hS : X.s.Since vm0 k0) (hk0 : k0 ≤ T.heap.size) (hZ : Z.Warmed39 vm0) (hown : vm0.findClass own = some X.m.cls) (hFr : Fr Z.heap.size locs) (H : Hp Z EL X.so X.ro X.s σ ρ vm0 T.heap)
    (Y' : Stand X.p l X.e R (X.s.setVm vm0) X.m X.args X.below X.meth X.c T' locs k n) (e : T'.heap = T.heap) : Wk l Z EL R own bytes maxL ret nm X σ ρ T' k n :=
  ⟨W.1, vm0, k0, locs, Y', hS, by rw [e]; exact hk0, hZ, hown, hFr, by rw [e]; exact H⟩
theorem Go.getfield (W : Wk l Z EL R own bytes maxL ret nm X σ ρ T k n) (hm : (a, c) ∈ σ ∨ (a, c) ∈ ρ ∨ Z.heap[a]? = some c) {R0 O nF d : String} {ix : Nat} {v : Value} (w : (Jvm.Cond.fieldLink own ix R0 nF d).before a0 Z = true) (via : Via Z R0 O nF d) (F : FldC Z c O nF d v) (hd : decode bytes pc = .ok (.getfield ix, 3)) (hp : pc + 3 = pc')
    (r : ∀ T' : State, Wk l Z EL R own bytes maxL ret nm X σ ρ T' k n → Go Z EL K N Q X T' pc' Ls (v :: st)) : Go Z EL K N Q X T pc Ls (.ref a :: st) := by
  have hc := W.cell hm
  have W1 := W
  obtain ⟨w0, vm0, k0, locs, Y, hS, hk0, hZ, hown, hFr, H⟩ := W
  obtain ⟨T', Y', e', stp⟩ := getF Y w0.1 hZ hown (host := "") (Or.inl w) via rfl (F.fld hc) (g := mkF X.m pc Ls (.ref a :: st)) rfl rfl (by rw [w0.2.1]; exact hd)
  subst hp
  exact Go.by stp (r T' (W1.same hS hk0 hZ hown hFr H Y' e'))
theorem Go.getstatic (W : Wk l Z EL R own bytes maxL ret nm X σ ρ T k n) {R0 O nF d : String} {ix : Nat} {v : Value} (w : (Jvm.Cond.fieldLink own ix R0 nF d).before a0 Z = true) (via : Via Z R0 O nF d) (F : Sta Z Z.heap O nF d v) (hd : decode bytes pc = .ok (.getstatic ix, 3)) (hp : pc + 3 = pc')
    (r : ∀ T' : State, Wk l Z EL R own bytes maxL ret nm X σ ρ T' k n → Go Z EL K N Q X T' pc' Ls (v :: st)) : Go Z EL K N Q X T pc Ls st := by
  have hE := W.ext
  have W1 := W
  obtain ⟨w0, vm0, k0, locs, Y, hS, hk0, hZ, hown, hFr, H⟩ := W
  obtain ⟨T', Y', e', stp⟩ := getS Y w0.1 hZ (host := "") hown w via rfl (F.ext hE) (g := mkF X.m pc Ls st) rfl (by rw [w0.2.1]; exact hd)
  subst hp
  exact Go.by stp (r T' (W1.same hS hk0 hZ hown hFr H Y' e'))
theorem Go.putfield (W : Wk l Z EL R own bytes maxL ret nm X σ ρ T k n) (i : Nat) (hm : σ[i]? = some (a, c)) {R0 O nF d C : String} {ix kk : Nat} {ty : FieldType} {v v' old : Value} (w : (Jvm.Cond.fieldLink own ix R0 nF d).before a0 Z = true) (via : Via Z R0 O nF d) (F : FldC Z c O nF d old) (E : ObjC Z c C)
    (L : (Jvm.Cond.lays C O nF d).before a0 Z = true ∨ ((Jvm.Cond.laysFinal C O nF d).before a0 Z = true ∧ own = O ∧ nm = "<init>")) (wi : (Jvm.Cond.instantiable C kk).before a0 Z = true) (hty : parseFieldDescriptor d = some ty) (hn : narrow ty v = v') (hf : fits ty v' = true)
    (hd : decode bytes pc = .ok (.putfield ix, 3)) (hp : pc + 3 = pc')
    (r : ∀ (T' : State) (c' : Cell), c' = c.setSlot (Jvm.RoadKit.slotOf Z O nF d) v' → Wk l Z EL R own bytes maxL ret nm X (σ.set i (a, c')) ρ T' k n → Go Z EL K N Q X T' pc' Ls st) : Go Z EL K N Q X T pc Ls (v :: .ref a :: st) := by
  have hc := W.cell (Or.inl (List.mem_of_getElem? hm))
  have W1 := W
  obtain ⟨w0, vm0, k0, locs, Y, hS, hk0, hZ, hown, hFr, H⟩ := W
  obtain ⟨T', h', Y', e', Wr', stp⟩ := putFN Y w0.1 hZ hown w via rfl (F.fld hc) (E.exa hc) (L.imp id fun q => ⟨q.1, q.2.1, by rw [w0.2.2.2.2.2.1]; exact q.2.2⟩) wi hty hn hf (g := mkF X.m pc Ls (v :: .ref a :: st)) rfl rfl (by rw [w0.2.1]; exact hd)
  subst e' hp
  exact Go.by stp (r T' _ rfl (W1.wrote hm hS hk0 hZ hown hFr H Y' Wr'))
theorem Go.objInit (W : Wk l Z EL R own bytes maxL ret nm X σ ρ T k n) {ix : Nat} (w1 : (Jvm.Cond.methodLink own ix Lib.objectInit).before a0 Z = true) (w2 : (Jvm.Cond.instanceMethod Lib.objectInit).before a0 Z = true) (w3 : (Jvm.Cond.code Lib.objectInit ⟨#[0xb1]⟩ 1 none).before a0 Z = true) (hLs : Ls.size = maxL)
    (hd : decode bytes pc = .ok (.invokespecial ix, 3)) (hp : pc + 3 = pc') (hf : 1 ≤ R.frames) (hl : (st.map fun v => v.category).sum + 12 ≤ R.locals)
    (r : ∀ T' : State, Wk l Z EL R own bytes maxL ret nm X σ ρ T' k n → Go Z EL K N Q X T' pc' Ls st) : Go Z EL K N Q X T pc Ls (.ref a :: st) := by
  have W1 := W
  obtain ⟨w0, vm0, k0, locs, Y, hS, hk0, hZ, hown, hFr, H⟩ := W
  obtain ⟨T', Y', e', stp⟩ := initO Y w0.1 hZ hown w1 w2 w3 rfl (g := mkF X.m pc Ls (.ref a :: st)) rfl (by show Ls.size = _; rw [hLs, w0.2.2.1]) rfl (by rw [w0.2.1]; exact hd) hf (W := (st.map fun v => v.category).sum) (by show 2 * 0 + _ ≤ _; omega) hl
  subst hp
  exact Go.by stp (r T' (W1.same hS hk0 hZ hown hFr H Y' e'))
theorem Go.ldcInt (W : Wk l Z EL R own bytes maxL ret nm X σ ρ T k n) {ix : Nat} {v : Int32} (w : (Jvm.Cond.constant own ix v).before a0 Z = true) (hd : decode bytes pc = .ok (.ldc ix, 2)) (hp : pc + 2 = pc') (r : Go Z EL K N Q X T pc' Ls (.int v :: st)) : Go Z EL K N Q X T pc Ls st := by
  obtain ⟨w0, vm0, k0, locs, Y, hS, hk0, hZ, hown, hFr, H⟩ := W
  exact Go.by (fun t kk => Y.ldcI w0.1 hown (mvT hZ w) (g := mkF X.m pc Ls st) rfl (by rw [w0.2.1]; exact hd) (by subst hp; exact kk)) r
theorem Go.ldcwInt (W : Wk l Z EL R own bytes maxL ret nm X σ ρ T k n) {ix : Nat} {v : Int32} (w : (Jvm.Cond.constant own ix v).before a0 Z = true) (hd : decode bytes pc = .ok (.ldc_w ix, 3)) (hp : pc + 3 = pc') (r : Go Z EL K N Q X T pc' Ls (.int v :: st)) : Go Z EL K N Q X T pc Ls st := by
  obtain ⟨w0, vm0, k0, locs, Y, hS, hk0, hZ, hown, hFr, H⟩ := W
  exact Go.by (fun t kk => Y.ldcWI w0.1 hown (mvT hZ w) (g := mkF X.m pc Ls st) rfl (by rw [w0.2.1]; exact hd) (by subst hp; exact kk)) r
theorem Go.ldc2 (W : Wk l Z EL R own bytes maxL ret nm X σ ρ T k n) {ix : Nat} {v : Int64} (w : (Jvm.Cond.constantLong own ix v).before a0 Z = true) (hd : decode bytes pc = .ok (.ldc2_w ix, 3)) (hp : pc + 3 = pc') (r : Go Z EL K N Q X T pc' Ls (.long v :: st)) : Go Z EL K N Q X T pc Ls st := by
  obtain ⟨w0, vm0, k0, locs, Y, hS, hk0, hZ, hown, hFr, H⟩ := W
  exact Go.by (fun t kk => Y.ldc2J w0.1 hown (mvT hZ w) (g := mkF X.m pc Ls st) rfl (by rw [w0.2.1]; exact hd) (by subst hp; exact kk)) r
/-- a literal that may be made: what it holds -/
theorem Go.ldcStr (W : Wk l Z EL R own bytes maxL ret nm X σ ρ T k n) (hEL : EW Z a0 EL) {text : String} {ix : Nat} (w : (Jvm.Cond.stringLink own ix text).before a0 Z = true) (wS : ∀ d ∈ Bundle.stringAtoms, d.before a0 Z = true) (hmem : (own, ix) ∈ EL)
    {bs : List Value} {z : Int32} (ht : (∀ c ∈ text.toList, c.toNat < 256) ∧ text.toList.map (fun c => Value.int (Jvm.Lit.byteI c.toNat.toUInt16)) = bs) (hz : ¬ z < 0) (hl : z.toNatClampNeg = bs.length) (hbl : bs.length < 2147483648)
    (hd : decode bytes pc = .ok (.ldc ix, 2)) (hp : pc + 2 = pc') {m : Nat} (hm : 4 * text.toList.length ≤ m) (hbig : m ≤ 536870912) (hk : k + 2 ≤ R.cells) (hn : n + (m + 4) ≤ R.slots)
    (r : ∀ (T' : State) (a b : Addr) (c cb : Cell), Wk l Z EL R own bytes maxL ret nm X σ ((a, c) :: (b, cb) :: ρ) T' (k + 2) (n + (m + 4)) → ObjC Z c "java/lang/String" → FldC Z c "java/lang/String" "coder" "B" (.int 0) → FldC Z c "java/lang/String" "value" "[B" (.ref b) → ArrC Z cb .byte bs → Go Z EL K N Q X T' pc' Ls (.ref a :: st)) :
    Go Z EL K N Q X T pc Ls st := by
  obtain ⟨w0, vm0, k0, locs, Y, hS, hk0, hZ, hown, hFr, H⟩ := W
  obtain ⟨a, T', h', k1, b, kc, Y', e', E, hS', hk1, hZ', hown', A1, F1, F2, V1, la, lb, C, -, hne, stp⟩ := ldcCH Y w0.1 hZ hown w wS rfl hS hk0 hEL hmem H.1.1 ht hz hl (g := mkF X.m pc Ls st) rfl (by rw [w0.2.1]; exact hd) hm hbig hk hn
  subst e' hp
  obtain ⟨cb, Ab, -, sz, -, hh, hfit⟩ := V1
  have hcb : T'.heap[b]? = some cb := Ab.1
  obtain ⟨c, hc⟩ : ∃ c, T'.heap[a]? = some c := by obtain ⟨c, _, q, -⟩ := A1; exact ⟨c, q⟩
  have H2 := ((H.later C E).lit hcb fun x q => (hne x q).2).lit hc fun x q => (hne x q).1
  have hlen : cb.slots.size = bs.length := by rw [sz, hl]
  have hsl : cb.slots.toList = bs := by
    apply List.ext_getElem?
    intro i
    by_cases q : i < bs.length
    · have := hh i (by omega)
      rw [Array.getElem?_toList, this, List.getD_eq_getElem?_getD, List.getElem?_eq_getElem q]; rfl
    · rw [Array.getElem?_toList, Array.getElem?_eq_none (by omega), List.getElem?_eq_none (by omega)]
  refine Go.by stp (r T' a b c cb ⟨w0, T'.vm, k1, locs, Y', hS', hk1, hZ', hown', hFr, H2⟩ (ObjC.of A1 hc) (FldC.of F1 hc) (FldC.of F2 hc) ⟨Ab.2.1, Ab.2.2, hsl, fun v hv => ?_, hbl⟩)
  obtain ⟨i, hi⟩ := List.mem_iff_getElem?.mp hv
  have hlt := (List.getElem?_eq_some_iff.mp hi).1
  have q := hfit i (by omega)
  rw [List.getD_eq_getElem?_getD, hi] at q
  exact q
end HeapLaws
/-! ## own: calls and returns in the Go form -/
section CallLaws
variable {l : Launch} {Z : State} {a0 : Array Value} {EL : List (String × Nat)} {R : Room} {own : String} {bytes : ByteArray} {maxL : Nat} {ret : Option FieldType} {nm : String} {X : Ctx} {σ ρ : HL} {T : State} {k n K N : Nat} {Q Q' : Option Value → HL → HL → Prop} {pc pc' : Nat} {Ls : Array Slot} {st rest : List Value} {a : Addr} {c : Cell}
  {y y' : MethodName} {by' : ByteArray} {mL : Nat} {rt : Option FieldType} {rm : Room} {as' : Array Value} {σi σf ρi : HL}
/-- the point behind a call -/
theorem Wk.called (W : Wk l Z EL R own bytes maxL ret nm X σ ρ T k n) {vm0 : Vm} {k0 : Nat} {locs L : List Loc} (hS : X.s.Since vm0 k0) (hk0 : k0 ≤ T.heap.size) (hZ : Z.Warmed39 vm0) (hown : vm0.findClass own = some X.m.cls) (hFr : Fr Z.heap.size locs) (B : Pt) {σ' ρ' : HL}
    (Y' : Stand X.p l X.e R ((X.s.setVm vm0).setVm B.U.vm) X.m X.args X.below X.meth X.c B.U B.locs B.cells B.slots) (hS2 : (X.s.setVm vm0).Since B.U.vm B.U.heap.size) (g : T.heap.size ≤ B.U.heap.size) (hL : Fr Z.heap.size L) (H : Hp Z EL X.so X.ro X.s σ' ρ' B.U.vm B.U.heap)
    (e1 : B.locs = locs ++ L) (e2 : B.cells = k + rm.cells) (e3 : B.slots = n + rm.slots) : Wk l Z EL R own bytes maxL ret nm X σ' ρ' B.U (k + rm.cells) (n + rm.slots) := by
  obtain ⟨U, Lo, c1, s1⟩ := B
  dsimp only [Pt.U, Pt.locs, Pt.cells, Pt.slots] at *
  subst e1 e2 e3
  exact ⟨W.1, U.vm, U.heap.size, _, Y', hS.trans hS2 (Nat.le_trans hk0 g), Nat.le_refl _, State.Warmed39.trans (t := X.s.setVm vm0) hZ hS2.1, by rw [hS2.1.alike.findClass]; exact hown, hFr.app hL, H⟩
theorem Go.static (W : Wk l Z EL R own bytes maxL ret nm X σ ρ T k n) {ix : Nat} (M : Met l Z EL y by' mL rt rm as' σi ρi Q') (w1 : (Jvm.Cond.methodLink own ix y).before a0 Z = true) (w2 : (Jvm.Cond.static y).before a0 Z = true) (w3 : (Jvm.Cond.initialized y.cls).before a0 Z = true) (w4 : (Jvm.Cond.code y by' mL rt).before a0 Z = true)
    (hy : y.cls ≠ "java/lang/invoke/MethodHandle" ∧ y.cls ≠ "java/lang/invoke/VarHandle") (is js : List Nat) (hσ : pick is σ = some (σi, σf)) (hρ : roOf js ρ ρi) (argsL : List Value) (rest : List Value) (has : argsL.toArray = as') (hlen : ∀ sig, parseMethodDescriptor y.desc = some sig → argsL.length = sig.parameters.length) (hst : st = argsL.reverse ++ rest)
    (hLs : Ls.size = maxL) (hd : decode bytes pc = .ok (.invokestatic ix, 3)) (hp : pc + 3 = pc') (hf : rm.frames + 1 ≤ R.frames) (hl : (rest.map fun v => v.category).sum + (mL + 11) + rm.locals ≤ R.locals) (hk : k + rm.cells ≤ R.cells) (hn : n + rm.slots ≤ R.slots)
    (r : ∀ (v : Option Value) (σ' ρ' : HL) (T' : State), Q' v σ' ρ' → Wk l Z EL R own bytes maxL ret nm X (σ' ++ σf) (ρ' ++ ρ) T' (k + rm.cells) (n + rm.slots) → Go Z EL K N Q X T' pc' Ls (v.toList ++ rest)) : Go Z EL K N Q X T pc Ls st := by
  have W1 := W
  obtain ⟨w0, vm0, k0, locs, Y, hS, hk0, hZ, hown, hFr, H⟩ := W
  obtain ⟨ae, hEL⟩ := w0.2.2.2.2.2.2
  subst has hst
  have B1 := M.back (R := R) (p := X.p) (e := X.e) (below := X.below) (args := X.args) (len := 3) (W := (rest.map fun v => v.category).sum) hZ w4 w3 hf hl hEL (H.perm (pick_perm _ _ _ _ hσ)) hρ.mem
  obtain ⟨v, vm1, B, -, Y', hS2, g, ⟨σ', ρ', L, q, hL, H', e1, e2, e3⟩, stp⟩ := callSS Y w0.1 hown (mvT hZ w1) (mvT hZ w2) (mvT hZ w3) (mvT hZ w4) hy B1 (g := mkF X.m pc Ls (argsL.reverse ++ rest)) rfl (by show Ls.size = _; rw [hLs, w0.2.2.1]) (argsL := argsL) (rest := rest) hlen rfl (by show 2 * 0 + _ ≤ _; omega) (by rw [w0.2.1]; exact hd) (fun _ _ => ⟨rfl, rfl, hk, hn⟩)
  subst hp
  exact Go.by (fun t kk => stp.trans kk) (r v σ' ρ' B.U q (W1.called hS hk0 hZ hown hFr B Y' hS2 g hL H' e1 e2 e3))
theorem Go.special (W : Wk l Z EL R own bytes maxL ret nm X σ ρ T k n) {ix : Nat} (M : Met l Z EL y by' mL none rm as' σi ρi Q') (hy1 : y.name = "<init>") (w1 : (Jvm.Cond.methodLink own ix y).before a0 Z = true) (w2 : (Jvm.Cond.instanceMethod y).before a0 Z = true) (w3 : (Jvm.Cond.initialized y.cls).before a0 Z = true) (w4 : (Jvm.Cond.code y by' mL none).before a0 Z = true)
    (hy : y.cls ≠ "java/lang/invoke/MethodHandle" ∧ y.cls ≠ "java/lang/invoke/VarHandle") (is js : List Nat) (hσ : pick is σ = some (σi, σf)) (hρ : roOf js ρ ρi) (argsL : List Value) (rest : List Value) (has : (.ref a :: argsL).toArray = as') (hlen : ∀ sig, parseMethodDescriptor y.desc = some sig → argsL.length = sig.parameters.length) (hst : st = argsL.reverse ++ .ref a :: rest)
    (hLs : Ls.size = maxL) (hd : decode bytes pc = .ok (.invokespecial ix, 3)) (hp : pc + 3 = pc') (hf : rm.frames + 1 ≤ R.frames) (hl : (rest.map fun v => v.category).sum + (mL + 11) + rm.locals ≤ R.locals) (hk : k + rm.cells ≤ R.cells) (hn : n + rm.slots ≤ R.slots)
    (r : ∀ (v : Option Value) (σ' ρ' : HL) (T' : State), Q' v σ' ρ' → Wk l Z EL R own bytes maxL ret nm X (σ' ++ σf) (ρ' ++ ρ) T' (k + rm.cells) (n + rm.slots) → Go Z EL K N Q X T' pc' Ls (v.toList ++ rest)) : Go Z EL K N Q X T pc Ls st := by
  have W1 := W
  obtain ⟨w0, vm0, k0, locs, Y, hS, hk0, hZ, hown, hFr, H⟩ := W
  obtain ⟨ae, hEL⟩ := w0.2.2.2.2.2.2
  subst has hst
  have B1 := M.back (R := R) (p := X.p) (e := X.e) (below := X.below) (args := X.args) (len := 3) (W := (rest.map fun v => v.category).sum) hZ w4 w3 hf hl hEL (H.perm (pick_perm _ _ _ _ hσ)) hρ.mem
  obtain ⟨v, vm1, B, -, Y', hS2, g, ⟨σ', ρ', L, q, hL, H', e1, e2, e3⟩, stp⟩ := Y.specialBackS w0.1 hy1 hown (mvT hZ w1) (mvT hZ w2) (mvT hZ w4) hy B1 (g := mkF X.m pc Ls (argsL.reverse ++ .ref a :: rest)) rfl (by show Ls.size = _; rw [hLs, w0.2.2.1]) (Steps.refl _) (a := a) (argsL := argsL) (rest := rest) hlen rfl (by show 2 * 0 + _ ≤ _; omega) (by rw [w0.2.1]; exact hd) (fun _ _ => ⟨rfl, rfl, hk, hn⟩)
  subst hp
  exact Go.by (fun t kk => stp.trans kk) (r v σ' ρ' B.U q (W1.called hS hk0 hZ hown hFr B Y' hS2 g hL H' e1 e2 e3))
theorem Go.virtual (W : Wk l Z EL R own bytes maxL ret nm X σ ρ T k n) {ix : Nat} {C : String} (M : Met l Z EL y by' mL rt rm as' σi ρi Q') (hm : (a, c) ∈ σ ∨ (a, c) ∈ ρ ∨ Z.heap[a]? = some c) (O : ObjC Z c C) (w1 : (Jvm.Cond.methodLink own ix y).before a0 Z = true) (wd : (Jvm.Cond.declares y).before a0 Z = true) (ws : (Jvm.Cond.selects C y y).before a0 Z = true) (w2 : (Jvm.Cond.instanceMethod y).before a0 Z = true) (w3 : (Jvm.Cond.initialized y.cls).before a0 Z = true) (w4 : (Jvm.Cond.code y by' mL rt).before a0 Z = true)
    (hy : y.cls ≠ "java/lang/invoke/MethodHandle" ∧ y.cls ≠ "java/lang/invoke/VarHandle") (is js : List Nat) (hσ : pick is σ = some (σi, σf)) (hρ : roOf js ρ ρi) (argsL : List Value) (rest : List Value) (has : (.ref a :: argsL).toArray = as') (hlen : ∀ sig, parseMethodDescriptor y.desc = some sig → argsL.length = sig.parameters.length) (hst : st = argsL.reverse ++ .ref a :: rest)
    (hLs : Ls.size = maxL) (hd : decode bytes pc = .ok (.invokevirtual ix, 3)) (hp : pc + 3 = pc') (hf : rm.frames + 1 ≤ R.frames) (hl : (rest.map fun v => v.category).sum + (mL + 11) + rm.locals ≤ R.locals) (hk : k + rm.cells ≤ R.cells) (hn : n + rm.slots ≤ R.slots)
    (r : ∀ (v : Option Value) (σ' ρ' : HL) (T' : State), Q' v σ' ρ' → Wk l Z EL R own bytes maxL ret nm X (σ' ++ σf) (ρ' ++ ρ) T' (k + rm.cells) (n + rm.slots) → Go Z EL K N Q X T' pc' Ls (v.toList ++ rest)) : Go Z EL K N Q X T pc Ls st := by
  have W1 := W
  have hc := W.cell hm
  obtain ⟨w0, vm0, k0, locs, Y, hS, hk0, hZ, hown, hFr, H⟩ := W
  obtain ⟨ae, hEL⟩ := w0.2.2.2.2.2.2
  subst has hst
  have B1 := M.back (R := R) (p := X.p) (e := X.e) (below := X.below) (args := X.args) (len := 3) (W := (rest.map fun v => v.category).sum) hZ w4 w3 hf hl hEL (H.perm (pick_perm _ _ _ _ hσ)) hρ.mem
  obtain ⟨cq, kq, qa, qb, qc⟩ := isOf (s := X.s.setVm vm0) hZ rfl (O.exa hc)
  obtain ⟨v, vm1, B, -, Y', hS2, g, ⟨σ', ρ', L, q, hL, H', e1, e2, e3⟩, stp⟩ := Y.virtualBackS w0.1 hown (mvT hZ w1) (mvT hZ wd) (notFace_of_selects (args := #[]) (mvT hZ ws)) (mvT hZ ws) (mvT hZ w2) hy B1 qa qc (g := mkF X.m pc Ls (argsL.reverse ++ .ref a :: rest)) rfl (by show Ls.size = _; rw [hLs, w0.2.2.1]) (Steps.refl _) (argsL := argsL) (rest := rest) hlen rfl (by show 2 * 0 + _ ≤ _; omega) (by rw [w0.2.1]; exact hd) (fun _ _ => ⟨rfl, rfl, hk, hn⟩)
  subst hp
  exact Go.by (fun t kk => stp.trans kk) (r v σ' ρ' B.U q (W1.called hS hk0 hZ hown hFr B Y' hS2 g hL H' e1 e2 e3))
/-! returns -/
theorem Go.leave (W : Wk l Z EL R own bytes maxL ret nm X σ ρ T k n) (v : Option Value) (hv : ret = none → v = none) (hk : k ≤ K) (hn : n ≤ N) (q : Q v σ ρ)
    (hstep : ∀ (fs : List Frame) (vm0 : Vm) (locs : List Loc), Stand X.p l X.e R (X.s.setVm vm0) X.m X.args X.below X.meth X.c T locs K N → (∀ (f : JFrame) (acts : List Action), f.method = X.m → f.locked = none → f.entered = [] → (doReturn X.e (T.setTop f) acts v).1 = T.setFrames fs) → Steps X.p.tables X.e X.below (T.setTop (mkF X.m pc Ls st)) (T.setFrames fs)) :
    Go Z EL K N Q X T pc Ls st := by
  obtain ⟨w0, vm0, k0, locs, Y, hS, hk0, hZ, hown, hFr, H⟩ := W
  obtain ⟨ae, hEL⟩ := w0.2.2.2.2.2.2
  have Y2 := Y.more hk hn
  obtain ⟨fs, h1, h2, h3, h4⟩ := Y2.leaveW hS hk0 (v := v) (fun h => hv (by rw [← w0.2.2.2.1]; exact h)) w0.2.2.2.2.1
  have H2 : Hp Z EL X.so X.ro X.s σ ρ T.vm T.heap := H.later (CHv.at Y hZ hEL H.1.1) ⟨Nat.le_refl _, fun _ _ z => z⟩
  exact ⟨T.setFrames fs, _, hstep fs vm0 locs Y2 h1, h2, h3, v, σ, ρ, locs, rfl, q, hFr, H2, h4⟩
theorem Go.retV (W : Wk l Z EL R own bytes maxL none nm X σ ρ T k n) (hd : decode bytes pc = .ok (.return_, 1)) (hk : k ≤ K) (hn : n ≤ N) (q : Q none σ ρ) : Go Z EL K N Q X T pc Ls [] := by
  refine Go.leave W none (fun _ => rfl) hk hn q fun fs vm0 locs Y h => ?_
  exact Y.returnOut W.hx W.1.2.2.2.1 (W.hb hd) h
theorem Go.iret (W : Wk l Z EL R own bytes maxL (some .int) nm X σ ρ T k n) {z : Int32} (hd : decode bytes pc = .ok (.ireturn, 1)) (hk : k ≤ K) (hn : n ≤ N) (q : Q (some (.int z)) σ ρ) : Go Z EL K N Q X T pc Ls (.int z :: st) := by
  refine Go.leave W (some (.int z)) (fun h => nomatch h) hk hn q fun fs vm0 locs Y h => ?_
  exact retOut Y W.hx W.1.2.2.2.1 rfl (Or.inl ⟨rfl, Or.inl rfl, z, rfl⟩) (W.hb hd) h
theorem Go.nret (W : Wk l Z EL R own bytes maxL (some t) nm X σ ρ T k n) {z z' : Int32} (ht : t = .boolean ∨ t = .byte ∨ t = .char ∨ t = .short) (hz : nar t z = z') (hd : decode bytes pc = .ok (.ireturn, 1)) (hk : k ≤ K) (hn : n ≤ N) (q : Q (some (.int z')) σ ρ) : Go Z EL K N Q X T pc Ls (.int z :: st) := by
  subst hz
  refine Go.leave W (some (.int (nar t z))) (fun h => nomatch h) hk hn q fun fs vm0 locs Y h => ?_
  exact retN Y W.hx W.1.2.2.2.1 ht (W.hb hd) h
theorem Go.lret (W : Wk l Z EL R own bytes maxL (some .long) nm X σ ρ T k n) {z : Int64} (hd : decode bytes pc = .ok (.lreturn, 1)) (hk : k ≤ K) (hn : n ≤ N) (q : Q (some (.long z)) σ ρ) : Go Z EL K N Q X T pc Ls (.long z :: st) := by
  refine Go.leave W (some (.long z)) (fun h => nomatch h) hk hn q fun fs vm0 locs Y h => ?_
  exact retOut Y W.hx W.1.2.2.2.1 rfl (Or.inr (Or.inl ⟨rfl, rfl, z, rfl⟩)) (W.hb hd) h
theorem narrow_ref {t : FieldType} (ht : t.isReference = true) (w : Value) : narrow t w = w := by cases t <;> first | (cases ht; done) | rfl
theorem Go.aret (W : Wk l Z EL R own bytes maxL (some t) nm X σ ρ T k n) {w : Value} (hw : w.isRef = true) (ht : t.isReference = true) (hd : decode bytes pc = .ok (.areturn, 1)) (hk : k ≤ K) (hn : n ≤ N) (q : Q (some w) σ ρ) : Go Z EL K N Q X T pc Ls (w :: st) := by
  refine Go.leave W (some w) (fun h => nomatch h) hk hn q fun fs vm0 locs Y h => ?_
  exact retOut Y W.hx W.1.2.2.2.1 (narrow_ref ht w) (Or.inr (Or.inr (Or.inr (Or.inr ⟨rfl, ht, hw⟩)))) (W.hb hd) h
end CallLaws
/-! ## own: numbers and lists for the loops over arrays -/
theorem i32_toInt {i : Nat} (hi : i < 2147483648) : i.toInt32.toInt = (i : Int) := by
  rw [show i.toInt32 = Int32.ofNat i from rfl, Int32.toInt_ofNat_of_lt (by omega)]
theorem i32_lt {i n : Nat} (hi : i < 2147483648) (hn : n < 2147483648) : i.toInt32 < n.toInt32 ↔ i < n := by
  rw [Int32.lt_iff_toInt_lt, i32_toInt hi, i32_toInt hn]; omega
theorem i32_nn {i : Nat} (hi : i < 2147483648) : ¬ i.toInt32 < 0 := by
  rw [Int32.lt_iff_toInt_lt, i32_toInt hi]
  have : (0 : Int32).toInt = 0 := by decide
  omega
theorem i32_clamp {i : Nat} (hi : i < 2147483648) : i.toInt32.toNatClampNeg = i := by
  have h := nat_of (i32_nn hi)
  rw [i32_toInt hi] at h
  omega
theorem i32_succ {i : Nat} (hi : i + 1 < 2147483648) : i.toInt32 + 1 = (i + 1).toInt32 := by
  apply Int32.toInt_inj.mp
  have h := c_iadd i.toInt32 1
  rw [i32_toInt (by omega)] at h
  rw [i32_toInt hi]
  have h1 : (1 : Int32).toInt = 1 := by decide
  rw [h1] at h
  have r := rng32 (i.toInt32 + 1)
  omega
theorem i32_inj {i n : Nat} (hi : i < 2147483648) (hn : n < 2147483648) : i.toInt32 = n.toInt32 ↔ i = n := by
  constructor
  · intro h
    have := congrArg Int32.toInt h
    rw [i32_toInt hi, i32_toInt hn] at this
    omega
  · intro h; rw [h]
/-- a char's low byte, as a byte[] holds it -/
abbrev lo8 (x : Int32) : Value := .int x.toInt8.toInt32
abbrev latB (cs : List Int32) : List Value := cs.map lo8
abbrev chV (cs : List Int32) : List Value := cs.map Value.int
/-- each is a Latin-1 char -/
def Lat (cs : List Int32) : Prop := ∀ x ∈ cs, ¬ x < 0 ∧ ¬ (255 : Int32) < x
theorem Lat.nil : Lat [] := fun _ h => nomatch h
theorem Lat.cons {x : Int32} {cs : List Int32} (h : ¬ x < 0 ∧ ¬ (255 : Int32) < x) (r : Lat cs) : Lat (x :: cs) := fun y hy => by
  rcases List.mem_cons.mp hy with rfl | hy
  · exact h
  · exact r y hy
/-- a Latin-1 String's two cells -/
def StrL (Z : State) (c : Cell) (b : Addr) (cb : Cell) (cs : List Int32) : Prop :=
  ObjC Z c "java/lang/String" ∧ FldC Z c "java/lang/String" "coder" "B" (.int 0) ∧ FldC Z c "java/lang/String" "value" "[B" (.ref b) ∧ ArrC Z cb .byte (latB cs) ∧ Lat cs
theorem take_succ' {α : Type} {l : List α} {i : Nat} {x : α} (h : l[i]? = some x) : l.take (i + 1) = l.take i ++ [x] := by
  rw [List.take_add_one, h]; rfl
theorem set_next {cs : List Int32} {i j : Nat} {x : Int32} (hx : cs[i]? = some x) : (latB (cs.take i) ++ List.replicate (j + 1) (.int 0 : Value)).set i (lo8 x) = latB (cs.take (i + 1)) ++ List.replicate j (.int 0) := by
  have hi : i < cs.length := (List.getElem?_eq_some_iff.mp hx).1
  have hl : (latB (cs.take i)).length = i := by simp; omega
  rw [List.set_append_right _ _ (by omega), hl, Nat.sub_self, List.replicate_succ, List.set_cons_zero, take_succ' hx]
  simp [latB]
theorem and255 (x : Int32) : ¬ (x &&& 255) < 0 ∧ ¬ (255 : Int32) < (x &&& 255) := by
  have h := c_and x 255 (by decide)
  have h0 : (0 : Int32).toInt = 0 := by decide
  have h1 : (255 : Int32).toInt = 255 := by decide
  rw [Int32.lt_iff_toInt_lt, Int32.lt_iff_toInt_lt, h0]
  rw [h1] at h ⊢
  omega
/-- a char stays a char -/
theorem i2c_id {x : Int32} (h0 : ¬ x < 0) (h1 : ¬ (65535 : Int32) < x) : x.toUInt32.toUInt16.toUInt32.toInt32 = x := by
  apply Int32.toInt_inj.mp
  have h := c_i2c x
  rw [Int32.lt_iff_toInt_lt] at h0 h1
  have e0 : (0 : Int32).toInt = 0 := by decide
  have e1 : (65535 : Int32).toInt = 65535 := by decide
  rw [e0] at h0
  rw [e1] at h1
  omega
theorem lat_char {x : Int32} (h : ¬ x < 0 ∧ ¬ (255 : Int32) < x) : ¬ x < 0 ∧ ¬ (65535 : Int32) < x := by
  obtain ⟨h0, h1⟩ := h
  refine ⟨h0, ?_⟩
  rw [Int32.lt_iff_toInt_lt] at h1 ⊢
  have e0 : (255 : Int32).toInt = 255 := by decide
  have e1 : (65535 : Int32).toInt = 65535 := by decide
  rw [e0] at h1
  rw [e1]
  omega
theorem nar_char_id {x : Int32} (h : ¬ x < 0 ∧ ¬ (65535 : Int32) < x) : nar .char x = x := i2c_id h.1 h.2
/-- a byte read back with & 255 -/
theorem byte_back {x : Int32} (h : ¬ x < 0 ∧ ¬ (255 : Int32) < x) : x.toInt8.toInt32 &&& 255 = x := by
  apply Int32.toInt_inj.mp
  rw [c_mask _ 255 8 (by decide) (by decide)]
  have hb := c_i2b x
  obtain ⟨h0, h1⟩ := h
  rw [Int32.lt_iff_toInt_lt] at h0 h1
  have e0 : (0 : Int32).toInt = 0 := by decide
  have e1 : (255 : Int32).toInt = 255 := by decide
  rw [e0] at h0
  rw [e1] at h1
  omega
theorem lo8_inj {x y : Int32} (hx : ¬ x < 0 ∧ ¬ (255 : Int32) < x) (hy : ¬ y < 0 ∧ ¬ (255 : Int32) < y) (h : x.toInt8.toInt32 = y.toInt8.toInt32) : x = y := by
  rw [← byte_back hx, ← byte_back hy, h]
theorem i8_i8 (x : Int32) : x.toInt8.toInt32.toInt8.toInt32 = x.toInt8.toInt32 := by
  apply Int32.toInt_inj.mp
  have h1 := c_i2b x
  have h2 := c_i2b x.toInt8.toInt32
  omega
theorem andchr (x m : Int32) (h0 : 0 ≤ m.toInt) (h1 : m.toInt ≤ 65535) : ¬ (x &&& m) < 0 ∧ ¬ (65535 : Int32) < (x &&& m) := by
  have h := c_and x m h0
  have e0 : (0 : Int32).toInt = 0 := by decide
  have e1 : (65535 : Int32).toInt = 65535 := by decide
  rw [Int32.lt_iff_toInt_lt, Int32.lt_iff_toInt_lt, e0, e1]
  omega
theorem ite10_z {P : Prop} [Decidable P] : ((if P then (1 : Int32) else 0) = 0) ↔ ¬ P := by by_cases h : P <;> simp [h]
theorem ite10_o {P : Prop} [Decidable P] : ((if P then (1 : Int32) else 0) = 1) ↔ P := by by_cases h : P <;> simp [h]
theorem ite01_z {P : Prop} [Decidable P] : ((if P then (0 : Int32) else 1) = 0) ↔ P := by by_cases h : P <;> simp [h]
theorem ite01_o {P : Prop} [Decidable P] : ((if P then (0 : Int32) else 1) = 1) ↔ ¬ P := by by_cases h : P <;> simp [h]
/-! ## own: casts and comparisons of references in the Go form -/
section RefLaws
variable {l : Launch} {Z : State} {a0 : Array Value} {EL : List (String × Nat)} {R : Room} {own : String} {bytes : ByteArray} {maxL : Nat} {ret : Option FieldType} {nm : String} {X : Ctx} {σ ρ : HL} {T : State} {k n K N : Nat} {Q : Option Value → HL → HL → Prop} {pc pc' : Nat} {Ls : Array Slot} {st : List Value} {a : Addr} {c : Cell}
theorem Go.instY (W : Wk l Z EL R own bytes maxL ret nm X σ ρ T k n) (hm : (a, c) ∈ σ ∨ (a, c) ∈ ρ ∨ Z.heap[a]? = some c) {C : String} {ix : Nat} (O : ObjC Z c C) (w : (Jvm.Cond.classLink own ix C).before a0 Z = true) (hd : decode bytes pc = .ok (.instanceof ix, 3)) (hp : pc + 3 = pc')
    (r : ∀ T' : State, Wk l Z EL R own bytes maxL ret nm X σ ρ T' k n → Go Z EL K N Q X T' pc' Ls (.int 1 :: st)) : Go Z EL K N Q X T pc Ls (.ref a :: st) := by
  have hc := W.cell hm
  have W1 := W
  obtain ⟨w0, vm0, k0, locs, Y, hS, hk0, hZ, hown, hFr, H⟩ := W
  obtain ⟨T', Y', e', stp⟩ := Jvm.RoadKit.instY Y w0.1 hZ hown w rfl (Ins.self (O.exa hc)) (g := mkF X.m pc Ls (.ref a :: st)) rfl rfl (by rw [w0.2.1]; exact hd)
  subst hp
  exact Go.by stp (r T' (W1.same hS hk0 hZ hown hFr H Y' e'))
theorem Go.castY (W : Wk l Z EL R own bytes maxL ret nm X σ ρ T k n) (hm : (a, c) ∈ σ ∨ (a, c) ∈ ρ ∨ Z.heap[a]? = some c) {C : String} {ix : Nat} (O : ObjC Z c C) (w : (Jvm.Cond.classLink own ix C).before a0 Z = true) (hd : decode bytes pc = .ok (.checkcast ix, 3)) (hp : pc + 3 = pc')
    (r : ∀ T' : State, Wk l Z EL R own bytes maxL ret nm X σ ρ T' k n → Go Z EL K N Q X T' pc' Ls (.ref a :: st)) : Go Z EL K N Q X T pc Ls (.ref a :: st) := by
  have hc := W.cell hm
  have W1 := W
  obtain ⟨w0, vm0, k0, locs, Y, hS, hk0, hZ, hown, hFr, H⟩ := W
  obtain ⟨T', Y', e', stp⟩ := Jvm.RoadKit.castY Y w0.1 hZ hown w rfl (Ins.self (O.exa hc)) (g := mkF X.m pc Ls (.ref a :: st)) rfl rfl (by rw [w0.2.1]; exact hd)
  subst hp
  exact Go.by stp (r T' (W1.same hS hk0 hZ hown hFr H Y' e'))
theorem Go.acmp_ne (W : Wk l Z EL R own bytes maxL ret nm X σ ρ T k n) {x y : Value} {o : Int} (pcY : Nat) (h1 : x.isRef = true) (h2 : y.isRef = true) (hd : decode bytes pc = .ok (.if_acmp .ne o, 3)) (hy : (pc : Int) + o = (pcY : Nat)) (hp : pc + 3 = pc')
    (rY : ¬ x = y → Go Z EL K N Q X T pcY Ls st) (rN : x = y → Go Z EL K N Q X T pc' Ls st) : Go Z EL K N Q X T pc Ls (y :: x :: st) := by
  obtain ⟨w0, vm0, k0, locs, Y, hS, hk0, hZ, hown, hFr, H⟩ := W
  by_cases q : x = y
  · exact Go.by (fun t kk => acmp Y w0.1 (g := mkF X.m pc Ls (y :: x :: st)) rfl h1 h2 (pc0 := pc) (pc' := pc') (same := true) rfl (by rw [w0.2.1]; exact hd) rfl (by simp [q]) (by omega) (by subst hp; rfl) kk) (rN q)
  · exact Go.by (fun t kk => acmp Y w0.1 (g := mkF X.m pc Ls (y :: x :: st)) rfl h1 h2 (pc0 := pc) (pc' := pcY) (same := false) rfl (by rw [w0.2.1]; exact hd) rfl (by simp [q]) (by omega) (by simp [acV]; omega) kk) (rY q)
theorem Go.acmp_eq (W : Wk l Z EL R own bytes maxL ret nm X σ ρ T k n) {x y : Value} {o : Int} (pcY : Nat) (h1 : x.isRef = true) (h2 : y.isRef = true) (hd : decode bytes pc = .ok (.if_acmp .eq o, 3)) (hy : (pc : Int) + o = (pcY : Nat)) (hp : pc + 3 = pc')
    (rY : x = y → Go Z EL K N Q X T pcY Ls st) (rN : ¬ x = y → Go Z EL K N Q X T pc' Ls st) : Go Z EL K N Q X T pc Ls (y :: x :: st) := by
  obtain ⟨w0, vm0, k0, locs, Y, hS, hk0, hZ, hown, hFr, H⟩ := W
  by_cases q : x = y
  · exact Go.by (fun t kk => acmp Y w0.1 (g := mkF X.m pc Ls (y :: x :: st)) rfl h1 h2 (pc0 := pc) (pc' := pcY) (same := true) rfl (by rw [w0.2.1]; exact hd) rfl (by simp [q]) (by omega) (by simp [acV]; omega) kk) (rY q)
  · exact Go.by (fun t kk => acmp Y w0.1 (g := mkF X.m pc Ls (y :: x :: st)) rfl h1 h2 (pc0 := pc) (pc' := pc') (same := false) rfl (by rw [w0.2.1]; exact hd) rfl (by simp [q]) (by omega) (by subst hp; rfl) kk) (rN q)
theorem Go.instNull (W : Wk l Z EL R own bytes maxL ret nm X σ ρ T k n) {ix : Nat} (hd : decode bytes pc = .ok (.instanceof ix, 3)) (hp : pc + 3 = pc') (r : Go Z EL K N Q X T pc' Ls (.int 0 :: st)) : Go Z EL K N Q X T pc Ls (.null :: st) := by
  obtain ⟨w0, vm0, k0, locs, Y, hS, hk0, hZ, hown, hFr, H⟩ := W
  exact Go.by (fun t kk => Y.instanceofNull w0.1 (g := mkF X.m pc Ls (.null :: st)) rfl rfl (by rw [w0.2.1]; exact hd) t (by subst hp; exact kk)) r
theorem Go.castNull (W : Wk l Z EL R own bytes maxL ret nm X σ ρ T k n) {ix : Nat} (hd : decode bytes pc = .ok (.checkcast ix, 3)) (hp : pc + 3 = pc') (r : Go Z EL K N Q X T pc' Ls (.null :: st)) : Go Z EL K N Q X T pc Ls (.null :: st) := by
  obtain ⟨w0, vm0, k0, locs, Y, hS, hk0, hZ, hown, hFr, H⟩ := W
  exact Go.by (fun t kk => Y.checkcastNull w0.1 (g := mkF X.m pc Ls (.null :: st)) rfl rfl (by rw [w0.2.1]; exact hd) t (by subst hp; exact kk)) r
end RefLaws
/-! ## own: two Strings at one address -/
theorem FldC.uniq {Z : State} {c : Cell} {C n d : String} {v w : Value} (F : FldC Z c C n d v) (F' : FldC Z c C n d w) : v = w := by
  obtain ⟨cf, k, i, f, h1, -, -, -, -, h6⟩ := F
  obtain ⟨cf', k', i', f', g1, -, -, -, -, g6⟩ := F'
  cases h1.symm.trans g1
  exact Option.some.inj (h6.symm.trans g6)
theorem latB_inj {cs ds : List Int32} (hc : Lat cs) (hd : Lat ds) (h : cs.map (fun x => x.toInt8.toInt32) = ds.map (fun x => x.toInt8.toInt32)) : cs = ds := by
  induction cs generalizing ds with
  | nil => cases ds with
    | nil => rfl
    | cons y ds => simp at h
  | cons x cs ih => cases ds with
    | nil => simp at h
    | cons y ds =>
      simp only [List.map_cons, List.cons.injEq] at h
      rw [lo8_inj (hc x (by simp)) (hd y (by simp)) h.1, ih (fun z hz => hc z (by simp [hz])) (fun z hz => hd z (by simp [hz])) h.2]
theorem latB_eq (cs : List Int32) : latB cs = chV (cs.map fun x => x.toInt8.toInt32) := by simp [latB, chV, lo8]
theorem chV_inj {xs ys : List Int32} (h : chV xs = chV ys) : xs = ys := by
  induction xs generalizing ys with
  | nil => cases ys with
    | nil => rfl
    | cons y ys => simp at h
  | cons x xs ih => cases ys with
    | nil => simp at h
    | cons y ys =>
      simp only [chV, List.map_cons, List.cons.injEq, Value.int.injEq] at h
      rw [h.1, ih h.2]
theorem StrL.uniq {Z : State} {h : Heap} {a b b' : Addr} {c c' cb cb' : Cell} {cs ds : List Int32} (S : StrL Z c b cb cs) (S' : StrL Z c' b' cb' ds) (h1 : h[a]? = some c) (h2 : h[a]? = some c') (h3 : h[b]? = some cb) (h4 : h[b']? = some cb') : cs = ds := by
  cases h1.symm.trans h2
  have e : b = b' := Value.ref.inj (S.2.2.1.uniq S'.2.2.1)
  subst e
  cases h3.symm.trans h4
  have q : latB cs = latB ds := S.2.2.2.1.2.2.1.symm.trans S'.2.2.2.1.2.2.1
  rw [latB_eq, latB_eq] at q
  exact latB_inj S.2.2.2.2 S'.2.2.2.2 (chV_inj q)

theorem len0 {Z : State} {cb : Cell} {cs : List Int32} (A : ArrC Z cb .byte (latB cs)) (h : cs.length.toInt32 = 0) : cs = [] := by
  have hn : cs.length < 2147483648 := by have := A.2.2.2.2; rwa [latB, List.length_map] at this
  have := (i32_inj hn (n := 0) (by decide)).mp h
  exact List.length_eq_zero_iff.mp this
theorem shr0 (x : Int32) : x >>> ((0 : Int32) &&& 31) = x := by
  apply Int32.toInt_inj.mp
  rw [c_ishr x 0 0 (by decide)]
  simp
/-! ## own: UTF-16 Strings -/
abbrev hi8 (x : Int32) : Value := .int (x >>> ((8 : Int32) &&& 31)).toInt8.toInt32
def utfB : List Int32 → List Value
  | [] => []
  | x :: r => lo8 x :: hi8 x :: utfB r
def Chr (cs : List Int32) : Prop := ∀ x ∈ cs, ¬ x < 0 ∧ ¬ (65535 : Int32) < x
theorem Chr.nil : Chr [] := fun _ h => nomatch h
theorem Chr.cons {x : Int32} {cs : List Int32} (h : ¬ x < 0 ∧ ¬ (65535 : Int32) < x) (r : Chr cs) : Chr (x :: cs) := fun y hy => by
  rcases List.mem_cons.mp hy with rfl | hy
  · exact h
  · exact r y hy
theorem Lat.chr {cs : List Int32} (h : Lat cs) : Chr cs := fun x hx => lat_char (h x hx)
theorem utfB_len : ∀ cs : List Int32, (utfB cs).length = 2 * cs.length
  | [] => rfl
  | x :: r => by simp only [utfB, List.length_cons, utfB_len r]; omega
theorem utfB_app : ∀ a b : List Int32, utfB (a ++ b) = utfB a ++ utfB b
  | [], b => rfl
  | x :: r, b => by simp only [utfB, List.cons_append, utfB_app r b]
theorem utfB_get : ∀ {cs : List Int32} {i : Nat} {x : Int32}, cs[i]? = some x → (utfB cs)[2 * i]? = some (lo8 x) ∧ (utfB cs)[2 * i + 1]? = some (hi8 x)
  | y :: r, 0, x, h => by simp at h; subst h; exact ⟨rfl, rfl⟩
  | y :: r, i + 1, x, h => by
    have h' : r[i]? = some x := by simpa using h
    have := utfB_get h'
    rw [show 2 * (i + 1) = 2 * i + 2 by omega, show 2 * i + 2 + 1 = (2 * i + 1) + 2 by omega]
    simpa [utfB] using this
theorem set2_next {cs : List Int32} {i j : Nat} {x : Int32} (hx : cs[i]? = some x) : ((utfB (cs.take i) ++ List.replicate (2 * (j + 1)) (.int 0 : Value)).set (2 * i) (lo8 x)).set (2 * i + 1) (hi8 x) = utfB (cs.take (i + 1)) ++ List.replicate (2 * j) (.int 0) := by
  have hi : i < cs.length := (List.getElem?_eq_some_iff.mp hx).1
  have hl : (utfB (cs.take i)).length = 2 * i := by rw [utfB_len, List.length_take]; omega
  rw [List.set_append_right _ _ (by omega), hl, Nat.sub_self, show 2 * (j + 1) = (2 * j + 1) + 1 by omega, List.replicate_succ, List.set_cons_zero, List.set_append_right _ _ (by omega), hl, show 2 * i + 1 - 2 * i = 0 + 1 by omega, List.set_cons_succ, List.replicate_succ, List.set_cons_zero, take_succ' hx, utfB_app]
  simp [utfB]
theorem shl1 {i : Nat} (hi : 2 * i < 2147483648) : i.toInt32 <<< ((1 : Int32) &&& 31) = (2 * i).toInt32 := by
  apply Int32.toInt_inj.mp
  have h := c_ishl i.toInt32 1 1 (by decide)
  rw [i32_toInt (by omega)] at h
  rw [i32_toInt hi]
  have r := rng32 (i.toInt32 <<< ((1 : Int32) &&& 31))
  simp only [Nat.reducePow] at h
  omega
theorem shr1 {i : Nat} (hi : 2 * i < 2147483648) : (2 * i).toInt32 >>> ((1 : Int32) &&& 31) = i.toInt32 := by
  apply Int32.toInt_inj.mp
  rw [c_ishr _ 1 1 (by decide), i32_toInt hi, i32_toInt (by omega)]
  simp only [Nat.reducePow]
  omega
theorem shl0 (x : Int32) : x <<< ((0 : Int32) &&& 31) = x := by
  apply Int32.toInt_inj.mp
  have h := c_ishl x 0 0 (by decide)
  have r := rng32 (x <<< ((0 : Int32) &&& 31))
  have r' := rng32 x
  simp only [Nat.reducePow] at h
  omega
/-- the two bytes of a char make the char -/
theorem getch {x : Int32} (hx : ¬ x < 0 ∧ ¬ (65535 : Int32) < x) : (((x.toInt8.toInt32 &&& 255) <<< ((0 : Int32) &&& 31)) ||| (((x >>> ((8 : Int32) &&& 31)).toInt8.toInt32 &&& 255) <<< ((8 : Int32) &&& 31))) = x := by
  rw [shl0]
  apply Int32.toInt_inj.mp
  obtain ⟨h0, h1⟩ := hx
  rw [Int32.lt_iff_toInt_lt] at h0 h1
  have e0 : (0 : Int32).toInt = 0 := by decide
  have e1 : (65535 : Int32).toInt = 65535 := by decide
  rw [e0] at h0
  rw [e1] at h1
  have ha := c_mask x.toInt8.toInt32 255 8 (by decide) (by decide)
  have hb := c_mask (x >>> ((8 : Int32) &&& 31)).toInt8.toInt32 255 8 (by decide) (by decide)
  have hba := c_i2b x
  have hbb := c_i2b (x >>> ((8 : Int32) &&& 31))
  have hs := c_ishr x 8 8 (by decide)
  simp only [Nat.reducePow] at ha hb hs
  have hl := c_ishl ((x >>> ((8 : Int32) &&& 31)).toInt8.toInt32 &&& 255) 8 8 (by decide)
  have rl := rng32 (((x >>> ((8 : Int32) &&& 31)).toInt8.toInt32 &&& 255) <<< ((8 : Int32) &&& 31))
  simp only [Nat.reducePow] at hl
  have ho := c_or' (x.toInt8.toInt32 &&& 255) (((x >>> ((8 : Int32) &&& 31)).toInt8.toInt32 &&& 255) <<< ((8 : Int32) &&& 31)) 8 (by decide) 256 (by decide) (by omega) (by omega) (by omega)
  have ro := rng32 ((x.toInt8.toInt32 &&& 255) ||| (((x >>> ((8 : Int32) &&& 31)).toInt8.toInt32 &&& 255) <<< ((8 : Int32) &&& 31)))
  omega
/-- a UTF-16 String's two cells -/
def StrU (Z : State) (c : Cell) (b : Addr) (cb : Cell) (cs : List Int32) : Prop :=
  ObjC Z c "java/lang/String" ∧ FldC Z c "java/lang/String" "coder" "B" (.int 1) ∧ FldC Z c "java/lang/String" "value" "[B" (.ref b) ∧ ArrC Z cb .byte (utfB cs) ∧ Chr cs
/-- a String's two cells, of either kind -/
def StrG (Z : State) (c : Cell) (b : Addr) (cb : Cell) (cs : List Int32) : Prop := StrL Z c b cb cs ∨ StrU Z c b cb cs
theorem eqI {args : Array Value} {s : State} {t : Term} {v : Int32} (h : (Jvm.Cond.eq t (Term.int v)).value args s none s [] = some true) : t.eval args s none [] s = some (.int v) := by
  obtain ⟨x, y, h1, h2, -, h4⟩ := cmp_v (Or.inl h)
  cases (Term.int_eval v).symm.trans h2
  obtain ⟨z, rfl⟩ := h4
  rw [Cond.value, h1, Term.int_eval] at h
  simp at h
  rw [h1, h]
/-- where the first sign above 255 stands, if there is one -/
def Upto (cs : List Int32) (k : Nat) : Prop := (k = cs.length ∧ Lat cs) ∨ (k < cs.length ∧ ∃ x, cs[k]? = some x ∧ (255 : Int32) < x)
theorem coder_u {n : Nat} (h0 : 0 < n) (hn : n < 65536) : nar .byte ((n.toInt32 - (2 * n).toInt32).toUInt32 >>> ((31 : Int32) &&& 31).toUInt32).toInt32.toInt8.toInt32 = 1 := by
  have e : ((n.toInt32 - (2 * n).toInt32).toUInt32 >>> ((31 : Int32) &&& 31).toUInt32).toInt32 = 1 := by
    apply Int32.toInt_inj.mp
    rw [c_iushr _ 31 31 (by decide) (by decide)]
    have h := c_isub n.toInt32 (2 * n).toInt32
    have r := rng32 (n.toInt32 - (2 * n).toInt32)
    rw [i32_toInt (by omega), i32_toInt (by omega)] at h
    have e1 : (1 : Int32).toInt = 1 := by decide
    rw [e1]
    simp only [Nat.reducePow]
    omega
  rw [e]; decide
theorem StrG.obj {Z : State} {c : Cell} {b : Addr} {cb : Cell} {cs : List Int32} (S : StrG Z c b cb cs) : ObjC Z c "java/lang/String" := S.elim (·.1) (·.1)
theorem i32_big {n : Nat} (hn : n < 65536) : n.toInt32 < (1073741823 : Int32) := by
  have h := i32_toInt (i := n) (by omega)
  have e : (1073741823 : Int32).toInt = 1073741823 := by decide
  rw [Int32.lt_iff_toInt_lt, h, e]
  omega
/-! ## own: a literal of which nothing is asked -/
theorem Go.ldcAny {l : Launch} {Z : State} {a0 : Array Value} {EL : List (String × Nat)} {R : Room} {own : String} {bytes : ByteArray} {maxL : Nat} {ret : Option FieldType} {nm : String} {X : Ctx} {σ ρ : HL} {T : State} {k n K N : Nat} {Q : Option Value → HL → HL → Prop} {pc pc' : Nat} {Ls : Array Slot} {st : List Value}
    (W : Wk l Z EL R own bytes maxL ret nm X σ ρ T k n) (hEL : EW Z a0 EL) {text : String} {ix : Nat} (w : (Jvm.Cond.stringLink own ix text).before a0 Z = true) (wS : ∀ d ∈ Bundle.stringAtoms, d.before a0 Z = true)
    (hd : decode bytes pc = .ok (.ldc ix, 2)) (hp : pc + 2 = pc') {m : Nat} (hm : 4 * text.toList.length ≤ m) (hbig : m ≤ 536870912) (hk : k + 2 ≤ R.cells) (hn : n + (m + 4) ≤ R.slots)
    (r : ∀ (T' : State) (a : Addr), Wk l Z EL R own bytes maxL ret nm X σ ρ T' (k + 2) (n + (m + 4)) → Go Z EL K N Q X T' pc' Ls (.ref a :: st)) : Go Z EL K N Q X T pc Ls st := by
  obtain ⟨w0, vm0, k0, locs, Y, hS, hk0, hZ, hown, hFr, H⟩ := W
  obtain ⟨a, T', h', k1, Y', e', E, hS', hk1, hZ', hown', C, -, stp⟩ := ldcOH Y w0.1 hZ hown w wS rfl hS hk0 hEL H.1.1 (g := mkF X.m pc Ls st) rfl (by rw [w0.2.1]; exact hd) hm hbig hk hn
  subst e' hp
  exact Go.by stp (r T' a ⟨w0, T'.vm, k1, locs, Y', hS', hk1, hZ', hown', hFr, H.later C E⟩)
abbrev EL1 : List (String × Nat) := []
def Cl (Z : State) (a0 : Array Value) : Prop := (∀ d ∈ tables_1, d.before a0 Z = true) ∧ EW Z a0 EL1 ∧ (∃ cv : Int32, Sta Z Z.heap "java/lang/String" "COMPACT_STRINGS" "Z" (.int cv) ∧ ¬ cv = 0) ∧ (∃ fv : Value, Sta Z Z.heap "jdk/internal/util/Preconditions" "SIOOBE_FORMATTER" "Ljava/util/function/BiFunction;" fv ∧ fv.isRef = true) ∧ (Sta Z Z.heap "java/lang/StringUTF16" "$assertionsDisabled" "Z" (.int 1) ∧ Sta Z Z.heap "java/lang/StringUTF16" "HI_BYTE_SHIFT" "I" (.int 0) ∧ Sta Z Z.heap "java/lang/StringUTF16" "LO_BYTE_SHIFT" "I" (.int 8))
theorem strAtoms {Z : State} {a0 : Array Value} (G : Cl Z a0) : ∀ d ∈ Bundle.stringAtoms, d.before a0 Z = true := fun d hd => G.1 d ((by decide +kernel : ∀ d ∈ Bundle.stringAtoms, d ∈ tables_1) d hd)
theorem pn_0 : plainName "java/lang/StringUTF16" = true := by first | (simp [plainName, overriddenIn]; done) | decide +kernel
theorem d_jdk_52_method_3_code_0 : decode jdk_52_method_3_code 0 = .ok (.iload_n 0, 1) := by decide +kernel
theorem d_jdk_52_method_3_code_1 : decode jdk_52_method_3_code 1 = .ok (.ifCond .ge 11, 3) := by decide +kernel
theorem d_jdk_52_method_3_code_12 : decode jdk_52_method_3_code 12 = .ok (.iload_n 0, 1) := by decide +kernel
theorem d_jdk_52_method_3_code_13 : decode jdk_52_method_3_code 13 = .ok (.ldc 20, 2) := by decide +kernel
theorem w_48 {Z : State} {a0 : Array Value} (G : Cl Z a0) : (Jvm.Cond.constant "java/lang/StringUTF16" 20 (1073741823)).before a0 Z = true := G.1 _ (List.mem_of_getElem? (l := tables_1) (i := 48) rfl)
theorem d_jdk_52_method_3_code_15 : decode jdk_52_method_3_code 15 = .ok (.if_icmp .lt 40, 3) := by decide +kernel
theorem d_jdk_52_method_3_code_55 : decode jdk_52_method_3_code 55 = .ok (.iload_n 0, 1) := by decide +kernel
theorem d_jdk_52_method_3_code_56 : decode jdk_52_method_3_code 56 = .ok (.iconst 1, 1) := by decide +kernel
theorem d_jdk_52_method_3_code_57 : decode jdk_52_method_3_code 57 = .ok (.ishl, 1) := by decide +kernel
theorem d_jdk_52_method_3_code_58 : decode jdk_52_method_3_code 58 = .ok (.ireturn, 1) := by decide +kernel
set_option maxRecDepth 65536 in
set_option maxHeartbeats 40000000 in
theorem rm_nbl {l : Launch} {Z : State} {a0 : Array Value} (G : Cl Z a0) (n : Nat) (hn : n < 65536) :
    Met l Z EL1 (⟨"java/lang/StringUTF16", "newBytesLength", "(I)I"⟩ : MethodName) jdk_52_method_3_code 1 (some .int) ({ frames := 0, cells := 0, slots := 0, locals := 0 } : Room) #[.int n.toInt32] [] [] (fun v σ ρ => v = some (.int (2 * n).toInt32) ∧ σ = [] ∧ ρ = []) := by
  refine Met.walk G.2.1 pn_0 #[.val (.int n.toInt32)] (fun m => by first | (simp [entryFrame, mkF, argsToLocals, Value.category]; done) | rfl) ?_
  intro X T0 W0
  refine Go.iloadN (pc' := 1) W0 d_jdk_52_method_3_code_0 rfl rfl ?_
  refine Go.if_ge (pc' := 4) W0 12 d_jdk_52_method_3_code_1 (by decide) rfl (fun _ => ?_) (fun q => absurd q (i32_nn (by omega)))
  refine Go.iloadN (pc' := 13) W0 d_jdk_52_method_3_code_12 rfl rfl ?_
  refine Go.ldcInt (pc' := 15) W0 (w_48 G) d_jdk_52_method_3_code_13 rfl ?_
  refine Go.icmp_lt (pc' := 18) W0 55 d_jdk_52_method_3_code_15 (by decide) rfl (fun _ => ?_) (fun q => absurd (i32_big hn) q)
  refine Go.iloadN (pc' := 56) W0 d_jdk_52_method_3_code_55 rfl rfl ?_
  refine Go.iconst (pc' := 57) W0 (1 : Int32) d_jdk_52_method_3_code_56 (by decide) rfl ?_
  refine Go.ishl (pc' := 58) W0 d_jdk_52_method_3_code_57 rfl ?_
  refine Go.iret W0 d_jdk_52_method_3_code_58 (by first | exact Nat.le_of_ble_eq_true rfl | (simp; done) | (simp; omega) | omega) (by first | exact Nat.le_of_ble_eq_true rfl | (simp; done) | (simp; omega) | omega) ?_
  exact ⟨by rw [shl1 (by omega)], rfl, rfl⟩
theorem d_jdk_52_method_2_code_0 : decode jdk_52_method_2_code 0 = .ok (.iload_n 0, 1) := by decide +kernel
theorem d_jdk_52_method_2_code_1 : decode jdk_52_method_2_code 1 = .ok (.invokestatic 11, 3) := by decide +kernel
theorem w_45 {Z : State} {a0 : Array Value} (G : Cl Z a0) : (Jvm.Cond.methodLink "java/lang/StringUTF16" 11 (⟨"java/lang/StringUTF16", "newBytesLength", "(I)I"⟩ : MethodName)).before a0 Z = true := G.1 _ (List.mem_of_getElem? (l := tables_1) (i := 45) rfl)
theorem w_33 {Z : State} {a0 : Array Value} (G : Cl Z a0) : (Jvm.Cond.initialized "java/lang/StringUTF16").before a0 Z = true := G.1 _ (List.mem_of_getElem? (l := tables_1) (i := 33) rfl)
theorem w_47 {Z : State} {a0 : Array Value} (G : Cl Z a0) : (Jvm.Cond.code (⟨"java/lang/StringUTF16", "newBytesLength", "(I)I"⟩ : MethodName) jdk_52_method_3_code 1 (some .int)).before a0 Z = true := G.1 _ (List.mem_of_getElem? (l := tables_1) (i := 47) rfl)
theorem pd_1 : parseMethodDescriptor "(I)I" = some ⟨[.int], some .int⟩ := by decide +kernel
theorem w_46 {Z : State} {a0 : Array Value} (G : Cl Z a0) : (Jvm.Cond.static (⟨"java/lang/StringUTF16", "newBytesLength", "(I)I"⟩ : MethodName)).before a0 Z = true := G.1 _ (List.mem_of_getElem? (l := tables_1) (i := 46) rfl)
theorem d_jdk_52_method_2_code_4 : decode jdk_52_method_2_code 4 = .ok (.newarray .byte, 2) := by decide +kernel
theorem w_35 {Z : State} {a0 : Array Value} (G : Cl Z a0) : (Jvm.Cond.arrayClass .byte).before a0 Z = true := G.1 _ (List.mem_of_getElem? (l := tables_1) (i := 35) rfl)
theorem d_jdk_52_method_2_code_6 : decode jdk_52_method_2_code 6 = .ok (.areturn, 1) := by decide +kernel
set_option maxRecDepth 65536 in
set_option maxHeartbeats 40000000 in
theorem rm_nbf {l : Launch} {Z : State} {a0 : Array Value} (G : Cl Z a0) (n : Nat) (hn : n < 65536) :
    Met l Z EL1 (⟨"java/lang/StringUTF16", "newBytesFor", "(I)[B"⟩ : MethodName) jdk_52_method_2_code 1 (some (.array .byte)) ({ frames := 1, cells := 1, slots := 2 * n, locals := 12 } : Room) #[.int n.toInt32] [] [] (fun v σ ρ => ∃ b cb, v = some (.ref b) ∧ σ = [(b, cb)] ∧ ρ = [] ∧ ArrC Z cb .byte (List.replicate (2 * n) (.int 0))) := by
  refine Met.walk G.2.1 pn_0 #[.val (.int n.toInt32)] (fun m => by first | (simp [entryFrame, mkF, argsToLocals, Value.category]; done) | rfl) ?_
  intro X T0 W0
  refine Go.iloadN (pc' := 1) W0 d_jdk_52_method_2_code_0 rfl rfl ?_
  refine Go.static (pc' := 4) W0 (rm_nbl G n hn) (w_45 G) (w_46 G) (w_33 G) (w_47 G) (by decide) [] [] (σf := []) rfl rfl [(.int n.toInt32)] [] rfl (lenOf pd_1 rfl) rfl rfl d_jdk_52_method_2_code_1 rfl (by first | exact Nat.le_of_ble_eq_true rfl | (simp; done) | (simp; omega) | omega) (by first | exact Nat.le_of_ble_eq_true rfl | (simp; done) | (simp; omega) | omega) (by first | exact Nat.le_of_ble_eq_true rfl | (simp; done) | (simp; omega) | omega) (by first | exact Nat.le_of_ble_eq_true rfl | (simp; done) | (simp; omega) | omega) ?_
  rintro _ _ _ T1 ⟨rfl, rfl, rfl⟩ W2
  replace W2 : Wk l Z EL1 ({ frames := 1, cells := 1, slots := 2 * n, locals := 12 } : Room) "java/lang/StringUTF16" jdk_52_method_2_code 1 (some (.array .byte)) "newBytesFor" X [] [] T1 0 (0) := W2
  show Go Z EL1 _ _ _ X T1 4 #[.val (.int n.toInt32)] [(.int (2 * n).toInt32)]
  refine Go.newarr (pc' := 6) W2 .byte rfl (2 * n) (w_35 G) d_jdk_52_method_2_code_4 rfl (i32_nn (by omega)) (i32_clamp (by omega)) (by omega) (by first | exact Nat.le_of_ble_eq_true rfl | (simp; done) | (simp; omega) | omega) (by first | exact Nat.le_of_ble_eq_true rfl | (simp; done) | (simp; omega) | omega) (fun T3 b cb W4 B => ?_)
  refine Go.aret W4 rfl rfl d_jdk_52_method_2_code_6 (by first | exact Nat.le_of_ble_eq_true rfl | (simp; done) | (simp; omega) | omega) (by first | exact Nat.le_of_ble_eq_true rfl | (simp; done) | (simp; omega) | omega) ?_
  exact ⟨b, cb, rfl, rfl, rfl, B⟩
theorem d_jdk_52_method_4_code_0 : decode jdk_52_method_4_code 0 = .ok (.getstatic 44, 3) := by decide +kernel
theorem w_52 {Z : State} {a0 : Array Value} (G : Cl Z a0) : (Jvm.Cond.fieldLink "java/lang/StringUTF16" 44 "java/lang/StringUTF16" "$assertionsDisabled" "Z").before a0 Z = true := G.1 _ (List.mem_of_getElem? (l := tables_1) (i := 52) rfl)
theorem d_jdk_52_method_4_code_3 : decode jdk_52_method_4_code 3 = .ok (.ifCond .ne 25, 3) := by decide +kernel
theorem d_jdk_52_method_4_code_28 : decode jdk_52_method_4_code 28 = .ok (.iload_n 1, 1) := by decide +kernel
theorem d_jdk_52_method_4_code_29 : decode jdk_52_method_4_code 29 = .ok (.iconst 1, 1) := by decide +kernel
theorem d_jdk_52_method_4_code_30 : decode jdk_52_method_4_code 30 = .ok (.ishl, 1) := by decide +kernel
theorem d_jdk_52_method_4_code_31 : decode jdk_52_method_4_code 31 = .ok (.istore_n 1, 1) := by decide +kernel
theorem d_jdk_52_method_4_code_32 : decode jdk_52_method_4_code 32 = .ok (.aload_n 0, 1) := by decide +kernel
theorem d_jdk_52_method_4_code_33 : decode jdk_52_method_4_code 33 = .ok (.iload_n 1, 1) := by decide +kernel
theorem d_jdk_52_method_4_code_34 : decode jdk_52_method_4_code 34 = .ok (.iinc 1 1, 3) := by decide +kernel
theorem d_jdk_52_method_4_code_37 : decode jdk_52_method_4_code 37 = .ok (.iload_n 2, 1) := by decide +kernel
theorem d_jdk_52_method_4_code_38 : decode jdk_52_method_4_code 38 = .ok (.getstatic 59, 3) := by decide +kernel
theorem w_53 {Z : State} {a0 : Array Value} (G : Cl Z a0) : (Jvm.Cond.fieldLink "java/lang/StringUTF16" 59 "java/lang/StringUTF16" "HI_BYTE_SHIFT" "I").before a0 Z = true := G.1 _ (List.mem_of_getElem? (l := tables_1) (i := 53) rfl)
theorem d_jdk_52_method_4_code_41 : decode jdk_52_method_4_code 41 = .ok (.ishr, 1) := by decide +kernel
theorem d_jdk_52_method_4_code_42 : decode jdk_52_method_4_code 42 = .ok (.i2b, 1) := by decide +kernel
theorem d_jdk_52_method_4_code_43 : decode jdk_52_method_4_code 43 = .ok (.bastore, 1) := by decide +kernel
theorem d_jdk_52_method_4_code_44 : decode jdk_52_method_4_code 44 = .ok (.aload_n 0, 1) := by decide +kernel
theorem d_jdk_52_method_4_code_45 : decode jdk_52_method_4_code 45 = .ok (.iload_n 1, 1) := by decide +kernel
theorem d_jdk_52_method_4_code_46 : decode jdk_52_method_4_code 46 = .ok (.iload_n 2, 1) := by decide +kernel
theorem d_jdk_52_method_4_code_47 : decode jdk_52_method_4_code 47 = .ok (.getstatic 63, 3) := by decide +kernel
theorem w_54 {Z : State} {a0 : Array Value} (G : Cl Z a0) : (Jvm.Cond.fieldLink "java/lang/StringUTF16" 63 "java/lang/StringUTF16" "LO_BYTE_SHIFT" "I").before a0 Z = true := G.1 _ (List.mem_of_getElem? (l := tables_1) (i := 54) rfl)
theorem d_jdk_52_method_4_code_50 : decode jdk_52_method_4_code 50 = .ok (.ishr, 1) := by decide +kernel
theorem d_jdk_52_method_4_code_51 : decode jdk_52_method_4_code 51 = .ok (.i2b, 1) := by decide +kernel
theorem d_jdk_52_method_4_code_52 : decode jdk_52_method_4_code 52 = .ok (.bastore, 1) := by decide +kernel
theorem d_jdk_52_method_4_code_53 : decode jdk_52_method_4_code 53 = .ok (.return_, 1) := by decide +kernel
set_option maxRecDepth 65536 in
set_option maxHeartbeats 40000000 in
theorem rm_put {l : Launch} {Z : State} {a0 : Array Value} (G : Cl Z a0) (b : Addr) (cb : Cell) (vs : List Value) (i : Nat) (x : Int32) (B : ArrC Z cb .byte vs) (hi : 2 * i + 1 < vs.length) :
    Met l Z EL1 (⟨"java/lang/StringUTF16", "putChar", "([BII)V"⟩ : MethodName) jdk_52_method_4_code 3 none ({ frames := 0, cells := 0, slots := 0, locals := 0 } : Room) #[.ref b, .int i.toInt32, .int x] [(b, cb)] [] (fun v σ ρ => ∃ cb', v = none ∧ σ = [(b, cb')] ∧ ρ = [] ∧ ArrC Z cb' .byte ((vs.set (2 * i) (lo8 x)).set (2 * i + 1) (hi8 x))) := by
  refine Met.walk G.2.1 pn_0 #[.val (.ref b), .val (.int i.toInt32), .val (.int x)] (fun m => by first | (simp [entryFrame, mkF, argsToLocals, Value.category]; done) | rfl) ?_
  intro X T0 W0
  have hn := B.2.2.2.2
  refine Go.getstatic (pc' := 3) W0 (w_52 G) Via.refl G.2.2.2.2.1 d_jdk_52_method_4_code_0 rfl (fun T1 W2 => ?_)
  refine Go.if_ne (pc' := 6) W2 28 d_jdk_52_method_4_code_3 (by decide) rfl (fun _ => ?_) (fun q => absurd q (by decide))
  refine Go.iloadN (pc' := 29) W2 d_jdk_52_method_4_code_28 rfl rfl ?_
  refine Go.iconst (pc' := 30) W2 (1 : Int32) d_jdk_52_method_4_code_29 (by decide) rfl ?_
  refine Go.ishl (pc' := 31) W2 d_jdk_52_method_4_code_30 rfl ?_
  rw [shl1 (by omega)]
  refine Go.istoreN (pc' := 32) W2 #[.val (.ref b), .val (.int (2 * i).toInt32), .val (.int x)] d_jdk_52_method_4_code_31 rfl rfl ?_
  refine Go.aloadN (pc' := 33) W2 d_jdk_52_method_4_code_32 rfl rfl rfl ?_
  refine Go.iloadN (pc' := 34) W2 d_jdk_52_method_4_code_33 rfl rfl ?_
  refine Go.iinc (pc' := 37) W2 (1 : Int32) #[.val (.ref b), .val (.int ((2 * i).toInt32 + (1 : Int32))), .val (.int x)] d_jdk_52_method_4_code_34 rfl (by decide) rfl rfl ?_
  rw [i32_succ (by omega)]
  refine Go.iloadN (pc' := 38) W2 d_jdk_52_method_4_code_37 rfl rfl ?_
  refine Go.getstatic (pc' := 41) W2 (w_53 G) Via.refl G.2.2.2.2.2.1 d_jdk_52_method_4_code_38 rfl (fun T3 W4 => ?_)
  refine Go.ishr (pc' := 42) W4 d_jdk_52_method_4_code_41 rfl ?_
  refine Go.i2b (pc' := 43) W4 d_jdk_52_method_4_code_42 rfl ?_
  refine Go.bastore (pc' := 44) W4 0 rfl B (2 * i) (i32_nn (by omega)) (i32_clamp (by omega)) (by first | omega | (simp; omega)) d_jdk_52_method_4_code_43 rfl (fun T5 c7 W6 A8 => ?_)
  rw [i8_i8, shr0] at A8
  replace W6 : Wk l Z EL1 ({ frames := 0, cells := 0, slots := 0, locals := 0 } : Room) "java/lang/StringUTF16" jdk_52_method_4_code 3 none "putChar" X [(b, c7)] [] T5 0 (0) := W6
  refine Go.aloadN (pc' := 45) W6 d_jdk_52_method_4_code_44 rfl rfl rfl ?_
  refine Go.iloadN (pc' := 46) W6 d_jdk_52_method_4_code_45 rfl rfl ?_
  refine Go.iloadN (pc' := 47) W6 d_jdk_52_method_4_code_46 rfl rfl ?_
  refine Go.getstatic (pc' := 50) W6 (w_54 G) Via.refl G.2.2.2.2.2.2 d_jdk_52_method_4_code_47 rfl (fun T9 W10 => ?_)
  refine Go.ishr (pc' := 51) W10 d_jdk_52_method_4_code_50 rfl ?_
  refine Go.i2b (pc' := 52) W10 d_jdk_52_method_4_code_51 rfl ?_
  refine Go.bastore (pc' := 53) W10 0 rfl A8 (2 * i + 1) (i32_nn (by omega)) (i32_clamp (by omega)) (by first | omega | (simp; omega)) d_jdk_52_method_4_code_52 rfl (fun T11 c13 W12 A14 => ?_)
  rw [i8_i8] at A14
  replace W12 : Wk l Z EL1 ({ frames := 0, cells := 0, slots := 0, locals := 0 } : Room) "java/lang/StringUTF16" jdk_52_method_4_code 3 none "putChar" X [(b, c13)] [] T11 0 (0) := W12
  refine Go.retV W12 d_jdk_52_method_4_code_53 (by first | exact Nat.le_of_ble_eq_true rfl | (simp; done) | (simp; omega) | omega) (by first | exact Nat.le_of_ble_eq_true rfl | (simp; done) | (simp; omega) | omega) ?_
  exact ⟨_, rfl, rfl, rfl, A14⟩
theorem d_jdk_52_method_5_code_0 : decode jdk_52_method_5_code 0 = .ok (.getstatic 44, 3) := by decide +kernel
theorem d_jdk_52_method_5_code_3 : decode jdk_52_method_5_code 3 = .ok (.ifCond .ne 25, 3) := by decide +kernel
theorem d_jdk_52_method_5_code_28 : decode jdk_52_method_5_code 28 = .ok (.iload_n 1, 1) := by decide +kernel
theorem d_jdk_52_method_5_code_29 : decode jdk_52_method_5_code 29 = .ok (.iconst 1, 1) := by decide +kernel
theorem d_jdk_52_method_5_code_30 : decode jdk_52_method_5_code 30 = .ok (.ishl, 1) := by decide +kernel
theorem d_jdk_52_method_5_code_31 : decode jdk_52_method_5_code 31 = .ok (.istore_n 1, 1) := by decide +kernel
theorem d_jdk_52_method_5_code_32 : decode jdk_52_method_5_code 32 = .ok (.aload_n 0, 1) := by decide +kernel
theorem d_jdk_52_method_5_code_33 : decode jdk_52_method_5_code 33 = .ok (.iload_n 1, 1) := by decide +kernel
theorem d_jdk_52_method_5_code_34 : decode jdk_52_method_5_code 34 = .ok (.iinc 1 1, 3) := by decide +kernel
theorem d_jdk_52_method_5_code_37 : decode jdk_52_method_5_code 37 = .ok (.baload, 1) := by decide +kernel
theorem d_jdk_52_method_5_code_38 : decode jdk_52_method_5_code 38 = .ok (.sipush 255, 3) := by decide +kernel
theorem d_jdk_52_method_5_code_41 : decode jdk_52_method_5_code 41 = .ok (.iand, 1) := by decide +kernel
theorem d_jdk_52_method_5_code_42 : decode jdk_52_method_5_code 42 = .ok (.getstatic 59, 3) := by decide +kernel
theorem d_jdk_52_method_5_code_45 : decode jdk_52_method_5_code 45 = .ok (.ishl, 1) := by decide +kernel
theorem d_jdk_52_method_5_code_46 : decode jdk_52_method_5_code 46 = .ok (.aload_n 0, 1) := by decide +kernel
theorem d_jdk_52_method_5_code_47 : decode jdk_52_method_5_code 47 = .ok (.iload_n 1, 1) := by decide +kernel
theorem d_jdk_52_method_5_code_48 : decode jdk_52_method_5_code 48 = .ok (.baload, 1) := by decide +kernel
theorem d_jdk_52_method_5_code_49 : decode jdk_52_method_5_code 49 = .ok (.sipush 255, 3) := by decide +kernel
theorem d_jdk_52_method_5_code_52 : decode jdk_52_method_5_code 52 = .ok (.iand, 1) := by decide +kernel
theorem d_jdk_52_method_5_code_53 : decode jdk_52_method_5_code 53 = .ok (.getstatic 63, 3) := by decide +kernel
theorem d_jdk_52_method_5_code_56 : decode jdk_52_method_5_code 56 = .ok (.ishl, 1) := by decide +kernel
theorem d_jdk_52_method_5_code_57 : decode jdk_52_method_5_code 57 = .ok (.ior, 1) := by decide +kernel
theorem d_jdk_52_method_5_code_58 : decode jdk_52_method_5_code 58 = .ok (.i2c, 1) := by decide +kernel
theorem d_jdk_52_method_5_code_59 : decode jdk_52_method_5_code 59 = .ok (.ireturn, 1) := by decide +kernel
set_option maxRecDepth 65536 in
set_option maxHeartbeats 40000000 in
theorem rm_get {l : Launch} {Z : State} {a0 : Array Value} (G : Cl Z a0) (b : Addr) (cb : Cell) (cs : List Int32) (i : Nat) (x : Int32) (B : ArrC Z cb .byte (utfB cs)) (hL : ¬ x < 0 ∧ ¬ (65535 : Int32) < x) (hx : cs[i]? = some x) :
    Met l Z EL1 (⟨"java/lang/StringUTF16", "getChar", "([BI)C"⟩ : MethodName) jdk_52_method_5_code 2 (some .char) ({ frames := 0, cells := 0, slots := 0, locals := 0 } : Room) #[.ref b, .int i.toInt32] [(b, cb)] [] (fun v σ ρ => v = some (.int x) ∧ σ = [(b, cb)] ∧ ρ = []) := by
  refine Met.walk G.2.1 pn_0 #[.val (.ref b), .val (.int i.toInt32)] (fun m => by first | (simp [entryFrame, mkF, argsToLocals, Value.category]; done) | rfl) ?_
  intro X T0 W0
  have hi := (List.getElem?_eq_some_iff.mp hx).1
  have hn := B.2.2.2.2
  rw [utfB_len] at hn
  refine Go.getstatic (pc' := 3) W0 (w_52 G) Via.refl G.2.2.2.2.1 d_jdk_52_method_5_code_0 rfl (fun T1 W2 => ?_)
  refine Go.if_ne (pc' := 6) W2 28 d_jdk_52_method_5_code_3 (by decide) rfl (fun _ => ?_) (fun q => absurd q (by decide))
  refine Go.iloadN (pc' := 29) W2 d_jdk_52_method_5_code_28 rfl rfl ?_
  refine Go.iconst (pc' := 30) W2 (1 : Int32) d_jdk_52_method_5_code_29 (by decide) rfl ?_
  refine Go.ishl (pc' := 31) W2 d_jdk_52_method_5_code_30 rfl ?_
  rw [shl1 (by omega)]
  refine Go.istoreN (pc' := 32) W2 #[.val (.ref b), .val (.int (2 * i).toInt32)] d_jdk_52_method_5_code_31 rfl rfl ?_
  refine Go.aloadN (pc' := 33) W2 d_jdk_52_method_5_code_32 rfl rfl rfl ?_
  refine Go.iloadN (pc' := 34) W2 d_jdk_52_method_5_code_33 rfl rfl ?_
  refine Go.iinc (pc' := 37) W2 (1 : Int32) #[.val (.ref b), .val (.int ((2 * i).toInt32 + (1 : Int32)))] d_jdk_52_method_5_code_34 rfl (by decide) rfl rfl ?_
  rw [i32_succ (by omega)]
  refine Go.baload (pc' := 38) W2 (Or.inl (List.mem_of_getElem? (i := 0) rfl)) B (2 * i) (i32_nn (by omega)) (i32_clamp (by omega)) (v := lo8 x) (utfB_get hx).1 d_jdk_52_method_5_code_37 rfl ?_
  refine Go.sipush (pc' := 41) W2 (255 : Int32) d_jdk_52_method_5_code_38 (by decide) rfl ?_
  refine Go.iand (pc' := 42) W2 d_jdk_52_method_5_code_41 rfl ?_
  refine Go.getstatic (pc' := 45) W2 (w_53 G) Via.refl G.2.2.2.2.2.1 d_jdk_52_method_5_code_42 rfl (fun T3 W4 => ?_)
  refine Go.ishl (pc' := 46) W4 d_jdk_52_method_5_code_45 rfl ?_
  refine Go.aloadN (pc' := 47) W4 d_jdk_52_method_5_code_46 rfl rfl rfl ?_
  refine Go.iloadN (pc' := 48) W4 d_jdk_52_method_5_code_47 rfl rfl ?_
  refine Go.baload (pc' := 49) W4 (Or.inl (List.mem_of_getElem? (i := 0) rfl)) B (2 * i + 1) (i32_nn (by omega)) (i32_clamp (by omega)) (v := hi8 x) (utfB_get hx).2 d_jdk_52_method_5_code_48 rfl ?_
  refine Go.sipush (pc' := 52) W4 (255 : Int32) d_jdk_52_method_5_code_49 (by decide) rfl ?_
  refine Go.iand (pc' := 53) W4 d_jdk_52_method_5_code_52 rfl ?_
  refine Go.getstatic (pc' := 56) W4 (w_54 G) Via.refl G.2.2.2.2.2.2 d_jdk_52_method_5_code_53 rfl (fun T5 W6 => ?_)
  refine Go.ishl (pc' := 57) W6 d_jdk_52_method_5_code_56 rfl ?_
  refine Go.ior (pc' := 58) W6 d_jdk_52_method_5_code_57 rfl ?_
  refine Go.i2c (pc' := 59) W6 d_jdk_52_method_5_code_58 rfl ?_
  refine Go.nret (z' := x) W6 (by simp) (by rw [getch hL, i2c_id hL.1 hL.2, nar_char_id hL]) d_jdk_52_method_5_code_59 (by first | exact Nat.le_of_ble_eq_true rfl | (simp; done) | (simp; omega) | omega) (by first | exact Nat.le_of_ble_eq_true rfl | (simp; done) | (simp; omega) | omega) ?_
  exact ⟨rfl, rfl, rfl⟩
set_option maxRecDepth 65536 in
set_option maxHeartbeats 40000000 in
theorem rm_getR {l : Launch} {Z : State} {a0 : Array Value} (G : Cl Z a0) (b : Addr) (cb : Cell) (cs : List Int32) (i : Nat) (x : Int32) (B : ArrC Z cb .byte (utfB cs)) (hL : ¬ x < 0 ∧ ¬ (65535 : Int32) < x) (hx : cs[i]? = some x) :
    Met l Z EL1 (⟨"java/lang/StringUTF16", "getChar", "([BI)C"⟩ : MethodName) jdk_52_method_5_code 2 (some .char) ({ frames := 0, cells := 0, slots := 0, locals := 0 } : Room) #[.ref b, .int i.toInt32] [] [(b, cb)] (fun v σ ρ => v = some (.int x) ∧ σ = [] ∧ ρ = []) := by
  refine Met.walk G.2.1 pn_0 #[.val (.ref b), .val (.int i.toInt32)] (fun m => by first | (simp [entryFrame, mkF, argsToLocals, Value.category]; done) | rfl) ?_
  intro X T0 W0
  have hi := (List.getElem?_eq_some_iff.mp hx).1
  have hn := B.2.2.2.2
  rw [utfB_len] at hn
  refine Go.getstatic (pc' := 3) W0 (w_52 G) Via.refl G.2.2.2.2.1 d_jdk_52_method_5_code_0 rfl (fun T1 W2 => ?_)
  refine Go.if_ne (pc' := 6) W2 28 d_jdk_52_method_5_code_3 (by decide) rfl (fun _ => ?_) (fun q => absurd q (by decide))
  refine Go.iloadN (pc' := 29) W2 d_jdk_52_method_5_code_28 rfl rfl ?_
  refine Go.iconst (pc' := 30) W2 (1 : Int32) d_jdk_52_method_5_code_29 (by decide) rfl ?_
  refine Go.ishl (pc' := 31) W2 d_jdk_52_method_5_code_30 rfl ?_
  rw [shl1 (by omega)]
  refine Go.istoreN (pc' := 32) W2 #[.val (.ref b), .val (.int (2 * i).toInt32)] d_jdk_52_method_5_code_31 rfl rfl ?_
  refine Go.aloadN (pc' := 33) W2 d_jdk_52_method_5_code_32 rfl rfl rfl ?_
  refine Go.iloadN (pc' := 34) W2 d_jdk_52_method_5_code_33 rfl rfl ?_
  refine Go.iinc (pc' := 37) W2 (1 : Int32) #[.val (.ref b), .val (.int ((2 * i).toInt32 + (1 : Int32)))] d_jdk_52_method_5_code_34 rfl (by decide) rfl rfl ?_
  rw [i32_succ (by omega)]
  refine Go.baload (pc' := 38) W2 (Or.inr (Or.inl (List.mem_of_getElem? (i := 0) rfl))) B (2 * i) (i32_nn (by omega)) (i32_clamp (by omega)) (v := lo8 x) (utfB_get hx).1 d_jdk_52_method_5_code_37 rfl ?_
  refine Go.sipush (pc' := 41) W2 (255 : Int32) d_jdk_52_method_5_code_38 (by decide) rfl ?_
  refine Go.iand (pc' := 42) W2 d_jdk_52_method_5_code_41 rfl ?_
  refine Go.getstatic (pc' := 45) W2 (w_53 G) Via.refl G.2.2.2.2.2.1 d_jdk_52_method_5_code_42 rfl (fun T3 W4 => ?_)
  refine Go.ishl (pc' := 46) W4 d_jdk_52_method_5_code_45 rfl ?_
  refine Go.aloadN (pc' := 47) W4 d_jdk_52_method_5_code_46 rfl rfl rfl ?_
  refine Go.iloadN (pc' := 48) W4 d_jdk_52_method_5_code_47 rfl rfl ?_
  refine Go.baload (pc' := 49) W4 (Or.inr (Or.inl (List.mem_of_getElem? (i := 0) rfl))) B (2 * i + 1) (i32_nn (by omega)) (i32_clamp (by omega)) (v := hi8 x) (utfB_get hx).2 d_jdk_52_method_5_code_48 rfl ?_
  refine Go.sipush (pc' := 52) W4 (255 : Int32) d_jdk_52_method_5_code_49 (by decide) rfl ?_
  refine Go.iand (pc' := 53) W4 d_jdk_52_method_5_code_52 rfl ?_
  refine Go.getstatic (pc' := 56) W4 (w_54 G) Via.refl G.2.2.2.2.2.2 d_jdk_52_method_5_code_53 rfl (fun T5 W6 => ?_)
  refine Go.ishl (pc' := 57) W6 d_jdk_52_method_5_code_56 rfl ?_
  refine Go.ior (pc' := 58) W6 d_jdk_52_method_5_code_57 rfl ?_
  refine Go.i2c (pc' := 59) W6 d_jdk_52_method_5_code_58 rfl ?_
  have W7 := W6.keepRo [] (ρ' := []) rfl
  replace W7 : Wk l Z EL1 ({ frames := 0, cells := 0, slots := 0, locals := 0 } : Room) "java/lang/StringUTF16" jdk_52_method_5_code 2 (some .char) "getChar" X [] [] T5 0 (0) := W7
  refine Go.nret (z' := x) W7 (by simp) (by rw [getch hL, i2c_id hL.1 hL.2, nar_char_id hL]) d_jdk_52_method_5_code_59 (by first | exact Nat.le_of_ble_eq_true rfl | (simp; done) | (simp; omega) | omega) (by first | exact Nat.le_of_ble_eq_true rfl | (simp; done) | (simp; omega) | omega) ?_
  exact ⟨rfl, rfl, rfl⟩
theorem d_jdk_52_method_14_code_0 : decode jdk_52_method_14_code 0 = .ok (.iload_n 2, 1) := by decide +kernel
theorem d_jdk_52_method_14_code_1 : decode jdk_52_method_14_code 1 = .ok (.invokestatic 107, 3) := by decide +kernel
theorem d_jdk_52_method_14_code_4 : decode jdk_52_method_14_code 4 = .ok (.astore_n 3, 1) := by decide +kernel
theorem d_jdk_52_method_14_code_5 : decode jdk_52_method_14_code 5 = .ok (.iconst 0, 1) := by decide +kernel
theorem d_jdk_52_method_14_code_6 : decode jdk_52_method_14_code 6 = .ok (.istore 4, 2) := by decide +kernel
theorem d_jdk_52_method_14_code_8 : decode jdk_52_method_14_code 8 = .ok (.iload 4, 2) := by decide +kernel
theorem d_jdk_52_method_14_code_10 : decode jdk_52_method_14_code 10 = .ok (.iload_n 2, 1) := by decide +kernel
theorem d_jdk_52_method_14_code_11 : decode jdk_52_method_14_code 11 = .ok (.if_icmp .ge 21, 3) := by decide +kernel
theorem d_jdk_52_method_14_code_14 : decode jdk_52_method_14_code 14 = .ok (.aload_n 3, 1) := by decide +kernel
theorem d_jdk_52_method_14_code_15 : decode jdk_52_method_14_code 15 = .ok (.iload 4, 2) := by decide +kernel
theorem d_jdk_52_method_14_code_17 : decode jdk_52_method_14_code 17 = .ok (.aload_n 0, 1) := by decide +kernel
theorem d_jdk_52_method_14_code_18 : decode jdk_52_method_14_code 18 = .ok (.iload_n 1, 1) := by decide +kernel
theorem d_jdk_52_method_14_code_19 : decode jdk_52_method_14_code 19 = .ok (.caload, 1) := by decide +kernel
theorem d_jdk_52_method_14_code_20 : decode jdk_52_method_14_code 20 = .ok (.invokestatic 111, 3) := by decide +kernel
theorem d_jdk_52_method_14_code_23 : decode jdk_52_method_14_code 23 = .ok (.iinc 1 1, 3) := by decide +kernel
theorem d_jdk_52_method_14_code_26 : decode jdk_52_method_14_code 26 = .ok (.iinc 4 1, 3) := by decide +kernel
theorem d_jdk_52_method_14_code_29 : decode jdk_52_method_14_code 29 = .ok (.goto (-21), 3) := by decide +kernel
theorem d_jdk_52_method_14_code_32 : decode jdk_52_method_14_code 32 = .ok (.aload_n 3, 1) := by decide +kernel
theorem d_jdk_52_method_14_code_33 : decode jdk_52_method_14_code 33 = .ok (.areturn, 1) := by decide +kernel
theorem w_49 {Z : State} {a0 : Array Value} (G : Cl Z a0) : (Jvm.Cond.methodLink "java/lang/StringUTF16" 111 (⟨"java/lang/StringUTF16", "putChar", "([BII)V"⟩ : MethodName)).before a0 Z = true := G.1 _ (List.mem_of_getElem? (l := tables_1) (i := 49) rfl)
theorem w_50 {Z : State} {a0 : Array Value} (G : Cl Z a0) : (Jvm.Cond.static (⟨"java/lang/StringUTF16", "putChar", "([BII)V"⟩ : MethodName)).before a0 Z = true := G.1 _ (List.mem_of_getElem? (l := tables_1) (i := 50) rfl)
theorem w_51 {Z : State} {a0 : Array Value} (G : Cl Z a0) : (Jvm.Cond.code (⟨"java/lang/StringUTF16", "putChar", "([BII)V"⟩ : MethodName) jdk_52_method_4_code 3 none).before a0 Z = true := G.1 _ (List.mem_of_getElem? (l := tables_1) (i := 51) rfl)
theorem pd_2 : parseMethodDescriptor "([BII)V" = some ⟨[(.array .byte), .int, .int], none⟩ := by decide +kernel
theorem lp_tby {l : Launch} {Z : State} {a0 : Array Value} (G : Cl Z a0) {X : Ctx} {ac b : Addr} {cc : Cell} {cs : List Int32} (A : ArrC Z cc .char (chV cs)) (hn : cs.length < 65536) :
    ∀ (j i : Nat), i + j = cs.length → ∀ (T : State) (cb : Cell), Wk l Z EL1 ({ frames := 2, cells := 1, slots := 2 * cs.length, locals := 24 } : Room) "java/lang/StringUTF16" jdk_52_method_14_code 5 (some (.array .byte)) "toBytes" X [(ac, cc), (b, cb)] [] T 1 (2 * cs.length) → ArrC Z cb .byte (utfB (cs.take i) ++ List.replicate (2 * j) (.int 0)) →
      Go Z EL1 1 (2 * cs.length) (fun v σ ρ => ∃ b cb, v = some (.ref b) ∧ σ = [(ac, cc), (b, cb)] ∧ ρ = [] ∧ ArrC Z cb .byte (utfB cs)) X T 8 #[.val (.ref ac), .val (.int i.toInt32), .val (.int cs.length.toInt32), .val (.ref b), .val (.int i.toInt32)] []
  | 0, i, hij, T, cb, W, B => by
    obtain rfl : i = cs.length := by omega
    refine Go.iload (pc' := 10) W d_jdk_52_method_14_code_8 rfl rfl ?_
    refine Go.iloadN (pc' := 11) W d_jdk_52_method_14_code_10 rfl rfl ?_
    refine Go.icmp_ge (pc' := 14) W 32 d_jdk_52_method_14_code_11 (by decide) rfl (fun _ => ?_) (fun q => absurd q (by rw [i32_lt (by omega) (by omega)]; omega))
    refine Go.aloadN (pc' := 33) W d_jdk_52_method_14_code_32 rfl rfl rfl ?_
    exact Go.aret W rfl rfl d_jdk_52_method_14_code_33 (by first | exact Nat.le_of_ble_eq_true rfl | (simp; done) | (simp; omega) | omega) (by first | exact Nat.le_of_ble_eq_true rfl | (simp; done) | (simp; omega) | omega) ⟨b, cb, rfl, rfl, rfl, by simpa using B⟩
  | j + 1, i, hij, T, cb, W, B => by
    have hi : i < cs.length := by omega
    obtain ⟨x, hx⟩ : ∃ x, cs[i]? = some x := ⟨_, List.getElem?_eq_getElem hi⟩
    have hlen : 2 * i + 1 < (utfB (cs.take i) ++ List.replicate (2 * (j + 1)) (.int 0 : Value)).length := by rw [List.length_append, utfB_len, List.length_take, List.length_replicate]; omega
    refine Go.iload (pc' := 10) W d_jdk_52_method_14_code_8 rfl rfl ?_
    refine Go.iloadN (pc' := 11) W d_jdk_52_method_14_code_10 rfl rfl ?_
    refine Go.icmp_ge (pc' := 14) W 32 d_jdk_52_method_14_code_11 (by decide) rfl (fun q => absurd ((i32_lt (by omega) (by omega)).mpr hi) q) (fun _ => ?_)
    refine Go.aloadN (pc' := 15) W d_jdk_52_method_14_code_14 rfl rfl rfl ?_
    refine Go.iload (pc' := 17) W d_jdk_52_method_14_code_15 rfl rfl ?_
    refine Go.aloadN (pc' := 18) W d_jdk_52_method_14_code_17 rfl rfl rfl ?_
    refine Go.iloadN (pc' := 19) W d_jdk_52_method_14_code_18 rfl rfl ?_
    refine Go.caload (pc' := 20) W (Or.inl (List.mem_of_getElem? (i := 0) rfl)) A i (i32_nn (by omega)) (i32_clamp (by omega)) (v := .int x) (by rw [chV, List.getElem?_map, hx]; rfl) d_jdk_52_method_14_code_19 rfl ?_
    refine Go.static (pc' := 23) W (rm_put G b cb _ i x B hlen) (w_49 G) (w_50 G) (w_33 G) (w_51 G) (by decide) [1] [] (σf := [(ac, cc)]) rfl rfl [.ref b, .int i.toInt32, .int x] [] rfl (lenOf pd_2 rfl) rfl rfl d_jdk_52_method_14_code_20 rfl (by first | exact Nat.le_of_ble_eq_true rfl | (simp; done) | (simp; omega) | omega) (by first | exact Nat.le_of_ble_eq_true rfl | (simp; done) | (simp; omega) | omega) (by first | exact Nat.le_of_ble_eq_true rfl | (simp; done) | (simp; omega) | omega) (by first | exact Nat.le_of_ble_eq_true rfl | (simp; done) | (simp; omega) | omega) ?_
    rintro _ _ _ T2 ⟨cb2, rfl, rfl, rfl, B2⟩ W2
    rw [set2_next hx] at B2
    have W3 := W2.perm (σ' := [(ac, cc), (b, cb2)]) (List.Perm.swap _ _ _)
    refine Go.iinc (pc' := 26) W3 (1 : Int32) #[.val (.ref ac), .val (.int (i.toInt32 + 1)), .val (.int cs.length.toInt32), .val (.ref b), .val (.int i.toInt32)] d_jdk_52_method_14_code_23 rfl (by decide) rfl rfl ?_
    refine Go.iinc (pc' := 29) W3 (1 : Int32) #[.val (.ref ac), .val (.int (i.toInt32 + 1)), .val (.int cs.length.toInt32), .val (.ref b), .val (.int (i.toInt32 + 1))] d_jdk_52_method_14_code_26 rfl (by decide) rfl rfl ?_
    refine Go.goto W3 8 d_jdk_52_method_14_code_29 (by decide) ?_
    rw [i32_succ (by omega)]
    exact lp_tby G A hn j (i + 1) (by omega) T2 cb2 W3 B2
theorem w_42 {Z : State} {a0 : Array Value} (G : Cl Z a0) : (Jvm.Cond.methodLink "java/lang/StringUTF16" 107 (⟨"java/lang/StringUTF16", "newBytesFor", "(I)[B"⟩ : MethodName)).before a0 Z = true := G.1 _ (List.mem_of_getElem? (l := tables_1) (i := 42) rfl)
theorem w_43 {Z : State} {a0 : Array Value} (G : Cl Z a0) : (Jvm.Cond.static (⟨"java/lang/StringUTF16", "newBytesFor", "(I)[B"⟩ : MethodName)).before a0 Z = true := G.1 _ (List.mem_of_getElem? (l := tables_1) (i := 43) rfl)
theorem w_44 {Z : State} {a0 : Array Value} (G : Cl Z a0) : (Jvm.Cond.code (⟨"java/lang/StringUTF16", "newBytesFor", "(I)[B"⟩ : MethodName) jdk_52_method_2_code 1 (some (.array .byte))).before a0 Z = true := G.1 _ (List.mem_of_getElem? (l := tables_1) (i := 44) rfl)
theorem pd_3 : parseMethodDescriptor "(I)[B" = some ⟨[.int], some (.array .byte)⟩ := by decide +kernel
theorem rm_tby {l : Launch} {Z : State} {a0 : Array Value} (G : Cl Z a0) (ac : Addr) (cc : Cell) (cs : List Int32) (A : ArrC Z cc .char (chV cs)) (hn : cs.length < 65536) :
    Met l Z EL1 (⟨"java/lang/StringUTF16", "toBytes", "([CII)[B"⟩ : MethodName) jdk_52_method_14_code 5 (some (.array .byte)) ({ frames := 2, cells := 1, slots := 2 * cs.length, locals := 24 } : Room) #[.ref ac, .int 0, .int cs.length.toInt32] [(ac, cc)] [] (fun v σ ρ => ∃ b cb, v = some (.ref b) ∧ σ = [(ac, cc), (b, cb)] ∧ ρ = [] ∧ ArrC Z cb .byte (utfB cs)) := by
  refine Met.walk G.2.1 pn_0 #[.val (.ref ac), .val (.int 0), .val (.int cs.length.toInt32), .unset, .unset] (fun m => by first | (simp [entryFrame, mkF, argsToLocals, Value.category]; done) | rfl) ?_
  intro X T0 W0
  refine Go.iloadN (pc' := 1) W0 d_jdk_52_method_14_code_0 rfl rfl ?_
  refine Go.static (pc' := 4) W0 (rm_nbf G cs.length hn) (w_42 G) (w_43 G) (w_33 G) (w_44 G) (by decide) [] [] (σf := [(ac, cc)]) rfl rfl [.int cs.length.toInt32] [] rfl (lenOf pd_3 rfl) rfl rfl d_jdk_52_method_14_code_1 rfl (by first | exact Nat.le_of_ble_eq_true rfl | (simp; done) | (simp; omega) | omega) (by first | exact Nat.le_of_ble_eq_true rfl | (simp; done) | (simp; omega) | omega) (by first | exact Nat.le_of_ble_eq_true rfl | (simp; done) | (simp; omega) | omega) (by first | exact Nat.le_of_ble_eq_true rfl | (simp; done) | (simp; omega) | omega) ?_
  rintro _ _ _ T1 ⟨b, cb, rfl, rfl, rfl, B⟩ W1
  have W2 := W1.perm (σ' := [(ac, cc), (b, cb)]) (List.Perm.swap _ _ _)
  refine Go.astoreN (pc' := 5) W2 #[.val (.ref ac), .val (.int 0), .val (.int cs.length.toInt32), .val (.ref b), .unset] d_jdk_52_method_14_code_4 rfl rfl rfl ?_
  refine Go.iconst (pc' := 6) W2 (0 : Int32) d_jdk_52_method_14_code_5 (by decide) rfl ?_
  refine Go.istore (pc' := 8) W2 #[.val (.ref ac), .val (.int 0), .val (.int cs.length.toInt32), .val (.ref b), .val (.int 0)] d_jdk_52_method_14_code_6 rfl rfl ?_
  exact lp_tby G A hn cs.length 0 (by omega) T1 cb (W2.more (by first | exact Nat.le_of_ble_eq_true rfl | (simp; done) | (simp; omega) | omega) (by first | exact Nat.le_of_ble_eq_true rfl | (simp; done) | (simp; omega) | omega)) (by simpa [utfB] using B)
theorem d_jdk_52_method_21_code_0 : decode jdk_52_method_21_code 0 = .ok (.iconst 0, 1) := by decide +kernel
theorem d_jdk_52_method_21_code_1 : decode jdk_52_method_21_code 1 = .ok (.istore 5, 2) := by decide +kernel
theorem d_jdk_52_method_21_code_3 : decode jdk_52_method_21_code 3 = .ok (.iload 5, 2) := by decide +kernel
theorem d_jdk_52_method_21_code_5 : decode jdk_52_method_21_code 5 = .ok (.iload 4, 2) := by decide +kernel
theorem d_jdk_52_method_21_code_7 : decode jdk_52_method_21_code 7 = .ok (.if_icmp .ge 37, 3) := by decide +kernel
theorem d_jdk_52_method_21_code_10 : decode jdk_52_method_21_code 10 = .ok (.aload_n 0, 1) := by decide +kernel
theorem d_jdk_52_method_21_code_11 : decode jdk_52_method_21_code 11 = .ok (.iload_n 1, 1) := by decide +kernel
theorem d_jdk_52_method_21_code_12 : decode jdk_52_method_21_code 12 = .ok (.caload, 1) := by decide +kernel
theorem d_jdk_52_method_21_code_13 : decode jdk_52_method_21_code 13 = .ok (.istore 6, 2) := by decide +kernel
theorem d_jdk_52_method_21_code_15 : decode jdk_52_method_21_code 15 = .ok (.iload 6, 2) := by decide +kernel
theorem d_jdk_52_method_21_code_17 : decode jdk_52_method_21_code 17 = .ok (.sipush 255, 3) := by decide +kernel
theorem d_jdk_52_method_21_code_20 : decode jdk_52_method_21_code 20 = .ok (.if_icmp .le 6, 3) := by decide +kernel
theorem d_jdk_52_method_21_code_23 : decode jdk_52_method_21_code 23 = .ok (.iload 5, 2) := by decide +kernel
theorem d_jdk_52_method_21_code_25 : decode jdk_52_method_21_code 25 = .ok (.ireturn, 1) := by decide +kernel
theorem d_jdk_52_method_21_code_26 : decode jdk_52_method_21_code 26 = .ok (.aload_n 2, 1) := by decide +kernel
theorem d_jdk_52_method_21_code_27 : decode jdk_52_method_21_code 27 = .ok (.iload_n 3, 1) := by decide +kernel
theorem d_jdk_52_method_21_code_28 : decode jdk_52_method_21_code 28 = .ok (.iload 6, 2) := by decide +kernel
theorem d_jdk_52_method_21_code_30 : decode jdk_52_method_21_code 30 = .ok (.i2b, 1) := by decide +kernel
theorem d_jdk_52_method_21_code_31 : decode jdk_52_method_21_code 31 = .ok (.bastore, 1) := by decide +kernel
theorem d_jdk_52_method_21_code_32 : decode jdk_52_method_21_code 32 = .ok (.iinc 1 1, 3) := by decide +kernel
theorem d_jdk_52_method_21_code_35 : decode jdk_52_method_21_code 35 = .ok (.iinc 3 1, 3) := by decide +kernel
theorem d_jdk_52_method_21_code_38 : decode jdk_52_method_21_code 38 = .ok (.iinc 5 1, 3) := by decide +kernel
theorem d_jdk_52_method_21_code_41 : decode jdk_52_method_21_code 41 = .ok (.goto (-38), 3) := by decide +kernel
theorem d_jdk_52_method_21_code_44 : decode jdk_52_method_21_code 44 = .ok (.iload 4, 2) := by decide +kernel
theorem d_jdk_52_method_21_code_46 : decode jdk_52_method_21_code 46 = .ok (.ireturn, 1) := by decide +kernel
theorem lp_cmp5 {l : Launch} {Z : State} {X : Ctx} {ac b : Addr} {cc : Cell} {cs : List Int32} (A : ArrC Z cc .char (chV cs)) (hc : Chr cs) (hn : cs.length < 65536) :
    ∀ (j i : Nat), i + j = cs.length → Lat (cs.take i) → ∀ (o6 : Slot), One o6 → ∀ (T : State) (cb : Cell), Wk l Z EL1 ({ frames := 0, cells := 0, slots := 0, locals := 0 } : Room) "java/lang/StringUTF16" jdk_52_method_21_code 7 (some .int) "compress" X [(ac, cc), (b, cb)] [] T 0 0 → ArrC Z cb .byte (latB (cs.take i) ++ List.replicate j (.int 0)) →
      Go Z EL1 0 0 (fun v σ ρ => ∃ cb' k, v = some (.int k.toInt32) ∧ σ = [(ac, cc), (b, cb')] ∧ ρ = [] ∧ Upto cs k ∧ (k = cs.length → ArrC Z cb' .byte (latB cs))) X T 3 #[.val (.ref ac), .val (.int i.toInt32), .val (.ref b), .val (.int i.toInt32), .val (.int cs.length.toInt32), .val (.int i.toInt32), o6] []
  | 0, i, hij, hl, o6, ho, T, cb, W, B => by
    obtain rfl : i = cs.length := by omega
    rw [List.take_length] at hl
    refine Go.iload (pc' := 5) W d_jdk_52_method_21_code_3 rfl rfl ?_
    refine Go.iload (pc' := 7) W d_jdk_52_method_21_code_5 rfl rfl ?_
    refine Go.icmp_ge (pc' := 10) W 44 d_jdk_52_method_21_code_7 (by decide) rfl (fun _ => ?_) (fun q => absurd q (by rw [i32_lt (by omega) (by omega)]; omega))
    refine Go.iload (pc' := 46) W d_jdk_52_method_21_code_44 rfl rfl ?_
    exact Go.iret W d_jdk_52_method_21_code_46 (by decide) (by decide) ⟨cb, cs.length, rfl, rfl, rfl, Or.inl ⟨rfl, hl⟩, fun _ => by simpa using B⟩
  | j + 1, i, hij, hl, o6, ho, T, cb, W, B => by
    have hi : i < cs.length := by omega
    obtain ⟨x, hx⟩ : ∃ x, cs[i]? = some x := ⟨_, List.getElem?_eq_getElem hi⟩
    have hC := hc x (List.mem_of_getElem? hx)
    have hlen : i < (latB (cs.take i) ++ List.replicate (j + 1) (.int 0 : Value)).length := by simp; omega
    refine Go.iload (pc' := 5) W d_jdk_52_method_21_code_3 rfl rfl ?_
    refine Go.iload (pc' := 7) W d_jdk_52_method_21_code_5 rfl rfl ?_
    refine Go.icmp_ge (pc' := 10) W 44 d_jdk_52_method_21_code_7 (by decide) rfl (fun q => absurd ((i32_lt (by omega) (by omega)).mpr hi) q) (fun _ => ?_)
    refine Go.aloadN (pc' := 11) W d_jdk_52_method_21_code_10 rfl rfl rfl ?_
    refine Go.iloadN (pc' := 12) W d_jdk_52_method_21_code_11 rfl rfl ?_
    refine Go.caload (pc' := 13) W (Or.inl (List.mem_of_getElem? (i := 0) rfl)) A i (i32_nn (by omega)) (i32_clamp (by omega)) (v := .int x) (by rw [chV, List.getElem?_map, hx]; rfl) d_jdk_52_method_21_code_12 rfl ?_
    refine Go.istore (pc' := 15) W #[.val (.ref ac), .val (.int i.toInt32), .val (.ref b), .val (.int i.toInt32), .val (.int cs.length.toInt32), .val (.int i.toInt32), .val (.int x)] d_jdk_52_method_21_code_13 (XS.store1 (o := o6) rfl ho rfl) rfl ?_
    refine Go.iload (pc' := 17) W d_jdk_52_method_21_code_15 rfl rfl ?_
    refine Go.sipush (pc' := 20) W (255 : Int32) d_jdk_52_method_21_code_17 (by decide) rfl ?_
    refine Go.icmp_le (pc' := 23) W 26 d_jdk_52_method_21_code_20 (by decide) rfl (fun (q : ¬ (255 : Int32) < x) => ?_) (fun (q : (255 : Int32) < x) => ?_)
    · refine Go.aloadN (pc' := 27) W d_jdk_52_method_21_code_26 rfl rfl rfl ?_
      refine Go.iloadN (pc' := 28) W d_jdk_52_method_21_code_27 rfl rfl ?_
      refine Go.iload (pc' := 30) W d_jdk_52_method_21_code_28 rfl rfl ?_
      refine Go.i2b (pc' := 31) W d_jdk_52_method_21_code_30 rfl ?_
      refine Go.bastore (pc' := 32) W 1 rfl B i (i32_nn (by omega)) (i32_clamp (by omega)) hlen d_jdk_52_method_21_code_31 rfl (fun T2 cb2 W2 B2 => ?_)
      rw [i8_i8, set_next hx] at B2
      refine Go.iinc (pc' := 35) W2 (1 : Int32) #[.val (.ref ac), .val (.int (i.toInt32 + 1)), .val (.ref b), .val (.int i.toInt32), .val (.int cs.length.toInt32), .val (.int i.toInt32), .val (.int x)] d_jdk_52_method_21_code_32 rfl (by decide) rfl rfl ?_
      refine Go.iinc (pc' := 38) W2 (1 : Int32) #[.val (.ref ac), .val (.int (i.toInt32 + 1)), .val (.ref b), .val (.int (i.toInt32 + 1)), .val (.int cs.length.toInt32), .val (.int i.toInt32), .val (.int x)] d_jdk_52_method_21_code_35 rfl (by decide) rfl rfl ?_
      refine Go.iinc (pc' := 41) W2 (1 : Int32) #[.val (.ref ac), .val (.int (i.toInt32 + 1)), .val (.ref b), .val (.int (i.toInt32 + 1)), .val (.int cs.length.toInt32), .val (.int (i.toInt32 + 1)), .val (.int x)] d_jdk_52_method_21_code_38 rfl (by decide) rfl rfl ?_
      refine Go.goto W2 3 d_jdk_52_method_21_code_41 (by decide) ?_
      rw [i32_succ (by omega)]
      refine lp_cmp5 A hc hn j (i + 1) (by omega) ?_ _ (One.val rfl) T2 cb2 W2 B2
      rw [take_succ' hx]
      intro y hy
      rcases List.mem_append.mp hy with hy | hy
      · exact hl y hy
      · rw [List.mem_singleton.mp hy]; exact ⟨hC.1, q⟩
    · refine Go.iload (pc' := 25) W d_jdk_52_method_21_code_23 rfl rfl ?_
      exact Go.iret W d_jdk_52_method_21_code_25 (by decide) (by decide) ⟨cb, i, rfl, rfl, rfl, Or.inr ⟨hi, x, hx, q⟩, fun e => absurd e (by omega)⟩
theorem rm_cmp5 {l : Launch} {Z : State} {a0 : Array Value} (G : Cl Z a0) (ac b : Addr) (cc cb : Cell) (cs : List Int32) (A : ArrC Z cc .char (chV cs)) (hc : Chr cs) (hn : cs.length < 65536) (B : ArrC Z cb .byte (List.replicate cs.length (.int 0))) :
    Met l Z EL1 (⟨"java/lang/StringUTF16", "compress", "([CI[BII)I"⟩ : MethodName) jdk_52_method_21_code 7 (some .int) ({ frames := 0, cells := 0, slots := 0, locals := 0 } : Room) #[.ref ac, .int 0, .ref b, .int 0, .int cs.length.toInt32] [(ac, cc), (b, cb)] [] (fun v σ ρ => ∃ cb' k, v = some (.int k.toInt32) ∧ σ = [(ac, cc), (b, cb')] ∧ ρ = [] ∧ Upto cs k ∧ (k = cs.length → ArrC Z cb' .byte (latB cs))) := by
  refine Met.walk G.2.1 pn_0 #[.val (.ref ac), .val (.int 0), .val (.ref b), .val (.int 0), .val (.int cs.length.toInt32), .unset, .unset] (fun m => by first | (simp [entryFrame, mkF, argsToLocals, Value.category]; done) | rfl) ?_
  intro X T W
  refine Go.iconst (pc' := 1) W (0 : Int32) d_jdk_52_method_21_code_0 (by decide) rfl ?_
  refine Go.istore (pc' := 3) W #[.val (.ref ac), .val (.int 0), .val (.ref b), .val (.int 0), .val (.int cs.length.toInt32), .val (.int 0), .unset] d_jdk_52_method_21_code_1 rfl rfl ?_
  exact lp_cmp5 A hc hn cs.length 0 (by omega) (fun _ q => nomatch q) .unset One.u T cb W (by simpa using B)
theorem d_jdk_52_method_16_code_0 : decode jdk_52_method_16_code 0 = .ok (.iload_n 2, 1) := by decide +kernel
theorem d_jdk_52_method_16_code_1 : decode jdk_52_method_16_code 1 = .ok (.newarray .byte, 2) := by decide +kernel
theorem d_jdk_52_method_16_code_3 : decode jdk_52_method_16_code 3 = .ok (.astore_n 3, 1) := by decide +kernel
theorem d_jdk_52_method_16_code_4 : decode jdk_52_method_16_code 4 = .ok (.aload_n 0, 1) := by decide +kernel
theorem d_jdk_52_method_16_code_5 : decode jdk_52_method_16_code 5 = .ok (.iload_n 1, 1) := by decide +kernel
theorem d_jdk_52_method_16_code_6 : decode jdk_52_method_16_code 6 = .ok (.aload_n 3, 1) := by decide +kernel
theorem d_jdk_52_method_16_code_7 : decode jdk_52_method_16_code 7 = .ok (.iconst 0, 1) := by decide +kernel
theorem d_jdk_52_method_16_code_8 : decode jdk_52_method_16_code 8 = .ok (.iload_n 2, 1) := by decide +kernel
theorem d_jdk_52_method_16_code_9 : decode jdk_52_method_16_code 9 = .ok (.invokestatic 115, 3) := by decide +kernel
theorem d_jdk_52_method_16_code_12 : decode jdk_52_method_16_code 12 = .ok (.istore 4, 2) := by decide +kernel
theorem d_jdk_52_method_16_code_14 : decode jdk_52_method_16_code 14 = .ok (.iload 4, 2) := by decide +kernel
theorem d_jdk_52_method_16_code_16 : decode jdk_52_method_16_code 16 = .ok (.iload_n 2, 1) := by decide +kernel
theorem d_jdk_52_method_16_code_17 : decode jdk_52_method_16_code 17 = .ok (.if_icmp .eq 40, 3) := by decide +kernel
theorem d_jdk_52_method_16_code_20 : decode jdk_52_method_16_code 20 = .ok (.aload_n 0, 1) := by decide +kernel
theorem d_jdk_52_method_16_code_21 : decode jdk_52_method_16_code 21 = .ok (.iload_n 1, 1) := by decide +kernel
theorem d_jdk_52_method_16_code_22 : decode jdk_52_method_16_code 22 = .ok (.iload_n 2, 1) := by decide +kernel
theorem d_jdk_52_method_16_code_23 : decode jdk_52_method_16_code 23 = .ok (.invokestatic 119, 3) := by decide +kernel
theorem d_jdk_52_method_16_code_26 : decode jdk_52_method_16_code 26 = .ok (.astore 5, 2) := by decide +kernel
theorem d_jdk_52_method_16_code_28 : decode jdk_52_method_16_code 28 = .ok (.aload 5, 2) := by decide +kernel
theorem d_jdk_52_method_16_code_30 : decode jdk_52_method_16_code 30 = .ok (.iload 4, 2) := by decide +kernel
theorem d_jdk_52_method_16_code_32 : decode jdk_52_method_16_code 32 = .ok (.invokestatic 71, 3) := by decide +kernel
theorem d_jdk_52_method_16_code_35 : decode jdk_52_method_16_code 35 = .ok (.sipush 255, 3) := by decide +kernel
theorem d_jdk_52_method_16_code_38 : decode jdk_52_method_16_code 38 = .ok (.if_icmp .gt 16, 3) := by decide +kernel
theorem d_jdk_52_method_16_code_41 : decode jdk_52_method_16_code 41 = .ok (.aload 5, 2) := by decide +kernel
theorem d_jdk_52_method_16_code_43 : decode jdk_52_method_16_code 43 = .ok (.iconst 0, 1) := by decide +kernel
theorem d_jdk_52_method_16_code_44 : decode jdk_52_method_16_code 44 = .ok (.aload_n 3, 1) := by decide +kernel
theorem d_jdk_52_method_16_code_45 : decode jdk_52_method_16_code 45 = .ok (.iconst 0, 1) := by decide +kernel
theorem d_jdk_52_method_16_code_46 : decode jdk_52_method_16_code 46 = .ok (.iload_n 2, 1) := by decide +kernel
theorem d_jdk_52_method_16_code_47 : decode jdk_52_method_16_code 47 = .ok (.invokestatic 123, 3) := by decide +kernel
theorem d_jdk_52_method_16_code_50 : decode jdk_52_method_16_code 50 = .ok (.iload_n 2, 1) := by decide +kernel
theorem d_jdk_52_method_16_code_51 : decode jdk_52_method_16_code 51 = .ok (.if_icmp .eq 6, 3) := by decide +kernel
theorem d_jdk_52_method_16_code_54 : decode jdk_52_method_16_code 54 = .ok (.aload 5, 2) := by decide +kernel
theorem d_jdk_52_method_16_code_56 : decode jdk_52_method_16_code 56 = .ok (.areturn, 1) := by decide +kernel
theorem d_jdk_52_method_16_code_57 : decode jdk_52_method_16_code 57 = .ok (.aload_n 3, 1) := by decide +kernel
theorem d_jdk_52_method_16_code_58 : decode jdk_52_method_16_code 58 = .ok (.areturn, 1) := by decide +kernel
theorem w_36 {Z : State} {a0 : Array Value} (G : Cl Z a0) : (Jvm.Cond.methodLink "java/lang/StringUTF16" 115 (⟨"java/lang/StringUTF16", "compress", "([CI[BII)I"⟩ : MethodName)).before a0 Z = true := G.1 _ (List.mem_of_getElem? (l := tables_1) (i := 36) rfl)
theorem w_37 {Z : State} {a0 : Array Value} (G : Cl Z a0) : (Jvm.Cond.static (⟨"java/lang/StringUTF16", "compress", "([CI[BII)I"⟩ : MethodName)).before a0 Z = true := G.1 _ (List.mem_of_getElem? (l := tables_1) (i := 37) rfl)
theorem w_38 {Z : State} {a0 : Array Value} (G : Cl Z a0) : (Jvm.Cond.code (⟨"java/lang/StringUTF16", "compress", "([CI[BII)I"⟩ : MethodName) jdk_52_method_21_code 7 (some .int)).before a0 Z = true := G.1 _ (List.mem_of_getElem? (l := tables_1) (i := 38) rfl)
theorem pd_4 : parseMethodDescriptor "([CI[BII)I" = some ⟨[(.array .char), .int, (.array .byte), .int, .int], some .int⟩ := by decide +kernel
theorem w_39 {Z : State} {a0 : Array Value} (G : Cl Z a0) : (Jvm.Cond.methodLink "java/lang/StringUTF16" 119 (⟨"java/lang/StringUTF16", "toBytes", "([CII)[B"⟩ : MethodName)).before a0 Z = true := G.1 _ (List.mem_of_getElem? (l := tables_1) (i := 39) rfl)
theorem w_40 {Z : State} {a0 : Array Value} (G : Cl Z a0) : (Jvm.Cond.static (⟨"java/lang/StringUTF16", "toBytes", "([CII)[B"⟩ : MethodName)).before a0 Z = true := G.1 _ (List.mem_of_getElem? (l := tables_1) (i := 40) rfl)
theorem w_41 {Z : State} {a0 : Array Value} (G : Cl Z a0) : (Jvm.Cond.code (⟨"java/lang/StringUTF16", "toBytes", "([CII)[B"⟩ : MethodName) jdk_52_method_14_code 5 (some (.array .byte))).before a0 Z = true := G.1 _ (List.mem_of_getElem? (l := tables_1) (i := 41) rfl)
theorem pd_5 : parseMethodDescriptor "([CII)[B" = some ⟨[(.array .char), .int, .int], some (.array .byte)⟩ := by decide +kernel
theorem w_55 {Z : State} {a0 : Array Value} (G : Cl Z a0) : (Jvm.Cond.methodLink "java/lang/StringUTF16" 71 (⟨"java/lang/StringUTF16", "getChar", "([BI)C"⟩ : MethodName)).before a0 Z = true := G.1 _ (List.mem_of_getElem? (l := tables_1) (i := 55) rfl)
theorem w_56 {Z : State} {a0 : Array Value} (G : Cl Z a0) : (Jvm.Cond.static (⟨"java/lang/StringUTF16", "getChar", "([BI)C"⟩ : MethodName)).before a0 Z = true := G.1 _ (List.mem_of_getElem? (l := tables_1) (i := 56) rfl)
theorem w_57 {Z : State} {a0 : Array Value} (G : Cl Z a0) : (Jvm.Cond.code (⟨"java/lang/StringUTF16", "getChar", "([BI)C"⟩ : MethodName) jdk_52_method_5_code 2 (some .char)).before a0 Z = true := G.1 _ (List.mem_of_getElem? (l := tables_1) (i := 57) rfl)
theorem pd_6 : parseMethodDescriptor "([BI)C" = some ⟨[(.array .byte), .int], some .char⟩ := by decide +kernel
theorem rm_cmp3 {l : Launch} {Z : State} {a0 : Array Value} (G : Cl Z a0) (ac : Addr) (cc : Cell) (cs : List Int32) (A : ArrC Z cc .char (chV cs)) (hc : Chr cs) (hn : cs.length < 65536) :
    Met l Z EL1 (⟨"java/lang/StringUTF16", "compress", "([CII)[B"⟩ : MethodName) jdk_52_method_16_code 6 (some (.array .byte)) ({ frames := 3, cells := 2, slots := 3 * cs.length, locals := 40 } : Room) #[.ref ac, .int 0, .int cs.length.toInt32] [(ac, cc)] [] (fun v σ ρ => ∃ b cb, v = some (.ref b) ∧ σ = [(ac, cc), (b, cb)] ∧ ρ = [] ∧ ((Lat cs ∧ ArrC Z cb .byte (latB cs)) ∨ ArrC Z cb .byte (utfB cs))) := by
  refine Met.walk G.2.1 pn_0 #[.val (.ref ac), .val (.int 0), .val (.int cs.length.toInt32), .unset, .unset, .unset] (fun m => by first | (simp [entryFrame, mkF, argsToLocals, Value.category]; done) | rfl) ?_
  intro X T0 W0
  refine Go.iloadN (pc' := 1) W0 d_jdk_52_method_16_code_0 rfl rfl ?_
  refine Go.newarr (pc' := 3) W0 .byte rfl cs.length (w_35 G) d_jdk_52_method_16_code_1 rfl (i32_nn (by omega)) (i32_clamp (by omega)) (by omega) (by first | exact Nat.le_of_ble_eq_true rfl | (simp; done) | (simp; omega) | omega) (by first | exact Nat.le_of_ble_eq_true rfl | (simp; done) | (simp; omega) | omega) (fun T1 b cb W1 B => ?_)
  refine Go.astoreN (pc' := 4) W1 #[.val (.ref ac), .val (.int 0), .val (.int cs.length.toInt32), .val (.ref b), .unset, .unset] d_jdk_52_method_16_code_3 rfl rfl rfl ?_
  refine Go.aloadN (pc' := 5) W1 d_jdk_52_method_16_code_4 rfl rfl rfl ?_
  refine Go.iloadN (pc' := 6) W1 d_jdk_52_method_16_code_5 rfl rfl ?_
  refine Go.aloadN (pc' := 7) W1 d_jdk_52_method_16_code_6 rfl rfl rfl ?_
  refine Go.iconst (pc' := 8) W1 (0 : Int32) d_jdk_52_method_16_code_7 (by decide) rfl ?_
  refine Go.iloadN (pc' := 9) W1 d_jdk_52_method_16_code_8 rfl rfl ?_
  refine Go.static (pc' := 12) W1 (rm_cmp5 G ac b cc cb cs A hc hn B) (w_36 G) (w_37 G) (w_33 G) (w_38 G) (by decide) [1, 0] [] (σf := []) rfl rfl [.ref ac, .int 0, .ref b, .int 0, .int cs.length.toInt32] [] rfl (lenOf pd_4 rfl) rfl rfl d_jdk_52_method_16_code_9 rfl (by first | exact Nat.le_of_ble_eq_true rfl | (simp; done) | (simp; omega) | omega) (by first | exact Nat.le_of_ble_eq_true rfl | (simp; done) | (simp; omega) | omega) (by first | exact Nat.le_of_ble_eq_true rfl | (simp; done) | (simp; omega) | omega) (by first | exact Nat.le_of_ble_eq_true rfl | (simp; done) | (simp; omega) | omega) ?_
  rintro _ _ _ T2 ⟨cb2, k, rfl, rfl, rfl, hU, B2⟩ W2
  have hk : k ≤ cs.length := by rcases hU with h | h <;> omega
  refine Go.istore (pc' := 14) W2 #[.val (.ref ac), .val (.int 0), .val (.int cs.length.toInt32), .val (.ref b), .val (.int k.toInt32), .unset] d_jdk_52_method_16_code_12 rfl rfl ?_
  refine Go.iload (pc' := 16) W2 d_jdk_52_method_16_code_14 rfl rfl ?_
  refine Go.iloadN (pc' := 17) W2 d_jdk_52_method_16_code_16 rfl rfl ?_
  refine Go.icmp_eq (pc' := 20) W2 57 d_jdk_52_method_16_code_17 (by decide) rfl (fun (q : k.toInt32 = cs.length.toInt32) => ?_) (fun (q : ¬ k.toInt32 = cs.length.toInt32) => ?_)
  · have e : k = cs.length := (i32_inj (by omega) (by omega)).mp q
    refine Go.aloadN (pc' := 58) W2 d_jdk_52_method_16_code_57 rfl rfl rfl ?_
    refine Go.aret W2 rfl rfl d_jdk_52_method_16_code_58 (by first | exact Nat.le_of_ble_eq_true rfl | (simp; done) | (simp; omega) | omega) (by first | exact Nat.le_of_ble_eq_true rfl | (simp; done) | (simp; omega) | omega) ⟨b, cb2, rfl, rfl, rfl, Or.inl ⟨?_, B2 e⟩⟩
    rcases hU with h | h
    · exact h.2
    · omega
  · have hlt : k < cs.length := by rcases Nat.lt_or_eq_of_le hk with h | h; exact h; exact absurd (by rw [h]) q
    obtain ⟨x, hx, hbig⟩ : ∃ x, cs[k]? = some x ∧ (255 : Int32) < x := by
      rcases hU with h | h
      · omega
      · exact h.2
    refine Go.aloadN (pc' := 21) W2 d_jdk_52_method_16_code_20 rfl rfl rfl ?_
    refine Go.iloadN (pc' := 22) W2 d_jdk_52_method_16_code_21 rfl rfl ?_
    refine Go.iloadN (pc' := 23) W2 d_jdk_52_method_16_code_22 rfl rfl ?_
    refine Go.static (pc' := 26) W2 (rm_tby G ac cc cs A hn) (w_39 G) (w_40 G) (w_33 G) (w_41 G) (by decide) [0] [] (σf := [(b, cb2)]) rfl rfl [.ref ac, .int 0, .int cs.length.toInt32] [] rfl (lenOf pd_5 rfl) rfl rfl d_jdk_52_method_16_code_23 rfl (by first | exact Nat.le_of_ble_eq_true rfl | (simp; done) | (simp; omega) | omega) (by first | exact Nat.le_of_ble_eq_true rfl | (simp; done) | (simp; omega) | omega) (by first | exact Nat.le_of_ble_eq_true rfl | (simp; done) | (simp; omega) | omega) (by first | exact Nat.le_of_ble_eq_true rfl | (simp; done) | (simp; omega) | omega) ?_
    rintro _ _ _ T3 ⟨bu, cu, rfl, rfl, rfl, BU⟩ W3
    refine Go.astore (pc' := 28) W3 #[.val (.ref ac), .val (.int 0), .val (.int cs.length.toInt32), .val (.ref b), .val (.int k.toInt32), .val (.ref bu)] d_jdk_52_method_16_code_26 rfl rfl rfl ?_
    refine Go.aload (pc' := 30) W3 d_jdk_52_method_16_code_28 rfl rfl rfl ?_
    refine Go.iload (pc' := 32) W3 d_jdk_52_method_16_code_30 rfl rfl ?_
    refine Go.static (pc' := 35) W3 (rm_get G bu cu cs k x BU (hc x (List.mem_of_getElem? hx)) hx) (w_55 G) (w_56 G) (w_33 G) (w_57 G) (by decide) [1] [] (σf := [(ac, cc), (b, cb2)]) rfl rfl [.ref bu, .int k.toInt32] [] rfl (lenOf pd_6 rfl) rfl rfl d_jdk_52_method_16_code_32 rfl (by first | exact Nat.le_of_ble_eq_true rfl | (simp; done) | (simp; omega) | omega) (by first | exact Nat.le_of_ble_eq_true rfl | (simp; done) | (simp; omega) | omega) (by first | exact Nat.le_of_ble_eq_true rfl | (simp; done) | (simp; omega) | omega) (by first | exact Nat.le_of_ble_eq_true rfl | (simp; done) | (simp; omega) | omega) ?_
    rintro _ _ _ T4 ⟨rfl, rfl, rfl⟩ W4
    refine Go.sipush (pc' := 38) W4 (255 : Int32) d_jdk_52_method_16_code_35 (by decide) rfl ?_
    refine Go.icmp_gt (pc' := 41) W4 54 d_jdk_52_method_16_code_38 (by decide) rfl (fun _ => ?_) (fun q => absurd hbig q)
    refine Go.aload (pc' := 56) W4 d_jdk_52_method_16_code_54 rfl rfl rfl ?_
    have W5 := (W4.drop [2] (σi := [(b, cb2)]) (σf := [(bu, cu), (ac, cc)]) rfl).perm (σ' := [(ac, cc), (bu, cu)]) (List.Perm.swap _ _ _)
    exact Go.aret W5 rfl rfl d_jdk_52_method_16_code_56 (by first | exact Nat.le_of_ble_eq_true rfl | (simp; done) | (simp; omega) | omega) (by first | exact Nat.le_of_ble_eq_true rfl | (simp; done) | (simp; omega) | omega) ⟨bu, cu, rfl, rfl, rfl, Or.inr BU⟩
theorem d_jdk_52_method_15_code_0 : decode jdk_52_method_15_code 0 = .ok (.iload_n 1, 1) := by decide +kernel
theorem d_jdk_52_method_15_code_1 : decode jdk_52_method_15_code 1 = .ok (.aload_n 0, 1) := by decide +kernel
theorem d_jdk_52_method_15_code_2 : decode jdk_52_method_15_code 2 = .ok (.arraylength, 1) := by decide +kernel
theorem d_jdk_52_method_15_code_3 : decode jdk_52_method_15_code 3 = .ok (.isub, 1) := by decide +kernel
theorem d_jdk_52_method_15_code_4 : decode jdk_52_method_15_code 4 = .ok (.bipush 31, 2) := by decide +kernel
theorem d_jdk_52_method_15_code_6 : decode jdk_52_method_15_code 6 = .ok (.iushr, 1) := by decide +kernel
theorem d_jdk_52_method_15_code_7 : decode jdk_52_method_15_code 7 = .ok (.i2b, 1) := by decide +kernel
theorem d_jdk_52_method_15_code_8 : decode jdk_52_method_15_code 8 = .ok (.ireturn, 1) := by decide +kernel
theorem rm_cod {l : Launch} {Z : State} {a0 : Array Value} (G : Cl Z a0) (b : Addr) (cb : Cell) (cs : List Int32) (B : ArrC Z cb .byte (latB cs)) :
    Met l Z EL1 (⟨"java/lang/StringUTF16", "coderFromArrayLen", "([BI)B"⟩ : MethodName) jdk_52_method_15_code 2 (some .byte) ({ frames := 0, cells := 0, slots := 0, locals := 0 } : Room) #[.ref b, .int cs.length.toInt32] [(b, cb)] [] (fun v σ ρ => v = some (.int 0) ∧ σ = [(b, cb)] ∧ ρ = []) := by
  refine Met.walk G.2.1 pn_0 #[.val (.ref b), .val (.int cs.length.toInt32)] (fun m => by first | (simp [entryFrame, mkF, argsToLocals, Value.category]; done) | rfl) ?_
  intro X T0 W0
  refine Go.iloadN (pc' := 1) W0 d_jdk_52_method_15_code_0 rfl rfl ?_
  refine Go.aloadN (pc' := 2) W0 d_jdk_52_method_15_code_1 rfl rfl rfl ?_
  refine Go.arrlen (pc' := 3) W0 (Or.inl (List.mem_of_getElem? (i := 0) rfl)) B cs.length.toInt32 (by rw [latB, List.length_map]) d_jdk_52_method_15_code_2 rfl ?_
  refine Go.isub (pc' := 4) W0 d_jdk_52_method_15_code_3 rfl ?_
  rw [Int32.sub_self]
  refine Go.bipush (pc' := 6) W0 (31 : Int32) d_jdk_52_method_15_code_4 (by decide) rfl ?_
  refine Go.iushr (pc' := 7) W0 d_jdk_52_method_15_code_6 rfl ?_
  refine Go.i2b (pc' := 8) W0 d_jdk_52_method_15_code_7 rfl ?_
  exact Go.nret (z' := 0) W0 (by simp) (by decide) d_jdk_52_method_15_code_8 (by decide) (by decide) ⟨rfl, rfl, rfl⟩
theorem rm_codU {l : Launch} {Z : State} {a0 : Array Value} (G : Cl Z a0) (b : Addr) (cb : Cell) (cs : List Int32) (B : ArrC Z cb .byte (utfB cs)) (h0 : 0 < cs.length) (hn : cs.length < 65536) :
    Met l Z EL1 (⟨"java/lang/StringUTF16", "coderFromArrayLen", "([BI)B"⟩ : MethodName) jdk_52_method_15_code 2 (some .byte) ({ frames := 0, cells := 0, slots := 0, locals := 0 } : Room) #[.ref b, .int cs.length.toInt32] [(b, cb)] [] (fun v σ ρ => v = some (.int 1) ∧ σ = [(b, cb)] ∧ ρ = []) := by
  refine Met.walk G.2.1 pn_0 #[.val (.ref b), .val (.int cs.length.toInt32)] (fun m => by first | (simp [entryFrame, mkF, argsToLocals, Value.category]; done) | rfl) ?_
  intro X T0 W0
  refine Go.iloadN (pc' := 1) W0 d_jdk_52_method_15_code_0 rfl rfl ?_
  refine Go.aloadN (pc' := 2) W0 d_jdk_52_method_15_code_1 rfl rfl rfl ?_
  refine Go.arrlen (pc' := 3) W0 (Or.inl (List.mem_of_getElem? (i := 0) rfl)) B (2 * cs.length).toInt32 (by rw [utfB_len]) d_jdk_52_method_15_code_2 rfl ?_
  refine Go.isub (pc' := 4) W0 d_jdk_52_method_15_code_3 rfl ?_
  refine Go.bipush (pc' := 6) W0 (31 : Int32) d_jdk_52_method_15_code_4 (by decide) rfl ?_
  refine Go.iushr (pc' := 7) W0 d_jdk_52_method_15_code_6 rfl ?_
  refine Go.i2b (pc' := 8) W0 d_jdk_52_method_15_code_7 rfl ?_
  exact Go.nret (z' := 1) W0 (by simp) (coder_u h0 hn) d_jdk_52_method_15_code_8 (by decide) (by decide) ⟨rfl, rfl, rfl⟩
theorem pn_7 : plainName "java/lang/String" = true := by first | (simp [plainName, overriddenIn]; done) | decide +kernel
theorem d_jdk_42_method_149_code_0 : decode jdk_42_method_149_code 0 = .ok (.aload_n 0, 1) := by decide +kernel
theorem d_jdk_42_method_149_code_1 : decode jdk_42_method_149_code 1 = .ok (.invokespecial 1, 3) := by decide +kernel
theorem w_27 {Z : State} {a0 : Array Value} (G : Cl Z a0) : (Jvm.Cond.methodLink "java/lang/String" 1 (⟨"java/lang/Object", "<init>", "()V"⟩ : MethodName)).before a0 Z = true := G.1 _ (List.mem_of_getElem? (l := tables_1) (i := 27) rfl)
theorem w_28 {Z : State} {a0 : Array Value} (G : Cl Z a0) : (Jvm.Cond.instanceMethod (⟨"java/lang/Object", "<init>", "()V"⟩ : MethodName)).before a0 Z = true := G.1 _ (List.mem_of_getElem? (l := tables_1) (i := 28) rfl)
theorem w_29 {Z : State} {a0 : Array Value} (G : Cl Z a0) : (Jvm.Cond.code (⟨"java/lang/Object", "<init>", "()V"⟩ : MethodName) object_method_1_code 1 none).before a0 Z = true := G.1 _ (List.mem_of_getElem? (l := tables_1) (i := 29) rfl)
theorem d_jdk_42_method_149_code_4 : decode jdk_42_method_149_code 4 = .ok (.iload_n 3, 1) := by decide +kernel
theorem d_jdk_42_method_149_code_5 : decode jdk_42_method_149_code 5 = .ok (.ifCond .ne 22, 3) := by decide +kernel
theorem d_jdk_42_method_149_code_27 : decode jdk_42_method_149_code 27 = .ok (.getstatic 38, 3) := by decide +kernel
theorem w_30 {Z : State} {a0 : Array Value} (G : Cl Z a0) : (Jvm.Cond.fieldLink "java/lang/String" 38 "java/lang/String" "COMPACT_STRINGS" "Z").before a0 Z = true := G.1 _ (List.mem_of_getElem? (l := tables_1) (i := 30) rfl)
theorem d_jdk_42_method_149_code_30 : decode jdk_42_method_149_code 30 = .ok (.ifCond .eq 28, 3) := by decide +kernel
theorem d_jdk_42_method_149_code_33 : decode jdk_42_method_149_code 33 = .ok (.aload_n 1, 1) := by decide +kernel
theorem d_jdk_42_method_149_code_34 : decode jdk_42_method_149_code 34 = .ok (.iload_n 2, 1) := by decide +kernel
theorem d_jdk_42_method_149_code_35 : decode jdk_42_method_149_code 35 = .ok (.iload_n 3, 1) := by decide +kernel
theorem d_jdk_42_method_149_code_36 : decode jdk_42_method_149_code 36 = .ok (.invokestatic 177, 3) := by decide +kernel
theorem w_31 {Z : State} {a0 : Array Value} (G : Cl Z a0) : (Jvm.Cond.methodLink "java/lang/String" 177 (⟨"java/lang/StringUTF16", "compress", "([CII)[B"⟩ : MethodName)).before a0 Z = true := G.1 _ (List.mem_of_getElem? (l := tables_1) (i := 31) rfl)
theorem w_34 {Z : State} {a0 : Array Value} (G : Cl Z a0) : (Jvm.Cond.code (⟨"java/lang/StringUTF16", "compress", "([CII)[B"⟩ : MethodName) jdk_52_method_16_code 6 (some (.array .byte))).before a0 Z = true := G.1 _ (List.mem_of_getElem? (l := tables_1) (i := 34) rfl)
theorem w_32 {Z : State} {a0 : Array Value} (G : Cl Z a0) : (Jvm.Cond.static (⟨"java/lang/StringUTF16", "compress", "([CII)[B"⟩ : MethodName)).before a0 Z = true := G.1 _ (List.mem_of_getElem? (l := tables_1) (i := 32) rfl)
theorem d_jdk_42_method_149_code_39 : decode jdk_42_method_149_code 39 = .ok (.astore 5, 2) := by decide +kernel
theorem d_jdk_42_method_149_code_41 : decode jdk_42_method_149_code 41 = .ok (.aload_n 0, 1) := by decide +kernel
theorem d_jdk_42_method_149_code_42 : decode jdk_42_method_149_code 42 = .ok (.aload 5, 2) := by decide +kernel
theorem d_jdk_42_method_149_code_44 : decode jdk_42_method_149_code 44 = .ok (.iload_n 3, 1) := by decide +kernel
theorem d_jdk_42_method_149_code_45 : decode jdk_42_method_149_code 45 = .ok (.invokestatic 47, 3) := by decide +kernel
theorem w_58 {Z : State} {a0 : Array Value} (G : Cl Z a0) : (Jvm.Cond.methodLink "java/lang/String" 47 (⟨"java/lang/StringUTF16", "coderFromArrayLen", "([BI)B"⟩ : MethodName)).before a0 Z = true := G.1 _ (List.mem_of_getElem? (l := tables_1) (i := 58) rfl)
theorem w_60 {Z : State} {a0 : Array Value} (G : Cl Z a0) : (Jvm.Cond.code (⟨"java/lang/StringUTF16", "coderFromArrayLen", "([BI)B"⟩ : MethodName) jdk_52_method_15_code 2 (some .byte)).before a0 Z = true := G.1 _ (List.mem_of_getElem? (l := tables_1) (i := 60) rfl)
theorem pd_8 : parseMethodDescriptor "([BI)B" = some ⟨[(.array .byte), .int], some .byte⟩ := by decide +kernel
theorem w_59 {Z : State} {a0 : Array Value} (G : Cl Z a0) : (Jvm.Cond.static (⟨"java/lang/StringUTF16", "coderFromArrayLen", "([BI)B"⟩ : MethodName)).before a0 Z = true := G.1 _ (List.mem_of_getElem? (l := tables_1) (i := 59) rfl)
theorem d_jdk_42_method_149_code_48 : decode jdk_42_method_149_code 48 = .ok (.putfield 15, 3) := by decide +kernel
theorem w_61 {Z : State} {a0 : Array Value} (G : Cl Z a0) : (Jvm.Cond.fieldLink "java/lang/String" 15 "java/lang/String" "coder" "B").before a0 Z = true := G.1 _ (List.mem_of_getElem? (l := tables_1) (i := 61) rfl)
theorem w_62 {Z : State} {a0 : Array Value} (G : Cl Z a0) : (Jvm.Cond.laysFinal "java/lang/String" "java/lang/String" "coder" "B").before a0 Z = true := G.1 _ (List.mem_of_getElem? (l := tables_1) (i := 62) rfl)
theorem w_18 {Z : State} {a0 : Array Value} (G : Cl Z a0) : (Jvm.Cond.instantiable "java/lang/String" 4).before a0 Z = true := G.1 _ (List.mem_of_getElem? (l := tables_1) (i := 18) rfl)
theorem w_64 {Z : State} {a0 : Array Value} (G : Cl Z a0) : (Jvm.Cond.laysFinal "java/lang/String" "java/lang/String" "value" "[B").before a0 Z = true := G.1 _ (List.mem_of_getElem? (l := tables_1) (i := 64) rfl)
theorem d_jdk_42_method_149_code_51 : decode jdk_42_method_149_code 51 = .ok (.aload_n 0, 1) := by decide +kernel
theorem d_jdk_42_method_149_code_52 : decode jdk_42_method_149_code 52 = .ok (.aload 5, 2) := by decide +kernel
theorem d_jdk_42_method_149_code_54 : decode jdk_42_method_149_code 54 = .ok (.putfield 9, 3) := by decide +kernel
theorem w_63 {Z : State} {a0 : Array Value} (G : Cl Z a0) : (Jvm.Cond.fieldLink "java/lang/String" 9 "java/lang/String" "value" "[B").before a0 Z = true := G.1 _ (List.mem_of_getElem? (l := tables_1) (i := 63) rfl)
theorem d_jdk_42_method_149_code_57 : decode jdk_42_method_149_code 57 = .ok (.return_, 1) := by decide +kernel
set_option maxRecDepth 65536 in
set_option maxHeartbeats 40000000 in
theorem rm_initV {l : Launch} {Z : State} {a0 : Array Value} (G : Cl Z a0) (a ac : Addr) (c cc : Cell) (cs : List Int32) (A : ArrC Z cc .char (chV cs)) (hO : ObjC Z c "java/lang/String") (hC : FldC Z c "java/lang/String" "coder" "B" (.int 0)) (hV : FldC Z c "java/lang/String" "value" "[B" .null) (hc : Chr cs) (hn : cs.length < 65536) (h0 : ¬ cs.length.toInt32 = 0) :
    Met l Z EL1 (⟨"java/lang/String", "<init>", "([CIILjava/lang/Void;)V"⟩ : MethodName) jdk_42_method_149_code 6 none ({ frames := 4, cells := 2, slots := 3 * cs.length, locals := 57 } : Room) #[.ref a, .ref ac, .int (0 : Int32), .int cs.length.toInt32, .null] [(a, c), (ac, cc)] [] (fun v σ ρ => ∃ c' b cb, v = none ∧ σ = [(ac, cc)] ∧ ρ = [(a, c'), (b, cb)] ∧ StrG Z c' b cb cs) := by
  refine Met.walk G.2.1 pn_7 #[.val (.ref a), .val (.ref ac), .val (.int (0 : Int32)), .val (.int cs.length.toInt32), .val (.null), .unset] (fun m => by first | (simp [entryFrame, mkF, argsToLocals, Value.category]; done) | rfl) ?_
  intro X T0 W0
  obtain ⟨cv, Scv, hcv⟩ := G.2.2.1
  refine Go.aloadN (pc' := 1) W0 d_jdk_42_method_149_code_0 rfl rfl rfl ?_
  refine Go.objInit (pc' := 4) W0 (w_27 G) (w_28 G) (w_29 G) rfl d_jdk_42_method_149_code_1 rfl (by first | exact Nat.le_of_ble_eq_true rfl | (simp; done) | (simp; omega) | omega) (by first | exact Nat.le_of_ble_eq_true rfl | (simp; done) | (simp; omega) | omega) (fun T1 W2 => ?_)
  refine Go.iloadN (pc' := 5) W2 d_jdk_42_method_149_code_4 rfl rfl ?_
  refine Go.if_ne (pc' := 8) W2 27 d_jdk_42_method_149_code_5 (by decide) rfl (fun _ => ?_) (fun q => absurd q h0)
  refine Go.getstatic (pc' := 30) W2 (w_30 G) Via.refl Scv d_jdk_42_method_149_code_27 rfl (fun T3 W4 => ?_)
  refine Go.if_eq (pc' := 33) W4 58 d_jdk_42_method_149_code_30 (by decide) rfl (fun q => absurd q hcv) (fun _ => ?_)
  refine Go.aloadN (pc' := 34) W4 d_jdk_42_method_149_code_33 rfl rfl rfl ?_
  refine Go.iloadN (pc' := 35) W4 d_jdk_42_method_149_code_34 rfl rfl ?_
  refine Go.iloadN (pc' := 36) W4 d_jdk_42_method_149_code_35 rfl rfl ?_
  refine Go.static (pc' := 39) W4 (rm_cmp3 G ac cc cs A hc hn) (w_31 G) (w_32 G) (w_33 G) (w_34 G) (by decide) [1] [] (σf := [(a, c)]) rfl rfl [(.ref ac), (.int (0 : Int32)), (.int cs.length.toInt32)] [] rfl (lenOf pd_5 rfl) rfl rfl d_jdk_42_method_149_code_36 rfl (by first | exact Nat.le_of_ble_eq_true rfl | (simp; done) | (simp; omega) | omega) (by first | exact Nat.le_of_ble_eq_true rfl | (simp; done) | (simp; omega) | omega) (by first | exact Nat.le_of_ble_eq_true rfl | (simp; done) | (simp; omega) | omega) (by first | exact Nat.le_of_ble_eq_true rfl | (simp; done) | (simp; omega) | omega) ?_
  rintro _ _ _ T5 ⟨b, cb, rfl, rfl, rfl, B⟩ W6
  replace W6 : Wk l Z EL1 ({ frames := 4, cells := 2, slots := 3 * cs.length, locals := 57 } : Room) "java/lang/String" jdk_42_method_149_code 6 none "<init>" X [(ac, cc), (b, cb), (a, c)] [] T5 2 (0 + 3 * cs.length) := W6
  show Go Z EL1 _ _ _ X T5 39 #[.val (.ref a), .val (.ref ac), .val (.int (0 : Int32)), .val (.int cs.length.toInt32), .val (.null), .unset] [(.ref b)]
  rcases B with ⟨hl, B⟩ | B
  · refine Go.astore (pc' := 41) W6 #[.val (.ref a), .val (.ref ac), .val (.int (0 : Int32)), .val (.int cs.length.toInt32), .val (.null), .val (.ref b)] d_jdk_42_method_149_code_39 rfl rfl rfl ?_
    refine Go.aloadN (pc' := 42) W6 d_jdk_42_method_149_code_41 rfl rfl rfl ?_
    refine Go.aload (pc' := 44) W6 d_jdk_42_method_149_code_42 rfl rfl rfl ?_
    refine Go.iloadN (pc' := 45) W6 d_jdk_42_method_149_code_44 rfl rfl ?_
    refine Go.static (pc' := 48) W6 (rm_cod G b cb cs B) (w_58 G) (w_59 G) (w_33 G) (w_60 G) (by decide) [1] [] (σf := [(ac, cc), (a, c)]) rfl rfl [(.ref b), (.int cs.length.toInt32)] [(.ref a)] rfl (lenOf pd_8 rfl) rfl rfl d_jdk_42_method_149_code_45 rfl (by first | exact Nat.le_of_ble_eq_true rfl | (simp; done) | (simp; omega) | omega) (by first | exact Nat.le_of_ble_eq_true rfl | (simp; done) | (simp; omega) | omega) (by first | exact Nat.le_of_ble_eq_true rfl | (simp; done) | (simp; omega) | omega) (by first | exact Nat.le_of_ble_eq_true rfl | (simp; done) | (simp; omega) | omega) ?_
    rintro _ _ _ T7 ⟨rfl, rfl, rfl⟩ W8
    replace W8 : Wk l Z EL1 ({ frames := 4, cells := 2, slots := 3 * cs.length, locals := 57 } : Room) "java/lang/String" jdk_42_method_149_code 6 none "<init>" X [(b, cb), (ac, cc), (a, c)] [] T7 2 (0 + 3 * cs.length + 0) := W8
    show Go Z EL1 _ _ _ X T7 48 #[.val (.ref a), .val (.ref ac), .val (.int (0 : Int32)), .val (.int cs.length.toInt32), .val (.null), .val (.ref b)] [(.int (0 : Int32)), (.ref a)]
    refine Go.putfield (pc' := 51) W8 2 rfl (w_61 G) Via.refl hC hO (Or.inr ⟨(w_62 G), rfl, rfl⟩) (w_18 G) (ty := .byte) (v' := .int (0 : Int32)) (by decide) rfl rfl d_jdk_42_method_149_code_48 rfl (fun T9 c11 q12 W10 => ?_)
    replace W10 : Wk l Z EL1 ({ frames := 4, cells := 2, slots := 3 * cs.length, locals := 57 } : Room) "java/lang/String" jdk_42_method_149_code 6 none "<init>" X [(b, cb), (ac, cc), (a, c11)] [] T9 2 (0 + 3 * cs.length + 0) := W10
    have O13 := hO.put' q12
    have F14 := hC.put' q12
    have F15 := hV.keep' q12 (slot_ne (Or.inr (w_64 G)) (Or.inr (w_62 G)) (by decide) (t := (.array .byte)) (t' := .byte) (by decide) (by decide))
    refine Go.aloadN (pc' := 52) W10 d_jdk_42_method_149_code_51 rfl rfl rfl ?_
    refine Go.aload (pc' := 54) W10 d_jdk_42_method_149_code_52 rfl rfl rfl ?_
    refine Go.putfield (pc' := 57) W10 2 rfl (w_63 G) Via.refl F15 O13 (Or.inr ⟨(w_64 G), rfl, rfl⟩) (w_18 G) (ty := (.array .byte)) (v' := .ref b) (by decide) rfl rfl d_jdk_42_method_149_code_54 rfl (fun T16 c18 q19 W17 => ?_)
    replace W17 : Wk l Z EL1 ({ frames := 4, cells := 2, slots := 3 * cs.length, locals := 57 } : Room) "java/lang/String" jdk_42_method_149_code 6 none "<init>" X [(b, cb), (ac, cc), (a, c18)] [] T16 2 (0 + 3 * cs.length + 0) := W17
    have O20 := O13.put' q19
    have F21 := F14.keep' q19 (slot_ne (Or.inr (w_62 G)) (Or.inr (w_64 G)) (by decide) (t := .byte) (t' := (.array .byte)) (by decide) (by decide))
    have F22 := F15.put' q19
    have W23 := W17.freeze [2, 0] (σi := [(a, c18), (b, cb)]) (σf := [(ac, cc)]) rfl
    replace W23 : Wk l Z EL1 ({ frames := 4, cells := 2, slots := 3 * cs.length, locals := 57 } : Room) "java/lang/String" jdk_42_method_149_code 6 none "<init>" X [(ac, cc)] [(a, c18), (b, cb)] T16 2 (0 + 3 * cs.length + 0) := W23
    refine Go.retV W23 d_jdk_42_method_149_code_57 (by first | exact Nat.le_of_ble_eq_true rfl | (simp; done) | (simp; omega) | omega) (by first | exact Nat.le_of_ble_eq_true rfl | (simp; done) | (simp; omega) | omega) ?_
    exact ⟨_, b, cb, rfl, rfl, rfl, Or.inl ⟨O20, F21, F22, B, hl⟩⟩
  · refine Go.astore (pc' := 41) W6 #[.val (.ref a), .val (.ref ac), .val (.int (0 : Int32)), .val (.int cs.length.toInt32), .val (.null), .val (.ref b)] d_jdk_42_method_149_code_39 rfl rfl rfl ?_
    refine Go.aloadN (pc' := 42) W6 d_jdk_42_method_149_code_41 rfl rfl rfl ?_
    refine Go.aload (pc' := 44) W6 d_jdk_42_method_149_code_42 rfl rfl rfl ?_
    refine Go.iloadN (pc' := 45) W6 d_jdk_42_method_149_code_44 rfl rfl ?_
    refine Go.static (pc' := 48) W6 (rm_codU G b cb cs B (Nat.pos_of_ne_zero fun h => h0 (by rw [h]; rfl)) hn) (w_58 G) (w_59 G) (w_33 G) (w_60 G) (by decide) [1] [] (σf := [(ac, cc), (a, c)]) rfl rfl [(.ref b), (.int cs.length.toInt32)] [(.ref a)] rfl (lenOf pd_8 rfl) rfl rfl d_jdk_42_method_149_code_45 rfl (by first | exact Nat.le_of_ble_eq_true rfl | (simp; done) | (simp; omega) | omega) (by first | exact Nat.le_of_ble_eq_true rfl | (simp; done) | (simp; omega) | omega) (by first | exact Nat.le_of_ble_eq_true rfl | (simp; done) | (simp; omega) | omega) (by first | exact Nat.le_of_ble_eq_true rfl | (simp; done) | (simp; omega) | omega) ?_
    rintro _ _ _ T24 ⟨rfl, rfl, rfl⟩ W25
    replace W25 : Wk l Z EL1 ({ frames := 4, cells := 2, slots := 3 * cs.length, locals := 57 } : Room) "java/lang/String" jdk_42_method_149_code 6 none "<init>" X [(b, cb), (ac, cc), (a, c)] [] T24 2 (0 + 3 * cs.length + 0) := W25
    show Go Z EL1 _ _ _ X T24 48 #[.val (.ref a), .val (.ref ac), .val (.int (0 : Int32)), .val (.int cs.length.toInt32), .val (.null), .val (.ref b)] [(.int (1 : Int32)), (.ref a)]
    refine Go.putfield (pc' := 51) W25 2 rfl (w_61 G) Via.refl hC hO (Or.inr ⟨(w_62 G), rfl, rfl⟩) (w_18 G) (ty := .byte) (v' := .int (1 : Int32)) (by decide) rfl rfl d_jdk_42_method_149_code_48 rfl (fun T26 c28 q29 W27 => ?_)
    replace W27 : Wk l Z EL1 ({ frames := 4, cells := 2, slots := 3 * cs.length, locals := 57 } : Room) "java/lang/String" jdk_42_method_149_code 6 none "<init>" X [(b, cb), (ac, cc), (a, c28)] [] T26 2 (0 + 3 * cs.length + 0) := W27
    have O30 := hO.put' q29
    have F31 := hC.put' q29
    have F32 := hV.keep' q29 (slot_ne (Or.inr (w_64 G)) (Or.inr (w_62 G)) (by decide) (t := (.array .byte)) (t' := .byte) (by decide) (by decide))
    refine Go.aloadN (pc' := 52) W27 d_jdk_42_method_149_code_51 rfl rfl rfl ?_
    refine Go.aload (pc' := 54) W27 d_jdk_42_method_149_code_52 rfl rfl rfl ?_
    refine Go.putfield (pc' := 57) W27 2 rfl (w_63 G) Via.refl F32 O30 (Or.inr ⟨(w_64 G), rfl, rfl⟩) (w_18 G) (ty := (.array .byte)) (v' := .ref b) (by decide) rfl rfl d_jdk_42_method_149_code_54 rfl (fun T33 c35 q36 W34 => ?_)
    replace W34 : Wk l Z EL1 ({ frames := 4, cells := 2, slots := 3 * cs.length, locals := 57 } : Room) "java/lang/String" jdk_42_method_149_code 6 none "<init>" X [(b, cb), (ac, cc), (a, c35)] [] T33 2 (0 + 3 * cs.length + 0) := W34
    have O37 := O30.put' q36
    have F38 := F31.keep' q36 (slot_ne (Or.inr (w_62 G)) (Or.inr (w_64 G)) (by decide) (t := .byte) (t' := (.array .byte)) (by decide) (by decide))
    have F39 := F32.put' q36
    have W40 := W34.freeze [2, 0] (σi := [(a, c35), (b, cb)]) (σf := [(ac, cc)]) rfl
    replace W40 : Wk l Z EL1 ({ frames := 4, cells := 2, slots := 3 * cs.length, locals := 57 } : Room) "java/lang/String" jdk_42_method_149_code 6 none "<init>" X [(ac, cc)] [(a, c35), (b, cb)] T33 2 (0 + 3 * cs.length + 0) := W40
    refine Go.retV W40 d_jdk_42_method_149_code_57 (by first | exact Nat.le_of_ble_eq_true rfl | (simp; done) | (simp; omega) | omega) (by first | exact Nat.le_of_ble_eq_true rfl | (simp; done) | (simp; omega) | omega) ?_
    exact ⟨_, b, cb, rfl, rfl, rfl, Or.inr ⟨O37, F38, F39, B, hc⟩⟩
theorem d_jdk_42_method_3_code_0 : decode jdk_42_method_3_code 0 = .ok (.aload_n 0, 1) := by decide +kernel
theorem d_jdk_42_method_3_code_1 : decode jdk_42_method_3_code 1 = .ok (.aload_n 1, 1) := by decide +kernel
theorem d_jdk_42_method_3_code_2 : decode jdk_42_method_3_code 2 = .ok (.iconst 0, 1) := by decide +kernel
theorem d_jdk_42_method_3_code_3 : decode jdk_42_method_3_code 3 = .ok (.aload_n 1, 1) := by decide +kernel
theorem d_jdk_42_method_3_code_4 : decode jdk_42_method_3_code 4 = .ok (.arraylength, 1) := by decide +kernel
theorem d_jdk_42_method_3_code_5 : decode jdk_42_method_3_code 5 = .ok (.aconst_null, 1) := by decide +kernel
theorem d_jdk_42_method_3_code_6 : decode jdk_42_method_3_code 6 = .ok (.invokespecial 27, 3) := by decide +kernel
theorem w_23 {Z : State} {a0 : Array Value} (G : Cl Z a0) : (Jvm.Cond.methodLink "java/lang/String" 27 (⟨"java/lang/String", "<init>", "([CIILjava/lang/Void;)V"⟩ : MethodName)).before a0 Z = true := G.1 _ (List.mem_of_getElem? (l := tables_1) (i := 23) rfl)
theorem w_19 {Z : State} {a0 : Array Value} (G : Cl Z a0) : (Jvm.Cond.initialized "java/lang/String").before a0 Z = true := G.1 _ (List.mem_of_getElem? (l := tables_1) (i := 19) rfl)
theorem w_26 {Z : State} {a0 : Array Value} (G : Cl Z a0) : (Jvm.Cond.code (⟨"java/lang/String", "<init>", "([CIILjava/lang/Void;)V"⟩ : MethodName) jdk_42_method_149_code 6 none).before a0 Z = true := G.1 _ (List.mem_of_getElem? (l := tables_1) (i := 26) rfl)
theorem pd_9 : parseMethodDescriptor "([CIILjava/lang/Void;)V" = some ⟨[(.array .char), .int, .int, (.object "java/lang/Void")], none⟩ := by decide +kernel
theorem w_24 {Z : State} {a0 : Array Value} (G : Cl Z a0) : (Jvm.Cond.instanceMethod (⟨"java/lang/String", "<init>", "([CIILjava/lang/Void;)V"⟩ : MethodName)).before a0 Z = true := G.1 _ (List.mem_of_getElem? (l := tables_1) (i := 24) rfl)
theorem d_jdk_42_method_3_code_9 : decode jdk_42_method_3_code 9 = .ok (.return_, 1) := by decide +kernel
set_option maxRecDepth 65536 in
set_option maxHeartbeats 40000000 in
theorem rm_initC {l : Launch} {Z : State} {a0 : Array Value} (G : Cl Z a0) (a ac : Addr) (c cc : Cell) (cs : List Int32) (A : ArrC Z cc .char (chV cs)) (hO : ObjC Z c "java/lang/String") (hC : FldC Z c "java/lang/String" "coder" "B" (.int 0)) (hV : FldC Z c "java/lang/String" "value" "[B" .null) (hc : Chr cs) (hn : cs.length < 65536) (h0 : ¬ cs.length.toInt32 = 0) :
    Met l Z EL1 (⟨"java/lang/String", "<init>", "([C)V"⟩ : MethodName) jdk_42_method_3_code 2 none ({ frames := 5, cells := 2, slots := 3 * cs.length, locals := 74 } : Room) #[.ref a, .ref ac] [(a, c), (ac, cc)] [] (fun v σ ρ => ∃ c' b cb, v = none ∧ σ = [(ac, cc)] ∧ ρ = [(a, c'), (b, cb)] ∧ StrG Z c' b cb cs) := by
  refine Met.walk G.2.1 pn_7 #[.val (.ref a), .val (.ref ac)] (fun m => by first | (simp [entryFrame, mkF, argsToLocals, Value.category]; done) | rfl) ?_
  intro X T0 W0
  refine Go.aloadN (pc' := 1) W0 d_jdk_42_method_3_code_0 rfl rfl rfl ?_
  refine Go.aloadN (pc' := 2) W0 d_jdk_42_method_3_code_1 rfl rfl rfl ?_
  refine Go.iconst (pc' := 3) W0 (0 : Int32) d_jdk_42_method_3_code_2 (by decide) rfl ?_
  refine Go.aloadN (pc' := 4) W0 d_jdk_42_method_3_code_3 rfl rfl rfl ?_
  refine Go.arrlen (pc' := 5) W0 (Or.inl (List.mem_of_getElem? (i := 1) rfl)) A cs.length.toInt32 (by rw [chV, List.length_map]) d_jdk_42_method_3_code_4 rfl ?_
  refine Go.aconstNull (pc' := 6) W0 d_jdk_42_method_3_code_5 rfl ?_
  refine Go.special (pc' := 9) W0 (a := a) (rm_initV G a ac c cc cs A hO hC hV hc hn h0) rfl (w_23 G) (w_24 G) (w_19 G) (w_26 G) (by decide) [0, 0] [] (σf := []) rfl rfl [(.ref ac), (.int (0 : Int32)), (.int cs.length.toInt32), (.null)] [] rfl (lenOf pd_9 rfl) rfl rfl d_jdk_42_method_3_code_6 rfl (by first | exact Nat.le_of_ble_eq_true rfl | (simp; done) | (simp; omega) | omega) (by first | exact Nat.le_of_ble_eq_true rfl | (simp; done) | (simp; omega) | omega) (by first | exact Nat.le_of_ble_eq_true rfl | (simp; done) | (simp; omega) | omega) (by first | exact Nat.le_of_ble_eq_true rfl | (simp; done) | (simp; omega) | omega) ?_
  rintro _ _ _ T1 ⟨c', b, cb, rfl, rfl, rfl, S⟩ W2
  replace W2 : Wk l Z EL1 ({ frames := 5, cells := 2, slots := 3 * cs.length, locals := 74 } : Room) "java/lang/String" jdk_42_method_3_code 2 none "<init>" X [(ac, cc)] [(a, c'), (b, cb)] T1 2 (0 + 3 * cs.length) := W2
  show Go Z EL1 _ _ _ X T1 9 #[.val (.ref a), .val (.ref ac)] []
  refine Go.retV W2 d_jdk_42_method_3_code_9 (by first | exact Nat.le_of_ble_eq_true rfl | (simp; done) | (simp; omega) | omega) (by first | exact Nat.le_of_ble_eq_true rfl | (simp; done) | (simp; omega) | omega) ?_
  exact ⟨c', b, cb, rfl, rfl, rfl, S⟩
theorem d_jdk_42_method_152_code_0 : decode jdk_42_method_152_code 0 = .ok (.getstatic 38, 3) := by decide +kernel
theorem d_jdk_42_method_152_code_3 : decode jdk_42_method_152_code 3 = .ok (.ifCond .eq 10, 3) := by decide +kernel
theorem d_jdk_42_method_152_code_6 : decode jdk_42_method_152_code 6 = .ok (.aload_n 0, 1) := by decide +kernel
theorem d_jdk_42_method_152_code_7 : decode jdk_42_method_152_code 7 = .ok (.getfield 15, 3) := by decide +kernel
theorem d_jdk_42_method_152_code_10 : decode jdk_42_method_152_code 10 = .ok (.goto 4, 3) := by decide +kernel
theorem d_jdk_42_method_152_code_14 : decode jdk_42_method_152_code 14 = .ok (.ireturn, 1) := by decide +kernel
set_option maxRecDepth 65536 in
set_option maxHeartbeats 40000000 in
theorem rm_coder {l : Launch} {Z : State} {a0 : Array Value} (G : Cl Z a0) (a b : Addr) (c cb : Cell) (cs : List Int32) (S : StrL Z c b cb cs) :
    Met l Z EL1 (⟨"java/lang/String", "coder", "()B"⟩ : MethodName) jdk_42_method_152_code 1 (some .byte) ({ frames := 0, cells := 0, slots := 0, locals := 0 } : Room) #[.ref a] [] [(a, c)] (fun v σ ρ => v = some (.int 0) ∧ σ = [] ∧ ρ = []) := by
  refine Met.walk G.2.1 pn_7 #[.val (.ref a)] (fun m => by first | (simp [entryFrame, mkF, argsToLocals, Value.category]; done) | rfl) ?_
  intro X T0 W0
  obtain ⟨cv, Scv, hcv⟩ := G.2.2.1
  refine Go.getstatic (pc' := 3) W0 (w_30 G) Via.refl Scv d_jdk_42_method_152_code_0 rfl (fun T1 W2 => ?_)
  refine Go.if_eq (pc' := 6) W2 13 d_jdk_42_method_152_code_3 (by decide) rfl (fun q => absurd q hcv) (fun _ => ?_)
  refine Go.aloadN (pc' := 7) W2 d_jdk_42_method_152_code_6 rfl rfl rfl ?_
  refine Go.getfield (pc' := 10) W2 (Or.inr (Or.inl (List.mem_of_getElem? (i := 0) rfl))) (w_61 G) Via.refl S.2.1 d_jdk_42_method_152_code_7 rfl (fun T3 W4 => ?_)
  refine Go.goto W4 14 d_jdk_42_method_152_code_10 (by decide) ?_
  have W5 := W4.keepRo [] (ρ' := []) rfl
  replace W5 : Wk l Z EL1 ({ frames := 0, cells := 0, slots := 0, locals := 0 } : Room) "java/lang/String" jdk_42_method_152_code 1 (some .byte) "coder" X [] [] T3 0 (0) := W5
  refine Go.nret (z' := (0 : Int32)) W5 (by simp) (by decide) d_jdk_42_method_152_code_14 (by first | exact Nat.le_of_ble_eq_true rfl | (simp; done) | (simp; omega) | omega) (by first | exact Nat.le_of_ble_eq_true rfl | (simp; done) | (simp; omega) | omega) ?_
  exact ⟨rfl, rfl, rfl⟩
theorem d_jdk_42_method_54_code_0 : decode jdk_42_method_54_code 0 = .ok (.aload_n 0, 1) := by decide +kernel
theorem d_jdk_42_method_54_code_1 : decode jdk_42_method_54_code 1 = .ok (.getfield 9, 3) := by decide +kernel
theorem d_jdk_42_method_54_code_4 : decode jdk_42_method_54_code 4 = .ok (.arraylength, 1) := by decide +kernel
theorem d_jdk_42_method_54_code_5 : decode jdk_42_method_54_code 5 = .ok (.aload_n 0, 1) := by decide +kernel
theorem d_jdk_42_method_54_code_6 : decode jdk_42_method_54_code 6 = .ok (.invokevirtual 335, 3) := by decide +kernel
theorem w_86 {Z : State} {a0 : Array Value} (G : Cl Z a0) : (Jvm.Cond.methodLink "java/lang/String" 335 (⟨"java/lang/String", "coder", "()B"⟩ : MethodName)).before a0 Z = true := G.1 _ (List.mem_of_getElem? (l := tables_1) (i := 86) rfl)
theorem w_90 {Z : State} {a0 : Array Value} (G : Cl Z a0) : (Jvm.Cond.code (⟨"java/lang/String", "coder", "()B"⟩ : MethodName) jdk_42_method_152_code 1 (some .byte)).before a0 Z = true := G.1 _ (List.mem_of_getElem? (l := tables_1) (i := 90) rfl)
theorem pd_10 : parseMethodDescriptor "()B" = some ⟨[], some .byte⟩ := by decide +kernel
theorem w_87 {Z : State} {a0 : Array Value} (G : Cl Z a0) : (Jvm.Cond.declares (⟨"java/lang/String", "coder", "()B"⟩ : MethodName)).before a0 Z = true := G.1 _ (List.mem_of_getElem? (l := tables_1) (i := 87) rfl)
theorem w_89 {Z : State} {a0 : Array Value} (G : Cl Z a0) : (Jvm.Cond.selects "java/lang/String" (⟨"java/lang/String", "coder", "()B"⟩ : MethodName) (⟨"java/lang/String", "coder", "()B"⟩ : MethodName)).before a0 Z = true := G.1 _ (List.mem_of_getElem? (l := tables_1) (i := 89) rfl)
theorem w_88 {Z : State} {a0 : Array Value} (G : Cl Z a0) : (Jvm.Cond.instanceMethod (⟨"java/lang/String", "coder", "()B"⟩ : MethodName)).before a0 Z = true := G.1 _ (List.mem_of_getElem? (l := tables_1) (i := 88) rfl)
theorem d_jdk_42_method_54_code_9 : decode jdk_42_method_54_code 9 = .ok (.ishr, 1) := by decide +kernel
theorem d_jdk_42_method_54_code_10 : decode jdk_42_method_54_code 10 = .ok (.ireturn, 1) := by decide +kernel
set_option maxRecDepth 65536 in
set_option maxHeartbeats 40000000 in
theorem rm_len {l : Launch} {Z : State} {a0 : Array Value} (G : Cl Z a0) (a b : Addr) (c cb : Cell) (cs : List Int32) (S : StrL Z c b cb cs) :
    Met l Z EL1 (⟨"java/lang/String", "length", "()I"⟩ : MethodName) jdk_42_method_54_code 1 (some .int) ({ frames := 1, cells := 0, slots := 0, locals := 13 } : Room) #[.ref a] [] [(a, c), (b, cb)] (fun v σ ρ => v = some (.int cs.length.toInt32) ∧ σ = [] ∧ ρ = []) := by
  refine Met.walk G.2.1 pn_7 #[.val (.ref a)] (fun m => by first | (simp [entryFrame, mkF, argsToLocals, Value.category]; done) | rfl) ?_
  intro X T0 W0
  refine Go.aloadN (pc' := 1) W0 d_jdk_42_method_54_code_0 rfl rfl rfl ?_
  refine Go.getfield (pc' := 4) W0 (Or.inr (Or.inl (List.mem_of_getElem? (i := 0) rfl))) (w_63 G) Via.refl S.2.2.1 d_jdk_42_method_54_code_1 rfl (fun T1 W2 => ?_)
  refine Go.arrlen (pc' := 5) W2 (Or.inr (Or.inl (List.mem_of_getElem? (i := 1) rfl))) S.2.2.2.1 cs.length.toInt32 (by rw [latB, List.length_map]) d_jdk_42_method_54_code_4 rfl ?_
  refine Go.aloadN (pc' := 6) W2 d_jdk_42_method_54_code_5 rfl rfl rfl ?_
  refine Go.virtual (pc' := 9) W2 (rm_coder G a b c cb cs S) (Or.inr (Or.inl (List.mem_of_getElem? (i := 0) rfl))) S.1 (w_86 G) (w_87 G) (w_89 G) (w_88 G) (w_19 G) (w_90 G) (by decide) [] [0] (σf := []) rfl rfl [] [(.int cs.length.toInt32)] rfl (lenOf pd_10 rfl) rfl rfl d_jdk_42_method_54_code_6 rfl (by first | exact Nat.le_of_ble_eq_true rfl | (simp; done) | (simp; omega) | omega) (by first | exact Nat.le_of_ble_eq_true rfl | (simp; done) | (simp; omega) | omega) (by first | exact Nat.le_of_ble_eq_true rfl | (simp; done) | (simp; omega) | omega) (by first | exact Nat.le_of_ble_eq_true rfl | (simp; done) | (simp; omega) | omega) ?_
  rintro _ _ _ T3 ⟨rfl, rfl, rfl⟩ W4
  replace W4 : Wk l Z EL1 ({ frames := 1, cells := 0, slots := 0, locals := 13 } : Room) "java/lang/String" jdk_42_method_54_code 1 (some .int) "length" X [] [(a, c), (b, cb)] T3 0 (0) := W4
  show Go Z EL1 _ _ _ X T3 9 #[.val (.ref a)] [(.int (0 : Int32)), (.int cs.length.toInt32)]
  refine Go.ishr (pc' := 10) W4 d_jdk_42_method_54_code_9 rfl ?_
  have W5 := W4.keepRo [] (ρ' := []) rfl
  replace W5 : Wk l Z EL1 ({ frames := 1, cells := 0, slots := 0, locals := 13 } : Room) "java/lang/String" jdk_42_method_54_code 1 (some .int) "length" X [] [] T3 0 (0) := W5
  refine Go.iret W5 d_jdk_42_method_54_code_10 (by first | exact Nat.le_of_ble_eq_true rfl | (simp; done) | (simp; omega) | omega) (by first | exact Nat.le_of_ble_eq_true rfl | (simp; done) | (simp; omega) | omega) ?_
  exact ⟨by rw [shr0], rfl, rfl⟩
set_option maxRecDepth 65536 in
set_option maxHeartbeats 40000000 in
theorem rm_coderU {l : Launch} {Z : State} {a0 : Array Value} (G : Cl Z a0) (a b : Addr) (c cb : Cell) (cs : List Int32) (S : StrU Z c b cb cs) :
    Met l Z EL1 (⟨"java/lang/String", "coder", "()B"⟩ : MethodName) jdk_42_method_152_code 1 (some .byte) ({ frames := 0, cells := 0, slots := 0, locals := 0 } : Room) #[.ref a] [] [(a, c)] (fun v σ ρ => v = some (.int 1) ∧ σ = [] ∧ ρ = []) := by
  refine Met.walk G.2.1 pn_7 #[.val (.ref a)] (fun m => by first | (simp [entryFrame, mkF, argsToLocals, Value.category]; done) | rfl) ?_
  intro X T0 W0
  obtain ⟨cv, Scv, hcv⟩ := G.2.2.1
  refine Go.getstatic (pc' := 3) W0 (w_30 G) Via.refl Scv d_jdk_42_method_152_code_0 rfl (fun T1 W2 => ?_)
  refine Go.if_eq (pc' := 6) W2 13 d_jdk_42_method_152_code_3 (by decide) rfl (fun q => absurd q hcv) (fun _ => ?_)
  refine Go.aloadN (pc' := 7) W2 d_jdk_42_method_152_code_6 rfl rfl rfl ?_
  refine Go.getfield (pc' := 10) W2 (Or.inr (Or.inl (List.mem_of_getElem? (i := 0) rfl))) (w_61 G) Via.refl S.2.1 d_jdk_42_method_152_code_7 rfl (fun T3 W4 => ?_)
  refine Go.goto W4 14 d_jdk_42_method_152_code_10 (by decide) ?_
  have W5 := W4.keepRo [] (ρ' := []) rfl
  replace W5 : Wk l Z EL1 ({ frames := 0, cells := 0, slots := 0, locals := 0 } : Room) "java/lang/String" jdk_42_method_152_code 1 (some .byte) "coder" X [] [] T3 0 (0) := W5
  refine Go.nret (z' := (1 : Int32)) W5 (by simp) (by decide) d_jdk_42_method_152_code_14 (by first | exact Nat.le_of_ble_eq_true rfl | (simp; done) | (simp; omega) | omega) (by first | exact Nat.le_of_ble_eq_true rfl | (simp; done) | (simp; omega) | omega) ?_
  exact ⟨rfl, rfl, rfl⟩
set_option maxRecDepth 65536 in
set_option maxHeartbeats 40000000 in
theorem rm_lenU {l : Launch} {Z : State} {a0 : Array Value} (G : Cl Z a0) (a b : Addr) (c cb : Cell) (cs : List Int32) (S : StrU Z c b cb cs) :
    Met l Z EL1 (⟨"java/lang/String", "length", "()I"⟩ : MethodName) jdk_42_method_54_code 1 (some .int) ({ frames := 1, cells := 0, slots := 0, locals := 13 } : Room) #[.ref a] [] [(a, c), (b, cb)] (fun v σ ρ => v = some (.int cs.length.toInt32) ∧ σ = [] ∧ ρ = []) := by
  refine Met.walk G.2.1 pn_7 #[.val (.ref a)] (fun m => by first | (simp [entryFrame, mkF, argsToLocals, Value.category]; done) | rfl) ?_
  intro X T0 W0
  refine Go.aloadN (pc' := 1) W0 d_jdk_42_method_54_code_0 rfl rfl rfl ?_
  refine Go.getfield (pc' := 4) W0 (Or.inr (Or.inl (List.mem_of_getElem? (i := 0) rfl))) (w_63 G) Via.refl S.2.2.1 d_jdk_42_method_54_code_1 rfl (fun T1 W2 => ?_)
  refine Go.arrlen (pc' := 5) W2 (Or.inr (Or.inl (List.mem_of_getElem? (i := 1) rfl))) S.2.2.2.1 (2 * cs.length).toInt32 (by rw [utfB_len]) d_jdk_42_method_54_code_4 rfl ?_
  refine Go.aloadN (pc' := 6) W2 d_jdk_42_method_54_code_5 rfl rfl rfl ?_
  refine Go.virtual (pc' := 9) W2 (rm_coderU G a b c cb cs S) (Or.inr (Or.inl (List.mem_of_getElem? (i := 0) rfl))) S.1 (w_86 G) (w_87 G) (w_89 G) (w_88 G) (w_19 G) (w_90 G) (by decide) [] [0] (σf := []) rfl rfl [] [(.int (2 * cs.length).toInt32)] rfl (lenOf pd_10 rfl) rfl rfl d_jdk_42_method_54_code_6 rfl (by first | exact Nat.le_of_ble_eq_true rfl | (simp; done) | (simp; omega) | omega) (by first | exact Nat.le_of_ble_eq_true rfl | (simp; done) | (simp; omega) | omega) (by first | exact Nat.le_of_ble_eq_true rfl | (simp; done) | (simp; omega) | omega) (by first | exact Nat.le_of_ble_eq_true rfl | (simp; done) | (simp; omega) | omega) ?_
  rintro _ _ _ T3 ⟨rfl, rfl, rfl⟩ W4
  replace W4 : Wk l Z EL1 ({ frames := 1, cells := 0, slots := 0, locals := 13 } : Room) "java/lang/String" jdk_42_method_54_code 1 (some .int) "length" X [] [(a, c), (b, cb)] T3 0 (0) := W4
  show Go Z EL1 _ _ _ X T3 9 #[.val (.ref a)] [(.int (1 : Int32)), (.int (2 * cs.length).toInt32)]
  refine Go.ishr (pc' := 10) W4 d_jdk_42_method_54_code_9 rfl ?_
  have W5 := W4.keepRo [] (ρ' := []) rfl
  replace W5 : Wk l Z EL1 ({ frames := 1, cells := 0, slots := 0, locals := 13 } : Room) "java/lang/String" jdk_42_method_54_code 1 (some .int) "length" X [] [] T3 0 (0) := W5
  refine Go.iret W5 d_jdk_42_method_54_code_10 (by first | exact Nat.le_of_ble_eq_true rfl | (simp; done) | (simp; omega) | omega) (by first | exact Nat.le_of_ble_eq_true rfl | (simp; done) | (simp; omega) | omega) ?_
  exact ⟨by rw [shr1 (by have := S.2.2.2.1.2.2.2.2; rw [utfB_len] at this; omega)], rfl, rfl⟩
theorem rm_lenG {l : Launch} {Z : State} {a0 : Array Value} (G : Cl Z a0) (a b : Addr) (c cb : Cell) (cs : List Int32) (S : StrG Z c b cb cs) :
    Met l Z EL1 (⟨"java/lang/String", "length", "()I"⟩ : MethodName) jdk_42_method_54_code 1 (some .int) ({ frames := 1, cells := 0, slots := 0, locals := 13 } : Room) #[.ref a] [] [(a, c), (b, cb)] (fun v σ ρ => v = some (.int cs.length.toInt32) ∧ σ = [] ∧ ρ = []) := S.elim (rm_len G a b c cb cs) (rm_lenU G a b c cb cs)
theorem pn_11 : plainName "jdk/internal/util/Preconditions" = true := by first | (simp [plainName, overriddenIn]; done) | decide +kernel
theorem d_jdk_41_method_11_code_0 : decode jdk_41_method_11_code 0 = .ok (.iload_n 0, 1) := by decide +kernel
theorem d_jdk_41_method_11_code_1 : decode jdk_41_method_11_code 1 = .ok (.ifCond .lt 8, 3) := by decide +kernel
theorem d_jdk_41_method_11_code_4 : decode jdk_41_method_11_code 4 = .ok (.iload_n 0, 1) := by decide +kernel
theorem d_jdk_41_method_11_code_5 : decode jdk_41_method_11_code 5 = .ok (.iload_n 1, 1) := by decide +kernel
theorem d_jdk_41_method_11_code_6 : decode jdk_41_method_11_code 6 = .ok (.if_icmp .lt 10, 3) := by decide +kernel
theorem d_jdk_41_method_11_code_16 : decode jdk_41_method_11_code 16 = .ok (.iload_n 0, 1) := by decide +kernel
theorem d_jdk_41_method_11_code_17 : decode jdk_41_method_11_code 17 = .ok (.ireturn, 1) := by decide +kernel
set_option maxRecDepth 65536 in
set_option maxHeartbeats 40000000 in
theorem rm_pci {l : Launch} {Z : State} {a0 : Array Value} (G : Cl Z a0) (i n : Int32) (h0 : ¬ i < 0) (h1 : i < n) (fv : Value) (hf : fv.isRef = true) :
    Met l Z EL1 (⟨"jdk/internal/util/Preconditions", "checkIndex", "(IILjava/util/function/BiFunction;)I"⟩ : MethodName) jdk_41_method_11_code 3 (some .int) ({ frames := 0, cells := 0, slots := 0, locals := 0 } : Room) #[.int i, .int n, fv] [] [] (fun v σ ρ => v = some (.int i) ∧ σ = [] ∧ ρ = []) := by
  refine Met.walk G.2.1 pn_11 #[.val (.int i), .val (.int n), .val (fv)] (fun m => by rcases ref_cases hf with rfl | ⟨_, rfl⟩ <;> first | (simp [entryFrame, mkF, argsToLocals, Value.category]; done) | rfl) ?_
  intro X T0 W0
  refine Go.iloadN (pc' := 1) W0 d_jdk_41_method_11_code_0 rfl rfl ?_
  refine Go.if_lt (pc' := 4) W0 9 d_jdk_41_method_11_code_1 (by decide) rfl (fun q => absurd q h0) (fun _ => ?_)
  refine Go.iloadN (pc' := 5) W0 d_jdk_41_method_11_code_4 rfl rfl ?_
  refine Go.iloadN (pc' := 6) W0 d_jdk_41_method_11_code_5 rfl rfl ?_
  refine Go.icmp_lt (pc' := 9) W0 16 d_jdk_41_method_11_code_6 (by decide) rfl (fun _ => ?_) (fun q => absurd h1 q)
  refine Go.iloadN (pc' := 17) W0 d_jdk_41_method_11_code_16 rfl rfl ?_
  refine Go.iret W0 d_jdk_41_method_11_code_17 (by first | exact Nat.le_of_ble_eq_true rfl | (simp; done) | (simp; omega) | omega) (by first | exact Nat.le_of_ble_eq_true rfl | (simp; done) | (simp; omega) | omega) ?_
  exact ⟨rfl, rfl, rfl⟩
theorem d_jdk_42_method_155_code_0 : decode jdk_42_method_155_code 0 = .ok (.iload_n 0, 1) := by decide +kernel
theorem d_jdk_42_method_155_code_1 : decode jdk_42_method_155_code 1 = .ok (.iload_n 1, 1) := by decide +kernel
theorem d_jdk_42_method_155_code_2 : decode jdk_42_method_155_code 2 = .ok (.getstatic 1053, 3) := by decide +kernel
theorem w_104 {Z : State} {a0 : Array Value} (G : Cl Z a0) : (Jvm.Cond.fieldLink "java/lang/String" 1053 "jdk/internal/util/Preconditions" "SIOOBE_FORMATTER" "Ljava/util/function/BiFunction;").before a0 Z = true := G.1 _ (List.mem_of_getElem? (l := tables_1) (i := 104) rfl)
theorem d_jdk_42_method_155_code_5 : decode jdk_42_method_155_code 5 = .ok (.invokestatic 1059, 3) := by decide +kernel
theorem w_106 {Z : State} {a0 : Array Value} (G : Cl Z a0) : (Jvm.Cond.methodLink "java/lang/String" 1059 (⟨"jdk/internal/util/Preconditions", "checkIndex", "(IILjava/util/function/BiFunction;)I"⟩ : MethodName)).before a0 Z = true := G.1 _ (List.mem_of_getElem? (l := tables_1) (i := 106) rfl)
theorem w_105 {Z : State} {a0 : Array Value} (G : Cl Z a0) : (Jvm.Cond.initialized "jdk/internal/util/Preconditions").before a0 Z = true := G.1 _ (List.mem_of_getElem? (l := tables_1) (i := 105) rfl)
theorem w_108 {Z : State} {a0 : Array Value} (G : Cl Z a0) : (Jvm.Cond.code (⟨"jdk/internal/util/Preconditions", "checkIndex", "(IILjava/util/function/BiFunction;)I"⟩ : MethodName) jdk_41_method_11_code 3 (some .int)).before a0 Z = true := G.1 _ (List.mem_of_getElem? (l := tables_1) (i := 108) rfl)
theorem pd_12 : parseMethodDescriptor "(IILjava/util/function/BiFunction;)I" = some ⟨[.int, .int, (.object "java/util/function/BiFunction")], some .int⟩ := by decide +kernel
theorem w_107 {Z : State} {a0 : Array Value} (G : Cl Z a0) : (Jvm.Cond.static (⟨"jdk/internal/util/Preconditions", "checkIndex", "(IILjava/util/function/BiFunction;)I"⟩ : MethodName)).before a0 Z = true := G.1 _ (List.mem_of_getElem? (l := tables_1) (i := 107) rfl)
theorem d_jdk_42_method_155_code_8 : decode jdk_42_method_155_code 8 = .ok (.pop, 1) := by decide +kernel
theorem d_jdk_42_method_155_code_9 : decode jdk_42_method_155_code 9 = .ok (.return_, 1) := by decide +kernel
set_option maxRecDepth 65536 in
set_option maxHeartbeats 40000000 in
theorem rm_cki {l : Launch} {Z : State} {a0 : Array Value} (G : Cl Z a0) (i n : Int32) (h0 : ¬ i < 0) (h1 : i < n) :
    Met l Z EL1 (⟨"java/lang/String", "checkIndex", "(II)V"⟩ : MethodName) jdk_42_method_155_code 2 none ({ frames := 1, cells := 0, slots := 0, locals := 14 } : Room) #[.int i, .int n] [] [] (fun v σ ρ => v = none ∧ σ = [] ∧ ρ = []) := by
  refine Met.walk G.2.1 pn_7 #[.val (.int i), .val (.int n)] (fun m => by first | (simp [entryFrame, mkF, argsToLocals, Value.category]; done) | rfl) ?_
  intro X T0 W0
  obtain ⟨fv, Sfv, hf⟩ := G.2.2.2.1
  refine Go.iloadN (pc' := 1) W0 d_jdk_42_method_155_code_0 rfl rfl ?_
  refine Go.iloadN (pc' := 2) W0 d_jdk_42_method_155_code_1 rfl rfl ?_
  refine Go.getstatic (pc' := 5) W0 (w_104 G) Via.refl Sfv d_jdk_42_method_155_code_2 rfl (fun T1 W2 => ?_)
  refine Go.static (pc' := 8) W2 (rm_pci G i n h0 h1 fv hf) (w_106 G) (w_107 G) (w_105 G) (w_108 G) (by decide) [] [] (σf := []) rfl rfl [(.int i), (.int n), (fv)] [] rfl (lenOf pd_12 rfl) rfl rfl d_jdk_42_method_155_code_5 rfl (by first | exact Nat.le_of_ble_eq_true rfl | (simp; done) | (simp; omega) | omega) (by first | exact Nat.le_of_ble_eq_true rfl | (simp; done) | (simp; omega) | omega) (by first | exact Nat.le_of_ble_eq_true rfl | (simp; done) | (simp; omega) | omega) (by first | exact Nat.le_of_ble_eq_true rfl | (simp; done) | (simp; omega) | omega) ?_
  rintro _ _ _ T3 ⟨rfl, rfl, rfl⟩ W4
  replace W4 : Wk l Z EL1 ({ frames := 1, cells := 0, slots := 0, locals := 14 } : Room) "java/lang/String" jdk_42_method_155_code 2 none "checkIndex" X [] [] T3 0 (0) := W4
  show Go Z EL1 _ _ _ X T3 8 #[.val (.int i), .val (.int n)] [(.int i)]
  refine Go.pop (pc' := 9) W4 d_jdk_42_method_155_code_8 rfl rfl ?_
  refine Go.retV W4 d_jdk_42_method_155_code_9 (by first | exact Nat.le_of_ble_eq_true rfl | (simp; done) | (simp; omega) | omega) (by first | exact Nat.le_of_ble_eq_true rfl | (simp; done) | (simp; omega) | omega) ?_
  exact ⟨rfl, rfl, rfl⟩
theorem pn_13 : plainName "java/util/Objects" = true := by first | (simp [plainName, overriddenIn]; done) | decide +kernel
theorem d_jdk_31_method_11_code_0 : decode jdk_31_method_11_code 0 = .ok (.aload_n 0, 1) := by decide +kernel
theorem d_jdk_31_method_11_code_1 : decode jdk_31_method_11_code 1 = .ok (.ifnonnull 12, 3) := by decide +kernel
theorem d_jdk_31_method_11_code_13 : decode jdk_31_method_11_code 13 = .ok (.aload_n 0, 1) := by decide +kernel
theorem d_jdk_31_method_11_code_14 : decode jdk_31_method_11_code 14 = .ok (.areturn, 1) := by decide +kernel
set_option maxRecDepth 65536 in
set_option maxHeartbeats 40000000 in
theorem rm_rnn {l : Launch} {Z : State} {a0 : Array Value} (G : Cl Z a0) (a b : Addr) :
    Met l Z EL1 (⟨"java/util/Objects", "requireNonNull", "(Ljava/lang/Object;Ljava/lang/String;)Ljava/lang/Object;"⟩ : MethodName) jdk_31_method_11_code 2 (some (.object "java/lang/Object")) ({ frames := 0, cells := 0, slots := 0, locals := 0 } : Room) #[.ref a, .ref b] [] [] (fun v σ ρ => v = some (.ref a) ∧ σ = [] ∧ ρ = []) := by
  refine Met.walk G.2.1 pn_13 #[.val (.ref a), .val (.ref b)] (fun m => by first | (simp [entryFrame, mkF, argsToLocals, Value.category]; done) | rfl) ?_
  intro X T0 W0
  refine Go.aloadN (pc' := 1) W0 d_jdk_31_method_11_code_0 rfl rfl rfl ?_
  refine Go.ifnonnull_yes W0 13 d_jdk_31_method_11_code_1 (by decide) ?_
  refine Go.aloadN (pc' := 14) W0 d_jdk_31_method_11_code_13 rfl rfl rfl ?_
  refine Go.aret W0 rfl rfl d_jdk_31_method_11_code_14 (by first | exact Nat.le_of_ble_eq_true rfl | (simp; done) | (simp; omega) | omega) (by first | exact Nat.le_of_ble_eq_true rfl | (simp; done) | (simp; omega) | omega) ?_
  exact ⟨rfl, rfl, rfl⟩
theorem ti_z : (0 : Int32).toInt = 0 := by decide
theorem ti_a : (55296 : Int32).toInt = 55296 := by decide
theorem ti_b : (56320 : Int32).toInt = 56320 := by decide
theorem ti_c : (57343 : Int32).toInt = 57343 := by decide
theorem ti_d : (57344 : Int32).toInt = 57344 := by decide
theorem ti_e : (65535 : Int32).toInt = 65535 := by decide
theorem ti_f : (65536 : Int32).toInt = 65536 := by decide
theorem ti_g : (1023 : Int32).toInt = 1023 := by decide
theorem ti_h : (255 : Int32).toInt = 255 := by decide
theorem ti_i : (-56613888 : Int32).toInt = -56613888 := by decide
theorem ti_j : (200 : Int32).toInt = 200 := by decide
def Bm (x : Int32) : Prop := (¬ x < 0 ∧ ¬ (65535 : Int32) < x) ∧ (x < (55296 : Int32) ∨ (57343 : Int32) < x)
def Hi (x : Int32) : Prop := ¬ x < (55296 : Int32) ∧ x < (56320 : Int32)
def Lo (x : Int32) : Prop := ¬ x < (56320 : Int32) ∧ x < (57344 : Int32)
theorem Hi.chr {x : Int32} (h : Hi x) : ¬ x < 0 ∧ ¬ (65535 : Int32) < x := by
  obtain ⟨h1, h2⟩ := h
  simp only [Int32.lt_iff_toInt_lt, ti_z, ti_a, ti_b, ti_e] at h1 h2 ⊢
  omega
theorem Lo.chr {x : Int32} (h : Lo x) : ¬ x < 0 ∧ ¬ (65535 : Int32) < x := by
  obtain ⟨h1, h2⟩ := h
  simp only [Int32.lt_iff_toInt_lt, ti_z, ti_b, ti_d, ti_e] at h1 h2 ⊢
  omega
theorem Bm.nhi {x : Int32} (h : Bm x) (h1 : ¬ x < (55296 : Int32)) : ¬ x < (56320 : Int32) := by
  have h2 := h.2.resolve_left h1
  simp only [Int32.lt_iff_toInt_lt, ti_b, ti_c] at h2 ⊢
  omega
theorem Bm.lt {x : Int32} (h : Bm x) : x < (65536 : Int32) := by
  have h2 := h.1.2
  simp only [Int32.lt_iff_toInt_lt, ti_e, ti_f] at h2 ⊢
  omega
theorem Bm.zero : Bm 0 := ⟨by decide, Or.inl (by decide)⟩
theorem Hi.nlat {x : Int32} (h : Hi x) (h2 : ¬ x < 0 ∧ ¬ (255 : Int32) < x) : False := by
  have h1 := h.1
  have h3 := h2.2
  simp only [Int32.lt_iff_toInt_lt, ti_a, ti_h] at h1 h3
  omega
theorem hiv (y : Int32) : Hi ((55296 : Int32) + (y &&& (1023 : Int32))) := by
  have h := c_and y 1023 (by decide)
  have k := c_iadd (55296 : Int32) (y &&& 1023)
  have r := rng32 ((55296 : Int32) + (y &&& 1023))
  rw [ti_g] at h
  rw [ti_a] at k
  simp only [Hi, Int32.lt_iff_toInt_lt, ti_a, ti_b]
  omega
theorem lov (y : Int32) : Lo ((56320 : Int32) + (y &&& (1023 : Int32))) := by
  have h := c_and y 1023 (by decide)
  have k := c_iadd (56320 : Int32) (y &&& 1023)
  have r := rng32 ((56320 : Int32) + (y &&& 1023))
  rw [ti_g] at h
  rw [ti_b] at k
  simp only [Lo, Int32.lt_iff_toInt_lt, ti_d, ti_b]
  omega
theorem xo_tab : ∀ (i : Fin 32) (k : Fin 64), (55296 + 64 * i.val + k.val).toInt32 ^^^ (8192 : Int32) = (63488 + 64 * i.val + k.val).toInt32 := by decide +kernel
theorem xo {c : Int32} (h1 : ¬ c < (55296 : Int32)) (h2 : ¬ (57343 : Int32) < c) : Bm (c ^^^ (8192 : Int32)) := by
  simp only [Int32.lt_iff_toInt_lt, ti_a, ti_c] at h1 h2
  obtain ⟨k, hk, hc⟩ : ∃ k : Nat, k < 2048 ∧ c = (55296 + k).toInt32 := ⟨c.toInt.toNat - 55296, by omega, Int32.toInt_inj.mp (by rw [i32_toInt (by omega)]; omega)⟩
  have t := xo_tab ⟨k / 64, by omega⟩ ⟨k % 64, by omega⟩
  have e1 : 55296 + 64 * (k / 64) + k % 64 = 55296 + k := by omega
  have e2 : 63488 + 64 * (k / 64) + k % 64 = 63488 + k := by omega
  simp only [e1, e2] at t
  rw [hc, t]
  have q := i32_toInt (i := 63488 + k) (by omega)
  simp only [Bm, Int32.lt_iff_toInt_lt, ti_z, ti_a, ti_c, ti_e, q]
  omega
theorem cpv {h l : Int32} (hh : Hi h) (hl : Lo l) : (57343 : Int32) < (h <<< ((10 : Int32) &&& 31) + l) + (-56613888 : Int32) ∧ ¬ (h <<< ((10 : Int32) &&& 31) + l) + (-56613888 : Int32) < (65536 : Int32) ∧ ¬ (h <<< ((10 : Int32) &&& 31) + l) + (-56613888 : Int32) < (55296 : Int32) := by
  obtain ⟨h1, h2⟩ := hh
  obtain ⟨h3, h4⟩ := hl
  have s := c_ishl h 10 10 (by decide)
  have rs := rng32 (h <<< ((10 : Int32) &&& 31))
  have a1 := c_iadd (h <<< ((10 : Int32) &&& 31)) l
  have r1 := rng32 (h <<< ((10 : Int32) &&& 31) + l)
  have a2 := c_iadd (h <<< ((10 : Int32) &&& 31) + l) (-56613888)
  have r2 := rng32 ((h <<< ((10 : Int32) &&& 31) + l) + (-56613888 : Int32))
  simp only [Nat.reducePow] at s
  rw [ti_i] at a2
  simp only [Int32.lt_iff_toInt_lt, ti_a, ti_b, ti_c, ti_d, ti_f] at h1 h2 h3 h4 ⊢
  omega
/-- cs is n code points, none of them a lone surrogate -/
def Wf : Nat → List Int32 → Prop
  | 0, cs => cs = []
  | n + 1, cs => (∃ x t, cs = x :: t ∧ Bm x ∧ Wf n t) ∨ (∃ h l t, cs = h :: l :: t ∧ Hi h ∧ Lo l ∧ Wf n t)
theorem Wf.b {n : Nat} {x : Int32} {t : List Int32} (h : Bm x) (w : Wf n t) : Wf (n + 1) (x :: t) := Or.inl ⟨x, t, rfl, h, w⟩
theorem Wf.p {n : Nat} {x y : Int32} {t : List Int32} (h : Hi x) (h' : Lo y) (w : Wf n t) : Wf (n + 1) (x :: y :: t) := Or.inr ⟨x, y, t, rfl, h, h', w⟩
theorem Wf.chr : ∀ {n : Nat} {cs : List Int32}, Wf n cs → Chr cs
  | 0, _, h => by
    obtain rfl : _ = [] := h
    exact Chr.nil
  | n + 1, _, h => by
    rcases h with ⟨x, t, rfl, hb, w⟩ | ⟨x, y, t, rfl, h1, h2, w⟩
    · exact Chr.cons hb.1 w.chr
    · exact Chr.cons h1.chr (Chr.cons h2.chr w.chr)
theorem Wf.len : ∀ {n : Nat} {cs : List Int32}, Wf n cs → n ≤ cs.length ∧ cs.length ≤ 2 * n
  | 0, _, h => by
    obtain rfl : _ = [] := h
    exact ⟨Nat.le_refl _, Nat.le_refl _⟩
  | n + 1, _, h => by
    rcases h with ⟨x, t, rfl, hb, w⟩ | ⟨x, y, t, rfl, h1, h2, w⟩
    · have := w.len; simp only [List.length_cons]; omega
    · have := w.len; simp only [List.length_cons]; omega
theorem Wf.bms : ∀ {l : List Int32}, (∀ x ∈ l, Bm x) → Wf l.length l
  | [], _ => rfl
  | x :: t, h => Wf.b (h x (by simp)) (Wf.bms fun y hy => h y (by simp [hy]))
theorem drop1 {cs : List Int32} {i : Nat} {x : Int32} {t : List Int32} (e : cs.drop i = x :: t) : cs[i]? = some x ∧ cs.drop (i + 1) = t ∧ i + 1 ≤ cs.length := by
  have h0 : (cs.drop i)[0]? = some x := by rw [e]; rfl
  have h1 : (cs.drop i).length = t.length + 1 := by rw [e]; rfl
  have h2 := congrArg (List.drop 1) e
  rw [List.getElem?_drop] at h0
  rw [List.length_drop] at h1
  rw [List.drop_drop] at h2
  refine ⟨by simpa using h0, ?_, by omega⟩
  simpa [Nat.add_comm] using h2
theorem bm_set {l : List Int32} {j : Nat} {y : Int32} (h : ∀ x ∈ l, Bm x) (hy : Bm y) : ∀ x ∈ l.set j y, Bm x := fun x hx => by
  rcases List.mem_or_eq_of_mem_set hx with q | q
  · exact h x q
  · rw [q]; exact hy
theorem bm_rep (n : Nat) : ∀ x ∈ List.replicate n (0 : Int32), Bm x := fun x hx => by rw [(List.mem_replicate.mp hx).2]; exact Bm.zero
theorem big_a {x y : Int32} (hx : Bm x) (hy : Bm y) : Wf 200 (((List.replicate 200 (0 : Int32)).set 0 x).set 199 y) := by
  have h := Wf.bms (bm_set (j := 199) (bm_set (j := 0) (bm_rep 200) hx) hy)
  rwa [List.length_set, List.length_set, List.length_replicate] at h
theorem big_b {x y z : Int32} (hx : Hi x) (hy : Lo y) (hz : Bm z) : Wf 200 ((((List.replicate 201 (0 : Int32)).set 0 x).set 1 y).set 200 z) := by
  have e : (((List.replicate 201 (0 : Int32)).set 0 x).set 1 y).set 200 z = x :: y :: (List.replicate 199 (0 : Int32)).set 198 z := by
    rw [show (201 : Nat) = 199 + 1 + 1 from rfl, List.replicate_succ, List.replicate_succ, List.set_cons_zero, List.set_cons_succ, List.set_cons_zero, List.set_cons_succ, List.set_cons_succ]
  rw [e]
  have h := Wf.bms (bm_set (j := 198) (bm_rep 199) hz)
  rw [List.length_set, List.length_replicate] at h
  exact Wf.p hx hy h
theorem chV_set {l : List Int32} {j : Nat} {y : Int32} : (chV l).set j (.int y) = chV (l.set j y) := by rw [chV, chV, List.map_set]
theorem chV_rep (n : Nat) : List.replicate n (defaultValue .char) = chV (List.replicate n (0 : Int32)) := by rw [chV, List.map_replicate]; rfl
theorem i32_an (a b : Nat) : a.toInt32 + b.toInt32 = (a + b).toInt32 := by
  show Int32.ofNat a + Int32.ofNat b = Int32.ofNat (a + b)
  rw [Int32.ofNat_add]
theorem le200 {k : Nat} (h : k ≤ 200) : ¬ (200 : Int32) < k.toInt32 := by
  have q := i32_toInt (i := k) (by omega)
  simp only [Int32.lt_iff_toInt_lt, ti_j, q]
  omega
theorem pn_14 : plainName "com/example/hermit_crab/hermitcrab/LockOptionsCheckNamePinLaw" = true := by first | (simp [plainName, overriddenIn]; done) | decide +kernel
theorem d_method_2_code_0 : decode method_2_code 0 = .ok (.iload_n 0, 1) := by decide +kernel
theorem d_method_2_code_1 : decode method_2_code 1 = .ok (.iconst 1, 1) := by decide +kernel
theorem d_method_2_code_2 : decode method_2_code 2 = .ok (.iushr, 1) := by decide +kernel
theorem d_method_2_code_3 : decode method_2_code 3 = .ok (.ldc 7, 2) := by decide +kernel
theorem w_8 {Z : State} {a0 : Array Value} (G : Cl Z a0) : (Jvm.Cond.constant "com/example/hermit_crab/hermitcrab/LockOptionsCheckNamePinLaw" 7 (65535)).before a0 Z = true := G.1 _ (List.mem_of_getElem? (l := tables_1) (i := 8) rfl)
theorem d_method_2_code_5 : decode method_2_code 5 = .ok (.iand, 1) := by decide +kernel
theorem d_method_2_code_6 : decode method_2_code 6 = .ok (.istore_n 1, 1) := by decide +kernel
theorem d_method_2_code_7 : decode method_2_code 7 = .ok (.iload_n 1, 1) := by decide +kernel
theorem d_method_2_code_8 : decode method_2_code 8 = .ok (.ldc 8, 2) := by decide +kernel
theorem w_9 {Z : State} {a0 : Array Value} (G : Cl Z a0) : (Jvm.Cond.constant "com/example/hermit_crab/hermitcrab/LockOptionsCheckNamePinLaw" 8 (55296)).before a0 Z = true := G.1 _ (List.mem_of_getElem? (l := tables_1) (i := 9) rfl)
theorem d_method_2_code_10 : decode method_2_code 10 = .ok (.if_icmp .lt 15, 3) := by decide +kernel
theorem d_method_2_code_25 : decode method_2_code 25 = .ok (.iload_n 1, 1) := by decide +kernel
theorem d_method_2_code_26 : decode method_2_code 26 = .ok (.i2c, 1) := by decide +kernel
theorem d_method_2_code_27 : decode method_2_code 27 = .ok (.ireturn, 1) := by decide +kernel
theorem d_method_2_code_13 : decode method_2_code 13 = .ok (.iload_n 1, 1) := by decide +kernel
theorem d_method_2_code_14 : decode method_2_code 14 = .ok (.ldc 9, 2) := by decide +kernel
theorem w_135 {Z : State} {a0 : Array Value} (G : Cl Z a0) : (Jvm.Cond.constant "com/example/hermit_crab/hermitcrab/LockOptionsCheckNamePinLaw" 9 (57343)).before a0 Z = true := G.1 _ (List.mem_of_getElem? (l := tables_1) (i := 135) rfl)
theorem d_method_2_code_16 : decode method_2_code 16 = .ok (.if_icmp .gt 9, 3) := by decide +kernel
theorem d_method_2_code_19 : decode method_2_code 19 = .ok (.iload_n 1, 1) := by decide +kernel
theorem d_method_2_code_20 : decode method_2_code 20 = .ok (.sipush 8192, 3) := by decide +kernel
theorem d_method_2_code_23 : decode method_2_code 23 = .ok (.ixor, 1) := by decide +kernel
theorem d_method_2_code_24 : decode method_2_code 24 = .ok (.istore_n 1, 1) := by decide +kernel
set_option maxRecDepth 65536 in
set_option maxHeartbeats 40000000 in
theorem rm_bmp {l : Launch} {Z : State} {a0 : Array Value} (G : Cl Z a0) (x : Int32) :
    Met l Z EL1 (⟨"com/example/hermit_crab/hermitcrab/LockOptionsCheckNamePinLaw", "bmp", "(I)C"⟩ : MethodName) method_2_code 2 (some .char) ({ frames := 0, cells := 0, slots := 0, locals := 0 } : Room) #[.int x] [] [] (fun v σ ρ => ∃ y, v = some (.int y) ∧ Bm y ∧ σ = [] ∧ ρ = []) := by
  refine Met.walk G.2.1 pn_14 #[.val (.int x), .unset] (fun m => by first | (simp [entryFrame, mkF, argsToLocals, Value.category]; done) | rfl) ?_
  intro X T0 W0
  refine Go.iloadN (pc' := 1) W0 d_method_2_code_0 rfl rfl ?_
  refine Go.iconst (pc' := 2) W0 (1 : Int32) d_method_2_code_1 (by decide) rfl ?_
  refine Go.iushr (pc' := 3) W0 d_method_2_code_2 rfl ?_
  refine Go.ldcInt (pc' := 5) W0 (w_8 G) d_method_2_code_3 rfl ?_
  refine Go.iand (pc' := 6) W0 d_method_2_code_5 rfl ?_
  refine Go.istoreN (pc' := 7) W0 #[.val (.int x), .val (.int ((x.toUInt32 >>> ((1 : Int32) &&& 31).toUInt32).toInt32 &&& (65535 : Int32)))] d_method_2_code_6 rfl rfl ?_
  refine Go.iloadN (pc' := 8) W0 d_method_2_code_7 rfl rfl ?_
  refine Go.ldcInt (pc' := 10) W0 (w_9 G) d_method_2_code_8 rfl ?_
  refine Go.icmp_lt (pc' := 13) W0 25 d_method_2_code_10 (by decide) rfl (fun (c1 : ((x.toUInt32 >>> ((1 : Int32) &&& 31).toUInt32).toInt32 &&& (65535 : Int32)) < (55296 : Int32)) => ?_) (fun (c1 : ¬ (((x.toUInt32 >>> ((1 : Int32) &&& 31).toUInt32).toInt32 &&& (65535 : Int32)) < (55296 : Int32))) => ?_)
  · refine Go.iloadN (pc' := 26) W0 d_method_2_code_25 rfl rfl ?_
    refine Go.i2c (pc' := 27) W0 d_method_2_code_26 rfl ?_
    rw [i2c_id (andchr _ _ (by decide) (by decide)).1 (andchr _ _ (by decide) (by decide)).2]
    refine Go.nret (z' := (x.toUInt32 >>> ((1 : Int32) &&& 31).toUInt32).toInt32 &&& (65535 : Int32)) W0 (by simp) (nar_char_id (andchr _ _ (by decide) (by decide))) d_method_2_code_27 (by first | exact Nat.le_of_ble_eq_true rfl | (simp; done) | (simp; omega) | omega) (by first | exact Nat.le_of_ble_eq_true rfl | (simp; done) | (simp; omega) | omega) ?_
    exact ⟨_, rfl, ⟨(andchr _ _ (by decide) (by decide)), Or.inl c1⟩, rfl, rfl⟩
  · refine Go.iloadN (pc' := 14) W0 d_method_2_code_13 rfl rfl ?_
    refine Go.ldcInt (pc' := 16) W0 (w_135 G) d_method_2_code_14 rfl ?_
    refine Go.icmp_gt (pc' := 19) W0 25 d_method_2_code_16 (by decide) rfl (fun (c2 : (57343 : Int32) < ((x.toUInt32 >>> ((1 : Int32) &&& 31).toUInt32).toInt32 &&& (65535 : Int32))) => ?_) (fun (c2 : ¬ ((57343 : Int32) < ((x.toUInt32 >>> ((1 : Int32) &&& 31).toUInt32).toInt32 &&& (65535 : Int32)))) => ?_)
    · refine Go.iloadN (pc' := 26) W0 d_method_2_code_25 rfl rfl ?_
      refine Go.i2c (pc' := 27) W0 d_method_2_code_26 rfl ?_
      rw [i2c_id (andchr _ _ (by decide) (by decide)).1 (andchr _ _ (by decide) (by decide)).2]
      refine Go.nret (z' := (x.toUInt32 >>> ((1 : Int32) &&& 31).toUInt32).toInt32 &&& (65535 : Int32)) W0 (by simp) (nar_char_id (andchr _ _ (by decide) (by decide))) d_method_2_code_27 (by first | exact Nat.le_of_ble_eq_true rfl | (simp; done) | (simp; omega) | omega) (by first | exact Nat.le_of_ble_eq_true rfl | (simp; done) | (simp; omega) | omega) ?_
      exact ⟨_, rfl, ⟨(andchr _ _ (by decide) (by decide)), Or.inr c2⟩, rfl, rfl⟩
    · refine Go.iloadN (pc' := 20) W0 d_method_2_code_19 rfl rfl ?_
      refine Go.sipush (pc' := 23) W0 (8192 : Int32) d_method_2_code_20 (by decide) rfl ?_
      refine Go.ixor (pc' := 24) W0 d_method_2_code_23 rfl ?_
      refine Go.istoreN (pc' := 25) W0 #[.val (.int x), .val (.int (((x.toUInt32 >>> ((1 : Int32) &&& 31).toUInt32).toInt32 &&& (65535 : Int32)) ^^^ (8192 : Int32)))] d_method_2_code_24 rfl rfl ?_
      refine Go.iloadN (pc' := 26) W0 d_method_2_code_25 rfl rfl ?_
      refine Go.i2c (pc' := 27) W0 d_method_2_code_26 rfl ?_
      rw [i2c_id (xo c1 c2).1.1 (xo c1 c2).1.2]
      refine Go.nret (z' := ((x.toUInt32 >>> ((1 : Int32) &&& 31).toUInt32).toInt32 &&& (65535 : Int32)) ^^^ (8192 : Int32)) W0 (by simp) (nar_char_id (xo c1 c2).1) d_method_2_code_27 (by first | exact Nat.le_of_ble_eq_true rfl | (simp; done) | (simp; omega) | omega) (by first | exact Nat.le_of_ble_eq_true rfl | (simp; done) | (simp; omega) | omega) ?_
      exact ⟨_, rfl, xo c1 c2, rfl, rfl⟩
theorem d_method_3_code_0 : decode method_3_code 0 = .ok (.ldc 8, 2) := by decide +kernel
theorem d_method_3_code_2 : decode method_3_code 2 = .ok (.iload_n 0, 1) := by decide +kernel
theorem d_method_3_code_3 : decode method_3_code 3 = .ok (.iconst 1, 1) := by decide +kernel
theorem d_method_3_code_4 : decode method_3_code 4 = .ok (.iushr, 1) := by decide +kernel
theorem d_method_3_code_5 : decode method_3_code 5 = .ok (.sipush 1023, 3) := by decide +kernel
theorem d_method_3_code_8 : decode method_3_code 8 = .ok (.iand, 1) := by decide +kernel
theorem d_method_3_code_9 : decode method_3_code 9 = .ok (.iadd, 1) := by decide +kernel
theorem d_method_3_code_10 : decode method_3_code 10 = .ok (.i2c, 1) := by decide +kernel
theorem d_method_3_code_11 : decode method_3_code 11 = .ok (.ireturn, 1) := by decide +kernel
set_option maxRecDepth 65536 in
set_option maxHeartbeats 40000000 in
theorem rm_hig {l : Launch} {Z : State} {a0 : Array Value} (G : Cl Z a0) (x : Int32) :
    Met l Z EL1 (⟨"com/example/hermit_crab/hermitcrab/LockOptionsCheckNamePinLaw", "high", "(I)C"⟩ : MethodName) method_3_code 1 (some .char) ({ frames := 0, cells := 0, slots := 0, locals := 0 } : Room) #[.int x] [] [] (fun v σ ρ => ∃ y, v = some (.int y) ∧ Hi y ∧ σ = [] ∧ ρ = []) := by
  refine Met.walk G.2.1 pn_14 #[.val (.int x)] (fun m => by first | (simp [entryFrame, mkF, argsToLocals, Value.category]; done) | rfl) ?_
  intro X T0 W0
  refine Go.ldcInt (pc' := 2) W0 (w_9 G) d_method_3_code_0 rfl ?_
  refine Go.iloadN (pc' := 3) W0 d_method_3_code_2 rfl rfl ?_
  refine Go.iconst (pc' := 4) W0 (1 : Int32) d_method_3_code_3 (by decide) rfl ?_
  refine Go.iushr (pc' := 5) W0 d_method_3_code_4 rfl ?_
  refine Go.sipush (pc' := 8) W0 (1023 : Int32) d_method_3_code_5 (by decide) rfl ?_
  refine Go.iand (pc' := 9) W0 d_method_3_code_8 rfl ?_
  refine Go.iadd (pc' := 10) W0 d_method_3_code_9 rfl ?_
  refine Go.i2c (pc' := 11) W0 d_method_3_code_10 rfl ?_
  rw [i2c_id (hiv _).chr.1 (hiv _).chr.2]
  refine Go.nret (z' := (55296 : Int32) + ((x.toUInt32 >>> ((1 : Int32) &&& 31).toUInt32).toInt32 &&& (1023 : Int32))) W0 (by simp) (nar_char_id (hiv _).chr) d_method_3_code_11 (by first | exact Nat.le_of_ble_eq_true rfl | (simp; done) | (simp; omega) | omega) (by first | exact Nat.le_of_ble_eq_true rfl | (simp; done) | (simp; omega) | omega) ?_
  exact ⟨_, rfl, hiv _, rfl, rfl⟩
theorem d_method_4_code_0 : decode method_4_code 0 = .ok (.ldc 10, 2) := by decide +kernel
theorem w_16 {Z : State} {a0 : Array Value} (G : Cl Z a0) : (Jvm.Cond.constant "com/example/hermit_crab/hermitcrab/LockOptionsCheckNamePinLaw" 10 (56320)).before a0 Z = true := G.1 _ (List.mem_of_getElem? (l := tables_1) (i := 16) rfl)
theorem d_method_4_code_2 : decode method_4_code 2 = .ok (.iload_n 0, 1) := by decide +kernel
theorem d_method_4_code_3 : decode method_4_code 3 = .ok (.bipush 11, 2) := by decide +kernel
theorem d_method_4_code_5 : decode method_4_code 5 = .ok (.iushr, 1) := by decide +kernel
theorem d_method_4_code_6 : decode method_4_code 6 = .ok (.sipush 1023, 3) := by decide +kernel
theorem d_method_4_code_9 : decode method_4_code 9 = .ok (.iand, 1) := by decide +kernel
theorem d_method_4_code_10 : decode method_4_code 10 = .ok (.iadd, 1) := by decide +kernel
theorem d_method_4_code_11 : decode method_4_code 11 = .ok (.i2c, 1) := by decide +kernel
theorem d_method_4_code_12 : decode method_4_code 12 = .ok (.ireturn, 1) := by decide +kernel
set_option maxRecDepth 65536 in
set_option maxHeartbeats 40000000 in
theorem rm_low {l : Launch} {Z : State} {a0 : Array Value} (G : Cl Z a0) (x : Int32) :
    Met l Z EL1 (⟨"com/example/hermit_crab/hermitcrab/LockOptionsCheckNamePinLaw", "low", "(I)C"⟩ : MethodName) method_4_code 1 (some .char) ({ frames := 0, cells := 0, slots := 0, locals := 0 } : Room) #[.int x] [] [] (fun v σ ρ => ∃ y, v = some (.int y) ∧ Lo y ∧ σ = [] ∧ ρ = []) := by
  refine Met.walk G.2.1 pn_14 #[.val (.int x)] (fun m => by first | (simp [entryFrame, mkF, argsToLocals, Value.category]; done) | rfl) ?_
  intro X T0 W0
  refine Go.ldcInt (pc' := 2) W0 (w_16 G) d_method_4_code_0 rfl ?_
  refine Go.iloadN (pc' := 3) W0 d_method_4_code_2 rfl rfl ?_
  refine Go.bipush (pc' := 5) W0 (11 : Int32) d_method_4_code_3 (by decide) rfl ?_
  refine Go.iushr (pc' := 6) W0 d_method_4_code_5 rfl ?_
  refine Go.sipush (pc' := 9) W0 (1023 : Int32) d_method_4_code_6 (by decide) rfl ?_
  refine Go.iand (pc' := 10) W0 d_method_4_code_9 rfl ?_
  refine Go.iadd (pc' := 11) W0 d_method_4_code_10 rfl ?_
  refine Go.i2c (pc' := 12) W0 d_method_4_code_11 rfl ?_
  rw [i2c_id (lov _).chr.1 (lov _).chr.2]
  refine Go.nret (z' := (56320 : Int32) + ((x.toUInt32 >>> ((11 : Int32) &&& 31).toUInt32).toInt32 &&& (1023 : Int32))) W0 (by simp) (nar_char_id (lov _).chr) d_method_4_code_12 (by first | exact Nat.le_of_ble_eq_true rfl | (simp; done) | (simp; omega) | omega) (by first | exact Nat.le_of_ble_eq_true rfl | (simp; done) | (simp; omega) | omega) ?_
  exact ⟨_, rfl, lov _, rfl, rfl⟩
theorem d_method_5_code_0 : decode method_5_code 0 = .ok (.iload_n 2, 1) := by decide +kernel
theorem d_method_5_code_1 : decode method_5_code 1 = .ok (.iconst 1, 1) := by decide +kernel
theorem d_method_5_code_2 : decode method_5_code 2 = .ok (.iand, 1) := by decide +kernel
theorem d_method_5_code_3 : decode method_5_code 3 = .ok (.ifCond .ne 14, 3) := by decide +kernel
theorem d_method_5_code_6 : decode method_5_code 6 = .ok (.aload_n 0, 1) := by decide +kernel
theorem d_method_5_code_7 : decode method_5_code 7 = .ok (.iload_n 1, 1) := by decide +kernel
theorem d_method_5_code_8 : decode method_5_code 8 = .ok (.iload_n 2, 1) := by decide +kernel
theorem d_method_5_code_9 : decode method_5_code 9 = .ok (.invokestatic 11, 3) := by decide +kernel
theorem w_5 {Z : State} {a0 : Array Value} (G : Cl Z a0) : (Jvm.Cond.methodLink "com/example/hermit_crab/hermitcrab/LockOptionsCheckNamePinLaw" 11 (⟨"com/example/hermit_crab/hermitcrab/LockOptionsCheckNamePinLaw", "bmp", "(I)C"⟩ : MethodName)).before a0 Z = true := G.1 _ (List.mem_of_getElem? (l := tables_1) (i := 5) rfl)
theorem w_3 {Z : State} {a0 : Array Value} (G : Cl Z a0) : (Jvm.Cond.initialized "com/example/hermit_crab/hermitcrab/LockOptionsCheckNamePinLaw").before a0 Z = true := G.1 _ (List.mem_of_getElem? (l := tables_1) (i := 3) rfl)
theorem w_7 {Z : State} {a0 : Array Value} (G : Cl Z a0) : (Jvm.Cond.code (⟨"com/example/hermit_crab/hermitcrab/LockOptionsCheckNamePinLaw", "bmp", "(I)C"⟩ : MethodName) method_2_code 2 (some .char)).before a0 Z = true := G.1 _ (List.mem_of_getElem? (l := tables_1) (i := 7) rfl)
theorem pd_15 : parseMethodDescriptor "(I)C" = some ⟨[.int], some .char⟩ := by decide +kernel
theorem w_6 {Z : State} {a0 : Array Value} (G : Cl Z a0) : (Jvm.Cond.static (⟨"com/example/hermit_crab/hermitcrab/LockOptionsCheckNamePinLaw", "bmp", "(I)C"⟩ : MethodName)).before a0 Z = true := G.1 _ (List.mem_of_getElem? (l := tables_1) (i := 6) rfl)
theorem d_method_5_code_12 : decode method_5_code 12 = .ok (.castore, 1) := by decide +kernel
theorem d_method_5_code_13 : decode method_5_code 13 = .ok (.iload_n 1, 1) := by decide +kernel
theorem d_method_5_code_14 : decode method_5_code 14 = .ok (.iconst 1, 1) := by decide +kernel
theorem d_method_5_code_15 : decode method_5_code 15 = .ok (.iadd, 1) := by decide +kernel
theorem d_method_5_code_16 : decode method_5_code 16 = .ok (.ireturn, 1) := by decide +kernel
set_option maxRecDepth 65536 in
set_option maxHeartbeats 40000000 in
theorem rm_pb_A {l : Launch} {Z : State} {a0 : Array Value} (G : Cl Z a0) (t : Addr) (ct : Cell) (ea eb ec ed ee ef x : Int32) (A : ArrC Z ct .char [(.int ea), (.int eb), (.int ec), (.int ed), (.int ee), (.int ef)]) (h : (x &&& (1 : Int32)) = 0) :
    Met l Z EL1 (⟨"com/example/hermit_crab/hermitcrab/LockOptionsCheckNamePinLaw", "put", "([CII)I"⟩ : MethodName) method_5_code 3 (some .int) ({ frames := 1, cells := 0, slots := 0, locals := 15 } : Room) #[.ref t, .int (0 : Int32), .int x] [(t, ct)] [] (fun v σ ρ => ∃ ct' y, v = some (.int 1) ∧ σ = [(t, ct')] ∧ ρ = [] ∧ Bm y ∧ ArrC Z ct' .char [(.int y), (.int eb), (.int ec), (.int ed), (.int ee), (.int ef)]) := by
  refine Met.walk G.2.1 pn_14 #[.val (.ref t), .val (.int (0 : Int32)), .val (.int x)] (fun m => by first | (simp [entryFrame, mkF, argsToLocals, Value.category]; done) | rfl) ?_
  intro X T0 W0
  refine Go.iloadN (pc' := 1) W0 d_method_5_code_0 rfl rfl ?_
  refine Go.iconst (pc' := 2) W0 (1 : Int32) d_method_5_code_1 (by decide) rfl ?_
  refine Go.iand (pc' := 3) W0 d_method_5_code_2 rfl ?_
  refine Go.if_ne (pc' := 6) W0 17 d_method_5_code_3 (by decide) rfl (fun q => absurd h q) (fun _ => ?_)
  refine Go.aloadN (pc' := 7) W0 d_method_5_code_6 rfl rfl rfl ?_
  refine Go.iloadN (pc' := 8) W0 d_method_5_code_7 rfl rfl ?_
  refine Go.iloadN (pc' := 9) W0 d_method_5_code_8 rfl rfl ?_
  refine Go.static (pc' := 12) W0 (rm_bmp G x) (w_5 G) (w_6 G) (w_3 G) (w_7 G) (by decide) [] [] (σf := [(t, ct)]) rfl rfl [(.int x)] [(.int (0 : Int32)), (.ref t)] rfl (lenOf pd_15 rfl) rfl rfl d_method_5_code_9 rfl (by first | exact Nat.le_of_ble_eq_true rfl | (simp; done) | (simp; omega) | omega) (by first | exact Nat.le_of_ble_eq_true rfl | (simp; done) | (simp; omega) | omega) (by first | exact Nat.le_of_ble_eq_true rfl | (simp; done) | (simp; omega) | omega) (by first | exact Nat.le_of_ble_eq_true rfl | (simp; done) | (simp; omega) | omega) ?_
  rintro _ _ _ T3 ⟨y1, rfl, h2, rfl, rfl⟩ W4
  replace W4 : Wk l Z EL1 ({ frames := 1, cells := 0, slots := 0, locals := 15 } : Room) "com/example/hermit_crab/hermitcrab/LockOptionsCheckNamePinLaw" method_5_code 3 (some .int) "put" X [(t, ct)] [] T3 0 (0) := W4
  show Go Z EL1 _ _ _ X T3 12 #[.val (.ref t), .val (.int (0 : Int32)), .val (.int x)] [(.int y1), (.int (0 : Int32)), (.ref t)]
  refine Go.castore (pc' := 13) W4 0 rfl A 0 y1 (nar_char_id h2.1) (by decide) (by decide) (by simp) d_method_5_code_12 rfl (fun T5 c7 W6 A8 => ?_)
  replace W6 : Wk l Z EL1 ({ frames := 1, cells := 0, slots := 0, locals := 15 } : Room) "com/example/hermit_crab/hermitcrab/LockOptionsCheckNamePinLaw" method_5_code 3 (some .int) "put" X [(t, c7)] [] T5 0 (0) := W6
  replace A8 : ArrC Z c7 .char [(.int y1), (.int eb), (.int ec), (.int ed), (.int ee), (.int ef)] := A8
  refine Go.iloadN (pc' := 14) W6 d_method_5_code_13 rfl rfl ?_
  refine Go.iconst (pc' := 15) W6 (1 : Int32) d_method_5_code_14 (by decide) rfl ?_
  refine Go.iadd (pc' := 16) W6 d_method_5_code_15 rfl ?_
  rw [show ((0 : Int32) + (1 : Int32) : Int32) = (1 : Int32) from by decide]
  refine Go.iret W6 d_method_5_code_16 (by first | exact Nat.le_of_ble_eq_true rfl | (simp; done) | (simp; omega) | omega) (by first | exact Nat.le_of_ble_eq_true rfl | (simp; done) | (simp; omega) | omega) ?_
  exact ⟨c7, y1, rfl, rfl, rfl, h2, A8⟩
theorem d_method_5_code_17 : decode method_5_code 17 = .ok (.aload_n 0, 1) := by decide +kernel
theorem d_method_5_code_18 : decode method_5_code 18 = .ok (.iload_n 1, 1) := by decide +kernel
theorem d_method_5_code_19 : decode method_5_code 19 = .ok (.iload_n 2, 1) := by decide +kernel
theorem d_method_5_code_20 : decode method_5_code 20 = .ok (.invokestatic 17, 3) := by decide +kernel
theorem w_10 {Z : State} {a0 : Array Value} (G : Cl Z a0) : (Jvm.Cond.methodLink "com/example/hermit_crab/hermitcrab/LockOptionsCheckNamePinLaw" 17 (⟨"com/example/hermit_crab/hermitcrab/LockOptionsCheckNamePinLaw", "high", "(I)C"⟩ : MethodName)).before a0 Z = true := G.1 _ (List.mem_of_getElem? (l := tables_1) (i := 10) rfl)
theorem w_12 {Z : State} {a0 : Array Value} (G : Cl Z a0) : (Jvm.Cond.code (⟨"com/example/hermit_crab/hermitcrab/LockOptionsCheckNamePinLaw", "high", "(I)C"⟩ : MethodName) method_3_code 1 (some .char)).before a0 Z = true := G.1 _ (List.mem_of_getElem? (l := tables_1) (i := 12) rfl)
theorem w_11 {Z : State} {a0 : Array Value} (G : Cl Z a0) : (Jvm.Cond.static (⟨"com/example/hermit_crab/hermitcrab/LockOptionsCheckNamePinLaw", "high", "(I)C"⟩ : MethodName)).before a0 Z = true := G.1 _ (List.mem_of_getElem? (l := tables_1) (i := 11) rfl)
theorem d_method_5_code_23 : decode method_5_code 23 = .ok (.castore, 1) := by decide +kernel
theorem d_method_5_code_24 : decode method_5_code 24 = .ok (.aload_n 0, 1) := by decide +kernel
theorem d_method_5_code_25 : decode method_5_code 25 = .ok (.iload_n 1, 1) := by decide +kernel
theorem d_method_5_code_26 : decode method_5_code 26 = .ok (.iconst 1, 1) := by decide +kernel
theorem d_method_5_code_27 : decode method_5_code 27 = .ok (.iadd, 1) := by decide +kernel
theorem d_method_5_code_28 : decode method_5_code 28 = .ok (.iload_n 2, 1) := by decide +kernel
theorem d_method_5_code_29 : decode method_5_code 29 = .ok (.invokestatic 20, 3) := by decide +kernel
theorem w_13 {Z : State} {a0 : Array Value} (G : Cl Z a0) : (Jvm.Cond.methodLink "com/example/hermit_crab/hermitcrab/LockOptionsCheckNamePinLaw" 20 (⟨"com/example/hermit_crab/hermitcrab/LockOptionsCheckNamePinLaw", "low", "(I)C"⟩ : MethodName)).before a0 Z = true := G.1 _ (List.mem_of_getElem? (l := tables_1) (i := 13) rfl)
theorem w_15 {Z : State} {a0 : Array Value} (G : Cl Z a0) : (Jvm.Cond.code (⟨"com/example/hermit_crab/hermitcrab/LockOptionsCheckNamePinLaw", "low", "(I)C"⟩ : MethodName) method_4_code 1 (some .char)).before a0 Z = true := G.1 _ (List.mem_of_getElem? (l := tables_1) (i := 15) rfl)
theorem w_14 {Z : State} {a0 : Array Value} (G : Cl Z a0) : (Jvm.Cond.static (⟨"com/example/hermit_crab/hermitcrab/LockOptionsCheckNamePinLaw", "low", "(I)C"⟩ : MethodName)).before a0 Z = true := G.1 _ (List.mem_of_getElem? (l := tables_1) (i := 14) rfl)
theorem d_method_5_code_32 : decode method_5_code 32 = .ok (.castore, 1) := by decide +kernel
theorem d_method_5_code_33 : decode method_5_code 33 = .ok (.iload_n 1, 1) := by decide +kernel
theorem d_method_5_code_34 : decode method_5_code 34 = .ok (.iconst 2, 1) := by decide +kernel
theorem d_method_5_code_35 : decode method_5_code 35 = .ok (.iadd, 1) := by decide +kernel
theorem d_method_5_code_36 : decode method_5_code 36 = .ok (.ireturn, 1) := by decide +kernel
set_option maxRecDepth 65536 in
set_option maxHeartbeats 40000000 in
theorem rm_pp_A {l : Launch} {Z : State} {a0 : Array Value} (G : Cl Z a0) (t : Addr) (ct : Cell) (ea eb ec ed ee ef x : Int32) (A : ArrC Z ct .char [(.int ea), (.int eb), (.int ec), (.int ed), (.int ee), (.int ef)]) (h : ¬ (x &&& (1 : Int32)) = 0) :
    Met l Z EL1 (⟨"com/example/hermit_crab/hermitcrab/LockOptionsCheckNamePinLaw", "put", "([CII)I"⟩ : MethodName) method_5_code 3 (some .int) ({ frames := 1, cells := 0, slots := 0, locals := 15 } : Room) #[.ref t, .int (0 : Int32), .int x] [(t, ct)] [] (fun v σ ρ => ∃ ct' y z, v = some (.int 2) ∧ σ = [(t, ct')] ∧ ρ = [] ∧ Hi y ∧ Lo z ∧ ArrC Z ct' .char [(.int y), (.int z), (.int ec), (.int ed), (.int ee), (.int ef)]) := by
  refine Met.walk G.2.1 pn_14 #[.val (.ref t), .val (.int (0 : Int32)), .val (.int x)] (fun m => by first | (simp [entryFrame, mkF, argsToLocals, Value.category]; done) | rfl) ?_
  intro X T0 W0
  refine Go.iloadN (pc' := 1) W0 d_method_5_code_0 rfl rfl ?_
  refine Go.iconst (pc' := 2) W0 (1 : Int32) d_method_5_code_1 (by decide) rfl ?_
  refine Go.iand (pc' := 3) W0 d_method_5_code_2 rfl ?_
  refine Go.if_ne (pc' := 6) W0 17 d_method_5_code_3 (by decide) rfl (fun _ => ?_) (fun q => absurd q h)
  refine Go.aloadN (pc' := 18) W0 d_method_5_code_17 rfl rfl rfl ?_
  refine Go.iloadN (pc' := 19) W0 d_method_5_code_18 rfl rfl ?_
  refine Go.iloadN (pc' := 20) W0 d_method_5_code_19 rfl rfl ?_
  refine Go.static (pc' := 23) W0 (rm_hig G x) (w_10 G) (w_11 G) (w_3 G) (w_12 G) (by decide) [] [] (σf := [(t, ct)]) rfl rfl [(.int x)] [(.int (0 : Int32)), (.ref t)] rfl (lenOf pd_15 rfl) rfl rfl d_method_5_code_20 rfl (by first | exact Nat.le_of_ble_eq_true rfl | (simp; done) | (simp; omega) | omega) (by first | exact Nat.le_of_ble_eq_true rfl | (simp; done) | (simp; omega) | omega) (by first | exact Nat.le_of_ble_eq_true rfl | (simp; done) | (simp; omega) | omega) (by first | exact Nat.le_of_ble_eq_true rfl | (simp; done) | (simp; omega) | omega) ?_
  rintro _ _ _ T3 ⟨y1, rfl, h2, rfl, rfl⟩ W4
  replace W4 : Wk l Z EL1 ({ frames := 1, cells := 0, slots := 0, locals := 15 } : Room) "com/example/hermit_crab/hermitcrab/LockOptionsCheckNamePinLaw" method_5_code 3 (some .int) "put" X [(t, ct)] [] T3 0 (0) := W4
  show Go Z EL1 _ _ _ X T3 23 #[.val (.ref t), .val (.int (0 : Int32)), .val (.int x)] [(.int y1), (.int (0 : Int32)), (.ref t)]
  refine Go.castore (pc' := 24) W4 0 rfl A 0 y1 (nar_char_id h2.chr) (by decide) (by decide) (by simp) d_method_5_code_23 rfl (fun T5 c7 W6 A8 => ?_)
  replace W6 : Wk l Z EL1 ({ frames := 1, cells := 0, slots := 0, locals := 15 } : Room) "com/example/hermit_crab/hermitcrab/LockOptionsCheckNamePinLaw" method_5_code 3 (some .int) "put" X [(t, c7)] [] T5 0 (0) := W6
  replace A8 : ArrC Z c7 .char [(.int y1), (.int eb), (.int ec), (.int ed), (.int ee), (.int ef)] := A8
  refine Go.aloadN (pc' := 25) W6 d_method_5_code_24 rfl rfl rfl ?_
  refine Go.iloadN (pc' := 26) W6 d_method_5_code_25 rfl rfl ?_
  refine Go.iconst (pc' := 27) W6 (1 : Int32) d_method_5_code_26 (by decide) rfl ?_
  refine Go.iadd (pc' := 28) W6 d_method_5_code_27 rfl ?_
  rw [show ((0 : Int32) + (1 : Int32) : Int32) = (1 : Int32) from by decide]
  refine Go.iloadN (pc' := 29) W6 d_method_5_code_28 rfl rfl ?_
  refine Go.static (pc' := 32) W6 (rm_low G x) (w_13 G) (w_14 G) (w_3 G) (w_15 G) (by decide) [] [] (σf := [(t, c7)]) rfl rfl [(.int x)] [(.int (1 : Int32)), (.ref t)] rfl (lenOf pd_15 rfl) rfl rfl d_method_5_code_29 rfl (by first | exact Nat.le_of_ble_eq_true rfl | (simp; done) | (simp; omega) | omega) (by first | exact Nat.le_of_ble_eq_true rfl | (simp; done) | (simp; omega) | omega) (by first | exact Nat.le_of_ble_eq_true rfl | (simp; done) | (simp; omega) | omega) (by first | exact Nat.le_of_ble_eq_true rfl | (simp; done) | (simp; omega) | omega) ?_
  rintro _ _ _ T11 ⟨y9, rfl, h10, rfl, rfl⟩ W12
  replace W12 : Wk l Z EL1 ({ frames := 1, cells := 0, slots := 0, locals := 15 } : Room) "com/example/hermit_crab/hermitcrab/LockOptionsCheckNamePinLaw" method_5_code 3 (some .int) "put" X [(t, c7)] [] T11 0 (0) := W12
  show Go Z EL1 _ _ _ X T11 32 #[.val (.ref t), .val (.int (0 : Int32)), .val (.int x)] [(.int y9), (.int (1 : Int32)), (.ref t)]
  refine Go.castore (pc' := 33) W12 0 rfl A8 1 y9 (nar_char_id h10.chr) (by decide) (by decide) (by simp) d_method_5_code_32 rfl (fun T13 c15 W14 A16 => ?_)
  replace W14 : Wk l Z EL1 ({ frames := 1, cells := 0, slots := 0, locals := 15 } : Room) "com/example/hermit_crab/hermitcrab/LockOptionsCheckNamePinLaw" method_5_code 3 (some .int) "put" X [(t, c15)] [] T13 0 (0) := W14
  replace A16 : ArrC Z c15 .char [(.int y1), (.int y9), (.int ec), (.int ed), (.int ee), (.int ef)] := A16
  refine Go.iloadN (pc' := 34) W14 d_method_5_code_33 rfl rfl ?_
  refine Go.iconst (pc' := 35) W14 (2 : Int32) d_method_5_code_34 (by decide) rfl ?_
  refine Go.iadd (pc' := 36) W14 d_method_5_code_35 rfl ?_
  rw [show ((0 : Int32) + (2 : Int32) : Int32) = (2 : Int32) from by decide]
  refine Go.iret W14 d_method_5_code_36 (by first | exact Nat.le_of_ble_eq_true rfl | (simp; done) | (simp; omega) | omega) (by first | exact Nat.le_of_ble_eq_true rfl | (simp; done) | (simp; omega) | omega) ?_
  exact ⟨c15, y1, y9, rfl, rfl, rfl, h2, h10, A16⟩
set_option maxRecDepth 65536 in
set_option maxHeartbeats 40000000 in
theorem rm_pb_B {l : Launch} {Z : State} {a0 : Array Value} (G : Cl Z a0) (t : Addr) (ct : Cell) (ea eb ec ed ee ef x : Int32) (A : ArrC Z ct .char [(.int ea), (.int eb), (.int ec), (.int ed), (.int ee), (.int ef)]) (h : (x &&& (1 : Int32)) = 0) :
    Met l Z EL1 (⟨"com/example/hermit_crab/hermitcrab/LockOptionsCheckNamePinLaw", "put", "([CII)I"⟩ : MethodName) method_5_code 3 (some .int) ({ frames := 1, cells := 0, slots := 0, locals := 15 } : Room) #[.ref t, .int (1 : Int32), .int x] [(t, ct)] [] (fun v σ ρ => ∃ ct' y, v = some (.int 2) ∧ σ = [(t, ct')] ∧ ρ = [] ∧ Bm y ∧ ArrC Z ct' .char [(.int ea), (.int y), (.int ec), (.int ed), (.int ee), (.int ef)]) := by
  refine Met.walk G.2.1 pn_14 #[.val (.ref t), .val (.int (1 : Int32)), .val (.int x)] (fun m => by first | (simp [entryFrame, mkF, argsToLocals, Value.category]; done) | rfl) ?_
  intro X T0 W0
  refine Go.iloadN (pc' := 1) W0 d_method_5_code_0 rfl rfl ?_
  refine Go.iconst (pc' := 2) W0 (1 : Int32) d_method_5_code_1 (by decide) rfl ?_
  refine Go.iand (pc' := 3) W0 d_method_5_code_2 rfl ?_
  refine Go.if_ne (pc' := 6) W0 17 d_method_5_code_3 (by decide) rfl (fun q => absurd h q) (fun _ => ?_)
  refine Go.aloadN (pc' := 7) W0 d_method_5_code_6 rfl rfl rfl ?_
  refine Go.iloadN (pc' := 8) W0 d_method_5_code_7 rfl rfl ?_
  refine Go.iloadN (pc' := 9) W0 d_method_5_code_8 rfl rfl ?_
  refine Go.static (pc' := 12) W0 (rm_bmp G x) (w_5 G) (w_6 G) (w_3 G) (w_7 G) (by decide) [] [] (σf := [(t, ct)]) rfl rfl [(.int x)] [(.int (1 : Int32)), (.ref t)] rfl (lenOf pd_15 rfl) rfl rfl d_method_5_code_9 rfl (by first | exact Nat.le_of_ble_eq_true rfl | (simp; done) | (simp; omega) | omega) (by first | exact Nat.le_of_ble_eq_true rfl | (simp; done) | (simp; omega) | omega) (by first | exact Nat.le_of_ble_eq_true rfl | (simp; done) | (simp; omega) | omega) (by first | exact Nat.le_of_ble_eq_true rfl | (simp; done) | (simp; omega) | omega) ?_
  rintro _ _ _ T3 ⟨y1, rfl, h2, rfl, rfl⟩ W4
  replace W4 : Wk l Z EL1 ({ frames := 1, cells := 0, slots := 0, locals := 15 } : Room) "com/example/hermit_crab/hermitcrab/LockOptionsCheckNamePinLaw" method_5_code 3 (some .int) "put" X [(t, ct)] [] T3 0 (0) := W4
  show Go Z EL1 _ _ _ X T3 12 #[.val (.ref t), .val (.int (1 : Int32)), .val (.int x)] [(.int y1), (.int (1 : Int32)), (.ref t)]
  refine Go.castore (pc' := 13) W4 0 rfl A 1 y1 (nar_char_id h2.1) (by decide) (by decide) (by simp) d_method_5_code_12 rfl (fun T5 c7 W6 A8 => ?_)
  replace W6 : Wk l Z EL1 ({ frames := 1, cells := 0, slots := 0, locals := 15 } : Room) "com/example/hermit_crab/hermitcrab/LockOptionsCheckNamePinLaw" method_5_code 3 (some .int) "put" X [(t, c7)] [] T5 0 (0) := W6
  replace A8 : ArrC Z c7 .char [(.int ea), (.int y1), (.int ec), (.int ed), (.int ee), (.int ef)] := A8
  refine Go.iloadN (pc' := 14) W6 d_method_5_code_13 rfl rfl ?_
  refine Go.iconst (pc' := 15) W6 (1 : Int32) d_method_5_code_14 (by decide) rfl ?_
  refine Go.iadd (pc' := 16) W6 d_method_5_code_15 rfl ?_
  rw [show ((1 : Int32) + (1 : Int32) : Int32) = (2 : Int32) from by decide]
  refine Go.iret W6 d_method_5_code_16 (by first | exact Nat.le_of_ble_eq_true rfl | (simp; done) | (simp; omega) | omega) (by first | exact Nat.le_of_ble_eq_true rfl | (simp; done) | (simp; omega) | omega) ?_
  exact ⟨c7, y1, rfl, rfl, rfl, h2, A8⟩
set_option maxRecDepth 65536 in
set_option maxHeartbeats 40000000 in
theorem rm_pp_B {l : Launch} {Z : State} {a0 : Array Value} (G : Cl Z a0) (t : Addr) (ct : Cell) (ea eb ec ed ee ef x : Int32) (A : ArrC Z ct .char [(.int ea), (.int eb), (.int ec), (.int ed), (.int ee), (.int ef)]) (h : ¬ (x &&& (1 : Int32)) = 0) :
    Met l Z EL1 (⟨"com/example/hermit_crab/hermitcrab/LockOptionsCheckNamePinLaw", "put", "([CII)I"⟩ : MethodName) method_5_code 3 (some .int) ({ frames := 1, cells := 0, slots := 0, locals := 15 } : Room) #[.ref t, .int (1 : Int32), .int x] [(t, ct)] [] (fun v σ ρ => ∃ ct' y z, v = some (.int 3) ∧ σ = [(t, ct')] ∧ ρ = [] ∧ Hi y ∧ Lo z ∧ ArrC Z ct' .char [(.int ea), (.int y), (.int z), (.int ed), (.int ee), (.int ef)]) := by
  refine Met.walk G.2.1 pn_14 #[.val (.ref t), .val (.int (1 : Int32)), .val (.int x)] (fun m => by first | (simp [entryFrame, mkF, argsToLocals, Value.category]; done) | rfl) ?_
  intro X T0 W0
  refine Go.iloadN (pc' := 1) W0 d_method_5_code_0 rfl rfl ?_
  refine Go.iconst (pc' := 2) W0 (1 : Int32) d_method_5_code_1 (by decide) rfl ?_
  refine Go.iand (pc' := 3) W0 d_method_5_code_2 rfl ?_
  refine Go.if_ne (pc' := 6) W0 17 d_method_5_code_3 (by decide) rfl (fun _ => ?_) (fun q => absurd q h)
  refine Go.aloadN (pc' := 18) W0 d_method_5_code_17 rfl rfl rfl ?_
  refine Go.iloadN (pc' := 19) W0 d_method_5_code_18 rfl rfl ?_
  refine Go.iloadN (pc' := 20) W0 d_method_5_code_19 rfl rfl ?_
  refine Go.static (pc' := 23) W0 (rm_hig G x) (w_10 G) (w_11 G) (w_3 G) (w_12 G) (by decide) [] [] (σf := [(t, ct)]) rfl rfl [(.int x)] [(.int (1 : Int32)), (.ref t)] rfl (lenOf pd_15 rfl) rfl rfl d_method_5_code_20 rfl (by first | exact Nat.le_of_ble_eq_true rfl | (simp; done) | (simp; omega) | omega) (by first | exact Nat.le_of_ble_eq_true rfl | (simp; done) | (simp; omega) | omega) (by first | exact Nat.le_of_ble_eq_true rfl | (simp; done) | (simp; omega) | omega) (by first | exact Nat.le_of_ble_eq_true rfl | (simp; done) | (simp; omega) | omega) ?_
  rintro _ _ _ T3 ⟨y1, rfl, h2, rfl, rfl⟩ W4
  replace W4 : Wk l Z EL1 ({ frames := 1, cells := 0, slots := 0, locals := 15 } : Room) "com/example/hermit_crab/hermitcrab/LockOptionsCheckNamePinLaw" method_5_code 3 (some .int) "put" X [(t, ct)] [] T3 0 (0) := W4
  show Go Z EL1 _ _ _ X T3 23 #[.val (.ref t), .val (.int (1 : Int32)), .val (.int x)] [(.int y1), (.int (1 : Int32)), (.ref t)]
  refine Go.castore (pc' := 24) W4 0 rfl A 1 y1 (nar_char_id h2.chr) (by decide) (by decide) (by simp) d_method_5_code_23 rfl (fun T5 c7 W6 A8 => ?_)
  replace W6 : Wk l Z EL1 ({ frames := 1, cells := 0, slots := 0, locals := 15 } : Room) "com/example/hermit_crab/hermitcrab/LockOptionsCheckNamePinLaw" method_5_code 3 (some .int) "put" X [(t, c7)] [] T5 0 (0) := W6
  replace A8 : ArrC Z c7 .char [(.int ea), (.int y1), (.int ec), (.int ed), (.int ee), (.int ef)] := A8
  refine Go.aloadN (pc' := 25) W6 d_method_5_code_24 rfl rfl rfl ?_
  refine Go.iloadN (pc' := 26) W6 d_method_5_code_25 rfl rfl ?_
  refine Go.iconst (pc' := 27) W6 (1 : Int32) d_method_5_code_26 (by decide) rfl ?_
  refine Go.iadd (pc' := 28) W6 d_method_5_code_27 rfl ?_
  rw [show ((1 : Int32) + (1 : Int32) : Int32) = (2 : Int32) from by decide]
  refine Go.iloadN (pc' := 29) W6 d_method_5_code_28 rfl rfl ?_
  refine Go.static (pc' := 32) W6 (rm_low G x) (w_13 G) (w_14 G) (w_3 G) (w_15 G) (by decide) [] [] (σf := [(t, c7)]) rfl rfl [(.int x)] [(.int (2 : Int32)), (.ref t)] rfl (lenOf pd_15 rfl) rfl rfl d_method_5_code_29 rfl (by first | exact Nat.le_of_ble_eq_true rfl | (simp; done) | (simp; omega) | omega) (by first | exact Nat.le_of_ble_eq_true rfl | (simp; done) | (simp; omega) | omega) (by first | exact Nat.le_of_ble_eq_true rfl | (simp; done) | (simp; omega) | omega) (by first | exact Nat.le_of_ble_eq_true rfl | (simp; done) | (simp; omega) | omega) ?_
  rintro _ _ _ T11 ⟨y9, rfl, h10, rfl, rfl⟩ W12
  replace W12 : Wk l Z EL1 ({ frames := 1, cells := 0, slots := 0, locals := 15 } : Room) "com/example/hermit_crab/hermitcrab/LockOptionsCheckNamePinLaw" method_5_code 3 (some .int) "put" X [(t, c7)] [] T11 0 (0) := W12
  show Go Z EL1 _ _ _ X T11 32 #[.val (.ref t), .val (.int (1 : Int32)), .val (.int x)] [(.int y9), (.int (2 : Int32)), (.ref t)]
  refine Go.castore (pc' := 33) W12 0 rfl A8 2 y9 (nar_char_id h10.chr) (by decide) (by decide) (by simp) d_method_5_code_32 rfl (fun T13 c15 W14 A16 => ?_)
  replace W14 : Wk l Z EL1 ({ frames := 1, cells := 0, slots := 0, locals := 15 } : Room) "com/example/hermit_crab/hermitcrab/LockOptionsCheckNamePinLaw" method_5_code 3 (some .int) "put" X [(t, c15)] [] T13 0 (0) := W14
  replace A16 : ArrC Z c15 .char [(.int ea), (.int y1), (.int y9), (.int ed), (.int ee), (.int ef)] := A16
  refine Go.iloadN (pc' := 34) W14 d_method_5_code_33 rfl rfl ?_
  refine Go.iconst (pc' := 35) W14 (2 : Int32) d_method_5_code_34 (by decide) rfl ?_
  refine Go.iadd (pc' := 36) W14 d_method_5_code_35 rfl ?_
  rw [show ((1 : Int32) + (2 : Int32) : Int32) = (3 : Int32) from by decide]
  refine Go.iret W14 d_method_5_code_36 (by first | exact Nat.le_of_ble_eq_true rfl | (simp; done) | (simp; omega) | omega) (by first | exact Nat.le_of_ble_eq_true rfl | (simp; done) | (simp; omega) | omega) ?_
  exact ⟨c15, y1, y9, rfl, rfl, rfl, h2, h10, A16⟩
set_option maxRecDepth 65536 in
set_option maxHeartbeats 40000000 in
theorem rm_pb_C {l : Launch} {Z : State} {a0 : Array Value} (G : Cl Z a0) (t : Addr) (ct : Cell) (ea eb ec ed ee ef x : Int32) (A : ArrC Z ct .char [(.int ea), (.int eb), (.int ec), (.int ed), (.int ee), (.int ef)]) (h : (x &&& (1 : Int32)) = 0) :
    Met l Z EL1 (⟨"com/example/hermit_crab/hermitcrab/LockOptionsCheckNamePinLaw", "put", "([CII)I"⟩ : MethodName) method_5_code 3 (some .int) ({ frames := 1, cells := 0, slots := 0, locals := 15 } : Room) #[.ref t, .int (2 : Int32), .int x] [(t, ct)] [] (fun v σ ρ => ∃ ct' y, v = some (.int 3) ∧ σ = [(t, ct')] ∧ ρ = [] ∧ Bm y ∧ ArrC Z ct' .char [(.int ea), (.int eb), (.int y), (.int ed), (.int ee), (.int ef)]) := by
  refine Met.walk G.2.1 pn_14 #[.val (.ref t), .val (.int (2 : Int32)), .val (.int x)] (fun m => by first | (simp [entryFrame, mkF, argsToLocals, Value.category]; done) | rfl) ?_
  intro X T0 W0
  refine Go.iloadN (pc' := 1) W0 d_method_5_code_0 rfl rfl ?_
  refine Go.iconst (pc' := 2) W0 (1 : Int32) d_method_5_code_1 (by decide) rfl ?_
  refine Go.iand (pc' := 3) W0 d_method_5_code_2 rfl ?_
  refine Go.if_ne (pc' := 6) W0 17 d_method_5_code_3 (by decide) rfl (fun q => absurd h q) (fun _ => ?_)
  refine Go.aloadN (pc' := 7) W0 d_method_5_code_6 rfl rfl rfl ?_
  refine Go.iloadN (pc' := 8) W0 d_method_5_code_7 rfl rfl ?_
  refine Go.iloadN (pc' := 9) W0 d_method_5_code_8 rfl rfl ?_
  refine Go.static (pc' := 12) W0 (rm_bmp G x) (w_5 G) (w_6 G) (w_3 G) (w_7 G) (by decide) [] [] (σf := [(t, ct)]) rfl rfl [(.int x)] [(.int (2 : Int32)), (.ref t)] rfl (lenOf pd_15 rfl) rfl rfl d_method_5_code_9 rfl (by first | exact Nat.le_of_ble_eq_true rfl | (simp; done) | (simp; omega) | omega) (by first | exact Nat.le_of_ble_eq_true rfl | (simp; done) | (simp; omega) | omega) (by first | exact Nat.le_of_ble_eq_true rfl | (simp; done) | (simp; omega) | omega) (by first | exact Nat.le_of_ble_eq_true rfl | (simp; done) | (simp; omega) | omega) ?_
  rintro _ _ _ T3 ⟨y1, rfl, h2, rfl, rfl⟩ W4
  replace W4 : Wk l Z EL1 ({ frames := 1, cells := 0, slots := 0, locals := 15 } : Room) "com/example/hermit_crab/hermitcrab/LockOptionsCheckNamePinLaw" method_5_code 3 (some .int) "put" X [(t, ct)] [] T3 0 (0) := W4
  show Go Z EL1 _ _ _ X T3 12 #[.val (.ref t), .val (.int (2 : Int32)), .val (.int x)] [(.int y1), (.int (2 : Int32)), (.ref t)]
  refine Go.castore (pc' := 13) W4 0 rfl A 2 y1 (nar_char_id h2.1) (by decide) (by decide) (by simp) d_method_5_code_12 rfl (fun T5 c7 W6 A8 => ?_)
  replace W6 : Wk l Z EL1 ({ frames := 1, cells := 0, slots := 0, locals := 15 } : Room) "com/example/hermit_crab/hermitcrab/LockOptionsCheckNamePinLaw" method_5_code 3 (some .int) "put" X [(t, c7)] [] T5 0 (0) := W6
  replace A8 : ArrC Z c7 .char [(.int ea), (.int eb), (.int y1), (.int ed), (.int ee), (.int ef)] := A8
  refine Go.iloadN (pc' := 14) W6 d_method_5_code_13 rfl rfl ?_
  refine Go.iconst (pc' := 15) W6 (1 : Int32) d_method_5_code_14 (by decide) rfl ?_
  refine Go.iadd (pc' := 16) W6 d_method_5_code_15 rfl ?_
  rw [show ((2 : Int32) + (1 : Int32) : Int32) = (3 : Int32) from by decide]
  refine Go.iret W6 d_method_5_code_16 (by first | exact Nat.le_of_ble_eq_true rfl | (simp; done) | (simp; omega) | omega) (by first | exact Nat.le_of_ble_eq_true rfl | (simp; done) | (simp; omega) | omega) ?_
  exact ⟨c7, y1, rfl, rfl, rfl, h2, A8⟩
set_option maxRecDepth 65536 in
set_option maxHeartbeats 40000000 in
theorem rm_pp_C {l : Launch} {Z : State} {a0 : Array Value} (G : Cl Z a0) (t : Addr) (ct : Cell) (ea eb ec ed ee ef x : Int32) (A : ArrC Z ct .char [(.int ea), (.int eb), (.int ec), (.int ed), (.int ee), (.int ef)]) (h : ¬ (x &&& (1 : Int32)) = 0) :
    Met l Z EL1 (⟨"com/example/hermit_crab/hermitcrab/LockOptionsCheckNamePinLaw", "put", "([CII)I"⟩ : MethodName) method_5_code 3 (some .int) ({ frames := 1, cells := 0, slots := 0, locals := 15 } : Room) #[.ref t, .int (2 : Int32), .int x] [(t, ct)] [] (fun v σ ρ => ∃ ct' y z, v = some (.int 4) ∧ σ = [(t, ct')] ∧ ρ = [] ∧ Hi y ∧ Lo z ∧ ArrC Z ct' .char [(.int ea), (.int eb), (.int y), (.int z), (.int ee), (.int ef)]) := by
  refine Met.walk G.2.1 pn_14 #[.val (.ref t), .val (.int (2 : Int32)), .val (.int x)] (fun m => by first | (simp [entryFrame, mkF, argsToLocals, Value.category]; done) | rfl) ?_
  intro X T0 W0
  refine Go.iloadN (pc' := 1) W0 d_method_5_code_0 rfl rfl ?_
  refine Go.iconst (pc' := 2) W0 (1 : Int32) d_method_5_code_1 (by decide) rfl ?_
  refine Go.iand (pc' := 3) W0 d_method_5_code_2 rfl ?_
  refine Go.if_ne (pc' := 6) W0 17 d_method_5_code_3 (by decide) rfl (fun _ => ?_) (fun q => absurd q h)
  refine Go.aloadN (pc' := 18) W0 d_method_5_code_17 rfl rfl rfl ?_
  refine Go.iloadN (pc' := 19) W0 d_method_5_code_18 rfl rfl ?_
  refine Go.iloadN (pc' := 20) W0 d_method_5_code_19 rfl rfl ?_
  refine Go.static (pc' := 23) W0 (rm_hig G x) (w_10 G) (w_11 G) (w_3 G) (w_12 G) (by decide) [] [] (σf := [(t, ct)]) rfl rfl [(.int x)] [(.int (2 : Int32)), (.ref t)] rfl (lenOf pd_15 rfl) rfl rfl d_method_5_code_20 rfl (by first | exact Nat.le_of_ble_eq_true rfl | (simp; done) | (simp; omega) | omega) (by first | exact Nat.le_of_ble_eq_true rfl | (simp; done) | (simp; omega) | omega) (by first | exact Nat.le_of_ble_eq_true rfl | (simp; done) | (simp; omega) | omega) (by first | exact Nat.le_of_ble_eq_true rfl | (simp; done) | (simp; omega) | omega) ?_
  rintro _ _ _ T3 ⟨y1, rfl, h2, rfl, rfl⟩ W4
  replace W4 : Wk l Z EL1 ({ frames := 1, cells := 0, slots := 0, locals := 15 } : Room) "com/example/hermit_crab/hermitcrab/LockOptionsCheckNamePinLaw" method_5_code 3 (some .int) "put" X [(t, ct)] [] T3 0 (0) := W4
  show Go Z EL1 _ _ _ X T3 23 #[.val (.ref t), .val (.int (2 : Int32)), .val (.int x)] [(.int y1), (.int (2 : Int32)), (.ref t)]
  refine Go.castore (pc' := 24) W4 0 rfl A 2 y1 (nar_char_id h2.chr) (by decide) (by decide) (by simp) d_method_5_code_23 rfl (fun T5 c7 W6 A8 => ?_)
  replace W6 : Wk l Z EL1 ({ frames := 1, cells := 0, slots := 0, locals := 15 } : Room) "com/example/hermit_crab/hermitcrab/LockOptionsCheckNamePinLaw" method_5_code 3 (some .int) "put" X [(t, c7)] [] T5 0 (0) := W6
  replace A8 : ArrC Z c7 .char [(.int ea), (.int eb), (.int y1), (.int ed), (.int ee), (.int ef)] := A8
  refine Go.aloadN (pc' := 25) W6 d_method_5_code_24 rfl rfl rfl ?_
  refine Go.iloadN (pc' := 26) W6 d_method_5_code_25 rfl rfl ?_
  refine Go.iconst (pc' := 27) W6 (1 : Int32) d_method_5_code_26 (by decide) rfl ?_
  refine Go.iadd (pc' := 28) W6 d_method_5_code_27 rfl ?_
  rw [show ((2 : Int32) + (1 : Int32) : Int32) = (3 : Int32) from by decide]
  refine Go.iloadN (pc' := 29) W6 d_method_5_code_28 rfl rfl ?_
  refine Go.static (pc' := 32) W6 (rm_low G x) (w_13 G) (w_14 G) (w_3 G) (w_15 G) (by decide) [] [] (σf := [(t, c7)]) rfl rfl [(.int x)] [(.int (3 : Int32)), (.ref t)] rfl (lenOf pd_15 rfl) rfl rfl d_method_5_code_29 rfl (by first | exact Nat.le_of_ble_eq_true rfl | (simp; done) | (simp; omega) | omega) (by first | exact Nat.le_of_ble_eq_true rfl | (simp; done) | (simp; omega) | omega) (by first | exact Nat.le_of_ble_eq_true rfl | (simp; done) | (simp; omega) | omega) (by first | exact Nat.le_of_ble_eq_true rfl | (simp; done) | (simp; omega) | omega) ?_
  rintro _ _ _ T11 ⟨y9, rfl, h10, rfl, rfl⟩ W12
  replace W12 : Wk l Z EL1 ({ frames := 1, cells := 0, slots := 0, locals := 15 } : Room) "com/example/hermit_crab/hermitcrab/LockOptionsCheckNamePinLaw" method_5_code 3 (some .int) "put" X [(t, c7)] [] T11 0 (0) := W12
  show Go Z EL1 _ _ _ X T11 32 #[.val (.ref t), .val (.int (2 : Int32)), .val (.int x)] [(.int y9), (.int (3 : Int32)), (.ref t)]
  refine Go.castore (pc' := 33) W12 0 rfl A8 3 y9 (nar_char_id h10.chr) (by decide) (by decide) (by simp) d_method_5_code_32 rfl (fun T13 c15 W14 A16 => ?_)
  replace W14 : Wk l Z EL1 ({ frames := 1, cells := 0, slots := 0, locals := 15 } : Room) "com/example/hermit_crab/hermitcrab/LockOptionsCheckNamePinLaw" method_5_code 3 (some .int) "put" X [(t, c15)] [] T13 0 (0) := W14
  replace A16 : ArrC Z c15 .char [(.int ea), (.int eb), (.int y1), (.int y9), (.int ee), (.int ef)] := A16
  refine Go.iloadN (pc' := 34) W14 d_method_5_code_33 rfl rfl ?_
  refine Go.iconst (pc' := 35) W14 (2 : Int32) d_method_5_code_34 (by decide) rfl ?_
  refine Go.iadd (pc' := 36) W14 d_method_5_code_35 rfl ?_
  rw [show ((2 : Int32) + (2 : Int32) : Int32) = (4 : Int32) from by decide]
  refine Go.iret W14 d_method_5_code_36 (by first | exact Nat.le_of_ble_eq_true rfl | (simp; done) | (simp; omega) | omega) (by first | exact Nat.le_of_ble_eq_true rfl | (simp; done) | (simp; omega) | omega) ?_
  exact ⟨c15, y1, y9, rfl, rfl, rfl, h2, h10, A16⟩
set_option maxRecDepth 65536 in
set_option maxHeartbeats 40000000 in
theorem rm_pb_D {l : Launch} {Z : State} {a0 : Array Value} (G : Cl Z a0) (t : Addr) (ct : Cell) (ea eb ec ed ee ef x : Int32) (A : ArrC Z ct .char [(.int ea), (.int eb), (.int ec), (.int ed), (.int ee), (.int ef)]) (h : (x &&& (1 : Int32)) = 0) :
    Met l Z EL1 (⟨"com/example/hermit_crab/hermitcrab/LockOptionsCheckNamePinLaw", "put", "([CII)I"⟩ : MethodName) method_5_code 3 (some .int) ({ frames := 1, cells := 0, slots := 0, locals := 15 } : Room) #[.ref t, .int (3 : Int32), .int x] [(t, ct)] [] (fun v σ ρ => ∃ ct' y, v = some (.int 4) ∧ σ = [(t, ct')] ∧ ρ = [] ∧ Bm y ∧ ArrC Z ct' .char [(.int ea), (.int eb), (.int ec), (.int y), (.int ee), (.int ef)]) := by
  refine Met.walk G.2.1 pn_14 #[.val (.ref t), .val (.int (3 : Int32)), .val (.int x)] (fun m => by first | (simp [entryFrame, mkF, argsToLocals, Value.category]; done) | rfl) ?_
  intro X T0 W0
  refine Go.iloadN (pc' := 1) W0 d_method_5_code_0 rfl rfl ?_
  refine Go.iconst (pc' := 2) W0 (1 : Int32) d_method_5_code_1 (by decide) rfl ?_
  refine Go.iand (pc' := 3) W0 d_method_5_code_2 rfl ?_
  refine Go.if_ne (pc' := 6) W0 17 d_method_5_code_3 (by decide) rfl (fun q => absurd h q) (fun _ => ?_)
  refine Go.aloadN (pc' := 7) W0 d_method_5_code_6 rfl rfl rfl ?_
  refine Go.iloadN (pc' := 8) W0 d_method_5_code_7 rfl rfl ?_
  refine Go.iloadN (pc' := 9) W0 d_method_5_code_8 rfl rfl ?_
  refine Go.static (pc' := 12) W0 (rm_bmp G x) (w_5 G) (w_6 G) (w_3 G) (w_7 G) (by decide) [] [] (σf := [(t, ct)]) rfl rfl [(.int x)] [(.int (3 : Int32)), (.ref t)] rfl (lenOf pd_15 rfl) rfl rfl d_method_5_code_9 rfl (by first | exact Nat.le_of_ble_eq_true rfl | (simp; done) | (simp; omega) | omega) (by first | exact Nat.le_of_ble_eq_true rfl | (simp; done) | (simp; omega) | omega) (by first | exact Nat.le_of_ble_eq_true rfl | (simp; done) | (simp; omega) | omega) (by first | exact Nat.le_of_ble_eq_true rfl | (simp; done) | (simp; omega) | omega) ?_
  rintro _ _ _ T3 ⟨y1, rfl, h2, rfl, rfl⟩ W4
  replace W4 : Wk l Z EL1 ({ frames := 1, cells := 0, slots := 0, locals := 15 } : Room) "com/example/hermit_crab/hermitcrab/LockOptionsCheckNamePinLaw" method_5_code 3 (some .int) "put" X [(t, ct)] [] T3 0 (0) := W4
  show Go Z EL1 _ _ _ X T3 12 #[.val (.ref t), .val (.int (3 : Int32)), .val (.int x)] [(.int y1), (.int (3 : Int32)), (.ref t)]
  refine Go.castore (pc' := 13) W4 0 rfl A 3 y1 (nar_char_id h2.1) (by decide) (by decide) (by simp) d_method_5_code_12 rfl (fun T5 c7 W6 A8 => ?_)
  replace W6 : Wk l Z EL1 ({ frames := 1, cells := 0, slots := 0, locals := 15 } : Room) "com/example/hermit_crab/hermitcrab/LockOptionsCheckNamePinLaw" method_5_code 3 (some .int) "put" X [(t, c7)] [] T5 0 (0) := W6
  replace A8 : ArrC Z c7 .char [(.int ea), (.int eb), (.int ec), (.int y1), (.int ee), (.int ef)] := A8
  refine Go.iloadN (pc' := 14) W6 d_method_5_code_13 rfl rfl ?_
  refine Go.iconst (pc' := 15) W6 (1 : Int32) d_method_5_code_14 (by decide) rfl ?_
  refine Go.iadd (pc' := 16) W6 d_method_5_code_15 rfl ?_
  rw [show ((3 : Int32) + (1 : Int32) : Int32) = (4 : Int32) from by decide]
  refine Go.iret W6 d_method_5_code_16 (by first | exact Nat.le_of_ble_eq_true rfl | (simp; done) | (simp; omega) | omega) (by first | exact Nat.le_of_ble_eq_true rfl | (simp; done) | (simp; omega) | omega) ?_
  exact ⟨c7, y1, rfl, rfl, rfl, h2, A8⟩
set_option maxRecDepth 65536 in
set_option maxHeartbeats 40000000 in
theorem rm_pp_D {l : Launch} {Z : State} {a0 : Array Value} (G : Cl Z a0) (t : Addr) (ct : Cell) (ea eb ec ed ee ef x : Int32) (A : ArrC Z ct .char [(.int ea), (.int eb), (.int ec), (.int ed), (.int ee), (.int ef)]) (h : ¬ (x &&& (1 : Int32)) = 0) :
    Met l Z EL1 (⟨"com/example/hermit_crab/hermitcrab/LockOptionsCheckNamePinLaw", "put", "([CII)I"⟩ : MethodName) method_5_code 3 (some .int) ({ frames := 1, cells := 0, slots := 0, locals := 15 } : Room) #[.ref t, .int (3 : Int32), .int x] [(t, ct)] [] (fun v σ ρ => ∃ ct' y z, v = some (.int 5) ∧ σ = [(t, ct')] ∧ ρ = [] ∧ Hi y ∧ Lo z ∧ ArrC Z ct' .char [(.int ea), (.int eb), (.int ec), (.int y), (.int z), (.int ef)]) := by
  refine Met.walk G.2.1 pn_14 #[.val (.ref t), .val (.int (3 : Int32)), .val (.int x)] (fun m => by first | (simp [entryFrame, mkF, argsToLocals, Value.category]; done) | rfl) ?_
  intro X T0 W0
  refine Go.iloadN (pc' := 1) W0 d_method_5_code_0 rfl rfl ?_
  refine Go.iconst (pc' := 2) W0 (1 : Int32) d_method_5_code_1 (by decide) rfl ?_
  refine Go.iand (pc' := 3) W0 d_method_5_code_2 rfl ?_
  refine Go.if_ne (pc' := 6) W0 17 d_method_5_code_3 (by decide) rfl (fun _ => ?_) (fun q => absurd q h)
  refine Go.aloadN (pc' := 18) W0 d_method_5_code_17 rfl rfl rfl ?_
  refine Go.iloadN (pc' := 19) W0 d_method_5_code_18 rfl rfl ?_
  refine Go.iloadN (pc' := 20) W0 d_method_5_code_19 rfl rfl ?_
  refine Go.static (pc' := 23) W0 (rm_hig G x) (w_10 G) (w_11 G) (w_3 G) (w_12 G) (by decide) [] [] (σf := [(t, ct)]) rfl rfl [(.int x)] [(.int (3 : Int32)), (.ref t)] rfl (lenOf pd_15 rfl) rfl rfl d_method_5_code_20 rfl (by first | exact Nat.le_of_ble_eq_true rfl | (simp; done) | (simp; omega) | omega) (by first | exact Nat.le_of_ble_eq_true rfl | (simp; done) | (simp; omega) | omega) (by first | exact Nat.le_of_ble_eq_true rfl | (simp; done) | (simp; omega) | omega) (by first | exact Nat.le_of_ble_eq_true rfl | (simp; done) | (simp; omega) | omega) ?_
  rintro _ _ _ T3 ⟨y1, rfl, h2, rfl, rfl⟩ W4
  replace W4 : Wk l Z EL1 ({ frames := 1, cells := 0, slots := 0, locals := 15 } : Room) "com/example/hermit_crab/hermitcrab/LockOptionsCheckNamePinLaw" method_5_code 3 (some .int) "put" X [(t, ct)] [] T3 0 (0) := W4
  show Go Z EL1 _ _ _ X T3 23 #[.val (.ref t), .val (.int (3 : Int32)), .val (.int x)] [(.int y1), (.int (3 : Int32)), (.ref t)]
  refine Go.castore (pc' := 24) W4 0 rfl A 3 y1 (nar_char_id h2.chr) (by decide) (by decide) (by simp) d_method_5_code_23 rfl (fun T5 c7 W6 A8 => ?_)
  replace W6 : Wk l Z EL1 ({ frames := 1, cells := 0, slots := 0, locals := 15 } : Room) "com/example/hermit_crab/hermitcrab/LockOptionsCheckNamePinLaw" method_5_code 3 (some .int) "put" X [(t, c7)] [] T5 0 (0) := W6
  replace A8 : ArrC Z c7 .char [(.int ea), (.int eb), (.int ec), (.int y1), (.int ee), (.int ef)] := A8
  refine Go.aloadN (pc' := 25) W6 d_method_5_code_24 rfl rfl rfl ?_
  refine Go.iloadN (pc' := 26) W6 d_method_5_code_25 rfl rfl ?_
  refine Go.iconst (pc' := 27) W6 (1 : Int32) d_method_5_code_26 (by decide) rfl ?_
  refine Go.iadd (pc' := 28) W6 d_method_5_code_27 rfl ?_
  rw [show ((3 : Int32) + (1 : Int32) : Int32) = (4 : Int32) from by decide]
  refine Go.iloadN (pc' := 29) W6 d_method_5_code_28 rfl rfl ?_
  refine Go.static (pc' := 32) W6 (rm_low G x) (w_13 G) (w_14 G) (w_3 G) (w_15 G) (by decide) [] [] (σf := [(t, c7)]) rfl rfl [(.int x)] [(.int (4 : Int32)), (.ref t)] rfl (lenOf pd_15 rfl) rfl rfl d_method_5_code_29 rfl (by first | exact Nat.le_of_ble_eq_true rfl | (simp; done) | (simp; omega) | omega) (by first | exact Nat.le_of_ble_eq_true rfl | (simp; done) | (simp; omega) | omega) (by first | exact Nat.le_of_ble_eq_true rfl | (simp; done) | (simp; omega) | omega) (by first | exact Nat.le_of_ble_eq_true rfl | (simp; done) | (simp; omega) | omega) ?_
  rintro _ _ _ T11 ⟨y9, rfl, h10, rfl, rfl⟩ W12
  replace W12 : Wk l Z EL1 ({ frames := 1, cells := 0, slots := 0, locals := 15 } : Room) "com/example/hermit_crab/hermitcrab/LockOptionsCheckNamePinLaw" method_5_code 3 (some .int) "put" X [(t, c7)] [] T11 0 (0) := W12
  show Go Z EL1 _ _ _ X T11 32 #[.val (.ref t), .val (.int (3 : Int32)), .val (.int x)] [(.int y9), (.int (4 : Int32)), (.ref t)]
  refine Go.castore (pc' := 33) W12 0 rfl A8 4 y9 (nar_char_id h10.chr) (by decide) (by decide) (by simp) d_method_5_code_32 rfl (fun T13 c15 W14 A16 => ?_)
  replace W14 : Wk l Z EL1 ({ frames := 1, cells := 0, slots := 0, locals := 15 } : Room) "com/example/hermit_crab/hermitcrab/LockOptionsCheckNamePinLaw" method_5_code 3 (some .int) "put" X [(t, c15)] [] T13 0 (0) := W14
  replace A16 : ArrC Z c15 .char [(.int ea), (.int eb), (.int ec), (.int y1), (.int y9), (.int ef)] := A16
  refine Go.iloadN (pc' := 34) W14 d_method_5_code_33 rfl rfl ?_
  refine Go.iconst (pc' := 35) W14 (2 : Int32) d_method_5_code_34 (by decide) rfl ?_
  refine Go.iadd (pc' := 36) W14 d_method_5_code_35 rfl ?_
  rw [show ((3 : Int32) + (2 : Int32) : Int32) = (5 : Int32) from by decide]
  refine Go.iret W14 d_method_5_code_36 (by first | exact Nat.le_of_ble_eq_true rfl | (simp; done) | (simp; omega) | omega) (by first | exact Nat.le_of_ble_eq_true rfl | (simp; done) | (simp; omega) | omega) ?_
  exact ⟨c15, y1, y9, rfl, rfl, rfl, h2, h10, A16⟩
set_option maxRecDepth 65536 in
set_option maxHeartbeats 40000000 in
theorem rm_pb_E {l : Launch} {Z : State} {a0 : Array Value} (G : Cl Z a0) (t : Addr) (ct : Cell) (ea eb ec ed ee ef x : Int32) (A : ArrC Z ct .char [(.int ea), (.int eb), (.int ec), (.int ed), (.int ee), (.int ef)]) (h : (x &&& (1 : Int32)) = 0) :
    Met l Z EL1 (⟨"com/example/hermit_crab/hermitcrab/LockOptionsCheckNamePinLaw", "put", "([CII)I"⟩ : MethodName) method_5_code 3 (some .int) ({ frames := 1, cells := 0, slots := 0, locals := 15 } : Room) #[.ref t, .int (4 : Int32), .int x] [(t, ct)] [] (fun v σ ρ => ∃ ct' y, v = some (.int 5) ∧ σ = [(t, ct')] ∧ ρ = [] ∧ Bm y ∧ ArrC Z ct' .char [(.int ea), (.int eb), (.int ec), (.int ed), (.int y), (.int ef)]) := by
  refine Met.walk G.2.1 pn_14 #[.val (.ref t), .val (.int (4 : Int32)), .val (.int x)] (fun m => by first | (simp [entryFrame, mkF, argsToLocals, Value.category]; done) | rfl) ?_
  intro X T0 W0
  refine Go.iloadN (pc' := 1) W0 d_method_5_code_0 rfl rfl ?_
  refine Go.iconst (pc' := 2) W0 (1 : Int32) d_method_5_code_1 (by decide) rfl ?_
  refine Go.iand (pc' := 3) W0 d_method_5_code_2 rfl ?_
  refine Go.if_ne (pc' := 6) W0 17 d_method_5_code_3 (by decide) rfl (fun q => absurd h q) (fun _ => ?_)
  refine Go.aloadN (pc' := 7) W0 d_method_5_code_6 rfl rfl rfl ?_
  refine Go.iloadN (pc' := 8) W0 d_method_5_code_7 rfl rfl ?_
  refine Go.iloadN (pc' := 9) W0 d_method_5_code_8 rfl rfl ?_
  refine Go.static (pc' := 12) W0 (rm_bmp G x) (w_5 G) (w_6 G) (w_3 G) (w_7 G) (by decide) [] [] (σf := [(t, ct)]) rfl rfl [(.int x)] [(.int (4 : Int32)), (.ref t)] rfl (lenOf pd_15 rfl) rfl rfl d_method_5_code_9 rfl (by first | exact Nat.le_of_ble_eq_true rfl | (simp; done) | (simp; omega) | omega) (by first | exact Nat.le_of_ble_eq_true rfl | (simp; done) | (simp; omega) | omega) (by first | exact Nat.le_of_ble_eq_true rfl | (simp; done) | (simp; omega) | omega) (by first | exact Nat.le_of_ble_eq_true rfl | (simp; done) | (simp; omega) | omega) ?_
  rintro _ _ _ T3 ⟨y1, rfl, h2, rfl, rfl⟩ W4
  replace W4 : Wk l Z EL1 ({ frames := 1, cells := 0, slots := 0, locals := 15 } : Room) "com/example/hermit_crab/hermitcrab/LockOptionsCheckNamePinLaw" method_5_code 3 (some .int) "put" X [(t, ct)] [] T3 0 (0) := W4
  show Go Z EL1 _ _ _ X T3 12 #[.val (.ref t), .val (.int (4 : Int32)), .val (.int x)] [(.int y1), (.int (4 : Int32)), (.ref t)]
  refine Go.castore (pc' := 13) W4 0 rfl A 4 y1 (nar_char_id h2.1) (by decide) (by decide) (by simp) d_method_5_code_12 rfl (fun T5 c7 W6 A8 => ?_)
  replace W6 : Wk l Z EL1 ({ frames := 1, cells := 0, slots := 0, locals := 15 } : Room) "com/example/hermit_crab/hermitcrab/LockOptionsCheckNamePinLaw" method_5_code 3 (some .int) "put" X [(t, c7)] [] T5 0 (0) := W6
  replace A8 : ArrC Z c7 .char [(.int ea), (.int eb), (.int ec), (.int ed), (.int y1), (.int ef)] := A8
  refine Go.iloadN (pc' := 14) W6 d_method_5_code_13 rfl rfl ?_
  refine Go.iconst (pc' := 15) W6 (1 : Int32) d_method_5_code_14 (by decide) rfl ?_
  refine Go.iadd (pc' := 16) W6 d_method_5_code_15 rfl ?_
  rw [show ((4 : Int32) + (1 : Int32) : Int32) = (5 : Int32) from by decide]
  refine Go.iret W6 d_method_5_code_16 (by first | exact Nat.le_of_ble_eq_true rfl | (simp; done) | (simp; omega) | omega) (by first | exact Nat.le_of_ble_eq_true rfl | (simp; done) | (simp; omega) | omega) ?_
  exact ⟨c7, y1, rfl, rfl, rfl, h2, A8⟩
set_option maxRecDepth 65536 in
set_option maxHeartbeats 40000000 in
theorem rm_pp_E {l : Launch} {Z : State} {a0 : Array Value} (G : Cl Z a0) (t : Addr) (ct : Cell) (ea eb ec ed ee ef x : Int32) (A : ArrC Z ct .char [(.int ea), (.int eb), (.int ec), (.int ed), (.int ee), (.int ef)]) (h : ¬ (x &&& (1 : Int32)) = 0) :
    Met l Z EL1 (⟨"com/example/hermit_crab/hermitcrab/LockOptionsCheckNamePinLaw", "put", "([CII)I"⟩ : MethodName) method_5_code 3 (some .int) ({ frames := 1, cells := 0, slots := 0, locals := 15 } : Room) #[.ref t, .int (4 : Int32), .int x] [(t, ct)] [] (fun v σ ρ => ∃ ct' y z, v = some (.int 6) ∧ σ = [(t, ct')] ∧ ρ = [] ∧ Hi y ∧ Lo z ∧ ArrC Z ct' .char [(.int ea), (.int eb), (.int ec), (.int ed), (.int y), (.int z)]) := by
  refine Met.walk G.2.1 pn_14 #[.val (.ref t), .val (.int (4 : Int32)), .val (.int x)] (fun m => by first | (simp [entryFrame, mkF, argsToLocals, Value.category]; done) | rfl) ?_
  intro X T0 W0
  refine Go.iloadN (pc' := 1) W0 d_method_5_code_0 rfl rfl ?_
  refine Go.iconst (pc' := 2) W0 (1 : Int32) d_method_5_code_1 (by decide) rfl ?_
  refine Go.iand (pc' := 3) W0 d_method_5_code_2 rfl ?_
  refine Go.if_ne (pc' := 6) W0 17 d_method_5_code_3 (by decide) rfl (fun _ => ?_) (fun q => absurd q h)
  refine Go.aloadN (pc' := 18) W0 d_method_5_code_17 rfl rfl rfl ?_
  refine Go.iloadN (pc' := 19) W0 d_method_5_code_18 rfl rfl ?_
  refine Go.iloadN (pc' := 20) W0 d_method_5_code_19 rfl rfl ?_
  refine Go.static (pc' := 23) W0 (rm_hig G x) (w_10 G) (w_11 G) (w_3 G) (w_12 G) (by decide) [] [] (σf := [(t, ct)]) rfl rfl [(.int x)] [(.int (4 : Int32)), (.ref t)] rfl (lenOf pd_15 rfl) rfl rfl d_method_5_code_20 rfl (by first | exact Nat.le_of_ble_eq_true rfl | (simp; done) | (simp; omega) | omega) (by first | exact Nat.le_of_ble_eq_true rfl | (simp; done) | (simp; omega) | omega) (by first | exact Nat.le_of_ble_eq_true rfl | (simp; done) | (simp; omega) | omega) (by first | exact Nat.le_of_ble_eq_true rfl | (simp; done) | (simp; omega) | omega) ?_
  rintro _ _ _ T3 ⟨y1, rfl, h2, rfl, rfl⟩ W4
  replace W4 : Wk l Z EL1 ({ frames := 1, cells := 0, slots := 0, locals := 15 } : Room) "com/example/hermit_crab/hermitcrab/LockOptionsCheckNamePinLaw" method_5_code 3 (some .int) "put" X [(t, ct)] [] T3 0 (0) := W4
  show Go Z EL1 _ _ _ X T3 23 #[.val (.ref t), .val (.int (4 : Int32)), .val (.int x)] [(.int y1), (.int (4 : Int32)), (.ref t)]
  refine Go.castore (pc' := 24) W4 0 rfl A 4 y1 (nar_char_id h2.chr) (by decide) (by decide) (by simp) d_method_5_code_23 rfl (fun T5 c7 W6 A8 => ?_)
  replace W6 : Wk l Z EL1 ({ frames := 1, cells := 0, slots := 0, locals := 15 } : Room) "com/example/hermit_crab/hermitcrab/LockOptionsCheckNamePinLaw" method_5_code 3 (some .int) "put" X [(t, c7)] [] T5 0 (0) := W6
  replace A8 : ArrC Z c7 .char [(.int ea), (.int eb), (.int ec), (.int ed), (.int y1), (.int ef)] := A8
  refine Go.aloadN (pc' := 25) W6 d_method_5_code_24 rfl rfl rfl ?_
  refine Go.iloadN (pc' := 26) W6 d_method_5_code_25 rfl rfl ?_
  refine Go.iconst (pc' := 27) W6 (1 : Int32) d_method_5_code_26 (by decide) rfl ?_
  refine Go.iadd (pc' := 28) W6 d_method_5_code_27 rfl ?_
  rw [show ((4 : Int32) + (1 : Int32) : Int32) = (5 : Int32) from by decide]
  refine Go.iloadN (pc' := 29) W6 d_method_5_code_28 rfl rfl ?_
  refine Go.static (pc' := 32) W6 (rm_low G x) (w_13 G) (w_14 G) (w_3 G) (w_15 G) (by decide) [] [] (σf := [(t, c7)]) rfl rfl [(.int x)] [(.int (5 : Int32)), (.ref t)] rfl (lenOf pd_15 rfl) rfl rfl d_method_5_code_29 rfl (by first | exact Nat.le_of_ble_eq_true rfl | (simp; done) | (simp; omega) | omega) (by first | exact Nat.le_of_ble_eq_true rfl | (simp; done) | (simp; omega) | omega) (by first | exact Nat.le_of_ble_eq_true rfl | (simp; done) | (simp; omega) | omega) (by first | exact Nat.le_of_ble_eq_true rfl | (simp; done) | (simp; omega) | omega) ?_
  rintro _ _ _ T11 ⟨y9, rfl, h10, rfl, rfl⟩ W12
  replace W12 : Wk l Z EL1 ({ frames := 1, cells := 0, slots := 0, locals := 15 } : Room) "com/example/hermit_crab/hermitcrab/LockOptionsCheckNamePinLaw" method_5_code 3 (some .int) "put" X [(t, c7)] [] T11 0 (0) := W12
  show Go Z EL1 _ _ _ X T11 32 #[.val (.ref t), .val (.int (4 : Int32)), .val (.int x)] [(.int y9), (.int (5 : Int32)), (.ref t)]
  refine Go.castore (pc' := 33) W12 0 rfl A8 5 y9 (nar_char_id h10.chr) (by decide) (by decide) (by simp) d_method_5_code_32 rfl (fun T13 c15 W14 A16 => ?_)
  replace W14 : Wk l Z EL1 ({ frames := 1, cells := 0, slots := 0, locals := 15 } : Room) "com/example/hermit_crab/hermitcrab/LockOptionsCheckNamePinLaw" method_5_code 3 (some .int) "put" X [(t, c15)] [] T13 0 (0) := W14
  replace A16 : ArrC Z c15 .char [(.int ea), (.int eb), (.int ec), (.int ed), (.int y1), (.int y9)] := A16
  refine Go.iloadN (pc' := 34) W14 d_method_5_code_33 rfl rfl ?_
  refine Go.iconst (pc' := 35) W14 (2 : Int32) d_method_5_code_34 (by decide) rfl ?_
  refine Go.iadd (pc' := 36) W14 d_method_5_code_35 rfl ?_
  rw [show ((4 : Int32) + (2 : Int32) : Int32) = (6 : Int32) from by decide]
  refine Go.iret W14 d_method_5_code_36 (by first | exact Nat.le_of_ble_eq_true rfl | (simp; done) | (simp; omega) | omega) (by first | exact Nat.le_of_ble_eq_true rfl | (simp; done) | (simp; omega) | omega) ?_
  exact ⟨c15, y1, y9, rfl, rfl, rfl, h2, h10, A16⟩
theorem pn_16 : plainName "java/lang/Character" = true := by first | (simp [plainName, overriddenIn]; done) | decide +kernel
theorem d_jdk_89_method_14_code_0 : decode jdk_89_method_14_code 0 = .ok (.iload_n 0, 1) := by decide +kernel
theorem d_jdk_89_method_14_code_1 : decode jdk_89_method_14_code 1 = .ok (.ldc 75, 2) := by decide +kernel
theorem w_119 {Z : State} {a0 : Array Value} (G : Cl Z a0) : (Jvm.Cond.constant "java/lang/Character" 75 (55296)).before a0 Z = true := G.1 _ (List.mem_of_getElem? (l := tables_1) (i := 119) rfl)
theorem d_jdk_89_method_14_code_3 : decode jdk_89_method_14_code 3 = .ok (.if_icmp .lt 13, 3) := by decide +kernel
theorem d_jdk_89_method_14_code_16 : decode jdk_89_method_14_code 16 = .ok (.iconst 0, 1) := by decide +kernel
theorem d_jdk_89_method_14_code_17 : decode jdk_89_method_14_code 17 = .ok (.ireturn, 1) := by decide +kernel
theorem d_jdk_89_method_14_code_6 : decode jdk_89_method_14_code 6 = .ok (.iload_n 0, 1) := by decide +kernel
theorem d_jdk_89_method_14_code_7 : decode jdk_89_method_14_code 7 = .ok (.ldc 76, 2) := by decide +kernel
theorem w_125 {Z : State} {a0 : Array Value} (G : Cl Z a0) : (Jvm.Cond.constant "java/lang/Character" 76 (56320)).before a0 Z = true := G.1 _ (List.mem_of_getElem? (l := tables_1) (i := 125) rfl)
theorem d_jdk_89_method_14_code_9 : decode jdk_89_method_14_code 9 = .ok (.if_icmp .ge 7, 3) := by decide +kernel
set_option maxRecDepth 65536 in
set_option maxHeartbeats 40000000 in
theorem rm_ihz {l : Launch} {Z : State} {a0 : Array Value} (G : Cl Z a0) (x : Int32) (hB : Bm x) :
    Met l Z EL1 (⟨"java/lang/Character", "isHighSurrogate", "(C)Z"⟩ : MethodName) jdk_89_method_14_code 1 (some .boolean) ({ frames := 0, cells := 0, slots := 0, locals := 0 } : Room) #[.int x] [] [] (fun v σ ρ => v = some (.int 0) ∧ σ = [] ∧ ρ = []) := by
  refine Met.walk G.2.1 pn_16 #[.val (.int x)] (fun m => by first | (simp [entryFrame, mkF, argsToLocals, Value.category]; done) | rfl) ?_
  intro X T0 W0
  refine Go.iloadN (pc' := 1) W0 d_jdk_89_method_14_code_0 rfl rfl ?_
  refine Go.ldcInt (pc' := 3) W0 (w_119 G) d_jdk_89_method_14_code_1 rfl ?_
  refine Go.icmp_lt (pc' := 6) W0 16 d_jdk_89_method_14_code_3 (by decide) rfl (fun (c1 : x < (55296 : Int32)) => ?_) (fun (c1 : ¬ (x < (55296 : Int32))) => ?_)
  · refine Go.iconst (pc' := 17) W0 (0 : Int32) d_jdk_89_method_14_code_16 (by decide) rfl ?_
    refine Go.nret (z' := (0 : Int32)) W0 (by simp) (by decide) d_jdk_89_method_14_code_17 (by first | exact Nat.le_of_ble_eq_true rfl | (simp; done) | (simp; omega) | omega) (by first | exact Nat.le_of_ble_eq_true rfl | (simp; done) | (simp; omega) | omega) ?_
    exact ⟨rfl, rfl, rfl⟩
  · refine Go.iloadN (pc' := 7) W0 d_jdk_89_method_14_code_6 rfl rfl ?_
    refine Go.ldcInt (pc' := 9) W0 (w_125 G) d_jdk_89_method_14_code_7 rfl ?_
    refine Go.icmp_ge (pc' := 12) W0 16 d_jdk_89_method_14_code_9 (by decide) rfl (fun _ => ?_) (fun q => absurd q (hB.nhi c1))
    refine Go.iconst (pc' := 17) W0 (0 : Int32) d_jdk_89_method_14_code_16 (by decide) rfl ?_
    refine Go.nret (z' := (0 : Int32)) W0 (by simp) (by decide) d_jdk_89_method_14_code_17 (by first | exact Nat.le_of_ble_eq_true rfl | (simp; done) | (simp; omega) | omega) (by first | exact Nat.le_of_ble_eq_true rfl | (simp; done) | (simp; omega) | omega) ?_
    exact ⟨rfl, rfl, rfl⟩
theorem d_jdk_89_method_14_code_12 : decode jdk_89_method_14_code 12 = .ok (.iconst 1, 1) := by decide +kernel
theorem d_jdk_89_method_14_code_13 : decode jdk_89_method_14_code 13 = .ok (.goto 4, 3) := by decide +kernel
set_option maxRecDepth 65536 in
set_option maxHeartbeats 40000000 in
theorem rm_iho {l : Launch} {Z : State} {a0 : Array Value} (G : Cl Z a0) (x : Int32) (hH : Hi x) :
    Met l Z EL1 (⟨"java/lang/Character", "isHighSurrogate", "(C)Z"⟩ : MethodName) jdk_89_method_14_code 1 (some .boolean) ({ frames := 0, cells := 0, slots := 0, locals := 0 } : Room) #[.int x] [] [] (fun v σ ρ => v = some (.int 1) ∧ σ = [] ∧ ρ = []) := by
  refine Met.walk G.2.1 pn_16 #[.val (.int x)] (fun m => by first | (simp [entryFrame, mkF, argsToLocals, Value.category]; done) | rfl) ?_
  intro X T0 W0
  refine Go.iloadN (pc' := 1) W0 d_jdk_89_method_14_code_0 rfl rfl ?_
  refine Go.ldcInt (pc' := 3) W0 (w_119 G) d_jdk_89_method_14_code_1 rfl ?_
  refine Go.icmp_lt (pc' := 6) W0 16 d_jdk_89_method_14_code_3 (by decide) rfl (fun q => absurd q hH.1) (fun _ => ?_)
  refine Go.iloadN (pc' := 7) W0 d_jdk_89_method_14_code_6 rfl rfl ?_
  refine Go.ldcInt (pc' := 9) W0 (w_125 G) d_jdk_89_method_14_code_7 rfl ?_
  refine Go.icmp_ge (pc' := 12) W0 16 d_jdk_89_method_14_code_9 (by decide) rfl (fun q => absurd hH.2 q) (fun _ => ?_)
  refine Go.iconst (pc' := 13) W0 (1 : Int32) d_jdk_89_method_14_code_12 (by decide) rfl ?_
  refine Go.goto W0 17 d_jdk_89_method_14_code_13 (by decide) ?_
  refine Go.nret (z' := (1 : Int32)) W0 (by simp) (by decide) d_jdk_89_method_14_code_17 (by first | exact Nat.le_of_ble_eq_true rfl | (simp; done) | (simp; omega) | omega) (by first | exact Nat.le_of_ble_eq_true rfl | (simp; done) | (simp; omega) | omega) ?_
  exact ⟨rfl, rfl, rfl⟩
theorem d_jdk_89_method_15_code_0 : decode jdk_89_method_15_code 0 = .ok (.iload_n 0, 1) := by decide +kernel
theorem d_jdk_89_method_15_code_1 : decode jdk_89_method_15_code 1 = .ok (.ldc 76, 2) := by decide +kernel
theorem d_jdk_89_method_15_code_3 : decode jdk_89_method_15_code 3 = .ok (.if_icmp .lt 13, 3) := by decide +kernel
theorem d_jdk_89_method_15_code_6 : decode jdk_89_method_15_code 6 = .ok (.iload_n 0, 1) := by decide +kernel
theorem d_jdk_89_method_15_code_7 : decode jdk_89_method_15_code 7 = .ok (.ldc 77, 2) := by decide +kernel
theorem w_129 {Z : State} {a0 : Array Value} (G : Cl Z a0) : (Jvm.Cond.constant "java/lang/Character" 77 (57344)).before a0 Z = true := G.1 _ (List.mem_of_getElem? (l := tables_1) (i := 129) rfl)
theorem d_jdk_89_method_15_code_9 : decode jdk_89_method_15_code 9 = .ok (.if_icmp .ge 7, 3) := by decide +kernel
theorem d_jdk_89_method_15_code_12 : decode jdk_89_method_15_code 12 = .ok (.iconst 1, 1) := by decide +kernel
theorem d_jdk_89_method_15_code_13 : decode jdk_89_method_15_code 13 = .ok (.goto 4, 3) := by decide +kernel
theorem d_jdk_89_method_15_code_17 : decode jdk_89_method_15_code 17 = .ok (.ireturn, 1) := by decide +kernel
set_option maxRecDepth 65536 in
set_option maxHeartbeats 40000000 in
theorem rm_ilo {l : Launch} {Z : State} {a0 : Array Value} (G : Cl Z a0) (x : Int32) (hL : Lo x) :
    Met l Z EL1 (⟨"java/lang/Character", "isLowSurrogate", "(C)Z"⟩ : MethodName) jdk_89_method_15_code 1 (some .boolean) ({ frames := 0, cells := 0, slots := 0, locals := 0 } : Room) #[.int x] [] [] (fun v σ ρ => v = some (.int 1) ∧ σ = [] ∧ ρ = []) := by
  refine Met.walk G.2.1 pn_16 #[.val (.int x)] (fun m => by first | (simp [entryFrame, mkF, argsToLocals, Value.category]; done) | rfl) ?_
  intro X T0 W0
  refine Go.iloadN (pc' := 1) W0 d_jdk_89_method_15_code_0 rfl rfl ?_
  refine Go.ldcInt (pc' := 3) W0 (w_125 G) d_jdk_89_method_15_code_1 rfl ?_
  refine Go.icmp_lt (pc' := 6) W0 16 d_jdk_89_method_15_code_3 (by decide) rfl (fun q => absurd q hL.1) (fun _ => ?_)
  refine Go.iloadN (pc' := 7) W0 d_jdk_89_method_15_code_6 rfl rfl ?_
  refine Go.ldcInt (pc' := 9) W0 (w_129 G) d_jdk_89_method_15_code_7 rfl ?_
  refine Go.icmp_ge (pc' := 12) W0 16 d_jdk_89_method_15_code_9 (by decide) rfl (fun q => absurd hL.2 q) (fun _ => ?_)
  refine Go.iconst (pc' := 13) W0 (1 : Int32) d_jdk_89_method_15_code_12 (by decide) rfl ?_
  refine Go.goto W0 17 d_jdk_89_method_15_code_13 (by decide) ?_
  refine Go.nret (z' := (1 : Int32)) W0 (by simp) (by decide) d_jdk_89_method_15_code_17 (by first | exact Nat.le_of_ble_eq_true rfl | (simp; done) | (simp; omega) | omega) (by first | exact Nat.le_of_ble_eq_true rfl | (simp; done) | (simp; omega) | omega) ?_
  exact ⟨rfl, rfl, rfl⟩
theorem d_jdk_89_method_19_code_0 : decode jdk_89_method_19_code 0 = .ok (.iload_n 0, 1) := by decide +kernel
theorem d_jdk_89_method_19_code_1 : decode jdk_89_method_19_code 1 = .ok (.bipush 10, 2) := by decide +kernel
theorem d_jdk_89_method_19_code_3 : decode jdk_89_method_19_code 3 = .ok (.ishl, 1) := by decide +kernel
theorem d_jdk_89_method_19_code_4 : decode jdk_89_method_19_code 4 = .ok (.iload_n 1, 1) := by decide +kernel
theorem d_jdk_89_method_19_code_5 : decode jdk_89_method_19_code 5 = .ok (.iadd, 1) := by decide +kernel
theorem d_jdk_89_method_19_code_6 : decode jdk_89_method_19_code 6 = .ok (.ldc 85, 2) := by decide +kernel
theorem w_133 {Z : State} {a0 : Array Value} (G : Cl Z a0) : (Jvm.Cond.constant "java/lang/Character" 85 (-56613888)).before a0 Z = true := G.1 _ (List.mem_of_getElem? (l := tables_1) (i := 133) rfl)
theorem d_jdk_89_method_19_code_8 : decode jdk_89_method_19_code 8 = .ok (.iadd, 1) := by decide +kernel
theorem d_jdk_89_method_19_code_9 : decode jdk_89_method_19_code 9 = .ok (.ireturn, 1) := by decide +kernel
set_option maxRecDepth 65536 in
set_option maxHeartbeats 40000000 in
theorem rm_tcp {l : Launch} {Z : State} {a0 : Array Value} (G : Cl Z a0) (h l_ : Int32) :
    Met l Z EL1 (⟨"java/lang/Character", "toCodePoint", "(CC)I"⟩ : MethodName) jdk_89_method_19_code 2 (some .int) ({ frames := 0, cells := 0, slots := 0, locals := 0 } : Room) #[.int h, .int l_] [] [] (fun v σ ρ => v = some (.int ((h <<< ((10 : Int32) &&& 31) + l_) + (-56613888 : Int32))) ∧ σ = [] ∧ ρ = []) := by
  refine Met.walk G.2.1 pn_16 #[.val (.int h), .val (.int l_)] (fun m => by first | (simp [entryFrame, mkF, argsToLocals, Value.category]; done) | rfl) ?_
  intro X T0 W0
  refine Go.iloadN (pc' := 1) W0 d_jdk_89_method_19_code_0 rfl rfl ?_
  refine Go.bipush (pc' := 3) W0 (10 : Int32) d_jdk_89_method_19_code_1 (by decide) rfl ?_
  refine Go.ishl (pc' := 4) W0 d_jdk_89_method_19_code_3 rfl ?_
  refine Go.iloadN (pc' := 5) W0 d_jdk_89_method_19_code_4 rfl rfl ?_
  refine Go.iadd (pc' := 6) W0 d_jdk_89_method_19_code_5 rfl ?_
  refine Go.ldcInt (pc' := 8) W0 (w_133 G) d_jdk_89_method_19_code_6 rfl ?_
  refine Go.iadd (pc' := 9) W0 d_jdk_89_method_19_code_8 rfl ?_
  refine Go.iret W0 d_jdk_89_method_19_code_9 (by first | exact Nat.le_of_ble_eq_true rfl | (simp; done) | (simp; omega) | omega) (by first | exact Nat.le_of_ble_eq_true rfl | (simp; done) | (simp; omega) | omega) ?_
  exact ⟨rfl, rfl, rfl⟩
theorem d_jdk_89_method_18_code_0 : decode jdk_89_method_18_code 0 = .ok (.iload_n 0, 1) := by decide +kernel
theorem d_jdk_89_method_18_code_1 : decode jdk_89_method_18_code 1 = .ok (.ldc 73, 2) := by decide +kernel
theorem w_124 {Z : State} {a0 : Array Value} (G : Cl Z a0) : (Jvm.Cond.constant "java/lang/Character" 73 (65536)).before a0 Z = true := G.1 _ (List.mem_of_getElem? (l := tables_1) (i := 124) rfl)
theorem d_jdk_89_method_18_code_3 : decode jdk_89_method_18_code 3 = .ok (.if_icmp .lt 7, 3) := by decide +kernel
theorem d_jdk_89_method_18_code_10 : decode jdk_89_method_18_code 10 = .ok (.iconst 1, 1) := by decide +kernel
theorem d_jdk_89_method_18_code_11 : decode jdk_89_method_18_code 11 = .ok (.ireturn, 1) := by decide +kernel
set_option maxRecDepth 65536 in
set_option maxHeartbeats 40000000 in
theorem rm_cca {l : Launch} {Z : State} {a0 : Array Value} (G : Cl Z a0) (x : Int32) (h : x < (65536 : Int32)) :
    Met l Z EL1 (⟨"java/lang/Character", "charCount", "(I)I"⟩ : MethodName) jdk_89_method_18_code 1 (some .int) ({ frames := 0, cells := 0, slots := 0, locals := 0 } : Room) #[.int x] [] [] (fun v σ ρ => v = some (.int 1) ∧ σ = [] ∧ ρ = []) := by
  refine Met.walk G.2.1 pn_16 #[.val (.int x)] (fun m => by first | (simp [entryFrame, mkF, argsToLocals, Value.category]; done) | rfl) ?_
  intro X T0 W0
  refine Go.iloadN (pc' := 1) W0 d_jdk_89_method_18_code_0 rfl rfl ?_
  refine Go.ldcInt (pc' := 3) W0 (w_124 G) d_jdk_89_method_18_code_1 rfl ?_
  refine Go.icmp_lt (pc' := 6) W0 10 d_jdk_89_method_18_code_3 (by decide) rfl (fun _ => ?_) (fun q => absurd h q)
  refine Go.iconst (pc' := 11) W0 (1 : Int32) d_jdk_89_method_18_code_10 (by decide) rfl ?_
  refine Go.iret W0 d_jdk_89_method_18_code_11 (by first | exact Nat.le_of_ble_eq_true rfl | (simp; done) | (simp; omega) | omega) (by first | exact Nat.le_of_ble_eq_true rfl | (simp; done) | (simp; omega) | omega) ?_
  exact ⟨rfl, rfl, rfl⟩
theorem d_jdk_89_method_18_code_6 : decode jdk_89_method_18_code 6 = .ok (.iconst 2, 1) := by decide +kernel
theorem d_jdk_89_method_18_code_7 : decode jdk_89_method_18_code 7 = .ok (.goto 4, 3) := by decide +kernel
set_option maxRecDepth 65536 in
set_option maxHeartbeats 40000000 in
theorem rm_ccb {l : Launch} {Z : State} {a0 : Array Value} (G : Cl Z a0) (x : Int32) (h : ¬ x < (65536 : Int32)) :
    Met l Z EL1 (⟨"java/lang/Character", "charCount", "(I)I"⟩ : MethodName) jdk_89_method_18_code 1 (some .int) ({ frames := 0, cells := 0, slots := 0, locals := 0 } : Room) #[.int x] [] [] (fun v σ ρ => v = some (.int 2) ∧ σ = [] ∧ ρ = []) := by
  refine Met.walk G.2.1 pn_16 #[.val (.int x)] (fun m => by first | (simp [entryFrame, mkF, argsToLocals, Value.category]; done) | rfl) ?_
  intro X T0 W0
  refine Go.iloadN (pc' := 1) W0 d_jdk_89_method_18_code_0 rfl rfl ?_
  refine Go.ldcInt (pc' := 3) W0 (w_124 G) d_jdk_89_method_18_code_1 rfl ?_
  refine Go.icmp_lt (pc' := 6) W0 10 d_jdk_89_method_18_code_3 (by decide) rfl (fun q => absurd q h) (fun _ => ?_)
  refine Go.iconst (pc' := 7) W0 (2 : Int32) d_jdk_89_method_18_code_6 (by decide) rfl ?_
  refine Go.goto W0 11 d_jdk_89_method_18_code_7 (by decide) ?_
  refine Go.iret W0 d_jdk_89_method_18_code_11 (by first | exact Nat.le_of_ble_eq_true rfl | (simp; done) | (simp; omega) | omega) (by first | exact Nat.le_of_ble_eq_true rfl | (simp; done) | (simp; omega) | omega) ?_
  exact ⟨rfl, rfl, rfl⟩
theorem d_jdk_52_method_7_code_0 : decode jdk_52_method_7_code 0 = .ok (.getstatic 44, 3) := by decide +kernel
theorem d_jdk_52_method_7_code_3 : decode jdk_52_method_7_code 3 = .ok (.ifCond .ne 16, 3) := by decide +kernel
theorem d_jdk_52_method_7_code_19 : decode jdk_52_method_7_code 19 = .ok (.iload_n 3, 1) := by decide +kernel
theorem d_jdk_52_method_7_code_20 : decode jdk_52_method_7_code 20 = .ok (.ifCond .eq 8, 3) := by decide +kernel
theorem d_jdk_52_method_7_code_28 : decode jdk_52_method_7_code 28 = .ok (.aload_n 0, 1) := by decide +kernel
theorem d_jdk_52_method_7_code_29 : decode jdk_52_method_7_code 29 = .ok (.iload_n 1, 1) := by decide +kernel
theorem d_jdk_52_method_7_code_30 : decode jdk_52_method_7_code 30 = .ok (.invokestatic 71, 3) := by decide +kernel
theorem d_jdk_52_method_7_code_33 : decode jdk_52_method_7_code 33 = .ok (.istore 4, 2) := by decide +kernel
theorem d_jdk_52_method_7_code_35 : decode jdk_52_method_7_code 35 = .ok (.iload 4, 2) := by decide +kernel
theorem d_jdk_52_method_7_code_37 : decode jdk_52_method_7_code 37 = .ok (.invokestatic 75, 3) := by decide +kernel
theorem w_115 {Z : State} {a0 : Array Value} (G : Cl Z a0) : (Jvm.Cond.methodLink "java/lang/StringUTF16" 75 (⟨"java/lang/Character", "isHighSurrogate", "(C)Z"⟩ : MethodName)).before a0 Z = true := G.1 _ (List.mem_of_getElem? (l := tables_1) (i := 115) rfl)
theorem w_117 {Z : State} {a0 : Array Value} (G : Cl Z a0) : (Jvm.Cond.initialized "java/lang/Character").before a0 Z = true := G.1 _ (List.mem_of_getElem? (l := tables_1) (i := 117) rfl)
theorem w_118 {Z : State} {a0 : Array Value} (G : Cl Z a0) : (Jvm.Cond.code (⟨"java/lang/Character", "isHighSurrogate", "(C)Z"⟩ : MethodName) jdk_89_method_14_code 1 (some .boolean)).before a0 Z = true := G.1 _ (List.mem_of_getElem? (l := tables_1) (i := 118) rfl)
theorem pd_17 : parseMethodDescriptor "(C)Z" = some ⟨[.char], some .boolean⟩ := by decide +kernel
theorem w_116 {Z : State} {a0 : Array Value} (G : Cl Z a0) : (Jvm.Cond.static (⟨"java/lang/Character", "isHighSurrogate", "(C)Z"⟩ : MethodName)).before a0 Z = true := G.1 _ (List.mem_of_getElem? (l := tables_1) (i := 116) rfl)
theorem d_jdk_52_method_7_code_40 : decode jdk_52_method_7_code 40 = .ok (.ifCond .eq 43, 3) := by decide +kernel
theorem d_jdk_52_method_7_code_83 : decode jdk_52_method_7_code 83 = .ok (.iload 4, 2) := by decide +kernel
theorem d_jdk_52_method_7_code_85 : decode jdk_52_method_7_code 85 = .ok (.ireturn, 1) := by decide +kernel
set_option maxRecDepth 65536 in
set_option maxHeartbeats 40000000 in
theorem rm_ufb {l : Launch} {Z : State} {a0 : Array Value} (G : Cl Z a0) (b : Addr) (cb : Cell) (cs : List Int32) (B : ArrC Z cb .byte (utfB cs)) (i : Nat) (x : Int32) (hB : Bm x) (hx : cs[i]? = some x) :
    Met l Z EL1 (⟨"java/lang/StringUTF16", "codePointAt", "([BIIZ)I"⟩ : MethodName) jdk_52_method_7_code 6 (some .int) ({ frames := 1, cells := 0, slots := 0, locals := 20 } : Room) #[.ref b, .int i.toInt32, .int cs.length.toInt32, .int (0 : Int32)] [] [(b, cb)] (fun v σ ρ => v = some (.int x) ∧ σ = [] ∧ ρ = []) := by
  refine Met.walk G.2.1 pn_0 #[.val (.ref b), .val (.int i.toInt32), .val (.int cs.length.toInt32), .val (.int (0 : Int32)), .unset, .unset] (fun m => by first | (simp [entryFrame, mkF, argsToLocals, Value.category]; done) | rfl) ?_
  intro X T0 W0
  have hn := B.2.2.2.2
  rw [utfB_len] at hn
  have hi := (List.getElem?_eq_some_iff.mp hx).1
  refine Go.getstatic (pc' := 3) W0 (w_52 G) Via.refl G.2.2.2.2.1 d_jdk_52_method_7_code_0 rfl (fun T1 W2 => ?_)
  refine Go.if_ne (pc' := 6) W2 19 d_jdk_52_method_7_code_3 (by decide) rfl (fun _ => ?_) (fun q => absurd q (by decide))
  refine Go.iloadN (pc' := 20) W2 d_jdk_52_method_7_code_19 rfl rfl ?_
  refine Go.if_eq (pc' := 23) W2 28 d_jdk_52_method_7_code_20 (by decide) rfl (fun _ => ?_) (fun q => absurd (by decide) q)
  refine Go.aloadN (pc' := 29) W2 d_jdk_52_method_7_code_28 rfl rfl rfl ?_
  refine Go.iloadN (pc' := 30) W2 d_jdk_52_method_7_code_29 rfl rfl ?_
  refine Go.static (pc' := 33) W2 (rm_getR G b cb cs i x B hB.1 hx) (w_55 G) (w_56 G) (w_33 G) (w_57 G) (by decide) [] [0] (σf := []) rfl rfl [(.ref b), (.int i.toInt32)] [] rfl (lenOf pd_6 rfl) rfl rfl d_jdk_52_method_7_code_30 rfl (by first | exact Nat.le_of_ble_eq_true rfl | (simp; done) | (simp; omega) | omega) (by first | exact Nat.le_of_ble_eq_true rfl | (simp; done) | (simp; omega) | omega) (by first | exact Nat.le_of_ble_eq_true rfl | (simp; done) | (simp; omega) | omega) (by first | exact Nat.le_of_ble_eq_true rfl | (simp; done) | (simp; omega) | omega) ?_
  rintro _ _ _ T3 ⟨rfl, rfl, rfl⟩ W4
  replace W4 : Wk l Z EL1 ({ frames := 1, cells := 0, slots := 0, locals := 20 } : Room) "java/lang/StringUTF16" jdk_52_method_7_code 6 (some .int) "codePointAt" X [] [(b, cb)] T3 0 (0) := W4
  show Go Z EL1 _ _ _ X T3 33 #[.val (.ref b), .val (.int i.toInt32), .val (.int cs.length.toInt32), .val (.int (0 : Int32)), .unset, .unset] [(.int x)]
  refine Go.istore (pc' := 35) W4 #[.val (.ref b), .val (.int i.toInt32), .val (.int cs.length.toInt32), .val (.int (0 : Int32)), .val (.int x), .unset] d_jdk_52_method_7_code_33 rfl rfl ?_
  refine Go.iload (pc' := 37) W4 d_jdk_52_method_7_code_35 rfl rfl ?_
  refine Go.static (pc' := 40) W4 (rm_ihz G x hB) (w_115 G) (w_116 G) (w_117 G) (w_118 G) (by decide) [] [] (σf := []) rfl rfl [(.int x)] [] rfl (lenOf pd_17 rfl) rfl rfl d_jdk_52_method_7_code_37 rfl (by first | exact Nat.le_of_ble_eq_true rfl | (simp; done) | (simp; omega) | omega) (by first | exact Nat.le_of_ble_eq_true rfl | (simp; done) | (simp; omega) | omega) (by first | exact Nat.le_of_ble_eq_true rfl | (simp; done) | (simp; omega) | omega) (by first | exact Nat.le_of_ble_eq_true rfl | (simp; done) | (simp; omega) | omega) ?_
  rintro _ _ _ T5 ⟨rfl, rfl, rfl⟩ W6
  replace W6 : Wk l Z EL1 ({ frames := 1, cells := 0, slots := 0, locals := 20 } : Room) "java/lang/StringUTF16" jdk_52_method_7_code 6 (some .int) "codePointAt" X [] [(b, cb)] T5 0 (0) := W6
  show Go Z EL1 _ _ _ X T5 40 #[.val (.ref b), .val (.int i.toInt32), .val (.int cs.length.toInt32), .val (.int (0 : Int32)), .val (.int x), .unset] [(.int (0 : Int32))]
  refine Go.if_eq (pc' := 43) W6 83 d_jdk_52_method_7_code_40 (by decide) rfl (fun _ => ?_) (fun q => absurd (by decide) q)
  refine Go.iload (pc' := 85) W6 d_jdk_52_method_7_code_83 rfl rfl ?_
  have W7 := W6.keepRo [] (ρ' := []) rfl
  replace W7 : Wk l Z EL1 ({ frames := 1, cells := 0, slots := 0, locals := 20 } : Room) "java/lang/StringUTF16" jdk_52_method_7_code 6 (some .int) "codePointAt" X [] [] T5 0 (0) := W7
  refine Go.iret W7 d_jdk_52_method_7_code_85 (by first | exact Nat.le_of_ble_eq_true rfl | (simp; done) | (simp; omega) | omega) (by first | exact Nat.le_of_ble_eq_true rfl | (simp; done) | (simp; omega) | omega) ?_
  exact ⟨rfl, rfl, rfl⟩
theorem d_jdk_52_method_7_code_43 : decode jdk_52_method_7_code 43 = .ok (.iinc 1 1, 3) := by decide +kernel
theorem d_jdk_52_method_7_code_46 : decode jdk_52_method_7_code 46 = .ok (.iload_n 1, 1) := by decide +kernel
theorem d_jdk_52_method_7_code_47 : decode jdk_52_method_7_code 47 = .ok (.iload_n 2, 1) := by decide +kernel
theorem d_jdk_52_method_7_code_48 : decode jdk_52_method_7_code 48 = .ok (.if_icmp .ge 35, 3) := by decide +kernel
theorem d_jdk_52_method_7_code_51 : decode jdk_52_method_7_code 51 = .ok (.iload_n 3, 1) := by decide +kernel
theorem d_jdk_52_method_7_code_52 : decode jdk_52_method_7_code 52 = .ok (.ifCond .eq 8, 3) := by decide +kernel
theorem d_jdk_52_method_7_code_60 : decode jdk_52_method_7_code 60 = .ok (.aload_n 0, 1) := by decide +kernel
theorem d_jdk_52_method_7_code_61 : decode jdk_52_method_7_code 61 = .ok (.iload_n 1, 1) := by decide +kernel
theorem d_jdk_52_method_7_code_62 : decode jdk_52_method_7_code 62 = .ok (.invokestatic 71, 3) := by decide +kernel
theorem d_jdk_52_method_7_code_65 : decode jdk_52_method_7_code 65 = .ok (.istore 5, 2) := by decide +kernel
theorem d_jdk_52_method_7_code_67 : decode jdk_52_method_7_code 67 = .ok (.iload 5, 2) := by decide +kernel
theorem d_jdk_52_method_7_code_69 : decode jdk_52_method_7_code 69 = .ok (.invokestatic 81, 3) := by decide +kernel
theorem w_126 {Z : State} {a0 : Array Value} (G : Cl Z a0) : (Jvm.Cond.methodLink "java/lang/StringUTF16" 81 (⟨"java/lang/Character", "isLowSurrogate", "(C)Z"⟩ : MethodName)).before a0 Z = true := G.1 _ (List.mem_of_getElem? (l := tables_1) (i := 126) rfl)
theorem w_128 {Z : State} {a0 : Array Value} (G : Cl Z a0) : (Jvm.Cond.code (⟨"java/lang/Character", "isLowSurrogate", "(C)Z"⟩ : MethodName) jdk_89_method_15_code 1 (some .boolean)).before a0 Z = true := G.1 _ (List.mem_of_getElem? (l := tables_1) (i := 128) rfl)
theorem w_127 {Z : State} {a0 : Array Value} (G : Cl Z a0) : (Jvm.Cond.static (⟨"java/lang/Character", "isLowSurrogate", "(C)Z"⟩ : MethodName)).before a0 Z = true := G.1 _ (List.mem_of_getElem? (l := tables_1) (i := 127) rfl)
theorem d_jdk_52_method_7_code_72 : decode jdk_52_method_7_code 72 = .ok (.ifCond .eq 11, 3) := by decide +kernel
theorem d_jdk_52_method_7_code_75 : decode jdk_52_method_7_code 75 = .ok (.iload 4, 2) := by decide +kernel
theorem d_jdk_52_method_7_code_77 : decode jdk_52_method_7_code 77 = .ok (.iload 5, 2) := by decide +kernel
theorem d_jdk_52_method_7_code_79 : decode jdk_52_method_7_code 79 = .ok (.invokestatic 84, 3) := by decide +kernel
theorem w_130 {Z : State} {a0 : Array Value} (G : Cl Z a0) : (Jvm.Cond.methodLink "java/lang/StringUTF16" 84 (⟨"java/lang/Character", "toCodePoint", "(CC)I"⟩ : MethodName)).before a0 Z = true := G.1 _ (List.mem_of_getElem? (l := tables_1) (i := 130) rfl)
theorem w_132 {Z : State} {a0 : Array Value} (G : Cl Z a0) : (Jvm.Cond.code (⟨"java/lang/Character", "toCodePoint", "(CC)I"⟩ : MethodName) jdk_89_method_19_code 2 (some .int)).before a0 Z = true := G.1 _ (List.mem_of_getElem? (l := tables_1) (i := 132) rfl)
theorem pd_18 : parseMethodDescriptor "(CC)I" = some ⟨[.char, .char], some .int⟩ := by decide +kernel
theorem w_131 {Z : State} {a0 : Array Value} (G : Cl Z a0) : (Jvm.Cond.static (⟨"java/lang/Character", "toCodePoint", "(CC)I"⟩ : MethodName)).before a0 Z = true := G.1 _ (List.mem_of_getElem? (l := tables_1) (i := 131) rfl)
theorem d_jdk_52_method_7_code_82 : decode jdk_52_method_7_code 82 = .ok (.ireturn, 1) := by decide +kernel
set_option maxRecDepth 65536 in
set_option maxHeartbeats 40000000 in
theorem rm_ufp {l : Launch} {Z : State} {a0 : Array Value} (G : Cl Z a0) (b : Addr) (cb : Cell) (cs : List Int32) (B : ArrC Z cb .byte (utfB cs)) (i : Nat) (h l_ : Int32) (hH : Hi h) (hL : Lo l_) (hx : cs[i]? = some h) (hy : cs[i + 1]? = some l_) :
    Met l Z EL1 (⟨"java/lang/StringUTF16", "codePointAt", "([BIIZ)I"⟩ : MethodName) jdk_52_method_7_code 6 (some .int) ({ frames := 1, cells := 0, slots := 0, locals := 20 } : Room) #[.ref b, .int i.toInt32, .int cs.length.toInt32, .int (0 : Int32)] [] [(b, cb)] (fun v σ ρ => v = some (.int ((h <<< ((10 : Int32) &&& 31) + l_) + (-56613888 : Int32))) ∧ σ = [] ∧ ρ = []) := by
  refine Met.walk G.2.1 pn_0 #[.val (.ref b), .val (.int i.toInt32), .val (.int cs.length.toInt32), .val (.int (0 : Int32)), .unset, .unset] (fun m => by first | (simp [entryFrame, mkF, argsToLocals, Value.category]; done) | rfl) ?_
  intro X T0 W0
  have hn := B.2.2.2.2
  rw [utfB_len] at hn
  have hi := (List.getElem?_eq_some_iff.mp hx).1
  have hj := (List.getElem?_eq_some_iff.mp hy).1
  refine Go.getstatic (pc' := 3) W0 (w_52 G) Via.refl G.2.2.2.2.1 d_jdk_52_method_7_code_0 rfl (fun T1 W2 => ?_)
  refine Go.if_ne (pc' := 6) W2 19 d_jdk_52_method_7_code_3 (by decide) rfl (fun _ => ?_) (fun q => absurd q (by decide))
  refine Go.iloadN (pc' := 20) W2 d_jdk_52_method_7_code_19 rfl rfl ?_
  refine Go.if_eq (pc' := 23) W2 28 d_jdk_52_method_7_code_20 (by decide) rfl (fun _ => ?_) (fun q => absurd (by decide) q)
  refine Go.aloadN (pc' := 29) W2 d_jdk_52_method_7_code_28 rfl rfl rfl ?_
  refine Go.iloadN (pc' := 30) W2 d_jdk_52_method_7_code_29 rfl rfl ?_
  refine Go.static (pc' := 33) W2 (rm_getR G b cb cs i h B hH.chr hx) (w_55 G) (w_56 G) (w_33 G) (w_57 G) (by decide) [] [0] (σf := []) rfl rfl [(.ref b), (.int i.toInt32)] [] rfl (lenOf pd_6 rfl) rfl rfl d_jdk_52_method_7_code_30 rfl (by first | exact Nat.le_of_ble_eq_true rfl | (simp; done) | (simp; omega) | omega) (by first | exact Nat.le_of_ble_eq_true rfl | (simp; done) | (simp; omega) | omega) (by first | exact Nat.le_of_ble_eq_true rfl | (simp; done) | (simp; omega) | omega) (by first | exact Nat.le_of_ble_eq_true rfl | (simp; done) | (simp; omega) | omega) ?_
  rintro _ _ _ T3 ⟨rfl, rfl, rfl⟩ W4
  replace W4 : Wk l Z EL1 ({ frames := 1, cells := 0, slots := 0, locals := 20 } : Room) "java/lang/StringUTF16" jdk_52_method_7_code 6 (some .int) "codePointAt" X [] [(b, cb)] T3 0 (0) := W4
  show Go Z EL1 _ _ _ X T3 33 #[.val (.ref b), .val (.int i.toInt32), .val (.int cs.length.toInt32), .val (.int (0 : Int32)), .unset, .unset] [(.int h)]
  refine Go.istore (pc' := 35) W4 #[.val (.ref b), .val (.int i.toInt32), .val (.int cs.length.toInt32), .val (.int (0 : Int32)), .val (.int h), .unset] d_jdk_52_method_7_code_33 rfl rfl ?_
  refine Go.iload (pc' := 37) W4 d_jdk_52_method_7_code_35 rfl rfl ?_
  refine Go.static (pc' := 40) W4 (rm_iho G h hH) (w_115 G) (w_116 G) (w_117 G) (w_118 G) (by decide) [] [] (σf := []) rfl rfl [(.int h)] [] rfl (lenOf pd_17 rfl) rfl rfl d_jdk_52_method_7_code_37 rfl (by first | exact Nat.le_of_ble_eq_true rfl | (simp; done) | (simp; omega) | omega) (by first | exact Nat.le_of_ble_eq_true rfl | (simp; done) | (simp; omega) | omega) (by first | exact Nat.le_of_ble_eq_true rfl | (simp; done) | (simp; omega) | omega) (by first | exact Nat.le_of_ble_eq_true rfl | (simp; done) | (simp; omega) | omega) ?_
  rintro _ _ _ T5 ⟨rfl, rfl, rfl⟩ W6
  replace W6 : Wk l Z EL1 ({ frames := 1, cells := 0, slots := 0, locals := 20 } : Room) "java/lang/StringUTF16" jdk_52_method_7_code 6 (some .int) "codePointAt" X [] [(b, cb)] T5 0 (0) := W6
  show Go Z EL1 _ _ _ X T5 40 #[.val (.ref b), .val (.int i.toInt32), .val (.int cs.length.toInt32), .val (.int (0 : Int32)), .val (.int h), .unset] [(.int (1 : Int32))]
  refine Go.if_eq (pc' := 43) W6 83 d_jdk_52_method_7_code_40 (by decide) rfl (fun q => absurd q (by decide)) (fun _ => ?_)
  refine Go.iinc (pc' := 46) W6 (1 : Int32) #[.val (.ref b), .val (.int (i.toInt32 + (1 : Int32))), .val (.int cs.length.toInt32), .val (.int (0 : Int32)), .val (.int h), .unset] d_jdk_52_method_7_code_43 rfl (by decide) rfl rfl ?_
  rw [show (i.toInt32 + (1 : Int32)) = (i + 1).toInt32 from i32_an i 1]
  refine Go.iloadN (pc' := 47) W6 d_jdk_52_method_7_code_46 rfl rfl ?_
  refine Go.iloadN (pc' := 48) W6 d_jdk_52_method_7_code_47 rfl rfl ?_
  refine Go.icmp_ge (pc' := 51) W6 83 d_jdk_52_method_7_code_48 (by decide) rfl (fun q => absurd ((i32_lt (by omega) (by omega)).mpr hj) q) (fun _ => ?_)
  refine Go.iloadN (pc' := 52) W6 d_jdk_52_method_7_code_51 rfl rfl ?_
  refine Go.if_eq (pc' := 55) W6 60 d_jdk_52_method_7_code_52 (by decide) rfl (fun _ => ?_) (fun q => absurd (by decide) q)
  refine Go.aloadN (pc' := 61) W6 d_jdk_52_method_7_code_60 rfl rfl rfl ?_
  refine Go.iloadN (pc' := 62) W6 d_jdk_52_method_7_code_61 rfl rfl ?_
  refine Go.static (pc' := 65) W6 (rm_getR G b cb cs (i + 1) l_ B hL.chr hy) (w_55 G) (w_56 G) (w_33 G) (w_57 G) (by decide) [] [0] (σf := []) rfl rfl [(.ref b), (.int (i + 1).toInt32)] [] rfl (lenOf pd_6 rfl) rfl rfl d_jdk_52_method_7_code_62 rfl (by first | exact Nat.le_of_ble_eq_true rfl | (simp; done) | (simp; omega) | omega) (by first | exact Nat.le_of_ble_eq_true rfl | (simp; done) | (simp; omega) | omega) (by first | exact Nat.le_of_ble_eq_true rfl | (simp; done) | (simp; omega) | omega) (by first | exact Nat.le_of_ble_eq_true rfl | (simp; done) | (simp; omega) | omega) ?_
  rintro _ _ _ T7 ⟨rfl, rfl, rfl⟩ W8
  replace W8 : Wk l Z EL1 ({ frames := 1, cells := 0, slots := 0, locals := 20 } : Room) "java/lang/StringUTF16" jdk_52_method_7_code 6 (some .int) "codePointAt" X [] [(b, cb)] T7 0 (0) := W8
  show Go Z EL1 _ _ _ X T7 65 #[.val (.ref b), .val (.int (i + 1).toInt32), .val (.int cs.length.toInt32), .val (.int (0 : Int32)), .val (.int h), .unset] [(.int l_)]
  refine Go.istore (pc' := 67) W8 #[.val (.ref b), .val (.int (i + 1).toInt32), .val (.int cs.length.toInt32), .val (.int (0 : Int32)), .val (.int h), .val (.int l_)] d_jdk_52_method_7_code_65 rfl rfl ?_
  refine Go.iload (pc' := 69) W8 d_jdk_52_method_7_code_67 rfl rfl ?_
  refine Go.static (pc' := 72) W8 (rm_ilo G l_ hL) (w_126 G) (w_127 G) (w_117 G) (w_128 G) (by decide) [] [] (σf := []) rfl rfl [(.int l_)] [] rfl (lenOf pd_17 rfl) rfl rfl d_jdk_52_method_7_code_69 rfl (by first | exact Nat.le_of_ble_eq_true rfl | (simp; done) | (simp; omega) | omega) (by first | exact Nat.le_of_ble_eq_true rfl | (simp; done) | (simp; omega) | omega) (by first | exact Nat.le_of_ble_eq_true rfl | (simp; done) | (simp; omega) | omega) (by first | exact Nat.le_of_ble_eq_true rfl | (simp; done) | (simp; omega) | omega) ?_
  rintro _ _ _ T9 ⟨rfl, rfl, rfl⟩ W10
  replace W10 : Wk l Z EL1 ({ frames := 1, cells := 0, slots := 0, locals := 20 } : Room) "java/lang/StringUTF16" jdk_52_method_7_code 6 (some .int) "codePointAt" X [] [(b, cb)] T9 0 (0) := W10
  show Go Z EL1 _ _ _ X T9 72 #[.val (.ref b), .val (.int (i + 1).toInt32), .val (.int cs.length.toInt32), .val (.int (0 : Int32)), .val (.int h), .val (.int l_)] [(.int (1 : Int32))]
  refine Go.if_eq (pc' := 75) W10 83 d_jdk_52_method_7_code_72 (by decide) rfl (fun q => absurd q (by decide)) (fun _ => ?_)
  refine Go.iload (pc' := 77) W10 d_jdk_52_method_7_code_75 rfl rfl ?_
  refine Go.iload (pc' := 79) W10 d_jdk_52_method_7_code_77 rfl rfl ?_
  refine Go.static (pc' := 82) W10 (rm_tcp G h l_) (w_130 G) (w_131 G) (w_117 G) (w_132 G) (by decide) [] [] (σf := []) rfl rfl [(.int h), (.int l_)] [] rfl (lenOf pd_18 rfl) rfl rfl d_jdk_52_method_7_code_79 rfl (by first | exact Nat.le_of_ble_eq_true rfl | (simp; done) | (simp; omega) | omega) (by first | exact Nat.le_of_ble_eq_true rfl | (simp; done) | (simp; omega) | omega) (by first | exact Nat.le_of_ble_eq_true rfl | (simp; done) | (simp; omega) | omega) (by first | exact Nat.le_of_ble_eq_true rfl | (simp; done) | (simp; omega) | omega) ?_
  rintro _ _ _ T11 ⟨rfl, rfl, rfl⟩ W12
  replace W12 : Wk l Z EL1 ({ frames := 1, cells := 0, slots := 0, locals := 20 } : Room) "java/lang/StringUTF16" jdk_52_method_7_code 6 (some .int) "codePointAt" X [] [(b, cb)] T11 0 (0) := W12
  show Go Z EL1 _ _ _ X T11 82 #[.val (.ref b), .val (.int (i + 1).toInt32), .val (.int cs.length.toInt32), .val (.int (0 : Int32)), .val (.int h), .val (.int l_)] [(.int ((h <<< ((10 : Int32) &&& 31) + l_) + (-56613888 : Int32)))]
  have W13 := W12.keepRo [] (ρ' := []) rfl
  replace W13 : Wk l Z EL1 ({ frames := 1, cells := 0, slots := 0, locals := 20 } : Room) "java/lang/StringUTF16" jdk_52_method_7_code 6 (some .int) "codePointAt" X [] [] T11 0 (0) := W13
  refine Go.iret W13 d_jdk_52_method_7_code_82 (by first | exact Nat.le_of_ble_eq_true rfl | (simp; done) | (simp; omega) | omega) (by first | exact Nat.le_of_ble_eq_true rfl | (simp; done) | (simp; omega) | omega) ?_
  exact ⟨rfl, rfl, rfl⟩
theorem d_jdk_52_method_8_code_0 : decode jdk_52_method_8_code 0 = .ok (.aload_n 0, 1) := by decide +kernel
theorem d_jdk_52_method_8_code_1 : decode jdk_52_method_8_code 1 = .ok (.iload_n 1, 1) := by decide +kernel
theorem d_jdk_52_method_8_code_2 : decode jdk_52_method_8_code 2 = .ok (.iload_n 2, 1) := by decide +kernel
theorem d_jdk_52_method_8_code_3 : decode jdk_52_method_8_code 3 = .ok (.iconst 0, 1) := by decide +kernel
theorem d_jdk_52_method_8_code_4 : decode jdk_52_method_8_code 4 = .ok (.invokestatic 88, 3) := by decide +kernel
theorem w_112 {Z : State} {a0 : Array Value} (G : Cl Z a0) : (Jvm.Cond.methodLink "java/lang/StringUTF16" 88 (⟨"java/lang/StringUTF16", "codePointAt", "([BIIZ)I"⟩ : MethodName)).before a0 Z = true := G.1 _ (List.mem_of_getElem? (l := tables_1) (i := 112) rfl)
theorem w_114 {Z : State} {a0 : Array Value} (G : Cl Z a0) : (Jvm.Cond.code (⟨"java/lang/StringUTF16", "codePointAt", "([BIIZ)I"⟩ : MethodName) jdk_52_method_7_code 6 (some .int)).before a0 Z = true := G.1 _ (List.mem_of_getElem? (l := tables_1) (i := 114) rfl)
theorem pd_19 : parseMethodDescriptor "([BIIZ)I" = some ⟨[(.array .byte), .int, .int, .boolean], some .int⟩ := by decide +kernel
theorem w_113 {Z : State} {a0 : Array Value} (G : Cl Z a0) : (Jvm.Cond.static (⟨"java/lang/StringUTF16", "codePointAt", "([BIIZ)I"⟩ : MethodName)).before a0 Z = true := G.1 _ (List.mem_of_getElem? (l := tables_1) (i := 113) rfl)
theorem d_jdk_52_method_8_code_7 : decode jdk_52_method_8_code 7 = .ok (.ireturn, 1) := by decide +kernel
set_option maxRecDepth 65536 in
set_option maxHeartbeats 40000000 in
theorem rm_utb {l : Launch} {Z : State} {a0 : Array Value} (G : Cl Z a0) (b : Addr) (cb : Cell) (cs : List Int32) (B : ArrC Z cb .byte (utfB cs)) (i : Nat) (x : Int32) (hB : Bm x) (hx : cs[i]? = some x) :
    Met l Z EL1 (⟨"java/lang/StringUTF16", "codePointAt", "([BII)I"⟩ : MethodName) jdk_52_method_8_code 3 (some .int) ({ frames := 2, cells := 0, slots := 0, locals := 37 } : Room) #[.ref b, .int i.toInt32, .int cs.length.toInt32] [] [(b, cb)] (fun v σ ρ => v = some (.int x) ∧ σ = [] ∧ ρ = []) := by
  refine Met.walk G.2.1 pn_0 #[.val (.ref b), .val (.int i.toInt32), .val (.int cs.length.toInt32)] (fun m => by first | (simp [entryFrame, mkF, argsToLocals, Value.category]; done) | rfl) ?_
  intro X T0 W0
  refine Go.aloadN (pc' := 1) W0 d_jdk_52_method_8_code_0 rfl rfl rfl ?_
  refine Go.iloadN (pc' := 2) W0 d_jdk_52_method_8_code_1 rfl rfl ?_
  refine Go.iloadN (pc' := 3) W0 d_jdk_52_method_8_code_2 rfl rfl ?_
  refine Go.iconst (pc' := 4) W0 (0 : Int32) d_jdk_52_method_8_code_3 (by decide) rfl ?_
  refine Go.static (pc' := 7) W0 (rm_ufb G b cb cs B i x hB hx) (w_112 G) (w_113 G) (w_33 G) (w_114 G) (by decide) [] [0] (σf := []) rfl rfl [(.ref b), (.int i.toInt32), (.int cs.length.toInt32), (.int (0 : Int32))] [] rfl (lenOf pd_19 rfl) rfl rfl d_jdk_52_method_8_code_4 rfl (by first | exact Nat.le_of_ble_eq_true rfl | (simp; done) | (simp; omega) | omega) (by first | exact Nat.le_of_ble_eq_true rfl | (simp; done) | (simp; omega) | omega) (by first | exact Nat.le_of_ble_eq_true rfl | (simp; done) | (simp; omega) | omega) (by first | exact Nat.le_of_ble_eq_true rfl | (simp; done) | (simp; omega) | omega) ?_
  rintro _ _ _ T1 ⟨rfl, rfl, rfl⟩ W2
  replace W2 : Wk l Z EL1 ({ frames := 2, cells := 0, slots := 0, locals := 37 } : Room) "java/lang/StringUTF16" jdk_52_method_8_code 3 (some .int) "codePointAt" X [] [(b, cb)] T1 0 (0) := W2
  show Go Z EL1 _ _ _ X T1 7 #[.val (.ref b), .val (.int i.toInt32), .val (.int cs.length.toInt32)] [(.int x)]
  have W3 := W2.keepRo [] (ρ' := []) rfl
  replace W3 : Wk l Z EL1 ({ frames := 2, cells := 0, slots := 0, locals := 37 } : Room) "java/lang/StringUTF16" jdk_52_method_8_code 3 (some .int) "codePointAt" X [] [] T1 0 (0) := W3
  refine Go.iret W3 d_jdk_52_method_8_code_7 (by first | exact Nat.le_of_ble_eq_true rfl | (simp; done) | (simp; omega) | omega) (by first | exact Nat.le_of_ble_eq_true rfl | (simp; done) | (simp; omega) | omega) ?_
  exact ⟨rfl, rfl, rfl⟩
set_option maxRecDepth 65536 in
set_option maxHeartbeats 40000000 in
theorem rm_utp {l : Launch} {Z : State} {a0 : Array Value} (G : Cl Z a0) (b : Addr) (cb : Cell) (cs : List Int32) (B : ArrC Z cb .byte (utfB cs)) (i : Nat) (h l_ : Int32) (hH : Hi h) (hL : Lo l_) (hx : cs[i]? = some h) (hy : cs[i + 1]? = some l_) :
    Met l Z EL1 (⟨"java/lang/StringUTF16", "codePointAt", "([BII)I"⟩ : MethodName) jdk_52_method_8_code 3 (some .int) ({ frames := 2, cells := 0, slots := 0, locals := 37 } : Room) #[.ref b, .int i.toInt32, .int cs.length.toInt32] [] [(b, cb)] (fun v σ ρ => v = some (.int ((h <<< ((10 : Int32) &&& 31) + l_) + (-56613888 : Int32))) ∧ σ = [] ∧ ρ = []) := by
  refine Met.walk G.2.1 pn_0 #[.val (.ref b), .val (.int i.toInt32), .val (.int cs.length.toInt32)] (fun m => by first | (simp [entryFrame, mkF, argsToLocals, Value.category]; done) | rfl) ?_
  intro X T0 W0
  refine Go.aloadN (pc' := 1) W0 d_jdk_52_method_8_code_0 rfl rfl rfl ?_
  refine Go.iloadN (pc' := 2) W0 d_jdk_52_method_8_code_1 rfl rfl ?_
  refine Go.iloadN (pc' := 3) W0 d_jdk_52_method_8_code_2 rfl rfl ?_
  refine Go.iconst (pc' := 4) W0 (0 : Int32) d_jdk_52_method_8_code_3 (by decide) rfl ?_
  refine Go.static (pc' := 7) W0 (rm_ufp G b cb cs B i h l_ hH hL hx hy) (w_112 G) (w_113 G) (w_33 G) (w_114 G) (by decide) [] [0] (σf := []) rfl rfl [(.ref b), (.int i.toInt32), (.int cs.length.toInt32), (.int (0 : Int32))] [] rfl (lenOf pd_19 rfl) rfl rfl d_jdk_52_method_8_code_4 rfl (by first | exact Nat.le_of_ble_eq_true rfl | (simp; done) | (simp; omega) | omega) (by first | exact Nat.le_of_ble_eq_true rfl | (simp; done) | (simp; omega) | omega) (by first | exact Nat.le_of_ble_eq_true rfl | (simp; done) | (simp; omega) | omega) (by first | exact Nat.le_of_ble_eq_true rfl | (simp; done) | (simp; omega) | omega) ?_
  rintro _ _ _ T1 ⟨rfl, rfl, rfl⟩ W2
  replace W2 : Wk l Z EL1 ({ frames := 2, cells := 0, slots := 0, locals := 37 } : Room) "java/lang/StringUTF16" jdk_52_method_8_code 3 (some .int) "codePointAt" X [] [(b, cb)] T1 0 (0) := W2
  show Go Z EL1 _ _ _ X T1 7 #[.val (.ref b), .val (.int i.toInt32), .val (.int cs.length.toInt32)] [(.int ((h <<< ((10 : Int32) &&& 31) + l_) + (-56613888 : Int32)))]
  have W3 := W2.keepRo [] (ρ' := []) rfl
  replace W3 : Wk l Z EL1 ({ frames := 2, cells := 0, slots := 0, locals := 37 } : Room) "java/lang/StringUTF16" jdk_52_method_8_code 3 (some .int) "codePointAt" X [] [] T1 0 (0) := W3
  refine Go.iret W3 d_jdk_52_method_8_code_7 (by first | exact Nat.le_of_ble_eq_true rfl | (simp; done) | (simp; omega) | omega) (by first | exact Nat.le_of_ble_eq_true rfl | (simp; done) | (simp; omega) | omega) ?_
  exact ⟨rfl, rfl, rfl⟩
theorem d_jdk_42_method_154_code_0 : decode jdk_42_method_154_code 0 = .ok (.getstatic 38, 3) := by decide +kernel
theorem d_jdk_42_method_154_code_3 : decode jdk_42_method_154_code 3 = .ok (.ifCond .eq 14, 3) := by decide +kernel
theorem d_jdk_42_method_154_code_6 : decode jdk_42_method_154_code 6 = .ok (.aload_n 0, 1) := by decide +kernel
theorem d_jdk_42_method_154_code_7 : decode jdk_42_method_154_code 7 = .ok (.getfield 15, 3) := by decide +kernel
theorem d_jdk_42_method_154_code_10 : decode jdk_42_method_154_code 10 = .ok (.ifCond .ne 7, 3) := by decide +kernel
theorem d_jdk_42_method_154_code_13 : decode jdk_42_method_154_code 13 = .ok (.iconst 1, 1) := by decide +kernel
theorem d_jdk_42_method_154_code_14 : decode jdk_42_method_154_code 14 = .ok (.goto 4, 3) := by decide +kernel
theorem d_jdk_42_method_154_code_18 : decode jdk_42_method_154_code 18 = .ok (.ireturn, 1) := by decide +kernel
set_option maxRecDepth 65536 in
set_option maxHeartbeats 40000000 in
theorem rm_isl {l : Launch} {Z : State} {a0 : Array Value} (G : Cl Z a0) (a b : Addr) (c cb : Cell) (cs : List Int32) (S : StrL Z c b cb cs)  :
    Met l Z EL1 (⟨"java/lang/String", "isLatin1", "()Z"⟩ : MethodName) jdk_42_method_154_code 1 (some .boolean) ({ frames := 0, cells := 0, slots := 0, locals := 0 } : Room) #[.ref a] [] [(a, c)] (fun v σ ρ => v = some (.int 1) ∧ σ = [] ∧ ρ = []) := by
  refine Met.walk G.2.1 pn_7 #[.val (.ref a)] (fun m => by first | (simp [entryFrame, mkF, argsToLocals, Value.category]; done) | rfl) ?_
  intro X T0 W0
  obtain ⟨cv, Scv, hcv⟩ := G.2.2.1
  refine Go.getstatic (pc' := 3) W0 (w_30 G) Via.refl Scv d_jdk_42_method_154_code_0 rfl (fun T1 W2 => ?_)
  refine Go.if_eq (pc' := 6) W2 17 d_jdk_42_method_154_code_3 (by decide) rfl (fun q => absurd q hcv) (fun _ => ?_)
  refine Go.aloadN (pc' := 7) W2 d_jdk_42_method_154_code_6 rfl rfl rfl ?_
  refine Go.getfield (pc' := 10) W2 (Or.inr (Or.inl (List.mem_of_getElem? (i := 0) rfl))) (w_61 G) Via.refl S.2.1 d_jdk_42_method_154_code_7 rfl (fun T3 W4 => ?_)
  refine Go.if_ne (pc' := 13) W4 17 d_jdk_42_method_154_code_10 (by decide) rfl (fun q => absurd (by decide) q) (fun _ => ?_)
  refine Go.iconst (pc' := 14) W4 (1 : Int32) d_jdk_42_method_154_code_13 (by decide) rfl ?_
  refine Go.goto W4 18 d_jdk_42_method_154_code_14 (by decide) ?_
  have W5 := W4.keepRo [] (ρ' := []) rfl
  replace W5 : Wk l Z EL1 ({ frames := 0, cells := 0, slots := 0, locals := 0 } : Room) "java/lang/String" jdk_42_method_154_code 1 (some .boolean) "isLatin1" X [] [] T3 0 (0) := W5
  refine Go.nret (z' := (1 : Int32)) W5 (by simp) (by decide) d_jdk_42_method_154_code_18 (by first | exact Nat.le_of_ble_eq_true rfl | (simp; done) | (simp; omega) | omega) (by first | exact Nat.le_of_ble_eq_true rfl | (simp; done) | (simp; omega) | omega) ?_
  exact ⟨rfl, rfl, rfl⟩
theorem d_jdk_42_method_154_code_17 : decode jdk_42_method_154_code 17 = .ok (.iconst 0, 1) := by decide +kernel
set_option maxRecDepth 65536 in
set_option maxHeartbeats 40000000 in
theorem rm_islU {l : Launch} {Z : State} {a0 : Array Value} (G : Cl Z a0) (a b : Addr) (c cb : Cell) (cs : List Int32) (S : StrU Z c b cb cs)  :
    Met l Z EL1 (⟨"java/lang/String", "isLatin1", "()Z"⟩ : MethodName) jdk_42_method_154_code 1 (some .boolean) ({ frames := 0, cells := 0, slots := 0, locals := 0 } : Room) #[.ref a] [] [(a, c)] (fun v σ ρ => v = some (.int 0) ∧ σ = [] ∧ ρ = []) := by
  refine Met.walk G.2.1 pn_7 #[.val (.ref a)] (fun m => by first | (simp [entryFrame, mkF, argsToLocals, Value.category]; done) | rfl) ?_
  intro X T0 W0
  obtain ⟨cv, Scv, hcv⟩ := G.2.2.1
  refine Go.getstatic (pc' := 3) W0 (w_30 G) Via.refl Scv d_jdk_42_method_154_code_0 rfl (fun T1 W2 => ?_)
  refine Go.if_eq (pc' := 6) W2 17 d_jdk_42_method_154_code_3 (by decide) rfl (fun q => absurd q hcv) (fun _ => ?_)
  refine Go.aloadN (pc' := 7) W2 d_jdk_42_method_154_code_6 rfl rfl rfl ?_
  refine Go.getfield (pc' := 10) W2 (Or.inr (Or.inl (List.mem_of_getElem? (i := 0) rfl))) (w_61 G) Via.refl S.2.1 d_jdk_42_method_154_code_7 rfl (fun T3 W4 => ?_)
  refine Go.if_ne (pc' := 13) W4 17 d_jdk_42_method_154_code_10 (by decide) rfl (fun _ => ?_) (fun q => absurd q (by decide))
  refine Go.iconst (pc' := 18) W4 (0 : Int32) d_jdk_42_method_154_code_17 (by decide) rfl ?_
  have W5 := W4.keepRo [] (ρ' := []) rfl
  replace W5 : Wk l Z EL1 ({ frames := 0, cells := 0, slots := 0, locals := 0 } : Room) "java/lang/String" jdk_42_method_154_code 1 (some .boolean) "isLatin1" X [] [] T3 0 (0) := W5
  refine Go.nret (z' := (0 : Int32)) W5 (by simp) (by decide) d_jdk_42_method_154_code_18 (by first | exact Nat.le_of_ble_eq_true rfl | (simp; done) | (simp; omega) | omega) (by first | exact Nat.le_of_ble_eq_true rfl | (simp; done) | (simp; omega) | omega) ?_
  exact ⟨rfl, rfl, rfl⟩
theorem d_jdk_42_method_57_code_0 : decode jdk_42_method_57_code 0 = .ok (.aload_n 0, 1) := by decide +kernel
theorem d_jdk_42_method_57_code_1 : decode jdk_42_method_57_code 1 = .ok (.invokevirtual 492, 3) := by decide +kernel
theorem w_96 {Z : State} {a0 : Array Value} (G : Cl Z a0) : (Jvm.Cond.methodLink "java/lang/String" 492 (⟨"java/lang/String", "isLatin1", "()Z"⟩ : MethodName)).before a0 Z = true := G.1 _ (List.mem_of_getElem? (l := tables_1) (i := 96) rfl)
theorem w_100 {Z : State} {a0 : Array Value} (G : Cl Z a0) : (Jvm.Cond.code (⟨"java/lang/String", "isLatin1", "()Z"⟩ : MethodName) jdk_42_method_154_code 1 (some .boolean)).before a0 Z = true := G.1 _ (List.mem_of_getElem? (l := tables_1) (i := 100) rfl)
theorem pd_20 : parseMethodDescriptor "()Z" = some ⟨[], some .boolean⟩ := by decide +kernel
theorem w_97 {Z : State} {a0 : Array Value} (G : Cl Z a0) : (Jvm.Cond.declares (⟨"java/lang/String", "isLatin1", "()Z"⟩ : MethodName)).before a0 Z = true := G.1 _ (List.mem_of_getElem? (l := tables_1) (i := 97) rfl)
theorem w_99 {Z : State} {a0 : Array Value} (G : Cl Z a0) : (Jvm.Cond.selects "java/lang/String" (⟨"java/lang/String", "isLatin1", "()Z"⟩ : MethodName) (⟨"java/lang/String", "isLatin1", "()Z"⟩ : MethodName)).before a0 Z = true := G.1 _ (List.mem_of_getElem? (l := tables_1) (i := 99) rfl)
theorem w_98 {Z : State} {a0 : Array Value} (G : Cl Z a0) : (Jvm.Cond.instanceMethod (⟨"java/lang/String", "isLatin1", "()Z"⟩ : MethodName)).before a0 Z = true := G.1 _ (List.mem_of_getElem? (l := tables_1) (i := 98) rfl)
theorem d_jdk_42_method_57_code_4 : decode jdk_42_method_57_code 4 = .ok (.ifCond .eq 23, 3) := by decide +kernel
theorem d_jdk_42_method_57_code_7 : decode jdk_42_method_57_code 7 = .ok (.iload_n 1, 1) := by decide +kernel
theorem d_jdk_42_method_57_code_8 : decode jdk_42_method_57_code 8 = .ok (.aload_n 0, 1) := by decide +kernel
theorem d_jdk_42_method_57_code_9 : decode jdk_42_method_57_code 9 = .ok (.getfield 9, 3) := by decide +kernel
theorem d_jdk_42_method_57_code_12 : decode jdk_42_method_57_code 12 = .ok (.arraylength, 1) := by decide +kernel
theorem d_jdk_42_method_57_code_13 : decode jdk_42_method_57_code 13 = .ok (.invokestatic 499, 3) := by decide +kernel
theorem w_101 {Z : State} {a0 : Array Value} (G : Cl Z a0) : (Jvm.Cond.methodLink "java/lang/String" 499 (⟨"java/lang/String", "checkIndex", "(II)V"⟩ : MethodName)).before a0 Z = true := G.1 _ (List.mem_of_getElem? (l := tables_1) (i := 101) rfl)
theorem w_103 {Z : State} {a0 : Array Value} (G : Cl Z a0) : (Jvm.Cond.code (⟨"java/lang/String", "checkIndex", "(II)V"⟩ : MethodName) jdk_42_method_155_code 2 none).before a0 Z = true := G.1 _ (List.mem_of_getElem? (l := tables_1) (i := 103) rfl)
theorem pd_21 : parseMethodDescriptor "(II)V" = some ⟨[.int, .int], none⟩ := by decide +kernel
theorem w_102 {Z : State} {a0 : Array Value} (G : Cl Z a0) : (Jvm.Cond.static (⟨"java/lang/String", "checkIndex", "(II)V"⟩ : MethodName)).before a0 Z = true := G.1 _ (List.mem_of_getElem? (l := tables_1) (i := 102) rfl)
theorem d_jdk_42_method_57_code_16 : decode jdk_42_method_57_code 16 = .ok (.aload_n 0, 1) := by decide +kernel
theorem d_jdk_42_method_57_code_17 : decode jdk_42_method_57_code 17 = .ok (.getfield 9, 3) := by decide +kernel
theorem d_jdk_42_method_57_code_20 : decode jdk_42_method_57_code 20 = .ok (.iload_n 1, 1) := by decide +kernel
theorem d_jdk_42_method_57_code_21 : decode jdk_42_method_57_code 21 = .ok (.baload, 1) := by decide +kernel
theorem d_jdk_42_method_57_code_22 : decode jdk_42_method_57_code 22 = .ok (.sipush 255, 3) := by decide +kernel
theorem d_jdk_42_method_57_code_25 : decode jdk_42_method_57_code 25 = .ok (.iand, 1) := by decide +kernel
theorem d_jdk_42_method_57_code_26 : decode jdk_42_method_57_code 26 = .ok (.ireturn, 1) := by decide +kernel
set_option maxRecDepth 65536 in
set_option maxHeartbeats 40000000 in
theorem rm_cpl {l : Launch} {Z : State} {a0 : Array Value} (G : Cl Z a0) (a b : Addr) (c cb : Cell) (cs : List Int32) (S : StrL Z c b cb cs) (i : Nat) (x : Int32) (hx : cs[i]? = some x) :
    Met l Z EL1 (⟨"java/lang/String", "codePointAt", "(I)I"⟩ : MethodName) jdk_42_method_57_code 3 (some .int) ({ frames := 3, cells := 0, slots := 0, locals := 51 } : Room) #[.ref a, .int i.toInt32] [] [(a, c), (b, cb)] (fun v σ ρ => v = some (.int x) ∧ σ = [] ∧ ρ = []) := by
  refine Met.walk G.2.1 pn_7 #[.val (.ref a), .val (.int i.toInt32), .unset] (fun m => by first | (simp [entryFrame, mkF, argsToLocals, Value.category]; done) | rfl) ?_
  intro X T0 W0
  have hi := (List.getElem?_eq_some_iff.mp hx).1
  have hn : cs.length < 2147483648 := by have := S.2.2.2.1.2.2.2.2; rwa [latB, List.length_map] at this
  refine Go.aloadN (pc' := 1) W0 d_jdk_42_method_57_code_0 rfl rfl rfl ?_
  refine Go.virtual (pc' := 4) W0 (rm_isl G a b c cb cs S) (Or.inr (Or.inl (List.mem_of_getElem? (i := 0) rfl))) S.1 (w_96 G) (w_97 G) (w_99 G) (w_98 G) (w_19 G) (w_100 G) (by decide) [] [0] (σf := []) rfl rfl [] [] rfl (lenOf pd_20 rfl) rfl rfl d_jdk_42_method_57_code_1 rfl (by first | exact Nat.le_of_ble_eq_true rfl | (simp; done) | (simp; omega) | omega) (by first | exact Nat.le_of_ble_eq_true rfl | (simp; done) | (simp; omega) | omega) (by first | exact Nat.le_of_ble_eq_true rfl | (simp; done) | (simp; omega) | omega) (by first | exact Nat.le_of_ble_eq_true rfl | (simp; done) | (simp; omega) | omega) ?_
  rintro _ _ _ T1 ⟨rfl, rfl, rfl⟩ W2
  replace W2 : Wk l Z EL1 ({ frames := 3, cells := 0, slots := 0, locals := 51 } : Room) "java/lang/String" jdk_42_method_57_code 3 (some .int) "codePointAt" X [] [(a, c), (b, cb)] T1 0 (0) := W2
  show Go Z EL1 _ _ _ X T1 4 #[.val (.ref a), .val (.int i.toInt32), .unset] [(.int (1 : Int32))]
  refine Go.if_eq (pc' := 7) W2 27 d_jdk_42_method_57_code_4 (by decide) rfl (fun q => absurd q (by decide)) (fun _ => ?_)
  refine Go.iloadN (pc' := 8) W2 d_jdk_42_method_57_code_7 rfl rfl ?_
  refine Go.aloadN (pc' := 9) W2 d_jdk_42_method_57_code_8 rfl rfl rfl ?_
  refine Go.getfield (pc' := 12) W2 (Or.inr (Or.inl (List.mem_of_getElem? (i := 0) rfl))) (w_63 G) Via.refl S.2.2.1 d_jdk_42_method_57_code_9 rfl (fun T3 W4 => ?_)
  refine Go.arrlen (pc' := 13) W4 (Or.inr (Or.inl (List.mem_of_getElem? (i := 1) rfl))) S.2.2.2.1 cs.length.toInt32 (by rw [latB, List.length_map]) d_jdk_42_method_57_code_12 rfl ?_
  refine Go.static (pc' := 16) W4 (rm_cki G i.toInt32 cs.length.toInt32 (i32_nn (by omega)) ((i32_lt (by omega) (by omega)).mpr hi)) (w_101 G) (w_102 G) (w_19 G) (w_103 G) (by decide) [] [] (σf := []) rfl rfl [(.int i.toInt32), (.int cs.length.toInt32)] [] rfl (lenOf pd_21 rfl) rfl rfl d_jdk_42_method_57_code_13 rfl (by first | exact Nat.le_of_ble_eq_true rfl | (simp; done) | (simp; omega) | omega) (by first | exact Nat.le_of_ble_eq_true rfl | (simp; done) | (simp; omega) | omega) (by first | exact Nat.le_of_ble_eq_true rfl | (simp; done) | (simp; omega) | omega) (by first | exact Nat.le_of_ble_eq_true rfl | (simp; done) | (simp; omega) | omega) ?_
  rintro _ _ _ T5 ⟨rfl, rfl, rfl⟩ W6
  replace W6 : Wk l Z EL1 ({ frames := 3, cells := 0, slots := 0, locals := 51 } : Room) "java/lang/String" jdk_42_method_57_code 3 (some .int) "codePointAt" X [] [(a, c), (b, cb)] T5 0 (0) := W6
  show Go Z EL1 _ _ _ X T5 16 #[.val (.ref a), .val (.int i.toInt32), .unset] []
  refine Go.aloadN (pc' := 17) W6 d_jdk_42_method_57_code_16 rfl rfl rfl ?_
  refine Go.getfield (pc' := 20) W6 (Or.inr (Or.inl (List.mem_of_getElem? (i := 0) rfl))) (w_63 G) Via.refl S.2.2.1 d_jdk_42_method_57_code_17 rfl (fun T7 W8 => ?_)
  refine Go.iloadN (pc' := 21) W8 d_jdk_42_method_57_code_20 rfl rfl ?_
  refine Go.baload (pc' := 22) W8 (Or.inr (Or.inl (List.mem_of_getElem? (i := 1) rfl))) S.2.2.2.1 i (i32_nn (by omega)) (i32_clamp (by omega)) (v := lo8 x) (by rw [latB, List.getElem?_map, hx]; rfl) d_jdk_42_method_57_code_21 rfl ?_
  refine Go.sipush (pc' := 25) W8 (255 : Int32) d_jdk_42_method_57_code_22 (by decide) rfl ?_
  refine Go.iand (pc' := 26) W8 d_jdk_42_method_57_code_25 rfl ?_
  have W9 := W8.keepRo [] (ρ' := []) rfl
  replace W9 : Wk l Z EL1 ({ frames := 3, cells := 0, slots := 0, locals := 51 } : Room) "java/lang/String" jdk_42_method_57_code 3 (some .int) "codePointAt" X [] [] T7 0 (0) := W9
  refine Go.iret W9 d_jdk_42_method_57_code_26 (by first | exact Nat.le_of_ble_eq_true rfl | (simp; done) | (simp; omega) | omega) (by first | exact Nat.le_of_ble_eq_true rfl | (simp; done) | (simp; omega) | omega) ?_
  exact ⟨by rw [byte_back (S.2.2.2.2 x (List.mem_of_getElem? hx))], rfl, rfl⟩
theorem d_jdk_42_method_57_code_27 : decode jdk_42_method_57_code 27 = .ok (.aload_n 0, 1) := by decide +kernel
theorem d_jdk_42_method_57_code_28 : decode jdk_42_method_57_code 28 = .ok (.getfield 9, 3) := by decide +kernel
theorem d_jdk_42_method_57_code_31 : decode jdk_42_method_57_code 31 = .ok (.arraylength, 1) := by decide +kernel
theorem d_jdk_42_method_57_code_32 : decode jdk_42_method_57_code 32 = .ok (.iconst 1, 1) := by decide +kernel
theorem d_jdk_42_method_57_code_33 : decode jdk_42_method_57_code 33 = .ok (.ishr, 1) := by decide +kernel
theorem d_jdk_42_method_57_code_34 : decode jdk_42_method_57_code 34 = .ok (.istore_n 2, 1) := by decide +kernel
theorem d_jdk_42_method_57_code_35 : decode jdk_42_method_57_code 35 = .ok (.iload_n 1, 1) := by decide +kernel
theorem d_jdk_42_method_57_code_36 : decode jdk_42_method_57_code 36 = .ok (.iload_n 2, 1) := by decide +kernel
theorem d_jdk_42_method_57_code_37 : decode jdk_42_method_57_code 37 = .ok (.invokestatic 499, 3) := by decide +kernel
theorem d_jdk_42_method_57_code_40 : decode jdk_42_method_57_code 40 = .ok (.aload_n 0, 1) := by decide +kernel
theorem d_jdk_42_method_57_code_41 : decode jdk_42_method_57_code 41 = .ok (.getfield 9, 3) := by decide +kernel
theorem d_jdk_42_method_57_code_44 : decode jdk_42_method_57_code 44 = .ok (.iload_n 1, 1) := by decide +kernel
theorem d_jdk_42_method_57_code_45 : decode jdk_42_method_57_code 45 = .ok (.iload_n 2, 1) := by decide +kernel
theorem d_jdk_42_method_57_code_46 : decode jdk_42_method_57_code 46 = .ok (.invokestatic 502, 3) := by decide +kernel
theorem w_109 {Z : State} {a0 : Array Value} (G : Cl Z a0) : (Jvm.Cond.methodLink "java/lang/String" 502 (⟨"java/lang/StringUTF16", "codePointAt", "([BII)I"⟩ : MethodName)).before a0 Z = true := G.1 _ (List.mem_of_getElem? (l := tables_1) (i := 109) rfl)
theorem w_111 {Z : State} {a0 : Array Value} (G : Cl Z a0) : (Jvm.Cond.code (⟨"java/lang/StringUTF16", "codePointAt", "([BII)I"⟩ : MethodName) jdk_52_method_8_code 3 (some .int)).before a0 Z = true := G.1 _ (List.mem_of_getElem? (l := tables_1) (i := 111) rfl)
theorem pd_22 : parseMethodDescriptor "([BII)I" = some ⟨[(.array .byte), .int, .int], some .int⟩ := by decide +kernel
theorem w_110 {Z : State} {a0 : Array Value} (G : Cl Z a0) : (Jvm.Cond.static (⟨"java/lang/StringUTF16", "codePointAt", "([BII)I"⟩ : MethodName)).before a0 Z = true := G.1 _ (List.mem_of_getElem? (l := tables_1) (i := 110) rfl)
theorem d_jdk_42_method_57_code_49 : decode jdk_42_method_57_code 49 = .ok (.ireturn, 1) := by decide +kernel
set_option maxRecDepth 65536 in
set_option maxHeartbeats 40000000 in
theorem rm_cpu {l : Launch} {Z : State} {a0 : Array Value} (G : Cl Z a0) (a b : Addr) (c cb : Cell) (cs : List Int32) (S : StrU Z c b cb cs) (i : Nat) (x : Int32) (hB : Bm x) (hx : cs[i]? = some x) :
    Met l Z EL1 (⟨"java/lang/String", "codePointAt", "(I)I"⟩ : MethodName) jdk_42_method_57_code 3 (some .int) ({ frames := 3, cells := 0, slots := 0, locals := 51 } : Room) #[.ref a, .int i.toInt32] [] [(a, c), (b, cb)] (fun v σ ρ => v = some (.int x) ∧ σ = [] ∧ ρ = []) := by
  refine Met.walk G.2.1 pn_7 #[.val (.ref a), .val (.int i.toInt32), .unset] (fun m => by first | (simp [entryFrame, mkF, argsToLocals, Value.category]; done) | rfl) ?_
  intro X T0 W0
  have hi := (List.getElem?_eq_some_iff.mp hx).1
  have hn := S.2.2.2.1.2.2.2.2
  rw [utfB_len] at hn
  refine Go.aloadN (pc' := 1) W0 d_jdk_42_method_57_code_0 rfl rfl rfl ?_
  refine Go.virtual (pc' := 4) W0 (rm_islU G a b c cb cs S) (Or.inr (Or.inl (List.mem_of_getElem? (i := 0) rfl))) S.1 (w_96 G) (w_97 G) (w_99 G) (w_98 G) (w_19 G) (w_100 G) (by decide) [] [0] (σf := []) rfl rfl [] [] rfl (lenOf pd_20 rfl) rfl rfl d_jdk_42_method_57_code_1 rfl (by first | exact Nat.le_of_ble_eq_true rfl | (simp; done) | (simp; omega) | omega) (by first | exact Nat.le_of_ble_eq_true rfl | (simp; done) | (simp; omega) | omega) (by first | exact Nat.le_of_ble_eq_true rfl | (simp; done) | (simp; omega) | omega) (by first | exact Nat.le_of_ble_eq_true rfl | (simp; done) | (simp; omega) | omega) ?_
  rintro _ _ _ T1 ⟨rfl, rfl, rfl⟩ W2
  replace W2 : Wk l Z EL1 ({ frames := 3, cells := 0, slots := 0, locals := 51 } : Room) "java/lang/String" jdk_42_method_57_code 3 (some .int) "codePointAt" X [] [(a, c), (b, cb)] T1 0 (0) := W2
  show Go Z EL1 _ _ _ X T1 4 #[.val (.ref a), .val (.int i.toInt32), .unset] [(.int (0 : Int32))]
  refine Go.if_eq (pc' := 7) W2 27 d_jdk_42_method_57_code_4 (by decide) rfl (fun _ => ?_) (fun q => absurd (by decide) q)
  refine Go.aloadN (pc' := 28) W2 d_jdk_42_method_57_code_27 rfl rfl rfl ?_
  refine Go.getfield (pc' := 31) W2 (Or.inr (Or.inl (List.mem_of_getElem? (i := 0) rfl))) (w_63 G) Via.refl S.2.2.1 d_jdk_42_method_57_code_28 rfl (fun T3 W4 => ?_)
  refine Go.arrlen (pc' := 32) W4 (Or.inr (Or.inl (List.mem_of_getElem? (i := 1) rfl))) S.2.2.2.1 (2 * cs.length).toInt32 (by rw [utfB_len]) d_jdk_42_method_57_code_31 rfl ?_
  refine Go.iconst (pc' := 33) W4 (1 : Int32) d_jdk_42_method_57_code_32 (by decide) rfl ?_
  refine Go.ishr (pc' := 34) W4 d_jdk_42_method_57_code_33 rfl ?_
  rw [shr1 (by omega)]
  refine Go.istoreN (pc' := 35) W4 #[.val (.ref a), .val (.int i.toInt32), .val (.int cs.length.toInt32)] d_jdk_42_method_57_code_34 rfl rfl ?_
  refine Go.iloadN (pc' := 36) W4 d_jdk_42_method_57_code_35 rfl rfl ?_
  refine Go.iloadN (pc' := 37) W4 d_jdk_42_method_57_code_36 rfl rfl ?_
  refine Go.static (pc' := 40) W4 (rm_cki G i.toInt32 cs.length.toInt32 (i32_nn (by omega)) ((i32_lt (by omega) (by omega)).mpr hi)) (w_101 G) (w_102 G) (w_19 G) (w_103 G) (by decide) [] [] (σf := []) rfl rfl [(.int i.toInt32), (.int cs.length.toInt32)] [] rfl (lenOf pd_21 rfl) rfl rfl d_jdk_42_method_57_code_37 rfl (by first | exact Nat.le_of_ble_eq_true rfl | (simp; done) | (simp; omega) | omega) (by first | exact Nat.le_of_ble_eq_true rfl | (simp; done) | (simp; omega) | omega) (by first | exact Nat.le_of_ble_eq_true rfl | (simp; done) | (simp; omega) | omega) (by first | exact Nat.le_of_ble_eq_true rfl | (simp; done) | (simp; omega) | omega) ?_
  rintro _ _ _ T5 ⟨rfl, rfl, rfl⟩ W6
  replace W6 : Wk l Z EL1 ({ frames := 3, cells := 0, slots := 0, locals := 51 } : Room) "java/lang/String" jdk_42_method_57_code 3 (some .int) "codePointAt" X [] [(a, c), (b, cb)] T5 0 (0) := W6
  show Go Z EL1 _ _ _ X T5 40 #[.val (.ref a), .val (.int i.toInt32), .val (.int cs.length.toInt32)] []
  refine Go.aloadN (pc' := 41) W6 d_jdk_42_method_57_code_40 rfl rfl rfl ?_
  refine Go.getfield (pc' := 44) W6 (Or.inr (Or.inl (List.mem_of_getElem? (i := 0) rfl))) (w_63 G) Via.refl S.2.2.1 d_jdk_42_method_57_code_41 rfl (fun T7 W8 => ?_)
  refine Go.iloadN (pc' := 45) W8 d_jdk_42_method_57_code_44 rfl rfl ?_
  refine Go.iloadN (pc' := 46) W8 d_jdk_42_method_57_code_45 rfl rfl ?_
  refine Go.static (pc' := 49) W8 (rm_utb G b cb cs S.2.2.2.1 i x hB hx) (w_109 G) (w_110 G) (w_33 G) (w_111 G) (by decide) [] [1] (σf := []) rfl rfl [(.ref b), (.int i.toInt32), (.int cs.length.toInt32)] [] rfl (lenOf pd_22 rfl) rfl rfl d_jdk_42_method_57_code_46 rfl (by first | exact Nat.le_of_ble_eq_true rfl | (simp; done) | (simp; omega) | omega) (by first | exact Nat.le_of_ble_eq_true rfl | (simp; done) | (simp; omega) | omega) (by first | exact Nat.le_of_ble_eq_true rfl | (simp; done) | (simp; omega) | omega) (by first | exact Nat.le_of_ble_eq_true rfl | (simp; done) | (simp; omega) | omega) ?_
  rintro _ _ _ T9 ⟨rfl, rfl, rfl⟩ W10
  replace W10 : Wk l Z EL1 ({ frames := 3, cells := 0, slots := 0, locals := 51 } : Room) "java/lang/String" jdk_42_method_57_code 3 (some .int) "codePointAt" X [] [(a, c), (b, cb)] T9 0 (0) := W10
  show Go Z EL1 _ _ _ X T9 49 #[.val (.ref a), .val (.int i.toInt32), .val (.int cs.length.toInt32)] [(.int x)]
  have W11 := W10.keepRo [] (ρ' := []) rfl
  replace W11 : Wk l Z EL1 ({ frames := 3, cells := 0, slots := 0, locals := 51 } : Room) "java/lang/String" jdk_42_method_57_code 3 (some .int) "codePointAt" X [] [] T9 0 (0) := W11
  refine Go.iret W11 d_jdk_42_method_57_code_49 (by first | exact Nat.le_of_ble_eq_true rfl | (simp; done) | (simp; omega) | omega) (by first | exact Nat.le_of_ble_eq_true rfl | (simp; done) | (simp; omega) | omega) ?_
  exact ⟨rfl, rfl, rfl⟩
set_option maxRecDepth 65536 in
set_option maxHeartbeats 40000000 in
theorem rm_cpp {l : Launch} {Z : State} {a0 : Array Value} (G : Cl Z a0) (a b : Addr) (c cb : Cell) (cs : List Int32) (S : StrU Z c b cb cs) (i : Nat) (h l_ : Int32) (hH : Hi h) (hL : Lo l_) (hx : cs[i]? = some h) (hy : cs[i + 1]? = some l_) :
    Met l Z EL1 (⟨"java/lang/String", "codePointAt", "(I)I"⟩ : MethodName) jdk_42_method_57_code 3 (some .int) ({ frames := 3, cells := 0, slots := 0, locals := 51 } : Room) #[.ref a, .int i.toInt32] [] [(a, c), (b, cb)] (fun v σ ρ => v = some (.int ((h <<< ((10 : Int32) &&& 31) + l_) + (-56613888 : Int32))) ∧ σ = [] ∧ ρ = []) := by
  refine Met.walk G.2.1 pn_7 #[.val (.ref a), .val (.int i.toInt32), .unset] (fun m => by first | (simp [entryFrame, mkF, argsToLocals, Value.category]; done) | rfl) ?_
  intro X T0 W0
  have hi := (List.getElem?_eq_some_iff.mp hx).1
  have hn := S.2.2.2.1.2.2.2.2
  rw [utfB_len] at hn
  refine Go.aloadN (pc' := 1) W0 d_jdk_42_method_57_code_0 rfl rfl rfl ?_
  refine Go.virtual (pc' := 4) W0 (rm_islU G a b c cb cs S) (Or.inr (Or.inl (List.mem_of_getElem? (i := 0) rfl))) S.1 (w_96 G) (w_97 G) (w_99 G) (w_98 G) (w_19 G) (w_100 G) (by decide) [] [0] (σf := []) rfl rfl [] [] rfl (lenOf pd_20 rfl) rfl rfl d_jdk_42_method_57_code_1 rfl (by first | exact Nat.le_of_ble_eq_true rfl | (simp; done) | (simp; omega) | omega) (by first | exact Nat.le_of_ble_eq_true rfl | (simp; done) | (simp; omega) | omega) (by first | exact Nat.le_of_ble_eq_true rfl | (simp; done) | (simp; omega) | omega) (by first | exact Nat.le_of_ble_eq_true rfl | (simp; done) | (simp; omega) | omega) ?_
  rintro _ _ _ T1 ⟨rfl, rfl, rfl⟩ W2
  replace W2 : Wk l Z EL1 ({ frames := 3, cells := 0, slots := 0, locals := 51 } : Room) "java/lang/String" jdk_42_method_57_code 3 (some .int) "codePointAt" X [] [(a, c), (b, cb)] T1 0 (0) := W2
  show Go Z EL1 _ _ _ X T1 4 #[.val (.ref a), .val (.int i.toInt32), .unset] [(.int (0 : Int32))]
  refine Go.if_eq (pc' := 7) W2 27 d_jdk_42_method_57_code_4 (by decide) rfl (fun _ => ?_) (fun q => absurd (by decide) q)
  refine Go.aloadN (pc' := 28) W2 d_jdk_42_method_57_code_27 rfl rfl rfl ?_
  refine Go.getfield (pc' := 31) W2 (Or.inr (Or.inl (List.mem_of_getElem? (i := 0) rfl))) (w_63 G) Via.refl S.2.2.1 d_jdk_42_method_57_code_28 rfl (fun T3 W4 => ?_)
  refine Go.arrlen (pc' := 32) W4 (Or.inr (Or.inl (List.mem_of_getElem? (i := 1) rfl))) S.2.2.2.1 (2 * cs.length).toInt32 (by rw [utfB_len]) d_jdk_42_method_57_code_31 rfl ?_
  refine Go.iconst (pc' := 33) W4 (1 : Int32) d_jdk_42_method_57_code_32 (by decide) rfl ?_
  refine Go.ishr (pc' := 34) W4 d_jdk_42_method_57_code_33 rfl ?_
  rw [shr1 (by omega)]
  refine Go.istoreN (pc' := 35) W4 #[.val (.ref a), .val (.int i.toInt32), .val (.int cs.length.toInt32)] d_jdk_42_method_57_code_34 rfl rfl ?_
  refine Go.iloadN (pc' := 36) W4 d_jdk_42_method_57_code_35 rfl rfl ?_
  refine Go.iloadN (pc' := 37) W4 d_jdk_42_method_57_code_36 rfl rfl ?_
  refine Go.static (pc' := 40) W4 (rm_cki G i.toInt32 cs.length.toInt32 (i32_nn (by omega)) ((i32_lt (by omega) (by omega)).mpr hi)) (w_101 G) (w_102 G) (w_19 G) (w_103 G) (by decide) [] [] (σf := []) rfl rfl [(.int i.toInt32), (.int cs.length.toInt32)] [] rfl (lenOf pd_21 rfl) rfl rfl d_jdk_42_method_57_code_37 rfl (by first | exact Nat.le_of_ble_eq_true rfl | (simp; done) | (simp; omega) | omega) (by first | exact Nat.le_of_ble_eq_true rfl | (simp; done) | (simp; omega) | omega) (by first | exact Nat.le_of_ble_eq_true rfl | (simp; done) | (simp; omega) | omega) (by first | exact Nat.le_of_ble_eq_true rfl | (simp; done) | (simp; omega) | omega) ?_
  rintro _ _ _ T5 ⟨rfl, rfl, rfl⟩ W6
  replace W6 : Wk l Z EL1 ({ frames := 3, cells := 0, slots := 0, locals := 51 } : Room) "java/lang/String" jdk_42_method_57_code 3 (some .int) "codePointAt" X [] [(a, c), (b, cb)] T5 0 (0) := W6
  show Go Z EL1 _ _ _ X T5 40 #[.val (.ref a), .val (.int i.toInt32), .val (.int cs.length.toInt32)] []
  refine Go.aloadN (pc' := 41) W6 d_jdk_42_method_57_code_40 rfl rfl rfl ?_
  refine Go.getfield (pc' := 44) W6 (Or.inr (Or.inl (List.mem_of_getElem? (i := 0) rfl))) (w_63 G) Via.refl S.2.2.1 d_jdk_42_method_57_code_41 rfl (fun T7 W8 => ?_)
  refine Go.iloadN (pc' := 45) W8 d_jdk_42_method_57_code_44 rfl rfl ?_
  refine Go.iloadN (pc' := 46) W8 d_jdk_42_method_57_code_45 rfl rfl ?_
  refine Go.static (pc' := 49) W8 (rm_utp G b cb cs S.2.2.2.1 i h l_ hH hL hx hy) (w_109 G) (w_110 G) (w_33 G) (w_111 G) (by decide) [] [1] (σf := []) rfl rfl [(.ref b), (.int i.toInt32), (.int cs.length.toInt32)] [] rfl (lenOf pd_22 rfl) rfl rfl d_jdk_42_method_57_code_46 rfl (by first | exact Nat.le_of_ble_eq_true rfl | (simp; done) | (simp; omega) | omega) (by first | exact Nat.le_of_ble_eq_true rfl | (simp; done) | (simp; omega) | omega) (by first | exact Nat.le_of_ble_eq_true rfl | (simp; done) | (simp; omega) | omega) (by first | exact Nat.le_of_ble_eq_true rfl | (simp; done) | (simp; omega) | omega) ?_
  rintro _ _ _ T9 ⟨rfl, rfl, rfl⟩ W10
  replace W10 : Wk l Z EL1 ({ frames := 3, cells := 0, slots := 0, locals := 51 } : Room) "java/lang/String" jdk_42_method_57_code 3 (some .int) "codePointAt" X [] [(a, c), (b, cb)] T9 0 (0) := W10
  show Go Z EL1 _ _ _ X T9 49 #[.val (.ref a), .val (.int i.toInt32), .val (.int cs.length.toInt32)] [(.int ((h <<< ((10 : Int32) &&& 31) + l_) + (-56613888 : Int32)))]
  have W11 := W10.keepRo [] (ρ' := []) rfl
  replace W11 : Wk l Z EL1 ({ frames := 3, cells := 0, slots := 0, locals := 51 } : Room) "java/lang/String" jdk_42_method_57_code 3 (some .int) "codePointAt" X [] [] T9 0 (0) := W11
  refine Go.iret W11 d_jdk_42_method_57_code_49 (by first | exact Nat.le_of_ble_eq_true rfl | (simp; done) | (simp; omega) | omega) (by first | exact Nat.le_of_ble_eq_true rfl | (simp; done) | (simp; omega) | omega) ?_
  exact ⟨rfl, rfl, rfl⟩
theorem rm_cgb {l : Launch} {Z : State} {a0 : Array Value} (G : Cl Z a0) (a b : Addr) (c cb : Cell) (cs : List Int32) (S : StrG Z c b cb cs) (i : Nat) (x : Int32) (hB : Bm x) (hx : cs[i]? = some x) :
    Met l Z EL1 (⟨"java/lang/String", "codePointAt", "(I)I"⟩ : MethodName) jdk_42_method_57_code 3 (some .int) ({ frames := 3, cells := 0, slots := 0, locals := 51 } : Room) #[.ref a, .int i.toInt32] [] [(a, c), (b, cb)] (fun v σ ρ => v = some (.int x) ∧ σ = [] ∧ ρ = []) := S.elim (fun h => rm_cpl G a b c cb cs h i x hx) (fun h => rm_cpu G a b c cb cs h i x hB hx)
theorem rm_cgp {l : Launch} {Z : State} {a0 : Array Value} (G : Cl Z a0) (a b : Addr) (c cb : Cell) (cs : List Int32) (S : StrG Z c b cb cs) (i : Nat) (h l_ : Int32) (hH : Hi h) (hL : Lo l_) (hx : cs[i]? = some h) (hy : cs[i + 1]? = some l_) :
    Met l Z EL1 (⟨"java/lang/String", "codePointAt", "(I)I"⟩ : MethodName) jdk_42_method_57_code 3 (some .int) ({ frames := 3, cells := 0, slots := 0, locals := 51 } : Room) #[.ref a, .int i.toInt32] [] [(a, c), (b, cb)] (fun v σ ρ => v = some (.int ((h <<< ((10 : Int32) &&& 31) + l_) + (-56613888 : Int32))) ∧ σ = [] ∧ ρ = []) := S.elim (fun q => (hH.nlat (q.2.2.2.2 h (List.mem_of_getElem? hx))).elim) (fun q => rm_cpp G a b c cb cs q i h l_ hH hL hx hy)
theorem d_jdk_42_method_55_code_0 : decode jdk_42_method_55_code 0 = .ok (.aload_n 0, 1) := by decide +kernel
theorem d_jdk_42_method_55_code_1 : decode jdk_42_method_55_code 1 = .ok (.getfield 9, 3) := by decide +kernel
theorem d_jdk_42_method_55_code_4 : decode jdk_42_method_55_code 4 = .ok (.arraylength, 1) := by decide +kernel
theorem d_jdk_42_method_55_code_5 : decode jdk_42_method_55_code 5 = .ok (.ifCond .ne 7, 3) := by decide +kernel
theorem d_jdk_42_method_55_code_12 : decode jdk_42_method_55_code 12 = .ok (.iconst 0, 1) := by decide +kernel
theorem d_jdk_42_method_55_code_13 : decode jdk_42_method_55_code 13 = .ok (.ireturn, 1) := by decide +kernel
set_option maxRecDepth 65536 in
set_option maxHeartbeats 40000000 in
theorem rm_isa {l : Launch} {Z : State} {a0 : Array Value} (G : Cl Z a0) (a b : Addr) (c cb : Cell) (cs : List Int32) (S : StrL Z c b cb cs) (hne : ¬ cs = []) :
    Met l Z EL1 (⟨"java/lang/String", "isEmpty", "()Z"⟩ : MethodName) jdk_42_method_55_code 1 (some .boolean) ({ frames := 0, cells := 0, slots := 0, locals := 0 } : Room) #[.ref a] [] [(a, c), (b, cb)] (fun v σ ρ => v = some (.int 0) ∧ σ = [] ∧ ρ = []) := by
  refine Met.walk G.2.1 pn_7 #[.val (.ref a)] (fun m => by first | (simp [entryFrame, mkF, argsToLocals, Value.category]; done) | rfl) ?_
  intro X T0 W0
  have hn : cs.length < 2147483648 := by have := S.2.2.2.1.2.2.2.2; rwa [latB, List.length_map] at this
  refine Go.aloadN (pc' := 1) W0 d_jdk_42_method_55_code_0 rfl rfl rfl ?_
  refine Go.getfield (pc' := 4) W0 (Or.inr (Or.inl (List.mem_of_getElem? (i := 0) rfl))) (w_63 G) Via.refl S.2.2.1 d_jdk_42_method_55_code_1 rfl (fun T1 W2 => ?_)
  refine Go.arrlen (pc' := 5) W2 (Or.inr (Or.inl (List.mem_of_getElem? (i := 1) rfl))) S.2.2.2.1 cs.length.toInt32 (by rw [latB, List.length_map]) d_jdk_42_method_55_code_4 rfl ?_
  refine Go.if_ne (pc' := 8) W2 12 d_jdk_42_method_55_code_5 (by decide) rfl (fun _ => ?_) (fun q => absurd q (fun q => hne (by have := (i32_inj (n := 0) (by omega) (by decide)).mp q; exact List.length_eq_zero_iff.mp (by omega))))
  refine Go.iconst (pc' := 13) W2 (0 : Int32) d_jdk_42_method_55_code_12 (by decide) rfl ?_
  have W3 := W2.keepRo [] (ρ' := []) rfl
  replace W3 : Wk l Z EL1 ({ frames := 0, cells := 0, slots := 0, locals := 0 } : Room) "java/lang/String" jdk_42_method_55_code 1 (some .boolean) "isEmpty" X [] [] T1 0 (0) := W3
  refine Go.nret (z' := (0 : Int32)) W3 (by simp) (by decide) d_jdk_42_method_55_code_13 (by first | exact Nat.le_of_ble_eq_true rfl | (simp; done) | (simp; omega) | omega) (by first | exact Nat.le_of_ble_eq_true rfl | (simp; done) | (simp; omega) | omega) ?_
  exact ⟨rfl, rfl, rfl⟩
set_option maxRecDepth 65536 in
set_option maxHeartbeats 40000000 in
theorem rm_isb {l : Launch} {Z : State} {a0 : Array Value} (G : Cl Z a0) (a b : Addr) (c cb : Cell) (cs : List Int32) (S : StrU Z c b cb cs) (hne : ¬ cs = []) :
    Met l Z EL1 (⟨"java/lang/String", "isEmpty", "()Z"⟩ : MethodName) jdk_42_method_55_code 1 (some .boolean) ({ frames := 0, cells := 0, slots := 0, locals := 0 } : Room) #[.ref a] [] [(a, c), (b, cb)] (fun v σ ρ => v = some (.int 0) ∧ σ = [] ∧ ρ = []) := by
  refine Met.walk G.2.1 pn_7 #[.val (.ref a)] (fun m => by first | (simp [entryFrame, mkF, argsToLocals, Value.category]; done) | rfl) ?_
  intro X T0 W0
  have hn := S.2.2.2.1.2.2.2.2
  rw [utfB_len] at hn
  refine Go.aloadN (pc' := 1) W0 d_jdk_42_method_55_code_0 rfl rfl rfl ?_
  refine Go.getfield (pc' := 4) W0 (Or.inr (Or.inl (List.mem_of_getElem? (i := 0) rfl))) (w_63 G) Via.refl S.2.2.1 d_jdk_42_method_55_code_1 rfl (fun T1 W2 => ?_)
  refine Go.arrlen (pc' := 5) W2 (Or.inr (Or.inl (List.mem_of_getElem? (i := 1) rfl))) S.2.2.2.1 (2 * cs.length).toInt32 (by rw [utfB_len]) d_jdk_42_method_55_code_4 rfl ?_
  refine Go.if_ne (pc' := 8) W2 12 d_jdk_42_method_55_code_5 (by decide) rfl (fun _ => ?_) (fun q => absurd q (fun q => hne (by have := (i32_inj (n := 0) (by omega) (by decide)).mp q; exact List.length_eq_zero_iff.mp (by omega))))
  refine Go.iconst (pc' := 13) W2 (0 : Int32) d_jdk_42_method_55_code_12 (by decide) rfl ?_
  have W3 := W2.keepRo [] (ρ' := []) rfl
  replace W3 : Wk l Z EL1 ({ frames := 0, cells := 0, slots := 0, locals := 0 } : Room) "java/lang/String" jdk_42_method_55_code 1 (some .boolean) "isEmpty" X [] [] T1 0 (0) := W3
  refine Go.nret (z' := (0 : Int32)) W3 (by simp) (by decide) d_jdk_42_method_55_code_13 (by first | exact Nat.le_of_ble_eq_true rfl | (simp; done) | (simp; omega) | omega) (by first | exact Nat.le_of_ble_eq_true rfl | (simp; done) | (simp; omega) | omega) ?_
  exact ⟨rfl, rfl, rfl⟩
theorem rm_isg {l : Launch} {Z : State} {a0 : Array Value} (G : Cl Z a0) (a b : Addr) (c cb : Cell) (cs : List Int32) (S : StrG Z c b cb cs) (hne : ¬ cs = []) :
    Met l Z EL1 (⟨"java/lang/String", "isEmpty", "()Z"⟩ : MethodName) jdk_42_method_55_code 1 (some .boolean) ({ frames := 0, cells := 0, slots := 0, locals := 0 } : Room) #[.ref a] [] [(a, c), (b, cb)] (fun v σ ρ => v = some (.int 0) ∧ σ = [] ∧ ρ = []) := S.elim (fun h => rm_isa G a b c cb cs h hne) (fun h => rm_isb G a b c cb cs h hne)
theorem d_prog_13_method_6_code_28 : decode prog_13_method_6_code 28 = .ok (.iload_n 2, 1) := by decide +kernel
theorem d_prog_13_method_6_code_29 : decode prog_13_method_6_code 29 = .ok (.aload_n 0, 1) := by decide +kernel
theorem d_prog_13_method_6_code_30 : decode prog_13_method_6_code 30 = .ok (.invokevirtual 74, 3) := by decide +kernel
theorem w_81 {Z : State} {a0 : Array Value} (G : Cl Z a0) : (Jvm.Cond.methodLink "com/example/hermit_crab/hermitcrab/LockOptions" 74 (⟨"java/lang/String", "length", "()I"⟩ : MethodName)).before a0 Z = true := G.1 _ (List.mem_of_getElem? (l := tables_1) (i := 81) rfl)
theorem w_85 {Z : State} {a0 : Array Value} (G : Cl Z a0) : (Jvm.Cond.code (⟨"java/lang/String", "length", "()I"⟩ : MethodName) jdk_42_method_54_code 1 (some .int)).before a0 Z = true := G.1 _ (List.mem_of_getElem? (l := tables_1) (i := 85) rfl)
theorem pd_23 : parseMethodDescriptor "()I" = some ⟨[], some .int⟩ := by decide +kernel
theorem w_82 {Z : State} {a0 : Array Value} (G : Cl Z a0) : (Jvm.Cond.declares (⟨"java/lang/String", "length", "()I"⟩ : MethodName)).before a0 Z = true := G.1 _ (List.mem_of_getElem? (l := tables_1) (i := 82) rfl)
theorem w_84 {Z : State} {a0 : Array Value} (G : Cl Z a0) : (Jvm.Cond.selects "java/lang/String" (⟨"java/lang/String", "length", "()I"⟩ : MethodName) (⟨"java/lang/String", "length", "()I"⟩ : MethodName)).before a0 Z = true := G.1 _ (List.mem_of_getElem? (l := tables_1) (i := 84) rfl)
theorem w_83 {Z : State} {a0 : Array Value} (G : Cl Z a0) : (Jvm.Cond.instanceMethod (⟨"java/lang/String", "length", "()I"⟩ : MethodName)).before a0 Z = true := G.1 _ (List.mem_of_getElem? (l := tables_1) (i := 83) rfl)
theorem d_prog_13_method_6_code_33 : decode prog_13_method_6_code 33 = .ok (.if_icmp .ge 48, 3) := by decide +kernel
theorem d_prog_13_method_6_code_36 : decode prog_13_method_6_code 36 = .ok (.aload_n 0, 1) := by decide +kernel
theorem d_prog_13_method_6_code_37 : decode prog_13_method_6_code 37 = .ok (.iload_n 2, 1) := by decide +kernel
theorem d_prog_13_method_6_code_38 : decode prog_13_method_6_code 38 = .ok (.invokevirtual 78, 3) := by decide +kernel
theorem w_91 {Z : State} {a0 : Array Value} (G : Cl Z a0) : (Jvm.Cond.methodLink "com/example/hermit_crab/hermitcrab/LockOptions" 78 (⟨"java/lang/String", "codePointAt", "(I)I"⟩ : MethodName)).before a0 Z = true := G.1 _ (List.mem_of_getElem? (l := tables_1) (i := 91) rfl)
theorem w_95 {Z : State} {a0 : Array Value} (G : Cl Z a0) : (Jvm.Cond.code (⟨"java/lang/String", "codePointAt", "(I)I"⟩ : MethodName) jdk_42_method_57_code 3 (some .int)).before a0 Z = true := G.1 _ (List.mem_of_getElem? (l := tables_1) (i := 95) rfl)
theorem w_92 {Z : State} {a0 : Array Value} (G : Cl Z a0) : (Jvm.Cond.declares (⟨"java/lang/String", "codePointAt", "(I)I"⟩ : MethodName)).before a0 Z = true := G.1 _ (List.mem_of_getElem? (l := tables_1) (i := 92) rfl)
theorem w_94 {Z : State} {a0 : Array Value} (G : Cl Z a0) : (Jvm.Cond.selects "java/lang/String" (⟨"java/lang/String", "codePointAt", "(I)I"⟩ : MethodName) (⟨"java/lang/String", "codePointAt", "(I)I"⟩ : MethodName)).before a0 Z = true := G.1 _ (List.mem_of_getElem? (l := tables_1) (i := 94) rfl)
theorem w_93 {Z : State} {a0 : Array Value} (G : Cl Z a0) : (Jvm.Cond.instanceMethod (⟨"java/lang/String", "codePointAt", "(I)I"⟩ : MethodName)).before a0 Z = true := G.1 _ (List.mem_of_getElem? (l := tables_1) (i := 93) rfl)
theorem d_prog_13_method_6_code_41 : decode prog_13_method_6_code 41 = .ok (.istore_n 3, 1) := by decide +kernel
theorem d_prog_13_method_6_code_42 : decode prog_13_method_6_code 42 = .ok (.iload_n 3, 1) := by decide +kernel
theorem d_prog_13_method_6_code_43 : decode prog_13_method_6_code 43 = .ok (.ldc 84, 2) := by decide +kernel
theorem w_120 {Z : State} {a0 : Array Value} (G : Cl Z a0) : (Jvm.Cond.constant "com/example/hermit_crab/hermitcrab/LockOptions" 84 (55296)).before a0 Z = true := G.1 _ (List.mem_of_getElem? (l := tables_1) (i := 120) rfl)
theorem d_prog_13_method_6_code_45 : decode prog_13_method_6_code 45 = .ok (.if_icmp .lt 23, 3) := by decide +kernel
theorem d_prog_13_method_6_code_68 : decode prog_13_method_6_code 68 = .ok (.iinc 1 1, 3) := by decide +kernel
theorem d_prog_13_method_6_code_71 : decode prog_13_method_6_code 71 = .ok (.iload_n 2, 1) := by decide +kernel
theorem d_prog_13_method_6_code_72 : decode prog_13_method_6_code 72 = .ok (.iload_n 3, 1) := by decide +kernel
theorem d_prog_13_method_6_code_73 : decode prog_13_method_6_code 73 = .ok (.invokestatic 89, 3) := by decide +kernel
theorem w_121 {Z : State} {a0 : Array Value} (G : Cl Z a0) : (Jvm.Cond.methodLink "com/example/hermit_crab/hermitcrab/LockOptions" 89 (⟨"java/lang/Character", "charCount", "(I)I"⟩ : MethodName)).before a0 Z = true := G.1 _ (List.mem_of_getElem? (l := tables_1) (i := 121) rfl)
theorem w_123 {Z : State} {a0 : Array Value} (G : Cl Z a0) : (Jvm.Cond.code (⟨"java/lang/Character", "charCount", "(I)I"⟩ : MethodName) jdk_89_method_18_code 1 (some .int)).before a0 Z = true := G.1 _ (List.mem_of_getElem? (l := tables_1) (i := 123) rfl)
theorem w_122 {Z : State} {a0 : Array Value} (G : Cl Z a0) : (Jvm.Cond.static (⟨"java/lang/Character", "charCount", "(I)I"⟩ : MethodName)).before a0 Z = true := G.1 _ (List.mem_of_getElem? (l := tables_1) (i := 122) rfl)
theorem d_prog_13_method_6_code_76 : decode prog_13_method_6_code 76 = .ok (.iadd, 1) := by decide +kernel
theorem d_prog_13_method_6_code_77 : decode prog_13_method_6_code 77 = .ok (.istore_n 2, 1) := by decide +kernel
theorem d_prog_13_method_6_code_78 : decode prog_13_method_6_code 78 = .ok (.goto (-50), 3) := by decide +kernel
theorem d_prog_13_method_6_code_48 : decode prog_13_method_6_code 48 = .ok (.iload_n 3, 1) := by decide +kernel
theorem d_prog_13_method_6_code_49 : decode prog_13_method_6_code 49 = .ok (.ldc 85, 2) := by decide +kernel
theorem w_134 {Z : State} {a0 : Array Value} (G : Cl Z a0) : (Jvm.Cond.constant "com/example/hermit_crab/hermitcrab/LockOptions" 85 (57343)).before a0 Z = true := G.1 _ (List.mem_of_getElem? (l := tables_1) (i := 134) rfl)
theorem d_prog_13_method_6_code_51 : decode prog_13_method_6_code 51 = .ok (.if_icmp .gt 17, 3) := by decide +kernel
theorem d_prog_13_method_6_code_81 : decode prog_13_method_6_code 81 = .ok (.iload_n 1, 1) := by decide +kernel
theorem d_prog_13_method_6_code_82 : decode prog_13_method_6_code 82 = .ok (.sipush 200, 3) := by decide +kernel
theorem d_prog_13_method_6_code_85 : decode prog_13_method_6_code 85 = .ok (.if_icmp .le 17, 3) := by decide +kernel
theorem d_prog_13_method_6_code_102 : decode prog_13_method_6_code 102 = .ok (.aload_n 0, 1) := by decide +kernel
theorem d_prog_13_method_6_code_103 : decode prog_13_method_6_code 103 = .ok (.areturn, 1) := by decide +kernel
theorem pn_24 : plainName "com/example/hermit_crab/hermitcrab/LockOptions" = true := by first | (simp [plainName, overriddenIn]; done) | decide +kernel
set_option maxRecDepth 65536 in
set_option maxHeartbeats 40000000 in
theorem lp_chk {l : Launch} {Z : State} {a0 : Array Value} (G : Cl Z a0) {X : Ctx} {a b : Addr} {c cb : Cell} {cs : List Int32} (S : StrG Z c b cb cs) (hn : cs.length < 65536) :
    ∀ (n k i : Nat), Wf n (cs.drop i) → i ≤ cs.length → k + n ≤ 200 → ∀ (o : Slot), One o → ∀ (T : State), Wk l Z EL1 ({ frames := 4, cells := 2, slots := 20, locals := 70 } : Room) "com/example/hermit_crab/hermitcrab/LockOptions" prog_13_method_6_code 4 (some (.object "java/lang/String")) "checkName" X [] [(a, c), (b, cb)] T 2 (20) → Go Z EL1 2 20 (fun v σ ρ => v = some (.ref a) ∧ σ = [] ∧ ρ = []) X T 28 #[.val (.ref a), .val (.int k.toInt32), .val (.int i.toInt32), o] []
  | 0, k, i, hw, hi, hk, o, ho, T, W => by
    have hd : cs.drop i = [] := hw
    have hl := congrArg List.length hd
    rw [List.length_drop, List.length_nil] at hl
    refine Go.iloadN (pc' := 29) W d_prog_13_method_6_code_28 rfl rfl ?_
    refine Go.aloadN (pc' := 30) W d_prog_13_method_6_code_29 rfl rfl rfl ?_
    refine Go.virtual (pc' := 33) W (rm_lenG G a b c cb cs S) (Or.inr (Or.inl (List.mem_of_getElem? (i := 0) rfl))) (StrG.obj S) (w_81 G) (w_82 G) (w_84 G) (w_83 G) (w_19 G) (w_85 G) (by decide) [] [0, 1] (σf := []) rfl rfl [] [(.int i.toInt32)] rfl (lenOf pd_23 rfl) rfl rfl d_prog_13_method_6_code_30 rfl (by first | exact Nat.le_of_ble_eq_true rfl | (simp; done) | (simp; omega) | omega) (by first | exact Nat.le_of_ble_eq_true rfl | (simp; done) | (simp; omega) | omega) (by first | exact Nat.le_of_ble_eq_true rfl | (simp; done) | (simp; omega) | omega) (by first | exact Nat.le_of_ble_eq_true rfl | (simp; done) | (simp; omega) | omega) ?_
    rintro _ _ _ T1 ⟨rfl, rfl, rfl⟩ W2
    replace W2 : Wk l Z EL1 ({ frames := 4, cells := 2, slots := 20, locals := 70 } : Room) "com/example/hermit_crab/hermitcrab/LockOptions" prog_13_method_6_code 4 (some (.object "java/lang/String")) "checkName" X [] [(a, c), (b, cb)] T1 2 (20) := W2
    show Go Z EL1 _ _ _ X T1 33 #[.val (.ref a), .val (.int k.toInt32), .val (.int i.toInt32), o] [(.int cs.length.toInt32), (.int i.toInt32)]
    refine Go.icmp_ge (pc' := 36) W2 81 d_prog_13_method_6_code_33 (by decide) rfl (fun _ => ?_) (fun q => absurd q (by rw [i32_lt (by omega) (by omega)]; omega))
    refine Go.iloadN (pc' := 82) W2 d_prog_13_method_6_code_81 rfl rfl ?_
    refine Go.sipush (pc' := 85) W2 (200 : Int32) d_prog_13_method_6_code_82 (by decide) rfl ?_
    refine Go.icmp_le (pc' := 88) W2 102 d_prog_13_method_6_code_85 (by decide) rfl (fun _ => ?_) (fun q => absurd q (le200 (by omega)))
    refine Go.aloadN (pc' := 103) W2 d_prog_13_method_6_code_102 rfl rfl rfl ?_
    have W3 := W2.keepRo [] (ρ' := []) rfl
    replace W3 : Wk l Z EL1 ({ frames := 4, cells := 2, slots := 20, locals := 70 } : Room) "com/example/hermit_crab/hermitcrab/LockOptions" prog_13_method_6_code 4 (some (.object "java/lang/String")) "checkName" X [] [] T1 2 (20) := W3
    refine Go.aret W3 rfl rfl d_prog_13_method_6_code_103 (by first | exact Nat.le_of_ble_eq_true rfl | (simp; done) | (simp; omega) | omega) (by first | exact Nat.le_of_ble_eq_true rfl | (simp; done) | (simp; omega) | omega) ?_
    exact ⟨rfl, rfl, rfl⟩
  | n + 1, k, i, hw, hi, hk, o, ho, T, W => by
    rcases hw with ⟨x, t, e, hB, hw⟩ | ⟨h, l_, t, e, hH, hL, hw⟩
    · have hx := (drop1 e).1
      have hj := (drop1 e).2.2
      refine Go.iloadN (pc' := 29) W d_prog_13_method_6_code_28 rfl rfl ?_
      refine Go.aloadN (pc' := 30) W d_prog_13_method_6_code_29 rfl rfl rfl ?_
      refine Go.virtual (pc' := 33) W (rm_lenG G a b c cb cs S) (Or.inr (Or.inl (List.mem_of_getElem? (i := 0) rfl))) (StrG.obj S) (w_81 G) (w_82 G) (w_84 G) (w_83 G) (w_19 G) (w_85 G) (by decide) [] [0, 1] (σf := []) rfl rfl [] [(.int i.toInt32)] rfl (lenOf pd_23 rfl) rfl rfl d_prog_13_method_6_code_30 rfl (by first | exact Nat.le_of_ble_eq_true rfl | (simp; done) | (simp; omega) | omega) (by first | exact Nat.le_of_ble_eq_true rfl | (simp; done) | (simp; omega) | omega) (by first | exact Nat.le_of_ble_eq_true rfl | (simp; done) | (simp; omega) | omega) (by first | exact Nat.le_of_ble_eq_true rfl | (simp; done) | (simp; omega) | omega) ?_
      rintro _ _ _ T1 ⟨rfl, rfl, rfl⟩ W2
      replace W2 : Wk l Z EL1 ({ frames := 4, cells := 2, slots := 20, locals := 70 } : Room) "com/example/hermit_crab/hermitcrab/LockOptions" prog_13_method_6_code 4 (some (.object "java/lang/String")) "checkName" X [] [(a, c), (b, cb)] T1 2 (20) := W2
      show Go Z EL1 _ _ _ X T1 33 #[.val (.ref a), .val (.int k.toInt32), .val (.int i.toInt32), o] [(.int cs.length.toInt32), (.int i.toInt32)]
      refine Go.icmp_ge (pc' := 36) W2 81 d_prog_13_method_6_code_33 (by decide) rfl (fun q => absurd ((i32_lt (by omega) (by omega)).mpr (by omega)) q) (fun _ => ?_)
      refine Go.aloadN (pc' := 37) W2 d_prog_13_method_6_code_36 rfl rfl rfl ?_
      refine Go.iloadN (pc' := 38) W2 d_prog_13_method_6_code_37 rfl rfl ?_
      refine Go.virtual (pc' := 41) W2 (rm_cgb G a b c cb cs S i x hB hx) (Or.inr (Or.inl (List.mem_of_getElem? (i := 0) rfl))) (StrG.obj S) (w_91 G) (w_92 G) (w_94 G) (w_93 G) (w_19 G) (w_95 G) (by decide) [] [0, 1] (σf := []) rfl rfl [(.int i.toInt32)] [] rfl (lenOf pd_1 rfl) rfl rfl d_prog_13_method_6_code_38 rfl (by first | exact Nat.le_of_ble_eq_true rfl | (simp; done) | (simp; omega) | omega) (by first | exact Nat.le_of_ble_eq_true rfl | (simp; done) | (simp; omega) | omega) (by first | exact Nat.le_of_ble_eq_true rfl | (simp; done) | (simp; omega) | omega) (by first | exact Nat.le_of_ble_eq_true rfl | (simp; done) | (simp; omega) | omega) ?_
      rintro _ _ _ T3 ⟨rfl, rfl, rfl⟩ W4
      replace W4 : Wk l Z EL1 ({ frames := 4, cells := 2, slots := 20, locals := 70 } : Room) "com/example/hermit_crab/hermitcrab/LockOptions" prog_13_method_6_code 4 (some (.object "java/lang/String")) "checkName" X [] [(a, c), (b, cb)] T3 2 (20) := W4
      show Go Z EL1 _ _ _ X T3 41 #[.val (.ref a), .val (.int k.toInt32), .val (.int i.toInt32), o] [(.int x)]
      refine Go.istoreN (pc' := 42) W4 #[.val (.ref a), .val (.int k.toInt32), .val (.int i.toInt32), .val (.int x)] d_prog_13_method_6_code_41 (XS.store1 (o := o) rfl ho rfl) rfl ?_
      refine Go.iloadN (pc' := 43) W4 d_prog_13_method_6_code_42 rfl rfl ?_
      refine Go.ldcInt (pc' := 45) W4 (w_120 G) d_prog_13_method_6_code_43 rfl ?_
      refine Go.icmp_lt (pc' := 48) W4 68 d_prog_13_method_6_code_45 (by decide) rfl (fun (c5 : x < (55296 : Int32)) => ?_) (fun (c5 : ¬ (x < (55296 : Int32))) => ?_)
      · refine Go.iinc (pc' := 71) W4 (1 : Int32) #[.val (.ref a), .val (.int (k.toInt32 + (1 : Int32))), .val (.int i.toInt32), .val (.int x)] d_prog_13_method_6_code_68 rfl (by decide) rfl rfl ?_
        refine Go.iloadN (pc' := 72) W4 d_prog_13_method_6_code_71 rfl rfl ?_
        refine Go.iloadN (pc' := 73) W4 d_prog_13_method_6_code_72 rfl rfl ?_
        refine Go.static (pc' := 76) W4 (rm_cca G x hB.lt) (w_121 G) (w_122 G) (w_117 G) (w_123 G) (by decide) [] [] (σf := []) rfl rfl [(.int x)] [(.int i.toInt32)] rfl (lenOf pd_1 rfl) rfl rfl d_prog_13_method_6_code_73 rfl (by first | exact Nat.le_of_ble_eq_true rfl | (simp; done) | (simp; omega) | omega) (by first | exact Nat.le_of_ble_eq_true rfl | (simp; done) | (simp; omega) | omega) (by first | exact Nat.le_of_ble_eq_true rfl | (simp; done) | (simp; omega) | omega) (by first | exact Nat.le_of_ble_eq_true rfl | (simp; done) | (simp; omega) | omega) ?_
        rintro _ _ _ T6 ⟨rfl, rfl, rfl⟩ W7
        replace W7 : Wk l Z EL1 ({ frames := 4, cells := 2, slots := 20, locals := 70 } : Room) "com/example/hermit_crab/hermitcrab/LockOptions" prog_13_method_6_code 4 (some (.object "java/lang/String")) "checkName" X [] [(a, c), (b, cb)] T6 2 (20) := W7
        show Go Z EL1 _ _ _ X T6 76 #[.val (.ref a), .val (.int (k.toInt32 + (1 : Int32))), .val (.int i.toInt32), .val (.int x)] [(.int (1 : Int32)), (.int i.toInt32)]
        refine Go.iadd (pc' := 77) W7 d_prog_13_method_6_code_76 rfl ?_
        refine Go.istoreN (pc' := 78) W7 #[.val (.ref a), .val (.int (k.toInt32 + (1 : Int32))), .val (.int (i.toInt32 + (1 : Int32))), .val (.int x)] d_prog_13_method_6_code_77 rfl rfl ?_
        refine Go.goto W7 28 d_prog_13_method_6_code_78 (by decide) ?_
        rw [show (k.toInt32 + 1 : Int32) = (k + 1).toInt32 from i32_an k 1, show (i.toInt32 + (1 : Int32) : Int32) = (i + 1).toInt32 from i32_an i 1]
        exact lp_chk G S hn n (k + 1) (i + 1) (by have q := (drop1 e).2.1; exact q ▸ hw) (by omega) (by omega) _ (One.val rfl) T6 W7
      · refine Go.iloadN (pc' := 49) W4 d_prog_13_method_6_code_48 rfl rfl ?_
        refine Go.ldcInt (pc' := 51) W4 (w_134 G) d_prog_13_method_6_code_49 rfl ?_
        refine Go.icmp_gt (pc' := 54) W4 68 d_prog_13_method_6_code_51 (by decide) rfl (fun _ => ?_) (fun q => absurd (hB.2.resolve_left c5) q)
        refine Go.iinc (pc' := 71) W4 (1 : Int32) #[.val (.ref a), .val (.int (k.toInt32 + (1 : Int32))), .val (.int i.toInt32), .val (.int x)] d_prog_13_method_6_code_68 rfl (by decide) rfl rfl ?_
        refine Go.iloadN (pc' := 72) W4 d_prog_13_method_6_code_71 rfl rfl ?_
        refine Go.iloadN (pc' := 73) W4 d_prog_13_method_6_code_72 rfl rfl ?_
        refine Go.static (pc' := 76) W4 (rm_cca G x hB.lt) (w_121 G) (w_122 G) (w_117 G) (w_123 G) (by decide) [] [] (σf := []) rfl rfl [(.int x)] [(.int i.toInt32)] rfl (lenOf pd_1 rfl) rfl rfl d_prog_13_method_6_code_73 rfl (by first | exact Nat.le_of_ble_eq_true rfl | (simp; done) | (simp; omega) | omega) (by first | exact Nat.le_of_ble_eq_true rfl | (simp; done) | (simp; omega) | omega) (by first | exact Nat.le_of_ble_eq_true rfl | (simp; done) | (simp; omega) | omega) (by first | exact Nat.le_of_ble_eq_true rfl | (simp; done) | (simp; omega) | omega) ?_
        rintro _ _ _ T8 ⟨rfl, rfl, rfl⟩ W9
        replace W9 : Wk l Z EL1 ({ frames := 4, cells := 2, slots := 20, locals := 70 } : Room) "com/example/hermit_crab/hermitcrab/LockOptions" prog_13_method_6_code 4 (some (.object "java/lang/String")) "checkName" X [] [(a, c), (b, cb)] T8 2 (20) := W9
        show Go Z EL1 _ _ _ X T8 76 #[.val (.ref a), .val (.int (k.toInt32 + (1 : Int32))), .val (.int i.toInt32), .val (.int x)] [(.int (1 : Int32)), (.int i.toInt32)]
        refine Go.iadd (pc' := 77) W9 d_prog_13_method_6_code_76 rfl ?_
        refine Go.istoreN (pc' := 78) W9 #[.val (.ref a), .val (.int (k.toInt32 + (1 : Int32))), .val (.int (i.toInt32 + (1 : Int32))), .val (.int x)] d_prog_13_method_6_code_77 rfl rfl ?_
        refine Go.goto W9 28 d_prog_13_method_6_code_78 (by decide) ?_
        rw [show (k.toInt32 + 1 : Int32) = (k + 1).toInt32 from i32_an k 1, show (i.toInt32 + (1 : Int32) : Int32) = (i + 1).toInt32 from i32_an i 1]
        exact lp_chk G S hn n (k + 1) (i + 1) (by have q := (drop1 e).2.1; exact q ▸ hw) (by omega) (by omega) _ (One.val rfl) T8 W9
    · have hx := (drop1 e).1
      have hy := (drop1 (drop1 e).2.1).1
      have hj := (drop1 (drop1 e).2.1).2.2
      refine Go.iloadN (pc' := 29) W d_prog_13_method_6_code_28 rfl rfl ?_
      refine Go.aloadN (pc' := 30) W d_prog_13_method_6_code_29 rfl rfl rfl ?_
      refine Go.virtual (pc' := 33) W (rm_lenG G a b c cb cs S) (Or.inr (Or.inl (List.mem_of_getElem? (i := 0) rfl))) (StrG.obj S) (w_81 G) (w_82 G) (w_84 G) (w_83 G) (w_19 G) (w_85 G) (by decide) [] [0, 1] (σf := []) rfl rfl [] [(.int i.toInt32)] rfl (lenOf pd_23 rfl) rfl rfl d_prog_13_method_6_code_30 rfl (by first | exact Nat.le_of_ble_eq_true rfl | (simp; done) | (simp; omega) | omega) (by first | exact Nat.le_of_ble_eq_true rfl | (simp; done) | (simp; omega) | omega) (by first | exact Nat.le_of_ble_eq_true rfl | (simp; done) | (simp; omega) | omega) (by first | exact Nat.le_of_ble_eq_true rfl | (simp; done) | (simp; omega) | omega) ?_
      rintro _ _ _ T1 ⟨rfl, rfl, rfl⟩ W2
      replace W2 : Wk l Z EL1 ({ frames := 4, cells := 2, slots := 20, locals := 70 } : Room) "com/example/hermit_crab/hermitcrab/LockOptions" prog_13_method_6_code 4 (some (.object "java/lang/String")) "checkName" X [] [(a, c), (b, cb)] T1 2 (20) := W2
      show Go Z EL1 _ _ _ X T1 33 #[.val (.ref a), .val (.int k.toInt32), .val (.int i.toInt32), o] [(.int cs.length.toInt32), (.int i.toInt32)]
      refine Go.icmp_ge (pc' := 36) W2 81 d_prog_13_method_6_code_33 (by decide) rfl (fun q => absurd ((i32_lt (by omega) (by omega)).mpr (by omega)) q) (fun _ => ?_)
      refine Go.aloadN (pc' := 37) W2 d_prog_13_method_6_code_36 rfl rfl rfl ?_
      refine Go.iloadN (pc' := 38) W2 d_prog_13_method_6_code_37 rfl rfl ?_
      refine Go.virtual (pc' := 41) W2 (rm_cgp G a b c cb cs S i h l_ hH hL hx hy) (Or.inr (Or.inl (List.mem_of_getElem? (i := 0) rfl))) (StrG.obj S) (w_91 G) (w_92 G) (w_94 G) (w_93 G) (w_19 G) (w_95 G) (by decide) [] [0, 1] (σf := []) rfl rfl [(.int i.toInt32)] [] rfl (lenOf pd_1 rfl) rfl rfl d_prog_13_method_6_code_38 rfl (by first | exact Nat.le_of_ble_eq_true rfl | (simp; done) | (simp; omega) | omega) (by first | exact Nat.le_of_ble_eq_true rfl | (simp; done) | (simp; omega) | omega) (by first | exact Nat.le_of_ble_eq_true rfl | (simp; done) | (simp; omega) | omega) (by first | exact Nat.le_of_ble_eq_true rfl | (simp; done) | (simp; omega) | omega) ?_
      rintro _ _ _ T3 ⟨rfl, rfl, rfl⟩ W4
      replace W4 : Wk l Z EL1 ({ frames := 4, cells := 2, slots := 20, locals := 70 } : Room) "com/example/hermit_crab/hermitcrab/LockOptions" prog_13_method_6_code 4 (some (.object "java/lang/String")) "checkName" X [] [(a, c), (b, cb)] T3 2 (20) := W4
      show Go Z EL1 _ _ _ X T3 41 #[.val (.ref a), .val (.int k.toInt32), .val (.int i.toInt32), o] [(.int ((h <<< ((10 : Int32) &&& 31) + l_) + (-56613888 : Int32)))]
      refine Go.istoreN (pc' := 42) W4 #[.val (.ref a), .val (.int k.toInt32), .val (.int i.toInt32), .val (.int ((h <<< ((10 : Int32) &&& 31) + l_) + (-56613888 : Int32)))] d_prog_13_method_6_code_41 (XS.store1 (o := o) rfl ho rfl) rfl ?_
      refine Go.iloadN (pc' := 43) W4 d_prog_13_method_6_code_42 rfl rfl ?_
      refine Go.ldcInt (pc' := 45) W4 (w_120 G) d_prog_13_method_6_code_43 rfl ?_
      refine Go.icmp_lt (pc' := 48) W4 68 d_prog_13_method_6_code_45 (by decide) rfl (fun q => absurd q (cpv hH hL).2.2) (fun _ => ?_)
      refine Go.iloadN (pc' := 49) W4 d_prog_13_method_6_code_48 rfl rfl ?_
      refine Go.ldcInt (pc' := 51) W4 (w_134 G) d_prog_13_method_6_code_49 rfl ?_
      refine Go.icmp_gt (pc' := 54) W4 68 d_prog_13_method_6_code_51 (by decide) rfl (fun _ => ?_) (fun q => absurd (cpv hH hL).1 q)
      refine Go.iinc (pc' := 71) W4 (1 : Int32) #[.val (.ref a), .val (.int (k.toInt32 + (1 : Int32))), .val (.int i.toInt32), .val (.int ((h <<< ((10 : Int32) &&& 31) + l_) + (-56613888 : Int32)))] d_prog_13_method_6_code_68 rfl (by decide) rfl rfl ?_
      refine Go.iloadN (pc' := 72) W4 d_prog_13_method_6_code_71 rfl rfl ?_
      refine Go.iloadN (pc' := 73) W4 d_prog_13_method_6_code_72 rfl rfl ?_
      refine Go.static (pc' := 76) W4 (rm_ccb G _ (cpv hH hL).2.1) (w_121 G) (w_122 G) (w_117 G) (w_123 G) (by decide) [] [] (σf := []) rfl rfl [(.int ((h <<< ((10 : Int32) &&& 31) + l_) + (-56613888 : Int32)))] [(.int i.toInt32)] rfl (lenOf pd_1 rfl) rfl rfl d_prog_13_method_6_code_73 rfl (by first | exact Nat.le_of_ble_eq_true rfl | (simp; done) | (simp; omega) | omega) (by first | exact Nat.le_of_ble_eq_true rfl | (simp; done) | (simp; omega) | omega) (by first | exact Nat.le_of_ble_eq_true rfl | (simp; done) | (simp; omega) | omega) (by first | exact Nat.le_of_ble_eq_true rfl | (simp; done) | (simp; omega) | omega) ?_
      rintro _ _ _ T5 ⟨rfl, rfl, rfl⟩ W6
      replace W6 : Wk l Z EL1 ({ frames := 4, cells := 2, slots := 20, locals := 70 } : Room) "com/example/hermit_crab/hermitcrab/LockOptions" prog_13_method_6_code 4 (some (.object "java/lang/String")) "checkName" X [] [(a, c), (b, cb)] T5 2 (20) := W6
      show Go Z EL1 _ _ _ X T5 76 #[.val (.ref a), .val (.int (k.toInt32 + (1 : Int32))), .val (.int i.toInt32), .val (.int ((h <<< ((10 : Int32) &&& 31) + l_) + (-56613888 : Int32)))] [(.int (2 : Int32)), (.int i.toInt32)]
      refine Go.iadd (pc' := 77) W6 d_prog_13_method_6_code_76 rfl ?_
      refine Go.istoreN (pc' := 78) W6 #[.val (.ref a), .val (.int (k.toInt32 + (1 : Int32))), .val (.int (i.toInt32 + (2 : Int32))), .val (.int ((h <<< ((10 : Int32) &&& 31) + l_) + (-56613888 : Int32)))] d_prog_13_method_6_code_77 rfl rfl ?_
      refine Go.goto W6 28 d_prog_13_method_6_code_78 (by decide) ?_
      rw [show (k.toInt32 + 1 : Int32) = (k + 1).toInt32 from i32_an k 1, show (i.toInt32 + (2 : Int32) : Int32) = (i + 2).toInt32 from i32_an i 2]
      exact lp_chk G S hn n (k + 1) (i + 2) (by have q := (drop1 (drop1 e).2.1).2.1; exact q ▸ hw) (by omega) (by omega) _ (One.val rfl) T5 W6
theorem d_prog_13_method_6_code_0 : decode prog_13_method_6_code 0 = .ok (.aload_n 0, 1) := by decide +kernel
theorem d_prog_13_method_6_code_1 : decode prog_13_method_6_code 1 = .ok (.ldc 66, 2) := by decide +kernel
theorem w_69 {Z : State} {a0 : Array Value} (G : Cl Z a0) : (Jvm.Cond.stringLink "com/example/hermit_crab/hermitcrab/LockOptions" 66 "name").before a0 Z = true := G.1 _ (List.mem_of_getElem? (l := tables_1) (i := 69) rfl)
theorem d_prog_13_method_6_code_3 : decode prog_13_method_6_code 3 = .ok (.invokestatic 26, 3) := by decide +kernel
theorem w_72 {Z : State} {a0 : Array Value} (G : Cl Z a0) : (Jvm.Cond.methodLink "com/example/hermit_crab/hermitcrab/LockOptions" 26 (⟨"java/util/Objects", "requireNonNull", "(Ljava/lang/Object;Ljava/lang/String;)Ljava/lang/Object;"⟩ : MethodName)).before a0 Z = true := G.1 _ (List.mem_of_getElem? (l := tables_1) (i := 72) rfl)
theorem w_74 {Z : State} {a0 : Array Value} (G : Cl Z a0) : (Jvm.Cond.initialized "java/util/Objects").before a0 Z = true := G.1 _ (List.mem_of_getElem? (l := tables_1) (i := 74) rfl)
theorem w_75 {Z : State} {a0 : Array Value} (G : Cl Z a0) : (Jvm.Cond.code (⟨"java/util/Objects", "requireNonNull", "(Ljava/lang/Object;Ljava/lang/String;)Ljava/lang/Object;"⟩ : MethodName) jdk_31_method_11_code 2 (some (.object "java/lang/Object"))).before a0 Z = true := G.1 _ (List.mem_of_getElem? (l := tables_1) (i := 75) rfl)
theorem pd_25 : parseMethodDescriptor "(Ljava/lang/Object;Ljava/lang/String;)Ljava/lang/Object;" = some ⟨[(.object "java/lang/Object"), (.object "java/lang/String")], some (.object "java/lang/Object")⟩ := by decide +kernel
theorem w_73 {Z : State} {a0 : Array Value} (G : Cl Z a0) : (Jvm.Cond.static (⟨"java/util/Objects", "requireNonNull", "(Ljava/lang/Object;Ljava/lang/String;)Ljava/lang/Object;"⟩ : MethodName)).before a0 Z = true := G.1 _ (List.mem_of_getElem? (l := tables_1) (i := 73) rfl)
theorem d_prog_13_method_6_code_6 : decode prog_13_method_6_code 6 = .ok (.pop, 1) := by decide +kernel
theorem d_prog_13_method_6_code_7 : decode prog_13_method_6_code 7 = .ok (.aload_n 0, 1) := by decide +kernel
theorem d_prog_13_method_6_code_8 : decode prog_13_method_6_code 8 = .ok (.invokevirtual 68, 3) := by decide +kernel
theorem w_76 {Z : State} {a0 : Array Value} (G : Cl Z a0) : (Jvm.Cond.methodLink "com/example/hermit_crab/hermitcrab/LockOptions" 68 (⟨"java/lang/String", "isEmpty", "()Z"⟩ : MethodName)).before a0 Z = true := G.1 _ (List.mem_of_getElem? (l := tables_1) (i := 76) rfl)
theorem w_80 {Z : State} {a0 : Array Value} (G : Cl Z a0) : (Jvm.Cond.code (⟨"java/lang/String", "isEmpty", "()Z"⟩ : MethodName) jdk_42_method_55_code 1 (some .boolean)).before a0 Z = true := G.1 _ (List.mem_of_getElem? (l := tables_1) (i := 80) rfl)
theorem w_77 {Z : State} {a0 : Array Value} (G : Cl Z a0) : (Jvm.Cond.declares (⟨"java/lang/String", "isEmpty", "()Z"⟩ : MethodName)).before a0 Z = true := G.1 _ (List.mem_of_getElem? (l := tables_1) (i := 77) rfl)
theorem w_79 {Z : State} {a0 : Array Value} (G : Cl Z a0) : (Jvm.Cond.selects "java/lang/String" (⟨"java/lang/String", "isEmpty", "()Z"⟩ : MethodName) (⟨"java/lang/String", "isEmpty", "()Z"⟩ : MethodName)).before a0 Z = true := G.1 _ (List.mem_of_getElem? (l := tables_1) (i := 79) rfl)
theorem w_78 {Z : State} {a0 : Array Value} (G : Cl Z a0) : (Jvm.Cond.instanceMethod (⟨"java/lang/String", "isEmpty", "()Z"⟩ : MethodName)).before a0 Z = true := G.1 _ (List.mem_of_getElem? (l := tables_1) (i := 78) rfl)
theorem d_prog_13_method_6_code_11 : decode prog_13_method_6_code 11 = .ok (.ifCond .eq 13, 3) := by decide +kernel
theorem d_prog_13_method_6_code_24 : decode prog_13_method_6_code 24 = .ok (.iconst 0, 1) := by decide +kernel
theorem d_prog_13_method_6_code_25 : decode prog_13_method_6_code 25 = .ok (.istore_n 1, 1) := by decide +kernel
theorem d_prog_13_method_6_code_26 : decode prog_13_method_6_code 26 = .ok (.iconst 0, 1) := by decide +kernel
theorem d_prog_13_method_6_code_27 : decode prog_13_method_6_code 27 = .ok (.istore_n 2, 1) := by decide +kernel
set_option maxRecDepth 65536 in
set_option maxHeartbeats 40000000 in
theorem rm_ckn {l : Launch} {Z : State} {a0 : Array Value} (G : Cl Z a0) (a b : Addr) (c cb : Cell) (cs : List Int32) (S : StrG Z c b cb cs) (m : Nat) (hw : Wf m cs) (hm : m ≤ 200) (hne : ¬ cs = []) :
    Met l Z EL1 (⟨"com/example/hermit_crab/hermitcrab/LockOptions", "checkName", "(Ljava/lang/String;)Ljava/lang/String;"⟩ : MethodName) prog_13_method_6_code 4 (some (.object "java/lang/String")) ({ frames := 4, cells := 2, slots := 20, locals := 70 } : Room) #[.ref a] [] [(a, c), (b, cb)] (fun v σ ρ => v = some (.ref a) ∧ σ = [] ∧ ρ = []) := by
  refine Met.walk G.2.1 pn_24 #[.val (.ref a), .unset, .unset, .unset] (fun m => by first | (simp [entryFrame, mkF, argsToLocals, Value.category]; done) | rfl) ?_
  intro X T0 W0
  refine Go.aloadN (pc' := 1) W0 d_prog_13_method_6_code_0 rfl rfl rfl ?_
  refine Go.ldcAny (pc' := 3) W0 G.2.1 (w_69 G) (strAtoms G) d_prog_13_method_6_code_1 rfl (m := 16) (by decide +kernel) (by decide) (by first | exact Nat.le_of_ble_eq_true rfl | (simp; done) | (simp; omega) | omega) (by first | exact Nat.le_of_ble_eq_true rfl | (simp; done) | (simp; omega) | omega) (fun T1 a3 W2 => ?_)
  replace W2 : Wk l Z EL1 ({ frames := 4, cells := 2, slots := 20, locals := 70 } : Room) "com/example/hermit_crab/hermitcrab/LockOptions" prog_13_method_6_code 4 (some (.object "java/lang/String")) "checkName" X [] [(a, c), (b, cb)] T1 2 (20) := W2
  refine Go.static (pc' := 6) W2 (rm_rnn G a a3) (w_72 G) (w_73 G) (w_74 G) (w_75 G) (by decide) [] [] (σf := []) rfl rfl [(.ref a), (.ref a3)] [] rfl (lenOf pd_25 rfl) rfl rfl d_prog_13_method_6_code_3 rfl (by first | exact Nat.le_of_ble_eq_true rfl | (simp; done) | (simp; omega) | omega) (by first | exact Nat.le_of_ble_eq_true rfl | (simp; done) | (simp; omega) | omega) (by first | exact Nat.le_of_ble_eq_true rfl | (simp; done) | (simp; omega) | omega) (by first | exact Nat.le_of_ble_eq_true rfl | (simp; done) | (simp; omega) | omega) ?_
  rintro _ _ _ T4 ⟨rfl, rfl, rfl⟩ W5
  replace W5 : Wk l Z EL1 ({ frames := 4, cells := 2, slots := 20, locals := 70 } : Room) "com/example/hermit_crab/hermitcrab/LockOptions" prog_13_method_6_code 4 (some (.object "java/lang/String")) "checkName" X [] [(a, c), (b, cb)] T4 2 (20) := W5
  show Go Z EL1 _ _ _ X T4 6 #[.val (.ref a), .unset, .unset, .unset] [(.ref a)]
  refine Go.pop (pc' := 7) W5 d_prog_13_method_6_code_6 rfl rfl ?_
  refine Go.aloadN (pc' := 8) W5 d_prog_13_method_6_code_7 rfl rfl rfl ?_
  refine Go.virtual (pc' := 11) W5 (rm_isg G a b c cb cs S hne) (Or.inr (Or.inl (List.mem_of_getElem? (i := 0) rfl))) (StrG.obj S) (w_76 G) (w_77 G) (w_79 G) (w_78 G) (w_19 G) (w_80 G) (by decide) [] [0, 1] (σf := []) rfl rfl [] [] rfl (lenOf pd_20 rfl) rfl rfl d_prog_13_method_6_code_8 rfl (by first | exact Nat.le_of_ble_eq_true rfl | (simp; done) | (simp; omega) | omega) (by first | exact Nat.le_of_ble_eq_true rfl | (simp; done) | (simp; omega) | omega) (by first | exact Nat.le_of_ble_eq_true rfl | (simp; done) | (simp; omega) | omega) (by first | exact Nat.le_of_ble_eq_true rfl | (simp; done) | (simp; omega) | omega) ?_
  rintro _ _ _ T6 ⟨rfl, rfl, rfl⟩ W7
  replace W7 : Wk l Z EL1 ({ frames := 4, cells := 2, slots := 20, locals := 70 } : Room) "com/example/hermit_crab/hermitcrab/LockOptions" prog_13_method_6_code 4 (some (.object "java/lang/String")) "checkName" X [] [(a, c), (b, cb)] T6 2 (20) := W7
  show Go Z EL1 _ _ _ X T6 11 #[.val (.ref a), .unset, .unset, .unset] [(.int (0 : Int32))]
  refine Go.if_eq (pc' := 14) W7 24 d_prog_13_method_6_code_11 (by decide) rfl (fun _ => ?_) (fun q => absurd (by decide) q)
  refine Go.iconst (pc' := 25) W7 (0 : Int32) d_prog_13_method_6_code_24 (by decide) rfl ?_
  refine Go.istoreN (pc' := 26) W7 #[.val (.ref a), .val (.int (0 : Int32)), .unset, .unset] d_prog_13_method_6_code_25 rfl rfl ?_
  refine Go.iconst (pc' := 27) W7 (0 : Int32) d_prog_13_method_6_code_26 (by decide) rfl ?_
  refine Go.istoreN (pc' := 28) W7 #[.val (.ref a), .val (.int (0 : Int32)), .val (.int (0 : Int32)), .unset] d_prog_13_method_6_code_27 rfl rfl ?_
  have W8 := W7.keepRo [0, 1] (ρ' := [(a, c), (b, cb)]) rfl
  replace W8 : Wk l Z EL1 ({ frames := 4, cells := 2, slots := 20, locals := 70 } : Room) "com/example/hermit_crab/hermitcrab/LockOptions" prog_13_method_6_code 4 (some (.object "java/lang/String")) "checkName" X [] [(a, c), (b, cb)] T6 2 (20) := W8
  exact lp_chk G S (by have := hw.len; omega) m 0 0 (by rw [List.drop_zero]; exact hw) (Nat.zero_le _) (by omega) .unset One.u T6 W8
theorem d_code_217 : decode code 217 = .ok (.new 27, 3) := by decide +kernel
theorem w_17 {Z : State} {a0 : Array Value} (G : Cl Z a0) : (Jvm.Cond.classLink "com/example/hermit_crab/hermitcrab/LockOptionsCheckNamePinLaw" 27 "java/lang/String").before a0 Z = true := G.1 _ (List.mem_of_getElem? (l := tables_1) (i := 17) rfl)
theorem d_code_220 : decode code 220 = .ok (.dup, 1) := by decide +kernel
theorem d_code_221 : decode code 221 = .ok (.aload 5, 2) := by decide +kernel
theorem d_code_223 : decode code 223 = .ok (.invokespecial 29, 3) := by decide +kernel
theorem w_20 {Z : State} {a0 : Array Value} (G : Cl Z a0) : (Jvm.Cond.methodLink "com/example/hermit_crab/hermitcrab/LockOptionsCheckNamePinLaw" 29 (⟨"java/lang/String", "<init>", "([C)V"⟩ : MethodName)).before a0 Z = true := G.1 _ (List.mem_of_getElem? (l := tables_1) (i := 20) rfl)
theorem w_22 {Z : State} {a0 : Array Value} (G : Cl Z a0) : (Jvm.Cond.code (⟨"java/lang/String", "<init>", "([C)V"⟩ : MethodName) jdk_42_method_3_code 2 none).before a0 Z = true := G.1 _ (List.mem_of_getElem? (l := tables_1) (i := 22) rfl)
theorem pd_26 : parseMethodDescriptor "([C)V" = some ⟨[(.array .char)], none⟩ := by decide +kernel
theorem w_21 {Z : State} {a0 : Array Value} (G : Cl Z a0) : (Jvm.Cond.instanceMethod (⟨"java/lang/String", "<init>", "([C)V"⟩ : MethodName)).before a0 Z = true := G.1 _ (List.mem_of_getElem? (l := tables_1) (i := 21) rfl)
theorem d_code_226 : decode code 226 = .ok (.astore 6, 2) := by decide +kernel
theorem d_code_228 : decode code 228 = .ok (.aload 6, 2) := by decide +kernel
theorem d_code_230 : decode code 230 = .ok (.invokestatic 32, 3) := by decide +kernel
theorem w_65 {Z : State} {a0 : Array Value} (G : Cl Z a0) : (Jvm.Cond.methodLink "com/example/hermit_crab/hermitcrab/LockOptionsCheckNamePinLaw" 32 (⟨"com/example/hermit_crab/hermitcrab/LockOptions", "checkName", "(Ljava/lang/String;)Ljava/lang/String;"⟩ : MethodName)).before a0 Z = true := G.1 _ (List.mem_of_getElem? (l := tables_1) (i := 65) rfl)
theorem w_67 {Z : State} {a0 : Array Value} (G : Cl Z a0) : (Jvm.Cond.initialized "com/example/hermit_crab/hermitcrab/LockOptions").before a0 Z = true := G.1 _ (List.mem_of_getElem? (l := tables_1) (i := 67) rfl)
theorem w_68 {Z : State} {a0 : Array Value} (G : Cl Z a0) : (Jvm.Cond.code (⟨"com/example/hermit_crab/hermitcrab/LockOptions", "checkName", "(Ljava/lang/String;)Ljava/lang/String;"⟩ : MethodName) prog_13_method_6_code 4 (some (.object "java/lang/String"))).before a0 Z = true := G.1 _ (List.mem_of_getElem? (l := tables_1) (i := 68) rfl)
theorem pd_27 : parseMethodDescriptor "(Ljava/lang/String;)Ljava/lang/String;" = some ⟨[(.object "java/lang/String")], some (.object "java/lang/String")⟩ := by decide +kernel
theorem w_66 {Z : State} {a0 : Array Value} (G : Cl Z a0) : (Jvm.Cond.static (⟨"com/example/hermit_crab/hermitcrab/LockOptions", "checkName", "(Ljava/lang/String;)Ljava/lang/String;"⟩ : MethodName)).before a0 Z = true := G.1 _ (List.mem_of_getElem? (l := tables_1) (i := 66) rfl)
theorem d_code_233 : decode code 233 = .ok (.astore 7, 2) := by decide +kernel
theorem d_code_235 : decode code 235 = .ok (.aload 7, 2) := by decide +kernel
theorem d_code_237 : decode code 237 = .ok (.aload 6, 2) := by decide +kernel
theorem d_code_239 : decode code 239 = .ok (.if_acmp .ne 7, 3) := by decide +kernel
theorem d_code_242 : decode code 242 = .ok (.iconst 1, 1) := by decide +kernel
theorem d_code_243 : decode code 243 = .ok (.goto 4, 3) := by decide +kernel
theorem d_code_247 : decode code 247 = .ok (.ireturn, 1) := by decide +kernel
set_option maxRecDepth 65536 in
set_option maxHeartbeats 40000000 in
theorem rm_tail_A {l : Launch} {Z : State} {a0 : Array Value} (G : Cl Z a0) (aa bb cc mm : Int32) (u : Addr) (cu : Cell) (cs : List Int32) (A : ArrC Z cu .char (chV cs)) (m : Nat) (hw : Wf m cs) (hm : m ≤ 200) (hm0 : 0 < m) (kk : Int32) {X : Ctx} {T0 : State} (W0 : Wk l Z EL1 ({ frames := 9, cells := 24, slots := 2752, locals := 208 } : Room) "com/example/hermit_crab/hermitcrab/LockOptionsCheckNamePinLaw" code 8 (some .boolean) "law" X [(u, cu)] [] T0 4 (450)) :
    Go Z EL1 24 2752 (fun v _ _ => v = some (.int 1)) X T0 217 #[.val (.int aa), .val (.int bb), .val (.int cc), .val (.int mm), .val (.int kk), .val (.ref u), .unset, .unset] [] := by
  have hwl := hw.len
  refine Go.new (pc' := 220) W0 (w_17 G) (w_18 G) (w_19 G) d_code_217 rfl (by first | exact Nat.le_of_ble_eq_true rfl | (simp; done) | (simp; omega) | omega) (by first | exact Nat.le_of_ble_eq_true rfl | (simp; done) | (simp; omega) | omega) (fun T1 a3 c4 W2 O5 D6 => ?_)
  replace W2 : Wk l Z EL1 ({ frames := 9, cells := 24, slots := 2752, locals := 208 } : Room) "com/example/hermit_crab/hermitcrab/LockOptionsCheckNamePinLaw" code 8 (some .boolean) "law" X [(a3, c4), (u, cu)] [] T1 5 (454) := W2
  have F7 : FldC Z c4 "java/lang/String" "coder" "B" (.int (0 : Int32)) := D6 (Or.inr (w_62 G)) (ty := .byte) (by decide)
  have F8 : FldC Z c4 "java/lang/String" "value" "[B" (.null) := D6 (Or.inr (w_64 G)) (ty := (.array .byte)) (by decide)
  refine Go.dup (pc' := 221) W2 d_code_220 rfl rfl ?_
  refine Go.aload (pc' := 223) W2 d_code_221 rfl rfl rfl ?_
  refine Go.special (pc' := 226) W2 (a := a3) (rm_initC G a3 u c4 cu cs A O5 F7 F8 hw.chr (by have := hw.len; omega) (fun q => by have := (i32_inj (n := 0) (by have := hw.len; omega) (by decide)).mp q; have := hw.len; omega)) rfl (w_20 G) (w_21 G) (w_19 G) (w_22 G) (by decide) [0, 0] [] (σf := []) rfl rfl [(.ref u)] [(.ref a3)] rfl (lenOf pd_26 rfl) rfl rfl d_code_223 rfl (by first | exact Nat.le_of_ble_eq_true rfl | (simp; done) | (simp; omega) | omega) (by first | exact Nat.le_of_ble_eq_true rfl | (simp; done) | (simp; omega) | omega) (by first | exact Nat.le_of_ble_eq_true rfl | (simp; done) | (simp; omega) | omega) (by first | exact Nat.le_of_ble_eq_true rfl | (simp; done) | (simp; omega) | omega) ?_
  rintro _ _ _ T13 ⟨c9, b10, c11, rfl, rfl, rfl, S12⟩ W14
  replace W14 : Wk l Z EL1 ({ frames := 9, cells := 24, slots := 2752, locals := 208 } : Room) "com/example/hermit_crab/hermitcrab/LockOptionsCheckNamePinLaw" code 8 (some .boolean) "law" X [(u, cu)] [(a3, c9), (b10, c11)] T13 7 (454 + 3 * cs.length) := W14
  show Go Z EL1 _ _ _ X T13 226 #[.val (.int aa), .val (.int bb), .val (.int cc), .val (.int mm), .val (.int kk), .val (.ref u), .unset, .unset] [(.ref a3)]
  refine Go.astore (pc' := 228) W14 #[.val (.int aa), .val (.int bb), .val (.int cc), .val (.int mm), .val (.int kk), .val (.ref u), .val (.ref a3), .unset] d_code_226 rfl rfl rfl ?_
  refine Go.aload (pc' := 230) W14 d_code_228 rfl rfl rfl ?_
  refine Go.static (pc' := 233) W14 (rm_ckn G a3 b10 c9 c11 cs S12 m hw hm (fun q => by have := hw.len; rw [q] at this; simp at this; omega)) (w_65 G) (w_66 G) (w_67 G) (w_68 G) (by decide) [] [0, 1] (σf := [(u, cu)]) rfl rfl [(.ref a3)] [] rfl (lenOf pd_27 rfl) rfl rfl d_code_230 rfl (by first | exact Nat.le_of_ble_eq_true rfl | (simp; done) | (simp; omega) | omega) (by first | exact Nat.le_of_ble_eq_true rfl | (simp; done) | (simp; omega) | omega) (by first | exact Nat.le_of_ble_eq_true rfl | (simp; done) | (simp; omega) | omega) (by first | exact Nat.le_of_ble_eq_true rfl | (simp; done) | (simp; omega) | omega) ?_
  rintro _ _ _ T15 ⟨rfl, rfl, rfl⟩ W16
  replace W16 : Wk l Z EL1 ({ frames := 9, cells := 24, slots := 2752, locals := 208 } : Room) "com/example/hermit_crab/hermitcrab/LockOptionsCheckNamePinLaw" code 8 (some .boolean) "law" X [(u, cu)] [(a3, c9), (b10, c11)] T15 9 (454 + 3 * cs.length + 20) := W16
  show Go Z EL1 _ _ _ X T15 233 #[.val (.int aa), .val (.int bb), .val (.int cc), .val (.int mm), .val (.int kk), .val (.ref u), .val (.ref a3), .unset] [(.ref a3)]
  refine Go.astore (pc' := 235) W16 #[.val (.int aa), .val (.int bb), .val (.int cc), .val (.int mm), .val (.int kk), .val (.ref u), .val (.ref a3), .val (.ref a3)] d_code_233 rfl rfl rfl ?_
  refine Go.aload (pc' := 237) W16 d_code_235 rfl rfl rfl ?_
  refine Go.aload (pc' := 239) W16 d_code_237 rfl rfl rfl ?_
  refine Go.acmp_ne (pc' := 242) W16 246 rfl rfl d_code_239 (by decide) rfl (fun hq => absurd rfl hq) (fun _ => ?_)
  refine Go.iconst (pc' := 243) W16 (1 : Int32) d_code_242 (by decide) rfl ?_
  refine Go.goto W16 247 d_code_243 (by decide) ?_
  refine Go.nret (z' := (1 : Int32)) W16 (by simp) (by decide) d_code_247 (by first | exact Nat.le_of_ble_eq_true rfl | (simp; done) | (simp; omega) | omega) (by first | exact Nat.le_of_ble_eq_true rfl | (simp; done) | (simp; omega) | omega) ?_
  rfl
set_option maxRecDepth 65536 in
set_option maxHeartbeats 40000000 in
theorem rm_tail_B {l : Launch} {Z : State} {a0 : Array Value} (G : Cl Z a0) (aa bb cc mm : Int32) (u : Addr) (cu : Cell) (cs : List Int32) (A : ArrC Z cu .char (chV cs)) (m : Nat) (hw : Wf m cs) (hm : m ≤ 200) (hm0 : 0 < m) (kk : Int32) (t : Addr) (nn : Int32) {X : Ctx} {T0 : State} (W0 : Wk l Z EL1 ({ frames := 9, cells := 24, slots := 2752, locals := 208 } : Room) "com/example/hermit_crab/hermitcrab/LockOptionsCheckNamePinLaw" code 8 (some .boolean) "law" X [(u, cu)] [] T0 4 (450)) :
    Go Z EL1 24 2752 (fun v _ _ => v = some (.int 1)) X T0 217 #[.val (.int aa), .val (.int bb), .val (.int cc), .val (.int mm), .val (.int kk), .val (.ref u), .val (.ref t), .val (.int nn)] [] := by
  have hwl := hw.len
  refine Go.new (pc' := 220) W0 (w_17 G) (w_18 G) (w_19 G) d_code_217 rfl (by first | exact Nat.le_of_ble_eq_true rfl | (simp; done) | (simp; omega) | omega) (by first | exact Nat.le_of_ble_eq_true rfl | (simp; done) | (simp; omega) | omega) (fun T1 a3 c4 W2 O5 D6 => ?_)
  replace W2 : Wk l Z EL1 ({ frames := 9, cells := 24, slots := 2752, locals := 208 } : Room) "com/example/hermit_crab/hermitcrab/LockOptionsCheckNamePinLaw" code 8 (some .boolean) "law" X [(a3, c4), (u, cu)] [] T1 5 (454) := W2
  have F7 : FldC Z c4 "java/lang/String" "coder" "B" (.int (0 : Int32)) := D6 (Or.inr (w_62 G)) (ty := .byte) (by decide)
  have F8 : FldC Z c4 "java/lang/String" "value" "[B" (.null) := D6 (Or.inr (w_64 G)) (ty := (.array .byte)) (by decide)
  refine Go.dup (pc' := 221) W2 d_code_220 rfl rfl ?_
  refine Go.aload (pc' := 223) W2 d_code_221 rfl rfl rfl ?_
  refine Go.special (pc' := 226) W2 (a := a3) (rm_initC G a3 u c4 cu cs A O5 F7 F8 hw.chr (by have := hw.len; omega) (fun q => by have := (i32_inj (n := 0) (by have := hw.len; omega) (by decide)).mp q; have := hw.len; omega)) rfl (w_20 G) (w_21 G) (w_19 G) (w_22 G) (by decide) [0, 0] [] (σf := []) rfl rfl [(.ref u)] [(.ref a3)] rfl (lenOf pd_26 rfl) rfl rfl d_code_223 rfl (by first | exact Nat.le_of_ble_eq_true rfl | (simp; done) | (simp; omega) | omega) (by first | exact Nat.le_of_ble_eq_true rfl | (simp; done) | (simp; omega) | omega) (by first | exact Nat.le_of_ble_eq_true rfl | (simp; done) | (simp; omega) | omega) (by first | exact Nat.le_of_ble_eq_true rfl | (simp; done) | (simp; omega) | omega) ?_
  rintro _ _ _ T13 ⟨c9, b10, c11, rfl, rfl, rfl, S12⟩ W14
  replace W14 : Wk l Z EL1 ({ frames := 9, cells := 24, slots := 2752, locals := 208 } : Room) "com/example/hermit_crab/hermitcrab/LockOptionsCheckNamePinLaw" code 8 (some .boolean) "law" X [(u, cu)] [(a3, c9), (b10, c11)] T13 7 (454 + 3 * cs.length) := W14
  show Go Z EL1 _ _ _ X T13 226 #[.val (.int aa), .val (.int bb), .val (.int cc), .val (.int mm), .val (.int kk), .val (.ref u), .val (.ref t), .val (.int nn)] [(.ref a3)]
  refine Go.astore (pc' := 228) W14 #[.val (.int aa), .val (.int bb), .val (.int cc), .val (.int mm), .val (.int kk), .val (.ref u), .val (.ref a3), .val (.int nn)] d_code_226 rfl rfl rfl ?_
  refine Go.aload (pc' := 230) W14 d_code_228 rfl rfl rfl ?_
  refine Go.static (pc' := 233) W14 (rm_ckn G a3 b10 c9 c11 cs S12 m hw hm (fun q => by have := hw.len; rw [q] at this; simp at this; omega)) (w_65 G) (w_66 G) (w_67 G) (w_68 G) (by decide) [] [0, 1] (σf := [(u, cu)]) rfl rfl [(.ref a3)] [] rfl (lenOf pd_27 rfl) rfl rfl d_code_230 rfl (by first | exact Nat.le_of_ble_eq_true rfl | (simp; done) | (simp; omega) | omega) (by first | exact Nat.le_of_ble_eq_true rfl | (simp; done) | (simp; omega) | omega) (by first | exact Nat.le_of_ble_eq_true rfl | (simp; done) | (simp; omega) | omega) (by first | exact Nat.le_of_ble_eq_true rfl | (simp; done) | (simp; omega) | omega) ?_
  rintro _ _ _ T15 ⟨rfl, rfl, rfl⟩ W16
  replace W16 : Wk l Z EL1 ({ frames := 9, cells := 24, slots := 2752, locals := 208 } : Room) "com/example/hermit_crab/hermitcrab/LockOptionsCheckNamePinLaw" code 8 (some .boolean) "law" X [(u, cu)] [(a3, c9), (b10, c11)] T15 9 (454 + 3 * cs.length + 20) := W16
  show Go Z EL1 _ _ _ X T15 233 #[.val (.int aa), .val (.int bb), .val (.int cc), .val (.int mm), .val (.int kk), .val (.ref u), .val (.ref a3), .val (.int nn)] [(.ref a3)]
  refine Go.astore (pc' := 235) W16 #[.val (.int aa), .val (.int bb), .val (.int cc), .val (.int mm), .val (.int kk), .val (.ref u), .val (.ref a3), .val (.ref a3)] d_code_233 rfl rfl rfl ?_
  refine Go.aload (pc' := 237) W16 d_code_235 rfl rfl rfl ?_
  refine Go.aload (pc' := 239) W16 d_code_237 rfl rfl rfl ?_
  refine Go.acmp_ne (pc' := 242) W16 246 rfl rfl d_code_239 (by decide) rfl (fun hq => absurd rfl hq) (fun _ => ?_)
  refine Go.iconst (pc' := 243) W16 (1 : Int32) d_code_242 (by decide) rfl ?_
  refine Go.goto W16 247 d_code_243 (by decide) ?_
  refine Go.nret (z' := (1 : Int32)) W16 (by simp) (by decide) d_code_247 (by first | exact Nat.le_of_ble_eq_true rfl | (simp; done) | (simp; omega) | omega) (by first | exact Nat.le_of_ble_eq_true rfl | (simp; done) | (simp; omega) | omega) ?_
  rfl
theorem and3 (p : Int32) : p &&& (3 : Int32) = (0 : Int32) ∨ p &&& (3 : Int32) = (1 : Int32) ∨ p &&& (3 : Int32) = (2 : Int32) ∨ p &&& (3 : Int32) = (3 : Int32) := by
  have h := c_and p 3 (by decide)
  have e : (3 : Int32).toInt = 3 := by decide
  rw [e] at h
  have k : (p &&& 3).toInt = 0 ∨ (p &&& 3).toInt = 1 ∨ (p &&& 3).toInt = 2 ∨ (p &&& 3).toInt = 3 := by omega
  rcases k with k | k | k | k
  · exact Or.inl (Int32.toInt_inj.mp k)
  · exact Or.inr (Or.inl (Int32.toInt_inj.mp k))
  · exact Or.inr (Or.inr (Or.inl (Int32.toInt_inj.mp k)))
  · exact Or.inr (Or.inr (Or.inr (Int32.toInt_inj.mp k)))
theorem d_code_0 : decode code 0 = .ok (.iload_n 3, 1) := by decide +kernel
theorem d_code_1 : decode code 1 = .ok (.iconst 3, 1) := by decide +kernel
theorem d_code_2 : decode code 2 = .ok (.iand, 1) := by decide +kernel
theorem d_code_3 : decode code 3 = .ok (.istore 4, 2) := by decide +kernel
theorem d_code_5 : decode code 5 = .ok (.iload 4, 2) := by decide +kernel
theorem d_code_7 : decode code 7 = .ok (.iconst 3, 1) := by decide +kernel
theorem d_code_8 : decode code 8 = .ok (.if_icmp .ne 73, 3) := by decide +kernel
theorem d_code_81 : decode code 81 = .ok (.bipush 6, 2) := by decide +kernel
theorem d_code_83 : decode code 83 = .ok (.newarray .char, 2) := by decide +kernel
theorem w_0 {Z : State} {a0 : Array Value} (G : Cl Z a0) : (Jvm.Cond.arrayClass .char).before a0 Z = true := G.1 _ (List.mem_of_getElem? (l := tables_1) (i := 0) rfl)
theorem d_code_85 : decode code 85 = .ok (.astore 6, 2) := by decide +kernel
theorem d_code_87 : decode code 87 = .ok (.aload 6, 2) := by decide +kernel
theorem d_code_89 : decode code 89 = .ok (.iconst 0, 1) := by decide +kernel
theorem d_code_90 : decode code 90 = .ok (.iload_n 0, 1) := by decide +kernel
theorem d_code_91 : decode code 91 = .ok (.invokestatic 23, 3) := by decide +kernel
theorem w_1 {Z : State} {a0 : Array Value} (G : Cl Z a0) : (Jvm.Cond.methodLink "com/example/hermit_crab/hermitcrab/LockOptionsCheckNamePinLaw" 23 (⟨"com/example/hermit_crab/hermitcrab/LockOptionsCheckNamePinLaw", "put", "([CII)I"⟩ : MethodName)).before a0 Z = true := G.1 _ (List.mem_of_getElem? (l := tables_1) (i := 1) rfl)
theorem w_4 {Z : State} {a0 : Array Value} (G : Cl Z a0) : (Jvm.Cond.code (⟨"com/example/hermit_crab/hermitcrab/LockOptionsCheckNamePinLaw", "put", "([CII)I"⟩ : MethodName) method_5_code 3 (some .int)).before a0 Z = true := G.1 _ (List.mem_of_getElem? (l := tables_1) (i := 4) rfl)
theorem pd_28 : parseMethodDescriptor "([CII)I" = some ⟨[(.array .char), .int, .int], some .int⟩ := by decide +kernel
theorem w_2 {Z : State} {a0 : Array Value} (G : Cl Z a0) : (Jvm.Cond.static (⟨"com/example/hermit_crab/hermitcrab/LockOptionsCheckNamePinLaw", "put", "([CII)I"⟩ : MethodName)).before a0 Z = true := G.1 _ (List.mem_of_getElem? (l := tables_1) (i := 2) rfl)
theorem d_code_94 : decode code 94 = .ok (.istore 7, 2) := by decide +kernel
theorem d_code_96 : decode code 96 = .ok (.iload 4, 2) := by decide +kernel
theorem d_code_98 : decode code 98 = .ok (.iconst 1, 1) := by decide +kernel
theorem d_code_99 : decode code 99 = .ok (.if_icmp .lt 13, 3) := by decide +kernel
theorem d_code_112 : decode code 112 = .ok (.iload 4, 2) := by decide +kernel
theorem d_code_114 : decode code 114 = .ok (.iconst 2, 1) := by decide +kernel
theorem d_code_115 : decode code 115 = .ok (.if_icmp .lt 13, 3) := by decide +kernel
theorem d_code_128 : decode code 128 = .ok (.iload 7, 2) := by decide +kernel
theorem d_code_130 : decode code 130 = .ok (.newarray .char, 2) := by decide +kernel
theorem d_code_132 : decode code 132 = .ok (.astore 5, 2) := by decide +kernel
theorem d_code_134 : decode code 134 = .ok (.iload 7, 2) := by decide +kernel
theorem d_code_136 : decode code 136 = .ok (.ifCond .le 11, 3) := by decide +kernel
theorem d_code_139 : decode code 139 = .ok (.aload 5, 2) := by decide +kernel
theorem d_code_141 : decode code 141 = .ok (.iconst 0, 1) := by decide +kernel
theorem d_code_142 : decode code 142 = .ok (.aload 6, 2) := by decide +kernel
theorem d_code_144 : decode code 144 = .ok (.iconst 0, 1) := by decide +kernel
theorem d_code_145 : decode code 145 = .ok (.caload, 1) := by decide +kernel
theorem d_code_146 : decode code 146 = .ok (.castore, 1) := by decide +kernel
theorem d_code_147 : decode code 147 = .ok (.iload 7, 2) := by decide +kernel
theorem d_code_149 : decode code 149 = .ok (.iconst 1, 1) := by decide +kernel
theorem d_code_150 : decode code 150 = .ok (.if_icmp .le 11, 3) := by decide +kernel
theorem d_code_161 : decode code 161 = .ok (.iload 7, 2) := by decide +kernel
theorem d_code_163 : decode code 163 = .ok (.iconst 2, 1) := by decide +kernel
theorem d_code_164 : decode code 164 = .ok (.if_icmp .le 11, 3) := by decide +kernel
theorem d_code_175 : decode code 175 = .ok (.iload 7, 2) := by decide +kernel
theorem d_code_177 : decode code 177 = .ok (.iconst 3, 1) := by decide +kernel
theorem d_code_178 : decode code 178 = .ok (.if_icmp .le 11, 3) := by decide +kernel
theorem d_code_189 : decode code 189 = .ok (.iload 7, 2) := by decide +kernel
theorem d_code_191 : decode code 191 = .ok (.iconst 4, 1) := by decide +kernel
theorem d_code_192 : decode code 192 = .ok (.if_icmp .le 11, 3) := by decide +kernel
theorem d_code_203 : decode code 203 = .ok (.iload 7, 2) := by decide +kernel
theorem d_code_205 : decode code 205 = .ok (.iconst 5, 1) := by decide +kernel
theorem d_code_206 : decode code 206 = .ok (.if_icmp .le 11, 3) := by decide +kernel
theorem d_code_153 : decode code 153 = .ok (.aload 5, 2) := by decide +kernel
theorem d_code_155 : decode code 155 = .ok (.iconst 1, 1) := by decide +kernel
theorem d_code_156 : decode code 156 = .ok (.aload 6, 2) := by decide +kernel
theorem d_code_158 : decode code 158 = .ok (.iconst 1, 1) := by decide +kernel
theorem d_code_159 : decode code 159 = .ok (.caload, 1) := by decide +kernel
theorem d_code_160 : decode code 160 = .ok (.castore, 1) := by decide +kernel
theorem d_code_102 : decode code 102 = .ok (.aload 6, 2) := by decide +kernel
theorem d_code_104 : decode code 104 = .ok (.iload 7, 2) := by decide +kernel
theorem d_code_106 : decode code 106 = .ok (.iload_n 1, 1) := by decide +kernel
theorem d_code_107 : decode code 107 = .ok (.invokestatic 23, 3) := by decide +kernel
theorem d_code_110 : decode code 110 = .ok (.istore 7, 2) := by decide +kernel
theorem d_code_167 : decode code 167 = .ok (.aload 5, 2) := by decide +kernel
theorem d_code_169 : decode code 169 = .ok (.iconst 2, 1) := by decide +kernel
theorem d_code_170 : decode code 170 = .ok (.aload 6, 2) := by decide +kernel
theorem d_code_172 : decode code 172 = .ok (.iconst 2, 1) := by decide +kernel
theorem d_code_173 : decode code 173 = .ok (.caload, 1) := by decide +kernel
theorem d_code_174 : decode code 174 = .ok (.castore, 1) := by decide +kernel
theorem d_code_181 : decode code 181 = .ok (.aload 5, 2) := by decide +kernel
theorem d_code_183 : decode code 183 = .ok (.iconst 3, 1) := by decide +kernel
theorem d_code_184 : decode code 184 = .ok (.aload 6, 2) := by decide +kernel
theorem d_code_186 : decode code 186 = .ok (.iconst 3, 1) := by decide +kernel
theorem d_code_187 : decode code 187 = .ok (.caload, 1) := by decide +kernel
theorem d_code_188 : decode code 188 = .ok (.castore, 1) := by decide +kernel
theorem d_code_118 : decode code 118 = .ok (.aload 6, 2) := by decide +kernel
theorem d_code_120 : decode code 120 = .ok (.iload 7, 2) := by decide +kernel
theorem d_code_122 : decode code 122 = .ok (.iload_n 2, 1) := by decide +kernel
theorem d_code_123 : decode code 123 = .ok (.invokestatic 23, 3) := by decide +kernel
theorem d_code_126 : decode code 126 = .ok (.istore 7, 2) := by decide +kernel
theorem d_code_195 : decode code 195 = .ok (.aload 5, 2) := by decide +kernel
theorem d_code_197 : decode code 197 = .ok (.iconst 4, 1) := by decide +kernel
theorem d_code_198 : decode code 198 = .ok (.aload 6, 2) := by decide +kernel
theorem d_code_200 : decode code 200 = .ok (.iconst 4, 1) := by decide +kernel
theorem d_code_201 : decode code 201 = .ok (.caload, 1) := by decide +kernel
theorem d_code_202 : decode code 202 = .ok (.castore, 1) := by decide +kernel
theorem d_code_209 : decode code 209 = .ok (.aload 5, 2) := by decide +kernel
theorem d_code_211 : decode code 211 = .ok (.iconst 5, 1) := by decide +kernel
theorem d_code_212 : decode code 212 = .ok (.aload 6, 2) := by decide +kernel
theorem d_code_214 : decode code 214 = .ok (.iconst 5, 1) := by decide +kernel
theorem d_code_215 : decode code 215 = .ok (.caload, 1) := by decide +kernel
theorem d_code_216 : decode code 216 = .ok (.castore, 1) := by decide +kernel
theorem d_code_11 : decode code 11 = .ok (.iload_n 3, 1) := by decide +kernel
theorem d_code_12 : decode code 12 = .ok (.iconst 4, 1) := by decide +kernel
theorem d_code_13 : decode code 13 = .ok (.iand, 1) := by decide +kernel
theorem d_code_14 : decode code 14 = .ok (.ifCond .ne 31, 3) := by decide +kernel
theorem d_code_45 : decode code 45 = .ok (.sipush 201, 3) := by decide +kernel
theorem d_code_48 : decode code 48 = .ok (.newarray .char, 2) := by decide +kernel
theorem d_code_50 : decode code 50 = .ok (.astore 5, 2) := by decide +kernel
theorem d_code_52 : decode code 52 = .ok (.aload 5, 2) := by decide +kernel
theorem d_code_54 : decode code 54 = .ok (.iconst 0, 1) := by decide +kernel
theorem d_code_55 : decode code 55 = .ok (.iload_n 0, 1) := by decide +kernel
theorem d_code_56 : decode code 56 = .ok (.invokestatic 17, 3) := by decide +kernel
theorem d_code_59 : decode code 59 = .ok (.castore, 1) := by decide +kernel
theorem d_code_60 : decode code 60 = .ok (.aload 5, 2) := by decide +kernel
theorem d_code_62 : decode code 62 = .ok (.iconst 1, 1) := by decide +kernel
theorem d_code_63 : decode code 63 = .ok (.iload_n 0, 1) := by decide +kernel
theorem d_code_64 : decode code 64 = .ok (.invokestatic 20, 3) := by decide +kernel
theorem d_code_67 : decode code 67 = .ok (.castore, 1) := by decide +kernel
theorem d_code_68 : decode code 68 = .ok (.aload 5, 2) := by decide +kernel
theorem d_code_70 : decode code 70 = .ok (.sipush 200, 3) := by decide +kernel
theorem d_code_73 : decode code 73 = .ok (.iload_n 1, 1) := by decide +kernel
theorem d_code_74 : decode code 74 = .ok (.invokestatic 11, 3) := by decide +kernel
theorem d_code_77 : decode code 77 = .ok (.castore, 1) := by decide +kernel
theorem d_code_78 : decode code 78 = .ok (.goto 139, 3) := by decide +kernel
theorem d_code_17 : decode code 17 = .ok (.sipush 200, 3) := by decide +kernel
theorem d_code_20 : decode code 20 = .ok (.newarray .char, 2) := by decide +kernel
theorem d_code_22 : decode code 22 = .ok (.astore 5, 2) := by decide +kernel
theorem d_code_24 : decode code 24 = .ok (.aload 5, 2) := by decide +kernel
theorem d_code_26 : decode code 26 = .ok (.iconst 0, 1) := by decide +kernel
theorem d_code_27 : decode code 27 = .ok (.iload_n 0, 1) := by decide +kernel
theorem d_code_28 : decode code 28 = .ok (.invokestatic 11, 3) := by decide +kernel
theorem d_code_31 : decode code 31 = .ok (.castore, 1) := by decide +kernel
theorem d_code_32 : decode code 32 = .ok (.aload 5, 2) := by decide +kernel
theorem d_code_34 : decode code 34 = .ok (.sipush 199, 3) := by decide +kernel
theorem d_code_37 : decode code 37 = .ok (.iload_n 1, 1) := by decide +kernel
theorem d_code_38 : decode code 38 = .ok (.invokestatic 11, 3) := by decide +kernel
theorem d_code_41 : decode code 41 = .ok (.castore, 1) := by decide +kernel
theorem d_code_42 : decode code 42 = .ok (.goto 175, 3) := by decide +kernel
set_option maxRecDepth 65536 in
set_option maxHeartbeats 40000000 in
theorem rm_law {l : Launch} {Z : State} {a0 : Array Value} (G : Cl Z a0) (aa bb cc mm : Int32) :
    Met l Z EL1 (⟨"com/example/hermit_crab/hermitcrab/LockOptionsCheckNamePinLaw", "law", "(IIII)Z"⟩ : MethodName) code 8 (some .boolean) ({ frames := 9, cells := 24, slots := 2752, locals := 208 } : Room) #[.int aa, .int bb, .int cc, .int mm] [] [] (fun v _ _ => v = some (.int 1)) := by
  refine Met.walk G.2.1 pn_14 #[.val (.int aa), .val (.int bb), .val (.int cc), .val (.int mm), .unset, .unset, .unset, .unset] (fun m => by first | (simp [entryFrame, mkF, argsToLocals, Value.category]; done) | rfl) ?_
  intro X T0 W0
  refine Go.iloadN (pc' := 1) W0 d_code_0 rfl rfl ?_
  refine Go.iconst (pc' := 2) W0 (3 : Int32) d_code_1 (by decide) rfl ?_
  refine Go.iand (pc' := 3) W0 d_code_2 rfl ?_
  refine Go.istore (pc' := 5) W0 #[.val (.int aa), .val (.int bb), .val (.int cc), .val (.int mm), .val (.int (mm &&& (3 : Int32))), .unset, .unset, .unset] d_code_3 rfl rfl ?_
  generalize e2 : mm &&& (3 : Int32) = n1
  have h3 : n1 = (0 : Int32) ∨ n1 = (1 : Int32) ∨ n1 = (2 : Int32) ∨ n1 = (3 : Int32) := by rw [← e2]; exact and3 _
  rcases h3 with rfl | rfl | rfl | rfl
  · refine Go.iload (pc' := 7) W0 d_code_5 rfl rfl ?_
    refine Go.iconst (pc' := 8) W0 (3 : Int32) d_code_7 (by decide) rfl ?_
    refine Go.icmp_ne (pc' := 11) W0 81 d_code_8 (by decide) rfl (fun _ => ?_) (fun q => absurd q (by decide))
    refine Go.bipush (pc' := 83) W0 (6 : Int32) d_code_81 (by decide) rfl ?_
    refine Go.newarr (pc' := 85) W0 .char rfl 6 (w_0 G) d_code_83 rfl (by decide) (by decide) (by decide) (by first | exact Nat.le_of_ble_eq_true rfl | (simp; done) | (simp; omega) | omega) (by first | exact Nat.le_of_ble_eq_true rfl | (simp; done) | (simp; omega) | omega) (fun T4 a6 c7 W5 A8 => ?_)
    replace W5 : Wk l Z EL1 ({ frames := 9, cells := 24, slots := 2752, locals := 208 } : Room) "com/example/hermit_crab/hermitcrab/LockOptionsCheckNamePinLaw" code 8 (some .boolean) "law" X [(a6, c7)] [] T4 1 (6) := W5
    replace A8 : ArrC Z c7 .char [(.int (0 : Int32)), (.int (0 : Int32)), (.int (0 : Int32)), (.int (0 : Int32)), (.int (0 : Int32)), (.int (0 : Int32))] := A8
    refine Go.astore (pc' := 87) W5 #[.val (.int aa), .val (.int bb), .val (.int cc), .val (.int mm), .val (.int (0 : Int32)), .unset, .val (.ref a6), .unset] d_code_85 rfl rfl rfl ?_
    refine Go.aload (pc' := 89) W5 d_code_87 rfl rfl rfl ?_
    refine Go.iconst (pc' := 90) W5 (0 : Int32) d_code_89 (by decide) rfl ?_
    refine Go.iloadN (pc' := 91) W5 d_code_90 rfl rfl ?_
    by_cases h9 : (aa &&& (1 : Int32)) = 0
    · refine Go.static (pc' := 94) W5 (rm_pb_A G a6 c7 (0 : Int32) (0 : Int32) (0 : Int32) (0 : Int32) (0 : Int32) (0 : Int32) aa A8 h9) (w_1 G) (w_2 G) (w_3 G) (w_4 G) (by decide) [0] [] (σf := []) rfl rfl [(.ref a6), (.int (0 : Int32)), (.int aa)] [] rfl (lenOf pd_28 rfl) rfl rfl d_code_91 rfl (by first | exact Nat.le_of_ble_eq_true rfl | (simp; done) | (simp; omega) | omega) (by first | exact Nat.le_of_ble_eq_true rfl | (simp; done) | (simp; omega) | omega) (by first | exact Nat.le_of_ble_eq_true rfl | (simp; done) | (simp; omega) | omega) (by first | exact Nat.le_of_ble_eq_true rfl | (simp; done) | (simp; omega) | omega) ?_
      rintro _ _ _ T16 ⟨c10, y11, rfl, rfl, rfl, h12, A13⟩ W17
      replace W17 : Wk l Z EL1 ({ frames := 9, cells := 24, slots := 2752, locals := 208 } : Room) "com/example/hermit_crab/hermitcrab/LockOptionsCheckNamePinLaw" code 8 (some .boolean) "law" X [(a6, c10)] [] T16 1 (6) := W17
      show Go Z EL1 _ _ _ X T16 94 #[.val (.int aa), .val (.int bb), .val (.int cc), .val (.int mm), .val (.int (0 : Int32)), .unset, .val (.ref a6), .unset] [(.int (1 : Int32))]
      refine Go.istore (pc' := 96) W17 #[.val (.int aa), .val (.int bb), .val (.int cc), .val (.int mm), .val (.int (0 : Int32)), .unset, .val (.ref a6), .val (.int (1 : Int32))] d_code_94 rfl rfl ?_
      refine Go.iload (pc' := 98) W17 d_code_96 rfl rfl ?_
      refine Go.iconst (pc' := 99) W17 (1 : Int32) d_code_98 (by decide) rfl ?_
      refine Go.icmp_lt (pc' := 102) W17 112 d_code_99 (by decide) rfl (fun _ => ?_) (fun q => absurd (by decide) q)
      refine Go.iload (pc' := 114) W17 d_code_112 rfl rfl ?_
      refine Go.iconst (pc' := 115) W17 (2 : Int32) d_code_114 (by decide) rfl ?_
      refine Go.icmp_lt (pc' := 118) W17 128 d_code_115 (by decide) rfl (fun _ => ?_) (fun q => absurd (by decide) q)
      refine Go.iload (pc' := 130) W17 d_code_128 rfl rfl ?_
      refine Go.newarr (pc' := 132) W17 .char rfl 1 (w_0 G) d_code_130 rfl (by decide) (by decide) (by decide) (by first | exact Nat.le_of_ble_eq_true rfl | (simp; done) | (simp; omega) | omega) (by first | exact Nat.le_of_ble_eq_true rfl | (simp; done) | (simp; omega) | omega) (fun T18 a20 c21 W19 A22 => ?_)
      replace W19 : Wk l Z EL1 ({ frames := 9, cells := 24, slots := 2752, locals := 208 } : Room) "com/example/hermit_crab/hermitcrab/LockOptionsCheckNamePinLaw" code 8 (some .boolean) "law" X [(a20, c21), (a6, c10)] [] T18 2 (7) := W19
      replace A22 : ArrC Z c21 .char [(.int (0 : Int32))] := A22
      refine Go.astore (pc' := 134) W19 #[.val (.int aa), .val (.int bb), .val (.int cc), .val (.int mm), .val (.int (0 : Int32)), .val (.ref a20), .val (.ref a6), .val (.int (1 : Int32))] d_code_132 rfl rfl rfl ?_
      refine Go.iload (pc' := 136) W19 d_code_134 rfl rfl ?_
      refine Go.if_le (pc' := 139) W19 147 d_code_136 (by decide) rfl (fun q => absurd (by decide) q) (fun _ => ?_)
      refine Go.aload (pc' := 141) W19 d_code_139 rfl rfl rfl ?_
      refine Go.iconst (pc' := 142) W19 (0 : Int32) d_code_141 (by decide) rfl ?_
      refine Go.aload (pc' := 144) W19 d_code_142 rfl rfl rfl ?_
      refine Go.iconst (pc' := 145) W19 (0 : Int32) d_code_144 (by decide) rfl ?_
      refine Go.caload (pc' := 146) W19 (Or.inl (List.mem_of_getElem? (i := 1) rfl)) A13 0 (by decide) (by decide) rfl d_code_145 rfl ?_
      refine Go.castore (pc' := 147) W19 0 rfl A22 0 y11 (nar_char_id h12.1) (by decide) (by decide) (by simp) d_code_146 rfl (fun T23 c25 W24 A26 => ?_)
      replace W24 : Wk l Z EL1 ({ frames := 9, cells := 24, slots := 2752, locals := 208 } : Room) "com/example/hermit_crab/hermitcrab/LockOptionsCheckNamePinLaw" code 8 (some .boolean) "law" X [(a20, c25), (a6, c10)] [] T23 2 (7) := W24
      replace A26 : ArrC Z c25 .char [(.int y11)] := A26
      refine Go.iload (pc' := 149) W24 d_code_147 rfl rfl ?_
      refine Go.iconst (pc' := 150) W24 (1 : Int32) d_code_149 (by decide) rfl ?_
      refine Go.icmp_le (pc' := 153) W24 161 d_code_150 (by decide) rfl (fun _ => ?_) (fun q => absurd q (by decide))
      refine Go.iload (pc' := 163) W24 d_code_161 rfl rfl ?_
      refine Go.iconst (pc' := 164) W24 (2 : Int32) d_code_163 (by decide) rfl ?_
      refine Go.icmp_le (pc' := 167) W24 175 d_code_164 (by decide) rfl (fun _ => ?_) (fun q => absurd q (by decide))
      refine Go.iload (pc' := 177) W24 d_code_175 rfl rfl ?_
      refine Go.iconst (pc' := 178) W24 (3 : Int32) d_code_177 (by decide) rfl ?_
      refine Go.icmp_le (pc' := 181) W24 189 d_code_178 (by decide) rfl (fun _ => ?_) (fun q => absurd q (by decide))
      refine Go.iload (pc' := 191) W24 d_code_189 rfl rfl ?_
      refine Go.iconst (pc' := 192) W24 (4 : Int32) d_code_191 (by decide) rfl ?_
      refine Go.icmp_le (pc' := 195) W24 203 d_code_192 (by decide) rfl (fun _ => ?_) (fun q => absurd q (by decide))
      refine Go.iload (pc' := 205) W24 d_code_203 rfl rfl ?_
      refine Go.iconst (pc' := 206) W24 (5 : Int32) d_code_205 (by decide) rfl ?_
      refine Go.icmp_le (pc' := 209) W24 217 d_code_206 (by decide) rfl (fun _ => ?_) (fun q => absurd q (by decide))
      have W27 := W24.drop [1] (σi := [(a6, c10)]) (σf := [(a20, c25)]) rfl
      replace W27 : Wk l Z EL1 ({ frames := 9, cells := 24, slots := 2752, locals := 208 } : Room) "com/example/hermit_crab/hermitcrab/LockOptionsCheckNamePinLaw" code 8 (some .boolean) "law" X [(a20, c25)] [] T23 2 (7) := W27
      exact rm_tail_B G aa bb cc mm a20 c25 [y11] A26 1 (Wf.b h12 (rfl : Wf 0 [])) (by decide) (by decide) (0 : Int32) a6 (1 : Int32) (W27.more (by first | exact Nat.le_of_ble_eq_true rfl | (simp; done) | (simp; omega) | omega) (by first | exact Nat.le_of_ble_eq_true rfl | (simp; done) | (simp; omega) | omega))
    · refine Go.static (pc' := 94) W5 (rm_pp_A G a6 c7 (0 : Int32) (0 : Int32) (0 : Int32) (0 : Int32) (0 : Int32) (0 : Int32) aa A8 h9) (w_1 G) (w_2 G) (w_3 G) (w_4 G) (by decide) [0] [] (σf := []) rfl rfl [(.ref a6), (.int (0 : Int32)), (.int aa)] [] rfl (lenOf pd_28 rfl) rfl rfl d_code_91 rfl (by first | exact Nat.le_of_ble_eq_true rfl | (simp; done) | (simp; omega) | omega) (by first | exact Nat.le_of_ble_eq_true rfl | (simp; done) | (simp; omega) | omega) (by first | exact Nat.le_of_ble_eq_true rfl | (simp; done) | (simp; omega) | omega) (by first | exact Nat.le_of_ble_eq_true rfl | (simp; done) | (simp; omega) | omega) ?_
      rintro _ _ _ T34 ⟨c28, y29, z32, rfl, rfl, rfl, h30, h33, A31⟩ W35
      replace W35 : Wk l Z EL1 ({ frames := 9, cells := 24, slots := 2752, locals := 208 } : Room) "com/example/hermit_crab/hermitcrab/LockOptionsCheckNamePinLaw" code 8 (some .boolean) "law" X [(a6, c28)] [] T34 1 (6) := W35
      show Go Z EL1 _ _ _ X T34 94 #[.val (.int aa), .val (.int bb), .val (.int cc), .val (.int mm), .val (.int (0 : Int32)), .unset, .val (.ref a6), .unset] [(.int (2 : Int32))]
      refine Go.istore (pc' := 96) W35 #[.val (.int aa), .val (.int bb), .val (.int cc), .val (.int mm), .val (.int (0 : Int32)), .unset, .val (.ref a6), .val (.int (2 : Int32))] d_code_94 rfl rfl ?_
      refine Go.iload (pc' := 98) W35 d_code_96 rfl rfl ?_
      refine Go.iconst (pc' := 99) W35 (1 : Int32) d_code_98 (by decide) rfl ?_
      refine Go.icmp_lt (pc' := 102) W35 112 d_code_99 (by decide) rfl (fun _ => ?_) (fun q => absurd (by decide) q)
      refine Go.iload (pc' := 114) W35 d_code_112 rfl rfl ?_
      refine Go.iconst (pc' := 115) W35 (2 : Int32) d_code_114 (by decide) rfl ?_
      refine Go.icmp_lt (pc' := 118) W35 128 d_code_115 (by decide) rfl (fun _ => ?_) (fun q => absurd (by decide) q)
      refine Go.iload (pc' := 130) W35 d_code_128 rfl rfl ?_
      refine Go.newarr (pc' := 132) W35 .char rfl 2 (w_0 G) d_code_130 rfl (by decide) (by decide) (by decide) (by first | exact Nat.le_of_ble_eq_true rfl | (simp; done) | (simp; omega) | omega) (by first | exact Nat.le_of_ble_eq_true rfl | (simp; done) | (simp; omega) | omega) (fun T36 a38 c39 W37 A40 => ?_)
      replace W37 : Wk l Z EL1 ({ frames := 9, cells := 24, slots := 2752, locals := 208 } : Room) "com/example/hermit_crab/hermitcrab/LockOptionsCheckNamePinLaw" code 8 (some .boolean) "law" X [(a38, c39), (a6, c28)] [] T36 2 (8) := W37
      replace A40 : ArrC Z c39 .char [(.int (0 : Int32)), (.int (0 : Int32))] := A40
      refine Go.astore (pc' := 134) W37 #[.val (.int aa), .val (.int bb), .val (.int cc), .val (.int mm), .val (.int (0 : Int32)), .val (.ref a38), .val (.ref a6), .val (.int (2 : Int32))] d_code_132 rfl rfl rfl ?_
      refine Go.iload (pc' := 136) W37 d_code_134 rfl rfl ?_
      refine Go.if_le (pc' := 139) W37 147 d_code_136 (by decide) rfl (fun q => absurd (by decide) q) (fun _ => ?_)
      refine Go.aload (pc' := 141) W37 d_code_139 rfl rfl rfl ?_
      refine Go.iconst (pc' := 142) W37 (0 : Int32) d_code_141 (by decide) rfl ?_
      refine Go.aload (pc' := 144) W37 d_code_142 rfl rfl rfl ?_
      refine Go.iconst (pc' := 145) W37 (0 : Int32) d_code_144 (by decide) rfl ?_
      refine Go.caload (pc' := 146) W37 (Or.inl (List.mem_of_getElem? (i := 1) rfl)) A31 0 (by decide) (by decide) rfl d_code_145 rfl ?_
      refine Go.castore (pc' := 147) W37 0 rfl A40 0 y29 (nar_char_id h30.chr) (by decide) (by decide) (by simp) d_code_146 rfl (fun T41 c43 W42 A44 => ?_)
      replace W42 : Wk l Z EL1 ({ frames := 9, cells := 24, slots := 2752, locals := 208 } : Room) "com/example/hermit_crab/hermitcrab/LockOptionsCheckNamePinLaw" code 8 (some .boolean) "law" X [(a38, c43), (a6, c28)] [] T41 2 (8) := W42
      replace A44 : ArrC Z c43 .char [(.int y29), (.int (0 : Int32))] := A44
      refine Go.iload (pc' := 149) W42 d_code_147 rfl rfl ?_
      refine Go.iconst (pc' := 150) W42 (1 : Int32) d_code_149 (by decide) rfl ?_
      refine Go.icmp_le (pc' := 153) W42 161 d_code_150 (by decide) rfl (fun q => absurd (by decide) q) (fun _ => ?_)
      refine Go.aload (pc' := 155) W42 d_code_153 rfl rfl rfl ?_
      refine Go.iconst (pc' := 156) W42 (1 : Int32) d_code_155 (by decide) rfl ?_
      refine Go.aload (pc' := 158) W42 d_code_156 rfl rfl rfl ?_
      refine Go.iconst (pc' := 159) W42 (1 : Int32) d_code_158 (by decide) rfl ?_
      refine Go.caload (pc' := 160) W42 (Or.inl (List.mem_of_getElem? (i := 1) rfl)) A31 1 (by decide) (by decide) rfl d_code_159 rfl ?_
      refine Go.castore (pc' := 161) W42 0 rfl A44 1 z32 (nar_char_id h33.chr) (by decide) (by decide) (by simp) d_code_160 rfl (fun T45 c47 W46 A48 => ?_)
      replace W46 : Wk l Z EL1 ({ frames := 9, cells := 24, slots := 2752, locals := 208 } : Room) "com/example/hermit_crab/hermitcrab/LockOptionsCheckNamePinLaw" code 8 (some .boolean) "law" X [(a38, c47), (a6, c28)] [] T45 2 (8) := W46
      replace A48 : ArrC Z c47 .char [(.int y29), (.int z32)] := A48
      refine Go.iload (pc' := 163) W46 d_code_161 rfl rfl ?_
      refine Go.iconst (pc' := 164) W46 (2 : Int32) d_code_163 (by decide) rfl ?_
      refine Go.icmp_le (pc' := 167) W46 175 d_code_164 (by decide) rfl (fun _ => ?_) (fun q => absurd q (by decide))
      refine Go.iload (pc' := 177) W46 d_code_175 rfl rfl ?_
      refine Go.iconst (pc' := 178) W46 (3 : Int32) d_code_177 (by decide) rfl ?_
      refine Go.icmp_le (pc' := 181) W46 189 d_code_178 (by decide) rfl (fun _ => ?_) (fun q => absurd q (by decide))
      refine Go.iload (pc' := 191) W46 d_code_189 rfl rfl ?_
      refine Go.iconst (pc' := 192) W46 (4 : Int32) d_code_191 (by decide) rfl ?_
      refine Go.icmp_le (pc' := 195) W46 203 d_code_192 (by decide) rfl (fun _ => ?_) (fun q => absurd q (by decide))
      refine Go.iload (pc' := 205) W46 d_code_203 rfl rfl ?_
      refine Go.iconst (pc' := 206) W46 (5 : Int32) d_code_205 (by decide) rfl ?_
      refine Go.icmp_le (pc' := 209) W46 217 d_code_206 (by decide) rfl (fun _ => ?_) (fun q => absurd q (by decide))
      have W49 := W46.drop [1] (σi := [(a6, c28)]) (σf := [(a38, c47)]) rfl
      replace W49 : Wk l Z EL1 ({ frames := 9, cells := 24, slots := 2752, locals := 208 } : Room) "com/example/hermit_crab/hermitcrab/LockOptionsCheckNamePinLaw" code 8 (some .boolean) "law" X [(a38, c47)] [] T45 2 (8) := W49
      exact rm_tail_B G aa bb cc mm a38 c47 [y29, z32] A48 1 (Wf.p h30 h33 (rfl : Wf 0 [])) (by decide) (by decide) (0 : Int32) a6 (2 : Int32) (W49.more (by first | exact Nat.le_of_ble_eq_true rfl | (simp; done) | (simp; omega) | omega) (by first | exact Nat.le_of_ble_eq_true rfl | (simp; done) | (simp; omega) | omega))
  · refine Go.iload (pc' := 7) W0 d_code_5 rfl rfl ?_
    refine Go.iconst (pc' := 8) W0 (3 : Int32) d_code_7 (by decide) rfl ?_
    refine Go.icmp_ne (pc' := 11) W0 81 d_code_8 (by decide) rfl (fun _ => ?_) (fun q => absurd q (by decide))
    refine Go.bipush (pc' := 83) W0 (6 : Int32) d_code_81 (by decide) rfl ?_
    refine Go.newarr (pc' := 85) W0 .char rfl 6 (w_0 G) d_code_83 rfl (by decide) (by decide) (by decide) (by first | exact Nat.le_of_ble_eq_true rfl | (simp; done) | (simp; omega) | omega) (by first | exact Nat.le_of_ble_eq_true rfl | (simp; done) | (simp; omega) | omega) (fun T50 a52 c53 W51 A54 => ?_)
    replace W51 : Wk l Z EL1 ({ frames := 9, cells := 24, slots := 2752, locals := 208 } : Room) "com/example/hermit_crab/hermitcrab/LockOptionsCheckNamePinLaw" code 8 (some .boolean) "law" X [(a52, c53)] [] T50 1 (6) := W51
    replace A54 : ArrC Z c53 .char [(.int (0 : Int32)), (.int (0 : Int32)), (.int (0 : Int32)), (.int (0 : Int32)), (.int (0 : Int32)), (.int (0 : Int32))] := A54
    refine Go.astore (pc' := 87) W51 #[.val (.int aa), .val (.int bb), .val (.int cc), .val (.int mm), .val (.int (1 : Int32)), .unset, .val (.ref a52), .unset] d_code_85 rfl rfl rfl ?_
    refine Go.aload (pc' := 89) W51 d_code_87 rfl rfl rfl ?_
    refine Go.iconst (pc' := 90) W51 (0 : Int32) d_code_89 (by decide) rfl ?_
    refine Go.iloadN (pc' := 91) W51 d_code_90 rfl rfl ?_
    by_cases h55 : (aa &&& (1 : Int32)) = 0
    · refine Go.static (pc' := 94) W51 (rm_pb_A G a52 c53 (0 : Int32) (0 : Int32) (0 : Int32) (0 : Int32) (0 : Int32) (0 : Int32) aa A54 h55) (w_1 G) (w_2 G) (w_3 G) (w_4 G) (by decide) [0] [] (σf := []) rfl rfl [(.ref a52), (.int (0 : Int32)), (.int aa)] [] rfl (lenOf pd_28 rfl) rfl rfl d_code_91 rfl (by first | exact Nat.le_of_ble_eq_true rfl | (simp; done) | (simp; omega) | omega) (by first | exact Nat.le_of_ble_eq_true rfl | (simp; done) | (simp; omega) | omega) (by first | exact Nat.le_of_ble_eq_true rfl | (simp; done) | (simp; omega) | omega) (by first | exact Nat.le_of_ble_eq_true rfl | (simp; done) | (simp; omega) | omega) ?_
      rintro _ _ _ T62 ⟨c56, y57, rfl, rfl, rfl, h58, A59⟩ W63
      replace W63 : Wk l Z EL1 ({ frames := 9, cells := 24, slots := 2752, locals := 208 } : Room) "com/example/hermit_crab/hermitcrab/LockOptionsCheckNamePinLaw" code 8 (some .boolean) "law" X [(a52, c56)] [] T62 1 (6) := W63
      show Go Z EL1 _ _ _ X T62 94 #[.val (.int aa), .val (.int bb), .val (.int cc), .val (.int mm), .val (.int (1 : Int32)), .unset, .val (.ref a52), .unset] [(.int (1 : Int32))]
      refine Go.istore (pc' := 96) W63 #[.val (.int aa), .val (.int bb), .val (.int cc), .val (.int mm), .val (.int (1 : Int32)), .unset, .val (.ref a52), .val (.int (1 : Int32))] d_code_94 rfl rfl ?_
      refine Go.iload (pc' := 98) W63 d_code_96 rfl rfl ?_
      refine Go.iconst (pc' := 99) W63 (1 : Int32) d_code_98 (by decide) rfl ?_
      refine Go.icmp_lt (pc' := 102) W63 112 d_code_99 (by decide) rfl (fun q => absurd q (by decide)) (fun _ => ?_)
      refine Go.aload (pc' := 104) W63 d_code_102 rfl rfl rfl ?_
      refine Go.iload (pc' := 106) W63 d_code_104 rfl rfl ?_
      refine Go.iloadN (pc' := 107) W63 d_code_106 rfl rfl ?_
      by_cases h64 : (bb &&& (1 : Int32)) = 0
      · refine Go.static (pc' := 110) W63 (rm_pb_B G a52 c56 y57 (0 : Int32) (0 : Int32) (0 : Int32) (0 : Int32) (0 : Int32) bb A59 h64) (w_1 G) (w_2 G) (w_3 G) (w_4 G) (by decide) [0] [] (σf := []) rfl rfl [(.ref a52), (.int (1 : Int32)), (.int bb)] [] rfl (lenOf pd_28 rfl) rfl rfl d_code_107 rfl (by first | exact Nat.le_of_ble_eq_true rfl | (simp; done) | (simp; omega) | omega) (by first | exact Nat.le_of_ble_eq_true rfl | (simp; done) | (simp; omega) | omega) (by first | exact Nat.le_of_ble_eq_true rfl | (simp; done) | (simp; omega) | omega) (by first | exact Nat.le_of_ble_eq_true rfl | (simp; done) | (simp; omega) | omega) ?_
        rintro _ _ _ T71 ⟨c65, y66, rfl, rfl, rfl, h67, A68⟩ W72
        replace W72 : Wk l Z EL1 ({ frames := 9, cells := 24, slots := 2752, locals := 208 } : Room) "com/example/hermit_crab/hermitcrab/LockOptionsCheckNamePinLaw" code 8 (some .boolean) "law" X [(a52, c65)] [] T71 1 (6) := W72
        show Go Z EL1 _ _ _ X T71 110 #[.val (.int aa), .val (.int bb), .val (.int cc), .val (.int mm), .val (.int (1 : Int32)), .unset, .val (.ref a52), .val (.int (1 : Int32))] [(.int (2 : Int32))]
        refine Go.istore (pc' := 112) W72 #[.val (.int aa), .val (.int bb), .val (.int cc), .val (.int mm), .val (.int (1 : Int32)), .unset, .val (.ref a52), .val (.int (2 : Int32))] d_code_110 rfl rfl ?_
        refine Go.iload (pc' := 114) W72 d_code_112 rfl rfl ?_
        refine Go.iconst (pc' := 115) W72 (2 : Int32) d_code_114 (by decide) rfl ?_
        refine Go.icmp_lt (pc' := 118) W72 128 d_code_115 (by decide) rfl (fun _ => ?_) (fun q => absurd (by decide) q)
        refine Go.iload (pc' := 130) W72 d_code_128 rfl rfl ?_
        refine Go.newarr (pc' := 132) W72 .char rfl 2 (w_0 G) d_code_130 rfl (by decide) (by decide) (by decide) (by first | exact Nat.le_of_ble_eq_true rfl | (simp; done) | (simp; omega) | omega) (by first | exact Nat.le_of_ble_eq_true rfl | (simp; done) | (simp; omega) | omega) (fun T73 a75 c76 W74 A77 => ?_)
        replace W74 : Wk l Z EL1 ({ frames := 9, cells := 24, slots := 2752, locals := 208 } : Room) "com/example/hermit_crab/hermitcrab/LockOptionsCheckNamePinLaw" code 8 (some .boolean) "law" X [(a75, c76), (a52, c65)] [] T73 2 (8) := W74
        replace A77 : ArrC Z c76 .char [(.int (0 : Int32)), (.int (0 : Int32))] := A77
        refine Go.astore (pc' := 134) W74 #[.val (.int aa), .val (.int bb), .val (.int cc), .val (.int mm), .val (.int (1 : Int32)), .val (.ref a75), .val (.ref a52), .val (.int (2 : Int32))] d_code_132 rfl rfl rfl ?_
        refine Go.iload (pc' := 136) W74 d_code_134 rfl rfl ?_
        refine Go.if_le (pc' := 139) W74 147 d_code_136 (by decide) rfl (fun q => absurd (by decide) q) (fun _ => ?_)
        refine Go.aload (pc' := 141) W74 d_code_139 rfl rfl rfl ?_
        refine Go.iconst (pc' := 142) W74 (0 : Int32) d_code_141 (by decide) rfl ?_
        refine Go.aload (pc' := 144) W74 d_code_142 rfl rfl rfl ?_
        refine Go.iconst (pc' := 145) W74 (0 : Int32) d_code_144 (by decide) rfl ?_
        refine Go.caload (pc' := 146) W74 (Or.inl (List.mem_of_getElem? (i := 1) rfl)) A68 0 (by decide) (by decide) rfl d_code_145 rfl ?_
        refine Go.castore (pc' := 147) W74 0 rfl A77 0 y57 (nar_char_id h58.1) (by decide) (by decide) (by simp) d_code_146 rfl (fun T78 c80 W79 A81 => ?_)
        replace W79 : Wk l Z EL1 ({ frames := 9, cells := 24, slots := 2752, locals := 208 } : Room) "com/example/hermit_crab/hermitcrab/LockOptionsCheckNamePinLaw" code 8 (some .boolean) "law" X [(a75, c80), (a52, c65)] [] T78 2 (8) := W79
        replace A81 : ArrC Z c80 .char [(.int y57), (.int (0 : Int32))] := A81
        refine Go.iload (pc' := 149) W79 d_code_147 rfl rfl ?_
        refine Go.iconst (pc' := 150) W79 (1 : Int32) d_code_149 (by decide) rfl ?_
        refine Go.icmp_le (pc' := 153) W79 161 d_code_150 (by decide) rfl (fun q => absurd (by decide) q) (fun _ => ?_)
        refine Go.aload (pc' := 155) W79 d_code_153 rfl rfl rfl ?_
        refine Go.iconst (pc' := 156) W79 (1 : Int32) d_code_155 (by decide) rfl ?_
        refine Go.aload (pc' := 158) W79 d_code_156 rfl rfl rfl ?_
        refine Go.iconst (pc' := 159) W79 (1 : Int32) d_code_158 (by decide) rfl ?_
        refine Go.caload (pc' := 160) W79 (Or.inl (List.mem_of_getElem? (i := 1) rfl)) A68 1 (by decide) (by decide) rfl d_code_159 rfl ?_
        refine Go.castore (pc' := 161) W79 0 rfl A81 1 y66 (nar_char_id h67.1) (by decide) (by decide) (by simp) d_code_160 rfl (fun T82 c84 W83 A85 => ?_)
        replace W83 : Wk l Z EL1 ({ frames := 9, cells := 24, slots := 2752, locals := 208 } : Room) "com/example/hermit_crab/hermitcrab/LockOptionsCheckNamePinLaw" code 8 (some .boolean) "law" X [(a75, c84), (a52, c65)] [] T82 2 (8) := W83
        replace A85 : ArrC Z c84 .char [(.int y57), (.int y66)] := A85
        refine Go.iload (pc' := 163) W83 d_code_161 rfl rfl ?_
        refine Go.iconst (pc' := 164) W83 (2 : Int32) d_code_163 (by decide) rfl ?_
        refine Go.icmp_le (pc' := 167) W83 175 d_code_164 (by decide) rfl (fun _ => ?_) (fun q => absurd q (by decide))
        refine Go.iload (pc' := 177) W83 d_code_175 rfl rfl ?_
        refine Go.iconst (pc' := 178) W83 (3 : Int32) d_code_177 (by decide) rfl ?_
        refine Go.icmp_le (pc' := 181) W83 189 d_code_178 (by decide) rfl (fun _ => ?_) (fun q => absurd q (by decide))
        refine Go.iload (pc' := 191) W83 d_code_189 rfl rfl ?_
        refine Go.iconst (pc' := 192) W83 (4 : Int32) d_code_191 (by decide) rfl ?_
        refine Go.icmp_le (pc' := 195) W83 203 d_code_192 (by decide) rfl (fun _ => ?_) (fun q => absurd q (by decide))
        refine Go.iload (pc' := 205) W83 d_code_203 rfl rfl ?_
        refine Go.iconst (pc' := 206) W83 (5 : Int32) d_code_205 (by decide) rfl ?_
        refine Go.icmp_le (pc' := 209) W83 217 d_code_206 (by decide) rfl (fun _ => ?_) (fun q => absurd q (by decide))
        have W86 := W83.drop [1] (σi := [(a52, c65)]) (σf := [(a75, c84)]) rfl
        replace W86 : Wk l Z EL1 ({ frames := 9, cells := 24, slots := 2752, locals := 208 } : Room) "com/example/hermit_crab/hermitcrab/LockOptionsCheckNamePinLaw" code 8 (some .boolean) "law" X [(a75, c84)] [] T82 2 (8) := W86
        exact rm_tail_B G aa bb cc mm a75 c84 [y57, y66] A85 2 (Wf.b h58 (Wf.b h67 (rfl : Wf 0 []))) (by decide) (by decide) (1 : Int32) a52 (2 : Int32) (W86.more (by first | exact Nat.le_of_ble_eq_true rfl | (simp; done) | (simp; omega) | omega) (by first | exact Nat.le_of_ble_eq_true rfl | (simp; done) | (simp; omega) | omega))
      · refine Go.static (pc' := 110) W63 (rm_pp_B G a52 c56 y57 (0 : Int32) (0 : Int32) (0 : Int32) (0 : Int32) (0 : Int32) bb A59 h64) (w_1 G) (w_2 G) (w_3 G) (w_4 G) (by decide) [0] [] (σf := []) rfl rfl [(.ref a52), (.int (1 : Int32)), (.int bb)] [] rfl (lenOf pd_28 rfl) rfl rfl d_code_107 rfl (by first | exact Nat.le_of_ble_eq_true rfl | (simp; done) | (simp; omega) | omega) (by first | exact Nat.le_of_ble_eq_true rfl | (simp; done) | (simp; omega) | omega) (by first | exact Nat.le_of_ble_eq_true rfl | (simp; done) | (simp; omega) | omega) (by first | exact Nat.le_of_ble_eq_true rfl | (simp; done) | (simp; omega) | omega) ?_
        rintro _ _ _ T93 ⟨c87, y88, z91, rfl, rfl, rfl, h89, h92, A90⟩ W94
        replace W94 : Wk l Z EL1 ({ frames := 9, cells := 24, slots := 2752, locals := 208 } : Room) "com/example/hermit_crab/hermitcrab/LockOptionsCheckNamePinLaw" code 8 (some .boolean) "law" X [(a52, c87)] [] T93 1 (6) := W94
        show Go Z EL1 _ _ _ X T93 110 #[.val (.int aa), .val (.int bb), .val (.int cc), .val (.int mm), .val (.int (1 : Int32)), .unset, .val (.ref a52), .val (.int (1 : Int32))] [(.int (3 : Int32))]
        refine Go.istore (pc' := 112) W94 #[.val (.int aa), .val (.int bb), .val (.int cc), .val (.int mm), .val (.int (1 : Int32)), .unset, .val (.ref a52), .val (.int (3 : Int32))] d_code_110 rfl rfl ?_
        refine Go.iload (pc' := 114) W94 d_code_112 rfl rfl ?_
        refine Go.iconst (pc' := 115) W94 (2 : Int32) d_code_114 (by decide) rfl ?_
        refine Go.icmp_lt (pc' := 118) W94 128 d_code_115 (by decide) rfl (fun _ => ?_) (fun q => absurd (by decide) q)
        refine Go.iload (pc' := 130) W94 d_code_128 rfl rfl ?_
        refine Go.newarr (pc' := 132) W94 .char rfl 3 (w_0 G) d_code_130 rfl (by decide) (by decide) (by decide) (by first | exact Nat.le_of_ble_eq_true rfl | (simp; done) | (simp; omega) | omega) (by first | exact Nat.le_of_ble_eq_true rfl | (simp; done) | (simp; omega) | omega) (fun T95 a97 c98 W96 A99 => ?_)
        replace W96 : Wk l Z EL1 ({ frames := 9, cells := 24, slots := 2752, locals := 208 } : Room) "com/example/hermit_crab/hermitcrab/LockOptionsCheckNamePinLaw" code 8 (some .boolean) "law" X [(a97, c98), (a52, c87)] [] T95 2 (9) := W96
        replace A99 : ArrC Z c98 .char [(.int (0 : Int32)), (.int (0 : Int32)), (.int (0 : Int32))] := A99
        refine Go.astore (pc' := 134) W96 #[.val (.int aa), .val (.int bb), .val (.int cc), .val (.int mm), .val (.int (1 : Int32)), .val (.ref a97), .val (.ref a52), .val (.int (3 : Int32))] d_code_132 rfl rfl rfl ?_
        refine Go.iload (pc' := 136) W96 d_code_134 rfl rfl ?_
        refine Go.if_le (pc' := 139) W96 147 d_code_136 (by decide) rfl (fun q => absurd (by decide) q) (fun _ => ?_)
        refine Go.aload (pc' := 141) W96 d_code_139 rfl rfl rfl ?_
        refine Go.iconst (pc' := 142) W96 (0 : Int32) d_code_141 (by decide) rfl ?_
        refine Go.aload (pc' := 144) W96 d_code_142 rfl rfl rfl ?_
        refine Go.iconst (pc' := 145) W96 (0 : Int32) d_code_144 (by decide) rfl ?_
        refine Go.caload (pc' := 146) W96 (Or.inl (List.mem_of_getElem? (i := 1) rfl)) A90 0 (by decide) (by decide) rfl d_code_145 rfl ?_
        refine Go.castore (pc' := 147) W96 0 rfl A99 0 y57 (nar_char_id h58.1) (by decide) (by decide) (by simp) d_code_146 rfl (fun T100 c102 W101 A103 => ?_)
        replace W101 : Wk l Z EL1 ({ frames := 9, cells := 24, slots := 2752, locals := 208 } : Room) "com/example/hermit_crab/hermitcrab/LockOptionsCheckNamePinLaw" code 8 (some .boolean) "law" X [(a97, c102), (a52, c87)] [] T100 2 (9) := W101
        replace A103 : ArrC Z c102 .char [(.int y57), (.int (0 : Int32)), (.int (0 : Int32))] := A103
        refine Go.iload (pc' := 149) W101 d_code_147 rfl rfl ?_
        refine Go.iconst (pc' := 150) W101 (1 : Int32) d_code_149 (by decide) rfl ?_
        refine Go.icmp_le (pc' := 153) W101 161 d_code_150 (by decide) rfl (fun q => absurd (by decide) q) (fun _ => ?_)
        refine Go.aload (pc' := 155) W101 d_code_153 rfl rfl rfl ?_
        refine Go.iconst (pc' := 156) W101 (1 : Int32) d_code_155 (by decide) rfl ?_
        refine Go.aload (pc' := 158) W101 d_code_156 rfl rfl rfl ?_
        refine Go.iconst (pc' := 159) W101 (1 : Int32) d_code_158 (by decide) rfl ?_
        refine Go.caload (pc' := 160) W101 (Or.inl (List.mem_of_getElem? (i := 1) rfl)) A90 1 (by decide) (by decide) rfl d_code_159 rfl ?_
        refine Go.castore (pc' := 161) W101 0 rfl A103 1 y88 (nar_char_id h89.chr) (by decide) (by decide) (by simp) d_code_160 rfl (fun T104 c106 W105 A107 => ?_)
        replace W105 : Wk l Z EL1 ({ frames := 9, cells := 24, slots := 2752, locals := 208 } : Room) "com/example/hermit_crab/hermitcrab/LockOptionsCheckNamePinLaw" code 8 (some .boolean) "law" X [(a97, c106), (a52, c87)] [] T104 2 (9) := W105
        replace A107 : ArrC Z c106 .char [(.int y57), (.int y88), (.int (0 : Int32))] := A107
        refine Go.iload (pc' := 163) W105 d_code_161 rfl rfl ?_
        refine Go.iconst (pc' := 164) W105 (2 : Int32) d_code_163 (by decide) rfl ?_
        refine Go.icmp_le (pc' := 167) W105 175 d_code_164 (by decide) rfl (fun q => absurd (by decide) q) (fun _ => ?_)
        refine Go.aload (pc' := 169) W105 d_code_167 rfl rfl rfl ?_
        refine Go.iconst (pc' := 170) W105 (2 : Int32) d_code_169 (by decide) rfl ?_
        refine Go.aload (pc' := 172) W105 d_code_170 rfl rfl rfl ?_
        refine Go.iconst (pc' := 173) W105 (2 : Int32) d_code_172 (by decide) rfl ?_
        refine Go.caload (pc' := 174) W105 (Or.inl (List.mem_of_getElem? (i := 1) rfl)) A90 2 (by decide) (by decide) rfl d_code_173 rfl ?_
        refine Go.castore (pc' := 175) W105 0 rfl A107 2 z91 (nar_char_id h92.chr) (by decide) (by decide) (by simp) d_code_174 rfl (fun T108 c110 W109 A111 => ?_)
        replace W109 : Wk l Z EL1 ({ frames := 9, cells := 24, slots := 2752, locals := 208 } : Room) "com/example/hermit_crab/hermitcrab/LockOptionsCheckNamePinLaw" code 8 (some .boolean) "law" X [(a97, c110), (a52, c87)] [] T108 2 (9) := W109
        replace A111 : ArrC Z c110 .char [(.int y57), (.int y88), (.int z91)] := A111
        refine Go.iload (pc' := 177) W109 d_code_175 rfl rfl ?_
        refine Go.iconst (pc' := 178) W109 (3 : Int32) d_code_177 (by decide) rfl ?_
        refine Go.icmp_le (pc' := 181) W109 189 d_code_178 (by decide) rfl (fun _ => ?_) (fun q => absurd q (by decide))
        refine Go.iload (pc' := 191) W109 d_code_189 rfl rfl ?_
        refine Go.iconst (pc' := 192) W109 (4 : Int32) d_code_191 (by decide) rfl ?_
        refine Go.icmp_le (pc' := 195) W109 203 d_code_192 (by decide) rfl (fun _ => ?_) (fun q => absurd q (by decide))
        refine Go.iload (pc' := 205) W109 d_code_203 rfl rfl ?_
        refine Go.iconst (pc' := 206) W109 (5 : Int32) d_code_205 (by decide) rfl ?_
        refine Go.icmp_le (pc' := 209) W109 217 d_code_206 (by decide) rfl (fun _ => ?_) (fun q => absurd q (by decide))
        have W112 := W109.drop [1] (σi := [(a52, c87)]) (σf := [(a97, c110)]) rfl
        replace W112 : Wk l Z EL1 ({ frames := 9, cells := 24, slots := 2752, locals := 208 } : Room) "com/example/hermit_crab/hermitcrab/LockOptionsCheckNamePinLaw" code 8 (some .boolean) "law" X [(a97, c110)] [] T108 2 (9) := W112
        exact rm_tail_B G aa bb cc mm a97 c110 [y57, y88, z91] A111 2 (Wf.b h58 (Wf.p h89 h92 (rfl : Wf 0 []))) (by decide) (by decide) (1 : Int32) a52 (3 : Int32) (W112.more (by first | exact Nat.le_of_ble_eq_true rfl | (simp; done) | (simp; omega) | omega) (by first | exact Nat.le_of_ble_eq_true rfl | (simp; done) | (simp; omega) | omega))
    · refine Go.static (pc' := 94) W51 (rm_pp_A G a52 c53 (0 : Int32) (0 : Int32) (0 : Int32) (0 : Int32) (0 : Int32) (0 : Int32) aa A54 h55) (w_1 G) (w_2 G) (w_3 G) (w_4 G) (by decide) [0] [] (σf := []) rfl rfl [(.ref a52), (.int (0 : Int32)), (.int aa)] [] rfl (lenOf pd_28 rfl) rfl rfl d_code_91 rfl (by first | exact Nat.le_of_ble_eq_true rfl | (simp; done) | (simp; omega) | omega) (by first | exact Nat.le_of_ble_eq_true rfl | (simp; done) | (simp; omega) | omega) (by first | exact Nat.le_of_ble_eq_true rfl | (simp; done) | (simp; omega) | omega) (by first | exact Nat.le_of_ble_eq_true rfl | (simp; done) | (simp; omega) | omega) ?_
      rintro _ _ _ T119 ⟨c113, y114, z117, rfl, rfl, rfl, h115, h118, A116⟩ W120
      replace W120 : Wk l Z EL1 ({ frames := 9, cells := 24, slots := 2752, locals := 208 } : Room) "com/example/hermit_crab/hermitcrab/LockOptionsCheckNamePinLaw" code 8 (some .boolean) "law" X [(a52, c113)] [] T119 1 (6) := W120
      show Go Z EL1 _ _ _ X T119 94 #[.val (.int aa), .val (.int bb), .val (.int cc), .val (.int mm), .val (.int (1 : Int32)), .unset, .val (.ref a52), .unset] [(.int (2 : Int32))]
      refine Go.istore (pc' := 96) W120 #[.val (.int aa), .val (.int bb), .val (.int cc), .val (.int mm), .val (.int (1 : Int32)), .unset, .val (.ref a52), .val (.int (2 : Int32))] d_code_94 rfl rfl ?_
      refine Go.iload (pc' := 98) W120 d_code_96 rfl rfl ?_
      refine Go.iconst (pc' := 99) W120 (1 : Int32) d_code_98 (by decide) rfl ?_
      refine Go.icmp_lt (pc' := 102) W120 112 d_code_99 (by decide) rfl (fun q => absurd q (by decide)) (fun _ => ?_)
      refine Go.aload (pc' := 104) W120 d_code_102 rfl rfl rfl ?_
      refine Go.iload (pc' := 106) W120 d_code_104 rfl rfl ?_
      refine Go.iloadN (pc' := 107) W120 d_code_106 rfl rfl ?_
      by_cases h121 : (bb &&& (1 : Int32)) = 0
      · refine Go.static (pc' := 110) W120 (rm_pb_C G a52 c113 y114 z117 (0 : Int32) (0 : Int32) (0 : Int32) (0 : Int32) bb A116 h121) (w_1 G) (w_2 G) (w_3 G) (w_4 G) (by decide) [0] [] (σf := []) rfl rfl [(.ref a52), (.int (2 : Int32)), (.int bb)] [] rfl (lenOf pd_28 rfl) rfl rfl d_code_107 rfl (by first | exact Nat.le_of_ble_eq_true rfl | (simp; done) | (simp; omega) | omega) (by first | exact Nat.le_of_ble_eq_true rfl | (simp; done) | (simp; omega) | omega) (by first | exact Nat.le_of_ble_eq_true rfl | (simp; done) | (simp; omega) | omega) (by first | exact Nat.le_of_ble_eq_true rfl | (simp; done) | (simp; omega) | omega) ?_
        rintro _ _ _ T128 ⟨c122, y123, rfl, rfl, rfl, h124, A125⟩ W129
        replace W129 : Wk l Z EL1 ({ frames := 9, cells := 24, slots := 2752, locals := 208 } : Room) "com/example/hermit_crab/hermitcrab/LockOptionsCheckNamePinLaw" code 8 (some .boolean) "law" X [(a52, c122)] [] T128 1 (6) := W129
        show Go Z EL1 _ _ _ X T128 110 #[.val (.int aa), .val (.int bb), .val (.int cc), .val (.int mm), .val (.int (1 : Int32)), .unset, .val (.ref a52), .val (.int (2 : Int32))] [(.int (3 : Int32))]
        refine Go.istore (pc' := 112) W129 #[.val (.int aa), .val (.int bb), .val (.int cc), .val (.int mm), .val (.int (1 : Int32)), .unset, .val (.ref a52), .val (.int (3 : Int32))] d_code_110 rfl rfl ?_
        refine Go.iload (pc' := 114) W129 d_code_112 rfl rfl ?_
        refine Go.iconst (pc' := 115) W129 (2 : Int32) d_code_114 (by decide) rfl ?_
        refine Go.icmp_lt (pc' := 118) W129 128 d_code_115 (by decide) rfl (fun _ => ?_) (fun q => absurd (by decide) q)
        refine Go.iload (pc' := 130) W129 d_code_128 rfl rfl ?_
        refine Go.newarr (pc' := 132) W129 .char rfl 3 (w_0 G) d_code_130 rfl (by decide) (by decide) (by decide) (by first | exact Nat.le_of_ble_eq_true rfl | (simp; done) | (simp; omega) | omega) (by first | exact Nat.le_of_ble_eq_true rfl | (simp; done) | (simp; omega) | omega) (fun T130 a132 c133 W131 A134 => ?_)
        replace W131 : Wk l Z EL1 ({ frames := 9, cells := 24, slots := 2752, locals := 208 } : Room) "com/example/hermit_crab/hermitcrab/LockOptionsCheckNamePinLaw" code 8 (some .boolean) "law" X [(a132, c133), (a52, c122)] [] T130 2 (9) := W131
        replace A134 : ArrC Z c133 .char [(.int (0 : Int32)), (.int (0 : Int32)), (.int (0 : Int32))] := A134
        refine Go.astore (pc' := 134) W131 #[.val (.int aa), .val (.int bb), .val (.int cc), .val (.int mm), .val (.int (1 : Int32)), .val (.ref a132), .val (.ref a52), .val (.int (3 : Int32))] d_code_132 rfl rfl rfl ?_
        refine Go.iload (pc' := 136) W131 d_code_134 rfl rfl ?_
        refine Go.if_le (pc' := 139) W131 147 d_code_136 (by decide) rfl (fun q => absurd (by decide) q) (fun _ => ?_)
        refine Go.aload (pc' := 141) W131 d_code_139 rfl rfl rfl ?_
        refine Go.iconst (pc' := 142) W131 (0 : Int32) d_code_141 (by decide) rfl ?_
        refine Go.aload (pc' := 144) W131 d_code_142 rfl rfl rfl ?_
        refine Go.iconst (pc' := 145) W131 (0 : Int32) d_code_144 (by decide) rfl ?_
        refine Go.caload (pc' := 146) W131 (Or.inl (List.mem_of_getElem? (i := 1) rfl)) A125 0 (by decide) (by decide) rfl d_code_145 rfl ?_
        refine Go.castore (pc' := 147) W131 0 rfl A134 0 y114 (nar_char_id h115.chr) (by decide) (by decide) (by simp) d_code_146 rfl (fun T135 c137 W136 A138 => ?_)
        replace W136 : Wk l Z EL1 ({ frames := 9, cells := 24, slots := 2752, locals := 208 } : Room) "com/example/hermit_crab/hermitcrab/LockOptionsCheckNamePinLaw" code 8 (some .boolean) "law" X [(a132, c137), (a52, c122)] [] T135 2 (9) := W136
        replace A138 : ArrC Z c137 .char [(.int y114), (.int (0 : Int32)), (.int (0 : Int32))] := A138
        refine Go.iload (pc' := 149) W136 d_code_147 rfl rfl ?_
        refine Go.iconst (pc' := 150) W136 (1 : Int32) d_code_149 (by decide) rfl ?_
        refine Go.icmp_le (pc' := 153) W136 161 d_code_150 (by decide) rfl (fun q => absurd (by decide) q) (fun _ => ?_)
        refine Go.aload (pc' := 155) W136 d_code_153 rfl rfl rfl ?_
        refine Go.iconst (pc' := 156) W136 (1 : Int32) d_code_155 (by decide) rfl ?_
        refine Go.aload (pc' := 158) W136 d_code_156 rfl rfl rfl ?_
        refine Go.iconst (pc' := 159) W136 (1 : Int32) d_code_158 (by decide) rfl ?_
        refine Go.caload (pc' := 160) W136 (Or.inl (List.mem_of_getElem? (i := 1) rfl)) A125 1 (by decide) (by decide) rfl d_code_159 rfl ?_
        refine Go.castore (pc' := 161) W136 0 rfl A138 1 z117 (nar_char_id h118.chr) (by decide) (by decide) (by simp) d_code_160 rfl (fun T139 c141 W140 A142 => ?_)
        replace W140 : Wk l Z EL1 ({ frames := 9, cells := 24, slots := 2752, locals := 208 } : Room) "com/example/hermit_crab/hermitcrab/LockOptionsCheckNamePinLaw" code 8 (some .boolean) "law" X [(a132, c141), (a52, c122)] [] T139 2 (9) := W140
        replace A142 : ArrC Z c141 .char [(.int y114), (.int z117), (.int (0 : Int32))] := A142
        refine Go.iload (pc' := 163) W140 d_code_161 rfl rfl ?_
        refine Go.iconst (pc' := 164) W140 (2 : Int32) d_code_163 (by decide) rfl ?_
        refine Go.icmp_le (pc' := 167) W140 175 d_code_164 (by decide) rfl (fun q => absurd (by decide) q) (fun _ => ?_)
        refine Go.aload (pc' := 169) W140 d_code_167 rfl rfl rfl ?_
        refine Go.iconst (pc' := 170) W140 (2 : Int32) d_code_169 (by decide) rfl ?_
        refine Go.aload (pc' := 172) W140 d_code_170 rfl rfl rfl ?_
        refine Go.iconst (pc' := 173) W140 (2 : Int32) d_code_172 (by decide) rfl ?_
        refine Go.caload (pc' := 174) W140 (Or.inl (List.mem_of_getElem? (i := 1) rfl)) A125 2 (by decide) (by decide) rfl d_code_173 rfl ?_
        refine Go.castore (pc' := 175) W140 0 rfl A142 2 y123 (nar_char_id h124.1) (by decide) (by decide) (by simp) d_code_174 rfl (fun T143 c145 W144 A146 => ?_)
        replace W144 : Wk l Z EL1 ({ frames := 9, cells := 24, slots := 2752, locals := 208 } : Room) "com/example/hermit_crab/hermitcrab/LockOptionsCheckNamePinLaw" code 8 (some .boolean) "law" X [(a132, c145), (a52, c122)] [] T143 2 (9) := W144
        replace A146 : ArrC Z c145 .char [(.int y114), (.int z117), (.int y123)] := A146
        refine Go.iload (pc' := 177) W144 d_code_175 rfl rfl ?_
        refine Go.iconst (pc' := 178) W144 (3 : Int32) d_code_177 (by decide) rfl ?_
        refine Go.icmp_le (pc' := 181) W144 189 d_code_178 (by decide) rfl (fun _ => ?_) (fun q => absurd q (by decide))
        refine Go.iload (pc' := 191) W144 d_code_189 rfl rfl ?_
        refine Go.iconst (pc' := 192) W144 (4 : Int32) d_code_191 (by decide) rfl ?_
        refine Go.icmp_le (pc' := 195) W144 203 d_code_192 (by decide) rfl (fun _ => ?_) (fun q => absurd q (by decide))
        refine Go.iload (pc' := 205) W144 d_code_203 rfl rfl ?_
        refine Go.iconst (pc' := 206) W144 (5 : Int32) d_code_205 (by decide) rfl ?_
        refine Go.icmp_le (pc' := 209) W144 217 d_code_206 (by decide) rfl (fun _ => ?_) (fun q => absurd q (by decide))
        have W147 := W144.drop [1] (σi := [(a52, c122)]) (σf := [(a132, c145)]) rfl
        replace W147 : Wk l Z EL1 ({ frames := 9, cells := 24, slots := 2752, locals := 208 } : Room) "com/example/hermit_crab/hermitcrab/LockOptionsCheckNamePinLaw" code 8 (some .boolean) "law" X [(a132, c145)] [] T143 2 (9) := W147
        exact rm_tail_B G aa bb cc mm a132 c145 [y114, z117, y123] A146 2 (Wf.p h115 h118 (Wf.b h124 (rfl : Wf 0 []))) (by decide) (by decide) (1 : Int32) a52 (3 : Int32) (W147.more (by first | exact Nat.le_of_ble_eq_true rfl | (simp; done) | (simp; omega) | omega) (by first | exact Nat.le_of_ble_eq_true rfl | (simp; done) | (simp; omega) | omega))
      · refine Go.static (pc' := 110) W120 (rm_pp_C G a52 c113 y114 z117 (0 : Int32) (0 : Int32) (0 : Int32) (0 : Int32) bb A116 h121) (w_1 G) (w_2 G) (w_3 G) (w_4 G) (by decide) [0] [] (σf := []) rfl rfl [(.ref a52), (.int (2 : Int32)), (.int bb)] [] rfl (lenOf pd_28 rfl) rfl rfl d_code_107 rfl (by first | exact Nat.le_of_ble_eq_true rfl | (simp; done) | (simp; omega) | omega) (by first | exact Nat.le_of_ble_eq_true rfl | (simp; done) | (simp; omega) | omega) (by first | exact Nat.le_of_ble_eq_true rfl | (simp; done) | (simp; omega) | omega) (by first | exact Nat.le_of_ble_eq_true rfl | (simp; done) | (simp; omega) | omega) ?_
        rintro _ _ _ T154 ⟨c148, y149, z152, rfl, rfl, rfl, h150, h153, A151⟩ W155
        replace W155 : Wk l Z EL1 ({ frames := 9, cells := 24, slots := 2752, locals := 208 } : Room) "com/example/hermit_crab/hermitcrab/LockOptionsCheckNamePinLaw" code 8 (some .boolean) "law" X [(a52, c148)] [] T154 1 (6) := W155
        show Go Z EL1 _ _ _ X T154 110 #[.val (.int aa), .val (.int bb), .val (.int cc), .val (.int mm), .val (.int (1 : Int32)), .unset, .val (.ref a52), .val (.int (2 : Int32))] [(.int (4 : Int32))]
        refine Go.istore (pc' := 112) W155 #[.val (.int aa), .val (.int bb), .val (.int cc), .val (.int mm), .val (.int (1 : Int32)), .unset, .val (.ref a52), .val (.int (4 : Int32))] d_code_110 rfl rfl ?_
        refine Go.iload (pc' := 114) W155 d_code_112 rfl rfl ?_
        refine Go.iconst (pc' := 115) W155 (2 : Int32) d_code_114 (by decide) rfl ?_
        refine Go.icmp_lt (pc' := 118) W155 128 d_code_115 (by decide) rfl (fun _ => ?_) (fun q => absurd (by decide) q)
        refine Go.iload (pc' := 130) W155 d_code_128 rfl rfl ?_
        refine Go.newarr (pc' := 132) W155 .char rfl 4 (w_0 G) d_code_130 rfl (by decide) (by decide) (by decide) (by first | exact Nat.le_of_ble_eq_true rfl | (simp; done) | (simp; omega) | omega) (by first | exact Nat.le_of_ble_eq_true rfl | (simp; done) | (simp; omega) | omega) (fun T156 a158 c159 W157 A160 => ?_)
        replace W157 : Wk l Z EL1 ({ frames := 9, cells := 24, slots := 2752, locals := 208 } : Room) "com/example/hermit_crab/hermitcrab/LockOptionsCheckNamePinLaw" code 8 (some .boolean) "law" X [(a158, c159), (a52, c148)] [] T156 2 (10) := W157
        replace A160 : ArrC Z c159 .char [(.int (0 : Int32)), (.int (0 : Int32)), (.int (0 : Int32)), (.int (0 : Int32))] := A160
        refine Go.astore (pc' := 134) W157 #[.val (.int aa), .val (.int bb), .val (.int cc), .val (.int mm), .val (.int (1 : Int32)), .val (.ref a158), .val (.ref a52), .val (.int (4 : Int32))] d_code_132 rfl rfl rfl ?_
        refine Go.iload (pc' := 136) W157 d_code_134 rfl rfl ?_
        refine Go.if_le (pc' := 139) W157 147 d_code_136 (by decide) rfl (fun q => absurd (by decide) q) (fun _ => ?_)
        refine Go.aload (pc' := 141) W157 d_code_139 rfl rfl rfl ?_
        refine Go.iconst (pc' := 142) W157 (0 : Int32) d_code_141 (by decide) rfl ?_
        refine Go.aload (pc' := 144) W157 d_code_142 rfl rfl rfl ?_
        refine Go.iconst (pc' := 145) W157 (0 : Int32) d_code_144 (by decide) rfl ?_
        refine Go.caload (pc' := 146) W157 (Or.inl (List.mem_of_getElem? (i := 1) rfl)) A151 0 (by decide) (by decide) rfl d_code_145 rfl ?_
        refine Go.castore (pc' := 147) W157 0 rfl A160 0 y114 (nar_char_id h115.chr) (by decide) (by decide) (by simp) d_code_146 rfl (fun T161 c163 W162 A164 => ?_)
        replace W162 : Wk l Z EL1 ({ frames := 9, cells := 24, slots := 2752, locals := 208 } : Room) "com/example/hermit_crab/hermitcrab/LockOptionsCheckNamePinLaw" code 8 (some .boolean) "law" X [(a158, c163), (a52, c148)] [] T161 2 (10) := W162
        replace A164 : ArrC Z c163 .char [(.int y114), (.int (0 : Int32)), (.int (0 : Int32)), (.int (0 : Int32))] := A164
        refine Go.iload (pc' := 149) W162 d_code_147 rfl rfl ?_
        refine Go.iconst (pc' := 150) W162 (1 : Int32) d_code_149 (by decide) rfl ?_
        refine Go.icmp_le (pc' := 153) W162 161 d_code_150 (by decide) rfl (fun q => absurd (by decide) q) (fun _ => ?_)
        refine Go.aload (pc' := 155) W162 d_code_153 rfl rfl rfl ?_
        refine Go.iconst (pc' := 156) W162 (1 : Int32) d_code_155 (by decide) rfl ?_
        refine Go.aload (pc' := 158) W162 d_code_156 rfl rfl rfl ?_
        refine Go.iconst (pc' := 159) W162 (1 : Int32) d_code_158 (by decide) rfl ?_
        refine Go.caload (pc' := 160) W162 (Or.inl (List.mem_of_getElem? (i := 1) rfl)) A151 1 (by decide) (by decide) rfl d_code_159 rfl ?_
        refine Go.castore (pc' := 161) W162 0 rfl A164 1 z117 (nar_char_id h118.chr) (by decide) (by decide) (by simp) d_code_160 rfl (fun T165 c167 W166 A168 => ?_)
        replace W166 : Wk l Z EL1 ({ frames := 9, cells := 24, slots := 2752, locals := 208 } : Room) "com/example/hermit_crab/hermitcrab/LockOptionsCheckNamePinLaw" code 8 (some .boolean) "law" X [(a158, c167), (a52, c148)] [] T165 2 (10) := W166
        replace A168 : ArrC Z c167 .char [(.int y114), (.int z117), (.int (0 : Int32)), (.int (0 : Int32))] := A168
        refine Go.iload (pc' := 163) W166 d_code_161 rfl rfl ?_
        refine Go.iconst (pc' := 164) W166 (2 : Int32) d_code_163 (by decide) rfl ?_
        refine Go.icmp_le (pc' := 167) W166 175 d_code_164 (by decide) rfl (fun q => absurd (by decide) q) (fun _ => ?_)
        refine Go.aload (pc' := 169) W166 d_code_167 rfl rfl rfl ?_
        refine Go.iconst (pc' := 170) W166 (2 : Int32) d_code_169 (by decide) rfl ?_
        refine Go.aload (pc' := 172) W166 d_code_170 rfl rfl rfl ?_
        refine Go.iconst (pc' := 173) W166 (2 : Int32) d_code_172 (by decide) rfl ?_
        refine Go.caload (pc' := 174) W166 (Or.inl (List.mem_of_getElem? (i := 1) rfl)) A151 2 (by decide) (by decide) rfl d_code_173 rfl ?_
        refine Go.castore (pc' := 175) W166 0 rfl A168 2 y149 (nar_char_id h150.chr) (by decide) (by decide) (by simp) d_code_174 rfl (fun T169 c171 W170 A172 => ?_)
        replace W170 : Wk l Z EL1 ({ frames := 9, cells := 24, slots := 2752, locals := 208 } : Room) "com/example/hermit_crab/hermitcrab/LockOptionsCheckNamePinLaw" code 8 (some .boolean) "law" X [(a158, c171), (a52, c148)] [] T169 2 (10) := W170
        replace A172 : ArrC Z c171 .char [(.int y114), (.int z117), (.int y149), (.int (0 : Int32))] := A172
        refine Go.iload (pc' := 177) W170 d_code_175 rfl rfl ?_
        refine Go.iconst (pc' := 178) W170 (3 : Int32) d_code_177 (by decide) rfl ?_
        refine Go.icmp_le (pc' := 181) W170 189 d_code_178 (by decide) rfl (fun q => absurd (by decide) q) (fun _ => ?_)
        refine Go.aload (pc' := 183) W170 d_code_181 rfl rfl rfl ?_
        refine Go.iconst (pc' := 184) W170 (3 : Int32) d_code_183 (by decide) rfl ?_
        refine Go.aload (pc' := 186) W170 d_code_184 rfl rfl rfl ?_
        refine Go.iconst (pc' := 187) W170 (3 : Int32) d_code_186 (by decide) rfl ?_
        refine Go.caload (pc' := 188) W170 (Or.inl (List.mem_of_getElem? (i := 1) rfl)) A151 3 (by decide) (by decide) rfl d_code_187 rfl ?_
        refine Go.castore (pc' := 189) W170 0 rfl A172 3 z152 (nar_char_id h153.chr) (by decide) (by decide) (by simp) d_code_188 rfl (fun T173 c175 W174 A176 => ?_)
        replace W174 : Wk l Z EL1 ({ frames := 9, cells := 24, slots := 2752, locals := 208 } : Room) "com/example/hermit_crab/hermitcrab/LockOptionsCheckNamePinLaw" code 8 (some .boolean) "law" X [(a158, c175), (a52, c148)] [] T173 2 (10) := W174
        replace A176 : ArrC Z c175 .char [(.int y114), (.int z117), (.int y149), (.int z152)] := A176
        refine Go.iload (pc' := 191) W174 d_code_189 rfl rfl ?_
        refine Go.iconst (pc' := 192) W174 (4 : Int32) d_code_191 (by decide) rfl ?_
        refine Go.icmp_le (pc' := 195) W174 203 d_code_192 (by decide) rfl (fun _ => ?_) (fun q => absurd q (by decide))
        refine Go.iload (pc' := 205) W174 d_code_203 rfl rfl ?_
        refine Go.iconst (pc' := 206) W174 (5 : Int32) d_code_205 (by decide) rfl ?_
        refine Go.icmp_le (pc' := 209) W174 217 d_code_206 (by decide) rfl (fun _ => ?_) (fun q => absurd q (by decide))
        have W177 := W174.drop [1] (σi := [(a52, c148)]) (σf := [(a158, c175)]) rfl
        replace W177 : Wk l Z EL1 ({ frames := 9, cells := 24, slots := 2752, locals := 208 } : Room) "com/example/hermit_crab/hermitcrab/LockOptionsCheckNamePinLaw" code 8 (some .boolean) "law" X [(a158, c175)] [] T173 2 (10) := W177
        exact rm_tail_B G aa bb cc mm a158 c175 [y114, z117, y149, z152] A176 2 (Wf.p h115 h118 (Wf.p h150 h153 (rfl : Wf 0 []))) (by decide) (by decide) (1 : Int32) a52 (4 : Int32) (W177.more (by first | exact Nat.le_of_ble_eq_true rfl | (simp; done) | (simp; omega) | omega) (by first | exact Nat.le_of_ble_eq_true rfl | (simp; done) | (simp; omega) | omega))
  · refine Go.iload (pc' := 7) W0 d_code_5 rfl rfl ?_
    refine Go.iconst (pc' := 8) W0 (3 : Int32) d_code_7 (by decide) rfl ?_
    refine Go.icmp_ne (pc' := 11) W0 81 d_code_8 (by decide) rfl (fun _ => ?_) (fun q => absurd q (by decide))
    refine Go.bipush (pc' := 83) W0 (6 : Int32) d_code_81 (by decide) rfl ?_
    refine Go.newarr (pc' := 85) W0 .char rfl 6 (w_0 G) d_code_83 rfl (by decide) (by decide) (by decide) (by first | exact Nat.le_of_ble_eq_true rfl | (simp; done) | (simp; omega) | omega) (by first | exact Nat.le_of_ble_eq_true rfl | (simp; done) | (simp; omega) | omega) (fun T178 a180 c181 W179 A182 => ?_)
    replace W179 : Wk l Z EL1 ({ frames := 9, cells := 24, slots := 2752, locals := 208 } : Room) "com/example/hermit_crab/hermitcrab/LockOptionsCheckNamePinLaw" code 8 (some .boolean) "law" X [(a180, c181)] [] T178 1 (6) := W179
    replace A182 : ArrC Z c181 .char [(.int (0 : Int32)), (.int (0 : Int32)), (.int (0 : Int32)), (.int (0 : Int32)), (.int (0 : Int32)), (.int (0 : Int32))] := A182
    refine Go.astore (pc' := 87) W179 #[.val (.int aa), .val (.int bb), .val (.int cc), .val (.int mm), .val (.int (2 : Int32)), .unset, .val (.ref a180), .unset] d_code_85 rfl rfl rfl ?_
    refine Go.aload (pc' := 89) W179 d_code_87 rfl rfl rfl ?_
    refine Go.iconst (pc' := 90) W179 (0 : Int32) d_code_89 (by decide) rfl ?_
    refine Go.iloadN (pc' := 91) W179 d_code_90 rfl rfl ?_
    by_cases h183 : (aa &&& (1 : Int32)) = 0
    · refine Go.static (pc' := 94) W179 (rm_pb_A G a180 c181 (0 : Int32) (0 : Int32) (0 : Int32) (0 : Int32) (0 : Int32) (0 : Int32) aa A182 h183) (w_1 G) (w_2 G) (w_3 G) (w_4 G) (by decide) [0] [] (σf := []) rfl rfl [(.ref a180), (.int (0 : Int32)), (.int aa)] [] rfl (lenOf pd_28 rfl) rfl rfl d_code_91 rfl (by first | exact Nat.le_of_ble_eq_true rfl | (simp; done) | (simp; omega) | omega) (by first | exact Nat.le_of_ble_eq_true rfl | (simp; done) | (simp; omega) | omega) (by first | exact Nat.le_of_ble_eq_true rfl | (simp; done) | (simp; omega) | omega) (by first | exact Nat.le_of_ble_eq_true rfl | (simp; done) | (simp; omega) | omega) ?_
      rintro _ _ _ T190 ⟨c184, y185, rfl, rfl, rfl, h186, A187⟩ W191
      replace W191 : Wk l Z EL1 ({ frames := 9, cells := 24, slots := 2752, locals := 208 } : Room) "com/example/hermit_crab/hermitcrab/LockOptionsCheckNamePinLaw" code 8 (some .boolean) "law" X [(a180, c184)] [] T190 1 (6) := W191
      show Go Z EL1 _ _ _ X T190 94 #[.val (.int aa), .val (.int bb), .val (.int cc), .val (.int mm), .val (.int (2 : Int32)), .unset, .val (.ref a180), .unset] [(.int (1 : Int32))]
      refine Go.istore (pc' := 96) W191 #[.val (.int aa), .val (.int bb), .val (.int cc), .val (.int mm), .val (.int (2 : Int32)), .unset, .val (.ref a180), .val (.int (1 : Int32))] d_code_94 rfl rfl ?_
      refine Go.iload (pc' := 98) W191 d_code_96 rfl rfl ?_
      refine Go.iconst (pc' := 99) W191 (1 : Int32) d_code_98 (by decide) rfl ?_
      refine Go.icmp_lt (pc' := 102) W191 112 d_code_99 (by decide) rfl (fun q => absurd q (by decide)) (fun _ => ?_)
      refine Go.aload (pc' := 104) W191 d_code_102 rfl rfl rfl ?_
      refine Go.iload (pc' := 106) W191 d_code_104 rfl rfl ?_
      refine Go.iloadN (pc' := 107) W191 d_code_106 rfl rfl ?_
      by_cases h192 : (bb &&& (1 : Int32)) = 0
      · refine Go.static (pc' := 110) W191 (rm_pb_B G a180 c184 y185 (0 : Int32) (0 : Int32) (0 : Int32) (0 : Int32) (0 : Int32) bb A187 h192) (w_1 G) (w_2 G) (w_3 G) (w_4 G) (by decide) [0] [] (σf := []) rfl rfl [(.ref a180), (.int (1 : Int32)), (.int bb)] [] rfl (lenOf pd_28 rfl) rfl rfl d_code_107 rfl (by first | exact Nat.le_of_ble_eq_true rfl | (simp; done) | (simp; omega) | omega) (by first | exact Nat.le_of_ble_eq_true rfl | (simp; done) | (simp; omega) | omega) (by first | exact Nat.le_of_ble_eq_true rfl | (simp; done) | (simp; omega) | omega) (by first | exact Nat.le_of_ble_eq_true rfl | (simp; done) | (simp; omega) | omega) ?_
        rintro _ _ _ T199 ⟨c193, y194, rfl, rfl, rfl, h195, A196⟩ W200
        replace W200 : Wk l Z EL1 ({ frames := 9, cells := 24, slots := 2752, locals := 208 } : Room) "com/example/hermit_crab/hermitcrab/LockOptionsCheckNamePinLaw" code 8 (some .boolean) "law" X [(a180, c193)] [] T199 1 (6) := W200
        show Go Z EL1 _ _ _ X T199 110 #[.val (.int aa), .val (.int bb), .val (.int cc), .val (.int mm), .val (.int (2 : Int32)), .unset, .val (.ref a180), .val (.int (1 : Int32))] [(.int (2 : Int32))]
        refine Go.istore (pc' := 112) W200 #[.val (.int aa), .val (.int bb), .val (.int cc), .val (.int mm), .val (.int (2 : Int32)), .unset, .val (.ref a180), .val (.int (2 : Int32))] d_code_110 rfl rfl ?_
        refine Go.iload (pc' := 114) W200 d_code_112 rfl rfl ?_
        refine Go.iconst (pc' := 115) W200 (2 : Int32) d_code_114 (by decide) rfl ?_
        refine Go.icmp_lt (pc' := 118) W200 128 d_code_115 (by decide) rfl (fun q => absurd q (by decide)) (fun _ => ?_)
        refine Go.aload (pc' := 120) W200 d_code_118 rfl rfl rfl ?_
        refine Go.iload (pc' := 122) W200 d_code_120 rfl rfl ?_
        refine Go.iloadN (pc' := 123) W200 d_code_122 rfl rfl ?_
        by_cases h201 : (cc &&& (1 : Int32)) = 0
        · refine Go.static (pc' := 126) W200 (rm_pb_C G a180 c193 y185 y194 (0 : Int32) (0 : Int32) (0 : Int32) (0 : Int32) cc A196 h201) (w_1 G) (w_2 G) (w_3 G) (w_4 G) (by decide) [0] [] (σf := []) rfl rfl [(.ref a180), (.int (2 : Int32)), (.int cc)] [] rfl (lenOf pd_28 rfl) rfl rfl d_code_123 rfl (by first | exact Nat.le_of_ble_eq_true rfl | (simp; done) | (simp; omega) | omega) (by first | exact Nat.le_of_ble_eq_true rfl | (simp; done) | (simp; omega) | omega) (by first | exact Nat.le_of_ble_eq_true rfl | (simp; done) | (simp; omega) | omega) (by first | exact Nat.le_of_ble_eq_true rfl | (simp; done) | (simp; omega) | omega) ?_
          rintro _ _ _ T208 ⟨c202, y203, rfl, rfl, rfl, h204, A205⟩ W209
          replace W209 : Wk l Z EL1 ({ frames := 9, cells := 24, slots := 2752, locals := 208 } : Room) "com/example/hermit_crab/hermitcrab/LockOptionsCheckNamePinLaw" code 8 (some .boolean) "law" X [(a180, c202)] [] T208 1 (6) := W209
          show Go Z EL1 _ _ _ X T208 126 #[.val (.int aa), .val (.int bb), .val (.int cc), .val (.int mm), .val (.int (2 : Int32)), .unset, .val (.ref a180), .val (.int (2 : Int32))] [(.int (3 : Int32))]
          refine Go.istore (pc' := 128) W209 #[.val (.int aa), .val (.int bb), .val (.int cc), .val (.int mm), .val (.int (2 : Int32)), .unset, .val (.ref a180), .val (.int (3 : Int32))] d_code_126 rfl rfl ?_
          refine Go.iload (pc' := 130) W209 d_code_128 rfl rfl ?_
          refine Go.newarr (pc' := 132) W209 .char rfl 3 (w_0 G) d_code_130 rfl (by decide) (by decide) (by decide) (by first | exact Nat.le_of_ble_eq_true rfl | (simp; done) | (simp; omega) | omega) (by first | exact Nat.le_of_ble_eq_true rfl | (simp; done) | (simp; omega) | omega) (fun T210 a212 c213 W211 A214 => ?_)
          replace W211 : Wk l Z EL1 ({ frames := 9, cells := 24, slots := 2752, locals := 208 } : Room) "com/example/hermit_crab/hermitcrab/LockOptionsCheckNamePinLaw" code 8 (some .boolean) "law" X [(a212, c213), (a180, c202)] [] T210 2 (9) := W211
          replace A214 : ArrC Z c213 .char [(.int (0 : Int32)), (.int (0 : Int32)), (.int (0 : Int32))] := A214
          refine Go.astore (pc' := 134) W211 #[.val (.int aa), .val (.int bb), .val (.int cc), .val (.int mm), .val (.int (2 : Int32)), .val (.ref a212), .val (.ref a180), .val (.int (3 : Int32))] d_code_132 rfl rfl rfl ?_
          refine Go.iload (pc' := 136) W211 d_code_134 rfl rfl ?_
          refine Go.if_le (pc' := 139) W211 147 d_code_136 (by decide) rfl (fun q => absurd (by decide) q) (fun _ => ?_)
          refine Go.aload (pc' := 141) W211 d_code_139 rfl rfl rfl ?_
          refine Go.iconst (pc' := 142) W211 (0 : Int32) d_code_141 (by decide) rfl ?_
          refine Go.aload (pc' := 144) W211 d_code_142 rfl rfl rfl ?_
          refine Go.iconst (pc' := 145) W211 (0 : Int32) d_code_144 (by decide) rfl ?_
          refine Go.caload (pc' := 146) W211 (Or.inl (List.mem_of_getElem? (i := 1) rfl)) A205 0 (by decide) (by decide) rfl d_code_145 rfl ?_
          refine Go.castore (pc' := 147) W211 0 rfl A214 0 y185 (nar_char_id h186.1) (by decide) (by decide) (by simp) d_code_146 rfl (fun T215 c217 W216 A218 => ?_)
          replace W216 : Wk l Z EL1 ({ frames := 9, cells := 24, slots := 2752, locals := 208 } : Room) "com/example/hermit_crab/hermitcrab/LockOptionsCheckNamePinLaw" code 8 (some .boolean) "law" X [(a212, c217), (a180, c202)] [] T215 2 (9) := W216
          replace A218 : ArrC Z c217 .char [(.int y185), (.int (0 : Int32)), (.int (0 : Int32))] := A218
          refine Go.iload (pc' := 149) W216 d_code_147 rfl rfl ?_
          refine Go.iconst (pc' := 150) W216 (1 : Int32) d_code_149 (by decide) rfl ?_
          refine Go.icmp_le (pc' := 153) W216 161 d_code_150 (by decide) rfl (fun q => absurd (by decide) q) (fun _ => ?_)
          refine Go.aload (pc' := 155) W216 d_code_153 rfl rfl rfl ?_
          refine Go.iconst (pc' := 156) W216 (1 : Int32) d_code_155 (by decide) rfl ?_
          refine Go.aload (pc' := 158) W216 d_code_156 rfl rfl rfl ?_
          refine Go.iconst (pc' := 159) W216 (1 : Int32) d_code_158 (by decide) rfl ?_
          refine Go.caload (pc' := 160) W216 (Or.inl (List.mem_of_getElem? (i := 1) rfl)) A205 1 (by decide) (by decide) rfl d_code_159 rfl ?_
          refine Go.castore (pc' := 161) W216 0 rfl A218 1 y194 (nar_char_id h195.1) (by decide) (by decide) (by simp) d_code_160 rfl (fun T219 c221 W220 A222 => ?_)
          replace W220 : Wk l Z EL1 ({ frames := 9, cells := 24, slots := 2752, locals := 208 } : Room) "com/example/hermit_crab/hermitcrab/LockOptionsCheckNamePinLaw" code 8 (some .boolean) "law" X [(a212, c221), (a180, c202)] [] T219 2 (9) := W220
          replace A222 : ArrC Z c221 .char [(.int y185), (.int y194), (.int (0 : Int32))] := A222
          refine Go.iload (pc' := 163) W220 d_code_161 rfl rfl ?_
          refine Go.iconst (pc' := 164) W220 (2 : Int32) d_code_163 (by decide) rfl ?_
          refine Go.icmp_le (pc' := 167) W220 175 d_code_164 (by decide) rfl (fun q => absurd (by decide) q) (fun _ => ?_)
          refine Go.aload (pc' := 169) W220 d_code_167 rfl rfl rfl ?_
          refine Go.iconst (pc' := 170) W220 (2 : Int32) d_code_169 (by decide) rfl ?_
          refine Go.aload (pc' := 172) W220 d_code_170 rfl rfl rfl ?_
          refine Go.iconst (pc' := 173) W220 (2 : Int32) d_code_172 (by decide) rfl ?_
          refine Go.caload (pc' := 174) W220 (Or.inl (List.mem_of_getElem? (i := 1) rfl)) A205 2 (by decide) (by decide) rfl d_code_173 rfl ?_
          refine Go.castore (pc' := 175) W220 0 rfl A222 2 y203 (nar_char_id h204.1) (by decide) (by decide) (by simp) d_code_174 rfl (fun T223 c225 W224 A226 => ?_)
          replace W224 : Wk l Z EL1 ({ frames := 9, cells := 24, slots := 2752, locals := 208 } : Room) "com/example/hermit_crab/hermitcrab/LockOptionsCheckNamePinLaw" code 8 (some .boolean) "law" X [(a212, c225), (a180, c202)] [] T223 2 (9) := W224
          replace A226 : ArrC Z c225 .char [(.int y185), (.int y194), (.int y203)] := A226
          refine Go.iload (pc' := 177) W224 d_code_175 rfl rfl ?_
          refine Go.iconst (pc' := 178) W224 (3 : Int32) d_code_177 (by decide) rfl ?_
          refine Go.icmp_le (pc' := 181) W224 189 d_code_178 (by decide) rfl (fun _ => ?_) (fun q => absurd q (by decide))
          refine Go.iload (pc' := 191) W224 d_code_189 rfl rfl ?_
          refine Go.iconst (pc' := 192) W224 (4 : Int32) d_code_191 (by decide) rfl ?_
          refine Go.icmp_le (pc' := 195) W224 203 d_code_192 (by decide) rfl (fun _ => ?_) (fun q => absurd q (by decide))
          refine Go.iload (pc' := 205) W224 d_code_203 rfl rfl ?_
          refine Go.iconst (pc' := 206) W224 (5 : Int32) d_code_205 (by decide) rfl ?_
          refine Go.icmp_le (pc' := 209) W224 217 d_code_206 (by decide) rfl (fun _ => ?_) (fun q => absurd q (by decide))
          have W227 := W224.drop [1] (σi := [(a180, c202)]) (σf := [(a212, c225)]) rfl
          replace W227 : Wk l Z EL1 ({ frames := 9, cells := 24, slots := 2752, locals := 208 } : Room) "com/example/hermit_crab/hermitcrab/LockOptionsCheckNamePinLaw" code 8 (some .boolean) "law" X [(a212, c225)] [] T223 2 (9) := W227
          exact rm_tail_B G aa bb cc mm a212 c225 [y185, y194, y203] A226 3 (Wf.b h186 (Wf.b h195 (Wf.b h204 (rfl : Wf 0 [])))) (by decide) (by decide) (2 : Int32) a180 (3 : Int32) (W227.more (by first | exact Nat.le_of_ble_eq_true rfl | (simp; done) | (simp; omega) | omega) (by first | exact Nat.le_of_ble_eq_true rfl | (simp; done) | (simp; omega) | omega))
        · refine Go.static (pc' := 126) W200 (rm_pp_C G a180 c193 y185 y194 (0 : Int32) (0 : Int32) (0 : Int32) (0 : Int32) cc A196 h201) (w_1 G) (w_2 G) (w_3 G) (w_4 G) (by decide) [0] [] (σf := []) rfl rfl [(.ref a180), (.int (2 : Int32)), (.int cc)] [] rfl (lenOf pd_28 rfl) rfl rfl d_code_123 rfl (by first | exact Nat.le_of_ble_eq_true rfl | (simp; done) | (simp; omega) | omega) (by first | exact Nat.le_of_ble_eq_true rfl | (simp; done) | (simp; omega) | omega) (by first | exact Nat.le_of_ble_eq_true rfl | (simp; done) | (simp; omega) | omega) (by first | exact Nat.le_of_ble_eq_true rfl | (simp; done) | (simp; omega) | omega) ?_
          rintro _ _ _ T234 ⟨c228, y229, z232, rfl, rfl, rfl, h230, h233, A231⟩ W235
          replace W235 : Wk l Z EL1 ({ frames := 9, cells := 24, slots := 2752, locals := 208 } : Room) "com/example/hermit_crab/hermitcrab/LockOptionsCheckNamePinLaw" code 8 (some .boolean) "law" X [(a180, c228)] [] T234 1 (6) := W235
          show Go Z EL1 _ _ _ X T234 126 #[.val (.int aa), .val (.int bb), .val (.int cc), .val (.int mm), .val (.int (2 : Int32)), .unset, .val (.ref a180), .val (.int (2 : Int32))] [(.int (4 : Int32))]
          refine Go.istore (pc' := 128) W235 #[.val (.int aa), .val (.int bb), .val (.int cc), .val (.int mm), .val (.int (2 : Int32)), .unset, .val (.ref a180), .val (.int (4 : Int32))] d_code_126 rfl rfl ?_
          refine Go.iload (pc' := 130) W235 d_code_128 rfl rfl ?_
          refine Go.newarr (pc' := 132) W235 .char rfl 4 (w_0 G) d_code_130 rfl (by decide) (by decide) (by decide) (by first | exact Nat.le_of_ble_eq_true rfl | (simp; done) | (simp; omega) | omega) (by first | exact Nat.le_of_ble_eq_true rfl | (simp; done) | (simp; omega) | omega) (fun T236 a238 c239 W237 A240 => ?_)
          replace W237 : Wk l Z EL1 ({ frames := 9, cells := 24, slots := 2752, locals := 208 } : Room) "com/example/hermit_crab/hermitcrab/LockOptionsCheckNamePinLaw" code 8 (some .boolean) "law" X [(a238, c239), (a180, c228)] [] T236 2 (10) := W237
          replace A240 : ArrC Z c239 .char [(.int (0 : Int32)), (.int (0 : Int32)), (.int (0 : Int32)), (.int (0 : Int32))] := A240
          refine Go.astore (pc' := 134) W237 #[.val (.int aa), .val (.int bb), .val (.int cc), .val (.int mm), .val (.int (2 : Int32)), .val (.ref a238), .val (.ref a180), .val (.int (4 : Int32))] d_code_132 rfl rfl rfl ?_
          refine Go.iload (pc' := 136) W237 d_code_134 rfl rfl ?_
          refine Go.if_le (pc' := 139) W237 147 d_code_136 (by decide) rfl (fun q => absurd (by decide) q) (fun _ => ?_)
          refine Go.aload (pc' := 141) W237 d_code_139 rfl rfl rfl ?_
          refine Go.iconst (pc' := 142) W237 (0 : Int32) d_code_141 (by decide) rfl ?_
          refine Go.aload (pc' := 144) W237 d_code_142 rfl rfl rfl ?_
          refine Go.iconst (pc' := 145) W237 (0 : Int32) d_code_144 (by decide) rfl ?_
          refine Go.caload (pc' := 146) W237 (Or.inl (List.mem_of_getElem? (i := 1) rfl)) A231 0 (by decide) (by decide) rfl d_code_145 rfl ?_
          refine Go.castore (pc' := 147) W237 0 rfl A240 0 y185 (nar_char_id h186.1) (by decide) (by decide) (by simp) d_code_146 rfl (fun T241 c243 W242 A244 => ?_)
          replace W242 : Wk l Z EL1 ({ frames := 9, cells := 24, slots := 2752, locals := 208 } : Room) "com/example/hermit_crab/hermitcrab/LockOptionsCheckNamePinLaw" code 8 (some .boolean) "law" X [(a238, c243), (a180, c228)] [] T241 2 (10) := W242
          replace A244 : ArrC Z c243 .char [(.int y185), (.int (0 : Int32)), (.int (0 : Int32)), (.int (0 : Int32))] := A244
          refine Go.iload (pc' := 149) W242 d_code_147 rfl rfl ?_
          refine Go.iconst (pc' := 150) W242 (1 : Int32) d_code_149 (by decide) rfl ?_
          refine Go.icmp_le (pc' := 153) W242 161 d_code_150 (by decide) rfl (fun q => absurd (by decide) q) (fun _ => ?_)
          refine Go.aload (pc' := 155) W242 d_code_153 rfl rfl rfl ?_
          refine Go.iconst (pc' := 156) W242 (1 : Int32) d_code_155 (by decide) rfl ?_
          refine Go.aload (pc' := 158) W242 d_code_156 rfl rfl rfl ?_
          refine Go.iconst (pc' := 159) W242 (1 : Int32) d_code_158 (by decide) rfl ?_
          refine Go.caload (pc' := 160) W242 (Or.inl (List.mem_of_getElem? (i := 1) rfl)) A231 1 (by decide) (by decide) rfl d_code_159 rfl ?_
          refine Go.castore (pc' := 161) W242 0 rfl A244 1 y194 (nar_char_id h195.1) (by decide) (by decide) (by simp) d_code_160 rfl (fun T245 c247 W246 A248 => ?_)
          replace W246 : Wk l Z EL1 ({ frames := 9, cells := 24, slots := 2752, locals := 208 } : Room) "com/example/hermit_crab/hermitcrab/LockOptionsCheckNamePinLaw" code 8 (some .boolean) "law" X [(a238, c247), (a180, c228)] [] T245 2 (10) := W246
          replace A248 : ArrC Z c247 .char [(.int y185), (.int y194), (.int (0 : Int32)), (.int (0 : Int32))] := A248
          refine Go.iload (pc' := 163) W246 d_code_161 rfl rfl ?_
          refine Go.iconst (pc' := 164) W246 (2 : Int32) d_code_163 (by decide) rfl ?_
          refine Go.icmp_le (pc' := 167) W246 175 d_code_164 (by decide) rfl (fun q => absurd (by decide) q) (fun _ => ?_)
          refine Go.aload (pc' := 169) W246 d_code_167 rfl rfl rfl ?_
          refine Go.iconst (pc' := 170) W246 (2 : Int32) d_code_169 (by decide) rfl ?_
          refine Go.aload (pc' := 172) W246 d_code_170 rfl rfl rfl ?_
          refine Go.iconst (pc' := 173) W246 (2 : Int32) d_code_172 (by decide) rfl ?_
          refine Go.caload (pc' := 174) W246 (Or.inl (List.mem_of_getElem? (i := 1) rfl)) A231 2 (by decide) (by decide) rfl d_code_173 rfl ?_
          refine Go.castore (pc' := 175) W246 0 rfl A248 2 y229 (nar_char_id h230.chr) (by decide) (by decide) (by simp) d_code_174 rfl (fun T249 c251 W250 A252 => ?_)
          replace W250 : Wk l Z EL1 ({ frames := 9, cells := 24, slots := 2752, locals := 208 } : Room) "com/example/hermit_crab/hermitcrab/LockOptionsCheckNamePinLaw" code 8 (some .boolean) "law" X [(a238, c251), (a180, c228)] [] T249 2 (10) := W250
          replace A252 : ArrC Z c251 .char [(.int y185), (.int y194), (.int y229), (.int (0 : Int32))] := A252
          refine Go.iload (pc' := 177) W250 d_code_175 rfl rfl ?_
          refine Go.iconst (pc' := 178) W250 (3 : Int32) d_code_177 (by decide) rfl ?_
          refine Go.icmp_le (pc' := 181) W250 189 d_code_178 (by decide) rfl (fun q => absurd (by decide) q) (fun _ => ?_)
          refine Go.aload (pc' := 183) W250 d_code_181 rfl rfl rfl ?_
          refine Go.iconst (pc' := 184) W250 (3 : Int32) d_code_183 (by decide) rfl ?_
          refine Go.aload (pc' := 186) W250 d_code_184 rfl rfl rfl ?_
          refine Go.iconst (pc' := 187) W250 (3 : Int32) d_code_186 (by decide) rfl ?_
          refine Go.caload (pc' := 188) W250 (Or.inl (List.mem_of_getElem? (i := 1) rfl)) A231 3 (by decide) (by decide) rfl d_code_187 rfl ?_
          refine Go.castore (pc' := 189) W250 0 rfl A252 3 z232 (nar_char_id h233.chr) (by decide) (by decide) (by simp) d_code_188 rfl (fun T253 c255 W254 A256 => ?_)
          replace W254 : Wk l Z EL1 ({ frames := 9, cells := 24, slots := 2752, locals := 208 } : Room) "com/example/hermit_crab/hermitcrab/LockOptionsCheckNamePinLaw" code 8 (some .boolean) "law" X [(a238, c255), (a180, c228)] [] T253 2 (10) := W254
          replace A256 : ArrC Z c255 .char [(.int y185), (.int y194), (.int y229), (.int z232)] := A256
          refine Go.iload (pc' := 191) W254 d_code_189 rfl rfl ?_
          refine Go.iconst (pc' := 192) W254 (4 : Int32) d_code_191 (by decide) rfl ?_
          refine Go.icmp_le (pc' := 195) W254 203 d_code_192 (by decide) rfl (fun _ => ?_) (fun q => absurd q (by decide))
          refine Go.iload (pc' := 205) W254 d_code_203 rfl rfl ?_
          refine Go.iconst (pc' := 206) W254 (5 : Int32) d_code_205 (by decide) rfl ?_
          refine Go.icmp_le (pc' := 209) W254 217 d_code_206 (by decide) rfl (fun _ => ?_) (fun q => absurd q (by decide))
          have W257 := W254.drop [1] (σi := [(a180, c228)]) (σf := [(a238, c255)]) rfl
          replace W257 : Wk l Z EL1 ({ frames := 9, cells := 24, slots := 2752, locals := 208 } : Room) "com/example/hermit_crab/hermitcrab/LockOptionsCheckNamePinLaw" code 8 (some .boolean) "law" X [(a238, c255)] [] T253 2 (10) := W257
          exact rm_tail_B G aa bb cc mm a238 c255 [y185, y194, y229, z232] A256 3 (Wf.b h186 (Wf.b h195 (Wf.p h230 h233 (rfl : Wf 0 [])))) (by decide) (by decide) (2 : Int32) a180 (4 : Int32) (W257.more (by first | exact Nat.le_of_ble_eq_true rfl | (simp; done) | (simp; omega) | omega) (by first | exact Nat.le_of_ble_eq_true rfl | (simp; done) | (simp; omega) | omega))
      · refine Go.static (pc' := 110) W191 (rm_pp_B G a180 c184 y185 (0 : Int32) (0 : Int32) (0 : Int32) (0 : Int32) (0 : Int32) bb A187 h192) (w_1 G) (w_2 G) (w_3 G) (w_4 G) (by decide) [0] [] (σf := []) rfl rfl [(.ref a180), (.int (1 : Int32)), (.int bb)] [] rfl (lenOf pd_28 rfl) rfl rfl d_code_107 rfl (by first | exact Nat.le_of_ble_eq_true rfl | (simp; done) | (simp; omega) | omega) (by first | exact Nat.le_of_ble_eq_true rfl | (simp; done) | (simp; omega) | omega) (by first | exact Nat.le_of_ble_eq_true rfl | (simp; done) | (simp; omega) | omega) (by first | exact Nat.le_of_ble_eq_true rfl | (simp; done) | (simp; omega) | omega) ?_
        rintro _ _ _ T264 ⟨c258, y259, z262, rfl, rfl, rfl, h260, h263, A261⟩ W265
        replace W265 : Wk l Z EL1 ({ frames := 9, cells := 24, slots := 2752, locals := 208 } : Room) "com/example/hermit_crab/hermitcrab/LockOptionsCheckNamePinLaw" code 8 (some .boolean) "law" X [(a180, c258)] [] T264 1 (6) := W265
        show Go Z EL1 _ _ _ X T264 110 #[.val (.int aa), .val (.int bb), .val (.int cc), .val (.int mm), .val (.int (2 : Int32)), .unset, .val (.ref a180), .val (.int (1 : Int32))] [(.int (3 : Int32))]
        refine Go.istore (pc' := 112) W265 #[.val (.int aa), .val (.int bb), .val (.int cc), .val (.int mm), .val (.int (2 : Int32)), .unset, .val (.ref a180), .val (.int (3 : Int32))] d_code_110 rfl rfl ?_
        refine Go.iload (pc' := 114) W265 d_code_112 rfl rfl ?_
        refine Go.iconst (pc' := 115) W265 (2 : Int32) d_code_114 (by decide) rfl ?_
        refine Go.icmp_lt (pc' := 118) W265 128 d_code_115 (by decide) rfl (fun q => absurd q (by decide)) (fun _ => ?_)
        refine Go.aload (pc' := 120) W265 d_code_118 rfl rfl rfl ?_
        refine Go.iload (pc' := 122) W265 d_code_120 rfl rfl ?_
        refine Go.iloadN (pc' := 123) W265 d_code_122 rfl rfl ?_
        by_cases h266 : (cc &&& (1 : Int32)) = 0
        · refine Go.static (pc' := 126) W265 (rm_pb_D G a180 c258 y185 y259 z262 (0 : Int32) (0 : Int32) (0 : Int32) cc A261 h266) (w_1 G) (w_2 G) (w_3 G) (w_4 G) (by decide) [0] [] (σf := []) rfl rfl [(.ref a180), (.int (3 : Int32)), (.int cc)] [] rfl (lenOf pd_28 rfl) rfl rfl d_code_123 rfl (by first | exact Nat.le_of_ble_eq_true rfl | (simp; done) | (simp; omega) | omega) (by first | exact Nat.le_of_ble_eq_true rfl | (simp; done) | (simp; omega) | omega) (by first | exact Nat.le_of_ble_eq_true rfl | (simp; done) | (simp; omega) | omega) (by first | exact Nat.le_of_ble_eq_true rfl | (simp; done) | (simp; omega) | omega) ?_
          rintro _ _ _ T273 ⟨c267, y268, rfl, rfl, rfl, h269, A270⟩ W274
          replace W274 : Wk l Z EL1 ({ frames := 9, cells := 24, slots := 2752, locals := 208 } : Room) "com/example/hermit_crab/hermitcrab/LockOptionsCheckNamePinLaw" code 8 (some .boolean) "law" X [(a180, c267)] [] T273 1 (6) := W274
          show Go Z EL1 _ _ _ X T273 126 #[.val (.int aa), .val (.int bb), .val (.int cc), .val (.int mm), .val (.int (2 : Int32)), .unset, .val (.ref a180), .val (.int (3 : Int32))] [(.int (4 : Int32))]
          refine Go.istore (pc' := 128) W274 #[.val (.int aa), .val (.int bb), .val (.int cc), .val (.int mm), .val (.int (2 : Int32)), .unset, .val (.ref a180), .val (.int (4 : Int32))] d_code_126 rfl rfl ?_
          refine Go.iload (pc' := 130) W274 d_code_128 rfl rfl ?_
          refine Go.newarr (pc' := 132) W274 .char rfl 4 (w_0 G) d_code_130 rfl (by decide) (by decide) (by decide) (by first | exact Nat.le_of_ble_eq_true rfl | (simp; done) | (simp; omega) | omega) (by first | exact Nat.le_of_ble_eq_true rfl | (simp; done) | (simp; omega) | omega) (fun T275 a277 c278 W276 A279 => ?_)
          replace W276 : Wk l Z EL1 ({ frames := 9, cells := 24, slots := 2752, locals := 208 } : Room) "com/example/hermit_crab/hermitcrab/LockOptionsCheckNamePinLaw" code 8 (some .boolean) "law" X [(a277, c278), (a180, c267)] [] T275 2 (10) := W276
          replace A279 : ArrC Z c278 .char [(.int (0 : Int32)), (.int (0 : Int32)), (.int (0 : Int32)), (.int (0 : Int32))] := A279
          refine Go.astore (pc' := 134) W276 #[.val (.int aa), .val (.int bb), .val (.int cc), .val (.int mm), .val (.int (2 : Int32)), .val (.ref a277), .val (.ref a180), .val (.int (4 : Int32))] d_code_132 rfl rfl rfl ?_
          refine Go.iload (pc' := 136) W276 d_code_134 rfl rfl ?_
          refine Go.if_le (pc' := 139) W276 147 d_code_136 (by decide) rfl (fun q => absurd (by decide) q) (fun _ => ?_)
          refine Go.aload (pc' := 141) W276 d_code_139 rfl rfl rfl ?_
          refine Go.iconst (pc' := 142) W276 (0 : Int32) d_code_141 (by decide) rfl ?_
          refine Go.aload (pc' := 144) W276 d_code_142 rfl rfl rfl ?_
          refine Go.iconst (pc' := 145) W276 (0 : Int32) d_code_144 (by decide) rfl ?_
          refine Go.caload (pc' := 146) W276 (Or.inl (List.mem_of_getElem? (i := 1) rfl)) A270 0 (by decide) (by decide) rfl d_code_145 rfl ?_
          refine Go.castore (pc' := 147) W276 0 rfl A279 0 y185 (nar_char_id h186.1) (by decide) (by decide) (by simp) d_code_146 rfl (fun T280 c282 W281 A283 => ?_)
          replace W281 : Wk l Z EL1 ({ frames := 9, cells := 24, slots := 2752, locals := 208 } : Room) "com/example/hermit_crab/hermitcrab/LockOptionsCheckNamePinLaw" code 8 (some .boolean) "law" X [(a277, c282), (a180, c267)] [] T280 2 (10) := W281
          replace A283 : ArrC Z c282 .char [(.int y185), (.int (0 : Int32)), (.int (0 : Int32)), (.int (0 : Int32))] := A283
          refine Go.iload (pc' := 149) W281 d_code_147 rfl rfl ?_
          refine Go.iconst (pc' := 150) W281 (1 : Int32) d_code_149 (by decide) rfl ?_
          refine Go.icmp_le (pc' := 153) W281 161 d_code_150 (by decide) rfl (fun q => absurd (by decide) q) (fun _ => ?_)
          refine Go.aload (pc' := 155) W281 d_code_153 rfl rfl rfl ?_
          refine Go.iconst (pc' := 156) W281 (1 : Int32) d_code_155 (by decide) rfl ?_
          refine Go.aload (pc' := 158) W281 d_code_156 rfl rfl rfl ?_
          refine Go.iconst (pc' := 159) W281 (1 : Int32) d_code_158 (by decide) rfl ?_
          refine Go.caload (pc' := 160) W281 (Or.inl (List.mem_of_getElem? (i := 1) rfl)) A270 1 (by decide) (by decide) rfl d_code_159 rfl ?_
          refine Go.castore (pc' := 161) W281 0 rfl A283 1 y259 (nar_char_id h260.chr) (by decide) (by decide) (by simp) d_code_160 rfl (fun T284 c286 W285 A287 => ?_)
          replace W285 : Wk l Z EL1 ({ frames := 9, cells := 24, slots := 2752, locals := 208 } : Room) "com/example/hermit_crab/hermitcrab/LockOptionsCheckNamePinLaw" code 8 (some .boolean) "law" X [(a277, c286), (a180, c267)] [] T284 2 (10) := W285
          replace A287 : ArrC Z c286 .char [(.int y185), (.int y259), (.int (0 : Int32)), (.int (0 : Int32))] := A287
          refine Go.iload (pc' := 163) W285 d_code_161 rfl rfl ?_
          refine Go.iconst (pc' := 164) W285 (2 : Int32) d_code_163 (by decide) rfl ?_
          refine Go.icmp_le (pc' := 167) W285 175 d_code_164 (by decide) rfl (fun q => absurd (by decide) q) (fun _ => ?_)
          refine Go.aload (pc' := 169) W285 d_code_167 rfl rfl rfl ?_
          refine Go.iconst (pc' := 170) W285 (2 : Int32) d_code_169 (by decide) rfl ?_
          refine Go.aload (pc' := 172) W285 d_code_170 rfl rfl rfl ?_
          refine Go.iconst (pc' := 173) W285 (2 : Int32) d_code_172 (by decide) rfl ?_
          refine Go.caload (pc' := 174) W285 (Or.inl (List.mem_of_getElem? (i := 1) rfl)) A270 2 (by decide) (by decide) rfl d_code_173 rfl ?_
          refine Go.castore (pc' := 175) W285 0 rfl A287 2 z262 (nar_char_id h263.chr) (by decide) (by decide) (by simp) d_code_174 rfl (fun T288 c290 W289 A291 => ?_)
          replace W289 : Wk l Z EL1 ({ frames := 9, cells := 24, slots := 2752, locals := 208 } : Room) "com/example/hermit_crab/hermitcrab/LockOptionsCheckNamePinLaw" code 8 (some .boolean) "law" X [(a277, c290), (a180, c267)] [] T288 2 (10) := W289
          replace A291 : ArrC Z c290 .char [(.int y185), (.int y259), (.int z262), (.int (0 : Int32))] := A291
          refine Go.iload (pc' := 177) W289 d_code_175 rfl rfl ?_
          refine Go.iconst (pc' := 178) W289 (3 : Int32) d_code_177 (by decide) rfl ?_
          refine Go.icmp_le (pc' := 181) W289 189 d_code_178 (by decide) rfl (fun q => absurd (by decide) q) (fun _ => ?_)
          refine Go.aload (pc' := 183) W289 d_code_181 rfl rfl rfl ?_
          refine Go.iconst (pc' := 184) W289 (3 : Int32) d_code_183 (by decide) rfl ?_
          refine Go.aload (pc' := 186) W289 d_code_184 rfl rfl rfl ?_
          refine Go.iconst (pc' := 187) W289 (3 : Int32) d_code_186 (by decide) rfl ?_
          refine Go.caload (pc' := 188) W289 (Or.inl (List.mem_of_getElem? (i := 1) rfl)) A270 3 (by decide) (by decide) rfl d_code_187 rfl ?_
          refine Go.castore (pc' := 189) W289 0 rfl A291 3 y268 (nar_char_id h269.1) (by decide) (by decide) (by simp) d_code_188 rfl (fun T292 c294 W293 A295 => ?_)
          replace W293 : Wk l Z EL1 ({ frames := 9, cells := 24, slots := 2752, locals := 208 } : Room) "com/example/hermit_crab/hermitcrab/LockOptionsCheckNamePinLaw" code 8 (some .boolean) "law" X [(a277, c294), (a180, c267)] [] T292 2 (10) := W293
          replace A295 : ArrC Z c294 .char [(.int y185), (.int y259), (.int z262), (.int y268)] := A295
          refine Go.iload (pc' := 191) W293 d_code_189 rfl rfl ?_
          refine Go.iconst (pc' := 192) W293 (4 : Int32) d_code_191 (by decide) rfl ?_
          refine Go.icmp_le (pc' := 195) W293 203 d_code_192 (by decide) rfl (fun _ => ?_) (fun q => absurd q (by decide))
          refine Go.iload (pc' := 205) W293 d_code_203 rfl rfl ?_
          refine Go.iconst (pc' := 206) W293 (5 : Int32) d_code_205 (by decide) rfl ?_
          refine Go.icmp_le (pc' := 209) W293 217 d_code_206 (by decide) rfl (fun _ => ?_) (fun q => absurd q (by decide))
          have W296 := W293.drop [1] (σi := [(a180, c267)]) (σf := [(a277, c294)]) rfl
          replace W296 : Wk l Z EL1 ({ frames := 9, cells := 24, slots := 2752, locals := 208 } : Room) "com/example/hermit_crab/hermitcrab/LockOptionsCheckNamePinLaw" code 8 (some .boolean) "law" X [(a277, c294)] [] T292 2 (10) := W296
          exact rm_tail_B G aa bb cc mm a277 c294 [y185, y259, z262, y268] A295 3 (Wf.b h186 (Wf.p h260 h263 (Wf.b h269 (rfl : Wf 0 [])))) (by decide) (by decide) (2 : Int32) a180 (4 : Int32) (W296.more (by first | exact Nat.le_of_ble_eq_true rfl | (simp; done) | (simp; omega) | omega) (by first | exact Nat.le_of_ble_eq_true rfl | (simp; done) | (simp; omega) | omega))
        · refine Go.static (pc' := 126) W265 (rm_pp_D G a180 c258 y185 y259 z262 (0 : Int32) (0 : Int32) (0 : Int32) cc A261 h266) (w_1 G) (w_2 G) (w_3 G) (w_4 G) (by decide) [0] [] (σf := []) rfl rfl [(.ref a180), (.int (3 : Int32)), (.int cc)] [] rfl (lenOf pd_28 rfl) rfl rfl d_code_123 rfl (by first | exact Nat.le_of_ble_eq_true rfl | (simp; done) | (simp; omega) | omega) (by first | exact Nat.le_of_ble_eq_true rfl | (simp; done) | (simp; omega) | omega) (by first | exact Nat.le_of_ble_eq_true rfl | (simp; done) | (simp; omega) | omega) (by first | exact Nat.le_of_ble_eq_true rfl | (simp; done) | (simp; omega) | omega) ?_
          rintro _ _ _ T303 ⟨c297, y298, z301, rfl, rfl, rfl, h299, h302, A300⟩ W304
          replace W304 : Wk l Z EL1 ({ frames := 9, cells := 24, slots := 2752, locals := 208 } : Room) "com/example/hermit_crab/hermitcrab/LockOptionsCheckNamePinLaw" code 8 (some .boolean) "law" X [(a180, c297)] [] T303 1 (6) := W304
          show Go Z EL1 _ _ _ X T303 126 #[.val (.int aa), .val (.int bb), .val (.int cc), .val (.int mm), .val (.int (2 : Int32)), .unset, .val (.ref a180), .val (.int (3 : Int32))] [(.int (5 : Int32))]
          refine Go.istore (pc' := 128) W304 #[.val (.int aa), .val (.int bb), .val (.int cc), .val (.int mm), .val (.int (2 : Int32)), .unset, .val (.ref a180), .val (.int (5 : Int32))] d_code_126 rfl rfl ?_
          refine Go.iload (pc' := 130) W304 d_code_128 rfl rfl ?_
          refine Go.newarr (pc' := 132) W304 .char rfl 5 (w_0 G) d_code_130 rfl (by decide) (by decide) (by decide) (by first | exact Nat.le_of_ble_eq_true rfl | (simp; done) | (simp; omega) | omega) (by first | exact Nat.le_of_ble_eq_true rfl | (simp; done) | (simp; omega) | omega) (fun T305 a307 c308 W306 A309 => ?_)
          replace W306 : Wk l Z EL1 ({ frames := 9, cells := 24, slots := 2752, locals := 208 } : Room) "com/example/hermit_crab/hermitcrab/LockOptionsCheckNamePinLaw" code 8 (some .boolean) "law" X [(a307, c308), (a180, c297)] [] T305 2 (11) := W306
          replace A309 : ArrC Z c308 .char [(.int (0 : Int32)), (.int (0 : Int32)), (.int (0 : Int32)), (.int (0 : Int32)), (.int (0 : Int32))] := A309
          refine Go.astore (pc' := 134) W306 #[.val (.int aa), .val (.int bb), .val (.int cc), .val (.int mm), .val (.int (2 : Int32)), .val (.ref a307), .val (.ref a180), .val (.int (5 : Int32))] d_code_132 rfl rfl rfl ?_
          refine Go.iload (pc' := 136) W306 d_code_134 rfl rfl ?_
          refine Go.if_le (pc' := 139) W306 147 d_code_136 (by decide) rfl (fun q => absurd (by decide) q) (fun _ => ?_)
          refine Go.aload (pc' := 141) W306 d_code_139 rfl rfl rfl ?_
          refine Go.iconst (pc' := 142) W306 (0 : Int32) d_code_141 (by decide) rfl ?_
          refine Go.aload (pc' := 144) W306 d_code_142 rfl rfl rfl ?_
          refine Go.iconst (pc' := 145) W306 (0 : Int32) d_code_144 (by decide) rfl ?_
          refine Go.caload (pc' := 146) W306 (Or.inl (List.mem_of_getElem? (i := 1) rfl)) A300 0 (by decide) (by decide) rfl d_code_145 rfl ?_
          refine Go.castore (pc' := 147) W306 0 rfl A309 0 y185 (nar_char_id h186.1) (by decide) (by decide) (by simp) d_code_146 rfl (fun T310 c312 W311 A313 => ?_)
          replace W311 : Wk l Z EL1 ({ frames := 9, cells := 24, slots := 2752, locals := 208 } : Room) "com/example/hermit_crab/hermitcrab/LockOptionsCheckNamePinLaw" code 8 (some .boolean) "law" X [(a307, c312), (a180, c297)] [] T310 2 (11) := W311
          replace A313 : ArrC Z c312 .char [(.int y185), (.int (0 : Int32)), (.int (0 : Int32)), (.int (0 : Int32)), (.int (0 : Int32))] := A313
          refine Go.iload (pc' := 149) W311 d_code_147 rfl rfl ?_
          refine Go.iconst (pc' := 150) W311 (1 : Int32) d_code_149 (by decide) rfl ?_
          refine Go.icmp_le (pc' := 153) W311 161 d_code_150 (by decide) rfl (fun q => absurd (by decide) q) (fun _ => ?_)
          refine Go.aload (pc' := 155) W311 d_code_153 rfl rfl rfl ?_
          refine Go.iconst (pc' := 156) W311 (1 : Int32) d_code_155 (by decide) rfl ?_
          refine Go.aload (pc' := 158) W311 d_code_156 rfl rfl rfl ?_
          refine Go.iconst (pc' := 159) W311 (1 : Int32) d_code_158 (by decide) rfl ?_
          refine Go.caload (pc' := 160) W311 (Or.inl (List.mem_of_getElem? (i := 1) rfl)) A300 1 (by decide) (by decide) rfl d_code_159 rfl ?_
          refine Go.castore (pc' := 161) W311 0 rfl A313 1 y259 (nar_char_id h260.chr) (by decide) (by decide) (by simp) d_code_160 rfl (fun T314 c316 W315 A317 => ?_)
          replace W315 : Wk l Z EL1 ({ frames := 9, cells := 24, slots := 2752, locals := 208 } : Room) "com/example/hermit_crab/hermitcrab/LockOptionsCheckNamePinLaw" code 8 (some .boolean) "law" X [(a307, c316), (a180, c297)] [] T314 2 (11) := W315
          replace A317 : ArrC Z c316 .char [(.int y185), (.int y259), (.int (0 : Int32)), (.int (0 : Int32)), (.int (0 : Int32))] := A317
          refine Go.iload (pc' := 163) W315 d_code_161 rfl rfl ?_
          refine Go.iconst (pc' := 164) W315 (2 : Int32) d_code_163 (by decide) rfl ?_
          refine Go.icmp_le (pc' := 167) W315 175 d_code_164 (by decide) rfl (fun q => absurd (by decide) q) (fun _ => ?_)
          refine Go.aload (pc' := 169) W315 d_code_167 rfl rfl rfl ?_
          refine Go.iconst (pc' := 170) W315 (2 : Int32) d_code_169 (by decide) rfl ?_
          refine Go.aload (pc' := 172) W315 d_code_170 rfl rfl rfl ?_
          refine Go.iconst (pc' := 173) W315 (2 : Int32) d_code_172 (by decide) rfl ?_
          refine Go.caload (pc' := 174) W315 (Or.inl (List.mem_of_getElem? (i := 1) rfl)) A300 2 (by decide) (by decide) rfl d_code_173 rfl ?_
          refine Go.castore (pc' := 175) W315 0 rfl A317 2 z262 (nar_char_id h263.chr) (by decide) (by decide) (by simp) d_code_174 rfl (fun T318 c320 W319 A321 => ?_)
          replace W319 : Wk l Z EL1 ({ frames := 9, cells := 24, slots := 2752, locals := 208 } : Room) "com/example/hermit_crab/hermitcrab/LockOptionsCheckNamePinLaw" code 8 (some .boolean) "law" X [(a307, c320), (a180, c297)] [] T318 2 (11) := W319
          replace A321 : ArrC Z c320 .char [(.int y185), (.int y259), (.int z262), (.int (0 : Int32)), (.int (0 : Int32))] := A321
          refine Go.iload (pc' := 177) W319 d_code_175 rfl rfl ?_
          refine Go.iconst (pc' := 178) W319 (3 : Int32) d_code_177 (by decide) rfl ?_
          refine Go.icmp_le (pc' := 181) W319 189 d_code_178 (by decide) rfl (fun q => absurd (by decide) q) (fun _ => ?_)
          refine Go.aload (pc' := 183) W319 d_code_181 rfl rfl rfl ?_
          refine Go.iconst (pc' := 184) W319 (3 : Int32) d_code_183 (by decide) rfl ?_
          refine Go.aload (pc' := 186) W319 d_code_184 rfl rfl rfl ?_
          refine Go.iconst (pc' := 187) W319 (3 : Int32) d_code_186 (by decide) rfl ?_
          refine Go.caload (pc' := 188) W319 (Or.inl (List.mem_of_getElem? (i := 1) rfl)) A300 3 (by decide) (by decide) rfl d_code_187 rfl ?_
          refine Go.castore (pc' := 189) W319 0 rfl A321 3 y298 (nar_char_id h299.chr) (by decide) (by decide) (by simp) d_code_188 rfl (fun T322 c324 W323 A325 => ?_)
          replace W323 : Wk l Z EL1 ({ frames := 9, cells := 24, slots := 2752, locals := 208 } : Room) "com/example/hermit_crab/hermitcrab/LockOptionsCheckNamePinLaw" code 8 (some .boolean) "law" X [(a307, c324), (a180, c297)] [] T322 2 (11) := W323
          replace A325 : ArrC Z c324 .char [(.int y185), (.int y259), (.int z262), (.int y298), (.int (0 : Int32))] := A325
          refine Go.iload (pc' := 191) W323 d_code_189 rfl rfl ?_
          refine Go.iconst (pc' := 192) W323 (4 : Int32) d_code_191 (by decide) rfl ?_
          refine Go.icmp_le (pc' := 195) W323 203 d_code_192 (by decide) rfl (fun q => absurd (by decide) q) (fun _ => ?_)
          refine Go.aload (pc' := 197) W323 d_code_195 rfl rfl rfl ?_
          refine Go.iconst (pc' := 198) W323 (4 : Int32) d_code_197 (by decide) rfl ?_
          refine Go.aload (pc' := 200) W323 d_code_198 rfl rfl rfl ?_
          refine Go.iconst (pc' := 201) W323 (4 : Int32) d_code_200 (by decide) rfl ?_
          refine Go.caload (pc' := 202) W323 (Or.inl (List.mem_of_getElem? (i := 1) rfl)) A300 4 (by decide) (by decide) rfl d_code_201 rfl ?_
          refine Go.castore (pc' := 203) W323 0 rfl A325 4 z301 (nar_char_id h302.chr) (by decide) (by decide) (by simp) d_code_202 rfl (fun T326 c328 W327 A329 => ?_)
          replace W327 : Wk l Z EL1 ({ frames := 9, cells := 24, slots := 2752, locals := 208 } : Room) "com/example/hermit_crab/hermitcrab/LockOptionsCheckNamePinLaw" code 8 (some .boolean) "law" X [(a307, c328), (a180, c297)] [] T326 2 (11) := W327
          replace A329 : ArrC Z c328 .char [(.int y185), (.int y259), (.int z262), (.int y298), (.int z301)] := A329
          refine Go.iload (pc' := 205) W327 d_code_203 rfl rfl ?_
          refine Go.iconst (pc' := 206) W327 (5 : Int32) d_code_205 (by decide) rfl ?_
          refine Go.icmp_le (pc' := 209) W327 217 d_code_206 (by decide) rfl (fun _ => ?_) (fun q => absurd q (by decide))
          have W330 := W327.drop [1] (σi := [(a180, c297)]) (σf := [(a307, c328)]) rfl
          replace W330 : Wk l Z EL1 ({ frames := 9, cells := 24, slots := 2752, locals := 208 } : Room) "com/example/hermit_crab/hermitcrab/LockOptionsCheckNamePinLaw" code 8 (some .boolean) "law" X [(a307, c328)] [] T326 2 (11) := W330
          exact rm_tail_B G aa bb cc mm a307 c328 [y185, y259, z262, y298, z301] A329 3 (Wf.b h186 (Wf.p h260 h263 (Wf.p h299 h302 (rfl : Wf 0 [])))) (by decide) (by decide) (2 : Int32) a180 (5 : Int32) (W330.more (by first | exact Nat.le_of_ble_eq_true rfl | (simp; done) | (simp; omega) | omega) (by first | exact Nat.le_of_ble_eq_true rfl | (simp; done) | (simp; omega) | omega))
    · refine Go.static (pc' := 94) W179 (rm_pp_A G a180 c181 (0 : Int32) (0 : Int32) (0 : Int32) (0 : Int32) (0 : Int32) (0 : Int32) aa A182 h183) (w_1 G) (w_2 G) (w_3 G) (w_4 G) (by decide) [0] [] (σf := []) rfl rfl [(.ref a180), (.int (0 : Int32)), (.int aa)] [] rfl (lenOf pd_28 rfl) rfl rfl d_code_91 rfl (by first | exact Nat.le_of_ble_eq_true rfl | (simp; done) | (simp; omega) | omega) (by first | exact Nat.le_of_ble_eq_true rfl | (simp; done) | (simp; omega) | omega) (by first | exact Nat.le_of_ble_eq_true rfl | (simp; done) | (simp; omega) | omega) (by first | exact Nat.le_of_ble_eq_true rfl | (simp; done) | (simp; omega) | omega) ?_
      rintro _ _ _ T337 ⟨c331, y332, z335, rfl, rfl, rfl, h333, h336, A334⟩ W338
      replace W338 : Wk l Z EL1 ({ frames := 9, cells := 24, slots := 2752, locals := 208 } : Room) "com/example/hermit_crab/hermitcrab/LockOptionsCheckNamePinLaw" code 8 (some .boolean) "law" X [(a180, c331)] [] T337 1 (6) := W338
      show Go Z EL1 _ _ _ X T337 94 #[.val (.int aa), .val (.int bb), .val (.int cc), .val (.int mm), .val (.int (2 : Int32)), .unset, .val (.ref a180), .unset] [(.int (2 : Int32))]
      refine Go.istore (pc' := 96) W338 #[.val (.int aa), .val (.int bb), .val (.int cc), .val (.int mm), .val (.int (2 : Int32)), .unset, .val (.ref a180), .val (.int (2 : Int32))] d_code_94 rfl rfl ?_
      refine Go.iload (pc' := 98) W338 d_code_96 rfl rfl ?_
      refine Go.iconst (pc' := 99) W338 (1 : Int32) d_code_98 (by decide) rfl ?_
      refine Go.icmp_lt (pc' := 102) W338 112 d_code_99 (by decide) rfl (fun q => absurd q (by decide)) (fun _ => ?_)
      refine Go.aload (pc' := 104) W338 d_code_102 rfl rfl rfl ?_
      refine Go.iload (pc' := 106) W338 d_code_104 rfl rfl ?_
      refine Go.iloadN (pc' := 107) W338 d_code_106 rfl rfl ?_
      by_cases h339 : (bb &&& (1 : Int32)) = 0
      · refine Go.static (pc' := 110) W338 (rm_pb_C G a180 c331 y332 z335 (0 : Int32) (0 : Int32) (0 : Int32) (0 : Int32) bb A334 h339) (w_1 G) (w_2 G) (w_3 G) (w_4 G) (by decide) [0] [] (σf := []) rfl rfl [(.ref a180), (.int (2 : Int32)), (.int bb)] [] rfl (lenOf pd_28 rfl) rfl rfl d_code_107 rfl (by first | exact Nat.le_of_ble_eq_true rfl | (simp; done) | (simp; omega) | omega) (by first | exact Nat.le_of_ble_eq_true rfl | (simp; done) | (simp; omega) | omega) (by first | exact Nat.le_of_ble_eq_true rfl | (simp; done) | (simp; omega) | omega) (by first | exact Nat.le_of_ble_eq_true rfl | (simp; done) | (simp; omega) | omega) ?_
        rintro _ _ _ T346 ⟨c340, y341, rfl, rfl, rfl, h342, A343⟩ W347
        replace W347 : Wk l Z EL1 ({ frames := 9, cells := 24, slots := 2752, locals := 208 } : Room) "com/example/hermit_crab/hermitcrab/LockOptionsCheckNamePinLaw" code 8 (some .boolean) "law" X [(a180, c340)] [] T346 1 (6) := W347
        show Go Z EL1 _ _ _ X T346 110 #[.val (.int aa), .val (.int bb), .val (.int cc), .val (.int mm), .val (.int (2 : Int32)), .unset, .val (.ref a180), .val (.int (2 : Int32))] [(.int (3 : Int32))]
        refine Go.istore (pc' := 112) W347 #[.val (.int aa), .val (.int bb), .val (.int cc), .val (.int mm), .val (.int (2 : Int32)), .unset, .val (.ref a180), .val (.int (3 : Int32))] d_code_110 rfl rfl ?_
        refine Go.iload (pc' := 114) W347 d_code_112 rfl rfl ?_
        refine Go.iconst (pc' := 115) W347 (2 : Int32) d_code_114 (by decide) rfl ?_
        refine Go.icmp_lt (pc' := 118) W347 128 d_code_115 (by decide) rfl (fun q => absurd q (by decide)) (fun _ => ?_)
        refine Go.aload (pc' := 120) W347 d_code_118 rfl rfl rfl ?_
        refine Go.iload (pc' := 122) W347 d_code_120 rfl rfl ?_
        refine Go.iloadN (pc' := 123) W347 d_code_122 rfl rfl ?_
        by_cases h348 : (cc &&& (1 : Int32)) = 0
        · refine Go.static (pc' := 126) W347 (rm_pb_D G a180 c340 y332 z335 y341 (0 : Int32) (0 : Int32) (0 : Int32) cc A343 h348) (w_1 G) (w_2 G) (w_3 G) (w_4 G) (by decide) [0] [] (σf := []) rfl rfl [(.ref a180), (.int (3 : Int32)), (.int cc)] [] rfl (lenOf pd_28 rfl) rfl rfl d_code_123 rfl (by first | exact Nat.le_of_ble_eq_true rfl | (simp; done) | (simp; omega) | omega) (by first | exact Nat.le_of_ble_eq_true rfl | (simp; done) | (simp; omega) | omega) (by first | exact Nat.le_of_ble_eq_true rfl | (simp; done) | (simp; omega) | omega) (by first | exact Nat.le_of_ble_eq_true rfl | (simp; done) | (simp; omega) | omega) ?_
          rintro _ _ _ T355 ⟨c349, y350, rfl, rfl, rfl, h351, A352⟩ W356
          replace W356 : Wk l Z EL1 ({ frames := 9, cells := 24, slots := 2752, locals := 208 } : Room) "com/example/hermit_crab/hermitcrab/LockOptionsCheckNamePinLaw" code 8 (some .boolean) "law" X [(a180, c349)] [] T355 1 (6) := W356
          show Go Z EL1 _ _ _ X T355 126 #[.val (.int aa), .val (.int bb), .val (.int cc), .val (.int mm), .val (.int (2 : Int32)), .unset, .val (.ref a180), .val (.int (3 : Int32))] [(.int (4 : Int32))]
          refine Go.istore (pc' := 128) W356 #[.val (.int aa), .val (.int bb), .val (.int cc), .val (.int mm), .val (.int (2 : Int32)), .unset, .val (.ref a180), .val (.int (4 : Int32))] d_code_126 rfl rfl ?_
          refine Go.iload (pc' := 130) W356 d_code_128 rfl rfl ?_
          refine Go.newarr (pc' := 132) W356 .char rfl 4 (w_0 G) d_code_130 rfl (by decide) (by decide) (by decide) (by first | exact Nat.le_of_ble_eq_true rfl | (simp; done) | (simp; omega) | omega) (by first | exact Nat.le_of_ble_eq_true rfl | (simp; done) | (simp; omega) | omega) (fun T357 a359 c360 W358 A361 => ?_)
          replace W358 : Wk l Z EL1 ({ frames := 9, cells := 24, slots := 2752, locals := 208 } : Room) "com/example/hermit_crab/hermitcrab/LockOptionsCheckNamePinLaw" code 8 (some .boolean) "law" X [(a359, c360), (a180, c349)] [] T357 2 (10) := W358
          replace A361 : ArrC Z c360 .char [(.int (0 : Int32)), (.int (0 : Int32)), (.int (0 : Int32)), (.int (0 : Int32))] := A361
          refine Go.astore (pc' := 134) W358 #[.val (.int aa), .val (.int bb), .val (.int cc), .val (.int mm), .val (.int (2 : Int32)), .val (.ref a359), .val (.ref a180), .val (.int (4 : Int32))] d_code_132 rfl rfl rfl ?_
          refine Go.iload (pc' := 136) W358 d_code_134 rfl rfl ?_
          refine Go.if_le (pc' := 139) W358 147 d_code_136 (by decide) rfl (fun q => absurd (by decide) q) (fun _ => ?_)
          refine Go.aload (pc' := 141) W358 d_code_139 rfl rfl rfl ?_
          refine Go.iconst (pc' := 142) W358 (0 : Int32) d_code_141 (by decide) rfl ?_
          refine Go.aload (pc' := 144) W358 d_code_142 rfl rfl rfl ?_
          refine Go.iconst (pc' := 145) W358 (0 : Int32) d_code_144 (by decide) rfl ?_
          refine Go.caload (pc' := 146) W358 (Or.inl (List.mem_of_getElem? (i := 1) rfl)) A352 0 (by decide) (by decide) rfl d_code_145 rfl ?_
          refine Go.castore (pc' := 147) W358 0 rfl A361 0 y332 (nar_char_id h333.chr) (by decide) (by decide) (by simp) d_code_146 rfl (fun T362 c364 W363 A365 => ?_)
          replace W363 : Wk l Z EL1 ({ frames := 9, cells := 24, slots := 2752, locals := 208 } : Room) "com/example/hermit_crab/hermitcrab/LockOptionsCheckNamePinLaw" code 8 (some .boolean) "law" X [(a359, c364), (a180, c349)] [] T362 2 (10) := W363
          replace A365 : ArrC Z c364 .char [(.int y332), (.int (0 : Int32)), (.int (0 : Int32)), (.int (0 : Int32))] := A365
          refine Go.iload (pc' := 149) W363 d_code_147 rfl rfl ?_
          refine Go.iconst (pc' := 150) W363 (1 : Int32) d_code_149 (by decide) rfl ?_
          refine Go.icmp_le (pc' := 153) W363 161 d_code_150 (by decide) rfl (fun q => absurd (by decide) q) (fun _ => ?_)
          refine Go.aload (pc' := 155) W363 d_code_153 rfl rfl rfl ?_
          refine Go.iconst (pc' := 156) W363 (1 : Int32) d_code_155 (by decide) rfl ?_
          refine Go.aload (pc' := 158) W363 d_code_156 rfl rfl rfl ?_
          refine Go.iconst (pc' := 159) W363 (1 : Int32) d_code_158 (by decide) rfl ?_
          refine Go.caload (pc' := 160) W363 (Or.inl (List.mem_of_getElem? (i := 1) rfl)) A352 1 (by decide) (by decide) rfl d_code_159 rfl ?_
          refine Go.castore (pc' := 161) W363 0 rfl A365 1 z335 (nar_char_id h336.chr) (by decide) (by decide) (by simp) d_code_160 rfl (fun T366 c368 W367 A369 => ?_)
          replace W367 : Wk l Z EL1 ({ frames := 9, cells := 24, slots := 2752, locals := 208 } : Room) "com/example/hermit_crab/hermitcrab/LockOptionsCheckNamePinLaw" code 8 (some .boolean) "law" X [(a359, c368), (a180, c349)] [] T366 2 (10) := W367
          replace A369 : ArrC Z c368 .char [(.int y332), (.int z335), (.int (0 : Int32)), (.int (0 : Int32))] := A369
          refine Go.iload (pc' := 163) W367 d_code_161 rfl rfl ?_
          refine Go.iconst (pc' := 164) W367 (2 : Int32) d_code_163 (by decide) rfl ?_
          refine Go.icmp_le (pc' := 167) W367 175 d_code_164 (by decide) rfl (fun q => absurd (by decide) q) (fun _ => ?_)
          refine Go.aload (pc' := 169) W367 d_code_167 rfl rfl rfl ?_
          refine Go.iconst (pc' := 170) W367 (2 : Int32) d_code_169 (by decide) rfl ?_
          refine Go.aload (pc' := 172) W367 d_code_170 rfl rfl rfl ?_
          refine Go.iconst (pc' := 173) W367 (2 : Int32) d_code_172 (by decide) rfl ?_
          refine Go.caload (pc' := 174) W367 (Or.inl (List.mem_of_getElem? (i := 1) rfl)) A352 2 (by decide) (by decide) rfl d_code_173 rfl ?_
          refine Go.castore (pc' := 175) W367 0 rfl A369 2 y341 (nar_char_id h342.1) (by decide) (by decide) (by simp) d_code_174 rfl (fun T370 c372 W371 A373 => ?_)
          replace W371 : Wk l Z EL1 ({ frames := 9, cells := 24, slots := 2752, locals := 208 } : Room) "com/example/hermit_crab/hermitcrab/LockOptionsCheckNamePinLaw" code 8 (some .boolean) "law" X [(a359, c372), (a180, c349)] [] T370 2 (10) := W371
          replace A373 : ArrC Z c372 .char [(.int y332), (.int z335), (.int y341), (.int (0 : Int32))] := A373
          refine Go.iload (pc' := 177) W371 d_code_175 rfl rfl ?_
          refine Go.iconst (pc' := 178) W371 (3 : Int32) d_code_177 (by decide) rfl ?_
          refine Go.icmp_le (pc' := 181) W371 189 d_code_178 (by decide) rfl (fun q => absurd (by decide) q) (fun _ => ?_)
          refine Go.aload (pc' := 183) W371 d_code_181 rfl rfl rfl ?_
          refine Go.iconst (pc' := 184) W371 (3 : Int32) d_code_183 (by decide) rfl ?_
          refine Go.aload (pc' := 186) W371 d_code_184 rfl rfl rfl ?_
          refine Go.iconst (pc' := 187) W371 (3 : Int32) d_code_186 (by decide) rfl ?_
          refine Go.caload (pc' := 188) W371 (Or.inl (List.mem_of_getElem? (i := 1) rfl)) A352 3 (by decide) (by decide) rfl d_code_187 rfl ?_
          refine Go.castore (pc' := 189) W371 0 rfl A373 3 y350 (nar_char_id h351.1) (by decide) (by decide) (by simp) d_code_188 rfl (fun T374 c376 W375 A377 => ?_)
          replace W375 : Wk l Z EL1 ({ frames := 9, cells := 24, slots := 2752, locals := 208 } : Room) "com/example/hermit_crab/hermitcrab/LockOptionsCheckNamePinLaw" code 8 (some .boolean) "law" X [(a359, c376), (a180, c349)] [] T374 2 (10) := W375
          replace A377 : ArrC Z c376 .char [(.int y332), (.int z335), (.int y341), (.int y350)] := A377
          refine Go.iload (pc' := 191) W375 d_code_189 rfl rfl ?_
          refine Go.iconst (pc' := 192) W375 (4 : Int32) d_code_191 (by decide) rfl ?_
          refine Go.icmp_le (pc' := 195) W375 203 d_code_192 (by decide) rfl (fun _ => ?_) (fun q => absurd q (by decide))
          refine Go.iload (pc' := 205) W375 d_code_203 rfl rfl ?_
          refine Go.iconst (pc' := 206) W375 (5 : Int32) d_code_205 (by decide) rfl ?_
          refine Go.icmp_le (pc' := 209) W375 217 d_code_206 (by decide) rfl (fun _ => ?_) (fun q => absurd q (by decide))
          have W378 := W375.drop [1] (σi := [(a180, c349)]) (σf := [(a359, c376)]) rfl
          replace W378 : Wk l Z EL1 ({ frames := 9, cells := 24, slots := 2752, locals := 208 } : Room) "com/example/hermit_crab/hermitcrab/LockOptionsCheckNamePinLaw" code 8 (some .boolean) "law" X [(a359, c376)] [] T374 2 (10) := W378
          exact rm_tail_B G aa bb cc mm a359 c376 [y332, z335, y341, y350] A377 3 (Wf.p h333 h336 (Wf.b h342 (Wf.b h351 (rfl : Wf 0 [])))) (by decide) (by decide) (2 : Int32) a180 (4 : Int32) (W378.more (by first | exact Nat.le_of_ble_eq_true rfl | (simp; done) | (simp; omega) | omega) (by first | exact Nat.le_of_ble_eq_true rfl | (simp; done) | (simp; omega) | omega))
        · refine Go.static (pc' := 126) W347 (rm_pp_D G a180 c340 y332 z335 y341 (0 : Int32) (0 : Int32) (0 : Int32) cc A343 h348) (w_1 G) (w_2 G) (w_3 G) (w_4 G) (by decide) [0] [] (σf := []) rfl rfl [(.ref a180), (.int (3 : Int32)), (.int cc)] [] rfl (lenOf pd_28 rfl) rfl rfl d_code_123 rfl (by first | exact Nat.le_of_ble_eq_true rfl | (simp; done) | (simp; omega) | omega) (by first | exact Nat.le_of_ble_eq_true rfl | (simp; done) | (simp; omega) | omega) (by first | exact Nat.le_of_ble_eq_true rfl | (simp; done) | (simp; omega) | omega) (by first | exact Nat.le_of_ble_eq_true rfl | (simp; done) | (simp; omega) | omega) ?_
          rintro _ _ _ T385 ⟨c379, y380, z383, rfl, rfl, rfl, h381, h384, A382⟩ W386
          replace W386 : Wk l Z EL1 ({ frames := 9, cells := 24, slots := 2752, locals := 208 } : Room) "com/example/hermit_crab/hermitcrab/LockOptionsCheckNamePinLaw" code 8 (some .boolean) "law" X [(a180, c379)] [] T385 1 (6) := W386
          show Go Z EL1 _ _ _ X T385 126 #[.val (.int aa), .val (.int bb), .val (.int cc), .val (.int mm), .val (.int (2 : Int32)), .unset, .val (.ref a180), .val (.int (3 : Int32))] [(.int (5 : Int32))]
          refine Go.istore (pc' := 128) W386 #[.val (.int aa), .val (.int bb), .val (.int cc), .val (.int mm), .val (.int (2 : Int32)), .unset, .val (.ref a180), .val (.int (5 : Int32))] d_code_126 rfl rfl ?_
          refine Go.iload (pc' := 130) W386 d_code_128 rfl rfl ?_
          refine Go.newarr (pc' := 132) W386 .char rfl 5 (w_0 G) d_code_130 rfl (by decide) (by decide) (by decide) (by first | exact Nat.le_of_ble_eq_true rfl | (simp; done) | (simp; omega) | omega) (by first | exact Nat.le_of_ble_eq_true rfl | (simp; done) | (simp; omega) | omega) (fun T387 a389 c390 W388 A391 => ?_)
          replace W388 : Wk l Z EL1 ({ frames := 9, cells := 24, slots := 2752, locals := 208 } : Room) "com/example/hermit_crab/hermitcrab/LockOptionsCheckNamePinLaw" code 8 (some .boolean) "law" X [(a389, c390), (a180, c379)] [] T387 2 (11) := W388
          replace A391 : ArrC Z c390 .char [(.int (0 : Int32)), (.int (0 : Int32)), (.int (0 : Int32)), (.int (0 : Int32)), (.int (0 : Int32))] := A391
          refine Go.astore (pc' := 134) W388 #[.val (.int aa), .val (.int bb), .val (.int cc), .val (.int mm), .val (.int (2 : Int32)), .val (.ref a389), .val (.ref a180), .val (.int (5 : Int32))] d_code_132 rfl rfl rfl ?_
          refine Go.iload (pc' := 136) W388 d_code_134 rfl rfl ?_
          refine Go.if_le (pc' := 139) W388 147 d_code_136 (by decide) rfl (fun q => absurd (by decide) q) (fun _ => ?_)
          refine Go.aload (pc' := 141) W388 d_code_139 rfl rfl rfl ?_
          refine Go.iconst (pc' := 142) W388 (0 : Int32) d_code_141 (by decide) rfl ?_
          refine Go.aload (pc' := 144) W388 d_code_142 rfl rfl rfl ?_
          refine Go.iconst (pc' := 145) W388 (0 : Int32) d_code_144 (by decide) rfl ?_
          refine Go.caload (pc' := 146) W388 (Or.inl (List.mem_of_getElem? (i := 1) rfl)) A382 0 (by decide) (by decide) rfl d_code_145 rfl ?_
          refine Go.castore (pc' := 147) W388 0 rfl A391 0 y332 (nar_char_id h333.chr) (by decide) (by decide) (by simp) d_code_146 rfl (fun T392 c394 W393 A395 => ?_)
          replace W393 : Wk l Z EL1 ({ frames := 9, cells := 24, slots := 2752, locals := 208 } : Room) "com/example/hermit_crab/hermitcrab/LockOptionsCheckNamePinLaw" code 8 (some .boolean) "law" X [(a389, c394), (a180, c379)] [] T392 2 (11) := W393
          replace A395 : ArrC Z c394 .char [(.int y332), (.int (0 : Int32)), (.int (0 : Int32)), (.int (0 : Int32)), (.int (0 : Int32))] := A395
          refine Go.iload (pc' := 149) W393 d_code_147 rfl rfl ?_
          refine Go.iconst (pc' := 150) W393 (1 : Int32) d_code_149 (by decide) rfl ?_
          refine Go.icmp_le (pc' := 153) W393 161 d_code_150 (by decide) rfl (fun q => absurd (by decide) q) (fun _ => ?_)
          refine Go.aload (pc' := 155) W393 d_code_153 rfl rfl rfl ?_
          refine Go.iconst (pc' := 156) W393 (1 : Int32) d_code_155 (by decide) rfl ?_
          refine Go.aload (pc' := 158) W393 d_code_156 rfl rfl rfl ?_
          refine Go.iconst (pc' := 159) W393 (1 : Int32) d_code_158 (by decide) rfl ?_
          refine Go.caload (pc' := 160) W393 (Or.inl (List.mem_of_getElem? (i := 1) rfl)) A382 1 (by decide) (by decide) rfl d_code_159 rfl ?_
          refine Go.castore (pc' := 161) W393 0 rfl A395 1 z335 (nar_char_id h336.chr) (by decide) (by decide) (by simp) d_code_160 rfl (fun T396 c398 W397 A399 => ?_)
          replace W397 : Wk l Z EL1 ({ frames := 9, cells := 24, slots := 2752, locals := 208 } : Room) "com/example/hermit_crab/hermitcrab/LockOptionsCheckNamePinLaw" code 8 (some .boolean) "law" X [(a389, c398), (a180, c379)] [] T396 2 (11) := W397
          replace A399 : ArrC Z c398 .char [(.int y332), (.int z335), (.int (0 : Int32)), (.int (0 : Int32)), (.int (0 : Int32))] := A399
          refine Go.iload (pc' := 163) W397 d_code_161 rfl rfl ?_
          refine Go.iconst (pc' := 164) W397 (2 : Int32) d_code_163 (by decide) rfl ?_
          refine Go.icmp_le (pc' := 167) W397 175 d_code_164 (by decide) rfl (fun q => absurd (by decide) q) (fun _ => ?_)
          refine Go.aload (pc' := 169) W397 d_code_167 rfl rfl rfl ?_
          refine Go.iconst (pc' := 170) W397 (2 : Int32) d_code_169 (by decide) rfl ?_
          refine Go.aload (pc' := 172) W397 d_code_170 rfl rfl rfl ?_
          refine Go.iconst (pc' := 173) W397 (2 : Int32) d_code_172 (by decide) rfl ?_
          refine Go.caload (pc' := 174) W397 (Or.inl (List.mem_of_getElem? (i := 1) rfl)) A382 2 (by decide) (by decide) rfl d_code_173 rfl ?_
          refine Go.castore (pc' := 175) W397 0 rfl A399 2 y341 (nar_char_id h342.1) (by decide) (by decide) (by simp) d_code_174 rfl (fun T400 c402 W401 A403 => ?_)
          replace W401 : Wk l Z EL1 ({ frames := 9, cells := 24, slots := 2752, locals := 208 } : Room) "com/example/hermit_crab/hermitcrab/LockOptionsCheckNamePinLaw" code 8 (some .boolean) "law" X [(a389, c402), (a180, c379)] [] T400 2 (11) := W401
          replace A403 : ArrC Z c402 .char [(.int y332), (.int z335), (.int y341), (.int (0 : Int32)), (.int (0 : Int32))] := A403
          refine Go.iload (pc' := 177) W401 d_code_175 rfl rfl ?_
          refine Go.iconst (pc' := 178) W401 (3 : Int32) d_code_177 (by decide) rfl ?_
          refine Go.icmp_le (pc' := 181) W401 189 d_code_178 (by decide) rfl (fun q => absurd (by decide) q) (fun _ => ?_)
          refine Go.aload (pc' := 183) W401 d_code_181 rfl rfl rfl ?_
          refine Go.iconst (pc' := 184) W401 (3 : Int32) d_code_183 (by decide) rfl ?_
          refine Go.aload (pc' := 186) W401 d_code_184 rfl rfl rfl ?_
          refine Go.iconst (pc' := 187) W401 (3 : Int32) d_code_186 (by decide) rfl ?_
          refine Go.caload (pc' := 188) W401 (Or.inl (List.mem_of_getElem? (i := 1) rfl)) A382 3 (by decide) (by decide) rfl d_code_187 rfl ?_
          refine Go.castore (pc' := 189) W401 0 rfl A403 3 y380 (nar_char_id h381.chr) (by decide) (by decide) (by simp) d_code_188 rfl (fun T404 c406 W405 A407 => ?_)
          replace W405 : Wk l Z EL1 ({ frames := 9, cells := 24, slots := 2752, locals := 208 } : Room) "com/example/hermit_crab/hermitcrab/LockOptionsCheckNamePinLaw" code 8 (some .boolean) "law" X [(a389, c406), (a180, c379)] [] T404 2 (11) := W405
          replace A407 : ArrC Z c406 .char [(.int y332), (.int z335), (.int y341), (.int y380), (.int (0 : Int32))] := A407
          refine Go.iload (pc' := 191) W405 d_code_189 rfl rfl ?_
          refine Go.iconst (pc' := 192) W405 (4 : Int32) d_code_191 (by decide) rfl ?_
          refine Go.icmp_le (pc' := 195) W405 203 d_code_192 (by decide) rfl (fun q => absurd (by decide) q) (fun _ => ?_)
          refine Go.aload (pc' := 197) W405 d_code_195 rfl rfl rfl ?_
          refine Go.iconst (pc' := 198) W405 (4 : Int32) d_code_197 (by decide) rfl ?_
          refine Go.aload (pc' := 200) W405 d_code_198 rfl rfl rfl ?_
          refine Go.iconst (pc' := 201) W405 (4 : Int32) d_code_200 (by decide) rfl ?_
          refine Go.caload (pc' := 202) W405 (Or.inl (List.mem_of_getElem? (i := 1) rfl)) A382 4 (by decide) (by decide) rfl d_code_201 rfl ?_
          refine Go.castore (pc' := 203) W405 0 rfl A407 4 z383 (nar_char_id h384.chr) (by decide) (by decide) (by simp) d_code_202 rfl (fun T408 c410 W409 A411 => ?_)
          replace W409 : Wk l Z EL1 ({ frames := 9, cells := 24, slots := 2752, locals := 208 } : Room) "com/example/hermit_crab/hermitcrab/LockOptionsCheckNamePinLaw" code 8 (some .boolean) "law" X [(a389, c410), (a180, c379)] [] T408 2 (11) := W409
          replace A411 : ArrC Z c410 .char [(.int y332), (.int z335), (.int y341), (.int y380), (.int z383)] := A411
          refine Go.iload (pc' := 205) W409 d_code_203 rfl rfl ?_
          refine Go.iconst (pc' := 206) W409 (5 : Int32) d_code_205 (by decide) rfl ?_
          refine Go.icmp_le (pc' := 209) W409 217 d_code_206 (by decide) rfl (fun _ => ?_) (fun q => absurd q (by decide))
          have W412 := W409.drop [1] (σi := [(a180, c379)]) (σf := [(a389, c410)]) rfl
          replace W412 : Wk l Z EL1 ({ frames := 9, cells := 24, slots := 2752, locals := 208 } : Room) "com/example/hermit_crab/hermitcrab/LockOptionsCheckNamePinLaw" code 8 (some .boolean) "law" X [(a389, c410)] [] T408 2 (11) := W412
          exact rm_tail_B G aa bb cc mm a389 c410 [y332, z335, y341, y380, z383] A411 3 (Wf.p h333 h336 (Wf.b h342 (Wf.p h381 h384 (rfl : Wf 0 [])))) (by decide) (by decide) (2 : Int32) a180 (5 : Int32) (W412.more (by first | exact Nat.le_of_ble_eq_true rfl | (simp; done) | (simp; omega) | omega) (by first | exact Nat.le_of_ble_eq_true rfl | (simp; done) | (simp; omega) | omega))
      · refine Go.static (pc' := 110) W338 (rm_pp_C G a180 c331 y332 z335 (0 : Int32) (0 : Int32) (0 : Int32) (0 : Int32) bb A334 h339) (w_1 G) (w_2 G) (w_3 G) (w_4 G) (by decide) [0] [] (σf := []) rfl rfl [(.ref a180), (.int (2 : Int32)), (.int bb)] [] rfl (lenOf pd_28 rfl) rfl rfl d_code_107 rfl (by first | exact Nat.le_of_ble_eq_true rfl | (simp; done) | (simp; omega) | omega) (by first | exact Nat.le_of_ble_eq_true rfl | (simp; done) | (simp; omega) | omega) (by first | exact Nat.le_of_ble_eq_true rfl | (simp; done) | (simp; omega) | omega) (by first | exact Nat.le_of_ble_eq_true rfl | (simp; done) | (simp; omega) | omega) ?_
        rintro _ _ _ T419 ⟨c413, y414, z417, rfl, rfl, rfl, h415, h418, A416⟩ W420
        replace W420 : Wk l Z EL1 ({ frames := 9, cells := 24, slots := 2752, locals := 208 } : Room) "com/example/hermit_crab/hermitcrab/LockOptionsCheckNamePinLaw" code 8 (some .boolean) "law" X [(a180, c413)] [] T419 1 (6) := W420
        show Go Z EL1 _ _ _ X T419 110 #[.val (.int aa), .val (.int bb), .val (.int cc), .val (.int mm), .val (.int (2 : Int32)), .unset, .val (.ref a180), .val (.int (2 : Int32))] [(.int (4 : Int32))]
        refine Go.istore (pc' := 112) W420 #[.val (.int aa), .val (.int bb), .val (.int cc), .val (.int mm), .val (.int (2 : Int32)), .unset, .val (.ref a180), .val (.int (4 : Int32))] d_code_110 rfl rfl ?_
        refine Go.iload (pc' := 114) W420 d_code_112 rfl rfl ?_
        refine Go.iconst (pc' := 115) W420 (2 : Int32) d_code_114 (by decide) rfl ?_
        refine Go.icmp_lt (pc' := 118) W420 128 d_code_115 (by decide) rfl (fun q => absurd q (by decide)) (fun _ => ?_)
        refine Go.aload (pc' := 120) W420 d_code_118 rfl rfl rfl ?_
        refine Go.iload (pc' := 122) W420 d_code_120 rfl rfl ?_
        refine Go.iloadN (pc' := 123) W420 d_code_122 rfl rfl ?_
        by_cases h421 : (cc &&& (1 : Int32)) = 0
        · refine Go.static (pc' := 126) W420 (rm_pb_E G a180 c413 y332 z335 y414 z417 (0 : Int32) (0 : Int32) cc A416 h421) (w_1 G) (w_2 G) (w_3 G) (w_4 G) (by decide) [0] [] (σf := []) rfl rfl [(.ref a180), (.int (4 : Int32)), (.int cc)] [] rfl (lenOf pd_28 rfl) rfl rfl d_code_123 rfl (by first | exact Nat.le_of_ble_eq_true rfl | (simp; done) | (simp; omega) | omega) (by first | exact Nat.le_of_ble_eq_true rfl | (simp; done) | (simp; omega) | omega) (by first | exact Nat.le_of_ble_eq_true rfl | (simp; done) | (simp; omega) | omega) (by first | exact Nat.le_of_ble_eq_true rfl | (simp; done) | (simp; omega) | omega) ?_
          rintro _ _ _ T428 ⟨c422, y423, rfl, rfl, rfl, h424, A425⟩ W429
          replace W429 : Wk l Z EL1 ({ frames := 9, cells := 24, slots := 2752, locals := 208 } : Room) "com/example/hermit_crab/hermitcrab/LockOptionsCheckNamePinLaw" code 8 (some .boolean) "law" X [(a180, c422)] [] T428 1 (6) := W429
          show Go Z EL1 _ _ _ X T428 126 #[.val (.int aa), .val (.int bb), .val (.int cc), .val (.int mm), .val (.int (2 : Int32)), .unset, .val (.ref a180), .val (.int (4 : Int32))] [(.int (5 : Int32))]
          refine Go.istore (pc' := 128) W429 #[.val (.int aa), .val (.int bb), .val (.int cc), .val (.int mm), .val (.int (2 : Int32)), .unset, .val (.ref a180), .val (.int (5 : Int32))] d_code_126 rfl rfl ?_
          refine Go.iload (pc' := 130) W429 d_code_128 rfl rfl ?_
          refine Go.newarr (pc' := 132) W429 .char rfl 5 (w_0 G) d_code_130 rfl (by decide) (by decide) (by decide) (by first | exact Nat.le_of_ble_eq_true rfl | (simp; done) | (simp; omega) | omega) (by first | exact Nat.le_of_ble_eq_true rfl | (simp; done) | (simp; omega) | omega) (fun T430 a432 c433 W431 A434 => ?_)
          replace W431 : Wk l Z EL1 ({ frames := 9, cells := 24, slots := 2752, locals := 208 } : Room) "com/example/hermit_crab/hermitcrab/LockOptionsCheckNamePinLaw" code 8 (some .boolean) "law" X [(a432, c433), (a180, c422)] [] T430 2 (11) := W431
          replace A434 : ArrC Z c433 .char [(.int (0 : Int32)), (.int (0 : Int32)), (.int (0 : Int32)), (.int (0 : Int32)), (.int (0 : Int32))] := A434
          refine Go.astore (pc' := 134) W431 #[.val (.int aa), .val (.int bb), .val (.int cc), .val (.int mm), .val (.int (2 : Int32)), .val (.ref a432), .val (.ref a180), .val (.int (5 : Int32))] d_code_132 rfl rfl rfl ?_
          refine Go.iload (pc' := 136) W431 d_code_134 rfl rfl ?_
          refine Go.if_le (pc' := 139) W431 147 d_code_136 (by decide) rfl (fun q => absurd (by decide) q) (fun _ => ?_)
          refine Go.aload (pc' := 141) W431 d_code_139 rfl rfl rfl ?_
          refine Go.iconst (pc' := 142) W431 (0 : Int32) d_code_141 (by decide) rfl ?_
          refine Go.aload (pc' := 144) W431 d_code_142 rfl rfl rfl ?_
          refine Go.iconst (pc' := 145) W431 (0 : Int32) d_code_144 (by decide) rfl ?_
          refine Go.caload (pc' := 146) W431 (Or.inl (List.mem_of_getElem? (i := 1) rfl)) A425 0 (by decide) (by decide) rfl d_code_145 rfl ?_
          refine Go.castore (pc' := 147) W431 0 rfl A434 0 y332 (nar_char_id h333.chr) (by decide) (by decide) (by simp) d_code_146 rfl (fun T435 c437 W436 A438 => ?_)
          replace W436 : Wk l Z EL1 ({ frames := 9, cells := 24, slots := 2752, locals := 208 } : Room) "com/example/hermit_crab/hermitcrab/LockOptionsCheckNamePinLaw" code 8 (some .boolean) "law" X [(a432, c437), (a180, c422)] [] T435 2 (11) := W436
          replace A438 : ArrC Z c437 .char [(.int y332), (.int (0 : Int32)), (.int (0 : Int32)), (.int (0 : Int32)), (.int (0 : Int32))] := A438
          refine Go.iload (pc' := 149) W436 d_code_147 rfl rfl ?_
          refine Go.iconst (pc' := 150) W436 (1 : Int32) d_code_149 (by decide) rfl ?_
          refine Go.icmp_le (pc' := 153) W436 161 d_code_150 (by decide) rfl (fun q => absurd (by decide) q) (fun _ => ?_)
          refine Go.aload (pc' := 155) W436 d_code_153 rfl rfl rfl ?_
          refine Go.iconst (pc' := 156) W436 (1 : Int32) d_code_155 (by decide) rfl ?_
          refine Go.aload (pc' := 158) W436 d_code_156 rfl rfl rfl ?_
          refine Go.iconst (pc' := 159) W436 (1 : Int32) d_code_158 (by decide) rfl ?_
          refine Go.caload (pc' := 160) W436 (Or.inl (List.mem_of_getElem? (i := 1) rfl)) A425 1 (by decide) (by decide) rfl d_code_159 rfl ?_
          refine Go.castore (pc' := 161) W436 0 rfl A438 1 z335 (nar_char_id h336.chr) (by decide) (by decide) (by simp) d_code_160 rfl (fun T439 c441 W440 A442 => ?_)
          replace W440 : Wk l Z EL1 ({ frames := 9, cells := 24, slots := 2752, locals := 208 } : Room) "com/example/hermit_crab/hermitcrab/LockOptionsCheckNamePinLaw" code 8 (some .boolean) "law" X [(a432, c441), (a180, c422)] [] T439 2 (11) := W440
          replace A442 : ArrC Z c441 .char [(.int y332), (.int z335), (.int (0 : Int32)), (.int (0 : Int32)), (.int (0 : Int32))] := A442
          refine Go.iload (pc' := 163) W440 d_code_161 rfl rfl ?_
          refine Go.iconst (pc' := 164) W440 (2 : Int32) d_code_163 (by decide) rfl ?_
          refine Go.icmp_le (pc' := 167) W440 175 d_code_164 (by decide) rfl (fun q => absurd (by decide) q) (fun _ => ?_)
          refine Go.aload (pc' := 169) W440 d_code_167 rfl rfl rfl ?_
          refine Go.iconst (pc' := 170) W440 (2 : Int32) d_code_169 (by decide) rfl ?_
          refine Go.aload (pc' := 172) W440 d_code_170 rfl rfl rfl ?_
          refine Go.iconst (pc' := 173) W440 (2 : Int32) d_code_172 (by decide) rfl ?_
          refine Go.caload (pc' := 174) W440 (Or.inl (List.mem_of_getElem? (i := 1) rfl)) A425 2 (by decide) (by decide) rfl d_code_173 rfl ?_
          refine Go.castore (pc' := 175) W440 0 rfl A442 2 y414 (nar_char_id h415.chr) (by decide) (by decide) (by simp) d_code_174 rfl (fun T443 c445 W444 A446 => ?_)
          replace W444 : Wk l Z EL1 ({ frames := 9, cells := 24, slots := 2752, locals := 208 } : Room) "com/example/hermit_crab/hermitcrab/LockOptionsCheckNamePinLaw" code 8 (some .boolean) "law" X [(a432, c445), (a180, c422)] [] T443 2 (11) := W444
          replace A446 : ArrC Z c445 .char [(.int y332), (.int z335), (.int y414), (.int (0 : Int32)), (.int (0 : Int32))] := A446
          refine Go.iload (pc' := 177) W444 d_code_175 rfl rfl ?_
          refine Go.iconst (pc' := 178) W444 (3 : Int32) d_code_177 (by decide) rfl ?_
          refine Go.icmp_le (pc' := 181) W444 189 d_code_178 (by decide) rfl (fun q => absurd (by decide) q) (fun _ => ?_)
          refine Go.aload (pc' := 183) W444 d_code_181 rfl rfl rfl ?_
          refine Go.iconst (pc' := 184) W444 (3 : Int32) d_code_183 (by decide) rfl ?_
          refine Go.aload (pc' := 186) W444 d_code_184 rfl rfl rfl ?_
          refine Go.iconst (pc' := 187) W444 (3 : Int32) d_code_186 (by decide) rfl ?_
          refine Go.caload (pc' := 188) W444 (Or.inl (List.mem_of_getElem? (i := 1) rfl)) A425 3 (by decide) (by decide) rfl d_code_187 rfl ?_
          refine Go.castore (pc' := 189) W444 0 rfl A446 3 z417 (nar_char_id h418.chr) (by decide) (by decide) (by simp) d_code_188 rfl (fun T447 c449 W448 A450 => ?_)
          replace W448 : Wk l Z EL1 ({ frames := 9, cells := 24, slots := 2752, locals := 208 } : Room) "com/example/hermit_crab/hermitcrab/LockOptionsCheckNamePinLaw" code 8 (some .boolean) "law" X [(a432, c449), (a180, c422)] [] T447 2 (11) := W448
          replace A450 : ArrC Z c449 .char [(.int y332), (.int z335), (.int y414), (.int z417), (.int (0 : Int32))] := A450
          refine Go.iload (pc' := 191) W448 d_code_189 rfl rfl ?_
          refine Go.iconst (pc' := 192) W448 (4 : Int32) d_code_191 (by decide) rfl ?_
          refine Go.icmp_le (pc' := 195) W448 203 d_code_192 (by decide) rfl (fun q => absurd (by decide) q) (fun _ => ?_)
          refine Go.aload (pc' := 197) W448 d_code_195 rfl rfl rfl ?_
          refine Go.iconst (pc' := 198) W448 (4 : Int32) d_code_197 (by decide) rfl ?_
          refine Go.aload (pc' := 200) W448 d_code_198 rfl rfl rfl ?_
          refine Go.iconst (pc' := 201) W448 (4 : Int32) d_code_200 (by decide) rfl ?_
          refine Go.caload (pc' := 202) W448 (Or.inl (List.mem_of_getElem? (i := 1) rfl)) A425 4 (by decide) (by decide) rfl d_code_201 rfl ?_
          refine Go.castore (pc' := 203) W448 0 rfl A450 4 y423 (nar_char_id h424.1) (by decide) (by decide) (by simp) d_code_202 rfl (fun T451 c453 W452 A454 => ?_)
          replace W452 : Wk l Z EL1 ({ frames := 9, cells := 24, slots := 2752, locals := 208 } : Room) "com/example/hermit_crab/hermitcrab/LockOptionsCheckNamePinLaw" code 8 (some .boolean) "law" X [(a432, c453), (a180, c422)] [] T451 2 (11) := W452
          replace A454 : ArrC Z c453 .char [(.int y332), (.int z335), (.int y414), (.int z417), (.int y423)] := A454
          refine Go.iload (pc' := 205) W452 d_code_203 rfl rfl ?_
          refine Go.iconst (pc' := 206) W452 (5 : Int32) d_code_205 (by decide) rfl ?_
          refine Go.icmp_le (pc' := 209) W452 217 d_code_206 (by decide) rfl (fun _ => ?_) (fun q => absurd q (by decide))
          have W455 := W452.drop [1] (σi := [(a180, c422)]) (σf := [(a432, c453)]) rfl
          replace W455 : Wk l Z EL1 ({ frames := 9, cells := 24, slots := 2752, locals := 208 } : Room) "com/example/hermit_crab/hermitcrab/LockOptionsCheckNamePinLaw" code 8 (some .boolean) "law" X [(a432, c453)] [] T451 2 (11) := W455
          exact rm_tail_B G aa bb cc mm a432 c453 [y332, z335, y414, z417, y423] A454 3 (Wf.p h333 h336 (Wf.p h415 h418 (Wf.b h424 (rfl : Wf 0 [])))) (by decide) (by decide) (2 : Int32) a180 (5 : Int32) (W455.more (by first | exact Nat.le_of_ble_eq_true rfl | (simp; done) | (simp; omega) | omega) (by first | exact Nat.le_of_ble_eq_true rfl | (simp; done) | (simp; omega) | omega))
        · refine Go.static (pc' := 126) W420 (rm_pp_E G a180 c413 y332 z335 y414 z417 (0 : Int32) (0 : Int32) cc A416 h421) (w_1 G) (w_2 G) (w_3 G) (w_4 G) (by decide) [0] [] (σf := []) rfl rfl [(.ref a180), (.int (4 : Int32)), (.int cc)] [] rfl (lenOf pd_28 rfl) rfl rfl d_code_123 rfl (by first | exact Nat.le_of_ble_eq_true rfl | (simp; done) | (simp; omega) | omega) (by first | exact Nat.le_of_ble_eq_true rfl | (simp; done) | (simp; omega) | omega) (by first | exact Nat.le_of_ble_eq_true rfl | (simp; done) | (simp; omega) | omega) (by first | exact Nat.le_of_ble_eq_true rfl | (simp; done) | (simp; omega) | omega) ?_
          rintro _ _ _ T462 ⟨c456, y457, z460, rfl, rfl, rfl, h458, h461, A459⟩ W463
          replace W463 : Wk l Z EL1 ({ frames := 9, cells := 24, slots := 2752, locals := 208 } : Room) "com/example/hermit_crab/hermitcrab/LockOptionsCheckNamePinLaw" code 8 (some .boolean) "law" X [(a180, c456)] [] T462 1 (6) := W463
          show Go Z EL1 _ _ _ X T462 126 #[.val (.int aa), .val (.int bb), .val (.int cc), .val (.int mm), .val (.int (2 : Int32)), .unset, .val (.ref a180), .val (.int (4 : Int32))] [(.int (6 : Int32))]
          refine Go.istore (pc' := 128) W463 #[.val (.int aa), .val (.int bb), .val (.int cc), .val (.int mm), .val (.int (2 : Int32)), .unset, .val (.ref a180), .val (.int (6 : Int32))] d_code_126 rfl rfl ?_
          refine Go.iload (pc' := 130) W463 d_code_128 rfl rfl ?_
          refine Go.newarr (pc' := 132) W463 .char rfl 6 (w_0 G) d_code_130 rfl (by decide) (by decide) (by decide) (by first | exact Nat.le_of_ble_eq_true rfl | (simp; done) | (simp; omega) | omega) (by first | exact Nat.le_of_ble_eq_true rfl | (simp; done) | (simp; omega) | omega) (fun T464 a466 c467 W465 A468 => ?_)
          replace W465 : Wk l Z EL1 ({ frames := 9, cells := 24, slots := 2752, locals := 208 } : Room) "com/example/hermit_crab/hermitcrab/LockOptionsCheckNamePinLaw" code 8 (some .boolean) "law" X [(a466, c467), (a180, c456)] [] T464 2 (12) := W465
          replace A468 : ArrC Z c467 .char [(.int (0 : Int32)), (.int (0 : Int32)), (.int (0 : Int32)), (.int (0 : Int32)), (.int (0 : Int32)), (.int (0 : Int32))] := A468
          refine Go.astore (pc' := 134) W465 #[.val (.int aa), .val (.int bb), .val (.int cc), .val (.int mm), .val (.int (2 : Int32)), .val (.ref a466), .val (.ref a180), .val (.int (6 : Int32))] d_code_132 rfl rfl rfl ?_
          refine Go.iload (pc' := 136) W465 d_code_134 rfl rfl ?_
          refine Go.if_le (pc' := 139) W465 147 d_code_136 (by decide) rfl (fun q => absurd (by decide) q) (fun _ => ?_)
          refine Go.aload (pc' := 141) W465 d_code_139 rfl rfl rfl ?_
          refine Go.iconst (pc' := 142) W465 (0 : Int32) d_code_141 (by decide) rfl ?_
          refine Go.aload (pc' := 144) W465 d_code_142 rfl rfl rfl ?_
          refine Go.iconst (pc' := 145) W465 (0 : Int32) d_code_144 (by decide) rfl ?_
          refine Go.caload (pc' := 146) W465 (Or.inl (List.mem_of_getElem? (i := 1) rfl)) A459 0 (by decide) (by decide) rfl d_code_145 rfl ?_
          refine Go.castore (pc' := 147) W465 0 rfl A468 0 y332 (nar_char_id h333.chr) (by decide) (by decide) (by simp) d_code_146 rfl (fun T469 c471 W470 A472 => ?_)
          replace W470 : Wk l Z EL1 ({ frames := 9, cells := 24, slots := 2752, locals := 208 } : Room) "com/example/hermit_crab/hermitcrab/LockOptionsCheckNamePinLaw" code 8 (some .boolean) "law" X [(a466, c471), (a180, c456)] [] T469 2 (12) := W470
          replace A472 : ArrC Z c471 .char [(.int y332), (.int (0 : Int32)), (.int (0 : Int32)), (.int (0 : Int32)), (.int (0 : Int32)), (.int (0 : Int32))] := A472
          refine Go.iload (pc' := 149) W470 d_code_147 rfl rfl ?_
          refine Go.iconst (pc' := 150) W470 (1 : Int32) d_code_149 (by decide) rfl ?_
          refine Go.icmp_le (pc' := 153) W470 161 d_code_150 (by decide) rfl (fun q => absurd (by decide) q) (fun _ => ?_)
          refine Go.aload (pc' := 155) W470 d_code_153 rfl rfl rfl ?_
          refine Go.iconst (pc' := 156) W470 (1 : Int32) d_code_155 (by decide) rfl ?_
          refine Go.aload (pc' := 158) W470 d_code_156 rfl rfl rfl ?_
          refine Go.iconst (pc' := 159) W470 (1 : Int32) d_code_158 (by decide) rfl ?_
          refine Go.caload (pc' := 160) W470 (Or.inl (List.mem_of_getElem? (i := 1) rfl)) A459 1 (by decide) (by decide) rfl d_code_159 rfl ?_
          refine Go.castore (pc' := 161) W470 0 rfl A472 1 z335 (nar_char_id h336.chr) (by decide) (by decide) (by simp) d_code_160 rfl (fun T473 c475 W474 A476 => ?_)
          replace W474 : Wk l Z EL1 ({ frames := 9, cells := 24, slots := 2752, locals := 208 } : Room) "com/example/hermit_crab/hermitcrab/LockOptionsCheckNamePinLaw" code 8 (some .boolean) "law" X [(a466, c475), (a180, c456)] [] T473 2 (12) := W474
          replace A476 : ArrC Z c475 .char [(.int y332), (.int z335), (.int (0 : Int32)), (.int (0 : Int32)), (.int (0 : Int32)), (.int (0 : Int32))] := A476
          refine Go.iload (pc' := 163) W474 d_code_161 rfl rfl ?_
          refine Go.iconst (pc' := 164) W474 (2 : Int32) d_code_163 (by decide) rfl ?_
          refine Go.icmp_le (pc' := 167) W474 175 d_code_164 (by decide) rfl (fun q => absurd (by decide) q) (fun _ => ?_)
          refine Go.aload (pc' := 169) W474 d_code_167 rfl rfl rfl ?_
          refine Go.iconst (pc' := 170) W474 (2 : Int32) d_code_169 (by decide) rfl ?_
          refine Go.aload (pc' := 172) W474 d_code_170 rfl rfl rfl ?_
          refine Go.iconst (pc' := 173) W474 (2 : Int32) d_code_172 (by decide) rfl ?_
          refine Go.caload (pc' := 174) W474 (Or.inl (List.mem_of_getElem? (i := 1) rfl)) A459 2 (by decide) (by decide) rfl d_code_173 rfl ?_
          refine Go.castore (pc' := 175) W474 0 rfl A476 2 y414 (nar_char_id h415.chr) (by decide) (by decide) (by simp) d_code_174 rfl (fun T477 c479 W478 A480 => ?_)
          replace W478 : Wk l Z EL1 ({ frames := 9, cells := 24, slots := 2752, locals := 208 } : Room) "com/example/hermit_crab/hermitcrab/LockOptionsCheckNamePinLaw" code 8 (some .boolean) "law" X [(a466, c479), (a180, c456)] [] T477 2 (12) := W478
          replace A480 : ArrC Z c479 .char [(.int y332), (.int z335), (.int y414), (.int (0 : Int32)), (.int (0 : Int32)), (.int (0 : Int32))] := A480
          refine Go.iload (pc' := 177) W478 d_code_175 rfl rfl ?_
          refine Go.iconst (pc' := 178) W478 (3 : Int32) d_code_177 (by decide) rfl ?_
          refine Go.icmp_le (pc' := 181) W478 189 d_code_178 (by decide) rfl (fun q => absurd (by decide) q) (fun _ => ?_)
          refine Go.aload (pc' := 183) W478 d_code_181 rfl rfl rfl ?_
          refine Go.iconst (pc' := 184) W478 (3 : Int32) d_code_183 (by decide) rfl ?_
          refine Go.aload (pc' := 186) W478 d_code_184 rfl rfl rfl ?_
          refine Go.iconst (pc' := 187) W478 (3 : Int32) d_code_186 (by decide) rfl ?_
          refine Go.caload (pc' := 188) W478 (Or.inl (List.mem_of_getElem? (i := 1) rfl)) A459 3 (by decide) (by decide) rfl d_code_187 rfl ?_
          refine Go.castore (pc' := 189) W478 0 rfl A480 3 z417 (nar_char_id h418.chr) (by decide) (by decide) (by simp) d_code_188 rfl (fun T481 c483 W482 A484 => ?_)
          replace W482 : Wk l Z EL1 ({ frames := 9, cells := 24, slots := 2752, locals := 208 } : Room) "com/example/hermit_crab/hermitcrab/LockOptionsCheckNamePinLaw" code 8 (some .boolean) "law" X [(a466, c483), (a180, c456)] [] T481 2 (12) := W482
          replace A484 : ArrC Z c483 .char [(.int y332), (.int z335), (.int y414), (.int z417), (.int (0 : Int32)), (.int (0 : Int32))] := A484
          refine Go.iload (pc' := 191) W482 d_code_189 rfl rfl ?_
          refine Go.iconst (pc' := 192) W482 (4 : Int32) d_code_191 (by decide) rfl ?_
          refine Go.icmp_le (pc' := 195) W482 203 d_code_192 (by decide) rfl (fun q => absurd (by decide) q) (fun _ => ?_)
          refine Go.aload (pc' := 197) W482 d_code_195 rfl rfl rfl ?_
          refine Go.iconst (pc' := 198) W482 (4 : Int32) d_code_197 (by decide) rfl ?_
          refine Go.aload (pc' := 200) W482 d_code_198 rfl rfl rfl ?_
          refine Go.iconst (pc' := 201) W482 (4 : Int32) d_code_200 (by decide) rfl ?_
          refine Go.caload (pc' := 202) W482 (Or.inl (List.mem_of_getElem? (i := 1) rfl)) A459 4 (by decide) (by decide) rfl d_code_201 rfl ?_
          refine Go.castore (pc' := 203) W482 0 rfl A484 4 y457 (nar_char_id h458.chr) (by decide) (by decide) (by simp) d_code_202 rfl (fun T485 c487 W486 A488 => ?_)
          replace W486 : Wk l Z EL1 ({ frames := 9, cells := 24, slots := 2752, locals := 208 } : Room) "com/example/hermit_crab/hermitcrab/LockOptionsCheckNamePinLaw" code 8 (some .boolean) "law" X [(a466, c487), (a180, c456)] [] T485 2 (12) := W486
          replace A488 : ArrC Z c487 .char [(.int y332), (.int z335), (.int y414), (.int z417), (.int y457), (.int (0 : Int32))] := A488
          refine Go.iload (pc' := 205) W486 d_code_203 rfl rfl ?_
          refine Go.iconst (pc' := 206) W486 (5 : Int32) d_code_205 (by decide) rfl ?_
          refine Go.icmp_le (pc' := 209) W486 217 d_code_206 (by decide) rfl (fun q => absurd (by decide) q) (fun _ => ?_)
          refine Go.aload (pc' := 211) W486 d_code_209 rfl rfl rfl ?_
          refine Go.iconst (pc' := 212) W486 (5 : Int32) d_code_211 (by decide) rfl ?_
          refine Go.aload (pc' := 214) W486 d_code_212 rfl rfl rfl ?_
          refine Go.iconst (pc' := 215) W486 (5 : Int32) d_code_214 (by decide) rfl ?_
          refine Go.caload (pc' := 216) W486 (Or.inl (List.mem_of_getElem? (i := 1) rfl)) A459 5 (by decide) (by decide) rfl d_code_215 rfl ?_
          refine Go.castore (pc' := 217) W486 0 rfl A488 5 z460 (nar_char_id h461.chr) (by decide) (by decide) (by simp) d_code_216 rfl (fun T489 c491 W490 A492 => ?_)
          replace W490 : Wk l Z EL1 ({ frames := 9, cells := 24, slots := 2752, locals := 208 } : Room) "com/example/hermit_crab/hermitcrab/LockOptionsCheckNamePinLaw" code 8 (some .boolean) "law" X [(a466, c491), (a180, c456)] [] T489 2 (12) := W490
          replace A492 : ArrC Z c491 .char [(.int y332), (.int z335), (.int y414), (.int z417), (.int y457), (.int z460)] := A492
          have W493 := W490.drop [1] (σi := [(a180, c456)]) (σf := [(a466, c491)]) rfl
          replace W493 : Wk l Z EL1 ({ frames := 9, cells := 24, slots := 2752, locals := 208 } : Room) "com/example/hermit_crab/hermitcrab/LockOptionsCheckNamePinLaw" code 8 (some .boolean) "law" X [(a466, c491)] [] T489 2 (12) := W493
          exact rm_tail_B G aa bb cc mm a466 c491 [y332, z335, y414, z417, y457, z460] A492 3 (Wf.p h333 h336 (Wf.p h415 h418 (Wf.p h458 h461 (rfl : Wf 0 [])))) (by decide) (by decide) (2 : Int32) a180 (6 : Int32) (W493.more (by first | exact Nat.le_of_ble_eq_true rfl | (simp; done) | (simp; omega) | omega) (by first | exact Nat.le_of_ble_eq_true rfl | (simp; done) | (simp; omega) | omega))
  · refine Go.iload (pc' := 7) W0 d_code_5 rfl rfl ?_
    refine Go.iconst (pc' := 8) W0 (3 : Int32) d_code_7 (by decide) rfl ?_
    refine Go.icmp_ne (pc' := 11) W0 81 d_code_8 (by decide) rfl (fun q => absurd (by decide) q) (fun _ => ?_)
    refine Go.iloadN (pc' := 12) W0 d_code_11 rfl rfl ?_
    refine Go.iconst (pc' := 13) W0 (4 : Int32) d_code_12 (by decide) rfl ?_
    refine Go.iand (pc' := 14) W0 d_code_13 rfl ?_
    refine Go.if_ne (pc' := 17) W0 45 d_code_14 (by decide) rfl (fun (c494 : ¬ ((mm &&& (4 : Int32)) = 0)) => ?_) (fun (c494 : (mm &&& (4 : Int32)) = 0) => ?_)
    · refine Go.sipush (pc' := 48) W0 (201 : Int32) d_code_45 (by decide) rfl ?_
      refine Go.newarr (pc' := 50) W0 .char rfl 201 (w_0 G) d_code_48 rfl (by decide) (by decide) (by decide) (by first | exact Nat.le_of_ble_eq_true rfl | (simp; done) | (simp; omega) | omega) (by first | exact Nat.le_of_ble_eq_true rfl | (simp; done) | (simp; omega) | omega) (fun T495 a497 c498 W496 A499 => ?_)
      replace W496 : Wk l Z EL1 ({ frames := 9, cells := 24, slots := 2752, locals := 208 } : Room) "com/example/hermit_crab/hermitcrab/LockOptionsCheckNamePinLaw" code 8 (some .boolean) "law" X [(a497, c498)] [] T495 1 (201) := W496
      rw [chV_rep] at A499
      refine Go.astore (pc' := 52) W496 #[.val (.int aa), .val (.int bb), .val (.int cc), .val (.int mm), .val (.int (3 : Int32)), .val (.ref a497), .unset, .unset] d_code_50 rfl rfl rfl ?_
      refine Go.aload (pc' := 54) W496 d_code_52 rfl rfl rfl ?_
      refine Go.iconst (pc' := 55) W496 (0 : Int32) d_code_54 (by decide) rfl ?_
      refine Go.iloadN (pc' := 56) W496 d_code_55 rfl rfl ?_
      refine Go.static (pc' := 59) W496 (rm_hig G aa) (w_10 G) (w_11 G) (w_3 G) (w_12 G) (by decide) [] [] (σf := [(a497, c498)]) rfl rfl [(.int aa)] [(.int (0 : Int32)), (.ref a497)] rfl (lenOf pd_15 rfl) rfl rfl d_code_56 rfl (by first | exact Nat.le_of_ble_eq_true rfl | (simp; done) | (simp; omega) | omega) (by first | exact Nat.le_of_ble_eq_true rfl | (simp; done) | (simp; omega) | omega) (by first | exact Nat.le_of_ble_eq_true rfl | (simp; done) | (simp; omega) | omega) (by first | exact Nat.le_of_ble_eq_true rfl | (simp; done) | (simp; omega) | omega) ?_
      rintro _ _ _ T502 ⟨y500, rfl, h501, rfl, rfl⟩ W503
      replace W503 : Wk l Z EL1 ({ frames := 9, cells := 24, slots := 2752, locals := 208 } : Room) "com/example/hermit_crab/hermitcrab/LockOptionsCheckNamePinLaw" code 8 (some .boolean) "law" X [(a497, c498)] [] T502 1 (201) := W503
      show Go Z EL1 _ _ _ X T502 59 #[.val (.int aa), .val (.int bb), .val (.int cc), .val (.int mm), .val (.int (3 : Int32)), .val (.ref a497), .unset, .unset] [(.int y500), (.int (0 : Int32)), (.ref a497)]
      refine Go.castore (pc' := 60) W503 0 rfl A499 0 y500 (nar_char_id h501.chr) (by decide) (by decide) (by simp) d_code_59 rfl (fun T504 c506 W505 A507 => ?_)
      replace W505 : Wk l Z EL1 ({ frames := 9, cells := 24, slots := 2752, locals := 208 } : Room) "com/example/hermit_crab/hermitcrab/LockOptionsCheckNamePinLaw" code 8 (some .boolean) "law" X [(a497, c506)] [] T504 1 (201) := W505
      rw [chV_set] at A507
      refine Go.aload (pc' := 62) W505 d_code_60 rfl rfl rfl ?_
      refine Go.iconst (pc' := 63) W505 (1 : Int32) d_code_62 (by decide) rfl ?_
      refine Go.iloadN (pc' := 64) W505 d_code_63 rfl rfl ?_
      refine Go.static (pc' := 67) W505 (rm_low G aa) (w_13 G) (w_14 G) (w_3 G) (w_15 G) (by decide) [] [] (σf := [(a497, c506)]) rfl rfl [(.int aa)] [(.int (1 : Int32)), (.ref a497)] rfl (lenOf pd_15 rfl) rfl rfl d_code_64 rfl (by first | exact Nat.le_of_ble_eq_true rfl | (simp; done) | (simp; omega) | omega) (by first | exact Nat.le_of_ble_eq_true rfl | (simp; done) | (simp; omega) | omega) (by first | exact Nat.le_of_ble_eq_true rfl | (simp; done) | (simp; omega) | omega) (by first | exact Nat.le_of_ble_eq_true rfl | (simp; done) | (simp; omega) | omega) ?_
      rintro _ _ _ T510 ⟨y508, rfl, h509, rfl, rfl⟩ W511
      replace W511 : Wk l Z EL1 ({ frames := 9, cells := 24, slots := 2752, locals := 208 } : Room) "com/example/hermit_crab/hermitcrab/LockOptionsCheckNamePinLaw" code 8 (some .boolean) "law" X [(a497, c506)] [] T510 1 (201) := W511
      show Go Z EL1 _ _ _ X T510 67 #[.val (.int aa), .val (.int bb), .val (.int cc), .val (.int mm), .val (.int (3 : Int32)), .val (.ref a497), .unset, .unset] [(.int y508), (.int (1 : Int32)), (.ref a497)]
      refine Go.castore (pc' := 68) W511 0 rfl A507 1 y508 (nar_char_id h509.chr) (by decide) (by decide) (by simp) d_code_67 rfl (fun T512 c514 W513 A515 => ?_)
      replace W513 : Wk l Z EL1 ({ frames := 9, cells := 24, slots := 2752, locals := 208 } : Room) "com/example/hermit_crab/hermitcrab/LockOptionsCheckNamePinLaw" code 8 (some .boolean) "law" X [(a497, c514)] [] T512 1 (201) := W513
      rw [chV_set] at A515
      refine Go.aload (pc' := 70) W513 d_code_68 rfl rfl rfl ?_
      refine Go.sipush (pc' := 73) W513 (200 : Int32) d_code_70 (by decide) rfl ?_
      refine Go.iloadN (pc' := 74) W513 d_code_73 rfl rfl ?_
      refine Go.static (pc' := 77) W513 (rm_bmp G bb) (w_5 G) (w_6 G) (w_3 G) (w_7 G) (by decide) [] [] (σf := [(a497, c514)]) rfl rfl [(.int bb)] [(.int (200 : Int32)), (.ref a497)] rfl (lenOf pd_15 rfl) rfl rfl d_code_74 rfl (by first | exact Nat.le_of_ble_eq_true rfl | (simp; done) | (simp; omega) | omega) (by first | exact Nat.le_of_ble_eq_true rfl | (simp; done) | (simp; omega) | omega) (by first | exact Nat.le_of_ble_eq_true rfl | (simp; done) | (simp; omega) | omega) (by first | exact Nat.le_of_ble_eq_true rfl | (simp; done) | (simp; omega) | omega) ?_
      rintro _ _ _ T518 ⟨y516, rfl, h517, rfl, rfl⟩ W519
      replace W519 : Wk l Z EL1 ({ frames := 9, cells := 24, slots := 2752, locals := 208 } : Room) "com/example/hermit_crab/hermitcrab/LockOptionsCheckNamePinLaw" code 8 (some .boolean) "law" X [(a497, c514)] [] T518 1 (201) := W519
      show Go Z EL1 _ _ _ X T518 77 #[.val (.int aa), .val (.int bb), .val (.int cc), .val (.int mm), .val (.int (3 : Int32)), .val (.ref a497), .unset, .unset] [(.int y516), (.int (200 : Int32)), (.ref a497)]
      refine Go.castore (pc' := 78) W519 0 rfl A515 200 y516 (nar_char_id h517.1) (by decide) (by decide) (by simp) d_code_77 rfl (fun T520 c522 W521 A523 => ?_)
      replace W521 : Wk l Z EL1 ({ frames := 9, cells := 24, slots := 2752, locals := 208 } : Room) "com/example/hermit_crab/hermitcrab/LockOptionsCheckNamePinLaw" code 8 (some .boolean) "law" X [(a497, c522)] [] T520 1 (201) := W521
      rw [chV_set] at A523
      refine Go.goto W521 217 d_code_78 (by decide) ?_
      exact rm_tail_A G aa bb cc mm a497 c522 _ A523 200 (big_b h501 h509 h517) (by decide) (by decide) (3 : Int32) (W521.more (by first | exact Nat.le_of_ble_eq_true rfl | (simp; done) | (simp; omega) | omega) (by first | exact Nat.le_of_ble_eq_true rfl | (simp; done) | (simp; omega) | omega))
    · refine Go.sipush (pc' := 20) W0 (200 : Int32) d_code_17 (by decide) rfl ?_
      refine Go.newarr (pc' := 22) W0 .char rfl 200 (w_0 G) d_code_20 rfl (by decide) (by decide) (by decide) (by first | exact Nat.le_of_ble_eq_true rfl | (simp; done) | (simp; omega) | omega) (by first | exact Nat.le_of_ble_eq_true rfl | (simp; done) | (simp; omega) | omega) (fun T524 a526 c527 W525 A528 => ?_)
      replace W525 : Wk l Z EL1 ({ frames := 9, cells := 24, slots := 2752, locals := 208 } : Room) "com/example/hermit_crab/hermitcrab/LockOptionsCheckNamePinLaw" code 8 (some .boolean) "law" X [(a526, c527)] [] T524 1 (200) := W525
      rw [chV_rep] at A528
      refine Go.astore (pc' := 24) W525 #[.val (.int aa), .val (.int bb), .val (.int cc), .val (.int mm), .val (.int (3 : Int32)), .val (.ref a526), .unset, .unset] d_code_22 rfl rfl rfl ?_
      refine Go.aload (pc' := 26) W525 d_code_24 rfl rfl rfl ?_
      refine Go.iconst (pc' := 27) W525 (0 : Int32) d_code_26 (by decide) rfl ?_
      refine Go.iloadN (pc' := 28) W525 d_code_27 rfl rfl ?_
      refine Go.static (pc' := 31) W525 (rm_bmp G aa) (w_5 G) (w_6 G) (w_3 G) (w_7 G) (by decide) [] [] (σf := [(a526, c527)]) rfl rfl [(.int aa)] [(.int (0 : Int32)), (.ref a526)] rfl (lenOf pd_15 rfl) rfl rfl d_code_28 rfl (by first | exact Nat.le_of_ble_eq_true rfl | (simp; done) | (simp; omega) | omega) (by first | exact Nat.le_of_ble_eq_true rfl | (simp; done) | (simp; omega) | omega) (by first | exact Nat.le_of_ble_eq_true rfl | (simp; done) | (simp; omega) | omega) (by first | exact Nat.le_of_ble_eq_true rfl | (simp; done) | (simp; omega) | omega) ?_
      rintro _ _ _ T531 ⟨y529, rfl, h530, rfl, rfl⟩ W532
      replace W532 : Wk l Z EL1 ({ frames := 9, cells := 24, slots := 2752, locals := 208 } : Room) "com/example/hermit_crab/hermitcrab/LockOptionsCheckNamePinLaw" code 8 (some .boolean) "law" X [(a526, c527)] [] T531 1 (200) := W532
      show Go Z EL1 _ _ _ X T531 31 #[.val (.int aa), .val (.int bb), .val (.int cc), .val (.int mm), .val (.int (3 : Int32)), .val (.ref a526), .unset, .unset] [(.int y529), (.int (0 : Int32)), (.ref a526)]
      refine Go.castore (pc' := 32) W532 0 rfl A528 0 y529 (nar_char_id h530.1) (by decide) (by decide) (by simp) d_code_31 rfl (fun T533 c535 W534 A536 => ?_)
      replace W534 : Wk l Z EL1 ({ frames := 9, cells := 24, slots := 2752, locals := 208 } : Room) "com/example/hermit_crab/hermitcrab/LockOptionsCheckNamePinLaw" code 8 (some .boolean) "law" X [(a526, c535)] [] T533 1 (200) := W534
      rw [chV_set] at A536
      refine Go.aload (pc' := 34) W534 d_code_32 rfl rfl rfl ?_
      refine Go.sipush (pc' := 37) W534 (199 : Int32) d_code_34 (by decide) rfl ?_
      refine Go.iloadN (pc' := 38) W534 d_code_37 rfl rfl ?_
      refine Go.static (pc' := 41) W534 (rm_bmp G bb) (w_5 G) (w_6 G) (w_3 G) (w_7 G) (by decide) [] [] (σf := [(a526, c535)]) rfl rfl [(.int bb)] [(.int (199 : Int32)), (.ref a526)] rfl (lenOf pd_15 rfl) rfl rfl d_code_38 rfl (by first | exact Nat.le_of_ble_eq_true rfl | (simp; done) | (simp; omega) | omega) (by first | exact Nat.le_of_ble_eq_true rfl | (simp; done) | (simp; omega) | omega) (by first | exact Nat.le_of_ble_eq_true rfl | (simp; done) | (simp; omega) | omega) (by first | exact Nat.le_of_ble_eq_true rfl | (simp; done) | (simp; omega) | omega) ?_
      rintro _ _ _ T539 ⟨y537, rfl, h538, rfl, rfl⟩ W540
      replace W540 : Wk l Z EL1 ({ frames := 9, cells := 24, slots := 2752, locals := 208 } : Room) "com/example/hermit_crab/hermitcrab/LockOptionsCheckNamePinLaw" code 8 (some .boolean) "law" X [(a526, c535)] [] T539 1 (200) := W540
      show Go Z EL1 _ _ _ X T539 41 #[.val (.int aa), .val (.int bb), .val (.int cc), .val (.int mm), .val (.int (3 : Int32)), .val (.ref a526), .unset, .unset] [(.int y537), (.int (199 : Int32)), (.ref a526)]
      refine Go.castore (pc' := 42) W540 0 rfl A536 199 y537 (nar_char_id h538.1) (by decide) (by decide) (by simp) d_code_41 rfl (fun T541 c543 W542 A544 => ?_)
      replace W542 : Wk l Z EL1 ({ frames := 9, cells := 24, slots := 2752, locals := 208 } : Room) "com/example/hermit_crab/hermitcrab/LockOptionsCheckNamePinLaw" code 8 (some .boolean) "law" X [(a526, c543)] [] T541 1 (200) := W542
      rw [chV_set] at A544
      refine Go.goto W542 217 d_code_42 (by decide) ?_
      exact rm_tail_A G aa bb cc mm a526 c543 _ A544 200 (big_a h530 h538) (by decide) (by decide) (3 : Int32) (W542.more (by first | exact Nat.le_of_ble_eq_true rfl | (simp; done) | (simp; omega) | omega) (by first | exact Nat.le_of_ble_eq_true rfl | (simp; done) | (simp; omega) | omega))
set_option maxRecDepth 65536 in
set_option maxHeartbeats 40000000 in
theorem comes_1 {Post : Tables → Env → Array Value → State → Outcome → State → Prop} (hpost : ∀ tb e args s v u, (limb_1_1.after args s (.returned v) u = true ∧ limb_1_2.after args s (.returned v) u = true ∧ True) → ReturnedEndW s (.returned v) u (Jvm.fieldLocs frame_1_writes args s ++ Jvm.arrayLocs frame_1_arrays args s ++ Jvm.staticLocs frame_1_statics s) 24 2752 → Post tb e args s (.returned v) u) :
    ArmFor flags0 classFile x code maxLocals ret World_1 tables_1 room_1 Calls_1 rest_1 Pre_1 Post := by
  intro l hfl _ _ p e ha hc hk s m args below hf hA hF happ hP
  obtain ⟨hcalls, hrest, hpre⟩ := hP
  obtain ⟨-, -, -, hnamed, -, -, -, hat⟩ := (Spec.applies_iff hf).mp happ
  obtain ⟨hg, hn⟩ := and_e (Cond.before_iff.mp (show (Jvm.Cond.and given_1 narrow_1).before args s = true from hpre))
  obtain ⟨g0, h0⟩ := and_e hg
  obtain ⟨g1, h1⟩ := and_e h0
  obtain ⟨g2, h2⟩ := and_e h1
  obtain ⟨g3, h3⟩ := and_e h2
  have g4 := h3
  obtain ⟨w0, w1, w2, w3, rfl⟩ : ∃ w0 w1 w2 w3 : Value, args = #[w0, w1, w2, w3] := by
    have hs : args.size = 4 := by simpa [Cond.value, given_1] using g0
    obtain ⟨L⟩ := args
    match L, hs with
    | [w0, w1, w2, w3], _ => exact ⟨w0, w1, w2, w3, rfl⟩
  have hw := fun d (hd : d ∈ tables_1) => atoms_spec (ws := Jvm.Cond.code x code maxLocals ret :: tables_1) hat d (List.mem_cons_of_mem _ hd)
  obtain ⟨hsets, hown0⟩ := atoms_of _ (rest_1_c_eq ▸ (show rest_1_c.before _ s = true from hrest))
  have hfit : Fit s := fun {y c} hc i hi => by
    obtain ⟨ha, rfl⟩ := Array.getElem?_eq_some_iff.mp hc
    have q := List.all_eq_true.mp ((Array.all_eq_true_iff_forall_mem.mp hF) _ (Array.getElem_mem ha)) i (List.mem_range.mpr hi)
    simpa [Array.getElem?_eq_getElem hi] using q
  obtain ⟨i0, e0⟩ := is_v g1
  obtain rfl : w0 = (.int i0) := Option.some.inj e0
  obtain ⟨i1, e1⟩ := is_v g2
  obtain rfl : w1 = (.int i1) := Option.some.inj e1
  obtain ⟨i2, e2⟩ := is_v g3
  obtain rfl : w2 = (.int i2) := Option.some.inj e2
  obtain ⟨i3, e3⟩ := is_v g4
  obtain rfl : w3 = (.int i3) := Option.some.inj e3
  have n5 := not_v (Cond.before_iff.mp (hsets _ (List.mem_of_getElem? (i := 2) rfl)))
  obtain ⟨icv, ecv⟩ := is_v (Cond.before_iff.mp (hsets _ (List.mem_of_getElem? (i := 1) rfl)))
  have Scv : Sta s s.heap "java/lang/String" "COMPACT_STRINGS" "Z" (.int icv) := Sta.start ecv (Or.inl (hsets _ (List.mem_of_getElem? (i := 0) rfl)))
  have ccv : ¬ (icv = (0 : Int32)) := gotF (Cond.eq_ints ecv (Term.int_eval (0))) n5
  have hEL : EW s (#[.int i0, .int i1, .int i2, .int i3] : Array Value) EL1 := EW.nil
  obtain ⟨vfm, efm, rfm⟩ := isR_v (Cond.before_iff.mp (hsets _ (List.mem_of_getElem? (i := 8) rfl)))
  have Sfm : Sta s s.heap "jdk/internal/util/Preconditions" "SIOOBE_FORMATTER" "Ljava/util/function/BiFunction;" vfm := Sta.start efm (Or.inl (hsets _ (List.mem_of_getElem? (i := 7) rfl)))
  have SassertionsDisabled : Sta s s.heap "java/lang/StringUTF16" "$assertionsDisabled" "Z" (.int 1) := by
    obtain ⟨q1, q2, q3, q4, q5, -⟩ := cmp_v (Or.inl (Cond.before_iff.mp (hsets _ (List.mem_of_getElem? (i := 12) rfl))))
    exact Sta.start (eqI (Cond.before_iff.mp (hsets _ (List.mem_of_getElem? (i := 12) rfl)))) (Or.inl (hsets _ (List.mem_of_getElem? (i := 11) rfl)))
  have SHIBYTESHIFT : Sta s s.heap "java/lang/StringUTF16" "HI_BYTE_SHIFT" "I" (.int 0) := by
    obtain ⟨q1, q2, q3, q4, q5, -⟩ := cmp_v (Or.inl (Cond.before_iff.mp (hsets _ (List.mem_of_getElem? (i := 15) rfl))))
    exact Sta.start (eqI (Cond.before_iff.mp (hsets _ (List.mem_of_getElem? (i := 15) rfl)))) (Or.inl (hsets _ (List.mem_of_getElem? (i := 14) rfl)))
  have SLOBYTESHIFT : Sta s s.heap "java/lang/StringUTF16" "LO_BYTE_SHIFT" "I" (.int 8) := by
    obtain ⟨q1, q2, q3, q4, q5, -⟩ := cmp_v (Or.inl (Cond.before_iff.mp (hsets _ (List.mem_of_getElem? (i := 18) rfl))))
    exact Sta.start (eqI (Cond.before_iff.mp (hsets _ (List.mem_of_getElem? (i := 18) rfl)))) (Or.inl (hsets _ (List.mem_of_getElem? (i := 17) rfl)))
  have G : Cl s _ := ⟨hw, hEL, ⟨icv, Scv, ccv⟩, ⟨vfm, Sfm, rfm⟩, ⟨SassertionsDisabled, SHIBYTESHIFT, SLOBYTESHIFT⟩⟩
  have hCH : CHv s EL1 s.vm s.heap := fun p hp => nomatch hp
  have H0 : Hp s EL1 [] [] s [] [] s.vm s.heap := ⟨CHr.refl hCH, (fun _ q => nomatch q), (fun _ q => nomatch q), List.nodup_nil, (fun _ q => nomatch q), (fun _ q => nomatch q), (fun _ _ q _ => q), Nat.le_refl _, fun _ _ q => q⟩
  have happ' : (head1 [Jvm.Cond.code x code maxLocals ret] room_1).appliesLoose x e.platform s = true := by
    obtain ⟨q1, q2, q3, q4, q5, q6, q7, q8⟩ := (Spec.appliesLoose_iff hf).mp ((Spec.applies_iff_loose hf).mp happ).1
    refine (Spec.appliesLoose_iff hf).mpr ⟨q1, q2, q3, q4, q5, q6, q7, ?_⟩
    show (Jvm.Cond.and _ .tt).before _ s = true
    rw [Cond.before_and, atoms_spec (ws := Jvm.Cond.code x code maxLocals ret :: tables_1) hat _ (List.mem_cons_self ..)]; rfl
  obtain ⟨n, o, h1, h2, h3, v, σ, ρ, L, rfl, rfl, N, -, hq⟩ := rm_law G i0 i1 i2 i3  p e ha hc hk s m _ below hf happ' ⟨rfl, State.Warmed39.refl s, H0⟩ trivial
  refine ⟨n, _, h1, h2, h3, hpost _ _ _ _ _ _ ⟨Cond.after_iff.mpr rfl, Cond.after_iff.mpr (eq_i res_at (Term.int_eval (1)) rfl), trivial⟩ ⟨hq.1, hq.2.1, hq.2.2.1, (hq.2.2.2.sift fun y hy => Or.inr (N y hy)).mono (by decide) (by decide)⟩⟩
theorem main_1_1 : Claimed_1_1 := comes_1 fun _ _ _ _ _ _ h hF => ⟨h.1, hF⟩
theorem main_1_2 : Claimed_1_2 := comes_1 fun _ _ _ _ _ _ h hF => ⟨h.2.1, hF⟩
end Jvm.Pilot.@@N@@
namespace Jvm.Pilot.@@N@@
open Jvm Jvm.ClassFile Sem Op Lib Jvm.Free Jvm.Stand Jvm.Pilot.@@N@@.Jvm.D
/-! MADE BY PROGRAM (witnessworld.py) out of the Statement's table words and the real class files: 22 classes; the members and pool entries that the words name. The judged class is class 1, her method 5. -/
namespace start1
open Jvm.ClassFile
def u (s : String) : CpInfo := .utf8 (stringToUtf16 s)
/-- a pool by its gaps: so many unusable entries, then the entry; so many at the end -/
def gap : Nat → List CpInfo → List CpInfo
  | 0, r => r
  | n + 1, r => .unusable :: gap n r
def poolList (es : List (Nat × CpInfo)) (last : Nat) : List CpInfo := es.foldr (fun e r => gap e.1 (e.2 :: r)) (gap last [])
def pool (es : List (Nat × CpInfo)) (last : Nat) : Array CpInfo := ⟨poolList es last⟩
def fileOf (pool : Array CpInfo) (this : Nat) (attrs : Array Attribute := #[]) (ms : Array MethodInfo := #[]) (fl : Nat := 33) (sup : Nat := 0) (ifs : Array Nat := #[]) (fds : Array FieldInfo := #[]) : ClassFile where
  minorVersion := 0
  majorVersion := 65
  constantPool := pool
  accessFlags := fl
  thisClass := this
  superClass := sup
  interfaces := ifs
  fields := fds
  methods := ms
  attributes := attrs
def plain (name : String) (sup : Option ClassId) : Class where
  name := name
  kind := .ordinary
  loader := none
  accessFlags := 33
  super := sup
  interfaces := #[]
  cf := none
  fields := #[]
  methods := #[]
  instanceTypes := #[]
  staticTypes := #[]
  resolved := #[]
  callSites := []
  init := .initialized
  statics := none
  mirror := none

def pool0 : Array CpInfo := pool [(5, u "<init>"), (0, u "()V"), (1, .class_ 10), (1, u "java/lang/Object")] 113

def k0c0 : Code := { maxStack := 0, maxLocals := 1, code := object_method_1_code, exceptionTable := #[], attributes := #[] }
def k0m0 : Method := { name := "<init>", desc := "()V", sig := { parameters := [], returnType := none }, accessFlags := 1, code := some k0c0 }
/-- java/lang/Object -/
def k0 : Class := { plain "java/lang/Object" none with
  accessFlags := 33
  interfaces := #[]
  cf := some (fileOf pool0 8 #[] #[{ accessFlags := 1, nameIndex := 5, descriptorIndex := 6, attributes := #[] }] 33 0 #[] #[])
  fields := #[]
  methods := #[k0m0]
  instanceTypes := #[]
  staticTypes := #[]
  resolved := Array.replicate 124 none
  statics := none }

def pool1 : Array CpInfo := pool [(2, .class_ 4), (1, u "java/lang/Object"), (0, u "<init>"), (0, u "()V"), (0, .integer 65535), (0, .integer 55296), (0, .integer 57343), (0, .integer 56320), (0, .methodref 12 13), (0, .class_ 14), (0, .nameAndType 15 16), (0, u "com/example/hermit_crab/hermitcrab/LockOptionsCheckNamePinLaw"), (0, u "bmp"), (0, u "(I)C"), (0, .methodref 12 18), (0, .nameAndType 19 16), (0, u "high"), (0, .methodref 12 21), (0, .nameAndType 22 16), (0, u "low"), (0, .methodref 12 24), (0, .nameAndType 25 26), (0, u "put"), (0, u "([CII)I"), (0, .class_ 28), (0, u "java/lang/String"), (0, .methodref 27 30), (0, .nameAndType 5 31), (0, u "([C)V"), (0, .methodref 33 34), (0, .class_ 35), (0, .nameAndType 36 37), (0, u "com/example/hermit_crab/hermitcrab/LockOptions"), (0, u "checkName"), (0, u "(Ljava/lang/String;)Ljava/lang/String;"), (3, u "law"), (0, u "(IIII)Z")] 4

def k1m0 : Method := { name := "<init>", desc := "()V", sig := { parameters := [], returnType := none }, accessFlags := 1, code := none }
def k1c1 : Code := { maxStack := 2, maxLocals := 2, code := method_2_code, exceptionTable := #[], attributes := #[] }
def k1m1 : Method := { name := "bmp", desc := "(I)C", sig := { parameters := [.int], returnType := some .char }, accessFlags := 10, code := some k1c1 }
def k1c2 : Code := { maxStack := 3, maxLocals := 1, code := method_3_code, exceptionTable := #[], attributes := #[] }
def k1m2 : Method := { name := "high", desc := "(I)C", sig := { parameters := [.int], returnType := some .char }, accessFlags := 10, code := some k1c2 }
def k1c3 : Code := { maxStack := 3, maxLocals := 1, code := method_4_code, exceptionTable := #[], attributes := #[] }
def k1m3 : Method := { name := "low", desc := "(I)C", sig := { parameters := [.int], returnType := some .char }, accessFlags := 10, code := some k1c3 }
def k1c4 : Code := { maxStack := 3, maxLocals := 3, code := method_5_code, exceptionTable := #[], attributes := #[] }
def k1m4 : Method := { name := "put", desc := "([CII)I", sig := { parameters := [(.array .char), .int, .int], returnType := some .int }, accessFlags := 10, code := some k1c4 }
def k1c5 : Code := { maxStack := 4, maxLocals := 8, code := code, exceptionTable := #[], attributes := #[] }
def k1m5 : Method := { name := "law", desc := "(IIII)Z", sig := { parameters := [.int, .int, .int, .int], returnType := some .boolean }, accessFlags := 9, code := some k1c5 }
/-- com/example/hermit_crab/hermitcrab/LockOptionsCheckNamePinLaw -/
def k1 : Class := { plain "com/example/hermit_crab/hermitcrab/LockOptionsCheckNamePinLaw" (some 0) with
  accessFlags := 49
  interfaces := #[]
  cf := some (fileOf pool1 12 #[] #[{ accessFlags := 1, nameIndex := 5, descriptorIndex := 6, attributes := #[] }, { accessFlags := 10, nameIndex := 15, descriptorIndex := 16, attributes := #[] }, { accessFlags := 10, nameIndex := 19, descriptorIndex := 16, attributes := #[] }, { accessFlags := 10, nameIndex := 22, descriptorIndex := 16, attributes := #[] }, { accessFlags := 10, nameIndex := 25, descriptorIndex := 26, attributes := #[] }, { accessFlags := 9, nameIndex := 41, descriptorIndex := 42, attributes := #[] }] 49 2 #[] #[])
  fields := #[]
  methods := #[k1m0, k1m1, k1m2, k1m3, k1m4, k1m5]
  instanceTypes := #[]
  staticTypes := #[]
  resolved := Array.replicate 47 none
  statics := none }

def pool2 : Array CpInfo := pool [(1, .class_ 2), (0, u "java/io/Serializable"), (0, .class_ 4), (0, u "java/lang/Object")] 2

/-- java/io/Serializable -/
def k2 : Class := { plain "java/io/Serializable" (some 0) with
  accessFlags := 1537
  interfaces := #[]
  cf := some (fileOf pool2 1 #[] #[] 1537 3 #[] #[])
  fields := #[]
  methods := #[]
  instanceTypes := #[]
  staticTypes := #[]
  resolved := Array.replicate 7 none
  statics := none }

def pool3 : Array CpInfo := pool [(1, .class_ 2), (0, u "java/lang/Comparable"), (0, .class_ 4), (0, u "java/lang/Object")] 7

/-- java/lang/Comparable -/
def k3 : Class := { plain "java/lang/Comparable" (some 0) with
  accessFlags := 1537
  interfaces := #[]
  cf := some (fileOf pool3 1 #[] #[] 1537 3 #[] #[])
  fields := #[]
  methods := #[]
  instanceTypes := #[]
  staticTypes := #[]
  resolved := Array.replicate 12 none
  statics := none }

def pool4 : Array CpInfo := pool [(2, .class_ 4), (1, u "java/lang/CharSequence"), (42, .class_ 48), (0, u "java/lang/CharSequence$1CodePointIterator"), (10, .class_ 60), (0, u "java/lang/CharSequence$1CharIterator"), (5, .class_ 67), (0, u "java/lang/Object")] 63

/-- java/lang/CharSequence -/
def k4 : Class := { plain "java/lang/CharSequence" (some 0) with
  accessFlags := 1537
  interfaces := #[]
  cf := some (fileOf pool4 2 #[.nestMembers #[47, 59]] #[] 1537 66 #[] #[])
  fields := #[]
  methods := #[]
  instanceTypes := #[]
  staticTypes := #[]
  resolved := Array.replicate 131 none
  statics := none }

def pool5 : Array CpInfo := pool [(1, .class_ 2), (0, u "java/lang/constant/Constable"), (0, .class_ 4), (0, u "java/lang/Object")] 6

/-- java/lang/constant/Constable -/
def k5 : Class := { plain "java/lang/constant/Constable" (some 0) with
  accessFlags := 1537
  interfaces := #[]
  cf := some (fileOf pool5 1 #[] #[] 1537 3 #[] #[])
  fields := #[]
  methods := #[]
  instanceTypes := #[]
  staticTypes := #[]
  resolved := Array.replicate 11 none
  statics := none }

def pool6 : Array CpInfo := pool [(1, .class_ 2), (0, u "java/lang/constant/ConstantDesc"), (0, .class_ 4), (0, u "java/lang/Object")] 32

/-- java/lang/constant/ConstantDesc -/
def k6 : Class := { plain "java/lang/constant/ConstantDesc" (some 0) with
  accessFlags := 1537
  interfaces := #[]
  cf := some (fileOf pool6 1 #[] #[] 1537 3 #[] #[])
  fields := #[]
  methods := #[]
  instanceTypes := #[]
  staticTypes := #[]
  resolved := Array.replicate 37 none
  statics := none }

def pool7 : Array CpInfo := pool [(1, .methodref 2 3), (0, .class_ 4), (0, .nameAndType 5 6), (0, u "java/lang/Object"), (0, u "<init>"), (0, u "()V"), (2, .fieldref 10 11), (0, .class_ 12), (0, .nameAndType 13 14), (0, u "java/lang/String"), (0, u "value"), (0, u "[B"), (0, .fieldref 10 16), (0, .nameAndType 17 18), (0, u "coder"), (0, u "B"), (2, u "hash"), (0, u "I"), (2, u "hashIsZero"), (0, u "Z"), (0, .methodref 10 28), (0, .nameAndType 5 29), (0, u "([CIILjava/lang/Void;)V"), (8, .fieldref 10 39), (0, .nameAndType 40 26), (0, u "COMPACT_STRINGS"), (1, .class_ 44), (1, u "java/lang/StringUTF16"), (0, u "compress"), (1, .methodref 42 48), (0, .nameAndType 49 50), (0, u "coderFromArrayLen"), (0, u "([BI)B"), (46, u "([BII)I"), (44, u "()Z"), (34, .methodref 42 178), (0, .nameAndType 45 179), (0, u "([CII)[B"), (154, u "()I"), (0, .methodref 10 336), (0, .nameAndType 17 337), (0, u "()B"), (53, u "(II)V"), (100, .methodref 10 493), (0, .nameAndType 494 142), (0, u "isLatin1"), (4, .methodref 10 500), (0, .nameAndType 501 391), (0, u "checkIndex"), (0, .methodref 42 503), (0, .nameAndType 504 97), (0, u "codePointAt"), (2, u "length"), (67, .class_ 576), (0, u "java/lang/CharSequence"), (22, u "CASE_INSENSITIVE_ORDER"), (0, u "Ljava/util/Comparator;"), (91, u "isEmpty"), (72, u "(I)I"), (244, u "([C)V"), (42, .fieldref 1054 1055), (0, .class_ 1056), (0, .nameAndType 1057 1058), (0, u "jdk/internal/util/Preconditions"), (0, u "SIOOBE_FORMATTER"), (0, u "Ljava/util/function/BiFunction;"), (0, .methodref 1054 1060), (0, .nameAndType 501 1061), (0, u "(IILjava/util/function/BiFunction;)I"), (39, u "serialPersistentFields"), (0, u "[Ljava/io/ObjectStreamField;"), (0, .class_ 1104), (0, u "java/lang/String$CaseInsensitiveComparator"), (1, .class_ 1107), (0, u "java/io/Serializable"), (0, .class_ 1109), (0, u "java/lang/Comparable"), (0, .class_ 1111), (0, u "java/lang/constant/Constable"), (0, .class_ 1113), (0, u "java/lang/constant/ConstantDesc"), (2, u "serialVersionUID"), (0, u "J"), (3, u "REPL"), (0, u "C"), (2, u "LATIN1"), (1, u "UTF16")] 323

def k7m0 : Method := { name := "<init>", desc := "()V", sig := { parameters := [], returnType := none }, accessFlags := 1, code := none }
def k7c1 : Code := { maxStack := 5, maxLocals := 2, code := jdk_42_method_3_code, exceptionTable := #[], attributes := #[] }
def k7m1 : Method := { name := "<init>", desc := "([C)V", sig := { parameters := [(.array .char)], returnType := none }, accessFlags := 1, code := some k7c1 }
def k7c2 : Code := { maxStack := 2, maxLocals := 1, code := jdk_42_method_54_code, exceptionTable := #[], attributes := #[] }
def k7m2 : Method := { name := "length", desc := "()I", sig := { parameters := [], returnType := some .int }, accessFlags := 1, code := some k7c2 }
def k7c3 : Code := { maxStack := 1, maxLocals := 1, code := jdk_42_method_55_code, exceptionTable := #[], attributes := #[] }
def k7m3 : Method := { name := "isEmpty", desc := "()Z", sig := { parameters := [], returnType := some .boolean }, accessFlags := 1, code := some k7c3 }
def k7c4 : Code := { maxStack := 3, maxLocals := 3, code := jdk_42_method_57_code, exceptionTable := #[], attributes := #[] }
def k7m4 : Method := { name := "codePointAt", desc := "(I)I", sig := { parameters := [.int], returnType := some .int }, accessFlags := 1, code := some k7c4 }
def k7c5 : Code := { maxStack := 4, maxLocals := 6, code := jdk_42_method_149_code, exceptionTable := #[], attributes := #[] }
def k7m5 : Method := { name := "<init>", desc := "([CIILjava/lang/Void;)V", sig := { parameters := [(.array .char), .int, .int, (.object "java/lang/Void")], returnType := none }, accessFlags := 2, code := some k7c5 }
def k7c6 : Code := { maxStack := 1, maxLocals := 1, code := jdk_42_method_152_code, exceptionTable := #[], attributes := #[] }
def k7m6 : Method := { name := "coder", desc := "()B", sig := { parameters := [], returnType := some .byte }, accessFlags := 0, code := some k7c6 }
def k7c7 : Code := { maxStack := 1, maxLocals := 1, code := jdk_42_method_154_code, exceptionTable := #[], attributes := #[] }
def k7m7 : Method := { name := "isLatin1", desc := "()Z", sig := { parameters := [], returnType := some .boolean }, accessFlags := 0, code := some k7c7 }
def k7c8 : Code := { maxStack := 3, maxLocals := 2, code := jdk_42_method_155_code, exceptionTable := #[], attributes := #[] }
def k7m8 : Method := { name := "checkIndex", desc := "(II)V", sig := { parameters := [.int, .int], returnType := none }, accessFlags := 8, code := some k7c8 }
/-- java/lang/String -/
def k7 : Class := { plain "java/lang/String" (some 0) with
  accessFlags := 49
  interfaces := #[2, 3, 4, 5, 6]
  cf := some (fileOf pool7 10 #[.nestMembers #[1103]] #[{ accessFlags := 1, nameIndex := 5, descriptorIndex := 6, attributes := #[] }, { accessFlags := 1, nameIndex := 5, descriptorIndex := 1010, attributes := #[] }, { accessFlags := 1, nameIndex := 507, descriptorIndex := 334, attributes := #[] }, { accessFlags := 1, nameIndex := 692, descriptorIndex := 142, attributes := #[] }, { accessFlags := 1, nameIndex := 504, descriptorIndex := 765, attributes := #[] }, { accessFlags := 2, nameIndex := 5, descriptorIndex := 29, attributes := #[] }, { accessFlags := 0, nameIndex := 17, descriptorIndex := 337, attributes := #[] }, { accessFlags := 0, nameIndex := 494, descriptorIndex := 142, attributes := #[] }, { accessFlags := 8, nameIndex := 501, descriptorIndex := 391, attributes := #[] }] 49 2 #[1106, 1108, 575, 1110, 1112] #[{ accessFlags := 18, nameIndex := 13, descriptorIndex := 14, attributes := #[] }, { accessFlags := 18, nameIndex := 17, descriptorIndex := 18, attributes := #[] }, { accessFlags := 2, nameIndex := 21, descriptorIndex := 22, attributes := #[] }, { accessFlags := 2, nameIndex := 25, descriptorIndex := 26, attributes := #[] }, { accessFlags := 26, nameIndex := 1116, descriptorIndex := 1117, attributes := #[] }, { accessFlags := 24, nameIndex := 40, descriptorIndex := 26, attributes := #[] }, { accessFlags := 26, nameIndex := 1101, descriptorIndex := 1102, attributes := #[] }, { accessFlags := 26, nameIndex := 1121, descriptorIndex := 1122, attributes := #[] }, { accessFlags := 25, nameIndex := 599, descriptorIndex := 600, attributes := #[] }, { accessFlags := 24, nameIndex := 1125, descriptorIndex := 18, attributes := #[] }, { accessFlags := 24, nameIndex := 1127, descriptorIndex := 18, attributes := #[] }])
  fields := #[{ name := "value", type := (.array .byte), accessFlags := 18, slot := 0, constantValue := 0 }, { name := "coder", type := .byte, accessFlags := 18, slot := 1, constantValue := 0 }, { name := "hash", type := .int, accessFlags := 2, slot := 2, constantValue := 0 }, { name := "hashIsZero", type := .boolean, accessFlags := 2, slot := 3, constantValue := 0 }, { name := "serialVersionUID", type := .long, accessFlags := 26, slot := 0, constantValue := 0 }, { name := "COMPACT_STRINGS", type := .boolean, accessFlags := 24, slot := 1, constantValue := 0 }, { name := "serialPersistentFields", type := (.array (.object "java/io/ObjectStreamField")), accessFlags := 26, slot := 2, constantValue := 0 }, { name := "REPL", type := .char, accessFlags := 26, slot := 3, constantValue := 0 }, { name := "CASE_INSENSITIVE_ORDER", type := (.object "java/util/Comparator"), accessFlags := 25, slot := 4, constantValue := 0 }, { name := "LATIN1", type := .byte, accessFlags := 24, slot := 5, constantValue := 0 }, { name := "UTF16", type := .byte, accessFlags := 24, slot := 6, constantValue := 0 }]
  methods := #[k7m0, k7m1, k7m2, k7m3, k7m4, k7m5, k7m6, k7m7, k7m8]
  instanceTypes := #[(.array .byte), .byte, .int, .boolean]
  staticTypes := #[.long, .boolean, (.array (.object "java/io/ObjectStreamField")), .char, (.object "java/util/Comparator"), .byte, .byte]
  resolved := Array.replicate 1451 none
  statics := some 0 }

def pool8 : Array CpInfo := pool [(6, .class_ 8), (1, u "java/lang/Object"), (0, u "<init>"), (0, u "()V"), (0, .methodref 12 13), (0, .class_ 14), (0, .nameAndType 15 16), (0, u "java/lang/StringUTF16"), (0, u "newBytesLength"), (0, u "(I)I"), (3, .integer 1073741823), (23, .fieldref 12 45), (0, .nameAndType 46 47), (0, u "$assertionsDisabled"), (0, u "Z"), (11, .fieldref 12 60), (0, .nameAndType 61 62), (0, u "HI_BYTE_SHIFT"), (0, u "I"), (0, .fieldref 12 64), (0, .nameAndType 65 62), (0, u "LO_BYTE_SHIFT"), (5, .methodref 12 72), (0, .nameAndType 73 74), (0, u "getChar"), (0, u "([BI)C"), (0, .methodref 76 77), (0, .class_ 78), (0, .nameAndType 79 80), (0, u "java/lang/Character"), (0, u "isHighSurrogate"), (0, u "(C)Z"), (0, .methodref 76 82), (0, .nameAndType 83 80), (0, u "isLowSurrogate"), (0, .methodref 76 85), (0, .nameAndType 86 87), (0, u "toCodePoint"), (0, u "(CC)I"), (0, .methodref 12 89), (0, .nameAndType 90 91), (0, u "codePointAt"), (0, u "([BIIZ)I"), (15, .methodref 12 108), (0, .nameAndType 109 110), (0, u "newBytesFor"), (0, u "(I)[B"), (0, .methodref 12 112), (0, .nameAndType 113 114), (0, u "putChar"), (0, u "([BII)V"), (0, .methodref 12 116), (0, .nameAndType 117 118), (0, u "compress"), (0, u "([CI[BII)I"), (0, .methodref 12 120), (0, .nameAndType 121 122), (0, u "toBytes"), (0, u "([CII)[B"), (127, u "([BII)I"), (10, u "coderFromArrayLen"), (0, u "([BI)B"), (106, .class_ 371), (1, u "java/lang/StringUTF16$LinesSpliterator"), (58, u "MAX_LENGTH"), (196, .class_ 628), (0, u "java/lang/StringUTF16$CodePointsSpliterator"), (0, .class_ 630), (0, u "java/lang/StringUTF16$CharsSpliterator")] 4

def k8m0 : Method := { name := "<init>", desc := "()V", sig := { parameters := [], returnType := none }, accessFlags := 0, code := none }
def k8c1 : Code := { maxStack := 1, maxLocals := 1, code := jdk_52_method_2_code, exceptionTable := #[], attributes := #[] }
def k8m1 : Method := { name := "newBytesFor", desc := "(I)[B", sig := { parameters := [.int], returnType := some (.array .byte) }, accessFlags := 9, code := some k8c1 }
def k8c2 : Code := { maxStack := 4, maxLocals := 1, code := jdk_52_method_3_code, exceptionTable := #[], attributes := #[] }
def k8m2 : Method := { name := "newBytesLength", desc := "(I)I", sig := { parameters := [.int], returnType := some .int }, accessFlags := 9, code := some k8c2 }
def k8c3 : Code := { maxStack := 4, maxLocals := 3, code := jdk_52_method_4_code, exceptionTable := #[], attributes := #[] }
def k8m3 : Method := { name := "putChar", desc := "([BII)V", sig := { parameters := [(.array .byte), .int, .int], returnType := none }, accessFlags := 8, code := some k8c3 }
def k8c4 : Code := { maxStack := 3, maxLocals := 2, code := jdk_52_method_5_code, exceptionTable := #[], attributes := #[] }
def k8m4 : Method := { name := "getChar", desc := "([BI)C", sig := { parameters := [(.array .byte), .int], returnType := some .char }, accessFlags := 8, code := some k8c4 }
def k8c5 : Code := { maxStack := 2, maxLocals := 6, code := jdk_52_method_7_code, exceptionTable := #[], attributes := #[] }
def k8m5 : Method := { name := "codePointAt", desc := "([BIIZ)I", sig := { parameters := [(.array .byte), .int, .int, .boolean], returnType := some .int }, accessFlags := 10, code := some k8c5 }
def k8c6 : Code := { maxStack := 4, maxLocals := 3, code := jdk_52_method_8_code, exceptionTable := #[], attributes := #[] }
def k8m6 : Method := { name := "codePointAt", desc := "([BII)I", sig := { parameters := [(.array .byte), .int, .int], returnType := some .int }, accessFlags := 9, code := some k8c6 }
def k8c7 : Code := { maxStack := 4, maxLocals := 5, code := jdk_52_method_14_code, exceptionTable := #[], attributes := #[] }
def k8m7 : Method := { name := "toBytes", desc := "([CII)[B", sig := { parameters := [(.array .char), .int, .int], returnType := some (.array .byte) }, accessFlags := 9, code := some k8c7 }
def k8c8 : Code := { maxStack := 2, maxLocals := 2, code := jdk_52_method_15_code, exceptionTable := #[], attributes := #[] }
def k8m8 : Method := { name := "coderFromArrayLen", desc := "([BI)B", sig := { parameters := [(.array .byte), .int], returnType := some .byte }, accessFlags := 8, code := some k8c8 }
def k8c9 : Code := { maxStack := 5, maxLocals := 6, code := jdk_52_method_16_code, exceptionTable := #[], attributes := #[] }
def k8m9 : Method := { name := "compress", desc := "([CII)[B", sig := { parameters := [(.array .char), .int, .int], returnType := some (.array .byte) }, accessFlags := 9, code := some k8c9 }
def k8c10 : Code := { maxStack := 3, maxLocals := 7, code := jdk_52_method_21_code, exceptionTable := #[], attributes := #[] }
def k8m10 : Method := { name := "compress", desc := "([CI[BII)I", sig := { parameters := [(.array .char), .int, (.array .byte), .int, .int], returnType := some .int }, accessFlags := 9, code := some k8c10 }
/-- java/lang/StringUTF16 -/
def k8 : Class := { plain "java/lang/StringUTF16" (some 0) with
  accessFlags := 48
  interfaces := #[]
  cf := some (fileOf pool8 12 #[.nestMembers #[627, 629, 369]] #[{ accessFlags := 0, nameIndex := 9, descriptorIndex := 10, attributes := #[] }, { accessFlags := 9, nameIndex := 109, descriptorIndex := 110, attributes := #[] }, { accessFlags := 9, nameIndex := 15, descriptorIndex := 16, attributes := #[] }, { accessFlags := 8, nameIndex := 113, descriptorIndex := 114, attributes := #[] }, { accessFlags := 8, nameIndex := 73, descriptorIndex := 74, attributes := #[] }, { accessFlags := 10, nameIndex := 90, descriptorIndex := 91, attributes := #[] }, { accessFlags := 9, nameIndex := 90, descriptorIndex := 250, attributes := #[] }, { accessFlags := 9, nameIndex := 121, descriptorIndex := 122, attributes := #[] }, { accessFlags := 8, nameIndex := 261, descriptorIndex := 262, attributes := #[] }, { accessFlags := 9, nameIndex := 117, descriptorIndex := 122, attributes := #[] }, { accessFlags := 9, nameIndex := 117, descriptorIndex := 118, attributes := #[] }] 48 6 #[] #[{ accessFlags := 26, nameIndex := 61, descriptorIndex := 62, attributes := #[] }, { accessFlags := 26, nameIndex := 65, descriptorIndex := 62, attributes := #[] }, { accessFlags := 24, nameIndex := 430, descriptorIndex := 62, attributes := #[] }, { accessFlags := 4120, nameIndex := 46, descriptorIndex := 47, attributes := #[] }])
  fields := #[{ name := "HI_BYTE_SHIFT", type := .int, accessFlags := 26, slot := 0, constantValue := 0 }, { name := "LO_BYTE_SHIFT", type := .int, accessFlags := 26, slot := 1, constantValue := 0 }, { name := "MAX_LENGTH", type := .int, accessFlags := 24, slot := 2, constantValue := 0 }, { name := "$assertionsDisabled", type := .boolean, accessFlags := 4120, slot := 3, constantValue := 0 }]
  methods := #[k8m0, k8m1, k8m2, k8m3, k8m4, k8m5, k8m6, k8m7, k8m8, k8m9, k8m10]
  instanceTypes := #[]
  staticTypes := #[.int, .int, .int, .boolean]
  resolved := Array.replicate 635 none
  statics := some 1 }

def pool9 : Array CpInfo := pool [(2, .class_ 4), (1, u "java/lang/Object"), (3, .class_ 10), (1, u "com/example/hermit_crab/hermitcrab/LockOptions"), (0, u "defaultLease"), (0, u "Ljava/time/Duration;"), (2, u "DEFAULTS"), (0, u "Lcom/example/hermit_crab/hermitcrab/LockOptions;"), (9, .methodref 27 28), (0, .class_ 29), (0, .nameAndType 30 31), (0, u "java/util/Objects"), (0, u "requireNonNull"), (0, u "(Ljava/lang/Object;Ljava/lang/String;)Ljava/lang/Object;"), (2, u "MIN_LEASE"), (8, u "MAX_LEASE"), (10, .class_ 56), (1, u "java/lang/String"), (9, .string 67), (0, u "name"), (0, .methodref 54 69), (0, .nameAndType 70 71), (0, u "isEmpty"), (0, u "()Z"), (2, .methodref 54 75), (0, .nameAndType 76 77), (0, u "length"), (0, u "()I"), (0, .methodref 54 79), (0, .nameAndType 80 81), (0, u "codePointAt"), (0, u "(I)I"), (0, .class_ 83), (0, u "java/lang/Character"), (0, .integer 55296), (0, .integer 57343), (3, .methodref 82 90), (0, .nameAndType 91 81), (0, u "charCount"), (8, u "(Ljava/lang/String;)Ljava/lang/String;"), (18, u "DEFAULT_LEASE"), (0, u "MAX_NAME_LENGTH"), (0, u "I"), (10, u "checkName")] 25

def k9c0 : Code := { maxStack := 3, maxLocals := 4, code := prog_13_method_6_code, exceptionTable := #[], attributes := #[] }
def k9m0 : Method := { name := "checkName", desc := "(Ljava/lang/String;)Ljava/lang/String;", sig := { parameters := [(.object "java/lang/String")], returnType := some (.object "java/lang/String") }, accessFlags := 8, code := some k9c0 }
/-- com/example/hermit_crab/hermitcrab/LockOptions -/
def k9 : Class := { plain "com/example/hermit_crab/hermitcrab/LockOptions" (some 0) with
  accessFlags := 49
  interfaces := #[]
  cf := some (fileOf pool9 8 #[] #[{ accessFlags := 8, nameIndex := 132, descriptorIndex := 100, attributes := #[] }] 49 2 #[] #[{ accessFlags := 24, nameIndex := 34, descriptorIndex := 12, attributes := #[] }, { accessFlags := 24, nameIndex := 43, descriptorIndex := 12, attributes := #[] }, { accessFlags := 24, nameIndex := 119, descriptorIndex := 12, attributes := #[] }, { accessFlags := 24, nameIndex := 120, descriptorIndex := 121, attributes := #[] }, { accessFlags := 26, nameIndex := 15, descriptorIndex := 16, attributes := #[] }, { accessFlags := 18, nameIndex := 11, descriptorIndex := 12, attributes := #[] }])
  fields := #[{ name := "MIN_LEASE", type := (.object "java/time/Duration"), accessFlags := 24, slot := 0, constantValue := 0 }, { name := "MAX_LEASE", type := (.object "java/time/Duration"), accessFlags := 24, slot := 1, constantValue := 0 }, { name := "DEFAULT_LEASE", type := (.object "java/time/Duration"), accessFlags := 24, slot := 2, constantValue := 0 }, { name := "MAX_NAME_LENGTH", type := .int, accessFlags := 24, slot := 3, constantValue := 0 }, { name := "DEFAULTS", type := (.object "com/example/hermit_crab/hermitcrab/LockOptions"), accessFlags := 26, slot := 4, constantValue := 0 }, { name := "defaultLease", type := (.object "java/time/Duration"), accessFlags := 18, slot := 0, constantValue := 0 }]
  methods := #[k9m0]
  instanceTypes := #[(.object "java/time/Duration")]
  staticTypes := #[(.object "java/time/Duration"), (.object "java/time/Duration"), (.object "java/time/Duration"), .int, (.object "com/example/hermit_crab/hermitcrab/LockOptions")]
  resolved := Array.replicate 158 none
  statics := none }

def pool10 : Array CpInfo := pool [(2, .class_ 4), (1, u "java/lang/Object"), (0, u "<init>"), (0, u "()V"), (35, .class_ 44), (1, u "java/util/Objects"), (0, u "requireNonNull"), (48, u "(Ljava/lang/Object;Ljava/lang/String;)Ljava/lang/Object;")] 89

def k10m0 : Method := { name := "<init>", desc := "()V", sig := { parameters := [], returnType := none }, accessFlags := 2, code := none }
def k10c1 : Code := { maxStack := 3, maxLocals := 2, code := jdk_31_method_11_code, exceptionTable := #[], attributes := #[] }
def k10m1 : Method := { name := "requireNonNull", desc := "(Ljava/lang/Object;Ljava/lang/String;)Ljava/lang/Object;", sig := { parameters := [(.object "java/lang/Object"), (.object "java/lang/String")], returnType := some (.object "java/lang/Object") }, accessFlags := 9, code := some k10c1 }
/-- java/util/Objects -/
def k10 : Class := { plain "java/util/Objects" (some 0) with
  accessFlags := 49
  interfaces := #[]
  cf := some (fileOf pool10 42 #[] #[{ accessFlags := 2, nameIndex := 5, descriptorIndex := 6, attributes := #[] }, { accessFlags := 9, nameIndex := 45, descriptorIndex := 94, attributes := #[] }] 49 2 #[] #[])
  fields := #[]
  methods := #[k10m0, k10m1]
  instanceTypes := #[]
  staticTypes := #[]
  resolved := Array.replicate 184 none
  statics := none }

def pool11 : Array CpInfo := pool [(2, .class_ 4), (1, u "java/lang/Object"), (0, u "<init>"), (0, u "()V"), (17, .class_ 26), (1, u "jdk/internal/util/Preconditions"), (6, u "checkIndex"), (21, .class_ 56), (0, u "jdk/internal/util/Preconditions$4"), (57, .class_ 115), (0, u "jdk/internal/util/Preconditions$1"), (7, u "SIOOBE_FORMATTER"), (0, u "Ljava/util/function/BiFunction;"), (0, .class_ 126), (0, u "jdk/internal/util/Preconditions$2"), (3, u "AIOOBE_FORMATTER"), (0, .class_ 132), (0, u "jdk/internal/util/Preconditions$3"), (3, u "IOOBE_FORMATTER"), (41, u "(IILjava/util/function/BiFunction;)I")] 15

def k11m0 : Method := { name := "<init>", desc := "()V", sig := { parameters := [], returnType := none }, accessFlags := 1, code := none }
def k11c1 : Code := { maxStack := 3, maxLocals := 3, code := jdk_41_method_11_code, exceptionTable := #[], attributes := #[] }
def k11m1 : Method := { name := "checkIndex", desc := "(IILjava/util/function/BiFunction;)I", sig := { parameters := [.int, .int, (.object "java/util/function/BiFunction")], returnType := some .int }, accessFlags := 9, code := some k11c1 }
/-- jdk/internal/util/Preconditions -/
def k11 : Class := { plain "jdk/internal/util/Preconditions" (some 0) with
  accessFlags := 33
  interfaces := #[]
  cf := some (fileOf pool11 24 #[.nestMembers #[55, 131, 125, 114]] #[{ accessFlags := 1, nameIndex := 5, descriptorIndex := 6, attributes := #[] }, { accessFlags := 9, nameIndex := 33, descriptorIndex := 178, attributes := #[] }] 33 2 #[] #[{ accessFlags := 25, nameIndex := 123, descriptorIndex := 124, attributes := #[] }, { accessFlags := 25, nameIndex := 130, descriptorIndex := 124, attributes := #[] }, { accessFlags := 25, nameIndex := 136, descriptorIndex := 124, attributes := #[] }])
  fields := #[{ name := "SIOOBE_FORMATTER", type := (.object "java/util/function/BiFunction"), accessFlags := 25, slot := 0, constantValue := 0 }, { name := "AIOOBE_FORMATTER", type := (.object "java/util/function/BiFunction"), accessFlags := 25, slot := 1, constantValue := 0 }, { name := "IOOBE_FORMATTER", type := (.object "java/util/function/BiFunction"), accessFlags := 25, slot := 2, constantValue := 0 }]
  methods := #[k11m0, k11m1]
  instanceTypes := #[]
  staticTypes := #[(.object "java/util/function/BiFunction"), (.object "java/util/function/BiFunction"), (.object "java/util/function/BiFunction")]
  resolved := Array.replicate 194 none
  statics := some 2 }

def pool12 : Array CpInfo := pool [(1, .class_ 2), (0, u "java/lang/Character"), (18, u "value"), (0, u "C"), (19, .class_ 44), (1, u "java/lang/Object"), (3, .class_ 50), (1, u "java/lang/Character$CharacterCache"), (22, .integer 65536), (1, .integer 55296), (0, .integer 56320), (0, .integer 57344), (2, u "isHighSurrogate"), (0, u "(C)Z"), (2, u "isLowSurrogate"), (0, .integer 4238353408), (12, u "toCodePoint"), (0, u "(CC)I"), (74, u "(I)I"), (109, u "$assertionsDisabled"), (0, u "Z"), (21, .class_ 309), (1, u "java/lang/Character$UnicodeBlock"), (73, u "TYPE"), (0, u "Ljava/lang/Class;"), (0, .class_ 386), (0, u "java/io/Serializable"), (0, .class_ 388), (0, u "java/lang/Comparable"), (0, .class_ 390), (0, u "java/lang/constant/Constable"), (0, u "MIN_RADIX"), (0, u "I"), (2, u "MAX_RADIX"), (1, u "MIN_VALUE"), (1, u "MAX_VALUE"), (3, u "UNASSIGNED"), (0, u "B"), (0, u "UPPERCASE_LETTER"), (1, u "LOWERCASE_LETTER"), (0, u "TITLECASE_LETTER"), (1, u "MODIFIER_LETTER"), (1, u "OTHER_LETTER"), (1, u "NON_SPACING_MARK"), (1, u "ENCLOSING_MARK"), (1, u "COMBINING_SPACING_MARK"), (1, u "DECIMAL_DIGIT_NUMBER"), (1, u "LETTER_NUMBER"), (1, u "OTHER_NUMBER"), (1, u "SPACE_SEPARATOR"), (1, u "LINE_SEPARATOR"), (1, u "PARAGRAPH_SEPARATOR"), (1, u "CONTROL"), (1, u "FORMAT"), (1, u "PRIVATE_USE"), (1, u "SURROGATE"), (1, u "DASH_PUNCTUATION"), (1, u "START_PUNCTUATION"), (1, u "END_PUNCTUATION"), (1, u "CONNECTOR_PUNCTUATION"), (1, u "OTHER_PUNCTUATION"), (1, u "MATH_SYMBOL"), (1, u "CURRENCY_SYMBOL"), (1, u "MODIFIER_SYMBOL"), (1, u "OTHER_SYMBOL"), (1, u "INITIAL_QUOTE_PUNCTUATION"), (1, u "FINAL_QUOTE_PUNCTUATION"), (1, u "ERROR"), (1, u "DIRECTIONALITY_UNDEFINED"), (0, u "DIRECTIONALITY_LEFT_TO_RIGHT"), (0, u "DIRECTIONALITY_RIGHT_TO_LEFT"), (0, u "DIRECTIONALITY_RIGHT_TO_LEFT_ARABIC"), (0, u "DIRECTIONALITY_EUROPEAN_NUMBER"), (0, u "DIRECTIONALITY_EUROPEAN_NUMBER_SEPARATOR"), (0, u "DIRECTIONALITY_EUROPEAN_NUMBER_TERMINATOR"), (0, u "DIRECTIONALITY_ARABIC_NUMBER"), (0, u "DIRECTIONALITY_COMMON_NUMBER_SEPARATOR"), (0, u "DIRECTIONALITY_NONSPACING_MARK"), (0, u "DIRECTIONALITY_BOUNDARY_NEUTRAL"), (0, u "DIRECTIONALITY_PARAGRAPH_SEPARATOR"), (0, u "DIRECTIONALITY_SEGMENT_SEPARATOR"), (0, u "DIRECTIONALITY_WHITESPACE"), (0, u "DIRECTIONALITY_OTHER_NEUTRALS"), (0, u "DIRECTIONALITY_LEFT_TO_RIGHT_EMBEDDING"), (0, u "DIRECTIONALITY_LEFT_TO_RIGHT_OVERRIDE"), (0, u "DIRECTIONALITY_RIGHT_TO_LEFT_EMBEDDING"), (0, u "DIRECTIONALITY_RIGHT_TO_LEFT_OVERRIDE"), (1, u "DIRECTIONALITY_POP_DIRECTIONAL_FORMAT"), (0, u "DIRECTIONALITY_LEFT_TO_RIGHT_ISOLATE"), (0, u "DIRECTIONALITY_RIGHT_TO_LEFT_ISOLATE"), (0, u "DIRECTIONALITY_FIRST_STRONG_ISOLATE"), (0, u "DIRECTIONALITY_POP_DIRECTIONAL_ISOLATE"), (0, u "MIN_HIGH_SURROGATE"), (0, u "MAX_HIGH_SURROGATE"), (1, u "MIN_LOW_SURROGATE"), (0, u "MAX_LOW_SURROGATE"), (1, u "MIN_SURROGATE"), (0, u "MAX_SURROGATE"), (0, u "MIN_SUPPLEMENTARY_CODE_POINT"), (0, u "MIN_CODE_POINT"), (0, u "MAX_CODE_POINT"), (1, u "serialVersionUID"), (0, u "J"), (2, u "SIZE"), (0, u "BYTES"), (29, u "charCount"), (58, .class_ 596), (0, u "java/lang/Character$UnicodeScript"), (0, .class_ 598), (0, u "java/lang/Character$Subset")] 5

def k12c0 : Code := { maxStack := 2, maxLocals := 1, code := jdk_89_method_14_code, exceptionTable := #[], attributes := #[] }
def k12m0 : Method := { name := "isHighSurrogate", desc := "(C)Z", sig := { parameters := [.char], returnType := some .boolean }, accessFlags := 9, code := some k12c0 }
def k12c1 : Code := { maxStack := 2, maxLocals := 1, code := jdk_89_method_15_code, exceptionTable := #[], attributes := #[] }
def k12m1 : Method := { name := "isLowSurrogate", desc := "(C)Z", sig := { parameters := [.char], returnType := some .boolean }, accessFlags := 9, code := some k12c1 }
def k12c2 : Code := { maxStack := 2, maxLocals := 1, code := jdk_89_method_18_code, exceptionTable := #[], attributes := #[] }
def k12m2 : Method := { name := "charCount", desc := "(I)I", sig := { parameters := [.int], returnType := some .int }, accessFlags := 9, code := some k12c2 }
def k12c3 : Code := { maxStack := 2, maxLocals := 2, code := jdk_89_method_19_code, exceptionTable := #[], attributes := #[] }
def k12m3 : Method := { name := "toCodePoint", desc := "(CC)I", sig := { parameters := [.char, .char], returnType := some .int }, accessFlags := 9, code := some k12c3 }
/-- java/lang/Character -/
def k12 : Class := { plain "java/lang/Character" (some 0) with
  accessFlags := 49
  interfaces := #[2, 3, 5]
  cf := some (fileOf pool12 1 #[.nestMembers #[48, 595, 307, 597]] #[{ accessFlags := 9, nameIndex := 80, descriptorIndex := 81, attributes := #[] }, { accessFlags := 9, nameIndex := 84, descriptorIndex := 81, attributes := #[] }, { accessFlags := 9, nameIndex := 536, descriptorIndex := 174, attributes := #[] }, { accessFlags := 9, nameIndex := 98, descriptorIndex := 99, attributes := #[] }] 49 42 #[385, 387, 389] #[{ accessFlags := 25, nameIndex := 391, descriptorIndex := 392, attributes := #[] }, { accessFlags := 25, nameIndex := 395, descriptorIndex := 392, attributes := #[] }, { accessFlags := 25, nameIndex := 397, descriptorIndex := 22, attributes := #[] }, { accessFlags := 25, nameIndex := 399, descriptorIndex := 22, attributes := #[] }, { accessFlags := 25, nameIndex := 383, descriptorIndex := 384, attributes := #[] }, { accessFlags := 25, nameIndex := 403, descriptorIndex := 404, attributes := #[] }, { accessFlags := 25, nameIndex := 405, descriptorIndex := 404, attributes := #[] }, { accessFlags := 25, nameIndex := 407, descriptorIndex := 404, attributes := #[] }, { accessFlags := 25, nameIndex := 408, descriptorIndex := 404, attributes := #[] }, { accessFlags := 25, nameIndex := 410, descriptorIndex := 404, attributes := #[] }, { accessFlags := 25, nameIndex := 412, descriptorIndex := 404, attributes := #[] }, { accessFlags := 25, nameIndex := 414, descriptorIndex := 404, attributes := #[] }, { accessFlags := 25, nameIndex := 416, descriptorIndex := 404, attributes := #[] }, { accessFlags := 25, nameIndex := 418, descriptorIndex := 404, attributes := #[] }, { accessFlags := 25, nameIndex := 420, descriptorIndex := 404, attributes := #[] }, { accessFlags := 25, nameIndex := 422, descriptorIndex := 404, attributes := #[] }, { accessFlags := 25, nameIndex := 424, descriptorIndex := 404, attributes := #[] }, { accessFlags := 25, nameIndex := 426, descriptorIndex := 404, attributes := #[] }, { accessFlags := 25, nameIndex := 428, descriptorIndex := 404, attributes := #[] }, { accessFlags := 25, nameIndex := 430, descriptorIndex := 404, attributes := #[] }, { accessFlags := 25, nameIndex := 432, descriptorIndex := 404, attributes := #[] }, { accessFlags := 25, nameIndex := 434, descriptorIndex := 404, attributes := #[] }, { accessFlags := 25, nameIndex := 436, descriptorIndex := 404, attributes := #[] }, { accessFlags := 25, nameIndex := 438, descriptorIndex := 404, attributes := #[] }, { accessFlags := 25, nameIndex := 440, descriptorIndex := 404, attributes := #[] }, { accessFlags := 25, nameIndex := 442, descriptorIndex := 404, attributes := #[] }, { accessFlags := 25, nameIndex := 444, descriptorIndex := 404, attributes := #[] }, { accessFlags := 25, nameIndex := 446, descriptorIndex := 404, attributes := #[] }, { accessFlags := 25, nameIndex := 448, descriptorIndex := 404, attributes := #[] }, { accessFlags := 25, nameIndex := 450, descriptorIndex := 404, attributes := #[] }, { accessFlags := 25, nameIndex := 452, descriptorIndex := 404, attributes := #[] }, { accessFlags := 25, nameIndex := 454, descriptorIndex := 404, attributes := #[] }, { accessFlags := 25, nameIndex := 456, descriptorIndex := 404, attributes := #[] }, { accessFlags := 25, nameIndex := 458, descriptorIndex := 404, attributes := #[] }, { accessFlags := 25, nameIndex := 460, descriptorIndex := 404, attributes := #[] }, { accessFlags := 24, nameIndex := 462, descriptorIndex := 392, attributes := #[] }, { accessFlags := 25, nameIndex := 464, descriptorIndex := 404, attributes := #[] }, { accessFlags := 25, nameIndex := 465, descriptorIndex := 404, attributes := #[] }, { accessFlags := 25, nameIndex := 466, descriptorIndex := 404, attributes := #[] }, { accessFlags := 25, nameIndex := 467, descriptorIndex := 404, attributes := #[] }, { accessFlags := 25, nameIndex := 468, descriptorIndex := 404, attributes := #[] }, { accessFlags := 25, nameIndex := 469, descriptorIndex := 404, attributes := #[] }, { accessFlags := 25, nameIndex := 470, descriptorIndex := 404, attributes := #[] }, { accessFlags := 25, nameIndex := 471, descriptorIndex := 404, attributes := #[] }, { accessFlags := 25, nameIndex := 472, descriptorIndex := 404, attributes := #[] }, { accessFlags := 25, nameIndex := 473, descriptorIndex := 404, attributes := #[] }, { accessFlags := 25, nameIndex := 474, descriptorIndex := 404, attributes := #[] }, { accessFlags := 25, nameIndex := 475, descriptorIndex := 404, attributes := #[] }, { accessFlags := 25, nameIndex := 476, descriptorIndex := 404, attributes := #[] }, { accessFlags := 25, nameIndex := 477, descriptorIndex := 404, attributes := #[] }, { accessFlags := 25, nameIndex := 478, descriptorIndex := 404, attributes := #[] }, { accessFlags := 25, nameIndex := 479, descriptorIndex := 404, attributes := #[] }, { accessFlags := 25, nameIndex := 480, descriptorIndex := 404, attributes := #[] }, { accessFlags := 25, nameIndex := 481, descriptorIndex := 404, attributes := #[] }, { accessFlags := 25, nameIndex := 482, descriptorIndex := 404, attributes := #[] }, { accessFlags := 25, nameIndex := 484, descriptorIndex := 404, attributes := #[] }, { accessFlags := 25, nameIndex := 485, descriptorIndex := 404, attributes := #[] }, { accessFlags := 25, nameIndex := 486, descriptorIndex := 404, attributes := #[] }, { accessFlags := 25, nameIndex := 487, descriptorIndex := 404, attributes := #[] }, { accessFlags := 25, nameIndex := 488, descriptorIndex := 404, attributes := #[] }, { accessFlags := 25, nameIndex := 489, descriptorIndex := 22, attributes := #[] }, { accessFlags := 25, nameIndex := 490, descriptorIndex := 22, attributes := #[] }, { accessFlags := 25, nameIndex := 492, descriptorIndex := 22, attributes := #[] }, { accessFlags := 25, nameIndex := 493, descriptorIndex := 22, attributes := #[] }, { accessFlags := 25, nameIndex := 495, descriptorIndex := 22, attributes := #[] }, { accessFlags := 25, nameIndex := 496, descriptorIndex := 22, attributes := #[] }, { accessFlags := 25, nameIndex := 497, descriptorIndex := 392, attributes := #[] }, { accessFlags := 25, nameIndex := 498, descriptorIndex := 392, attributes := #[] }, { accessFlags := 25, nameIndex := 499, descriptorIndex := 392, attributes := #[] }, { accessFlags := 18, nameIndex := 21, descriptorIndex := 22, attributes := #[] }, { accessFlags := 26, nameIndex := 501, descriptorIndex := 502, attributes := #[] }, { accessFlags := 25, nameIndex := 505, descriptorIndex := 392, attributes := #[] }, { accessFlags := 25, nameIndex := 506, descriptorIndex := 392, attributes := #[] }, { accessFlags := 4120, nameIndex := 284, descriptorIndex := 285, attributes := #[] }])
  fields := #[{ name := "MIN_RADIX", type := .int, accessFlags := 25, slot := 0, constantValue := 0 }, { name := "MAX_RADIX", type := .int, accessFlags := 25, slot := 1, constantValue := 0 }, { name := "MIN_VALUE", type := .char, accessFlags := 25, slot := 2, constantValue := 0 }, { name := "MAX_VALUE", type := .char, accessFlags := 25, slot := 3, constantValue := 0 }, { name := "TYPE", type := (.object "java/lang/Class"), accessFlags := 25, slot := 4, constantValue := 0 }, { name := "UNASSIGNED", type := .byte, accessFlags := 25, slot := 5, constantValue := 0 }, { name := "UPPERCASE_LETTER", type := .byte, accessFlags := 25, slot := 6, constantValue := 0 }, { name := "LOWERCASE_LETTER", type := .byte, accessFlags := 25, slot := 7, constantValue := 0 }, { name := "TITLECASE_LETTER", type := .byte, accessFlags := 25, slot := 8, constantValue := 0 }, { name := "MODIFIER_LETTER", type := .byte, accessFlags := 25, slot := 9, constantValue := 0 }, { name := "OTHER_LETTER", type := .byte, accessFlags := 25, slot := 10, constantValue := 0 }, { name := "NON_SPACING_MARK", type := .byte, accessFlags := 25, slot := 11, constantValue := 0 }, { name := "ENCLOSING_MARK", type := .byte, accessFlags := 25, slot := 12, constantValue := 0 }, { name := "COMBINING_SPACING_MARK", type := .byte, accessFlags := 25, slot := 13, constantValue := 0 }, { name := "DECIMAL_DIGIT_NUMBER", type := .byte, accessFlags := 25, slot := 14, constantValue := 0 }, { name := "LETTER_NUMBER", type := .byte, accessFlags := 25, slot := 15, constantValue := 0 }, { name := "OTHER_NUMBER", type := .byte, accessFlags := 25, slot := 16, constantValue := 0 }, { name := "SPACE_SEPARATOR", type := .byte, accessFlags := 25, slot := 17, constantValue := 0 }, { name := "LINE_SEPARATOR", type := .byte, accessFlags := 25, slot := 18, constantValue := 0 }, { name := "PARAGRAPH_SEPARATOR", type := .byte, accessFlags := 25, slot := 19, constantValue := 0 }, { name := "CONTROL", type := .byte, accessFlags := 25, slot := 20, constantValue := 0 }, { name := "FORMAT", type := .byte, accessFlags := 25, slot := 21, constantValue := 0 }, { name := "PRIVATE_USE", type := .byte, accessFlags := 25, slot := 22, constantValue := 0 }, { name := "SURROGATE", type := .byte, accessFlags := 25, slot := 23, constantValue := 0 }, { name := "DASH_PUNCTUATION", type := .byte, accessFlags := 25, slot := 24, constantValue := 0 }, { name := "START_PUNCTUATION", type := .byte, accessFlags := 25, slot := 25, constantValue := 0 }, { name := "END_PUNCTUATION", type := .byte, accessFlags := 25, slot := 26, constantValue := 0 }, { name := "CONNECTOR_PUNCTUATION", type := .byte, accessFlags := 25, slot := 27, constantValue := 0 }, { name := "OTHER_PUNCTUATION", type := .byte, accessFlags := 25, slot := 28, constantValue := 0 }, { name := "MATH_SYMBOL", type := .byte, accessFlags := 25, slot := 29, constantValue := 0 }, { name := "CURRENCY_SYMBOL", type := .byte, accessFlags := 25, slot := 30, constantValue := 0 }, { name := "MODIFIER_SYMBOL", type := .byte, accessFlags := 25, slot := 31, constantValue := 0 }, { name := "OTHER_SYMBOL", type := .byte, accessFlags := 25, slot := 32, constantValue := 0 }, { name := "INITIAL_QUOTE_PUNCTUATION", type := .byte, accessFlags := 25, slot := 33, constantValue := 0 }, { name := "FINAL_QUOTE_PUNCTUATION", type := .byte, accessFlags := 25, slot := 34, constantValue := 0 }, { name := "ERROR", type := .int, accessFlags := 24, slot := 35, constantValue := 0 }, { name := "DIRECTIONALITY_UNDEFINED", type := .byte, accessFlags := 25, slot := 36, constantValue := 0 }, { name := "DIRECTIONALITY_LEFT_TO_RIGHT", type := .byte, accessFlags := 25, slot := 37, constantValue := 0 }, { name := "DIRECTIONALITY_RIGHT_TO_LEFT", type := .byte, accessFlags := 25, slot := 38, constantValue := 0 }, { name := "DIRECTIONALITY_RIGHT_TO_LEFT_ARABIC", type := .byte, accessFlags := 25, slot := 39, constantValue := 0 }, { name := "DIRECTIONALITY_EUROPEAN_NUMBER", type := .byte, accessFlags := 25, slot := 40, constantValue := 0 }, { name := "DIRECTIONALITY_EUROPEAN_NUMBER_SEPARATOR", type := .byte, accessFlags := 25, slot := 41, constantValue := 0 }, { name := "DIRECTIONALITY_EUROPEAN_NUMBER_TERMINATOR", type := .byte, accessFlags := 25, slot := 42, constantValue := 0 }, { name := "DIRECTIONALITY_ARABIC_NUMBER", type := .byte, accessFlags := 25, slot := 43, constantValue := 0 }, { name := "DIRECTIONALITY_COMMON_NUMBER_SEPARATOR", type := .byte, accessFlags := 25, slot := 44, constantValue := 0 }, { name := "DIRECTIONALITY_NONSPACING_MARK", type := .byte, accessFlags := 25, slot := 45, constantValue := 0 }, { name := "DIRECTIONALITY_BOUNDARY_NEUTRAL", type := .byte, accessFlags := 25, slot := 46, constantValue := 0 }, { name := "DIRECTIONALITY_PARAGRAPH_SEPARATOR", type := .byte, accessFlags := 25, slot := 47, constantValue := 0 }, { name := "DIRECTIONALITY_SEGMENT_SEPARATOR", type := .byte, accessFlags := 25, slot := 48, constantValue := 0 }, { name := "DIRECTIONALITY_WHITESPACE", type := .byte, accessFlags := 25, slot := 49, constantValue := 0 }, { name := "DIRECTIONALITY_OTHER_NEUTRALS", type := .byte, accessFlags := 25, slot := 50, constantValue := 0 }, { name := "DIRECTIONALITY_LEFT_TO_RIGHT_EMBEDDING", type := .byte, accessFlags := 25, slot := 51, constantValue := 0 }, { name := "DIRECTIONALITY_LEFT_TO_RIGHT_OVERRIDE", type := .byte, accessFlags := 25, slot := 52, constantValue := 0 }, { name := "DIRECTIONALITY_RIGHT_TO_LEFT_EMBEDDING", type := .byte, accessFlags := 25, slot := 53, constantValue := 0 }, { name := "DIRECTIONALITY_RIGHT_TO_LEFT_OVERRIDE", type := .byte, accessFlags := 25, slot := 54, constantValue := 0 }, { name := "DIRECTIONALITY_POP_DIRECTIONAL_FORMAT", type := .byte, accessFlags := 25, slot := 55, constantValue := 0 }, { name := "DIRECTIONALITY_LEFT_TO_RIGHT_ISOLATE", type := .byte, accessFlags := 25, slot := 56, constantValue := 0 }, { name := "DIRECTIONALITY_RIGHT_TO_LEFT_ISOLATE", type := .byte, accessFlags := 25, slot := 57, constantValue := 0 }, { name := "DIRECTIONALITY_FIRST_STRONG_ISOLATE", type := .byte, accessFlags := 25, slot := 58, constantValue := 0 }, { name := "DIRECTIONALITY_POP_DIRECTIONAL_ISOLATE", type := .byte, accessFlags := 25, slot := 59, constantValue := 0 }, { name := "MIN_HIGH_SURROGATE", type := .char, accessFlags := 25, slot := 60, constantValue := 0 }, { name := "MAX_HIGH_SURROGATE", type := .char, accessFlags := 25, slot := 61, constantValue := 0 }, { name := "MIN_LOW_SURROGATE", type := .char, accessFlags := 25, slot := 62, constantValue := 0 }, { name := "MAX_LOW_SURROGATE", type := .char, accessFlags := 25, slot := 63, constantValue := 0 }, { name := "MIN_SURROGATE", type := .char, accessFlags := 25, slot := 64, constantValue := 0 }, { name := "MAX_SURROGATE", type := .char, accessFlags := 25, slot := 65, constantValue := 0 }, { name := "MIN_SUPPLEMENTARY_CODE_POINT", type := .int, accessFlags := 25, slot := 66, constantValue := 0 }, { name := "MIN_CODE_POINT", type := .int, accessFlags := 25, slot := 67, constantValue := 0 }, { name := "MAX_CODE_POINT", type := .int, accessFlags := 25, slot := 68, constantValue := 0 }, { name := "value", type := .char, accessFlags := 18, slot := 0, constantValue := 0 }, { name := "serialVersionUID", type := .long, accessFlags := 26, slot := 69, constantValue := 0 }, { name := "SIZE", type := .int, accessFlags := 25, slot := 70, constantValue := 0 }, { name := "BYTES", type := .int, accessFlags := 25, slot := 71, constantValue := 0 }, { name := "$assertionsDisabled", type := .boolean, accessFlags := 4120, slot := 72, constantValue := 0 }]
  methods := #[k12m0, k12m1, k12m2, k12m3]
  instanceTypes := #[.char]
  staticTypes := #[.int, .int, .char, .char, (.object "java/lang/Class"), .byte, .byte, .byte, .byte, .byte, .byte, .byte, .byte, .byte, .byte, .byte, .byte, .byte, .byte, .byte, .byte, .byte, .byte, .byte, .byte, .byte, .byte, .byte, .byte, .byte, .byte, .byte, .byte, .byte, .byte, .int, .byte, .byte, .byte, .byte, .byte, .byte, .byte, .byte, .byte, .byte, .byte, .byte, .byte, .byte, .byte, .byte, .byte, .byte, .byte, .byte, .byte, .byte, .byte, .byte, .char, .char, .char, .char, .char, .char, .int, .int, .int, .long, .int, .int, .boolean]
  resolved := Array.replicate 604 none
  statics := none }

def pool13 : Array CpInfo := pool [(4, .class_ 6), (1, u "java/lang/Object"), (0, u "<init>"), (0, u "()V"), (5, .class_ 16), (1, u "java/lang/StringLatin1"), (104, u "$assertionsDisabled"), (0, u "Z"), (98, .class_ 223), (1, u "java/lang/StringLatin1$LinesSpliterator"), (166, .class_ 391), (0, u "java/lang/StringLatin1$CharsSpliterator")] 3

def k13m0 : Method := { name := "<init>", desc := "()V", sig := { parameters := [], returnType := none }, accessFlags := 0, code := none }
/-- java/lang/StringLatin1 -/
def k13 : Class := { plain "java/lang/StringLatin1" (some 0) with
  accessFlags := 48
  interfaces := #[]
  cf := some (fileOf pool13 14 #[.nestMembers #[390, 221]] #[{ accessFlags := 0, nameIndex := 7, descriptorIndex := 8, attributes := #[] }] 48 4 #[] #[{ accessFlags := 4120, nameIndex := 121, descriptorIndex := 122, attributes := #[] }])
  fields := #[{ name := "$assertionsDisabled", type := .boolean, accessFlags := 4120, slot := 0, constantValue := 0 }]
  methods := #[k13m0]
  instanceTypes := #[]
  staticTypes := #[.boolean]
  resolved := Array.replicate 395 none
  statics := none }

def pool14 : Array CpInfo := pool [(9, u "<init>"), (6, .class_ 18), (1, u "java/lang/Object"), (0, u "()V"), (1, .class_ 23), (1, u "jdk/internal/util/ArraysSupport"), (0, u "LOG2_ARRAY_LONG_INDEX_SCALE"), (0, u "I"), (2, u "U"), (0, u "Ljdk/internal/misc/Unsafe;"), (8, u "BIG_ENDIAN"), (0, u "Z"), (8, u "LOG2_BYTE_BIT_SIZE"), (4, u "LOG2_ARRAY_INT_INDEX_SCALE"), (54, u "JLA"), (0, u "Ljdk/internal/access/JavaLangAccess;"), (11, u "LOG2_ARRAY_BOOLEAN_INDEX_SCALE"), (9, u "LOG2_ARRAY_BYTE_INDEX_SCALE"), (5, u "LOG2_ARRAY_CHAR_INDEX_SCALE"), (5, u "LOG2_ARRAY_SHORT_INDEX_SCALE"), (18, u "LOG2_ARRAY_FLOAT_INDEX_SCALE"), (24, u "LOG2_ARRAY_DOUBLE_INDEX_SCALE"), (89, u "T_BOOLEAN"), (2, u "T_CHAR"), (1, u "T_FLOAT"), (1, u "T_DOUBLE"), (1, u "T_BYTE"), (1, u "T_SHORT"), (1, u "T_INT"), (1, u "T_LONG"), (1, u "SOFT_MAX_ARRAY_LENGTH")] 83

def k14m0 : Method := { name := "<init>", desc := "()V", sig := { parameters := [], returnType := none }, accessFlags := 2, code := none }
/-- jdk/internal/util/ArraysSupport -/
def k14 : Class := { plain "jdk/internal/util/ArraysSupport" (some 0) with
  accessFlags := 33
  interfaces := #[]
  cf := some (fileOf pool14 21 #[] #[{ accessFlags := 2, nameIndex := 9, descriptorIndex := 19, attributes := #[] }] 33 16 #[] #[{ accessFlags := 24, nameIndex := 28, descriptorIndex := 29, attributes := #[] }, { accessFlags := 26, nameIndex := 38, descriptorIndex := 39, attributes := #[] }, { accessFlags := 25, nameIndex := 121, descriptorIndex := 25, attributes := #[] }, { accessFlags := 25, nameIndex := 131, descriptorIndex := 25, attributes := #[] }, { accessFlags := 25, nameIndex := 137, descriptorIndex := 25, attributes := #[] }, { accessFlags := 25, nameIndex := 143, descriptorIndex := 25, attributes := #[] }, { accessFlags := 25, nameIndex := 53, descriptorIndex := 25, attributes := #[] }, { accessFlags := 25, nameIndex := 24, descriptorIndex := 25, attributes := #[] }, { accessFlags := 25, nameIndex := 162, descriptorIndex := 25, attributes := #[] }, { accessFlags := 25, nameIndex := 187, descriptorIndex := 25, attributes := #[] }, { accessFlags := 26, nameIndex := 48, descriptorIndex := 25, attributes := #[] }, { accessFlags := 25, nameIndex := 277, descriptorIndex := 25, attributes := #[] }, { accessFlags := 25, nameIndex := 280, descriptorIndex := 25, attributes := #[] }, { accessFlags := 25, nameIndex := 282, descriptorIndex := 25, attributes := #[] }, { accessFlags := 25, nameIndex := 284, descriptorIndex := 25, attributes := #[] }, { accessFlags := 25, nameIndex := 286, descriptorIndex := 25, attributes := #[] }, { accessFlags := 25, nameIndex := 288, descriptorIndex := 25, attributes := #[] }, { accessFlags := 25, nameIndex := 290, descriptorIndex := 25, attributes := #[] }, { accessFlags := 25, nameIndex := 292, descriptorIndex := 25, attributes := #[] }, { accessFlags := 26, nameIndex := 108, descriptorIndex := 109, attributes := #[] }, { accessFlags := 25, nameIndex := 294, descriptorIndex := 25, attributes := #[] }])
  fields := #[{ name := "U", type := (.object "jdk/internal/misc/Unsafe"), accessFlags := 24, slot := 0, constantValue := 0 }, { name := "BIG_ENDIAN", type := .boolean, accessFlags := 26, slot := 1, constantValue := 0 }, { name := "LOG2_ARRAY_BOOLEAN_INDEX_SCALE", type := .int, accessFlags := 25, slot := 2, constantValue := 0 }, { name := "LOG2_ARRAY_BYTE_INDEX_SCALE", type := .int, accessFlags := 25, slot := 3, constantValue := 0 }, { name := "LOG2_ARRAY_CHAR_INDEX_SCALE", type := .int, accessFlags := 25, slot := 4, constantValue := 0 }, { name := "LOG2_ARRAY_SHORT_INDEX_SCALE", type := .int, accessFlags := 25, slot := 5, constantValue := 0 }, { name := "LOG2_ARRAY_INT_INDEX_SCALE", type := .int, accessFlags := 25, slot := 6, constantValue := 0 }, { name := "LOG2_ARRAY_LONG_INDEX_SCALE", type := .int, accessFlags := 25, slot := 7, constantValue := 0 }, { name := "LOG2_ARRAY_FLOAT_INDEX_SCALE", type := .int, accessFlags := 25, slot := 8, constantValue := 0 }, { name := "LOG2_ARRAY_DOUBLE_INDEX_SCALE", type := .int, accessFlags := 25, slot := 9, constantValue := 0 }, { name := "LOG2_BYTE_BIT_SIZE", type := .int, accessFlags := 26, slot := 10, constantValue := 0 }, { name := "T_BOOLEAN", type := .int, accessFlags := 25, slot := 11, constantValue := 0 }, { name := "T_CHAR", type := .int, accessFlags := 25, slot := 12, constantValue := 0 }, { name := "T_FLOAT", type := .int, accessFlags := 25, slot := 13, constantValue := 0 }, { name := "T_DOUBLE", type := .int, accessFlags := 25, slot := 14, constantValue := 0 }, { name := "T_BYTE", type := .int, accessFlags := 25, slot := 15, constantValue := 0 }, { name := "T_SHORT", type := .int, accessFlags := 25, slot := 16, constantValue := 0 }, { name := "T_INT", type := .int, accessFlags := 25, slot := 17, constantValue := 0 }, { name := "T_LONG", type := .int, accessFlags := 25, slot := 18, constantValue := 0 }, { name := "JLA", type := (.object "jdk/internal/access/JavaLangAccess"), accessFlags := 26, slot := 19, constantValue := 0 }, { name := "SOFT_MAX_ARRAY_LENGTH", type := .int, accessFlags := 25, slot := 20, constantValue := 0 }]
  methods := #[k14m0]
  instanceTypes := #[]
  staticTypes := #[(.object "jdk/internal/misc/Unsafe"), .boolean, .int, .int, .int, .int, .int, .int, .int, .int, .int, .int, .int, .int, .int, .int, .int, .int, .int, (.object "jdk/internal/access/JavaLangAccess"), .int]
  resolved := Array.replicate 378 none
  statics := none }

def pool15 : Array CpInfo := pool [(1, u "java/lang/Cloneable"), (0, .class_ 1), (0, u "java/lang/Object"), (0, .class_ 3)] 3

/-- java/lang/Cloneable -/
def k15 : Class := { plain "java/lang/Cloneable" (some 0) with
  accessFlags := 1537
  interfaces := #[]
  cf := some (fileOf pool15 2 #[] #[] 1537 4 #[] #[])
  fields := #[]
  methods := #[]
  instanceTypes := #[]
  staticTypes := #[]
  resolved := Array.replicate 8 none
  statics := none }

/-- the primitive byte -/
def k16 : Class := { plain "byte" none with kind := .primitive 'B', accessFlags := 0x411 }
/-- [B -/
def k17 : Class := { plain "[B" (some 0) with kind := .array 16 .byte, interfaces := #[15, 2], accessFlags := 1041 }

/-- the primitive char -/
def k18 : Class := { plain "char" none with kind := .primitive 'C', accessFlags := 0x411 }
/-- [C -/
def k19 : Class := { plain "[C" (some 0) with kind := .array 18 .char, interfaces := #[15, 2], accessFlags := 1041 }

/-- the primitive int -/
def k20 : Class := { plain "int" none with kind := .primitive 'I', accessFlags := 0x411 }
/-- [I -/
def k21 : Class := { plain "[I" (some 0) with kind := .array 20 .int, interfaces := #[15, 2], accessFlags := 1041 }

def heap : Heap := #[{ cls := 7, slots := #[.long 0, .int 1, .null, .int 0, .null, .int 0, .int 0], vm := .statics 7 },
  { cls := 8, slots := #[.int 0, .int 8, .int 0, .int 1], vm := .statics 8 },
  { cls := 11, slots := #[.null, .null, .null], vm := .statics 11 }]
def classes : Array Class := #[k0, k1, k2, k3, k4, k5, k6, k7, k8, k9, k10, k11, k12, k13, k14, k15, k16, k17, k18, k19, k20, k21]
def interned : List (Array UInt16 × Addr) := []
def slotsUsed : Nat := 14
def theMethod : MethodId := ⟨1, 5⟩
def args0 : Array Value := #[.int 5, .int 5, .int 5, .int 5]
def aboutOver (below : List Frame) : State where
  vm := { classes := classes, interned := interned.toArray }
  heap := heap
  slotsUsed := slotsUsed
  threads := #[{ frames := .invoking theMethod args0 :: below }]
def below0 : List Frame := [.native { method := ⟨0, 0⟩, args := #[] }]
def about1 : State := aboutOver below0
def p0 : Program := .bare "" "" ""
def e0 : Env := launch0.env 0 0 0
theorem w_frames : about1.frames = Frame.invoking theMethod args0 :: below0 := rfl
set_option maxRecDepth 65536 in
theorem w_args : argsFit about1.vm theMethod args0 = true := by decide +kernel
set_option maxRecDepth 65536 in
theorem w_heap : heapFits about1 = true := by decide +kernel
set_option maxRecDepth 65536 in
theorem w_runnable : about1.curStatus? = some .runnable := by decide +kernel
set_option maxRecDepth 65536 in
theorem w_alone : about1.alone = true := by decide +kernel
set_option maxRecDepth 65536 in
theorem w_named : about1.methodNamed? x = some theMethod := by decide +kernel
set_option maxRecDepth 65536 in
theorem w_hears : about1.hears theMethod below0 = true := by decide +kernel
set_option maxRecDepth 65536 in
theorem w_ripe : about1.ripe theMethod args0 below0 = true := by decide +kernel
theorem w_running : about1.status = .running := rfl
set_option maxRecDepth 65536 in
theorem w_room : about1.hasRoom e0.platform room_1 = true :=
  launch0.hasRoom_least _ room_1 (by decide +kernel) (by decide +kernel) (by decide +kernel) (by decide +kernel) (by decide +kernel) (by decide +kernel)
theorem allAtoms_all (ts : List Jvm.Cond) (a : Array Jvm.Value) (st : Jvm.State) : (allAtoms ts).before a st = ts.all (fun c => c.before a st) := by
  induction ts with
  | nil => rfl
  | cons c t ih =>
    show (Jvm.Cond.and c (allAtoms t)).before a st = _
    rw [Jvm.Cond.before_and, ih, List.all_cons]
def words1 : List Jvm.Cond := Jvm.Cond.code x code maxLocals ret :: tables_1
/-- a 'code' word, met by the world's own term for the bytes: nothing is compared byte by byte -/
theorem code_word {y : MethodName} {bytes : ByteArray} {mx : Nat} {rt : Option FieldType} {a : Array Value} {s : State} {m : MethodId} {meth : Method} {c : Code} (h1 : s.methodNamed? y = some m) (h2 : s.vm.method? m = some meth) (h3 : meth.code = some c) (h4 : c.code = bytes)
    (h5 : (c.maxLocals == mx && c.exceptionTable.isEmpty && decide (c.maxStack ≤ mostOperands) && decide (meth.sig.returnType = rt) && !meth.locks && decide (parseMethodDescriptor y.desc = some meth.sig)) = true) : (Jvm.Cond.code y bytes mx rt).before a s = true := by
  simp only [Bool.and_eq_true, beq_iff_eq, Bool.not_eq_true', decide_eq_true_eq] at h5
  obtain ⟨⟨⟨⟨⟨g1, g2⟩, g3⟩, g4⟩, g5⟩, g6⟩ := h5
  simp [Cond.before, Cond.holds, Cond.value, h1, h2, h3, h4, g1, g2, g3, g4, g5, g6]
def isCode : Jvm.Cond → Bool
  | .code _ _ _ _ => true
  | _ => false
theorem all_split {L : List Jvm.Cond} {P : Jvm.Cond → Bool} (h1 : L.all (fun c => isCode c || P c) = true) (h2 : ∀ c ∈ L.filter isCode, P c = true) : L.all P = true := by
  refine List.all_eq_true.mpr fun c hc => ?_
  have h := List.all_eq_true.mp h1 c hc
  rcases Bool.eq_false_or_eq_true (isCode c) with hi | hi
  · exact h2 c (List.mem_filter.mpr ⟨hc, hi⟩)
  · simpa [hi] using h
set_option maxRecDepth 65536 in
theorem w_c0 : (Jvm.Cond.code x code maxLocals ret).before args0 about1 = true := code_word (m := ⟨1, 5⟩) (meth := k1m5) (c := k1c5) (by decide +kernel) rfl rfl rfl (by decide +kernel)
set_option maxRecDepth 65536 in
theorem w_c1 : (Jvm.Cond.code ({ cls := "com/example/hermit_crab/hermitcrab/LockOptionsCheckNamePinLaw", name := "put", desc := "([CII)I" } : Jvm.MethodName) method_5_code (3 : Nat) (Option.some Jvm.ClassFile.FieldType.int)).before args0 about1 = true := code_word (m := ⟨1, 4⟩) (meth := k1m4) (c := k1c4) (by decide +kernel) rfl rfl rfl (by decide +kernel)
set_option maxRecDepth 65536 in
theorem w_c2 : (Jvm.Cond.code ({ cls := "com/example/hermit_crab/hermitcrab/LockOptionsCheckNamePinLaw", name := "bmp", desc := "(I)C" } : Jvm.MethodName) method_2_code (2 : Nat) (Option.some Jvm.ClassFile.FieldType.char)).before args0 about1 = true := code_word (m := ⟨1, 1⟩) (meth := k1m1) (c := k1c1) (by decide +kernel) rfl rfl rfl (by decide +kernel)
set_option maxRecDepth 65536 in
theorem w_c3 : (Jvm.Cond.code ({ cls := "com/example/hermit_crab/hermitcrab/LockOptionsCheckNamePinLaw", name := "high", desc := "(I)C" } : Jvm.MethodName) method_3_code (1 : Nat) (Option.some Jvm.ClassFile.FieldType.char)).before args0 about1 = true := code_word (m := ⟨1, 2⟩) (meth := k1m2) (c := k1c2) (by decide +kernel) rfl rfl rfl (by decide +kernel)
set_option maxRecDepth 65536 in
theorem w_c4 : (Jvm.Cond.code ({ cls := "com/example/hermit_crab/hermitcrab/LockOptionsCheckNamePinLaw", name := "low", desc := "(I)C" } : Jvm.MethodName) method_4_code (1 : Nat) (Option.some Jvm.ClassFile.FieldType.char)).before args0 about1 = true := code_word (m := ⟨1, 3⟩) (meth := k1m3) (c := k1c3) (by decide +kernel) rfl rfl rfl (by decide +kernel)
set_option maxRecDepth 65536 in
theorem w_c5 : (Jvm.Cond.code ({ cls := "java/lang/String", name := "<init>", desc := "([C)V" } : Jvm.MethodName) jdk_42_method_3_code (2 : Nat) (Option.none : Option Jvm.ClassFile.FieldType)).before args0 about1 = true := code_word (m := ⟨7, 1⟩) (meth := k7m1) (c := k7c1) (by decide +kernel) rfl rfl rfl (by decide +kernel)
set_option maxRecDepth 65536 in
theorem w_c6 : (Jvm.Cond.code ({ cls := "java/lang/String", name := "<init>", desc := "([CIILjava/lang/Void;)V" } : Jvm.MethodName) jdk_42_method_149_code (6 : Nat) (Option.none : Option Jvm.ClassFile.FieldType)).before args0 about1 = true := code_word (m := ⟨7, 5⟩) (meth := k7m5) (c := k7c5) (by decide +kernel) rfl rfl rfl (by decide +kernel)
set_option maxRecDepth 65536 in
theorem w_c7 : (Jvm.Cond.code ({ cls := "java/lang/Object", name := "<init>", desc := "()V" } : Jvm.MethodName) object_method_1_code (1 : Nat) (Option.none : Option Jvm.ClassFile.FieldType)).before args0 about1 = true := code_word (m := ⟨0, 0⟩) (meth := k0m0) (c := k0c0) (by decide +kernel) rfl rfl rfl (by decide +kernel)
set_option maxRecDepth 65536 in
theorem w_c8 : (Jvm.Cond.code ({ cls := "java/lang/StringUTF16", name := "compress", desc := "([CII)[B" } : Jvm.MethodName) jdk_52_method_16_code (6 : Nat) (Option.some (Jvm.ClassFile.FieldType.array Jvm.ClassFile.FieldType.byte))).before args0 about1 = true := code_word (m := ⟨8, 9⟩) (meth := k8m9) (c := k8c9) (by decide +kernel) rfl rfl rfl (by decide +kernel)
set_option maxRecDepth 65536 in
theorem w_c9 : (Jvm.Cond.code ({ cls := "java/lang/StringUTF16", name := "compress", desc := "([CI[BII)I" } : Jvm.MethodName) jdk_52_method_21_code (7 : Nat) (Option.some Jvm.ClassFile.FieldType.int)).before args0 about1 = true := code_word (m := ⟨8, 10⟩) (meth := k8m10) (c := k8c10) (by decide +kernel) rfl rfl rfl (by decide +kernel)
set_option maxRecDepth 65536 in
theorem w_c10 : (Jvm.Cond.code ({ cls := "java/lang/StringUTF16", name := "toBytes", desc := "([CII)[B" } : Jvm.MethodName) jdk_52_method_14_code (5 : Nat) (Option.some (Jvm.ClassFile.FieldType.array Jvm.ClassFile.FieldType.byte))).before args0 about1 = true := code_word (m := ⟨8, 7⟩) (meth := k8m7) (c := k8c7) (by decide +kernel) rfl rfl rfl (by decide +kernel)
set_option maxRecDepth 65536 in
theorem w_c11 : (Jvm.Cond.code ({ cls := "java/lang/StringUTF16", name := "newBytesFor", desc := "(I)[B" } : Jvm.MethodName) jdk_52_method_2_code (1 : Nat) (Option.some (Jvm.ClassFile.FieldType.array Jvm.ClassFile.FieldType.byte))).before args0 about1 = true := code_word (m := ⟨8, 1⟩) (meth := k8m1) (c := k8c1) (by decide +kernel) rfl rfl rfl (by decide +kernel)
set_option maxRecDepth 65536 in
theorem w_c12 : (Jvm.Cond.code ({ cls := "java/lang/StringUTF16", name := "newBytesLength", desc := "(I)I" } : Jvm.MethodName) jdk_52_method_3_code (1 : Nat) (Option.some Jvm.ClassFile.FieldType.int)).before args0 about1 = true := code_word (m := ⟨8, 2⟩) (meth := k8m2) (c := k8c2) (by decide +kernel) rfl rfl rfl (by decide +kernel)
set_option maxRecDepth 65536 in
theorem w_c13 : (Jvm.Cond.code ({ cls := "java/lang/StringUTF16", name := "putChar", desc := "([BII)V" } : Jvm.MethodName) jdk_52_method_4_code (3 : Nat) (Option.none : Option Jvm.ClassFile.FieldType)).before args0 about1 = true := code_word (m := ⟨8, 3⟩) (meth := k8m3) (c := k8c3) (by decide +kernel) rfl rfl rfl (by decide +kernel)
set_option maxRecDepth 65536 in
theorem w_c14 : (Jvm.Cond.code ({ cls := "java/lang/StringUTF16", name := "getChar", desc := "([BI)C" } : Jvm.MethodName) jdk_52_method_5_code (2 : Nat) (Option.some Jvm.ClassFile.FieldType.char)).before args0 about1 = true := code_word (m := ⟨8, 4⟩) (meth := k8m4) (c := k8c4) (by decide +kernel) rfl rfl rfl (by decide +kernel)
set_option maxRecDepth 65536 in
theorem w_c15 : (Jvm.Cond.code ({ cls := "java/lang/StringUTF16", name := "coderFromArrayLen", desc := "([BI)B" } : Jvm.MethodName) jdk_52_method_15_code (2 : Nat) (Option.some Jvm.ClassFile.FieldType.byte)).before args0 about1 = true := code_word (m := ⟨8, 8⟩) (meth := k8m8) (c := k8c8) (by decide +kernel) rfl rfl rfl (by decide +kernel)
set_option maxRecDepth 65536 in
theorem w_c16 : (Jvm.Cond.code ({ cls := "com/example/hermit_crab/hermitcrab/LockOptions", name := "checkName", desc := "(Ljava/lang/String;)Ljava/lang/String;" } : Jvm.MethodName) prog_13_method_6_code (4 : Nat) (Option.some (Jvm.ClassFile.FieldType.object "java/lang/String"))).before args0 about1 = true := code_word (m := ⟨9, 0⟩) (meth := k9m0) (c := k9c0) (by decide +kernel) rfl rfl rfl (by decide +kernel)
set_option maxRecDepth 65536 in
theorem w_c17 : (Jvm.Cond.code ({ cls := "java/util/Objects", name := "requireNonNull", desc := "(Ljava/lang/Object;Ljava/lang/String;)Ljava/lang/Object;" } : Jvm.MethodName) jdk_31_method_11_code (2 : Nat) (Option.some (Jvm.ClassFile.FieldType.object "java/lang/Object"))).before args0 about1 = true := code_word (m := ⟨10, 1⟩) (meth := k10m1) (c := k10c1) (by decide +kernel) rfl rfl rfl (by decide +kernel)
set_option maxRecDepth 65536 in
theorem w_c18 : (Jvm.Cond.code ({ cls := "java/lang/String", name := "isEmpty", desc := "()Z" } : Jvm.MethodName) jdk_42_method_55_code (1 : Nat) (Option.some Jvm.ClassFile.FieldType.boolean)).before args0 about1 = true := code_word (m := ⟨7, 3⟩) (meth := k7m3) (c := k7c3) (by decide +kernel) rfl rfl rfl (by decide +kernel)
set_option maxRecDepth 65536 in
theorem w_c19 : (Jvm.Cond.code ({ cls := "java/lang/String", name := "length", desc := "()I" } : Jvm.MethodName) jdk_42_method_54_code (1 : Nat) (Option.some Jvm.ClassFile.FieldType.int)).before args0 about1 = true := code_word (m := ⟨7, 2⟩) (meth := k7m2) (c := k7c2) (by decide +kernel) rfl rfl rfl (by decide +kernel)
set_option maxRecDepth 65536 in
theorem w_c20 : (Jvm.Cond.code ({ cls := "java/lang/String", name := "coder", desc := "()B" } : Jvm.MethodName) jdk_42_method_152_code (1 : Nat) (Option.some Jvm.ClassFile.FieldType.byte)).before args0 about1 = true := code_word (m := ⟨7, 6⟩) (meth := k7m6) (c := k7c6) (by decide +kernel) rfl rfl rfl (by decide +kernel)
set_option maxRecDepth 65536 in
theorem w_c21 : (Jvm.Cond.code ({ cls := "java/lang/String", name := "codePointAt", desc := "(I)I" } : Jvm.MethodName) jdk_42_method_57_code (3 : Nat) (Option.some Jvm.ClassFile.FieldType.int)).before args0 about1 = true := code_word (m := ⟨7, 4⟩) (meth := k7m4) (c := k7c4) (by decide +kernel) rfl rfl rfl (by decide +kernel)
set_option maxRecDepth 65536 in
theorem w_c22 : (Jvm.Cond.code ({ cls := "java/lang/String", name := "isLatin1", desc := "()Z" } : Jvm.MethodName) jdk_42_method_154_code (1 : Nat) (Option.some Jvm.ClassFile.FieldType.boolean)).before args0 about1 = true := code_word (m := ⟨7, 7⟩) (meth := k7m7) (c := k7c7) (by decide +kernel) rfl rfl rfl (by decide +kernel)
set_option maxRecDepth 65536 in
theorem w_c23 : (Jvm.Cond.code ({ cls := "java/lang/String", name := "checkIndex", desc := "(II)V" } : Jvm.MethodName) jdk_42_method_155_code (2 : Nat) (Option.none : Option Jvm.ClassFile.FieldType)).before args0 about1 = true := code_word (m := ⟨7, 8⟩) (meth := k7m8) (c := k7c8) (by decide +kernel) rfl rfl rfl (by decide +kernel)
set_option maxRecDepth 65536 in
theorem w_c24 : (Jvm.Cond.code ({ cls := "jdk/internal/util/Preconditions", name := "checkIndex", desc := "(IILjava/util/function/BiFunction;)I" } : Jvm.MethodName) jdk_41_method_11_code (3 : Nat) (Option.some Jvm.ClassFile.FieldType.int)).before args0 about1 = true := code_word (m := ⟨11, 1⟩) (meth := k11m1) (c := k11c1) (by decide +kernel) rfl rfl rfl (by decide +kernel)
set_option maxRecDepth 65536 in
theorem w_c25 : (Jvm.Cond.code ({ cls := "java/lang/StringUTF16", name := "codePointAt", desc := "([BII)I" } : Jvm.MethodName) jdk_52_method_8_code (3 : Nat) (Option.some Jvm.ClassFile.FieldType.int)).before args0 about1 = true := code_word (m := ⟨8, 6⟩) (meth := k8m6) (c := k8c6) (by decide +kernel) rfl rfl rfl (by decide +kernel)
set_option maxRecDepth 65536 in
theorem w_c26 : (Jvm.Cond.code ({ cls := "java/lang/StringUTF16", name := "codePointAt", desc := "([BIIZ)I" } : Jvm.MethodName) jdk_52_method_7_code (6 : Nat) (Option.some Jvm.ClassFile.FieldType.int)).before args0 about1 = true := code_word (m := ⟨8, 5⟩) (meth := k8m5) (c := k8c5) (by decide +kernel) rfl rfl rfl (by decide +kernel)
set_option maxRecDepth 65536 in
theorem w_c27 : (Jvm.Cond.code ({ cls := "java/lang/Character", name := "isHighSurrogate", desc := "(C)Z" } : Jvm.MethodName) jdk_89_method_14_code (1 : Nat) (Option.some Jvm.ClassFile.FieldType.boolean)).before args0 about1 = true := code_word (m := ⟨12, 0⟩) (meth := k12m0) (c := k12c0) (by decide +kernel) rfl rfl rfl (by decide +kernel)
set_option maxRecDepth 65536 in
theorem w_c28 : (Jvm.Cond.code ({ cls := "java/lang/Character", name := "charCount", desc := "(I)I" } : Jvm.MethodName) jdk_89_method_18_code (1 : Nat) (Option.some Jvm.ClassFile.FieldType.int)).before args0 about1 = true := code_word (m := ⟨12, 2⟩) (meth := k12m2) (c := k12c2) (by decide +kernel) rfl rfl rfl (by decide +kernel)
set_option maxRecDepth 65536 in
theorem w_c29 : (Jvm.Cond.code ({ cls := "java/lang/Character", name := "isLowSurrogate", desc := "(C)Z" } : Jvm.MethodName) jdk_89_method_15_code (1 : Nat) (Option.some Jvm.ClassFile.FieldType.boolean)).before args0 about1 = true := code_word (m := ⟨12, 1⟩) (meth := k12m1) (c := k12c1) (by decide +kernel) rfl rfl rfl (by decide +kernel)
set_option maxRecDepth 65536 in
theorem w_c30 : (Jvm.Cond.code ({ cls := "java/lang/Character", name := "toCodePoint", desc := "(CC)I" } : Jvm.MethodName) jdk_89_method_19_code (2 : Nat) (Option.some Jvm.ClassFile.FieldType.int)).before args0 about1 = true := code_word (m := ⟨12, 3⟩) (meth := k12m3) (c := k12c3) (by decide +kernel) rfl rfl rfl (by decide +kernel)
def codes1 : List Jvm.Cond := [Jvm.Cond.code x code maxLocals ret, Jvm.Cond.code ({ cls := "com/example/hermit_crab/hermitcrab/LockOptionsCheckNamePinLaw", name := "put", desc := "([CII)I" } : Jvm.MethodName) method_5_code (3 : Nat) (Option.some Jvm.ClassFile.FieldType.int), Jvm.Cond.code ({ cls := "com/example/hermit_crab/hermitcrab/LockOptionsCheckNamePinLaw", name := "bmp", desc := "(I)C" } : Jvm.MethodName) method_2_code (2 : Nat) (Option.some Jvm.ClassFile.FieldType.char), Jvm.Cond.code ({ cls := "com/example/hermit_crab/hermitcrab/LockOptionsCheckNamePinLaw", name := "high", desc := "(I)C" } : Jvm.MethodName) method_3_code (1 : Nat) (Option.some Jvm.ClassFile.FieldType.char), Jvm.Cond.code ({ cls := "com/example/hermit_crab/hermitcrab/LockOptionsCheckNamePinLaw", name := "low", desc := "(I)C" } : Jvm.MethodName) method_4_code (1 : Nat) (Option.some Jvm.ClassFile.FieldType.char), Jvm.Cond.code ({ cls := "java/lang/String", name := "<init>", desc := "([C)V" } : Jvm.MethodName) jdk_42_method_3_code (2 : Nat) (Option.none : Option Jvm.ClassFile.FieldType), Jvm.Cond.code ({ cls := "java/lang/String", name := "<init>", desc := "([CIILjava/lang/Void;)V" } : Jvm.MethodName) jdk_42_method_149_code (6 : Nat) (Option.none : Option Jvm.ClassFile.FieldType), Jvm.Cond.code ({ cls := "java/lang/Object", name := "<init>", desc := "()V" } : Jvm.MethodName) object_method_1_code (1 : Nat) (Option.none : Option Jvm.ClassFile.FieldType), Jvm.Cond.code ({ cls := "java/lang/StringUTF16", name := "compress", desc := "([CII)[B" } : Jvm.MethodName) jdk_52_method_16_code (6 : Nat) (Option.some (Jvm.ClassFile.FieldType.array Jvm.ClassFile.FieldType.byte)), Jvm.Cond.code ({ cls := "java/lang/StringUTF16", name := "compress", desc := "([CI[BII)I" } : Jvm.MethodName) jdk_52_method_21_code (7 : Nat) (Option.some Jvm.ClassFile.FieldType.int), Jvm.Cond.code ({ cls := "java/lang/StringUTF16", name := "toBytes", desc := "([CII)[B" } : Jvm.MethodName) jdk_52_method_14_code (5 : Nat) (Option.some (Jvm.ClassFile.FieldType.array Jvm.ClassFile.FieldType.byte)), Jvm.Cond.code ({ cls := "java/lang/StringUTF16", name := "newBytesFor", desc := "(I)[B" } : Jvm.MethodName) jdk_52_method_2_code (1 : Nat) (Option.some (Jvm.ClassFile.FieldType.array Jvm.ClassFile.FieldType.byte)), Jvm.Cond.code ({ cls := "java/lang/StringUTF16", name := "newBytesLength", desc := "(I)I" } : Jvm.MethodName) jdk_52_method_3_code (1 : Nat) (Option.some Jvm.ClassFile.FieldType.int), Jvm.Cond.code ({ cls := "java/lang/StringUTF16", name := "putChar", desc := "([BII)V" } : Jvm.MethodName) jdk_52_method_4_code (3 : Nat) (Option.none : Option Jvm.ClassFile.FieldType), Jvm.Cond.code ({ cls := "java/lang/StringUTF16", name := "getChar", desc := "([BI)C" } : Jvm.MethodName) jdk_52_method_5_code (2 : Nat) (Option.some Jvm.ClassFile.FieldType.char), Jvm.Cond.code ({ cls := "java/lang/StringUTF16", name := "coderFromArrayLen", desc := "([BI)B" } : Jvm.MethodName) jdk_52_method_15_code (2 : Nat) (Option.some Jvm.ClassFile.FieldType.byte), Jvm.Cond.code ({ cls := "com/example/hermit_crab/hermitcrab/LockOptions", name := "checkName", desc := "(Ljava/lang/String;)Ljava/lang/String;" } : Jvm.MethodName) prog_13_method_6_code (4 : Nat) (Option.some (Jvm.ClassFile.FieldType.object "java/lang/String")), Jvm.Cond.code ({ cls := "java/util/Objects", name := "requireNonNull", desc := "(Ljava/lang/Object;Ljava/lang/String;)Ljava/lang/Object;" } : Jvm.MethodName) jdk_31_method_11_code (2 : Nat) (Option.some (Jvm.ClassFile.FieldType.object "java/lang/Object")), Jvm.Cond.code ({ cls := "java/lang/String", name := "isEmpty", desc := "()Z" } : Jvm.MethodName) jdk_42_method_55_code (1 : Nat) (Option.some Jvm.ClassFile.FieldType.boolean), Jvm.Cond.code ({ cls := "java/lang/String", name := "length", desc := "()I" } : Jvm.MethodName) jdk_42_method_54_code (1 : Nat) (Option.some Jvm.ClassFile.FieldType.int), Jvm.Cond.code ({ cls := "java/lang/String", name := "coder", desc := "()B" } : Jvm.MethodName) jdk_42_method_152_code (1 : Nat) (Option.some Jvm.ClassFile.FieldType.byte), Jvm.Cond.code ({ cls := "java/lang/String", name := "codePointAt", desc := "(I)I" } : Jvm.MethodName) jdk_42_method_57_code (3 : Nat) (Option.some Jvm.ClassFile.FieldType.int), Jvm.Cond.code ({ cls := "java/lang/String", name := "isLatin1", desc := "()Z" } : Jvm.MethodName) jdk_42_method_154_code (1 : Nat) (Option.some Jvm.ClassFile.FieldType.boolean), Jvm.Cond.code ({ cls := "java/lang/String", name := "checkIndex", desc := "(II)V" } : Jvm.MethodName) jdk_42_method_155_code (2 : Nat) (Option.none : Option Jvm.ClassFile.FieldType), Jvm.Cond.code ({ cls := "jdk/internal/util/Preconditions", name := "checkIndex", desc := "(IILjava/util/function/BiFunction;)I" } : Jvm.MethodName) jdk_41_method_11_code (3 : Nat) (Option.some Jvm.ClassFile.FieldType.int), Jvm.Cond.code ({ cls := "java/lang/StringUTF16", name := "codePointAt", desc := "([BII)I" } : Jvm.MethodName) jdk_52_method_8_code (3 : Nat) (Option.some Jvm.ClassFile.FieldType.int), Jvm.Cond.code ({ cls := "java/lang/StringUTF16", name := "codePointAt", desc := "([BIIZ)I" } : Jvm.MethodName) jdk_52_method_7_code (6 : Nat) (Option.some Jvm.ClassFile.FieldType.int), Jvm.Cond.code ({ cls := "java/lang/Character", name := "isHighSurrogate", desc := "(C)Z" } : Jvm.MethodName) jdk_89_method_14_code (1 : Nat) (Option.some Jvm.ClassFile.FieldType.boolean), Jvm.Cond.code ({ cls := "java/lang/Character", name := "charCount", desc := "(I)I" } : Jvm.MethodName) jdk_89_method_18_code (1 : Nat) (Option.some Jvm.ClassFile.FieldType.int), Jvm.Cond.code ({ cls := "java/lang/Character", name := "isLowSurrogate", desc := "(C)Z" } : Jvm.MethodName) jdk_89_method_15_code (1 : Nat) (Option.some Jvm.ClassFile.FieldType.boolean), Jvm.Cond.code ({ cls := "java/lang/Character", name := "toCodePoint", desc := "(CC)I" } : Jvm.MethodName) jdk_89_method_19_code (2 : Nat) (Option.some Jvm.ClassFile.FieldType.int)]
set_option maxRecDepth 65536 in
theorem codes_eq : words1.filter isCode = codes1 := rfl
theorem w_codes : ∀ c ∈ words1.filter isCode, c.before args0 about1 = true := by
  rw [codes_eq]
  intro c hc
  simp only [codes1, List.mem_cons, List.not_mem_nil, or_false] at hc
  rcases hc with rfl | rfl | rfl | rfl | rfl | rfl | rfl | rfl | rfl | rfl | rfl | rfl | rfl | rfl | rfl | rfl | rfl | rfl | rfl | rfl | rfl | rfl | rfl | rfl | rfl | rfl | rfl | rfl | rfl | rfl | rfl
  · exact w_c0
  · exact w_c1
  · exact w_c2
  · exact w_c3
  · exact w_c4
  · exact w_c5
  · exact w_c6
  · exact w_c7
  · exact w_c8
  · exact w_c9
  · exact w_c10
  · exact w_c11
  · exact w_c12
  · exact w_c13
  · exact w_c14
  · exact w_c15
  · exact w_c16
  · exact w_c17
  · exact w_c18
  · exact w_c19
  · exact w_c20
  · exact w_c21
  · exact w_c22
  · exact w_c23
  · exact w_c24
  · exact w_c25
  · exact w_c26
  · exact w_c27
  · exact w_c28
  · exact w_c29
  · exact w_c30
set_option maxRecDepth 65536 in
theorem w_t1 : (words1.take 24).all (fun c => isCode c || c.before args0 about1) = true := by decide +kernel
set_option maxRecDepth 65536 in
theorem w_t2 : ((words1.drop 24).take 24).all (fun c => isCode c || c.before args0 about1) = true := by decide +kernel
set_option maxRecDepth 65536 in
theorem w_t3 : (((words1.drop 24).drop 24).take 24).all (fun c => isCode c || c.before args0 about1) = true := by decide +kernel
set_option maxRecDepth 65536 in
theorem w_t4 : ((((words1.drop 24).drop 24).drop 24).take 24).all (fun c => isCode c || c.before args0 about1) = true := by decide +kernel
set_option maxRecDepth 65536 in
theorem w_t5 : (((((words1.drop 24).drop 24).drop 24).drop 24).take 24).all (fun c => isCode c || c.before args0 about1) = true := by decide +kernel
set_option maxRecDepth 65536 in
theorem w_t6 : (((((words1.drop 24).drop 24).drop 24).drop 24).drop 24).all (fun c => isCode c || c.before args0 about1) = true := by decide +kernel
theorem w_tables : (allAtoms (Jvm.Cond.code x code maxLocals ret :: tables_1)).before args0 about1 = true := by
  rw [allAtoms_all]
  show words1.all (fun c => c.before args0 about1) = true
  refine all_split ?_ w_codes
  rw [← List.take_append_drop 24 words1, List.all_append, w_t1, ← List.take_append_drop 24 (words1.drop 24), List.all_append, w_t2, ← List.take_append_drop 24 ((words1.drop 24).drop 24), List.all_append, w_t3, ← List.take_append_drop 24 (((words1.drop 24).drop 24).drop 24), List.all_append, w_t4, ← List.take_append_drop 24 ((((words1.drop 24).drop 24).drop 24).drop 24), List.all_append, w_t5, w_t6]
  rfl
set_option maxRecDepth 65536 in
theorem w_rest : rest_1_c.before args0 about1 = true := by decide +kernel
set_option maxRecDepth 65536 in
theorem w_case : (Jvm.Cond.and given_1 narrow_1).before args0 about1 = true := by decide +kernel
theorem w_applies : (headSpec (Jvm.Cond.code x code maxLocals ret :: tables_1) room_1).applies x e0.platform about1 = true :=
  (Spec.applies_iff w_frames).mpr ⟨w_running, w_runnable, w_alone, w_named, w_hears, w_ripe, w_room, w_tables⟩
theorem atStart : AtStart classFile x code maxLocals ret World_1 tables_1 room_1 Calls_1 rest_1 Pre_1 launch0 p0 e0 about1 theMethod args0 below0 :=
  ⟨lists_1, trivial, launch0.admits_env _ _ _, launch0.least_env, fairChoices_fair.cas, fairChoices_fair.clock, w_frames, w_args, w_heap, w_applies, trivial, w_rest, w_case⟩
end start1
theorem witness_1 : WitnessClaimed_1 := ⟨start1.p0, start1.e0, start1.about1, start1.theMethod, start1.args0, start1.below0, start1.atStart⟩
end Jvm.Pilot.@@N@@
