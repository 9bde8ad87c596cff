import JvmDerived
import JvmDerived.Pilot.@@N@@Statement
import JvmDerived.Pilot.@@N@@Code
set_option linter.unusedVariables false
set_option linter.unusedSimpArgs false
namespace Jvm.Pilot.@@N@@
open Jvm Jvm.ClassFile Sem Op Lib Jvm.Free Jvm.Stand Jvm.LawKit Jvm.RoadKit Bundle Jvm.Pilot.@@N@@.Jvm.D
/-! ## own: a small logic of owned cells over the library's Stand -/
/-- cells by their addresses -/
abbrev HL := List (Addr × Cell)
def Own (h : Heap) (σ : HL) : Prop := ∀ q ∈ σ, h[q.1]? = some q.2
abbrev adr (σ : HL) : List Addr := σ.map Prod.fst
/-- what is known of the heap h under the tables vm, in an activation that began at s owning σ0 and reading ρ0: σ is owned, ρ is read, what stood at the law's start Z stands -/
def Hp (Z : State) (EL : List (String × Nat)) (σ0 ρ0 : HL) (s : State) (σ ρ : HL) (vm : Vm) (h : Heap) : Prop :=
  CHr Z EL s.vm s.heap vm h ∧ Own h σ ∧ Own h ρ ∧ (adr σ).Nodup ∧
  (∀ q ∈ σ, Z.heap.size ≤ q.1 ∧ (q.1 ∈ adr σ0 ∨ s.heap.size ≤ q.1) ∧ Safe Z EL vm h q.1) ∧
  (∀ q ∈ ρ, q.1 ∉ adr σ ∧ (q.1 ∈ adr ρ0 ∨ q.1 ∈ adr σ0 ∨ s.heap.size ≤ q.1 ∨ Bk Z EL s.vm s.heap q.1 ∨ q.1 < Z.heap.size)) ∧
  (∀ (x : Addr) (cl : Cell), s.heap[x]? = some cl → x ∉ adr σ0 → h[x]? = some cl) ∧ Ext Z.heap h
section HpLaws
variable {Z s : State} {EL : List (String × Nat)} {σ0 ρ0 σ ρ σ' ρ' : HL} {vm vm1 : Vm} {h h' : Heap}
theorem own_lt (O : Own h σ) {q : Addr × Cell} (hq : q ∈ σ) : q.1 < h.size := (Array.getElem?_eq_some_iff.mp (O q hq)).1
theorem adr_mem {x : Addr} (hx : x ∈ adr σ) : ∃ q ∈ σ, q.1 = x := List.mem_map.mp hx
theorem mem_adr {q : Addr × Cell} (hq : q ∈ σ) : q.1 ∈ adr σ := List.mem_map.mpr ⟨q, hq, rfl⟩
theorem Own.ext (E : Ext h h') (O : Own h σ) : Own h' σ := fun q hq => E.2 _ _ (O q hq)
theorem Own.sub (O : Own h σ) (hs : ∀ q ∈ σ', q ∈ σ) : Own h σ' := fun q hq => O q (hs q hq)
theorem own_app (O : Own h σ) (O' : Own h σ') : Own h (σ ++ σ') := fun q hq => (List.mem_append.mp hq).elim (O q) (O' q)
theorem ext_tr {h2 : Heap} (E : Ext h h') (E' : Ext h' h2) : Ext h h2 := ⟨Nat.le_trans E.1 E'.1, fun a c q => E'.2 _ _ (E.2 _ _ q)⟩
/-- tables and heap go on; nothing owned or read is touched -/
theorem Hp.later (H : Hp Z EL σ0 ρ0 s σ ρ vm h) (C : CHr Z EL vm h vm1 h') (E : Ext h h') : Hp Z EL σ0 ρ0 s σ ρ vm1 h' := by
  obtain ⟨c, o, r, nd, a, b, f, z⟩ := H
  exact ⟨c.trans C, o.ext E, r.ext E, nd, fun q hq => ⟨(a q hq).1, (a q hq).2.1, C.safe (own_lt o hq) (a q hq).2.2⟩, b, fun x cl hx hn => E.2 _ _ (f x cl hx hn), ext_tr z E⟩
theorem Hp.alloc (H : Hp Z EL σ0 ρ0 s σ ρ vm h) (E : Ext h h') {c : Cell} (hc : h'[h.size]? = some c) : Hp Z EL σ0 ρ0 s ((h.size, c) :: σ) ρ vm h' := by
  have C : CHr Z EL vm h vm h' := CHr.ext E H.1.1
  have H' := H.later C E
  obtain ⟨c1, o, r, nd, a, b, f, z⟩ := H
  obtain ⟨c1', o', r', nd', a', b', f', z'⟩ := H'
  refine ⟨c1', fun q hq => ?_, r', ?_, fun q hq => ?_, fun q hq => ⟨?_, (b q hq).2⟩, f', z'⟩
  · rcases List.mem_cons.mp hq with rfl | hq
    · exact hc
    · exact o' q hq
  · refine List.nodup_cons.mpr ⟨fun hm => ?_, nd⟩
    obtain ⟨q, hq, e⟩ := adr_mem hm
    exact absurd (e ▸ own_lt o hq) (Nat.lt_irrefl _)
  · rcases List.mem_cons.mp hq with rfl | hq
    · exact ⟨z.1, Or.inr c1.2.1, Safe.ext E c1.1 (Safe.new (Nat.le_refl _))⟩
    · exact a' q hq
  · intro hm
    rcases List.mem_cons.mp hm with e | hm
    · exact absurd (e ▸ own_lt r hq) (Nat.lt_irrefl _)
    · exact (b q hq).1 hm
/-- one owned cell is written -/
theorem Hp.write (H : Hp Z EL σ0 ρ0 s σ ρ vm h) {i : Nat} {a : Addr} {c c' : Cell} (hi : σ[i]? = some (a, c)) (hw : h' = h.setIfInBounds a c') : Hp Z EL σ0 ρ0 s (σ.set i (a, c')) ρ vm h' := by
  have hmem : (a, c) ∈ σ := List.mem_of_getElem? hi
  have hadr : adr (σ.set i (a, c')) = adr σ := by
    rw [adr, List.map_set]
    apply List.ext_getElem?
    intro j
    rw [List.getElem?_set]
    split
    · rename_i e
      subst e
      simp only [List.length_map, List.getElem?_map, hi, Option.map_some]
      split
      · rfl
      · rename_i hl
        exact absurd (List.getElem?_eq_some_iff.mp hi).1 (by simpa using hl)
    · rfl
  obtain ⟨c1, o, r, nd, al, b, f, z⟩ := H
  have ha : h[a]? = some c := o _ hmem
  have hlt : a < h.size := (Array.getElem?_eq_some_iff.mp ha).1
  have hS : Safe Z EL vm h a := (al _ hmem).2.2
  have ke : ∀ y, y ≠ a → h'[y]? = h[y]? := fun y hy => by rw [hw, Array.getElem?_setIfInBounds_ne (Ne.symm hy)]
  have hsz : h'.size = h.size := by rw [hw]; simp
  have hstep := c1.1.step (h' := h') fun y B cell q => by
    rw [ke y fun e => hS (e ▸ B)]; exact q
  have C : CHr Z EL vm h vm h' := ⟨hstep.1, by rw [hsz]; exact Nat.le_refl _, fun y q => Or.inl (hstep.2 y q)⟩
  have hin : ∀ q ∈ σ.set i (a, c'), q = (a, c') ∨ (q ∈ σ ∧ q.1 ≠ a) := fun q hq => by
    obtain ⟨j, hj⟩ := List.mem_iff_getElem?.mp hq
    rw [List.getElem?_set] at hj
    split at hj
    · split at hj
      · exact Or.inl (Option.some.inj hj).symm
      · cases hj
    · rename_i hne
      refine Or.inr ⟨List.mem_of_getElem? hj, fun e => hne ?_⟩
      have h1 : (adr σ)[j]? = some a := by rw [adr, List.getElem?_map, hj]; exact congrArg some e
      have h2 : (adr σ)[i]? = some a := by rw [adr, List.getElem?_map, hi]; rfl
      obtain ⟨l1, e1⟩ := List.getElem?_eq_some_iff.mp h1
      obtain ⟨l2, e2⟩ := List.getElem?_eq_some_iff.mp h2
      exact (List.getElem_inj nd).mp (e2.trans e1.symm)
  refine ⟨c1.trans C, fun q hq => ?_, fun q hq => ?_, by rw [hadr]; exact nd, fun q hq => ?_, fun q hq => ⟨by rw [hadr]; exact (b q hq).1, (b q hq).2⟩, fun x cl hx hn => ?_, ⟨by rw [hsz]; exact z.1, fun x cl hx => ?_⟩⟩
  · rcases hin q hq with rfl | ⟨hq, hne⟩
    · show h'[a]? = some c'
      rw [hw]; simp [hlt]
    · rw [ke _ hne]; exact o q hq
  · rw [ke q.1 fun e => (b q hq).1 (by rw [e]; exact mem_adr hmem)]; exact r q hq
  · rcases hin q hq with rfl | ⟨hq, -⟩
    · exact ⟨(al _ hmem).1, (al _ hmem).2.1, C.safe hlt hS⟩
    · exact ⟨(al q hq).1, (al q hq).2.1, C.safe (own_lt o hq) (al q hq).2.2⟩
  · have hx' := f x cl hx hn
    rw [ke x]
    · exact hx'
    · rintro rfl
      rcases (al _ hmem).2.1 with q | q
      · exact hn q
      · exact absurd (Array.getElem?_eq_some_iff.mp hx).1 (Nat.not_lt.mpr q)
  · rw [ke x]
    · exact z.2 x cl hx
    · rintro rfl
      exact absurd (Array.getElem?_eq_some_iff.mp hx).1 (Nat.not_lt.mpr (al _ hmem).1)
/-- fewer, or otherwise ordered -/
theorem Hp.sub (H : Hp Z EL σ0 ρ0 s σ ρ vm h) (hs : ∀ q ∈ σ', q ∈ σ) (nd : (adr σ').Nodup) (hr : ∀ q ∈ ρ', q ∈ ρ) : Hp Z EL σ0 ρ0 s σ' ρ' vm h := by
  obtain ⟨c, o, r, -, a, b, f⟩ := H
  refine ⟨c, o.sub hs, r.sub hr, nd, fun q hq => a q (hs q hq), fun q hq => ⟨fun hm => ?_, (b q (hr q hq)).2⟩, f⟩
  obtain ⟨q', hq', e⟩ := adr_mem hm
  exact (b q (hr q hq)).1 (e ▸ mem_adr (hs q' hq'))
/-- owned cells become read-only -/
theorem Hp.freeze (H : Hp Z EL σ0 ρ0 s (σ' ++ σ) ρ vm h) : Hp Z EL σ0 ρ0 s σ (σ' ++ ρ) vm h := by
  obtain ⟨c, o, r, nd, a, b, f⟩ := H
  have nd' := nd
  rw [adr, List.map_append, List.nodup_append] at nd'
  refine ⟨c, o.sub fun q hq => List.mem_append_right _ hq, own_app (o.sub fun q hq => List.mem_append_left _ hq) r, nd'.2.1, fun q hq => a q (List.mem_append_right _ hq), fun q hq => ?_, f⟩
  rcases List.mem_append.mp hq with hq | hq
  · refine ⟨fun hm => nd'.2.2 _ (mem_adr hq) _ hm rfl, ?_⟩
    rcases (a q (List.mem_append_left _ hq)).2.1 with z | z
    · exact Or.inr (Or.inl z)
    · exact Or.inr (Or.inr (Or.inl z))
  · refine ⟨fun hm => (b q hq).1 ?_, (b q hq).2⟩
    rw [adr, List.map_append]; exact List.mem_append_right _ hm
/-- a booked literal's cells are read-only -/
theorem Hp.lit (H : Hp Z EL σ0 ρ0 s σ ρ vm h) {a : Addr} {c : Cell} (ha : h[a]? = some c) (hb : ∀ x, Safe Z EL vm h x → x ≠ a) : Hp Z EL σ0 ρ0 s σ ((a, c) :: ρ) vm h := by
  obtain ⟨c1, o, r, nd, al, b, f⟩ := H
  refine ⟨c1, o, fun q hq => ?_, nd, al, fun q hq => ?_, f⟩
  · rcases List.mem_cons.mp hq with rfl | hq
    · exact ha
    · exact r q hq
  · rcases List.mem_cons.mp hq with rfl | hq
    · refine ⟨fun hm => ?_, ?_⟩
      · obtain ⟨q, hq, e⟩ := adr_mem hm
        exact hb _ (al q hq).2.2 e
      · have hB : Bk Z EL vm h a := Classical.byContradiction fun hn => hb a hn rfl
        rcases c1.2.2 a hB with z | z
        · exact Or.inr (Or.inr (Or.inr (Or.inl z)))
        · exact Or.inr (Or.inr (Or.inl z))
    · exact b q hq
/-- what stood at the law's start may be read -/
theorem Hp.old (H : Hp Z EL σ0 ρ0 s σ ρ vm h) {a : Addr} {c : Cell} (ha : Z.heap[a]? = some c) : Hp Z EL σ0 ρ0 s σ ((a, c) :: ρ) vm h := by
  obtain ⟨c1, o, r, nd, al, b, f, z⟩ := H
  have hlt : a < Z.heap.size := (Array.getElem?_eq_some_iff.mp ha).1
  refine ⟨c1, o, fun q hq => ?_, nd, al, fun q hq => ?_, f, z⟩
  · rcases List.mem_cons.mp hq with rfl | hq
    · exact z.2 _ _ ha
    · exact r q hq
  · rcases List.mem_cons.mp hq with rfl | hq
    · refine ⟨fun hm => ?_, Or.inr (Or.inr (Or.inr (Or.inr hlt)))⟩
      obtain ⟨q, hq, e⟩ := adr_mem hm
      exact absurd hlt (Nat.not_lt.mpr (by rw [show a = q.1 from e.symm]; exact (al q hq).1))
    · exact b q hq
/-- **THE FRAME RULE**: a callee that was handed σi and ρi gives back σ' and ρ' -/
theorem Hp.call {U : State} {σi σf ρi : HL} (H : Hp Z EL σ0 ρ0 s (σi ++ σf) ρ U.vm U.heap) (hρ : ∀ q ∈ ρi, q ∈ ρ) (Hc : Hp Z EL σi ρi U σ' ρ' vm1 h') : Hp Z EL σ0 ρ0 s (σ' ++ σf) (ρ' ++ ρ) vm1 h' := by
  obtain ⟨c, o, r, nd, a, b, f, z0⟩ := H
  obtain ⟨c', o', r', nd', a', b', f', z'⟩ := Hc
  have nd2 := nd
  rw [adr, List.map_append, List.nodup_append] at nd2
  have of : Own U.heap σf := o.sub fun q hq => List.mem_append_right _ hq
  have disj : ∀ x, x ∈ adr σi → x ∉ adr σf := fun x h1 h2 => nd2.2.2 x h1 x h2 rfl
  have inapp : ∀ x, x ∈ adr σi → x ∈ adr (σi ++ σf) := fun x hx => by rw [adr, List.map_append]; exact List.mem_append_left _ hx
  have inapp' : ∀ x, x ∈ adr σf → x ∈ adr (σi ++ σf) := fun x hx => by rw [adr, List.map_append]; exact List.mem_append_right _ hx
  have flt : ∀ x, x ∈ adr σf → x < U.heap.size := fun x hx => by obtain ⟨q, hq, rfl⟩ := adr_mem hx; exact own_lt of hq
  have orig : ∀ x, x ∈ adr σi → x ∈ adr σ0 ∨ s.heap.size ≤ x := fun x hx => by obtain ⟨q, hq, rfl⟩ := adr_mem hx; exact (a q (List.mem_append_left _ hq)).2.1
  have hs := c.2.1
  refine ⟨c.trans c', own_app o' fun q hq => f' _ _ (of q hq) fun hm => disj _ hm (mem_adr hq), own_app r' fun q hq => f' _ _ (r q hq) fun hm => (b q hq).1 (inapp _ hm), ?_, fun q hq => ?_, fun q hq => ?_, fun x cl hx hn => ?_, z'⟩
  · rw [adr, List.map_append, List.nodup_append]
    refine ⟨nd', nd2.2.1, fun x hx y hy e => ?_⟩
    subst e
    obtain ⟨q, hq, rfl⟩ := adr_mem hx
    rcases (a' q hq).2.1 with z | z
    · exact disj _ z hy
    · exact absurd (flt _ hy) (Nat.not_lt.mpr z)
  · rcases List.mem_append.mp hq with hq | hq
    · refine ⟨(a' q hq).1, ?_, (a' q hq).2.2⟩
      rcases (a' q hq).2.1 with z | z
      · exact orig _ z
      · exact Or.inr (Nat.le_trans hs z)
    · have z := a q (List.mem_append_right _ hq)
      exact ⟨z.1, z.2.1, c'.safe (own_lt of hq) z.2.2⟩
  · rcases List.mem_append.mp hq with hq | hq
    · have z := b' q hq
      refine ⟨fun hm => ?_, ?_⟩
      · rw [adr, List.map_append] at hm
        rcases List.mem_append.mp hm with hm | hm
        · exact z.1 hm
        · rcases z.2 with y | y | y | y | y
          · obtain ⟨q', hq', e⟩ := adr_mem y
            refine (b q' (hρ q' hq')).1 (inapp' _ ?_)
            rw [e]; exact hm
          · exact disj _ y hm
          · exact absurd (flt _ hm) (Nat.not_lt.mpr y)
          · obtain ⟨q', hq', e⟩ := adr_mem hm
            refine (a q' (List.mem_append_right _ hq')).2.2 ?_
            rw [e]; exact y
          · obtain ⟨q', hq', e⟩ := adr_mem hm
            exact absurd y (Nat.not_lt.mpr (e ▸ (a q' (List.mem_append_right _ hq')).1))
      · rcases z.2 with y | y | y | y | y
        · obtain ⟨q', hq', e⟩ := adr_mem y
          have := (b q' (hρ q' hq')).2
          rw [e] at this; exact this
        · rcases orig _ y with w | w
          · exact Or.inr (Or.inl w)
          · exact Or.inr (Or.inr (Or.inl w))
        · exact Or.inr (Or.inr (Or.inl (Nat.le_trans hs y)))
        · rcases c.2.2 _ y with w | w
          · exact Or.inr (Or.inr (Or.inr (Or.inl w)))
          · exact Or.inr (Or.inr (Or.inl w))
        · exact Or.inr (Or.inr (Or.inr (Or.inr y)))
    · have z := b q hq
      refine ⟨fun hm => ?_, z.2⟩
      rw [adr, List.map_append] at hm
      rcases List.mem_append.mp hm with hm | hm
      · obtain ⟨q', hq', e⟩ := adr_mem hm
        rcases (a' q' hq').2.1 with y | y
        · refine z.1 (inapp _ ?_)
          rw [← e]; exact y
        · exact absurd (own_lt r hq) (Nat.not_lt.mpr (e ▸ y))
      · exact z.1 (inapp' _ hm)
  · refine f' x cl (f x cl hx hn) fun hm => ?_
    rcases orig _ hm with z | z
    · exact hn z
    · exact absurd (Array.getElem?_eq_some_iff.mp hx).1 (Nat.not_lt.mpr z)
end HpLaws
/-! ## own: the walk's point (Wk), what is still to be reached (Go), a contract (Met) -/
abbrev Ctx := Program × Env × State × MethodId × Array Value × List Frame × Method × Code × HL × HL
abbrev Ctx.p (X : Ctx) : Program := X.1
abbrev Ctx.e (X : Ctx) : Env := X.2.1
abbrev Ctx.s (X : Ctx) : State := X.2.2.1
abbrev Ctx.m (X : Ctx) : MethodId := X.2.2.2.1
abbrev Ctx.args (X : Ctx) : Array Value := X.2.2.2.2.1
abbrev Ctx.below (X : Ctx) : List Frame := X.2.2.2.2.2.1
abbrev Ctx.meth (X : Ctx) : Method := X.2.2.2.2.2.2.1
abbrev Ctx.c (X : Ctx) : Code := X.2.2.2.2.2.2.2.1
abbrev Ctx.so (X : Ctx) : HL := X.2.2.2.2.2.2.2.2.1
abbrev Ctx.ro (X : Ctx) : HL := X.2.2.2.2.2.2.2.2.2
def Wk (l : Launch) (Z : State) (EL : List (String × Nat)) (R : Room) (own : String) (bytes : ByteArray) (maxL : Nat) (ret : Option FieldType) (nm : String) (X : Ctx) (σ ρ : HL) (T : State) (k n : Nat) : Prop :=
  (X.p.tables.exec = Jvm.exec ∧ X.c.code = bytes ∧ X.c.maxLocals = maxL ∧ X.meth.sig.returnType = ret ∧ X.meth.locks = false ∧ X.meth.name = nm ∧ ∃ a : Array Value, EW Z a EL) ∧
  ∃ (vm0 : Vm) (k0 : Nat) (locs : List Loc), Stand X.p l X.e R (X.s.setVm vm0) X.m X.args X.below X.meth X.c T locs k n ∧ X.s.Since vm0 k0 ∧ k0 ≤ T.heap.size ∧ Z.Warmed39 vm0 ∧ vm0.findClass own = some X.m.cls ∧ Fr Z.heap.size locs ∧ Hp Z EL X.so X.ro X.s σ ρ vm0 T.heap
def Go (Z : State) (EL : List (String × Nat)) (K N : Nat) (Q : Option Value → HL → HL → Prop) (X : Ctx) (T : State) (pc : Nat) (Ls : Array Slot) (st : List Value) : Prop :=
  ∃ (s₂ : State) (o : Outcome), Steps X.p.tables X.e X.below (T.setTop (mkF X.m pc Ls st)) s₂ ∧ s₂.status = .running ∧ Ended s₂ X.below o ∧
    ∃ v σ ρ L, o = .returned v ∧ Q v σ ρ ∧ Fr Z.heap.size L ∧ Hp Z EL X.so X.ro X.s σ ρ s₂.vm s₂.heap ∧ ReturnedEndW X.s o s₂ L K N
def Met (l : Launch) (Z : State) (EL : List (String × Nat)) (y : MethodName) (bytes : ByteArray) (maxL : Nat) (ret : Option FieldType) (rm : Room) (as' : Array Value) (σi ρi : HL) (Q : Option Value → HL → HL → Prop) : Prop :=
  MetFree l y (head1 [Jvm.Cond.code y bytes maxL ret] rm) (fun a U => a = as' ∧ Z.Warmed39 U.vm ∧ Hp Z EL σi ρi U σi ρi U.vm U.heap) (fun _ _ _ _ _ => True)
    (fun _ U o U' => ∃ v σ ρ L, o = .returned v ∧ Q v σ ρ ∧ Fr Z.heap.size L ∧ Hp Z EL σi ρi U σ ρ U'.vm U'.heap ∧ ReturnedEndW U o U' L rm.cells rm.slots)
section WkLaws
variable {l : Launch} {Z : State} {a0 : Array Value} {EL : List (String × Nat)} {R : Room} {own : String} {bytes : ByteArray} {maxL : Nat} {ret : Option FieldType} {nm : String} {X : Ctx} {σ ρ σ' ρ' : HL} {T T' : State} {k n K N : Nat} {Q Q' : Option Value → HL → HL → Prop} {pc pc' : Nat} {Ls Ls' : Array Slot} {st st' : List Value}
theorem Wk.here (W : Wk l Z EL R own bytes maxL ret nm X σ ρ T k n) : At T X.m X.c X.below := by obtain ⟨-, _, _, _, Y, -⟩ := W; exact Y.here
theorem Wk.hx (W : Wk l Z EL R own bytes maxL ret nm X σ ρ T k n) : X.p.tables.exec = Jvm.exec := W.1.1
theorem Wk.hb (W : Wk l Z EL R own bytes maxL ret nm X σ ρ T k n) {r : Except ClassFile.DecodeError (ClassFile.Instr × Nat)} (hd : decode bytes pc = r) : decode X.c.code pc = r := by rw [W.1.2.1]; exact hd
theorem Go.by (f : ∀ t, Steps X.p.tables X.e X.below (T'.setTop (mkF X.m pc' Ls' st')) t → Steps X.p.tables X.e X.below (T.setTop (mkF X.m pc Ls st)) t) (r : Go Z EL K N Q X T' pc' Ls' st') : Go Z EL K N Q X T pc Ls st := by
  obtain ⟨s2, o, h1, h2⟩ := r
  exact ⟨s2, o, f _ h1, h2⟩
theorem Go.mono (h : ∀ v σ ρ, Q v σ ρ → Q' v σ ρ) (r : Go Z EL K N Q X T pc Ls st) : Go Z EL K N Q' X T pc Ls st := by
  obtain ⟨s2, o, h1, h2, h3, v, a, b, L, e, q, r⟩ := r
  exact ⟨s2, o, h1, h2, h3, v, a, b, L, e, h _ _ _ q, r⟩
theorem Met.mono {y : MethodName} {rm : Room} {as' : Array Value} (h : ∀ v σ ρ, Q v σ ρ → Q' v σ ρ) (M : Met l Z EL y bytes maxL ret rm as' σ ρ Q) : Met l Z EL y bytes maxL ret rm as' σ ρ Q' :=
  fun p e ha hc hk s m args below hf happ hP hK => by
    obtain ⟨n, o, h1, h2, h3, v, s1, r1, L, e1, q, r⟩ := M p e ha hc hk s m args below hf happ hP hK
    exact ⟨n, o, h1, h2, h3, v, s1, r1, L, e1, h _ _ _ q, r⟩
theorem Hp.enter {s U : State} {σ0 ρ0 σi σf ρi : HL} (H : Hp Z EL σ0 ρ0 s (σi ++ σf) ρ U.vm U.heap) (hρ : ∀ q ∈ ρi, q ∈ ρ) : Hp Z EL σi ρi U σi ρi U.vm U.heap := by
  obtain ⟨c, o, r, nd, a, b, f, z0⟩ := H
  rw [adr, List.map_append, List.nodup_append] at nd
  refine ⟨CHr.refl c.1, o.sub fun q hq => List.mem_append_left _ hq, r.sub hρ, nd.1, fun q hq => ?_, fun q hq => ⟨fun hm => (b q (hρ q hq)).1 ?_, Or.inl (mem_adr hq)⟩, fun _ _ q _ => q, z0⟩
  · have z := a q (List.mem_append_left _ hq)
    exact ⟨z.1, Or.inl (mem_adr hq), z.2.2⟩
  · rw [adr, List.map_append]; exact List.mem_append_left _ hm
/-- a walk of the body meets the contract -/
theorem Met.walk {y : MethodName} {rm : Room} {as' : Array Value} {σi ρi : HL} (hEL : EW Z a0 EL) (hp : plainName y.cls = true) (Ls0 : Array Slot) (ent : ∀ m, entryFrame m as' maxL = mkF m 0 Ls0 [])
    (w : ∀ (X : Ctx) (T : State), Wk l Z EL rm y.cls bytes maxL ret y.name X σi ρi T 0 0 → Go Z EL rm.cells rm.slots Q X T 0 Ls0 []) : Met l Z EL y bytes maxL ret rm as' σi ρi Q := by
  refine MetFree.of_bodySF (plainFor_of_name hp) hisR ?_
  intro p e s m args below meth c s₁ Bd hml hP hK
  obtain ⟨rfl, hZ, H⟩ := hP
  have X0 : Stand p l e rm s m args below meth c s₁ [] 0 0 := Stand.of_body Bd
  have e0 : s₁.heap = s.heap := by rw [Bd.state]; rfl
  obtain ⟨s2, o, h1, h2, h3, h4⟩ := w (p, e, s, m, args, below, meth, c, σi, ρi) s₁ ⟨⟨Bd.exec, Bd.bytes, hml, Bd.returns, Bd.notSynchronized, (name_of_methodNamed Bd.named Bd.method).1, a0, hEL⟩, s.vm, s.heap.size, [], X0, (State.WarmedH.refl s).since _, by rw [e0]; exact Nat.le_refl _, hZ, findClass_of_methodNamed Bd.named, Fr.nil _, by rw [e0]; exact H⟩
  exact ⟨s2, o, castTop (ent m) h1, h2, h3, h4⟩
/-- a contract pays a call -/
theorem Met.back {p : Program} {e : Env} {below : List Frame} {s : State} {args : Array Value} {vm0 : Vm} {y : MethodName} {rm : Room} {as' : Array Value} {σi ρi σf σ0 ρ0 : HL} {len W : Nat} {h : Heap} (M : Met l Z EL y bytes maxL ret rm as' σi ρi Q)
    (hZ : Z.Warmed39 vm0) (wc : (Jvm.Cond.code y bytes maxL ret).before a0 Z = true) (wz : (Jvm.Cond.initialized y.cls).before a0 Z = true) (hf : rm.frames + 1 ≤ R.frames) (hl : W + (maxL + 11) + rm.locals ≤ R.locals) {a1 : Array Value} (hEL : EW Z a1 EL)
    (H : Hp Z EL σ0 ρ0 s (σi ++ σf) ρ vm0 h) (hρ : ∀ q ∈ ρi, q ∈ ρ) :
    BackS l R p e below (s.setVm vm0) args y len W (fun A a => a = as' ∧ A.U.heap = h ∧ A.cells + rm.cells ≤ R.cells ∧ A.slots + rm.slots ≤ R.slots)
      (fun A _ v B => ∃ σ' ρ' L, Q v σ' ρ' ∧ Fr Z.heap.size L ∧ Hp Z EL σ0 ρ0 s (σ' ++ σf) (ρ' ++ ρ) B.U.vm B.U.heap ∧ B.locs = A.locs ++ L ∧ B.cells = A.cells + rm.cells ∧ B.slots = A.slots + rm.slots) := by
  have key : ∀ m meth c (A : Pt) (g : JFrame) mk (a : Array Value), Stand p l e R (s.setVm vm0) m args below meth c A.U A.locs A.cells A.slots → A.U.heap = h → Hp Z EL σ0 ρ0 s (σi ++ σf) ρ (A.U.calling g mk a).vm (A.U.calling g mk a).heap := fun m meth c A g mk a Y hp => by
    have C := CHv.at Y hZ hEL H.1.1
    have q := H.later C ⟨Nat.le_refl _, fun _ _ z => z⟩
    show Hp Z EL σ0 ρ0 s (σi ++ σf) ρ A.U.vm A.U.heap
    rw [hp]; exact q
  refine BackS.of_freeW (bytes := bytes) (maxL := maxL) (ret := ret) (E := fun _ first o t L k n => k = rm.cells ∧ n = rm.slots ∧ ∃ v σ ρ, o = .returned v ∧ Q v σ ρ ∧ Fr Z.heap.size L ∧ Hp Z EL σi ρi first σ ρ t.vm t.heap) M hf hl
    (fun m meth c A a Y hp => have hU : Z.Warmed39 A.U.vm := wtrans (s := s.setVm vm0) hZ Y.warmed
      ⟨by show (Jvm.Cond.and _ .tt).before a A.U = true; rw [Cond.before_and, mv hU wc]; rfl, mv hU wc, mv hU wz, hp.2.2.1, hp.2.2.2⟩)
    (fun m meth c A a g mk Y hp => ⟨hp.1, wtrans (s := s.setVm vm0) hZ Y.warmed, (key m meth c A g mk a Y hp.2.1).enter hρ⟩) (fun _ _ _ _ _ _ _ _ _ => trivial)
    (fun _ _ _ _ ⟨v, s1, r1, L, h1, h2, h3, h4, h5⟩ => ⟨L, _, _, h5, rfl, rfl, v, s1, r1, h1, h2, h3, h4⟩) ?_
  intro m meth c A a g mk v t L k n Y hp _ _ ⟨e1, e2, v', s1, r1, e3, e4, e5, e6⟩
  cases e3
  subst e1 e2
  exact ⟨s1, r1, L, e4, e5, (key m meth c A g mk a Y hp.2.1).call hρ e6, rfl, rfl, rfl⟩
/-! picking out of lists -/
def takeAt {α : Type} : Nat → List α → Option (α × List α)
  | _, [] => none
  | 0, x :: l => some (x, l)
  | i + 1, x :: l => match takeAt i l with
    | none => none
    | some (y, l') => some (y, x :: l')
def pick {α : Type} : List Nat → List α → Option (List α × List α)
  | [], l => some ([], l)
  | i :: is, l => match takeAt i l with
    | none => none
    | some (x, l') => match pick is l' with
      | none => none
      | some (a, b) => some (x :: a, b)
theorem takeAt_perm {α : Type} : ∀ (i : Nat) (l : List α) (x : α) (l' : List α), takeAt i l = some (x, l') → (x :: l').Perm l
  | _, [], _, _, h => by simp [takeAt] at h
  | 0, y :: l, x, l', h => by simp [takeAt] at h; obtain ⟨rfl, rfl⟩ := h; exact List.Perm.refl _
  | i + 1, y :: l, x, l', h => by
    simp only [takeAt] at h
    cases hq : takeAt i l with
    | none => simp [hq] at h
    | some q =>
      obtain ⟨z, l2⟩ := q
      simp [hq] at h
      obtain ⟨rfl, rfl⟩ := h
      exact (List.Perm.swap _ _ _).trans ((takeAt_perm i l z l2 hq).cons y)
theorem pick_perm {α : Type} : ∀ (is : List Nat) (l a b : List α), pick is l = some (a, b) → (a ++ b).Perm l
  | [], l, a, b, h => by simp [pick] at h; obtain ⟨rfl, rfl⟩ := h; exact List.Perm.refl _
  | i :: is, l, a, b, h => by
    simp only [pick] at h
    cases hq : takeAt i l with
    | none => simp [hq] at h
    | some q =>
      obtain ⟨x, l'⟩ := q
      cases hp : pick is l' with
      | none => simp [hq, hp] at h
      | some r =>
        obtain ⟨a', b'⟩ := r
        simp [hq, hp] at h
        obtain ⟨rfl, rfl⟩ := h
        exact ((pick_perm is l' a' b' hp).cons x).trans (takeAt_perm i l x l' hq)
theorem Hp.perm {s : State} {σ0 ρ0 : HL} {vm : Vm} {h : Heap} (H : Hp Z EL σ0 ρ0 s σ ρ vm h) (hp : σ'.Perm σ) : Hp Z EL σ0 ρ0 s σ' ρ vm h :=
  H.sub (fun q hq => hp.mem_iff.mp hq) ((hp.map Prod.fst).nodup_iff.mpr H.2.2.2.1) fun _ q => q
def roOf (is : List Nat) (ρ ρi : HL) : Prop := is.map (fun i => ρ[i]?) = ρi.map some
theorem roOf.mem {is : List Nat} {ρi : HL} (h : roOf is ρ ρi) : ∀ q ∈ ρi, q ∈ ρ := fun q hq => by
  have h1 : some q ∈ ρi.map some := List.mem_map.mpr ⟨q, hq, rfl⟩
  rw [← h] at h1
  obtain ⟨i, -, e⟩ := List.mem_map.mp h1
  exact List.mem_of_getElem? e
theorem Wk.perm (W : Wk l Z EL R own bytes maxL ret nm X σ ρ T k n) (hp : σ'.Perm σ) : Wk l Z EL R own bytes maxL ret nm X σ' ρ T k n := by
  obtain ⟨w, vm0, k0, locs, a, b, c, d, e, f, H⟩ := W
  exact ⟨w, vm0, k0, locs, a, b, c, d, e, f, H.perm hp⟩
/-- owned cells become read-only -/
theorem Wk.freeze (W : Wk l Z EL R own bytes maxL ret nm X σ ρ T k n) (is : List Nat) {σi σf : HL} (hp : pick is σ = some (σi, σf)) : Wk l Z EL R own bytes maxL ret nm X σf (σi ++ ρ) T k n := by
  obtain ⟨w, vm0, k0, locs, a, b, c, d, e, f, H⟩ := W
  exact ⟨w, vm0, k0, locs, a, b, c, d, e, f, (H.perm (pick_perm _ _ _ _ hp)).freeze⟩
/-- cells forgotten -/
theorem Wk.drop (W : Wk l Z EL R own bytes maxL ret nm X σ ρ T k n) (is : List Nat) {σi σf : HL} (hp : pick is σ = some (σi, σf)) : Wk l Z EL R own bytes maxL ret nm X σf ρ T k n := by
  obtain ⟨w, vm0, k0, locs, a, b, c, d, e, f, H⟩ := W
  have H' := H.perm (pick_perm _ _ _ _ hp)
  refine ⟨w, vm0, k0, locs, a, b, c, d, e, f, H'.sub (fun q hq => List.mem_append_right _ hq) ?_ fun _ q => q⟩
  have nd := H'.2.2.2.1
  rw [adr, List.map_append, List.nodup_append] at nd
  exact nd.2.1
theorem Wk.keepRo (W : Wk l Z EL R own bytes maxL ret nm X σ ρ T k n) (is : List Nat) (hp : roOf is ρ ρ') : Wk l Z EL R own bytes maxL ret nm X σ ρ' T k n := by
  obtain ⟨w, vm0, k0, locs, a, b, c, d, e, f, H⟩ := W
  exact ⟨w, vm0, k0, locs, a, b, c, d, e, f, H.sub (fun _ q => q) H.2.2.2.1 hp.mem⟩
theorem Wk.old (W : Wk l Z EL R own bytes maxL ret nm X σ ρ T k n) {a : Addr} {c : Cell} (ha : Z.heap[a]? = some c) : Wk l Z EL R own bytes maxL ret nm X σ ((a, c) :: ρ) T k n := by
  obtain ⟨w, vm0, k0, locs, a, b, c, d, e, f, H⟩ := W
  exact ⟨w, vm0, k0, locs, a, b, c, d, e, f, H.old ha⟩
theorem Wk.more (W : Wk l Z EL R own bytes maxL ret nm X σ ρ T k n) {k' n' : Nat} (hk : k ≤ k') (hn : n ≤ n') : Wk l Z EL R own bytes maxL ret nm X σ ρ T k' n' := by
  obtain ⟨w, vm0, k0, locs, a, b⟩ := W
  exact ⟨w, vm0, k0, locs, a.more hk hn, b⟩
theorem Wk.ext (W : Wk l Z EL R own bytes maxL ret nm X σ ρ T k n) : Ext Z.heap T.heap := by
  obtain ⟨w, vm0, k0, locs, a, b, c, d, e, f, H⟩ := W
  exact H.2.2.2.2.2.2.2
theorem Wk.cell (W : Wk l Z EL R own bytes maxL ret nm X σ ρ T k n) {q : Addr × Cell} (hq : q ∈ σ ∨ q ∈ ρ ∨ Z.heap[q.1]? = some q.2) : T.heap[q.1]? = some q.2 := by
  obtain ⟨w, vm0, k0, locs, a, b, c, d, e, f, H⟩ := W
  exact hq.elim (H.2.1 q) fun z => z.elim (H.2.2.1 q) (H.2.2.2.2.2.2.2.2 _ _)
end WkLaws
/-! ## own: single steps in the Go form (printed by gen_steps.py) -/
section StepLaws
variable {l : Launch} {Z : State} {a0 : Array Value} {EL : List (String × Nat)} {R : Room} {own : String} {bytes : ByteArray} {maxL : Nat} {ret : Option FieldType} {nm : String} {X : Ctx} {σ ρ : HL} {T : State} {k n K N : Nat} {Q : Option Value → HL → HL → Prop} {pc pc' : Nat} {Ls : Array Slot} {st : List Value}
theorem Go.aload (W : Wk l Z EL R own bytes maxL ret nm X σ ρ T k n) {k' : Nat} {v : Value} (hd : decode bytes pc = .ok (.aload k', 2)) (hl : Ls[k']? = some (.val v)) (hv : v.isRef = true) (hp : pc + 2 = pc') (r : Go Z EL K N Q X T pc' Ls (v :: st)) : Go Z EL K N Q X T pc Ls st :=
  Go.by (fun t kk => XS.aload W.here W.hx rfl (W.hb hd) hl hv (by subst hp; exact kk)) r
theorem Go.aloadN (W : Wk l Z EL R own bytes maxL ret nm X σ ρ T k n) {k' : Fin 4} {v : Value} (hd : decode bytes pc = .ok (.aload_n k', 1)) (hl : Ls[k'.val]? = some (.val v)) (hv : v.isRef = true) (hp : pc + 1 = pc') (r : Go Z EL K N Q X T pc' Ls (v :: st)) : Go Z EL K N Q X T pc Ls st :=
  Go.by (fun t kk => XS.aloadN W.here W.hx rfl (W.hb hd) hl hv (by subst hp; exact kk)) r
theorem Go.iload (W : Wk l Z EL R own bytes maxL ret nm X σ ρ T k n) {k' : Nat} {v : Int32} (hd : decode bytes pc = .ok (.iload k', 2)) (hl : Ls[k']? = some (.val (.int v))) (hp : pc + 2 = pc') (r : Go Z EL K N Q X T pc' Ls (.int v :: st)) : Go Z EL K N Q X T pc Ls st :=
  Go.by (fun t kk => XS.iload W.here W.hx rfl (W.hb hd) hl (by subst hp; exact kk)) r
theorem Go.iloadN (W : Wk l Z EL R own bytes maxL ret nm X σ ρ T k n) {k' : Fin 4} {v : Int32} (hd : decode bytes pc = .ok (.iload_n k', 1)) (hl : Ls[k'.val]? = some (.val (.int v))) (hp : pc + 1 = pc') (r : Go Z EL K N Q X T pc' Ls (.int v :: st)) : Go Z EL K N Q X T pc Ls st :=
  Go.by (fun t kk => XS.iloadN W.here W.hx rfl (W.hb hd) hl (by subst hp; exact kk)) r
theorem Go.lload (W : Wk l Z EL R own bytes maxL ret nm X σ ρ T k n) {k' : Nat} {v : Int64} (hd : decode bytes pc = .ok (.lload k', 2)) (hl : Ls[k']? = some (.val (.long v))) (hp : pc + 2 = pc') (r : Go Z EL K N Q X T pc' Ls (.long v :: st)) : Go Z EL K N Q X T pc Ls st :=
  Go.by (fun t kk => XT.lload W.here W.hx rfl (W.hb hd) hl (by subst hp; exact kk)) r
theorem Go.lloadN (W : Wk l Z EL R own bytes maxL ret nm X σ ρ T k n) {k' : Fin 4} {v : Int64} (hd : decode bytes pc = .ok (.lload_n k', 1)) (hl : Ls[k'.val]? = some (.val (.long v))) (hp : pc + 1 = pc') (r : Go Z EL K N Q X T pc' Ls (.long v :: st)) : Go Z EL K N Q X T pc Ls st :=
  Go.by (fun t kk => XT.lloadN W.here W.hx rfl (W.hb hd) hl (by subst hp; exact kk)) r
theorem Go.istore (W : Wk l Z EL R own bytes maxL ret nm X σ ρ T k n) {k' : Nat} {x : Int32} (Ls' : Array Slot) (hd : decode bytes pc = .ok (.istore k', 2)) (hl : storeLocals Ls k' (.int x) = some Ls') (hp : pc + 2 = pc') (r : Go Z EL K N Q X T pc' Ls' st) : Go Z EL K N Q X T pc Ls (.int x :: st) :=
  Go.by (fun t kk => XS.istore W.here W.hx rfl (W.hb hd) rfl hl (by subst hp; exact kk)) r
theorem Go.istoreN (W : Wk l Z EL R own bytes maxL ret nm X σ ρ T k n) {k' : Fin 4} {x : Int32} (Ls' : Array Slot) (hd : decode bytes pc = .ok (.istore_n k', 1)) (hl : storeLocals Ls k'.val (.int x) = some Ls') (hp : pc + 1 = pc') (r : Go Z EL K N Q X T pc' Ls' st) : Go Z EL K N Q X T pc Ls (.int x :: st) :=
  Go.by (fun t kk => XS.istoreN W.here W.hx rfl (W.hb hd) rfl hl (by subst hp; exact kk)) r
theorem Go.astore (W : Wk l Z EL R own bytes maxL ret nm X σ ρ T k n) {k' : Nat} {x : Value} (Ls' : Array Slot) (hd : decode bytes pc = .ok (.astore k', 2)) (hv : x.isRef = true) (hl : storeLocals Ls k' x = some Ls') (hp : pc + 2 = pc') (r : Go Z EL K N Q X T pc' Ls' st) : Go Z EL K N Q X T pc Ls (x :: st) :=
  Go.by (fun t kk => XS.astore W.here W.hx rfl (W.hb hd) rfl hv hl (by subst hp; exact kk)) r
theorem Go.astoreN (W : Wk l Z EL R own bytes maxL ret nm X σ ρ T k n) {k' : Fin 4} {x : Value} (Ls' : Array Slot) (hd : decode bytes pc = .ok (.astore_n k', 1)) (hv : x.isRef = true) (hl : storeLocals Ls k'.val x = some Ls') (hp : pc + 1 = pc') (r : Go Z EL K N Q X T pc' Ls' st) : Go Z EL K N Q X T pc Ls (x :: st) :=
  Go.by (fun t kk => XS.astoreN W.here W.hx rfl (W.hb hd) rfl hv hl (by subst hp; exact kk)) r
theorem Go.lstore (W : Wk l Z EL R own bytes maxL ret nm X σ ρ T k n) {k' : Nat} {x : Int64} (Ls' : Array Slot) (hd : decode bytes pc = .ok (.lstore k', 2)) (hl : storeLocals Ls k' (.long x) = some Ls') (hp : pc + 2 = pc') (r : Go Z EL K N Q X T pc' Ls' st) : Go Z EL K N Q X T pc Ls (.long x :: st) :=
  Go.by (fun t kk => XT.lstore W.here W.hx rfl (W.hb hd) rfl hl (by subst hp; exact kk)) r
theorem Go.lstoreN (W : Wk l Z EL R own bytes maxL ret nm X σ ρ T k n) {k' : Fin 4} {x : Int64} (Ls' : Array Slot) (hd : decode bytes pc = .ok (.lstore_n k', 1)) (hl : storeLocals Ls k'.val (.long x) = some Ls') (hp : pc + 1 = pc') (r : Go Z EL K N Q X T pc' Ls' st) : Go Z EL K N Q X T pc Ls (.long x :: st) :=
  Go.by (fun t kk => XT.lstoreN W.here W.hx rfl (W.hb hd) rfl hl (by subst hp; exact kk)) r
theorem Go.iconst (W : Wk l Z EL R own bytes maxL ret nm X σ ρ T k n) {i : Int} (v : Int32) (hd : decode bytes pc = .ok (.iconst i, 1)) (hv : Int32.ofInt i = v) (hp : pc + 1 = pc') (r : Go Z EL K N Q X T pc' Ls (.int v :: st)) : Go Z EL K N Q X T pc Ls st :=
  Go.by (fun t kk => XS.iconst W.here W.hx rfl (W.hb hd)  (by subst hp; subst hv; exact kk)) r
theorem Go.bipush (W : Wk l Z EL R own bytes maxL ret nm X σ ρ T k n) {i : Int} (v : Int32) (hd : decode bytes pc = .ok (.bipush i, 2)) (hv : (Int8.ofInt i).toInt32 = v) (hp : pc + 2 = pc') (r : Go Z EL K N Q X T pc' Ls (.int v :: st)) : Go Z EL K N Q X T pc Ls st :=
  Go.by (fun t kk => XS.bipush W.here W.hx rfl (W.hb hd)  (by subst hp; subst hv; exact kk)) r
theorem Go.sipush (W : Wk l Z EL R own bytes maxL ret nm X σ ρ T k n) {i : Int} (v : Int32) (hd : decode bytes pc = .ok (.sipush i, 3)) (hv : (Int16.ofInt i).toInt32 = v) (hp : pc + 3 = pc') (r : Go Z EL K N Q X T pc' Ls (.int v :: st)) : Go Z EL K N Q X T pc Ls st :=
  Go.by (fun t kk => XS.sipush W.here W.hx rfl (W.hb hd)  (by subst hp; subst hv; exact kk)) r
theorem Go.lconst (W : Wk l Z EL R own bytes maxL ret nm X σ ρ T k n) {i : Fin 2} (v : Int64) (hd : decode bytes pc = .ok (.lconst i, 1)) (hv : Int64.ofNat i = v) (hp : pc + 1 = pc') (r : Go Z EL K N Q X T pc' Ls (.long v :: st)) : Go Z EL K N Q X T pc Ls st :=
  Go.by (fun t kk => XT.lconst W.here W.hx rfl (W.hb hd)  (by subst hp; subst hv; exact kk)) r
theorem Go.aconstNull (W : Wk l Z EL R own bytes maxL ret nm X σ ρ T k n)  (hd : decode bytes pc = .ok (.aconst_null, 1))  (hp : pc + 1 = pc') (r : Go Z EL K N Q X T pc' Ls (.null :: st)) : Go Z EL K N Q X T pc Ls st :=
  Go.by (fun t kk => XS.aconstNull W.here W.hx rfl (W.hb hd)  (by subst hp; exact kk)) r
theorem Go.iadd (W : Wk l Z EL R own bytes maxL ret nm X σ ρ T k n) {x y : Int32} (hd : decode bytes pc = .ok (.iadd, 1))  (hp : pc + 1 = pc') (r : Go Z EL K N Q X T pc' Ls (.int (x + y) :: st)) : Go Z EL K N Q X T pc Ls (.int y :: .int x :: st) :=
  Go.by (fun t kk => XS.iadd W.here W.hx rfl (W.hb hd) rfl (by subst hp; exact kk)) r
theorem Go.isub (W : Wk l Z EL R own bytes maxL ret nm X σ ρ T k n) {x y : Int32} (hd : decode bytes pc = .ok (.isub, 1))  (hp : pc + 1 = pc') (r : Go Z EL K N Q X T pc' Ls (.int (x - y) :: st)) : Go Z EL K N Q X T pc Ls (.int y :: .int x :: st) :=
  Go.by (fun t kk => XS.isub W.here W.hx rfl (W.hb hd) rfl (by subst hp; exact kk)) r
theorem Go.imul (W : Wk l Z EL R own bytes maxL ret nm X σ ρ T k n) {x y : Int32} (hd : decode bytes pc = .ok (.imul, 1))  (hp : pc + 1 = pc') (r : Go Z EL K N Q X T pc' Ls (.int (x * y) :: st)) : Go Z EL K N Q X T pc Ls (.int y :: .int x :: st) :=
  Go.by (fun t kk => XS.imul W.here W.hx rfl (W.hb hd) rfl (by subst hp; exact kk)) r
theorem Go.iand (W : Wk l Z EL R own bytes maxL ret nm X σ ρ T k n) {x y : Int32} (hd : decode bytes pc = .ok (.iand, 1))  (hp : pc + 1 = pc') (r : Go Z EL K N Q X T pc' Ls (.int (x &&& y) :: st)) : Go Z EL K N Q X T pc Ls (.int y :: .int x :: st) :=
  Go.by (fun t kk => XS.iand W.here W.hx rfl (W.hb hd) rfl (by subst hp; exact kk)) r
theorem Go.ior (W : Wk l Z EL R own bytes maxL ret nm X σ ρ T k n) {x y : Int32} (hd : decode bytes pc = .ok (.ior, 1))  (hp : pc + 1 = pc') (r : Go Z EL K N Q X T pc' Ls (.int (x ||| y) :: st)) : Go Z EL K N Q X T pc Ls (.int y :: .int x :: st) :=
  Go.by (fun t kk => XT.ior W.here W.hx rfl (W.hb hd) rfl (by subst hp; exact kk)) r
theorem Go.ixor (W : Wk l Z EL R own bytes maxL ret nm X σ ρ T k n) {x y : Int32} (hd : decode bytes pc = .ok (.ixor, 1))  (hp : pc + 1 = pc') (r : Go Z EL K N Q X T pc' Ls (.int (x ^^^ y) :: st)) : Go Z EL K N Q X T pc Ls (.int y :: .int x :: st) :=
  Go.by (fun t kk => XT.ixor W.here W.hx rfl (W.hb hd) rfl (by subst hp; exact kk)) r
theorem Go.ishl (W : Wk l Z EL R own bytes maxL ret nm X σ ρ T k n) {x y : Int32} (hd : decode bytes pc = .ok (.ishl, 1))  (hp : pc + 1 = pc') (r : Go Z EL K N Q X T pc' Ls (.int (x <<< (y &&& 31)) :: st)) : Go Z EL K N Q X T pc Ls (.int y :: .int x :: st) :=
  Go.by (fun t kk => XT.ishl W.here W.hx rfl (W.hb hd) rfl (by subst hp; exact kk)) r
theorem Go.ishr (W : Wk l Z EL R own bytes maxL ret nm X σ ρ T k n) {x y : Int32} (hd : decode bytes pc = .ok (.ishr, 1))  (hp : pc + 1 = pc') (r : Go Z EL K N Q X T pc' Ls (.int (x >>> (y &&& 31)) :: st)) : Go Z EL K N Q X T pc Ls (.int y :: .int x :: st) :=
  Go.by (fun t kk => XT.ishr W.here W.hx rfl (W.hb hd) rfl (by subst hp; exact kk)) r
theorem Go.iushr (W : Wk l Z EL R own bytes maxL ret nm X σ ρ T k n) {x y : Int32} (hd : decode bytes pc = .ok (.iushr, 1))  (hp : pc + 1 = pc') (r : Go Z EL K N Q X T pc' Ls (.int ((x.toUInt32 >>> (y &&& 31).toUInt32).toInt32) :: st)) : Go Z EL K N Q X T pc Ls (.int y :: .int x :: st) :=
  Go.by (fun t kk => XT.iushr W.here W.hx rfl (W.hb hd) rfl (by subst hp; exact kk)) r
theorem Go.idiv (W : Wk l Z EL R own bytes maxL ret nm X σ ρ T k n) {x y : Int32} (hd : decode bytes pc = .ok (.idiv, 1)) (hy : y ≠ 0) (hp : pc + 1 = pc') (r : Go Z EL K N Q X T pc' Ls (.int (x / y) :: st)) : Go Z EL K N Q X T pc Ls (.int y :: .int x :: st) :=
  Go.by (fun t kk => XS.idiv W.here W.hx rfl (W.hb hd) rfl hy (by subst hp; exact kk)) r
theorem Go.irem (W : Wk l Z EL R own bytes maxL ret nm X σ ρ T k n) {x y : Int32} (hd : decode bytes pc = .ok (.irem, 1)) (hy : y ≠ 0) (hp : pc + 1 = pc') (r : Go Z EL K N Q X T pc' Ls (.int (x % y) :: st)) : Go Z EL K N Q X T pc Ls (.int y :: .int x :: st) :=
  Go.by (fun t kk => XS.irem W.here W.hx rfl (W.hb hd) rfl hy (by subst hp; rw [irem_eq_mod x y]; exact kk)) r
theorem Go.ineg (W : Wk l Z EL R own bytes maxL ret nm X σ ρ T k n) {x : Int32} (hd : decode bytes pc = .ok (.ineg, 1))  (hp : pc + 1 = pc') (r : Go Z EL K N Q X T pc' Ls (.int (-x) :: st)) : Go Z EL K N Q X T pc Ls (.int x :: st) :=
  Go.by (fun t kk => XS.ineg W.here W.hx rfl (W.hb hd) rfl (by subst hp; exact kk)) r
theorem Go.i2b (W : Wk l Z EL R own bytes maxL ret nm X σ ρ T k n) {x : Int32} (hd : decode bytes pc = .ok (.i2b, 1))  (hp : pc + 1 = pc') (r : Go Z EL K N Q X T pc' Ls (.int x.toInt8.toInt32 :: st)) : Go Z EL K N Q X T pc Ls (.int x :: st) :=
  Go.by (fun t kk => XT.i2b W.here W.hx rfl (W.hb hd) rfl (by subst hp; exact kk)) r
theorem Go.i2c (W : Wk l Z EL R own bytes maxL ret nm X σ ρ T k n) {x : Int32} (hd : decode bytes pc = .ok (.i2c, 1))  (hp : pc + 1 = pc') (r : Go Z EL K N Q X T pc' Ls (.int x.toUInt32.toUInt16.toUInt32.toInt32 :: st)) : Go Z EL K N Q X T pc Ls (.int x :: st) :=
  Go.by (fun t kk => XT.i2c W.here W.hx rfl (W.hb hd) rfl (by subst hp; exact kk)) r
theorem Go.i2s (W : Wk l Z EL R own bytes maxL ret nm X σ ρ T k n) {x : Int32} (hd : decode bytes pc = .ok (.i2s, 1))  (hp : pc + 1 = pc') (r : Go Z EL K N Q X T pc' Ls (.int x.toInt16.toInt32 :: st)) : Go Z EL K N Q X T pc Ls (.int x :: st) :=
  Go.by (fun t kk => XT.i2s W.here W.hx rfl (W.hb hd) rfl (by subst hp; exact kk)) r
theorem Go.i2l (W : Wk l Z EL R own bytes maxL ret nm X σ ρ T k n) {x : Int32} (hd : decode bytes pc = .ok (.i2l, 1))  (hp : pc + 1 = pc') (r : Go Z EL K N Q X T pc' Ls (.long x.toInt64 :: st)) : Go Z EL K N Q X T pc Ls (.int x :: st) :=
  Go.by (fun t kk => XT.i2l W.here W.hx rfl (W.hb hd) rfl (by subst hp; exact kk)) r
theorem Go.l2i (W : Wk l Z EL R own bytes maxL ret nm X σ ρ T k n) {x : Int64} (hd : decode bytes pc = .ok (.l2i, 1))  (hp : pc + 1 = pc') (r : Go Z EL K N Q X T pc' Ls (.int x.toInt32 :: st)) : Go Z EL K N Q X T pc Ls (.long x :: st) :=
  Go.by (fun t kk => XT.l2i W.here W.hx rfl (W.hb hd) rfl (by subst hp; exact kk)) r
theorem Go.ladd (W : Wk l Z EL R own bytes maxL ret nm X σ ρ T k n) {x y : Int64} (hd : decode bytes pc = .ok (.ladd, 1))  (hp : pc + 1 = pc') (r : Go Z EL K N Q X T pc' Ls (.long (x + y) :: st)) : Go Z EL K N Q X T pc Ls (.long y :: .long x :: st) :=
  Go.by (fun t kk => XT.ladd W.here W.hx rfl (W.hb hd) rfl (by subst hp; exact kk)) r
theorem Go.lsub (W : Wk l Z EL R own bytes maxL ret nm X σ ρ T k n) {x y : Int64} (hd : decode bytes pc = .ok (.lsub, 1))  (hp : pc + 1 = pc') (r : Go Z EL K N Q X T pc' Ls (.long (x - y) :: st)) : Go Z EL K N Q X T pc Ls (.long y :: .long x :: st) :=
  Go.by (fun t kk => XT.lsub W.here W.hx rfl (W.hb hd) rfl (by subst hp; exact kk)) r
theorem Go.lmul (W : Wk l Z EL R own bytes maxL ret nm X σ ρ T k n) {x y : Int64} (hd : decode bytes pc = .ok (.lmul, 1))  (hp : pc + 1 = pc') (r : Go Z EL K N Q X T pc' Ls (.long (x * y) :: st)) : Go Z EL K N Q X T pc Ls (.long y :: .long x :: st) :=
  Go.by (fun t kk => XT.lmul W.here W.hx rfl (W.hb hd) rfl (by subst hp; exact kk)) r
theorem Go.land (W : Wk l Z EL R own bytes maxL ret nm X σ ρ T k n) {x y : Int64} (hd : decode bytes pc = .ok (.land, 1))  (hp : pc + 1 = pc') (r : Go Z EL K N Q X T pc' Ls (.long (x &&& y) :: st)) : Go Z EL K N Q X T pc Ls (.long y :: .long x :: st) :=
  Go.by (fun t kk => XT.land W.here W.hx rfl (W.hb hd) rfl (by subst hp; exact kk)) r
theorem Go.lor (W : Wk l Z EL R own bytes maxL ret nm X σ ρ T k n) {x y : Int64} (hd : decode bytes pc = .ok (.lor, 1))  (hp : pc + 1 = pc') (r : Go Z EL K N Q X T pc' Ls (.long (x ||| y) :: st)) : Go Z EL K N Q X T pc Ls (.long y :: .long x :: st) :=
  Go.by (fun t kk => XT.lor W.here W.hx rfl (W.hb hd) rfl (by subst hp; exact kk)) r
theorem Go.lxor (W : Wk l Z EL R own bytes maxL ret nm X σ ρ T k n) {x y : Int64} (hd : decode bytes pc = .ok (.lxor, 1))  (hp : pc + 1 = pc') (r : Go Z EL K N Q X T pc' Ls (.long (x ^^^ y) :: st)) : Go Z EL K N Q X T pc Ls (.long y :: .long x :: st) :=
  Go.by (fun t kk => XT.lxor W.here W.hx rfl (W.hb hd) rfl (by subst hp; exact kk)) r
theorem Go.ldiv (W : Wk l Z EL R own bytes maxL ret nm X σ ρ T k n) {x y : Int64} (hd : decode bytes pc = .ok (.ldiv, 1)) (hy : y ≠ 0) (hp : pc + 1 = pc') (r : Go Z EL K N Q X T pc' Ls (.long (x / y) :: st)) : Go Z EL K N Q X T pc Ls (.long y :: .long x :: st) :=
  Go.by (fun t kk => XT.ldiv W.here W.hx rfl (W.hb hd) rfl hy (by subst hp; exact kk)) r
theorem Go.lrem (W : Wk l Z EL R own bytes maxL ret nm X σ ρ T k n) {x y : Int64} (hd : decode bytes pc = .ok (.lrem, 1)) (hy : y ≠ 0) (hp : pc + 1 = pc') (r : Go Z EL K N Q X T pc' Ls (.long (x % y) :: st)) : Go Z EL K N Q X T pc Ls (.long y :: .long x :: st) :=
  Go.by (fun t kk => XT.lrem W.here W.hx rfl (W.hb hd) rfl hy (by subst hp; rw [lrem_mod x y]; exact kk)) r
theorem Go.lneg (W : Wk l Z EL R own bytes maxL ret nm X σ ρ T k n) {x : Int64} (hd : decode bytes pc = .ok (.lneg, 1))  (hp : pc + 1 = pc') (r : Go Z EL K N Q X T pc' Ls (.long (-x) :: st)) : Go Z EL K N Q X T pc Ls (.long x :: st) :=
  Go.by (fun t kk => XT.lneg W.here W.hx rfl (W.hb hd) rfl (by subst hp; exact kk)) r
theorem Go.lushr (W : Wk l Z EL R own bytes maxL ret nm X σ ρ T k n) {x : Int64} {y : Int32} (hd : decode bytes pc = .ok (.lushr, 1))  (hp : pc + 1 = pc') (r : Go Z EL K N Q X T pc' Ls (.long (Jvm.Free.XT.ushrL x y) :: st)) : Go Z EL K N Q X T pc Ls (.int y :: .long x :: st) :=
  Go.by (fun t kk => XT.lushr W.here W.hx rfl (W.hb hd) rfl (by subst hp; exact kk)) r
theorem Go.lcmp (W : Wk l Z EL R own bytes maxL ret nm X σ ρ T k n) {x y : Int64} (hd : decode bytes pc = .ok (.lcmp, 1))  (hp : pc + 1 = pc') (r : Go Z EL K N Q X T pc' Ls (.int (lcmpW x y) :: st)) : Go Z EL K N Q X T pc Ls (.long y :: .long x :: st) :=
  Go.by (fun t kk => XT.lcmp W.here W.hx rfl (W.hb hd) rfl (by subst hp; exact kk)) r
theorem Go.dup (W : Wk l Z EL R own bytes maxL ret nm X σ ρ T k n) {x : Value} (hd : decode bytes pc = .ok (.dup, 1)) (hc : x.category = 1) (hp : pc + 1 = pc') (r : Go Z EL K N Q X T pc' Ls (x :: x :: st)) : Go Z EL K N Q X T pc Ls (x :: st) :=
  Go.by (fun t kk => XS.dup W.here W.hx rfl (W.hb hd) rfl hc (by subst hp; exact kk)) r
theorem Go.dupX1 (W : Wk l Z EL R own bytes maxL ret nm X σ ρ T k n) {x y : Value} (hd : decode bytes pc = .ok (.dup_x1, 1)) (hc : x.category = 1) (hc' : y.category = 1) (hp : pc + 1 = pc') (r : Go Z EL K N Q X T pc' Ls (x :: y :: x :: st)) : Go Z EL K N Q X T pc Ls (x :: y :: st) :=
  Go.by (fun t kk => XT.dupX1 W.here W.hx rfl (W.hb hd) rfl hc hc' (by subst hp; exact kk)) r
theorem Go.dup2 (W : Wk l Z EL R own bytes maxL ret nm X σ ρ T k n) {x y : Value} (hd : decode bytes pc = .ok (.dup2, 1)) (hc : x.category = 1) (hc' : y.category = 1) (hp : pc + 1 = pc') (r : Go Z EL K N Q X T pc' Ls (x :: y :: x :: y :: st)) : Go Z EL K N Q X T pc Ls (x :: y :: st) :=
  Go.by (fun t kk => XT.dup2 W.here W.hx rfl (W.hb hd) rfl hc hc' (by subst hp; exact kk)) r
theorem Go.pop (W : Wk l Z EL R own bytes maxL ret nm X σ ρ T k n) {x : Value} (hd : decode bytes pc = .ok (.pop, 1)) (hc : x.category = 1) (hp : pc + 1 = pc') (r : Go Z EL K N Q X T pc' Ls st) : Go Z EL K N Q X T pc Ls (x :: st) :=
  Go.by (fun t kk => XT.pop W.here W.hx rfl (W.hb hd) rfl hc (by subst hp; exact kk)) r
theorem Go.iinc (W : Wk l Z EL R own bytes maxL ret nm X σ ρ T k n) {k' : Nat} {cst : Int} {x : Int32} (v : Int32) (Ls' : Array Slot) (hd : decode bytes pc = .ok (.iinc k' cst, 3)) (hl : Ls[k']? = some (.val (.int x))) (hv : Int32.ofInt cst = v) (hl' : storeLocals Ls k' (.int (x + v)) = some Ls') (hp : pc + 3 = pc') (r : Go Z EL K N Q X T pc' Ls' st) : Go Z EL K N Q X T pc Ls st :=
  Go.by (fun t kk => XS.iinc W.here W.hx rfl (W.hb hd) hl (by rw [hv]; exact hl') (by subst hp; exact kk)) r
theorem Go.goto (W : Wk l Z EL R own bytes maxL ret nm X σ ρ T k n) {o : Int} (pcY : Nat) (hd : decode bytes pc = .ok (.goto o, 3)) (hy : (pc : Int) + o = (pcY : Nat)) (r : Go Z EL K N Q X T pcY Ls st) : Go Z EL K N Q X T pc Ls st :=
  Go.by (fun t kk => XS.goto W.here W.hx rfl (pc0 := pc) (pc' := pcY) rfl (W.hb hd) (by omega) (by omega) kk) r
theorem Go.icmp_eq (W : Wk l Z EL R own bytes maxL ret nm X σ ρ T k n) {x y : Int32} {o : Int} (pcY : Nat) (hd : decode bytes pc = .ok (.if_icmp .eq o, 3)) (hy : (pc : Int) + o = (pcY : Nat)) (hp : pc + 3 = pc') (rY : (x = y) → Go Z EL K N Q X T pcY Ls st) (rN : (¬ x = y) → Go Z EL K N Q X T pc' Ls st) : Go Z EL K N Q X T pc Ls (.int y :: .int x :: st) := by
  by_cases q : x = y
  · exact Go.by (fun t kk => XS.icmpYes W.here W.hx rfl (pc0 := pc) (pc' := pcY) rfl (W.hb hd) rfl (teq q).1 (by omega) (by omega) kk) (rY q)
  · exact Go.by (fun t kk => XS.icmpNo W.here W.hx rfl (W.hb hd) rfl (feq q).1 (by subst hp; exact kk)) (rN q)
theorem Go.if_eq (W : Wk l Z EL R own bytes maxL ret nm X σ ρ T k n) {x : Int32} {o : Int} (pcY : Nat) (hd : decode bytes pc = .ok (.ifCond .eq o, 3)) (hy : (pc : Int) + o = (pcY : Nat)) (hp : pc + 3 = pc') (rY : (x = 0) → Go Z EL K N Q X T pcY Ls st) (rN : (¬ x = 0) → Go Z EL K N Q X T pc' Ls st) : Go Z EL K N Q X T pc Ls (.int x :: st) := by
  by_cases q : x = 0
  · exact Go.by (fun t kk => XS.ifYes W.here W.hx rfl (pc0 := pc) (pc' := pcY) rfl (W.hb hd) rfl ((if0 .eq x).trans (teq q).1) (by omega) (by omega) kk) (rY q)
  · exact Go.by (fun t kk => XS.ifNo W.here W.hx rfl (W.hb hd) rfl ((if0 .eq x).trans (feq q).1) (by subst hp; exact kk)) (rN q)
theorem Go.icmp_ne (W : Wk l Z EL R own bytes maxL ret nm X σ ρ T k n) {x y : Int32} {o : Int} (pcY : Nat) (hd : decode bytes pc = .ok (.if_icmp .ne o, 3)) (hy : (pc : Int) + o = (pcY : Nat)) (hp : pc + 3 = pc') (rY : (¬ x = y) → Go Z EL K N Q X T pcY Ls st) (rN : (x = y) → Go Z EL K N Q X T pc' Ls st) : Go Z EL K N Q X T pc Ls (.int y :: .int x :: st) := by
  by_cases q : x = y
  · exact Go.by (fun t kk => XS.icmpNo W.here W.hx rfl (W.hb hd) rfl (teq q).2 (by subst hp; exact kk)) (rN q)
  · exact Go.by (fun t kk => XS.icmpYes W.here W.hx rfl (pc0 := pc) (pc' := pcY) rfl (W.hb hd) rfl (feq q).2 (by omega) (by omega) kk) (rY q)
theorem Go.if_ne (W : Wk l Z EL R own bytes maxL ret nm X σ ρ T k n) {x : Int32} {o : Int} (pcY : Nat) (hd : decode bytes pc = .ok (.ifCond .ne o, 3)) (hy : (pc : Int) + o = (pcY : Nat)) (hp : pc + 3 = pc') (rY : (¬ x = 0) → Go Z EL K N Q X T pcY Ls st) (rN : (x = 0) → Go Z EL K N Q X T pc' Ls st) : Go Z EL K N Q X T pc Ls (.int x :: st) := by
  by_cases q : x = 0
  · exact Go.by (fun t kk => XS.ifNo W.here W.hx rfl (W.hb hd) rfl ((if0 .ne x).trans (teq q).2) (by subst hp; exact kk)) (rN q)
  · exact Go.by (fun t kk => XS.ifYes W.here W.hx rfl (pc0 := pc) (pc' := pcY) rfl (W.hb hd) rfl ((if0 .ne x).trans (feq q).2) (by omega) (by omega) kk) (rY q)
theorem Go.icmp_lt (W : Wk l Z EL R own bytes maxL ret nm X σ ρ T k n) {x y : Int32} {o : Int} (pcY : Nat) (hd : decode bytes pc = .ok (.if_icmp .lt o, 3)) (hy : (pc : Int) + o = (pcY : Nat)) (hp : pc + 3 = pc') (rY : (x < y) → Go Z EL K N Q X T pcY Ls st) (rN : (¬ x < y) → Go Z EL K N Q X T pc' Ls st) : Go Z EL K N Q X T pc Ls (.int y :: .int x :: st) := by
  by_cases q : x < y
  · exact Go.by (fun t kk => XS.icmpYes W.here W.hx rfl (pc0 := pc) (pc' := pcY) rfl (W.hb hd) rfl (tlt q).1 (by omega) (by omega) kk) (rY q)
  · exact Go.by (fun t kk => XS.icmpNo W.here W.hx rfl (W.hb hd) rfl (flt q).1 (by subst hp; exact kk)) (rN q)
theorem Go.if_lt (W : Wk l Z EL R own bytes maxL ret nm X σ ρ T k n) {x : Int32} {o : Int} (pcY : Nat) (hd : decode bytes pc = .ok (.ifCond .lt o, 3)) (hy : (pc : Int) + o = (pcY : Nat)) (hp : pc + 3 = pc') (rY : (x < 0) → Go Z EL K N Q X T pcY Ls st) (rN : (¬ x < 0) → Go Z EL K N Q X T pc' Ls st) : Go Z EL K N Q X T pc Ls (.int x :: st) := by
  by_cases q : x < 0
  · exact Go.by (fun t kk => XS.ifYes W.here W.hx rfl (pc0 := pc) (pc' := pcY) rfl (W.hb hd) rfl ((if0 .lt x).trans (tlt q).1) (by omega) (by omega) kk) (rY q)
  · exact Go.by (fun t kk => XS.ifNo W.here W.hx rfl (W.hb hd) rfl ((if0 .lt x).trans (flt q).1) (by subst hp; exact kk)) (rN q)
theorem Go.icmp_ge (W : Wk l Z EL R own bytes maxL ret nm X σ ρ T k n) {x y : Int32} {o : Int} (pcY : Nat) (hd : decode bytes pc = .ok (.if_icmp .ge o, 3)) (hy : (pc : Int) + o = (pcY : Nat)) (hp : pc + 3 = pc') (rY : (¬ x < y) → Go Z EL K N Q X T pcY Ls st) (rN : (x < y) → Go Z EL K N Q X T pc' Ls st) : Go Z EL K N Q X T pc Ls (.int y :: .int x :: st) := by
  by_cases q : x < y
  · exact Go.by (fun t kk => XS.icmpNo W.here W.hx rfl (W.hb hd) rfl (tlt q).2.1 (by subst hp; exact kk)) (rN q)
  · exact Go.by (fun t kk => XS.icmpYes W.here W.hx rfl (pc0 := pc) (pc' := pcY) rfl (W.hb hd) rfl (flt q).2.1 (by omega) (by omega) kk) (rY q)
theorem Go.if_ge (W : Wk l Z EL R own bytes maxL ret nm X σ ρ T k n) {x : Int32} {o : Int} (pcY : Nat) (hd : decode bytes pc = .ok (.ifCond .ge o, 3)) (hy : (pc : Int) + o = (pcY : Nat)) (hp : pc + 3 = pc') (rY : (¬ x < 0) → Go Z EL K N Q X T pcY Ls st) (rN : (x < 0) → Go Z EL K N Q X T pc' Ls st) : Go Z EL K N Q X T pc Ls (.int x :: st) := by
  by_cases q : x < 0
  · exact Go.by (fun t kk => XS.ifNo W.here W.hx rfl (W.hb hd) rfl ((if0 .ge x).trans (tlt q).2.1) (by subst hp; exact kk)) (rN q)
  · exact Go.by (fun t kk => XS.ifYes W.here W.hx rfl (pc0 := pc) (pc' := pcY) rfl (W.hb hd) rfl ((if0 .ge x).trans (flt q).2.1) (by omega) (by omega) kk) (rY q)
theorem Go.icmp_gt (W : Wk l Z EL R own bytes maxL ret nm X σ ρ T k n) {x y : Int32} {o : Int} (pcY : Nat) (hd : decode bytes pc = .ok (.if_icmp .gt o, 3)) (hy : (pc : Int) + o = (pcY : Nat)) (hp : pc + 3 = pc') (rY : (y < x) → Go Z EL K N Q X T pcY Ls st) (rN : (¬ y < x) → Go Z EL K N Q X T pc' Ls st) : Go Z EL K N Q X T pc Ls (.int y :: .int x :: st) := by
  by_cases q : y < x
  · exact Go.by (fun t kk => XS.icmpYes W.here W.hx rfl (pc0 := pc) (pc' := pcY) rfl (W.hb hd) rfl (tlt q).2.2.1 (by omega) (by omega) kk) (rY q)
  · exact Go.by (fun t kk => XS.icmpNo W.here W.hx rfl (W.hb hd) rfl (flt q).2.2.1 (by subst hp; exact kk)) (rN q)
theorem Go.if_gt (W : Wk l Z EL R own bytes maxL ret nm X σ ρ T k n) {x : Int32} {o : Int} (pcY : Nat) (hd : decode bytes pc = .ok (.ifCond .gt o, 3)) (hy : (pc : Int) + o = (pcY : Nat)) (hp : pc + 3 = pc') (rY : (0 < x) → Go Z EL K N Q X T pcY Ls st) (rN : (¬ 0 < x) → Go Z EL K N Q X T pc' Ls st) : Go Z EL K N Q X T pc Ls (.int x :: st) := by
  by_cases q : 0 < x
  · exact Go.by (fun t kk => XS.ifYes W.here W.hx rfl (pc0 := pc) (pc' := pcY) rfl (W.hb hd) rfl ((if0 .gt x).trans (tlt q).2.2.1) (by omega) (by omega) kk) (rY q)
  · exact Go.by (fun t kk => XS.ifNo W.here W.hx rfl (W.hb hd) rfl ((if0 .gt x).trans (flt q).2.2.1) (by subst hp; exact kk)) (rN q)
theorem Go.icmp_le (W : Wk l Z EL R own bytes maxL ret nm X σ ρ T k n) {x y : Int32} {o : Int} (pcY : Nat) (hd : decode bytes pc = .ok (.if_icmp .le o, 3)) (hy : (pc : Int) + o = (pcY : Nat)) (hp : pc + 3 = pc') (rY : (¬ y < x) → Go Z EL K N Q X T pcY Ls st) (rN : (y < x) → Go Z EL K N Q X T pc' Ls st) : Go Z EL K N Q X T pc Ls (.int y :: .int x :: st) := by
  by_cases q : y < x
  · exact Go.by (fun t kk => XS.icmpNo W.here W.hx rfl (W.hb hd) rfl (tlt q).2.2.2 (by subst hp; exact kk)) (rN q)
  · exact Go.by (fun t kk => XS.icmpYes W.here W.hx rfl (pc0 := pc) (pc' := pcY) rfl (W.hb hd) rfl (flt q).2.2.2 (by omega) (by omega) kk) (rY q)
theorem Go.if_le (W : Wk l Z EL R own bytes maxL ret nm X σ ρ T k n) {x : Int32} {o : Int} (pcY : Nat) (hd : decode bytes pc = .ok (.ifCond .le o, 3)) (hy : (pc : Int) + o = (pcY : Nat)) (hp : pc + 3 = pc') (rY : (¬ 0 < x) → Go Z EL K N Q X T pcY Ls st) (rN : (0 < x) → Go Z EL K N Q X T pc' Ls st) : Go Z EL K N Q X T pc Ls (.int x :: st) := by
  by_cases q : 0 < x
  · exact Go.by (fun t kk => XS.ifNo W.here W.hx rfl (W.hb hd) rfl ((if0 .le x).trans (tlt q).2.2.2) (by subst hp; exact kk)) (rN q)
  · exact Go.by (fun t kk => XS.ifYes W.here W.hx rfl (pc0 := pc) (pc' := pcY) rfl (W.hb hd) rfl ((if0 .le x).trans (flt q).2.2.2) (by omega) (by omega) kk) (rY q)
theorem Go.ifnull_yes (W : Wk l Z EL R own bytes maxL ret nm X σ ρ T k n) {o : Int} (pcY : Nat) (hd : decode bytes pc = .ok (.ifnull o, 3)) (hy : (pc : Int) + o = (pcY : Nat)) (r : Go Z EL K N Q X T pcY Ls st) : Go Z EL K N Q X T pc Ls (.null :: st) :=
  Go.by (fun t kk => XS.ifnullYes W.here W.hx rfl (pc0 := pc) (pc' := pcY) rfl (W.hb hd) rfl (by omega) (by omega) kk) r
theorem Go.ifnull_no (W : Wk l Z EL R own bytes maxL ret nm X σ ρ T k n) {b : Addr} {o : Int} (hd : decode bytes pc = .ok (.ifnull o, 3)) (hp : pc + 3 = pc') (r : Go Z EL K N Q X T pc' Ls st) : Go Z EL K N Q X T pc Ls (.ref b :: st) :=
  Go.by (fun t kk => XS.ifnullNo W.here W.hx rfl (W.hb hd) rfl (by subst hp; exact kk)) r
theorem Go.ifnonnull_yes (W : Wk l Z EL R own bytes maxL ret nm X σ ρ T k n) {b : Addr} {o : Int} (pcY : Nat) (hd : decode bytes pc = .ok (.ifnonnull o, 3)) (hy : (pc : Int) + o = (pcY : Nat)) (r : Go Z EL K N Q X T pcY Ls st) : Go Z EL K N Q X T pc Ls (.ref b :: st) :=
  Go.by (fun t kk => XT.ifnonnullYes W.here W.hx rfl (pc0 := pc) (pc' := pcY) rfl (W.hb hd) rfl (by omega) (by omega) kk) r
theorem Go.ifnonnull_no (W : Wk l Z EL R own bytes maxL ret nm X σ ρ T k n) {o : Int} (hd : decode bytes pc = .ok (.ifnonnull o, 3)) (hp : pc + 3 = pc') (r : Go Z EL K N Q X T pc' Ls st) : Go Z EL K N Q X T pc Ls (.null :: st) :=
  Go.by (fun t kk => XT.ifnonnullNo W.here W.hx rfl (W.hb hd) rfl (by subst hp; exact kk)) r
end StepLaws
/-! ## own: what is known of one cell -/
def ObjC (Z : State) (c : Cell) (C : String) : Prop := ∃ k : Class, Z.vm.findClass C = some c.cls ∧ Z.vm.classes[c.cls]? = some k ∧ c.vm.isStatics = false ∧ (k.kind = .ordinary → c.slots.size = k.instanceTypes.size)
def FldC (Z : State) (c : Cell) (C n d : String) (v : Value) : Prop := ∃ (cf : ClassId) (k : Class) (i : Nat) (f : Field), Z.fieldFound? C n d = some (cf, k, i, f) ∧ f.isStatic = false ∧ c.vm ≠ .unknown ∧ c.vm.isStatics = false ∧ Z.vm.assignable c.cls cf = true ∧ c.slots[f.slot]? = some v
def ArrC (Z : State) (c : Cell) (ty : FieldType) (vs : List Value) : Prop := Z.isArrayOf c ty ∧ c.vm ≠ .unknown ∧ c.slots.toList = vs ∧ (∀ v ∈ vs, fits ty v = true) ∧ vs.length < 2147483648
section CellLaws
variable {Z : State} {c c' : Cell} {C n d C' n' d' : String} {v w : Value} {h : Heap} {a : Addr} {ty : FieldType} {vs : List Value}
theorem ObjC.exa (F : ObjC Z c C) (ha : h[a]? = some c) : Exa Z h a C := by obtain ⟨k, h1, h2, h3, h4⟩ := F; exact ⟨c, k, ha, h1, h2, h3, h4⟩
theorem ObjC.of (F : Exa Z h a C) (ha : h[a]? = some c) : ObjC Z c C := by
  obtain ⟨c', k, h0, h1, h2, h3, h4⟩ := F
  cases ha.symm.trans h0
  exact ⟨k, h1, h2, h3, h4⟩
theorem FldC.fld (F : FldC Z c C n d v) (ha : h[a]? = some c) : Fld Z h a C n d v := by obtain ⟨cf, k, i, f, r⟩ := F; exact ⟨c, cf, k, i, f, ha, r⟩
theorem FldC.of (F : Fld Z h a C n d v) (ha : h[a]? = some c) : FldC Z c C n d v := by
  obtain ⟨c', cf, k, i, f, h0, r⟩ := F
  cases ha.symm.trans h0
  exact ⟨cf, k, i, f, r⟩
theorem ArrC.arr (F : ArrC Z c ty vs) (ha : h[a]? = some c) : Arr Z h a c ty := ⟨ha, F.1, F.2.1⟩
theorem ArrC.size (F : ArrC Z c ty vs) : c.slots.size = vs.length := by rw [← F.2.2.1]; simp
theorem ArrC.get (F : ArrC Z c ty vs) (i : Nat) : c.slots[i]? = vs[i]? := by rw [← F.2.2.1]; simp
theorem FldC.put {v' : Value} (F : FldC Z c C n d v) : FldC Z (c.setSlot (Jvm.RoadKit.slotOf Z C n d) v') C n d v' := by
  obtain ⟨cf, k, i, f, h1, h2, h3, h4, h5, h6⟩ := F
  have hlt := (Array.getElem?_eq_some_iff.mp h6).1
  exact ⟨cf, k, i, f, h1, h2, h3, h4, h5, by simp [Cell.setSlot, Jvm.RoadKit.slotOf, h1, hlt]⟩
theorem FldC.keep {sl : Nat} {v' : Value} (F : FldC Z c C n d v) (hne : Jvm.RoadKit.slotOf Z C n d ≠ sl) : FldC Z (c.setSlot sl v') C n d v := by
  obtain ⟨cf, k, i, f, h1, h2, h3, h4, h5, h6⟩ := F
  have e : Jvm.RoadKit.slotOf Z C n d = f.slot := by simp [Jvm.RoadKit.slotOf, h1]
  rw [e] at hne
  exact ⟨cf, k, i, f, h1, h2, h3, h4, h5, by show (c.slots.setIfInBounds sl v')[f.slot]? = _; rw [Array.getElem?_setIfInBounds_ne (Ne.symm hne)]; exact h6⟩
theorem ObjC.put {sl : Nat} {v' : Value} (F : ObjC Z c C) : ObjC Z (c.setSlot sl v') C := by
  obtain ⟨k, h1, h2, h3, h4⟩ := F
  exact ⟨k, h1, h2, h3, fun q => by rw [← h4 q]; simp [Cell.setSlot]⟩
theorem FldC.put' {v' : Value} (F : FldC Z c C n d v) (e : c' = c.setSlot (Jvm.RoadKit.slotOf Z C n d) v') : FldC Z c' C n d v' := e ▸ F.put
theorem FldC.keep' {sl : Nat} {v' : Value} (F : FldC Z c C n d v) (e : c' = c.setSlot sl v') (hne : Jvm.RoadKit.slotOf Z C n d ≠ sl) : FldC Z c' C n d v := e ▸ F.keep hne
theorem ObjC.put' {sl : Nat} {v' : Value} (F : ObjC Z c C) (e : c' = c.setSlot sl v') : ObjC Z c' C := e ▸ F.put
theorem fits_isref (ht : ty.isReference = true) (hv : v.isRef = true) : fits ty v = true := by cases ty <;> first | (cases ht; done) | (cases v <;> first | (cases hv; done) | rfl)
theorem ArrC.put {i : Nat} {v' : Value} (F : ArrC Z c ty vs) (hf : fits ty v' = true) : ArrC Z (c.setSlot i v') ty (vs.set i v') := by
  obtain ⟨h1, h2, h3, h4, h5⟩ := F
  refine ⟨h1, h2, by simp [Cell.setSlot, h3], fun v hv => ?_, by simpa using h5⟩
  rcases List.mem_or_eq_of_mem_set hv with q | q
  · exact h4 v q
  · rw [q]; exact hf
end CellLaws
/-! ## own: steps that read or make or write cells, and calls, in the Go form -/
section HeapLaws
variable {l : Launch} {Z : State} {a0 : Array Value} {EL : List (String × Nat)} {R : Room} {own : String} {bytes : ByteArray} {maxL : Nat} {ret : Option FieldType} {nm : String} {X : Ctx} {σ ρ : HL} {T : State} {k n K N : Nat} {Q : Option Value → HL → HL → Prop} {pc pc' : Nat} {Ls : Array Slot} {st : List Value} {a : Addr} {c : Cell} {vs : List Value}
theorem Go.new (W : Wk l Z EL R own bytes maxL ret nm X σ ρ T k n) {C : String} {ix cnt : Nat} (w : (Jvm.Cond.classLink own ix C).before a0 Z = true) (wi : (Jvm.Cond.instantiable C cnt).before a0 Z = true) (wz : (Jvm.Cond.initialized C).before a0 Z = true)
    (hd : decode bytes pc = .ok (.new ix, 3)) (hp : pc + 3 = pc') (hk : k + 1 ≤ R.cells) (hn : n + cnt ≤ R.slots)
    (r : ∀ (T' : State) (a : Addr) (c : Cell), Wk l Z EL R own bytes maxL ret nm X ((a, c) :: σ) ρ T' (k + 1) (n + cnt) → ObjC Z c C → (∀ {O nm d : String} {ty : FieldType}, Laid Z a0 C O nm d → parseFieldDescriptor d = some ty → FldC Z c O nm d (defaultValue ty)) → Go Z EL K N Q X T' pc' Ls (.ref a :: st)) :
    Go Z EL K N Q X T pc Ls st := by
  obtain ⟨w0, vm0, k0, locs, Y, hS, hk0, hZ, hown, hFr, H⟩ := W
  obtain ⟨T', h', Y', e', E, A, D, ⟨cl, hcl, -⟩, stp⟩ := newO Y w0.1 hZ hown w wi wz rfl (g := mkF X.m pc Ls st) rfl (by rw [w0.2.1]; exact hd) hk hn
  subst e'
  refine Go.by stp (by subst hp; exact r T' T.heap.size cl ⟨w0, vm0, k0, locs, Y', hS, Nat.le_trans hk0 E.1, hZ, hown, hFr, H.alloc E hcl⟩ (ObjC.of A hcl) fun L ht => FldC.of (D L ht) hcl)
theorem fits_default (ty : FieldType) : fits ty (defaultValue ty) = true := by cases ty <;> rfl
theorem Go.newarr (W : Wk l Z EL R own bytes maxL ret nm X σ ρ T k n) {aty : ArrayType} {z : Int32} (ty : FieldType) (hty : newarray.typeOf aty = ty) (len : Nat) (w : (Jvm.Cond.arrayClass ty).before a0 Z = true) (hd : decode bytes pc = .ok (.newarray aty, 2)) (hp : pc + 2 = pc')
    (hz : ¬ z < 0) (hl : z.toNatClampNeg = len) (hb : len * 8 ≤ 536870912) (hk : k + 1 ≤ R.cells) (hn : n + len ≤ R.slots)
    (r : ∀ (T' : State) (a : Addr) (c : Cell), Wk l Z EL R own bytes maxL ret nm X ((a, c) :: σ) ρ T' (k + 1) (n + len) → ArrC Z c ty (List.replicate len (defaultValue ty)) → Go Z EL K N Q X T' pc' Ls (.ref a :: st)) :
    Go Z EL K N Q X T pc Ls (.int z :: st) := by
  subst hty
  obtain ⟨w0, vm0, k0, locs, Y, hS, hk0, hZ, hown, hFr, H⟩ := W
  obtain ⟨T', h', cA, Y', e', E, A, stp⟩ := newP Y w0.1 hZ w rfl (g := mkF X.m pc Ls (.int z :: st)) rfl (by rw [w0.2.1]; exact hd) rfl hz (cap := len) (Nat.le_of_eq hl) hb hk hn
  subst e' hp
  have hfd : ∀ v ∈ List.replicate len (defaultValue (newarray.typeOf aty)), fits (newarray.typeOf aty) v = true := fun v hv => by rw [(List.mem_replicate.mp hv).2]; exact fits_default _
  exact Go.by stp (r T' T.heap.size _ ⟨w0, vm0, k0, locs, Y', hS, Nat.le_trans hk0 E.1, hZ, hown, hFr, H.alloc E A.1⟩ ⟨A.2.1, A.2.2, by simp [newA, hl], hfd, by simp; omega⟩)
theorem Go.arrlen (W : Wk l Z EL R own bytes maxL ret nm X σ ρ T k n) (hm : (a, c) ∈ σ ∨ (a, c) ∈ ρ ∨ Z.heap[a]? = some c) {ty : FieldType} (A : ArrC Z c ty vs) (z : Int32) (hz : vs.length.toInt32 = z) (hd : decode bytes pc = .ok (.arraylength, 1)) (hp : pc + 1 = pc')
    (r : Go Z EL K N Q X T pc' Ls (.int z :: st)) : Go Z EL K N Q X T pc Ls (.ref a :: st) := by
  have hc := W.cell hm
  obtain ⟨w0, vm0, k0, locs, Y, hS, hk0, hZ, hown, hFr, H⟩ := W
  refine Go.by (fun t kk => Y.arraylength w0.1 (cell := c) hc (State.isArrayOf_alike hZ.alike A.1) (g := mkF X.m pc Ls (.ref a :: st)) rfl rfl (by rw [w0.2.1]; exact hd) t ?_) r
  rw [A.size, hz]; subst hp; exact kk
theorem arr_in' {ty : FieldType} (A : ArrC Z c ty vs) {j : Int32} {i : Nat} (hj : ¬ j < 0) (hi : j.toNatClampNeg = i) (hl : i < vs.length) : ¬ (j < 0 ∨ c.slots.size ≤ j.toNatClampNeg) := by
  rw [A.size, hi]; rintro (q | q)
  · exact hj q
  · omega
theorem Go.caload (W : Wk l Z EL R own bytes maxL ret nm X σ ρ T k n) (hm : (a, c) ∈ σ ∨ (a, c) ∈ ρ ∨ Z.heap[a]? = some c) (A : ArrC Z c .char vs) {j : Int32} (i : Nat) {v : Value} (hj : ¬ j < 0) (hi : j.toNatClampNeg = i) (hv : vs[i]? = some v) (hd : decode bytes pc = .ok (.caload, 1)) (hp : pc + 1 = pc')
    (r : Go Z EL K N Q X T pc' Ls (v :: st)) : Go Z EL K N Q X T pc Ls (.int j :: .ref a :: st) := by
  have hc := W.cell hm
  obtain ⟨w0, vm0, k0, locs, Y, hS, hk0, hZ, hown, hFr, H⟩ := W
  exact Go.by (fun t kk => Y.caload w0.1 hc (State.isArrayOf_alike hZ.alike A.1) A.2.1 (arr_in' A hj hi (List.getElem?_eq_some_iff.mp hv).1) (by rw [hi, A.get, hv]) (g := mkF X.m pc Ls (.int j :: .ref a :: st)) rfl rfl (by rw [w0.2.1]; exact hd) t (by subst hp; exact kk)) r
theorem Go.baload (W : Wk l Z EL R own bytes maxL ret nm X σ ρ T k n) (hm : (a, c) ∈ σ ∨ (a, c) ∈ ρ ∨ Z.heap[a]? = some c) (A : ArrC Z c .byte vs) {j : Int32} (i : Nat) {v : Value} (hj : ¬ j < 0) (hi : j.toNatClampNeg = i) (hv : vs[i]? = some v) (hd : decode bytes pc = .ok (.baload, 1)) (hp : pc + 1 = pc')
    (r : Go Z EL K N Q X T pc' Ls (v :: st)) : Go Z EL K N Q X T pc Ls (.int j :: .ref a :: st) := by
  have hc := W.cell hm
  obtain ⟨w0, vm0, k0, locs, Y, hS, hk0, hZ, hown, hFr, H⟩ := W
  exact Go.by (fun t kk => Y.baloadBytes w0.1 hc (State.isArrayOf_alike hZ.alike A.1) A.2.1 (arr_in' A hj hi (List.getElem?_eq_some_iff.mp hv).1) (by rw [hi, A.get, hv]) (g := mkF X.m pc Ls (.int j :: .ref a :: st)) rfl rfl (by rw [w0.2.1]; exact hd) t (by subst hp; exact kk)) r
theorem Go.aaload (W : Wk l Z EL R own bytes maxL ret nm X σ ρ T k n) (hm : (a, c) ∈ σ ∨ (a, c) ∈ ρ ∨ Z.heap[a]? = some c) {ty : FieldType} (A : ArrC Z c ty vs) (hty : ty.isReference = true) {j : Int32} (i : Nat) {v : Value} (hj : ¬ j < 0) (hi : j.toNatClampNeg = i) (hv : vs[i]? = some v) (hd : decode bytes pc = .ok (.aaload, 1)) (hp : pc + 1 = pc')
    (r : Go Z EL K N Q X T pc' Ls (v :: st)) : Go Z EL K N Q X T pc Ls (.int j :: .ref a :: st) := by
  have hc := W.cell hm
  obtain ⟨w0, vm0, k0, locs, Y, hS, hk0, hZ, hown, hFr, H⟩ := W
  exact Go.by (fun t kk => Y.aaload w0.1 hc (State.isArrayOf_alike hZ.alike A.1) hty A.2.1 (arr_in' A hj hi (List.getElem?_eq_some_iff.mp hv).1) (by rw [hi, A.get, hv]) (g := mkF X.m pc Ls (.int j :: .ref a :: st)) rfl rfl (by rw [w0.2.1]; exact hd) t (by subst hp; exact kk)) r
/-- the step of one write: the point behind it -/
theorem Wk.wrote (W : Wk l Z EL R own bytes maxL ret nm X σ ρ T k n) {i : Nat} (hi : σ[i]? = some (a, c)) {vm0 : Vm} {k0 : Nat} {locs : List Loc} {T' : State} {sl : Nat} {v : Value}
    (hS : X.s.Since vm0 k0) (hk0 : k0 ≤ T.heap.size) (hZ : Z.Warmed39 vm0) (hown : vm0.findClass own = some X.m.cls) (hFr : Fr Z.heap.size locs) (H : Hp Z EL X.so X.ro X.s σ ρ vm0 T.heap)
    (Y' : Stand X.p l X.e R (X.s.setVm vm0) X.m X.args X.below X.meth X.c T' (locs ++ [⟨a, sl⟩]) k n) (Wr' : Wr T.heap T'.heap a sl v) : Wk l Z EL R own bytes maxL ret nm X (σ.set i (a, c.setSlot sl v)) ρ T' k n := by
  obtain ⟨cl, h1, -, -, h4⟩ := Wr'
  have hmem : (a, c) ∈ σ := List.mem_of_getElem? hi
  cases (H.2.1 _ hmem).symm.trans h1
  exact ⟨W.1, vm0, k0, _, Y', hS, by rw [h4]; simpa using hk0, hZ, hown, hFr.app fun y hy => by cases List.mem_singleton.mp hy; exact (H.2.2.2.2.1 _ hmem).1, H.write hi h4⟩
theorem Go.castore (W : Wk l Z EL R own bytes maxL ret nm X σ ρ T k n) (ix : Nat) (hm : σ[ix]? = some (a, c)) (A : ArrC Z c .char vs) {j x : Int32} (i : Nat) (x' : Int32) (hx : nar .char x = x') (hj : ¬ j < 0) (hi : j.toNatClampNeg = i) (hl : i < vs.length) (hd : decode bytes pc = .ok (.castore, 1)) (hp : pc + 1 = pc')
    (r : ∀ (T' : State) (c' : Cell), Wk l Z EL R own bytes maxL ret nm X (σ.set ix (a, c')) ρ T' k n → ArrC Z c' .char (vs.set i (.int x')) → Go Z EL K N Q X T' pc' Ls st) : Go Z EL K N Q X T pc Ls (.int x :: .int j :: .ref a :: st) := by
  have hc := W.cell (Or.inl (List.mem_of_getElem? hm))
  have W1 := W
  obtain ⟨w0, vm0, k0, locs, Y, hS, hk0, hZ, hown, hFr, H⟩ := W
  obtain ⟨T', h', Y', e', Wr', stp⟩ := stC Y w0.1 hZ rfl (A.arr hc) (arr_in' A hj hi hl) (g := mkF X.m pc Ls (.int x :: .int j :: .ref a :: st)) rfl rfl (by rw [w0.2.1]; exact hd)
  subst e' hp hi hx
  exact Go.by stp (r T' _ (W1.wrote hm hS hk0 hZ hown hFr H Y' Wr') (A.put (fits_nar_char x)))
theorem Go.bastore (W : Wk l Z EL R own bytes maxL ret nm X σ ρ T k n) (ix : Nat) (hm : σ[ix]? = some (a, c)) (A : ArrC Z c .byte vs) {j x : Int32} (i : Nat) (hj : ¬ j < 0) (hi : j.toNatClampNeg = i) (hl : i < vs.length) (hd : decode bytes pc = .ok (.bastore, 1)) (hp : pc + 1 = pc')
    (r : ∀ (T' : State) (c' : Cell), Wk l Z EL R own bytes maxL ret nm X (σ.set ix (a, c')) ρ T' k n → ArrC Z c' .byte (vs.set i (.int x.toInt8.toInt32)) → Go Z EL K N Q X T' pc' Ls st) : Go Z EL K N Q X T pc Ls (.int x :: .int j :: .ref a :: st) := by
  have hc := W.cell (Or.inl (List.mem_of_getElem? hm))
  have W1 := W
  obtain ⟨w0, vm0, k0, locs, Y, hS, hk0, hZ, hown, hFr, H⟩ := W
  obtain ⟨T', h', Y', e', Wr', stp⟩ := stB Y w0.1 hZ rfl (A.arr hc) (arr_in' A hj hi hl) (g := mkF X.m pc Ls (.int x :: .int j :: .ref a :: st)) rfl rfl (by rw [w0.2.1]; exact hd)
  subst e' hp hi
  exact Go.by stp (r T' _ (W1.wrote hm hS hk0 hZ hown hFr H Y' Wr') (A.put (fits_nar_byte x)))
theorem Go.aastore (W : Wk l Z EL R own bytes maxL ret nm X σ ρ T k n) (ix : Nat) (hm : σ[ix]? = some (a, c)) {ty : FieldType} (A : ArrC Z c ty vs) (hty : ty.isReference = true) {j : Int32} {v : Value} (i : Nat) (hj : ¬ j < 0) (hi : j.toNatClampNeg = i) (hl : i < vs.length) (hf : fits ty v = true) (F : Sto Z T.heap a v) (hd : decode bytes pc = .ok (.aastore, 1)) (hp : pc + 1 = pc')
    (r : ∀ (T' : State) (c' : Cell), Wk l Z EL R own bytes maxL ret nm X (σ.set ix (a, c')) ρ T' k n → ArrC Z c' ty (vs.set i v) → c'.cls = c.cls → Go Z EL K N Q X T' pc' Ls st) : Go Z EL K N Q X T pc Ls (v :: .int j :: .ref a :: st) := by
  have hc := W.cell (Or.inl (List.mem_of_getElem? hm))
  have W1 := W
  obtain ⟨w0, vm0, k0, locs, Y, hS, hk0, hZ, hown, hFr, H⟩ := W
  obtain ⟨T', h', Y', e', Wr', stp⟩ := stR Y w0.1 hZ rfl (A.arr hc) (arr_in' A hj hi hl) hty F (g := mkF X.m pc Ls (v :: .int j :: .ref a :: st)) rfl rfl (by rw [w0.2.1]; exact hd)
  subst e' hp hi
  exact Go.by stp (r T' _ (W1.wrote hm hS hk0 hZ hown hFr H Y' Wr') (A.put hf) rfl)
/-- a step that changes nothing of the heap -/
theorem Wk.same {vm0 : Vm} {k0 : Nat} {locs : List Loc} {T' : State} (W : Wk l Z EL R own bytes maxL ret nm X σ ρ T k n)
    (hS : X.s.Since vm0 k0) (hk0 : k0 ≤ T.heap.size) (hZ : Z.Warmed39 vm0) (hown : vm0.findClass own = some X.m.cls) (hFr : Fr Z.heap.size locs) (H : Hp Z EL X.so X.ro X.s σ ρ vm0 T.heap)
    (Y' : Stand X.p l X.e R (X.s.setVm vm0) X.m X.args X.below X.meth X.c T' locs k n) (e : T'.heap = T.heap) : Wk l Z EL R own bytes maxL ret nm X σ ρ T' k n :=
  ⟨W.1, vm0, k0, locs, Y', hS, by rw [e]; exact hk0, hZ, hown, hFr, by rw [e]; exact H⟩
theorem Go.getfield (W : Wk l Z EL R own bytes maxL ret nm X σ ρ T k n) (hm : (a, c) ∈ σ ∨ (a, c) ∈ ρ ∨ Z.heap[a]? = some c) {R0 O nF d : String} {ix : Nat} {v : Value} (w : (Jvm.Cond.fieldLink own ix R0 nF d).before a0 Z = true) (via : Via Z R0 O nF d) (F : FldC Z c O nF d v) (hd : decode bytes pc = .ok (.getfield ix, 3)) (hp : pc + 3 = pc')
    (r : ∀ T' : State, Wk l Z EL R own bytes maxL ret nm X σ ρ T' k n → Go Z EL K N Q X T' pc' Ls (v :: st)) : Go Z EL K N Q X T pc Ls (.ref a :: st) := by
  have hc := W.cell hm
  have W1 := W
  obtain ⟨w0, vm0, k0, locs, Y, hS, hk0, hZ, hown, hFr, H⟩ := W
  obtain ⟨T', Y', e', stp⟩ := getF Y w0.1 hZ hown (host := "") (Or.inl w) via rfl (F.fld hc) (g := mkF X.m pc Ls (.ref a :: st)) rfl rfl (by rw [w0.2.1]; exact hd)
  subst hp
  exact Go.by stp (r T' (W1.same hS hk0 hZ hown hFr H Y' e'))
theorem Go.getstatic (W : Wk l Z EL R own bytes maxL ret nm X σ ρ T k n) {R0 O nF d : String} {ix : Nat} {v : Value} (w : (Jvm.Cond.fieldLink own ix R0 nF d).before a0 Z = true) (via : Via Z R0 O nF d) (F : Sta Z Z.heap O nF d v) (hd : decode bytes pc = .ok (.getstatic ix, 3)) (hp : pc + 3 = pc')
    (r : ∀ T' : State, Wk l Z EL R own bytes maxL ret nm X σ ρ T' k n → Go Z EL K N Q X T' pc' Ls (v :: st)) : Go Z EL K N Q X T pc Ls st := by
  have hE := W.ext
  have W1 := W
  obtain ⟨w0, vm0, k0, locs, Y, hS, hk0, hZ, hown, hFr, H⟩ := W
  obtain ⟨T', Y', e', stp⟩ := getS Y w0.1 hZ (host := "") hown w via rfl (F.ext hE) (g := mkF X.m pc Ls st) rfl (by rw [w0.2.1]; exact hd)
  subst hp
  exact Go.by stp (r T' (W1.same hS hk0 hZ hown hFr H Y' e'))
theorem Go.putfield (W : Wk l Z EL R own bytes maxL ret nm X σ ρ T k n) (i : Nat) (hm : σ[i]? = some (a, c)) {R0 O nF d C : String} {ix kk : Nat} {ty : FieldType} {v v' old : Value} (w : (Jvm.Cond.fieldLink own ix R0 nF d).before a0 Z = true) (via : Via Z R0 O nF d) (F : FldC Z c O nF d old) (E : ObjC Z c C)
    (L : (Jvm.Cond.lays C O nF d).before a0 Z = true ∨ ((Jvm.Cond.laysFinal C O nF d).before a0 Z = true ∧ own = O ∧ nm = "<init>")) (wi : (Jvm.Cond.instantiable C kk).before a0 Z = true) (hty : parseFieldDescriptor d = some ty) (hn : narrow ty v = v') (hf : fits ty v' = true)
    (hd : decode bytes pc = .ok (.putfield ix, 3)) (hp : pc + 3 = pc')
    (r : ∀ (T' : State) (c' : Cell), c' = c.setSlot (Jvm.RoadKit.slotOf Z O nF d) v' → Wk l Z EL R own bytes maxL ret nm X (σ.set i (a, c')) ρ T' k n → Go Z EL K N Q X T' pc' Ls st) : Go Z EL K N Q X T pc Ls (v :: .ref a :: st) := by
  have hc := W.cell (Or.inl (List.mem_of_getElem? hm))
  have W1 := W
  obtain ⟨w0, vm0, k0, locs, Y, hS, hk0, hZ, hown, hFr, H⟩ := W
  obtain ⟨T', h', Y', e', Wr', stp⟩ := putFN Y w0.1 hZ hown w via rfl (F.fld hc) (E.exa hc) (L.imp id fun q => ⟨q.1, q.2.1, by rw [w0.2.2.2.2.2.1]; exact q.2.2⟩) wi hty hn hf (g := mkF X.m pc Ls (v :: .ref a :: st)) rfl rfl (by rw [w0.2.1]; exact hd)
  subst e' hp
  exact Go.by stp (r T' _ rfl (W1.wrote hm hS hk0 hZ hown hFr H Y' Wr'))
theorem Go.objInit (W : Wk l Z EL R own bytes maxL ret nm X σ ρ T k n) {ix : Nat} (w1 : (Jvm.Cond.methodLink own ix Lib.objectInit).before a0 Z = true) (w2 : (Jvm.Cond.instanceMethod Lib.objectInit).before a0 Z = true) (w3 : (Jvm.Cond.code Lib.objectInit ⟨#[0xb1]⟩ 1 none).before a0 Z = true) (hLs : Ls.size = maxL)
    (hd : decode bytes pc = .ok (.invokespecial ix, 3)) (hp : pc + 3 = pc') (hf : 1 ≤ R.frames) (hl : (st.map fun v => v.category).sum + 12 ≤ R.locals)
    (r : ∀ T' : State, Wk l Z EL R own bytes maxL ret nm X σ ρ T' k n → Go Z EL K N Q X T' pc' Ls st) : Go Z EL K N Q X T pc Ls (.ref a :: st) := by
  have W1 := W
  obtain ⟨w0, vm0, k0, locs, Y, hS, hk0, hZ, hown, hFr, H⟩ := W
  obtain ⟨T', Y', e', stp⟩ := initO Y w0.1 hZ hown w1 w2 w3 rfl (g := mkF X.m pc Ls (.ref a :: st)) rfl (by show Ls.size = _; rw [hLs, w0.2.2.1]) rfl (by rw [w0.2.1]; exact hd) hf (W := (st.map fun v => v.category).sum) (by show 2 * 0 + _ ≤ _; omega) hl
  subst hp
  exact Go.by stp (r T' (W1.same hS hk0 hZ hown hFr H Y' e'))
theorem Go.ldcInt (W : Wk l Z EL R own bytes maxL ret nm X σ ρ T k n) {ix : Nat} {v : Int32} (w : (Jvm.Cond.constant own ix v).before a0 Z = true) (hd : decode bytes pc = .ok (.ldc ix, 2)) (hp : pc + 2 = pc') (r : Go Z EL K N Q X T pc' Ls (.int v :: st)) : Go Z EL K N Q X T pc Ls st := by
  obtain ⟨w0, vm0, k0, locs, Y, hS, hk0, hZ, hown, hFr, H⟩ := W
  exact Go.by (fun t kk => Y.ldcI w0.1 hown (mvT hZ w) (g := mkF X.m pc Ls st) rfl (by rw [w0.2.1]; exact hd) (by subst hp; exact kk)) r
theorem Go.ldcwInt (W : Wk l Z EL R own bytes maxL ret nm X σ ρ T k n) {ix : Nat} {v : Int32} (w : (Jvm.Cond.constant own ix v).before a0 Z = true) (hd : decode bytes pc = .ok (.ldc_w ix, 3)) (hp : pc + 3 = pc') (r : Go Z EL K N Q X T pc' Ls (.int v :: st)) : Go Z EL K N Q X T pc Ls st := by
  obtain ⟨w0, vm0, k0, locs, Y, hS, hk0, hZ, hown, hFr, H⟩ := W
  exact Go.by (fun t kk => Y.ldcWI w0.1 hown (mvT hZ w) (g := mkF X.m pc Ls st) rfl (by rw [w0.2.1]; exact hd) (by subst hp; exact kk)) r
theorem Go.ldc2 (W : Wk l Z EL R own bytes maxL ret nm X σ ρ T k n) {ix : Nat} {v : Int64} (w : (Jvm.Cond.constantLong own ix v).before a0 Z = true) (hd : decode bytes pc = .ok (.ldc2_w ix, 3)) (hp : pc + 3 = pc') (r : Go Z EL K N Q X T pc' Ls (.long v :: st)) : Go Z EL K N Q X T pc Ls st := by
  obtain ⟨w0, vm0, k0, locs, Y, hS, hk0, hZ, hown, hFr, H⟩ := W
  exact Go.by (fun t kk => Y.ldc2J w0.1 hown (mvT hZ w) (g := mkF X.m pc Ls st) rfl (by rw [w0.2.1]; exact hd) (by subst hp; exact kk)) r
/-- a literal that may be made: what it holds -/
theorem Go.ldcStr (W : Wk l Z EL R own bytes maxL ret nm X σ ρ T k n) (hEL : EW Z a0 EL) {text : String} {ix : Nat} (w : (Jvm.Cond.stringLink own ix text).before a0 Z = true) (wS : ∀ d ∈ Bundle.stringAtoms, d.before a0 Z = true) (hmem : (own, ix) ∈ EL)
    {bs : List Value} {z : Int32} (ht : (∀ c ∈ text.toList, c.toNat < 256) ∧ text.toList.map (fun c => Value.int (Jvm.Lit.byteI c.toNat.toUInt16)) = bs) (hz : ¬ z < 0) (hl : z.toNatClampNeg = bs.length) (hbl : bs.length < 2147483648)
    (hd : decode bytes pc = .ok (.ldc ix, 2)) (hp : pc + 2 = pc') {m : Nat} (hm : 4 * text.toList.length ≤ m) (hbig : m ≤ 536870912) (hk : k + 2 ≤ R.cells) (hn : n + (m + 4) ≤ R.slots)
    (r : ∀ (T' : State) (a b : Addr) (c cb : Cell), Wk l Z EL R own bytes maxL ret nm X σ ((a, c) :: (b, cb) :: ρ) T' (k + 2) (n + (m + 4)) → ObjC Z c "java/lang/String" → FldC Z c "java/lang/String" "coder" "B" (.int 0) → FldC Z c "java/lang/String" "value" "[B" (.ref b) → ArrC Z cb .byte bs → Go Z EL K N Q X T' pc' Ls (.ref a :: st)) :
    Go Z EL K N Q X T pc Ls st := by
  obtain ⟨w0, vm0, k0, locs, Y, hS, hk0, hZ, hown, hFr, H⟩ := W
  obtain ⟨a, T', h', k1, b, kc, Y', e', E, hS', hk1, hZ', hown', A1, F1, F2, V1, la, lb, C, -, hne, stp⟩ := ldcCH Y w0.1 hZ hown w wS rfl hS hk0 hEL hmem H.1.1 ht hz hl (g := mkF X.m pc Ls st) rfl (by rw [w0.2.1]; exact hd) hm hbig hk hn
  subst e' hp
  obtain ⟨cb, Ab, -, sz, -, hh, hfit⟩ := V1
  have hcb : T'.heap[b]? = some cb := Ab.1
  obtain ⟨c, hc⟩ : ∃ c, T'.heap[a]? = some c := by obtain ⟨c, _, q, -⟩ := A1; exact ⟨c, q⟩
  have H2 := ((H.later C E).lit hcb fun x q => (hne x q).2).lit hc fun x q => (hne x q).1
  have hlen : cb.slots.size = bs.length := by rw [sz, hl]
  have hsl : cb.slots.toList = bs := by
    apply List.ext_getElem?
    intro i
    by_cases q : i < bs.length
    · have := hh i (by omega)
      rw [Array.getElem?_toList, this, List.getD_eq_getElem?_getD, List.getElem?_eq_getElem q]; rfl
    · rw [Array.getElem?_toList, Array.getElem?_eq_none (by omega), List.getElem?_eq_none (by omega)]
  refine Go.by stp (r T' a b c cb ⟨w0, T'.vm, k1, locs, Y', hS', hk1, hZ', hown', hFr, H2⟩ (ObjC.of A1 hc) (FldC.of F1 hc) (FldC.of F2 hc) ⟨Ab.2.1, Ab.2.2, hsl, fun v hv => ?_, hbl⟩)
  obtain ⟨i, hi⟩ := List.mem_iff_getElem?.mp hv
  have hlt := (List.getElem?_eq_some_iff.mp hi).1
  have q := hfit i (by omega)
  rw [List.getD_eq_getElem?_getD, hi] at q
  exact q
end HeapLaws
/-! ## own: calls and returns in the Go form -/
section CallLaws
variable {l : Launch} {Z : State} {a0 : Array Value} {EL : List (String × Nat)} {R : Room} {own : String} {bytes : ByteArray} {maxL : Nat} {ret : Option FieldType} {nm : String} {X : Ctx} {σ ρ : HL} {T : State} {k n K N : Nat} {Q Q' : Option Value → HL → HL → Prop} {pc pc' : Nat} {Ls : Array Slot} {st rest : List Value} {a : Addr} {c : Cell}
  {y y' : MethodName} {by' : ByteArray} {mL : Nat} {rt : Option FieldType} {rm : Room} {as' : Array Value} {σi σf ρi : HL}
/-- the point behind a call -/
theorem Wk.called (W : Wk l Z EL R own bytes maxL ret nm X σ ρ T k n) {vm0 : Vm} {k0 : Nat} {locs L : List Loc} (hS : X.s.Since vm0 k0) (hk0 : k0 ≤ T.heap.size) (hZ : Z.Warmed39 vm0) (hown : vm0.findClass own = some X.m.cls) (hFr : Fr Z.heap.size locs) (B : Pt) {σ' ρ' : HL}
    (Y' : Stand X.p l X.e R ((X.s.setVm vm0).setVm B.U.vm) X.m X.args X.below X.meth X.c B.U B.locs B.cells B.slots) (hS2 : (X.s.setVm vm0).Since B.U.vm B.U.heap.size) (g : T.heap.size ≤ B.U.heap.size) (hL : Fr Z.heap.size L) (H : Hp Z EL X.so X.ro X.s σ' ρ' B.U.vm B.U.heap)
    (e1 : B.locs = locs ++ L) (e2 : B.cells = k + rm.cells) (e3 : B.slots = n + rm.slots) : Wk l Z EL R own bytes maxL ret nm X σ' ρ' B.U (k + rm.cells) (n + rm.slots) := by
  obtain ⟨U, Lo, c1, s1⟩ := B
  dsimp only [Pt.U, Pt.locs, Pt.cells, Pt.slots] at *
  subst e1 e2 e3
  exact ⟨W.1, U.vm, U.heap.size, _, Y', hS.trans hS2 (Nat.le_trans hk0 g), Nat.le_refl _, State.Warmed39.trans (t := X.s.setVm vm0) hZ hS2.1, by rw [hS2.1.alike.findClass]; exact hown, hFr.app hL, H⟩
theorem Go.static (W : Wk l Z EL R own bytes maxL ret nm X σ ρ T k n) {ix : Nat} (M : Met l Z EL y by' mL rt rm as' σi ρi Q') (w1 : (Jvm.Cond.methodLink own ix y).before a0 Z = true) (w2 : (Jvm.Cond.static y).before a0 Z = true) (w3 : (Jvm.Cond.initialized y.cls).before a0 Z = true) (w4 : (Jvm.Cond.code y by' mL rt).before a0 Z = true)
    (hy : y.cls ≠ "java/lang/invoke/MethodHandle" ∧ y.cls ≠ "java/lang/invoke/VarHandle") (is js : List Nat) (hσ : pick is σ = some (σi, σf)) (hρ : roOf js ρ ρi) (argsL : List Value) (rest : List Value) (has : argsL.toArray = as') (hlen : ∀ sig, parseMethodDescriptor y.desc = some sig → argsL.length = sig.parameters.length) (hst : st = argsL.reverse ++ rest)
    (hLs : Ls.size = maxL) (hd : decode bytes pc = .ok (.invokestatic ix, 3)) (hp : pc + 3 = pc') (hf : rm.frames + 1 ≤ R.frames) (hl : (rest.map fun v => v.category).sum + (mL + 11) + rm.locals ≤ R.locals) (hk : k + rm.cells ≤ R.cells) (hn : n + rm.slots ≤ R.slots)
    (r : ∀ (v : Option Value) (σ' ρ' : HL) (T' : State), Q' v σ' ρ' → Wk l Z EL R own bytes maxL ret nm X (σ' ++ σf) (ρ' ++ ρ) T' (k + rm.cells) (n + rm.slots) → Go Z EL K N Q X T' pc' Ls (v.toList ++ rest)) : Go Z EL K N Q X T pc Ls st := by
  have W1 := W
  obtain ⟨w0, vm0, k0, locs, Y, hS, hk0, hZ, hown, hFr, H⟩ := W
  obtain ⟨ae, hEL⟩ := w0.2.2.2.2.2.2
  subst has hst
  have B1 := M.back (R := R) (p := X.p) (e := X.e) (below := X.below) (args := X.args) (len := 3) (W := (rest.map fun v => v.category).sum) hZ w4 w3 hf hl hEL (H.perm (pick_perm _ _ _ _ hσ)) hρ.mem
  obtain ⟨v, vm1, B, -, Y', hS2, g, ⟨σ', ρ', L, q, hL, H', e1, e2, e3⟩, stp⟩ := callSS Y w0.1 hown (mvT hZ w1) (mvT hZ w2) (mvT hZ w3) (mvT hZ w4) hy B1 (g := mkF X.m pc Ls (argsL.reverse ++ rest)) rfl (by show Ls.size = _; rw [hLs, w0.2.2.1]) (argsL := argsL) (rest := rest) hlen rfl (by show 2 * 0 + _ ≤ _; omega) (by rw [w0.2.1]; exact hd) (fun _ _ => ⟨rfl, rfl, hk, hn⟩)
  subst hp
  exact Go.by (fun t kk => stp.trans kk) (r v σ' ρ' B.U q (W1.called hS hk0 hZ hown hFr B Y' hS2 g hL H' e1 e2 e3))
theorem Go.special (W : Wk l Z EL R own bytes maxL ret nm X σ ρ T k n) {ix : Nat} (M : Met l Z EL y by' mL none rm as' σi ρi Q') (hy1 : y.name = "<init>") (w1 : (Jvm.Cond.methodLink own ix y).before a0 Z = true) (w2 : (Jvm.Cond.instanceMethod y).before a0 Z = true) (w3 : (Jvm.Cond.initialized y.cls).before a0 Z = true) (w4 : (Jvm.Cond.code y by' mL none).before a0 Z = true)
    (hy : y.cls ≠ "java/lang/invoke/MethodHandle" ∧ y.cls ≠ "java/lang/invoke/VarHandle") (is js : List Nat) (hσ : pick is σ = some (σi, σf)) (hρ : roOf js ρ ρi) (argsL : List Value) (rest : List Value) (has : (.ref a :: argsL).toArray = as') (hlen : ∀ sig, parseMethodDescriptor y.desc = some sig → argsL.length = sig.parameters.length) (hst : st = argsL.reverse ++ .ref a :: rest)
    (hLs : Ls.size = maxL) (hd : decode bytes pc = .ok (.invokespecial ix, 3)) (hp : pc + 3 = pc') (hf : rm.frames + 1 ≤ R.frames) (hl : (rest.map fun v => v.category).sum + (mL + 11) + rm.locals ≤ R.locals) (hk : k + rm.cells ≤ R.cells) (hn : n + rm.slots ≤ R.slots)
    (r : ∀ (v : Option Value) (σ' ρ' : HL) (T' : State), Q' v σ' ρ' → Wk l Z EL R own bytes maxL ret nm X (σ' ++ σf) (ρ' ++ ρ) T' (k + rm.cells) (n + rm.slots) → Go Z EL K N Q X T' pc' Ls (v.toList ++ rest)) : Go Z EL K N Q X T pc Ls st := by
  have W1 := W
  obtain ⟨w0, vm0, k0, locs, Y, hS, hk0, hZ, hown, hFr, H⟩ := W
  obtain ⟨ae, hEL⟩ := w0.2.2.2.2.2.2
  subst has hst
  have B1 := M.back (R := R) (p := X.p) (e := X.e) (below := X.below) (args := X.args) (len := 3) (W := (rest.map fun v => v.category).sum) hZ w4 w3 hf hl hEL (H.perm (pick_perm _ _ _ _ hσ)) hρ.mem
  obtain ⟨v, vm1, B, -, Y', hS2, g, ⟨σ', ρ', L, q, hL, H', e1, e2, e3⟩, stp⟩ := Y.specialBackS w0.1 hy1 hown (mvT hZ w1) (mvT hZ w2) (mvT hZ w4) hy B1 (g := mkF X.m pc Ls (argsL.reverse ++ .ref a :: rest)) rfl (by show Ls.size = _; rw [hLs, w0.2.2.1]) (Steps.refl _) (a := a) (argsL := argsL) (rest := rest) hlen rfl (by show 2 * 0 + _ ≤ _; omega) (by rw [w0.2.1]; exact hd) (fun _ _ => ⟨rfl, rfl, hk, hn⟩)
  subst hp
  exact Go.by (fun t kk => stp.trans kk) (r v σ' ρ' B.U q (W1.called hS hk0 hZ hown hFr B Y' hS2 g hL H' e1 e2 e3))
theorem Go.virtual (W : Wk l Z EL R own bytes maxL ret nm X σ ρ T k n) {ix : Nat} {C : String} (M : Met l Z EL y by' mL rt rm as' σi ρi Q') (hm : (a, c) ∈ σ ∨ (a, c) ∈ ρ ∨ Z.heap[a]? = some c) (O : ObjC Z c C) (w1 : (Jvm.Cond.methodLink own ix y).before a0 Z = true) (wd : (Jvm.Cond.declares y).before a0 Z = true) (ws : (Jvm.Cond.selects C y y).before a0 Z = true) (w2 : (Jvm.Cond.instanceMethod y).before a0 Z = true) (w3 : (Jvm.Cond.initialized y.cls).before a0 Z = true) (w4 : (Jvm.Cond.code y by' mL rt).before a0 Z = true)
    (hy : y.cls ≠ "java/lang/invoke/MethodHandle" ∧ y.cls ≠ "java/lang/invoke/VarHandle") (is js : List Nat) (hσ : pick is σ = some (σi, σf)) (hρ : roOf js ρ ρi) (argsL : List Value) (rest : List Value) (has : (.ref a :: argsL).toArray = as') (hlen : ∀ sig, parseMethodDescriptor y.desc = some sig → argsL.length = sig.parameters.length) (hst : st = argsL.reverse ++ .ref a :: rest)
    (hLs : Ls.size = maxL) (hd : decode bytes pc = .ok (.invokevirtual ix, 3)) (hp : pc + 3 = pc') (hf : rm.frames + 1 ≤ R.frames) (hl : (rest.map fun v => v.category).sum + (mL + 11) + rm.locals ≤ R.locals) (hk : k + rm.cells ≤ R.cells) (hn : n + rm.slots ≤ R.slots)
    (r : ∀ (v : Option Value) (σ' ρ' : HL) (T' : State), Q' v σ' ρ' → Wk l Z EL R own bytes maxL ret nm X (σ' ++ σf) (ρ' ++ ρ) T' (k + rm.cells) (n + rm.slots) → Go Z EL K N Q X T' pc' Ls (v.toList ++ rest)) : Go Z EL K N Q X T pc Ls st := by
  have W1 := W
  have hc := W.cell hm
  obtain ⟨w0, vm0, k0, locs, Y, hS, hk0, hZ, hown, hFr, H⟩ := W
  obtain ⟨ae, hEL⟩ := w0.2.2.2.2.2.2
  subst has hst
  have B1 := M.back (R := R) (p := X.p) (e := X.e) (below := X.below) (args := X.args) (len := 3) (W := (rest.map fun v => v.category).sum) hZ w4 w3 hf hl hEL (H.perm (pick_perm _ _ _ _ hσ)) hρ.mem
  obtain ⟨cq, kq, qa, qb, qc⟩ := isOf (s := X.s.setVm vm0) hZ rfl (O.exa hc)
  obtain ⟨v, vm1, B, -, Y', hS2, g, ⟨σ', ρ', L, q, hL, H', e1, e2, e3⟩, stp⟩ := Y.virtualBackS w0.1 hown (mvT hZ w1) (mvT hZ wd) (notFace_of_selects (args := #[]) (mvT hZ ws)) (mvT hZ ws) (mvT hZ w2) hy B1 qa qc (g := mkF X.m pc Ls (argsL.reverse ++ .ref a :: rest)) rfl (by show Ls.size = _; rw [hLs, w0.2.2.1]) (Steps.refl _) (argsL := argsL) (rest := rest) hlen rfl (by show 2 * 0 + _ ≤ _; omega) (by rw [w0.2.1]; exact hd) (fun _ _ => ⟨rfl, rfl, hk, hn⟩)
  subst hp
  exact Go.by (fun t kk => stp.trans kk) (r v σ' ρ' B.U q (W1.called hS hk0 hZ hown hFr B Y' hS2 g hL H' e1 e2 e3))
/-! returns -/
theorem Go.leave (W : Wk l Z EL R own bytes maxL ret nm X σ ρ T k n) (v : Option Value) (hv : ret = none → v = none) (hk : k ≤ K) (hn : n ≤ N) (q : Q v σ ρ)
    (hstep : ∀ (fs : List Frame) (vm0 : Vm) (locs : List Loc), Stand X.p l X.e R (X.s.setVm vm0) X.m X.args X.below X.meth X.c T locs K N → (∀ (f : JFrame) (acts : List Action), f.method = X.m → f.locked = none → f.entered = [] → (doReturn X.e (T.setTop f) acts v).1 = T.setFrames fs) → Steps X.p.tables X.e X.below (T.setTop (mkF X.m pc Ls st)) (T.setFrames fs)) :
    Go Z EL K N Q X T pc Ls st := by
  obtain ⟨w0, vm0, k0, locs, Y, hS, hk0, hZ, hown, hFr, H⟩ := W
  obtain ⟨ae, hEL⟩ := w0.2.2.2.2.2.2
  have Y2 := Y.more hk hn
  obtain ⟨fs, h1, h2, h3, h4⟩ := Y2.leaveW hS hk0 (v := v) (fun h => hv (by rw [← w0.2.2.2.1]; exact h)) w0.2.2.2.2.1
  have H2 : Hp Z EL X.so X.ro X.s σ ρ T.vm T.heap := H.later (CHv.at Y hZ hEL H.1.1) ⟨Nat.le_refl _, fun _ _ z => z⟩
  exact ⟨T.setFrames fs, _, hstep fs vm0 locs Y2 h1, h2, h3, v, σ, ρ, locs, rfl, q, hFr, H2, h4⟩
theorem Go.retV (W : Wk l Z EL R own bytes maxL none nm X σ ρ T k n) (hd : decode bytes pc = .ok (.return_, 1)) (hk : k ≤ K) (hn : n ≤ N) (q : Q none σ ρ) : Go Z EL K N Q X T pc Ls [] := by
  refine Go.leave W none (fun _ => rfl) hk hn q fun fs vm0 locs Y h => ?_
  exact Y.returnOut W.hx W.1.2.2.2.1 (W.hb hd) h
theorem Go.iret (W : Wk l Z EL R own bytes maxL (some .int) nm X σ ρ T k n) {z : Int32} (hd : decode bytes pc = .ok (.ireturn, 1)) (hk : k ≤ K) (hn : n ≤ N) (q : Q (some (.int z)) σ ρ) : Go Z EL K N Q X T pc Ls (.int z :: st) := by
  refine Go.leave W (some (.int z)) (fun h => nomatch h) hk hn q fun fs vm0 locs Y h => ?_
  exact retOut Y W.hx W.1.2.2.2.1 rfl (Or.inl ⟨rfl, Or.inl rfl, z, rfl⟩) (W.hb hd) h
theorem Go.nret (W : Wk l Z EL R own bytes maxL (some t) nm X σ ρ T k n) {z z' : Int32} (ht : t = .boolean ∨ t = .byte ∨ t = .char ∨ t = .short) (hz : nar t z = z') (hd : decode bytes pc = .ok (.ireturn, 1)) (hk : k ≤ K) (hn : n ≤ N) (q : Q (some (.int z')) σ ρ) : Go Z EL K N Q X T pc Ls (.int z :: st) := by
  subst hz
  refine Go.leave W (some (.int (nar t z))) (fun h => nomatch h) hk hn q fun fs vm0 locs Y h => ?_
  exact retN Y W.hx W.1.2.2.2.1 ht (W.hb hd) h
theorem Go.lret (W : Wk l Z EL R own bytes maxL (some .long) nm X σ ρ T k n) {z : Int64} (hd : decode bytes pc = .ok (.lreturn, 1)) (hk : k ≤ K) (hn : n ≤ N) (q : Q (some (.long z)) σ ρ) : Go Z EL K N Q X T pc Ls (.long z :: st) := by
  refine Go.leave W (some (.long z)) (fun h => nomatch h) hk hn q fun fs vm0 locs Y h => ?_
  exact retOut Y W.hx W.1.2.2.2.1 rfl (Or.inr (Or.inl ⟨rfl, rfl, z, rfl⟩)) (W.hb hd) h
theorem narrow_ref {t : FieldType} (ht : t.isReference = true) (w : Value) : narrow t w = w := by cases t <;> first | (cases ht; done) | rfl
theorem Go.aret (W : Wk l Z EL R own bytes maxL (some t) nm X σ ρ T k n) {w : Value} (hw : w.isRef = true) (ht : t.isReference = true) (hd : decode bytes pc = .ok (.areturn, 1)) (hk : k ≤ K) (hn : n ≤ N) (q : Q (some w) σ ρ) : Go Z EL K N Q X T pc Ls (w :: st) := by
  refine Go.leave W (some w) (fun h => nomatch h) hk hn q fun fs vm0 locs Y h => ?_
  exact retOut Y W.hx W.1.2.2.2.1 (narrow_ref ht w) (Or.inr (Or.inr (Or.inr (Or.inr ⟨rfl, ht, hw⟩)))) (W.hb hd) h
end CallLaws
/-! ## own: numbers and lists for the loops over arrays -/
theorem i32_toInt {i : Nat} (hi : i < 2147483648) : i.toInt32.toInt = (i : Int) := by
  rw [show i.toInt32 = Int32.ofNat i from rfl, Int32.toInt_ofNat_of_lt (by omega)]
theorem i32_lt {i n : Nat} (hi : i < 2147483648) (hn : n < 2147483648) : i.toInt32 < n.toInt32 ↔ i < n := by
  rw [Int32.lt_iff_toInt_lt, i32_toInt hi, i32_toInt hn]; omega
theorem i32_nn {i : Nat} (hi : i < 2147483648) : ¬ i.toInt32 < 0 := by
  rw [Int32.lt_iff_toInt_lt, i32_toInt hi]
  have : (0 : Int32).toInt = 0 := by decide
  omega
theorem i32_clamp {i : Nat} (hi : i < 2147483648) : i.toInt32.toNatClampNeg = i := by
  have h := nat_of (i32_nn hi)
  rw [i32_toInt hi] at h
  omega
theorem i32_succ {i : Nat} (hi : i + 1 < 2147483648) : i.toInt32 + 1 = (i + 1).toInt32 := by
  apply Int32.toInt_inj.mp
  have h := c_iadd i.toInt32 1
  rw [i32_toInt (by omega)] at h
  rw [i32_toInt hi]
  have h1 : (1 : Int32).toInt = 1 := by decide
  rw [h1] at h
  have r := rng32 (i.toInt32 + 1)
  omega
theorem i32_inj {i n : Nat} (hi : i < 2147483648) (hn : n < 2147483648) : i.toInt32 = n.toInt32 ↔ i = n := by
  constructor
  · intro h
    have := congrArg Int32.toInt h
    rw [i32_toInt hi, i32_toInt hn] at this
    omega
  · intro h; rw [h]
/-- a char's low byte, as a byte[] holds it -/
abbrev lo8 (x : Int32) : Value := .int x.toInt8.toInt32
abbrev latB (cs : List Int32) : List Value := cs.map lo8
abbrev chV (cs : List Int32) : List Value := cs.map Value.int
/-- each is a Latin-1 char -/
def Lat (cs : List Int32) : Prop := ∀ x ∈ cs, ¬ x < 0 ∧ ¬ (255 : Int32) < x
theorem Lat.nil : Lat [] := fun _ h => nomatch h
theorem Lat.cons {x : Int32} {cs : List Int32} (h : ¬ x < 0 ∧ ¬ (255 : Int32) < x) (r : Lat cs) : Lat (x :: cs) := fun y hy => by
  rcases List.mem_cons.mp hy with rfl | hy
  · exact h
  · exact r y hy
/-- a Latin-1 String's two cells -/
def StrL (Z : State) (c : Cell) (b : Addr) (cb : Cell) (cs : List Int32) : Prop :=
  ObjC Z c "java/lang/String" ∧ FldC Z c "java/lang/String" "coder" "B" (.int 0) ∧ FldC Z c "java/lang/String" "value" "[B" (.ref b) ∧ ArrC Z cb .byte (latB cs) ∧ Lat cs
theorem take_succ' {α : Type} {l : List α} {i : Nat} {x : α} (h : l[i]? = some x) : l.take (i + 1) = l.take i ++ [x] := by
  rw [List.take_add_one, h]; rfl
theorem set_next {cs : List Int32} {i j : Nat} {x : Int32} (hx : cs[i]? = some x) : (latB (cs.take i) ++ List.replicate (j + 1) (.int 0 : Value)).set i (lo8 x) = latB (cs.take (i + 1)) ++ List.replicate j (.int 0) := by
  have hi : i < cs.length := (List.getElem?_eq_some_iff.mp hx).1
  have hl : (latB (cs.take i)).length = i := by simp; omega
  rw [List.set_append_right _ _ (by omega), hl, Nat.sub_self, List.replicate_succ, List.set_cons_zero, take_succ' hx]
  simp [latB]
theorem and255 (x : Int32) : ¬ (x &&& 255) < 0 ∧ ¬ (255 : Int32) < (x &&& 255) := by
  have h := c_and x 255 (by decide)
  have h0 : (0 : Int32).toInt = 0 := by decide
  have h1 : (255 : Int32).toInt = 255 := by decide
  rw [Int32.lt_iff_toInt_lt, Int32.lt_iff_toInt_lt, h0]
  rw [h1] at h ⊢
  omega
/-- a char stays a char -/
theorem i2c_id {x : Int32} (h0 : ¬ x < 0) (h1 : ¬ (65535 : Int32) < x) : x.toUInt32.toUInt16.toUInt32.toInt32 = x := by
  apply Int32.toInt_inj.mp
  have h := c_i2c x
  rw [Int32.lt_iff_toInt_lt] at h0 h1
  have e0 : (0 : Int32).toInt = 0 := by decide
  have e1 : (65535 : Int32).toInt = 65535 := by decide
  rw [e0] at h0
  rw [e1] at h1
  omega
theorem lat_char {x : Int32} (h : ¬ x < 0 ∧ ¬ (255 : Int32) < x) : ¬ x < 0 ∧ ¬ (65535 : Int32) < x := by
  obtain ⟨h0, h1⟩ := h
  refine ⟨h0, ?_⟩
  rw [Int32.lt_iff_toInt_lt] at h1 ⊢
  have e0 : (255 : Int32).toInt = 255 := by decide
  have e1 : (65535 : Int32).toInt = 65535 := by decide
  rw [e0] at h1
  rw [e1]
  omega
theorem nar_char_id {x : Int32} (h : ¬ x < 0 ∧ ¬ (65535 : Int32) < x) : nar .char x = x := i2c_id h.1 h.2
/-- a byte read back with & 255 -/
theorem byte_back {x : Int32} (h : ¬ x < 0 ∧ ¬ (255 : Int32) < x) : x.toInt8.toInt32 &&& 255 = x := by
  apply Int32.toInt_inj.mp
  rw [c_mask _ 255 8 (by decide) (by decide)]
  have hb := c_i2b x
  obtain ⟨h0, h1⟩ := h
  rw [Int32.lt_iff_toInt_lt] at h0 h1
  have e0 : (0 : Int32).toInt = 0 := by decide
  have e1 : (255 : Int32).toInt = 255 := by decide
  rw [e0] at h0
  rw [e1] at h1
  omega
theorem lo8_inj {x y : Int32} (hx : ¬ x < 0 ∧ ¬ (255 : Int32) < x) (hy : ¬ y < 0 ∧ ¬ (255 : Int32) < y) (h : x.toInt8.toInt32 = y.toInt8.toInt32) : x = y := by
  rw [← byte_back hx, ← byte_back hy, h]
theorem i8_i8 (x : Int32) : x.toInt8.toInt32.toInt8.toInt32 = x.toInt8.toInt32 := by
  apply Int32.toInt_inj.mp
  have h1 := c_i2b x
  have h2 := c_i2b x.toInt8.toInt32
  omega
theorem andchr (x m : Int32) (h0 : 0 ≤ m.toInt) (h1 : m.toInt ≤ 65535) : ¬ (x &&& m) < 0 ∧ ¬ (65535 : Int32) < (x &&& m) := by
  have h := c_and x m h0
  have e0 : (0 : Int32).toInt = 0 := by decide
  have e1 : (65535 : Int32).toInt = 65535 := by decide
  rw [Int32.lt_iff_toInt_lt, Int32.lt_iff_toInt_lt, e0, e1]
  omega
theorem ite10_z {P : Prop} [Decidable P] : ((if P then (1 : Int32) else 0) = 0) ↔ ¬ P := by by_cases h : P <;> simp [h]
theorem ite10_o {P : Prop} [Decidable P] : ((if P then (1 : Int32) else 0) = 1) ↔ P := by by_cases h : P <;> simp [h]
theorem ite01_z {P : Prop} [Decidable P] : ((if P then (0 : Int32) else 1) = 0) ↔ P := by by_cases h : P <;> simp [h]
theorem ite01_o {P : Prop} [Decidable P] : ((if P then (0 : Int32) else 1) = 1) ↔ ¬ P := by by_cases h : P <;> simp [h]
/-! ## own: casts and comparisons of references in the Go form -/
section RefLaws
variable {l : Launch} {Z : State} {a0 : Array Value} {EL : List (String × Nat)} {R : Room} {own : String} {bytes : ByteArray} {maxL : Nat} {ret : Option FieldType} {nm : String} {X : Ctx} {σ ρ : HL} {T : State} {k n K N : Nat} {Q : Option Value → HL → HL → Prop} {pc pc' : Nat} {Ls : Array Slot} {st : List Value} {a : Addr} {c : Cell}
theorem Go.instY (W : Wk l Z EL R own bytes maxL ret nm X σ ρ T k n) (hm : (a, c) ∈ σ ∨ (a, c) ∈ ρ ∨ Z.heap[a]? = some c) {C : String} {ix : Nat} (O : ObjC Z c C) (w : (Jvm.Cond.classLink own ix C).before a0 Z = true) (hd : decode bytes pc = .ok (.instanceof ix, 3)) (hp : pc + 3 = pc')
    (r : ∀ T' : State, Wk l Z EL R own bytes maxL ret nm X σ ρ T' k n → Go Z EL K N Q X T' pc' Ls (.int 1 :: st)) : Go Z EL K N Q X T pc Ls (.ref a :: st) := by
  have hc := W.cell hm
  have W1 := W
  obtain ⟨w0, vm0, k0, locs, Y, hS, hk0, hZ, hown, hFr, H⟩ := W
  obtain ⟨T', Y', e', stp⟩ := Jvm.RoadKit.instY Y w0.1 hZ hown w rfl (Ins.self (O.exa hc)) (g := mkF X.m pc Ls (.ref a :: st)) rfl rfl (by rw [w0.2.1]; exact hd)
  subst hp
  exact Go.by stp (r T' (W1.same hS hk0 hZ hown hFr H Y' e'))
theorem Go.castY (W : Wk l Z EL R own bytes maxL ret nm X σ ρ T k n) (hm : (a, c) ∈ σ ∨ (a, c) ∈ ρ ∨ Z.heap[a]? = some c) {C : String} {ix : Nat} (O : ObjC Z c C) (w : (Jvm.Cond.classLink own ix C).before a0 Z = true) (hd : decode bytes pc = .ok (.checkcast ix, 3)) (hp : pc + 3 = pc')
    (r : ∀ T' : State, Wk l Z EL R own bytes maxL ret nm X σ ρ T' k n → Go Z EL K N Q X T' pc' Ls (.ref a :: st)) : Go Z EL K N Q X T pc Ls (.ref a :: st) := by
  have hc := W.cell hm
  have W1 := W
  obtain ⟨w0, vm0, k0, locs, Y, hS, hk0, hZ, hown, hFr, H⟩ := W
  obtain ⟨T', Y', e', stp⟩ := Jvm.RoadKit.castY Y w0.1 hZ hown w rfl (Ins.self (O.exa hc)) (g := mkF X.m pc Ls (.ref a :: st)) rfl rfl (by rw [w0.2.1]; exact hd)
  subst hp
  exact Go.by stp (r T' (W1.same hS hk0 hZ hown hFr H Y' e'))
theorem Go.acmp_ne (W : Wk l Z EL R own bytes maxL ret nm X σ ρ T k n) {x y : Value} {o : Int} (pcY : Nat) (h1 : x.isRef = true) (h2 : y.isRef = true) (hd : decode bytes pc = .ok (.if_acmp .ne o, 3)) (hy : (pc : Int) + o = (pcY : Nat)) (hp : pc + 3 = pc')
    (rY : ¬ x = y → Go Z EL K N Q X T pcY Ls st) (rN : x = y → Go Z EL K N Q X T pc' Ls st) : Go Z EL K N Q X T pc Ls (y :: x :: st) := by
  obtain ⟨w0, vm0, k0, locs, Y, hS, hk0, hZ, hown, hFr, H⟩ := W
  by_cases q : x = y
  · exact Go.by (fun t kk => acmp Y w0.1 (g := mkF X.m pc Ls (y :: x :: st)) rfl h1 h2 (pc0 := pc) (pc' := pc') (same := true) rfl (by rw [w0.2.1]; exact hd) rfl (by simp [q]) (by omega) (by subst hp; rfl) kk) (rN q)
  · exact Go.by (fun t kk => acmp Y w0.1 (g := mkF X.m pc Ls (y :: x :: st)) rfl h1 h2 (pc0 := pc) (pc' := pcY) (same := false) rfl (by rw [w0.2.1]; exact hd) rfl (by simp [q]) (by omega) (by simp [acV]; omega) kk) (rY q)
theorem Go.acmp_eq (W : Wk l Z EL R own bytes maxL ret nm X σ ρ T k n) {x y : Value} {o : Int} (pcY : Nat) (h1 : x.isRef = true) (h2 : y.isRef = true) (hd : decode bytes pc = .ok (.if_acmp .eq o, 3)) (hy : (pc : Int) + o = (pcY : Nat)) (hp : pc + 3 = pc')
    (rY : x = y → Go Z EL K N Q X T pcY Ls st) (rN : ¬ x = y → Go Z EL K N Q X T pc' Ls st) : Go Z EL K N Q X T pc Ls (y :: x :: st) := by
  obtain ⟨w0, vm0, k0, locs, Y, hS, hk0, hZ, hown, hFr, H⟩ := W
  by_cases q : x = y
  · exact Go.by (fun t kk => acmp Y w0.1 (g := mkF X.m pc Ls (y :: x :: st)) rfl h1 h2 (pc0 := pc) (pc' := pcY) (same := true) rfl (by rw [w0.2.1]; exact hd) rfl (by simp [q]) (by omega) (by simp [acV]; omega) kk) (rY q)
  · exact Go.by (fun t kk => acmp Y w0.1 (g := mkF X.m pc Ls (y :: x :: st)) rfl h1 h2 (pc0 := pc) (pc' := pc') (same := false) rfl (by rw [w0.2.1]; exact hd) rfl (by simp [q]) (by omega) (by subst hp; rfl) kk) (rN q)
theorem Go.instNull (W : Wk l Z EL R own bytes maxL ret nm X σ ρ T k n) {ix : Nat} (hd : decode bytes pc = .ok (.instanceof ix, 3)) (hp : pc + 3 = pc') (r : Go Z EL K N Q X T pc' Ls (.int 0 :: st)) : Go Z EL K N Q X T pc Ls (.null :: st) := by
  obtain ⟨w0, vm0, k0, locs, Y, hS, hk0, hZ, hown, hFr, H⟩ := W
  exact Go.by (fun t kk => Y.instanceofNull w0.1 (g := mkF X.m pc Ls (.null :: st)) rfl rfl (by rw [w0.2.1]; exact hd) t (by subst hp; exact kk)) r
theorem Go.castNull (W : Wk l Z EL R own bytes maxL ret nm X σ ρ T k n) {ix : Nat} (hd : decode bytes pc = .ok (.checkcast ix, 3)) (hp : pc + 3 = pc') (r : Go Z EL K N Q X T pc' Ls (.null :: st)) : Go Z EL K N Q X T pc Ls (.null :: st) := by
  obtain ⟨w0, vm0, k0, locs, Y, hS, hk0, hZ, hown, hFr, H⟩ := W
  exact Go.by (fun t kk => Y.checkcastNull w0.1 (g := mkF X.m pc Ls (.null :: st)) rfl rfl (by rw [w0.2.1]; exact hd) t (by subst hp; exact kk)) r
end RefLaws
/-! ## own: two Strings at one address -/
theorem FldC.uniq {Z : State} {c : Cell} {C n d : String} {v w : Value} (F : FldC Z c C n d v) (F' : FldC Z c C n d w) : v = w := by
  obtain ⟨cf, k, i, f, h1, -, -, -, -, h6⟩ := F
  obtain ⟨cf', k', i', f', g1, -, -, -, -, g6⟩ := F'
  cases h1.symm.trans g1
  exact Option.some.inj (h6.symm.trans g6)
theorem latB_inj {cs ds : List Int32} (hc : Lat cs) (hd : Lat ds) (h : cs.map (fun x => x.toInt8.toInt32) = ds.map (fun x => x.toInt8.toInt32)) : cs = ds := by
  induction cs generalizing ds with
  | nil => cases ds with
    | nil => rfl
    | cons y ds => simp at h
  | cons x cs ih => cases ds with
    | nil => simp at h
    | cons y ds =>
      simp only [List.map_cons, List.cons.injEq] at h
      rw [lo8_inj (hc x (by simp)) (hd y (by simp)) h.1, ih (fun z hz => hc z (by simp [hz])) (fun z hz => hd z (by simp [hz])) h.2]
theorem latB_eq (cs : List Int32) : latB cs = chV (cs.map fun x => x.toInt8.toInt32) := by simp [latB, chV, lo8]
theorem chV_inj {xs ys : List Int32} (h : chV xs = chV ys) : xs = ys := by
  induction xs generalizing ys with
  | nil => cases ys with
    | nil => rfl
    | cons y ys => simp at h
  | cons x xs ih => cases ys with
    | nil => simp at h
    | cons y ys =>
      simp only [chV, List.map_cons, List.cons.injEq, Value.int.injEq] at h
      rw [h.1, ih h.2]
theorem StrL.uniq {Z : State} {h : Heap} {a b b' : Addr} {c c' cb cb' : Cell} {cs ds : List Int32} (S : StrL Z c b cb cs) (S' : StrL Z c' b' cb' ds) (h1 : h[a]? = some c) (h2 : h[a]? = some c') (h3 : h[b]? = some cb) (h4 : h[b']? = some cb') : cs = ds := by
  cases h1.symm.trans h2
  have e : b = b' := Value.ref.inj (S.2.2.1.uniq S'.2.2.1)
  subst e
  cases h3.symm.trans h4
  have q : latB cs = latB ds := S.2.2.2.1.2.2.1.symm.trans S'.2.2.2.1.2.2.1
  rw [latB_eq, latB_eq] at q
  exact latB_inj S.2.2.2.2 S'.2.2.2.2 (chV_inj q)

theorem len0 {Z : State} {cb : Cell} {cs : List Int32} (A : ArrC Z cb .byte (latB cs)) (h : cs.length.toInt32 = 0) : cs = [] := by
  have hn : cs.length < 2147483648 := by have := A.2.2.2.2; rwa [latB, List.length_map] at this
  have := (i32_inj hn (n := 0) (by decide)).mp h
  exact List.length_eq_zero_iff.mp this
theorem shr0 (x : Int32) : x >>> ((0 : Int32) &&& 31) = x := by
  apply Int32.toInt_inj.mp
  rw [c_ishr x 0 0 (by decide)]
  simp
/-! ## own: UTF-16 Strings -/
abbrev hi8 (x : Int32) : Value := .int (x >>> ((8 : Int32) &&& 31)).toInt8.toInt32
def utfB : List Int32 → List Value
  | [] => []
  | x :: r => lo8 x :: hi8 x :: utfB r
def Chr (cs : List Int32) : Prop := ∀ x ∈ cs, ¬ x < 0 ∧ ¬ (65535 : Int32) < x
theorem Chr.nil : Chr [] := fun _ h => nomatch h
theorem Chr.cons {x : Int32} {cs : List Int32} (h : ¬ x < 0 ∧ ¬ (65535 : Int32) < x) (r : Chr cs) : Chr (x :: cs) := fun y hy => by
  rcases List.mem_cons.mp hy with rfl | hy
  · exact h
  · exact r y hy
theorem Lat.chr {cs : List Int32} (h : Lat cs) : Chr cs := fun x hx => lat_char (h x hx)
theorem utfB_len : ∀ cs : List Int32, (utfB cs).length = 2 * cs.length
  | [] => rfl
  | x :: r => by simp only [utfB, List.length_cons, utfB_len r]; omega
theorem utfB_app : ∀ a b : List Int32, utfB (a ++ b) = utfB a ++ utfB b
  | [], b => rfl
  | x :: r, b => by simp only [utfB, List.cons_append, utfB_app r b]
theorem utfB_get : ∀ {cs : List Int32} {i : Nat} {x : Int32}, cs[i]? = some x → (utfB cs)[2 * i]? = some (lo8 x) ∧ (utfB cs)[2 * i + 1]? = some (hi8 x)
  | y :: r, 0, x, h => by simp at h; subst h; exact ⟨rfl, rfl⟩
  | y :: r, i + 1, x, h => by
    have h' : r[i]? = some x := by simpa using h
    have := utfB_get h'
    rw [show 2 * (i + 1) = 2 * i + 2 by omega, show 2 * i + 2 + 1 = (2 * i + 1) + 2 by omega]
    simpa [utfB] using this
theorem set2_next {cs : List Int32} {i j : Nat} {x : Int32} (hx : cs[i]? = some x) : ((utfB (cs.take i) ++ List.replicate (2 * (j + 1)) (.int 0 : Value)).set (2 * i) (lo8 x)).set (2 * i + 1) (hi8 x) = utfB (cs.take (i + 1)) ++ List.replicate (2 * j) (.int 0) := by
  have hi : i < cs.length := (List.getElem?_eq_some_iff.mp hx).1
  have hl : (utfB (cs.take i)).length = 2 * i := by rw [utfB_len, List.length_take]; omega
  rw [List.set_append_right _ _ (by omega), hl, Nat.sub_self, show 2 * (j + 1) = (2 * j + 1) + 1 by omega, List.replicate_succ, List.set_cons_zero, List.set_append_right _ _ (by omega), hl, show 2 * i + 1 - 2 * i = 0 + 1 by omega, List.set_cons_succ, List.replicate_succ, List.set_cons_zero, take_succ' hx, utfB_app]
  simp [utfB]
theorem shl1 {i : Nat} (hi : 2 * i < 2147483648) : i.toInt32 <<< ((1 : Int32) &&& 31) = (2 * i).toInt32 := by
  apply Int32.toInt_inj.mp
  have h := c_ishl i.toInt32 1 1 (by decide)
  rw [i32_toInt (by omega)] at h
  rw [i32_toInt hi]
  have r := rng32 (i.toInt32 <<< ((1 : Int32) &&& 31))
  simp only [Nat.reducePow] at h
  omega
theorem shr1 {i : Nat} (hi : 2 * i < 2147483648) : (2 * i).toInt32 >>> ((1 : Int32) &&& 31) = i.toInt32 := by
  apply Int32.toInt_inj.mp
  rw [c_ishr _ 1 1 (by decide), i32_toInt hi, i32_toInt (by omega)]
  simp only [Nat.reducePow]
  omega
theorem shl0 (x : Int32) : x <<< ((0 : Int32) &&& 31) = x := by
  apply Int32.toInt_inj.mp
  have h := c_ishl x 0 0 (by decide)
  have r := rng32 (x <<< ((0 : Int32) &&& 31))
  have r' := rng32 x
  simp only [Nat.reducePow] at h
  omega
/-- the two bytes of a char make the char -/
theorem getch {x : Int32} (hx : ¬ x < 0 ∧ ¬ (65535 : Int32) < x) : (((x.toInt8.toInt32 &&& 255) <<< ((0 : Int32) &&& 31)) ||| (((x >>> ((8 : Int32) &&& 31)).toInt8.toInt32 &&& 255) <<< ((8 : Int32) &&& 31))) = x := by
  rw [shl0]
  apply Int32.toInt_inj.mp
  obtain ⟨h0, h1⟩ := hx
  rw [Int32.lt_iff_toInt_lt] at h0 h1
  have e0 : (0 : Int32).toInt = 0 := by decide
  have e1 : (65535 : Int32).toInt = 65535 := by decide
  rw [e0] at h0
  rw [e1] at h1
  have ha := c_mask x.toInt8.toInt32 255 8 (by decide) (by decide)
  have hb := c_mask (x >>> ((8 : Int32) &&& 31)).toInt8.toInt32 255 8 (by decide) (by decide)
  have hba := c_i2b x
  have hbb := c_i2b (x >>> ((8 : Int32) &&& 31))
  have hs := c_ishr x 8 8 (by decide)
  simp only [Nat.reducePow] at ha hb hs
  have hl := c_ishl ((x >>> ((8 : Int32) &&& 31)).toInt8.toInt32 &&& 255) 8 8 (by decide)
  have rl := rng32 (((x >>> ((8 : Int32) &&& 31)).toInt8.toInt32 &&& 255) <<< ((8 : Int32) &&& 31))
  simp only [Nat.reducePow] at hl
  have ho := c_or' (x.toInt8.toInt32 &&& 255) (((x >>> ((8 : Int32) &&& 31)).toInt8.toInt32 &&& 255) <<< ((8 : Int32) &&& 31)) 8 (by decide) 256 (by decide) (by omega) (by omega) (by omega)
  have ro := rng32 ((x.toInt8.toInt32 &&& 255) ||| (((x >>> ((8 : Int32) &&& 31)).toInt8.toInt32 &&& 255) <<< ((8 : Int32) &&& 31)))
  omega
/-- a UTF-16 String's two cells -/
def StrU (Z : State) (c : Cell) (b : Addr) (cb : Cell) (cs : List Int32) : Prop :=
  ObjC Z c "java/lang/String" ∧ FldC Z c "java/lang/String" "coder" "B" (.int 1) ∧ FldC Z c "java/lang/String" "value" "[B" (.ref b) ∧ ArrC Z cb .byte (utfB cs) ∧ Chr cs
/-- a String's two cells, of either kind -/
def StrG (Z : State) (c : Cell) (b : Addr) (cb : Cell) (cs : List Int32) : Prop := StrL Z c b cb cs ∨ StrU Z c b cb cs
theorem eqI {args : Array Value} {s : State} {t : Term} {v : Int32} (h : (Jvm.Cond.eq t (Term.int v)).value args s none s [] = some true) : t.eval args s none [] s = some (.int v) := by
  obtain ⟨x, y, h1, h2, -, h4⟩ := cmp_v (Or.inl h)
  cases (Term.int_eval v).symm.trans h2
  obtain ⟨z, rfl⟩ := h4
  rw [Cond.value, h1, Term.int_eval] at h
  simp at h
  rw [h1, h]
/-- where the first sign above 255 stands, if there is one -/
def Upto (cs : List Int32) (k : Nat) : Prop := (k = cs.length ∧ Lat cs) ∨ (k < cs.length ∧ ∃ x, cs[k]? = some x ∧ (255 : Int32) < x)
theorem coder_u {n : Nat} (h0 : 0 < n) (hn : n < 65536) : nar .byte ((n.toInt32 - (2 * n).toInt32).toUInt32 >>> ((31 : Int32) &&& 31).toUInt32).toInt32.toInt8.toInt32 = 1 := by
  have e : ((n.toInt32 - (2 * n).toInt32).toUInt32 >>> ((31 : Int32) &&& 31).toUInt32).toInt32 = 1 := by
    apply Int32.toInt_inj.mp
    rw [c_iushr _ 31 31 (by decide) (by decide)]
    have h := c_isub n.toInt32 (2 * n).toInt32
    have r := rng32 (n.toInt32 - (2 * n).toInt32)
    rw [i32_toInt (by omega), i32_toInt (by omega)] at h
    have e1 : (1 : Int32).toInt = 1 := by decide
    rw [e1]
    simp only [Nat.reducePow]
    omega
  rw [e]; decide
theorem StrG.obj {Z : State} {c : Cell} {b : Addr} {cb : Cell} {cs : List Int32} (S : StrG Z c b cb cs) : ObjC Z c "java/lang/String" := S.elim (·.1) (·.1)
theorem i32_big {n : Nat} (hn : n < 65536) : n.toInt32 < (1073741823 : Int32) := by
  have h := i32_toInt (i := n) (by omega)
  have e : (1073741823 : Int32).toInt = 1073741823 := by decide
  rw [Int32.lt_iff_toInt_lt, h, e]
  omega
/-! ## own: arrays of references, old arrays -/
section RefArr
variable {l : Launch} {Z : State} {a0 : Array Value} {EL : List (String × Nat)} {R : Room} {own : String} {bytes : ByteArray} {maxL : Nat} {ret : Option FieldType} {nm : String} {X : Ctx} {σ ρ : HL} {T : State} {k n K N : Nat} {Q : Option Value → HL → HL → Prop} {pc pc' : Nat} {Ls : Array Slot} {st : List Value} {a y : Addr} {c cy : Cell} {vs : List Value}
theorem Go.anewarr (W : Wk l Z EL R own bytes maxL ret nm X σ ρ T k n) {C : String} {ix : Nat} {z : Int32} (len : Nat) (w1 : (Jvm.Cond.classLink own ix C).before a0 Z = true) (w2 : (Jvm.Cond.arrayOver (.object C)).before a0 Z = true) (hd : decode bytes pc = .ok (.anewarray ix, 3)) (hp : pc + 3 = pc')
    (hz : ¬ z < 0) (hl : z.toNatClampNeg = len) (hb : len * 8 ≤ 536870912) (hk : k + 1 ≤ R.cells) (hn : n + len ≤ R.slots)
    (r : ∀ (T' : State) (a : Addr) (c : Cell), Wk l Z EL R own bytes maxL ret nm X ((a, c) :: σ) ρ T' (k + 1) (n + len) → ArrC Z c (.object C) (List.replicate len .null) → Ovr Z c.cls C → Go Z EL K N Q X T' pc' Ls (.ref a :: st)) :
    Go Z EL K N Q X T pc Ls (.int z :: st) := by
  obtain ⟨w0, vm0, k0, locs, Y, hS, hk0, hZ, hown, hFr, H⟩ := W
  obtain ⟨T', h', cA, Y', e', E, A, O, stp⟩ := newR Y w0.1 hZ hown w1 w2 rfl (g := mkF X.m pc Ls (.int z :: st)) rfl (by rw [w0.2.1]; exact hd) rfl hz (cap := len) (Nat.le_of_eq hl) hb hk hn
  subst e' hp
  have hfd : ∀ v ∈ List.replicate len (Value.null), fits (.object C) v = true := fun v hv => by rw [(List.mem_replicate.mp hv).2]; rfl
  exact Go.by stp (r T' T.heap.size _ ⟨w0, vm0, k0, locs, Y', hS, Nat.le_trans hk0 E.1, hZ, hown, hFr, H.alloc E A.1⟩ ⟨A.2.1, A.2.2, by simp [newA, hl, defaultValue], hfd, by simp; omega⟩ O)
theorem Go.aastoreObj (W : Wk l Z EL R own bytes maxL ret nm X σ ρ T k n) (ix : Nat) (hm : σ[ix]? = some (a, c)) {C D : String} (A : ArrC Z c (.object D) vs) (O : Ovr Z c.cls C) (hmy : (y, cy) ∈ σ ∨ (y, cy) ∈ ρ ∨ Z.heap[y]? = some cy) (Oy : ObjC Z cy C) {j : Int32} (i : Nat) (hj : ¬ j < 0) (hi : j.toNatClampNeg = i) (hl : i < vs.length) (hd : decode bytes pc = .ok (.aastore, 1)) (hp : pc + 1 = pc')
    (r : ∀ (T' : State) (c' : Cell), Wk l Z EL R own bytes maxL ret nm X (σ.set ix (a, c')) ρ T' k n → ArrC Z c' (.object D) (vs.set i (.ref y)) → Ovr Z c'.cls C → Go Z EL K N Q X T' pc' Ls st) : Go Z EL K N Q X T pc Ls (.ref y :: .int j :: .ref a :: st) := by
  have hc := W.cell (Or.inl (List.mem_of_getElem? hm))
  have hcy := W.cell hmy
  exact Go.aastore W ix hm A rfl i hj hi hl rfl (Sto.of (A.arr hc) O (Ins.self (Oy.exa hcy))) hd hp fun T' c' W' A' e' => r T' c' W' A' (e' ▸ O)
/-- an array that stood at the start, its components known -/
theorem arrC_old {cl : Cell} {ty : FieldType} (hf : Fit Z) (A : Arr Z Z.heap a cl ty) (hl : cl.slots.size = vs.length) (he : ∀ i, i < vs.length → cl.slots[i]? = vs[i]?) (hb : vs.length < 2147483648) : ArrC Z cl ty vs := by
  have e : cl.slots.toList = vs := by
    apply List.ext_getElem?
    intro i
    by_cases q : i < vs.length
    · rw [Array.getElem?_toList]; exact he i q
    · rw [Array.getElem?_toList, Array.getElem?_eq_none (by omega), List.getElem?_eq_none (by omega)]
  refine ⟨A.2.1, A.2.2, e, fun v hv => ?_, hb⟩
  obtain ⟨i, hi⟩ := List.mem_iff_getElem?.mp hv
  have hlt := (List.getElem?_eq_some_iff.mp hi).1
  refine elem_fits (j := i.toInt32) hf A ?_ ?_
  · rw [i32_clamp (by omega), hl]
    rintro (q | q)
    · exact i32_nn (by omega) q
    · omega
  · rw [i32_clamp (by omega), he i hlt, hi]
end RefArr
/-! ## own: facts on what stood at the start, out of the case's own words; the clone of an array -/
section OldFacts
variable {Z : State} {args : Array Value} {t u : Term} {a : Addr} {c : Cell} {C n d : String} {ty : FieldType} {v : Value} {vs : List Value}
theorem objC_start (hx : (Jvm.Cond.exactly t C).value args Z none Z [] = some true) : ∃ a c, t.eval args Z none [] Z = some (.ref a) ∧ Z.heap[a]? = some c ∧ ObjC Z c C := by
  obtain ⟨a, ev⟩ := exa_v hx
  have E := Exa.start ev hx
  obtain ⟨c, k, h0, h⟩ := E
  exact ⟨a, c, ev, h0, k, h⟩
theorem fldC_start (ev : t.eval args Z none [] Z = some (.ref a)) (hc : Z.heap[a]? = some c) (e : (Term.field t C n d).eval args Z none [] Z = some v) : FldC Z c C n d v :=
  FldC.of (Fld.start ((fld_at ev) ▸ e)) hc
theorem eqR (h : (Jvm.Cond.eq t u).value args Z none Z [] = some true) (hu : u.eval args Z none [] Z = some (.ref a)) : t.eval args Z none [] Z = some (.ref a) := by
  obtain ⟨x, y, h1, h2, h3, h4⟩ := cmp_v (Or.inl h)
  cases hu.symm.trans h2
  rw [Cond.value, h1, hu] at h
  cases x <;> simp at h
  rw [h1, h]
/-- the components, one by one -/
def Els (Z : State) (args : Array Value) (t : Term) : Nat → List Value → Prop
  | _, [] => True
  | k, v :: vs => (Term.elem t (Term.int k.toInt32)).eval args Z none [] Z = some v ∧ Els Z args t (k + 1) vs
theorem Els.get : ∀ (vs : List Value) (k : Nat), Els Z args t k vs → ∀ i v, vs[i]? = some v → (Term.elem t (Term.int (k + i).toInt32)).eval args Z none [] Z = some v
  | [], k, h, i, v, hv => by simp at hv
  | w :: vs, k, h, 0, v, hv => by
    obtain rfl : w = v := by simpa using hv
    exact h.1
  | w :: vs, k, h, i + 1, v, hv => by
    have := Els.get vs (k + 1) h.2 i v (by simpa using hv)
    rwa [show k + 1 + i = k + (i + 1) by omega] at this
theorem arrC_start (hf : Fit Z) (ev : t.eval args Z none [] Z = some (.ref a)) (hc : Z.heap[a]? = some c) (hx : (Jvm.Cond.arrayOf t ty).value args Z none Z [] = some true) {z : Int32} (hl : (Term.length t).eval args Z none [] Z = some (.int z)) (vs : List Value) (hz : vs.length.toInt32 = z) (hb : vs.length < 2147483648) (he : Els Z args t 0 vs) : ArrC Z c ty vs := by
  obtain ⟨c', A⟩ := Arr.start ev hx
  cases hc.symm.trans A.1
  obtain ⟨b, cell, e1, e2, e3, e4⟩ := Jvm.Lib.length_spec hl
  cases ev.symm.trans e1
  have e5 : Z.heap[a]? = some cell := (Jvm.Lib.arrayAt_spec e2).1
  cases hc.symm.trans e5
  have hs : c.slots.size = vs.length := by
    have q := Value.int.inj e4
    rw [← hz] at q
    exact ((i32_inj hb (by omega)).mp q).symm
  refine arrC_old hf A hs (fun i hi => ?_) hb
  have hv : vs[i]? = some vs[i] := List.getElem?_eq_getElem hi
  have q := (elem_in (Els.get vs 0 he i _ hv) ev (Term.int_eval _) hc).2
  rw [Nat.zero_add, i32_clamp (by omega)] at q
  rw [q, hv]
end OldFacts
section CloneLaw
variable {l : Launch} {Z : State} {a0 : Array Value} {EL : List (String × Nat)} {R : Room} {own : String} {bytes : ByteArray} {maxL : Nat} {ret : Option FieldType} {nm : String} {X : Ctx} {σ ρ : HL} {T : State} {k n K N : Nat} {Q : Option Value → HL → HL → Prop} {pc pc' : Nat} {Ls : Array Slot} {st : List Value} {a : Addr} {c : Cell} {vs : List Value}
theorem Go.clone (W : Wk l Z EL R own bytes maxL ret nm X σ ρ T k n) (hm : (a, c) ∈ σ ∨ (a, c) ∈ ρ ∨ Z.heap[a]? = some c) {ad : String} {ty : FieldType} {ix : Nat} (A : ArrC Z c ty vs) (O : ObjC Z c ad)
    (w1 : (Jvm.Cond.methodLink own ix ⟨ad, "clone", "()Ljava/lang/Object;"⟩).before a0 Z = true) (w2 : (Jvm.Cond.sameMethod ad "java/lang/Object" "clone" "()Ljava/lang/Object;").before a0 Z = true) (w3 : (Jvm.Cond.native ⟨"java/lang/Object", "clone", "()Ljava/lang/Object;"⟩).before a0 Z = true)
    (w4 : (Jvm.Cond.instanceMethod ⟨"java/lang/Object", "clone", "()Ljava/lang/Object;"⟩).before a0 Z = true) (w5 : (Jvm.Cond.selects ad ⟨ad, "clone", "()Ljava/lang/Object;"⟩ ⟨"java/lang/Object", "clone", "()Ljava/lang/Object;"⟩).before a0 Z = true) (w6 : (Jvm.Cond.castable ad "java/lang/Cloneable").before a0 Z = true)
    (hLs : Ls.size = maxL) (hd : decode bytes pc = .ok (.invokevirtual ix, 3)) (hp : pc + 3 = pc') (hf : 1 ≤ R.frames) (hl : (st.map fun v => v.category).sum + 14 ≤ R.locals) (hk : k + 1 ≤ R.cells) (hn : n + vs.length ≤ R.slots)
    (r : ∀ (T' : State) (a' : Addr) (c' : Cell), Wk l Z EL R own bytes maxL ret nm X ((a', c') :: σ) ρ T' (k + 1) (n + vs.length) → ArrC Z c' ty vs → ObjC Z c' ad → Go Z EL K N Q X T' pc' Ls (.ref a' :: st)) :
    Go Z EL K N Q X T pc Ls (.ref a :: st) := by
  have hc := W.cell hm
  obtain ⟨w0, vm0, k0, locs, Y, hS, hk0, hZ, hown, hFr, H⟩ := W
  have F : FitC Z c := fitC_of (A.arr hc) fun i hi v hv => A.2.2.2.1 v (by rw [A.get] at hv; exact List.mem_of_getElem? hv)
  obtain ⟨T', h', Y', e', E, A', O', stp⟩ := cloneA Y w0.1 hZ hown w1 w2 w3 w4 w5 w6 rfl (A.arr hc) (O.exa hc) F (g := mkF X.m pc Ls (.ref a :: st)) rfl (by show Ls.size = _; rw [hLs, w0.2.2.1]) (rest := st) rfl (by rw [w0.2.1]; exact hd) hf (W := (st.map fun v => v.category).sum) (by show 2 * 0 + _ ≤ _; omega) hl (cap := vs.length) (Nat.le_of_eq A.size) hk hn
  subst e' hp
  exact Go.by stp (r T' T.heap.size _ ⟨w0, vm0, k0, locs, Y', hS, Nat.le_trans hk0 E.1, hZ, hown, hFr, H.alloc E A'.1⟩ ⟨A'.2.1, A'.2.2, A.2.2.1, A.2.2.2.1, A.2.2.2.2⟩ (ObjC.of O' A'.1))
end CloneLaw
abbrev EL1 : List (String × Nat) := consts_1
def Cl (Z : State) (a0 : Array Value) : Prop := (∀ d ∈ tables_1, d.before a0 Z = true) ∧ EW Z a0 EL1 ∧ (∃ cv : Int32, Sta Z Z.heap "java/lang/String" "COMPACT_STRINGS" "Z" (.int cv) ∧ ¬ cv = 0) ∧ (∃ fv : Value, Sta Z Z.heap "jdk/internal/util/Preconditions" "SIOOBE_FORMATTER" "Ljava/util/function/BiFunction;" fv ∧ fv.isRef = true) ∧ True
theorem strAtoms {Z : State} {a0 : Array Value} (G : Cl Z a0) : ∀ d ∈ Bundle.stringAtoms, d.before a0 Z = true := fun d hd => G.1 d ((by decide +kernel : ∀ d ∈ Bundle.stringAtoms, d ∈ tables_1) d hd)
theorem d_jdk_52_method_21_code_0 : decode jdk_52_method_21_code 0 = .ok (.iconst 0, 1) := by decide +kernel
theorem d_jdk_52_method_21_code_1 : decode jdk_52_method_21_code 1 = .ok (.istore 5, 2) := by decide +kernel
theorem d_jdk_52_method_21_code_3 : decode jdk_52_method_21_code 3 = .ok (.iload 5, 2) := by decide +kernel
theorem d_jdk_52_method_21_code_5 : decode jdk_52_method_21_code 5 = .ok (.iload 4, 2) := by decide +kernel
theorem d_jdk_52_method_21_code_7 : decode jdk_52_method_21_code 7 = .ok (.if_icmp .ge 37, 3) := by decide +kernel
theorem d_jdk_52_method_21_code_10 : decode jdk_52_method_21_code 10 = .ok (.aload_n 0, 1) := by decide +kernel
theorem d_jdk_52_method_21_code_11 : decode jdk_52_method_21_code 11 = .ok (.iload_n 1, 1) := by decide +kernel
theorem d_jdk_52_method_21_code_12 : decode jdk_52_method_21_code 12 = .ok (.caload, 1) := by decide +kernel
theorem d_jdk_52_method_21_code_13 : decode jdk_52_method_21_code 13 = .ok (.istore 6, 2) := by decide +kernel
theorem d_jdk_52_method_21_code_15 : decode jdk_52_method_21_code 15 = .ok (.iload 6, 2) := by decide +kernel
theorem d_jdk_52_method_21_code_17 : decode jdk_52_method_21_code 17 = .ok (.sipush 255, 3) := by decide +kernel
theorem d_jdk_52_method_21_code_20 : decode jdk_52_method_21_code 20 = .ok (.if_icmp .le 6, 3) := by decide +kernel
theorem d_jdk_52_method_21_code_23 : decode jdk_52_method_21_code 23 = .ok (.iload 5, 2) := by decide +kernel
theorem d_jdk_52_method_21_code_25 : decode jdk_52_method_21_code 25 = .ok (.ireturn, 1) := by decide +kernel
theorem d_jdk_52_method_21_code_26 : decode jdk_52_method_21_code 26 = .ok (.aload_n 2, 1) := by decide +kernel
theorem d_jdk_52_method_21_code_27 : decode jdk_52_method_21_code 27 = .ok (.iload_n 3, 1) := by decide +kernel
theorem d_jdk_52_method_21_code_28 : decode jdk_52_method_21_code 28 = .ok (.iload 6, 2) := by decide +kernel
theorem d_jdk_52_method_21_code_30 : decode jdk_52_method_21_code 30 = .ok (.i2b, 1) := by decide +kernel
theorem d_jdk_52_method_21_code_31 : decode jdk_52_method_21_code 31 = .ok (.bastore, 1) := by decide +kernel
theorem d_jdk_52_method_21_code_32 : decode jdk_52_method_21_code 32 = .ok (.iinc 1 1, 3) := by decide +kernel
theorem d_jdk_52_method_21_code_35 : decode jdk_52_method_21_code 35 = .ok (.iinc 3 1, 3) := by decide +kernel
theorem d_jdk_52_method_21_code_38 : decode jdk_52_method_21_code 38 = .ok (.iinc 5 1, 3) := by decide +kernel
theorem d_jdk_52_method_21_code_41 : decode jdk_52_method_21_code 41 = .ok (.goto (-38), 3) := by decide +kernel
theorem d_jdk_52_method_21_code_44 : decode jdk_52_method_21_code 44 = .ok (.iload 4, 2) := by decide +kernel
theorem d_jdk_52_method_21_code_46 : decode jdk_52_method_21_code 46 = .ok (.ireturn, 1) := by decide +kernel
theorem lp_cmp5 {l : Launch} {Z : State} {X : Ctx} {ac b : Addr} {cc : Cell} {cs : List Int32} (A : ArrC Z cc .char (chV cs)) (hl : Lat cs) (hn : cs.length < 2147483648) :
    ∀ (j i : Nat), i + j = cs.length → ∀ (o6 : Slot), One o6 → ∀ (T : State) (cb : Cell), Wk l Z EL1 ({ frames := 0, cells := 0, slots := 0, locals := 0 } : Room) "java/lang/StringUTF16" jdk_52_method_21_code 7 (some .int) "compress" X [(ac, cc), (b, cb)] [] T 0 0 → ArrC Z cb .byte (latB (cs.take i) ++ List.replicate j (.int 0)) →
      Go Z EL1 0 0 (fun v σ ρ => ∃ cb', v = some (.int cs.length.toInt32) ∧ σ = [(ac, cc), (b, cb')] ∧ ρ = [] ∧ ArrC Z cb' .byte (latB cs)) X T 3 #[.val (.ref ac), .val (.int i.toInt32), .val (.ref b), .val (.int i.toInt32), .val (.int cs.length.toInt32), .val (.int i.toInt32), o6] []
  | 0, i, hij, o6, ho, T, cb, W, B => by
    obtain rfl : i = cs.length := by omega
    refine Go.iload (pc' := 5) W d_jdk_52_method_21_code_3 rfl rfl ?_
    refine Go.iload (pc' := 7) W d_jdk_52_method_21_code_5 rfl rfl ?_
    refine Go.icmp_ge (pc' := 10) W 44 d_jdk_52_method_21_code_7 (by decide) rfl (fun _ => ?_) (fun q => absurd q (by rw [i32_lt hn hn]; omega))
    refine Go.iload (pc' := 46) W d_jdk_52_method_21_code_44 rfl rfl ?_
    refine Go.iret W d_jdk_52_method_21_code_46 (by decide) (by decide) ⟨cb, rfl, rfl, rfl, ?_⟩
    simpa using B
  | j + 1, i, hij, o6, ho, T, cb, W, B => by
    have hi : i < cs.length := by omega
    obtain ⟨x, hx⟩ : ∃ x, cs[i]? = some x := ⟨_, List.getElem?_eq_getElem hi⟩
    have hL := hl x (List.mem_of_getElem? hx)
    have hlen : i < (latB (cs.take i) ++ List.replicate (j + 1) (.int 0 : Value)).length := by simp; omega
    refine Go.iload (pc' := 5) W d_jdk_52_method_21_code_3 rfl rfl ?_
    refine Go.iload (pc' := 7) W d_jdk_52_method_21_code_5 rfl rfl ?_
    refine Go.icmp_ge (pc' := 10) W 44 d_jdk_52_method_21_code_7 (by decide) rfl (fun q => absurd ((i32_lt (by omega) hn).mpr hi) q) (fun _ => ?_)
    refine Go.aloadN (pc' := 11) W d_jdk_52_method_21_code_10 rfl rfl rfl ?_
    refine Go.iloadN (pc' := 12) W d_jdk_52_method_21_code_11 rfl rfl ?_
    refine Go.caload (pc' := 13) W (Or.inl (List.mem_of_getElem? (i := 0) rfl)) A i (i32_nn (by omega)) (i32_clamp (by omega)) (v := .int x) (by rw [chV, List.getElem?_map, hx]; rfl) d_jdk_52_method_21_code_12 rfl ?_
    refine Go.istore (pc' := 15) W #[.val (.ref ac), .val (.int i.toInt32), .val (.ref b), .val (.int i.toInt32), .val (.int cs.length.toInt32), .val (.int i.toInt32), .val (.int x)] d_jdk_52_method_21_code_13 (XS.store1 (o := o6) rfl ho rfl) rfl ?_
    refine Go.iload (pc' := 17) W d_jdk_52_method_21_code_15 rfl rfl ?_
    refine Go.sipush (pc' := 20) W (255 : Int32) d_jdk_52_method_21_code_17 (by decide) rfl ?_
    refine Go.icmp_le (pc' := 23) W 26 d_jdk_52_method_21_code_20 (by decide) rfl (fun _ => ?_) (fun q => absurd q hL.2)
    refine Go.aloadN (pc' := 27) W d_jdk_52_method_21_code_26 rfl rfl rfl ?_
    refine Go.iloadN (pc' := 28) W d_jdk_52_method_21_code_27 rfl rfl ?_
    refine Go.iload (pc' := 30) W d_jdk_52_method_21_code_28 rfl rfl ?_
    refine Go.i2b (pc' := 31) W d_jdk_52_method_21_code_30 rfl ?_
    refine Go.bastore (pc' := 32) W 1 rfl B i (i32_nn (by omega)) (i32_clamp (by omega)) hlen d_jdk_52_method_21_code_31 rfl (fun T2 cb2 W2 B2 => ?_)
    rw [i8_i8, set_next hx] at B2
    refine Go.iinc (pc' := 35) W2 (1 : Int32) #[.val (.ref ac), .val (.int (i.toInt32 + 1)), .val (.ref b), .val (.int i.toInt32), .val (.int cs.length.toInt32), .val (.int i.toInt32), .val (.int x)] d_jdk_52_method_21_code_32 rfl (by decide) rfl rfl ?_
    refine Go.iinc (pc' := 38) W2 (1 : Int32) #[.val (.ref ac), .val (.int (i.toInt32 + 1)), .val (.ref b), .val (.int (i.toInt32 + 1)), .val (.int cs.length.toInt32), .val (.int i.toInt32), .val (.int x)] d_jdk_52_method_21_code_35 rfl (by decide) rfl rfl ?_
    refine Go.iinc (pc' := 41) W2 (1 : Int32) #[.val (.ref ac), .val (.int (i.toInt32 + 1)), .val (.ref b), .val (.int (i.toInt32 + 1)), .val (.int cs.length.toInt32), .val (.int (i.toInt32 + 1)), .val (.int x)] d_jdk_52_method_21_code_38 rfl (by decide) rfl rfl ?_
    refine Go.goto W2 3 d_jdk_52_method_21_code_41 (by decide) ?_
    rw [i32_succ (by omega)]
    exact lp_cmp5 A hl hn j (i + 1) (by omega) _ (One.val rfl) T2 cb2 W2 B2
theorem pn_0 : plainName "java/lang/StringUTF16" = true := by first | (simp [plainName, overriddenIn]; done) | decide +kernel
theorem rm_cmp5 {l : Launch} {Z : State} {a0 : Array Value} (G : Cl Z a0) (ac b : Addr) (cc cb : Cell) (cs : List Int32) (A : ArrC Z cc .char (chV cs)) (hl : Lat cs) (hn : cs.length < 2147483648) (B : ArrC Z cb .byte (List.replicate cs.length (.int 0))) :
    Met l Z EL1 (⟨"java/lang/StringUTF16", "compress", "([CI[BII)I"⟩ : MethodName) jdk_52_method_21_code 7 (some .int) ({ frames := 0, cells := 0, slots := 0, locals := 0 } : Room) #[.ref ac, .int 0, .ref b, .int 0, .int cs.length.toInt32] [(ac, cc), (b, cb)] [] (fun v σ ρ => ∃ cb', v = some (.int cs.length.toInt32) ∧ σ = [(ac, cc), (b, cb')] ∧ ρ = [] ∧ ArrC Z cb' .byte (latB cs)) := by
  refine Met.walk G.2.1 pn_0 #[.val (.ref ac), .val (.int 0), .val (.ref b), .val (.int 0), .val (.int cs.length.toInt32), .unset, .unset] (fun m => by first | (simp [entryFrame, mkF, argsToLocals, Value.category]; done) | rfl) ?_
  intro X T W
  refine Go.iconst (pc' := 1) W (0 : Int32) d_jdk_52_method_21_code_0 (by decide) rfl ?_
  refine Go.istore (pc' := 3) W #[.val (.ref ac), .val (.int 0), .val (.ref b), .val (.int 0), .val (.int cs.length.toInt32), .val (.int 0), .unset] d_jdk_52_method_21_code_1 rfl rfl ?_
  exact lp_cmp5 A hl hn cs.length 0 (by omega) .unset One.u T cb W (by simpa using B)
theorem d_jdk_52_method_16_code_0 : decode jdk_52_method_16_code 0 = .ok (.iload_n 2, 1) := by decide +kernel
theorem w_24 {Z : State} {a0 : Array Value} (G : Cl Z a0) : (Jvm.Cond.arrayClass .byte).before a0 Z = true := G.1 _ (List.mem_of_getElem? (l := tables_1) (i := 24) rfl)
theorem d_jdk_52_method_16_code_1 : decode jdk_52_method_16_code 1 = .ok (.newarray .byte, 2) := by decide +kernel
theorem d_jdk_52_method_16_code_3 : decode jdk_52_method_16_code 3 = .ok (.astore_n 3, 1) := by decide +kernel
theorem d_jdk_52_method_16_code_4 : decode jdk_52_method_16_code 4 = .ok (.aload_n 0, 1) := by decide +kernel
theorem d_jdk_52_method_16_code_5 : decode jdk_52_method_16_code 5 = .ok (.iload_n 1, 1) := by decide +kernel
theorem d_jdk_52_method_16_code_6 : decode jdk_52_method_16_code 6 = .ok (.aload_n 3, 1) := by decide +kernel
theorem d_jdk_52_method_16_code_7 : decode jdk_52_method_16_code 7 = .ok (.iconst 0, 1) := by decide +kernel
theorem d_jdk_52_method_16_code_8 : decode jdk_52_method_16_code 8 = .ok (.iload_n 2, 1) := by decide +kernel
theorem w_25 {Z : State} {a0 : Array Value} (G : Cl Z a0) : (Jvm.Cond.methodLink "java/lang/StringUTF16" 115 (⟨"java/lang/StringUTF16", "compress", "([CI[BII)I"⟩ : MethodName)).before a0 Z = true := G.1 _ (List.mem_of_getElem? (l := tables_1) (i := 25) rfl)
theorem w_26 {Z : State} {a0 : Array Value} (G : Cl Z a0) : (Jvm.Cond.static (⟨"java/lang/StringUTF16", "compress", "([CI[BII)I"⟩ : MethodName)).before a0 Z = true := G.1 _ (List.mem_of_getElem? (l := tables_1) (i := 26) rfl)
theorem w_22 {Z : State} {a0 : Array Value} (G : Cl Z a0) : (Jvm.Cond.initialized "java/lang/StringUTF16").before a0 Z = true := G.1 _ (List.mem_of_getElem? (l := tables_1) (i := 22) rfl)
theorem w_27 {Z : State} {a0 : Array Value} (G : Cl Z a0) : (Jvm.Cond.code (⟨"java/lang/StringUTF16", "compress", "([CI[BII)I"⟩ : MethodName) jdk_52_method_21_code 7 (some .int)).before a0 Z = true := G.1 _ (List.mem_of_getElem? (l := tables_1) (i := 27) rfl)
theorem pd_1 : parseMethodDescriptor "([CI[BII)I" = some ⟨[(.array .char), .int, (.array .byte), .int, .int], some .int⟩ := by decide +kernel
theorem d_jdk_52_method_16_code_9 : decode jdk_52_method_16_code 9 = .ok (.invokestatic 115, 3) := by decide +kernel
theorem d_jdk_52_method_16_code_12 : decode jdk_52_method_16_code 12 = .ok (.istore 4, 2) := by decide +kernel
theorem d_jdk_52_method_16_code_14 : decode jdk_52_method_16_code 14 = .ok (.iload 4, 2) := by decide +kernel
theorem d_jdk_52_method_16_code_16 : decode jdk_52_method_16_code 16 = .ok (.iload_n 2, 1) := by decide +kernel
theorem d_jdk_52_method_16_code_17 : decode jdk_52_method_16_code 17 = .ok (.if_icmp .eq 40, 3) := by decide +kernel
theorem d_jdk_52_method_16_code_57 : decode jdk_52_method_16_code 57 = .ok (.aload_n 3, 1) := by decide +kernel
theorem d_jdk_52_method_16_code_58 : decode jdk_52_method_16_code 58 = .ok (.areturn, 1) := by decide +kernel
theorem rm_cmp3 {l : Launch} {Z : State} {a0 : Array Value} (G : Cl Z a0) (ac : Addr) (cc : Cell) (cs : List Int32) (A : ArrC Z cc .char (chV cs)) (hl : Lat cs) (hn : cs.length < 65536) :
    Met l Z EL1 (⟨"java/lang/StringUTF16", "compress", "([CII)[B"⟩ : MethodName) jdk_52_method_16_code 6 (some (.array .byte)) ({ frames := 1, cells := 1, slots := cs.length, locals := 18 } : Room) #[.ref ac, .int 0, .int cs.length.toInt32] [(ac, cc)] [] (fun v σ ρ => ∃ b cb, v = some (.ref b) ∧ σ = [(ac, cc), (b, cb)] ∧ ρ = [] ∧ ArrC Z cb .byte (latB cs)) := by
  refine Met.walk G.2.1 pn_0 #[.val (.ref ac), .val (.int 0), .val (.int cs.length.toInt32), .unset, .unset, .unset] (fun m => by first | (simp [entryFrame, mkF, argsToLocals, Value.category]; done) | rfl) ?_
  intro X T0 W0
  refine Go.iloadN (pc' := 1) W0 d_jdk_52_method_16_code_0 rfl rfl ?_
  refine Go.newarr (pc' := 3) W0 .byte rfl cs.length (w_24 G) d_jdk_52_method_16_code_1 rfl (i32_nn (by omega)) (i32_clamp (by omega)) (by omega) (by first | exact Nat.le_of_ble_eq_true rfl | (simp; done) | (simp; omega) | omega) (by first | exact Nat.le_of_ble_eq_true rfl | (simp; done) | (simp; omega) | omega) (fun T1 b cb W1 B => ?_)
  refine Go.astoreN (pc' := 4) W1 #[.val (.ref ac), .val (.int 0), .val (.int cs.length.toInt32), .val (.ref b), .unset, .unset] d_jdk_52_method_16_code_3 rfl rfl rfl ?_
  refine Go.aloadN (pc' := 5) W1 d_jdk_52_method_16_code_4 rfl rfl rfl ?_
  refine Go.iloadN (pc' := 6) W1 d_jdk_52_method_16_code_5 rfl rfl ?_
  refine Go.aloadN (pc' := 7) W1 d_jdk_52_method_16_code_6 rfl rfl rfl ?_
  refine Go.iconst (pc' := 8) W1 (0 : Int32) d_jdk_52_method_16_code_7 (by decide) rfl ?_
  refine Go.iloadN (pc' := 9) W1 d_jdk_52_method_16_code_8 rfl rfl ?_
  refine Go.static (pc' := 12) W1 (rm_cmp5 G ac b cc cb cs A hl (by omega) B) (w_25 G) (w_26 G) (w_22 G) (w_27 G) (by decide) [1, 0] [] (σf := []) rfl rfl [.ref ac, .int 0, .ref b, .int 0, .int cs.length.toInt32] [] rfl (lenOf pd_1 rfl) rfl rfl d_jdk_52_method_16_code_9 rfl (by first | exact Nat.le_of_ble_eq_true rfl | (simp; done) | (simp; omega) | omega) (by first | exact Nat.le_of_ble_eq_true rfl | (simp; done) | (simp; omega) | omega) (by first | exact Nat.le_of_ble_eq_true rfl | (simp; done) | (simp; omega) | omega) (by first | exact Nat.le_of_ble_eq_true rfl | (simp; done) | (simp; omega) | omega) ?_
  rintro _ _ _ T2 ⟨cb2, rfl, rfl, rfl, B2⟩ W2
  refine Go.istore (pc' := 14) W2 #[.val (.ref ac), .val (.int 0), .val (.int cs.length.toInt32), .val (.ref b), .val (.int cs.length.toInt32), .unset] d_jdk_52_method_16_code_12 rfl rfl ?_
  refine Go.iload (pc' := 16) W2 d_jdk_52_method_16_code_14 rfl rfl ?_
  refine Go.iloadN (pc' := 17) W2 d_jdk_52_method_16_code_16 rfl rfl ?_
  refine Go.icmp_eq (pc' := 20) W2 57 d_jdk_52_method_16_code_17 (by decide) rfl (fun _ => ?_) (fun q => absurd rfl q)
  refine Go.aloadN (pc' := 58) W2 d_jdk_52_method_16_code_57 rfl rfl rfl ?_
  exact Go.aret W2 rfl rfl d_jdk_52_method_16_code_58 (by first | exact Nat.le_of_ble_eq_true rfl | (simp; done) | (simp; omega) | omega) (by first | exact Nat.le_of_ble_eq_true rfl | (simp; done) | (simp; omega) | omega) ⟨b, cb2, rfl, rfl, rfl, B2⟩
theorem d_jdk_52_method_15_code_0 : decode jdk_52_method_15_code 0 = .ok (.iload_n 1, 1) := by decide +kernel
theorem d_jdk_52_method_15_code_1 : decode jdk_52_method_15_code 1 = .ok (.aload_n 0, 1) := by decide +kernel
theorem d_jdk_52_method_15_code_2 : decode jdk_52_method_15_code 2 = .ok (.arraylength, 1) := by decide +kernel
theorem d_jdk_52_method_15_code_3 : decode jdk_52_method_15_code 3 = .ok (.isub, 1) := by decide +kernel
theorem d_jdk_52_method_15_code_4 : decode jdk_52_method_15_code 4 = .ok (.bipush 31, 2) := by decide +kernel
theorem d_jdk_52_method_15_code_6 : decode jdk_52_method_15_code 6 = .ok (.iushr, 1) := by decide +kernel
theorem d_jdk_52_method_15_code_7 : decode jdk_52_method_15_code 7 = .ok (.i2b, 1) := by decide +kernel
theorem d_jdk_52_method_15_code_8 : decode jdk_52_method_15_code 8 = .ok (.ireturn, 1) := by decide +kernel
theorem rm_cod {l : Launch} {Z : State} {a0 : Array Value} (G : Cl Z a0) (b : Addr) (cb : Cell) (cs : List Int32) (B : ArrC Z cb .byte (latB cs)) :
    Met l Z EL1 (⟨"java/lang/StringUTF16", "coderFromArrayLen", "([BI)B"⟩ : MethodName) jdk_52_method_15_code 2 (some .byte) ({ frames := 0, cells := 0, slots := 0, locals := 0 } : Room) #[.ref b, .int cs.length.toInt32] [(b, cb)] [] (fun v σ ρ => v = some (.int 0) ∧ σ = [(b, cb)] ∧ ρ = []) := by
  refine Met.walk G.2.1 pn_0 #[.val (.ref b), .val (.int cs.length.toInt32)] (fun m => by first | (simp [entryFrame, mkF, argsToLocals, Value.category]; done) | rfl) ?_
  intro X T0 W0
  refine Go.iloadN (pc' := 1) W0 d_jdk_52_method_15_code_0 rfl rfl ?_
  refine Go.aloadN (pc' := 2) W0 d_jdk_52_method_15_code_1 rfl rfl rfl ?_
  refine Go.arrlen (pc' := 3) W0 (Or.inl (List.mem_of_getElem? (i := 0) rfl)) B cs.length.toInt32 (by rw [latB, List.length_map]) d_jdk_52_method_15_code_2 rfl ?_
  refine Go.isub (pc' := 4) W0 d_jdk_52_method_15_code_3 rfl ?_
  rw [Int32.sub_self]
  refine Go.bipush (pc' := 6) W0 (31 : Int32) d_jdk_52_method_15_code_4 (by decide) rfl ?_
  refine Go.iushr (pc' := 7) W0 d_jdk_52_method_15_code_6 rfl ?_
  refine Go.i2b (pc' := 8) W0 d_jdk_52_method_15_code_7 rfl ?_
  exact Go.nret (z' := 0) W0 (by simp) (by decide) d_jdk_52_method_15_code_8 (by decide) (by decide) ⟨rfl, rfl, rfl⟩
theorem pn_2 : plainName "java/lang/String" = true := by first | (simp [plainName, overriddenIn]; done) | decide +kernel
theorem d_jdk_42_method_149_code_0 : decode jdk_42_method_149_code 0 = .ok (.aload_n 0, 1) := by decide +kernel
theorem d_jdk_42_method_149_code_1 : decode jdk_42_method_149_code 1 = .ok (.invokespecial 1, 3) := by decide +kernel
theorem w_16 {Z : State} {a0 : Array Value} (G : Cl Z a0) : (Jvm.Cond.methodLink "java/lang/String" 1 (⟨"java/lang/Object", "<init>", "()V"⟩ : MethodName)).before a0 Z = true := G.1 _ (List.mem_of_getElem? (l := tables_1) (i := 16) rfl)
theorem w_17 {Z : State} {a0 : Array Value} (G : Cl Z a0) : (Jvm.Cond.instanceMethod (⟨"java/lang/Object", "<init>", "()V"⟩ : MethodName)).before a0 Z = true := G.1 _ (List.mem_of_getElem? (l := tables_1) (i := 17) rfl)
theorem w_18 {Z : State} {a0 : Array Value} (G : Cl Z a0) : (Jvm.Cond.code (⟨"java/lang/Object", "<init>", "()V"⟩ : MethodName) object_method_1_code 1 none).before a0 Z = true := G.1 _ (List.mem_of_getElem? (l := tables_1) (i := 18) rfl)
theorem d_jdk_42_method_149_code_4 : decode jdk_42_method_149_code 4 = .ok (.iload_n 3, 1) := by decide +kernel
theorem d_jdk_42_method_149_code_5 : decode jdk_42_method_149_code 5 = .ok (.ifCond .ne 22, 3) := by decide +kernel
theorem d_jdk_42_method_149_code_27 : decode jdk_42_method_149_code 27 = .ok (.getstatic 38, 3) := by decide +kernel
theorem w_19 {Z : State} {a0 : Array Value} (G : Cl Z a0) : (Jvm.Cond.fieldLink "java/lang/String" 38 "java/lang/String" "COMPACT_STRINGS" "Z").before a0 Z = true := G.1 _ (List.mem_of_getElem? (l := tables_1) (i := 19) rfl)
theorem d_jdk_42_method_149_code_30 : decode jdk_42_method_149_code 30 = .ok (.ifCond .eq 28, 3) := by decide +kernel
theorem d_jdk_42_method_149_code_33 : decode jdk_42_method_149_code 33 = .ok (.aload_n 1, 1) := by decide +kernel
theorem d_jdk_42_method_149_code_34 : decode jdk_42_method_149_code 34 = .ok (.iload_n 2, 1) := by decide +kernel
theorem d_jdk_42_method_149_code_35 : decode jdk_42_method_149_code 35 = .ok (.iload_n 3, 1) := by decide +kernel
theorem d_jdk_42_method_149_code_36 : decode jdk_42_method_149_code 36 = .ok (.invokestatic 177, 3) := by decide +kernel
theorem w_20 {Z : State} {a0 : Array Value} (G : Cl Z a0) : (Jvm.Cond.methodLink "java/lang/String" 177 (⟨"java/lang/StringUTF16", "compress", "([CII)[B"⟩ : MethodName)).before a0 Z = true := G.1 _ (List.mem_of_getElem? (l := tables_1) (i := 20) rfl)
theorem w_23 {Z : State} {a0 : Array Value} (G : Cl Z a0) : (Jvm.Cond.code (⟨"java/lang/StringUTF16", "compress", "([CII)[B"⟩ : MethodName) jdk_52_method_16_code 6 (some (.array .byte))).before a0 Z = true := G.1 _ (List.mem_of_getElem? (l := tables_1) (i := 23) rfl)
theorem pd_3 : parseMethodDescriptor "([CII)[B" = some ⟨[(.array .char), .int, .int], some (.array .byte)⟩ := by decide +kernel
theorem w_21 {Z : State} {a0 : Array Value} (G : Cl Z a0) : (Jvm.Cond.static (⟨"java/lang/StringUTF16", "compress", "([CII)[B"⟩ : MethodName)).before a0 Z = true := G.1 _ (List.mem_of_getElem? (l := tables_1) (i := 21) rfl)
theorem d_jdk_42_method_149_code_39 : decode jdk_42_method_149_code 39 = .ok (.astore 5, 2) := by decide +kernel
theorem d_jdk_42_method_149_code_41 : decode jdk_42_method_149_code 41 = .ok (.aload_n 0, 1) := by decide +kernel
theorem d_jdk_42_method_149_code_42 : decode jdk_42_method_149_code 42 = .ok (.aload 5, 2) := by decide +kernel
theorem d_jdk_42_method_149_code_44 : decode jdk_42_method_149_code 44 = .ok (.iload_n 3, 1) := by decide +kernel
theorem d_jdk_42_method_149_code_45 : decode jdk_42_method_149_code 45 = .ok (.invokestatic 47, 3) := by decide +kernel
theorem w_28 {Z : State} {a0 : Array Value} (G : Cl Z a0) : (Jvm.Cond.methodLink "java/lang/String" 47 (⟨"java/lang/StringUTF16", "coderFromArrayLen", "([BI)B"⟩ : MethodName)).before a0 Z = true := G.1 _ (List.mem_of_getElem? (l := tables_1) (i := 28) rfl)
theorem w_30 {Z : State} {a0 : Array Value} (G : Cl Z a0) : (Jvm.Cond.code (⟨"java/lang/StringUTF16", "coderFromArrayLen", "([BI)B"⟩ : MethodName) jdk_52_method_15_code 2 (some .byte)).before a0 Z = true := G.1 _ (List.mem_of_getElem? (l := tables_1) (i := 30) rfl)
theorem pd_4 : parseMethodDescriptor "([BI)B" = some ⟨[(.array .byte), .int], some .byte⟩ := by decide +kernel
theorem w_29 {Z : State} {a0 : Array Value} (G : Cl Z a0) : (Jvm.Cond.static (⟨"java/lang/StringUTF16", "coderFromArrayLen", "([BI)B"⟩ : MethodName)).before a0 Z = true := G.1 _ (List.mem_of_getElem? (l := tables_1) (i := 29) rfl)
theorem d_jdk_42_method_149_code_48 : decode jdk_42_method_149_code 48 = .ok (.putfield 15, 3) := by decide +kernel
theorem w_31 {Z : State} {a0 : Array Value} (G : Cl Z a0) : (Jvm.Cond.fieldLink "java/lang/String" 15 "java/lang/String" "coder" "B").before a0 Z = true := G.1 _ (List.mem_of_getElem? (l := tables_1) (i := 31) rfl)
theorem w_32 {Z : State} {a0 : Array Value} (G : Cl Z a0) : (Jvm.Cond.laysFinal "java/lang/String" "java/lang/String" "coder" "B").before a0 Z = true := G.1 _ (List.mem_of_getElem? (l := tables_1) (i := 32) rfl)
theorem w_7 {Z : State} {a0 : Array Value} (G : Cl Z a0) : (Jvm.Cond.instantiable "java/lang/String" 4).before a0 Z = true := G.1 _ (List.mem_of_getElem? (l := tables_1) (i := 7) rfl)
theorem w_34 {Z : State} {a0 : Array Value} (G : Cl Z a0) : (Jvm.Cond.laysFinal "java/lang/String" "java/lang/String" "value" "[B").before a0 Z = true := G.1 _ (List.mem_of_getElem? (l := tables_1) (i := 34) rfl)
theorem d_jdk_42_method_149_code_51 : decode jdk_42_method_149_code 51 = .ok (.aload_n 0, 1) := by decide +kernel
theorem d_jdk_42_method_149_code_52 : decode jdk_42_method_149_code 52 = .ok (.aload 5, 2) := by decide +kernel
theorem d_jdk_42_method_149_code_54 : decode jdk_42_method_149_code 54 = .ok (.putfield 9, 3) := by decide +kernel
theorem w_33 {Z : State} {a0 : Array Value} (G : Cl Z a0) : (Jvm.Cond.fieldLink "java/lang/String" 9 "java/lang/String" "value" "[B").before a0 Z = true := G.1 _ (List.mem_of_getElem? (l := tables_1) (i := 33) rfl)
theorem d_jdk_42_method_149_code_57 : decode jdk_42_method_149_code 57 = .ok (.return_, 1) := by decide +kernel
set_option maxRecDepth 65536 in
set_option maxHeartbeats 40000000 in
theorem rm_initV {l : Launch} {Z : State} {a0 : Array Value} (G : Cl Z a0) (a ac : Addr) (c cc : Cell) (cs : List Int32) (A : ArrC Z cc .char (chV cs)) (hO : ObjC Z c "java/lang/String") (hC : FldC Z c "java/lang/String" "coder" "B" (.int 0)) (hV : FldC Z c "java/lang/String" "value" "[B" .null) (hl : Lat cs) (hn : cs.length < 65536) (h0 : ¬ cs.length.toInt32 = 0) :
    Met l Z EL1 (⟨"java/lang/String", "<init>", "([CIILjava/lang/Void;)V"⟩ : MethodName) jdk_42_method_149_code 6 none ({ frames := 2, cells := 1, slots := cs.length, locals := 35 } : Room) #[.ref a, .ref ac, .int (0 : Int32), .int cs.length.toInt32, .null] [(a, c), (ac, cc)] [] (fun v σ ρ => ∃ c' b cb, v = none ∧ σ = [(ac, cc)] ∧ ρ = [(a, c'), (b, cb)] ∧ StrL Z c' b cb cs) := by
  refine Met.walk G.2.1 pn_2 #[.val (.ref a), .val (.ref ac), .val (.int (0 : Int32)), .val (.int cs.length.toInt32), .val (.null), .unset] (fun m => by first | (simp [entryFrame, mkF, argsToLocals, Value.category]; done) | rfl) ?_
  intro X T0 W0
  obtain ⟨cv, Scv, hcv⟩ := G.2.2.1
  refine Go.aloadN (pc' := 1) W0 d_jdk_42_method_149_code_0 rfl rfl rfl ?_
  refine Go.objInit (pc' := 4) W0 (w_16 G) (w_17 G) (w_18 G) rfl d_jdk_42_method_149_code_1 rfl (by first | exact Nat.le_of_ble_eq_true rfl | (simp; done) | (simp; omega) | omega) (by first | exact Nat.le_of_ble_eq_true rfl | (simp; done) | (simp; omega) | omega) (fun T1 W2 => ?_)
  refine Go.iloadN (pc' := 5) W2 d_jdk_42_method_149_code_4 rfl rfl ?_
  refine Go.if_ne (pc' := 8) W2 27 d_jdk_42_method_149_code_5 (by decide) rfl (fun _ => ?_) (fun q => absurd q h0)
  refine Go.getstatic (pc' := 30) W2 (w_19 G) Via.refl Scv d_jdk_42_method_149_code_27 rfl (fun T3 W4 => ?_)
  refine Go.if_eq (pc' := 33) W4 58 d_jdk_42_method_149_code_30 (by decide) rfl (fun q => absurd q hcv) (fun _ => ?_)
  refine Go.aloadN (pc' := 34) W4 d_jdk_42_method_149_code_33 rfl rfl rfl ?_
  refine Go.iloadN (pc' := 35) W4 d_jdk_42_method_149_code_34 rfl rfl ?_
  refine Go.iloadN (pc' := 36) W4 d_jdk_42_method_149_code_35 rfl rfl ?_
  refine Go.static (pc' := 39) W4 (rm_cmp3 G ac cc cs A hl hn) (w_20 G) (w_21 G) (w_22 G) (w_23 G) (by decide) [1] [] (σf := [(a, c)]) rfl rfl [(.ref ac), (.int (0 : Int32)), (.int cs.length.toInt32)] [] rfl (lenOf pd_3 rfl) rfl rfl d_jdk_42_method_149_code_36 rfl (by first | exact Nat.le_of_ble_eq_true rfl | (simp; done) | (simp; omega) | omega) (by first | exact Nat.le_of_ble_eq_true rfl | (simp; done) | (simp; omega) | omega) (by first | exact Nat.le_of_ble_eq_true rfl | (simp; done) | (simp; omega) | omega) (by first | exact Nat.le_of_ble_eq_true rfl | (simp; done) | (simp; omega) | omega) ?_
  rintro _ _ _ T5 ⟨b, cb, rfl, rfl, rfl, B⟩ W6
  replace W6 : Wk l Z EL1 ({ frames := 2, cells := 1, slots := cs.length, locals := 35 } : Room) "java/lang/String" jdk_42_method_149_code 6 none "<init>" X [(ac, cc), (b, cb), (a, c)] [] T5 1 (0 + cs.length) := W6
  show Go Z EL1 _ _ _ X T5 39 #[.val (.ref a), .val (.ref ac), .val (.int (0 : Int32)), .val (.int cs.length.toInt32), .val (.null), .unset] [(.ref b)]
  refine Go.astore (pc' := 41) W6 #[.val (.ref a), .val (.ref ac), .val (.int (0 : Int32)), .val (.int cs.length.toInt32), .val (.null), .val (.ref b)] d_jdk_42_method_149_code_39 rfl rfl rfl ?_
  refine Go.aloadN (pc' := 42) W6 d_jdk_42_method_149_code_41 rfl rfl rfl ?_
  refine Go.aload (pc' := 44) W6 d_jdk_42_method_149_code_42 rfl rfl rfl ?_
  refine Go.iloadN (pc' := 45) W6 d_jdk_42_method_149_code_44 rfl rfl ?_
  refine Go.static (pc' := 48) W6 (rm_cod G b cb cs B) (w_28 G) (w_29 G) (w_22 G) (w_30 G) (by decide) [1] [] (σf := [(ac, cc), (a, c)]) rfl rfl [(.ref b), (.int cs.length.toInt32)] [(.ref a)] rfl (lenOf pd_4 rfl) rfl rfl d_jdk_42_method_149_code_45 rfl (by first | exact Nat.le_of_ble_eq_true rfl | (simp; done) | (simp; omega) | omega) (by first | exact Nat.le_of_ble_eq_true rfl | (simp; done) | (simp; omega) | omega) (by first | exact Nat.le_of_ble_eq_true rfl | (simp; done) | (simp; omega) | omega) (by first | exact Nat.le_of_ble_eq_true rfl | (simp; done) | (simp; omega) | omega) ?_
  rintro _ _ _ T7 ⟨rfl, rfl, rfl⟩ W8
  replace W8 : Wk l Z EL1 ({ frames := 2, cells := 1, slots := cs.length, locals := 35 } : Room) "java/lang/String" jdk_42_method_149_code 6 none "<init>" X [(b, cb), (ac, cc), (a, c)] [] T7 1 (0 + cs.length + 0) := W8
  show Go Z EL1 _ _ _ X T7 48 #[.val (.ref a), .val (.ref ac), .val (.int (0 : Int32)), .val (.int cs.length.toInt32), .val (.null), .val (.ref b)] [(.int (0 : Int32)), (.ref a)]
  refine Go.putfield (pc' := 51) W8 2 rfl (w_31 G) Via.refl hC hO (Or.inr ⟨(w_32 G), rfl, rfl⟩) (w_7 G) (ty := .byte) (v' := .int (0 : Int32)) (by decide) rfl rfl d_jdk_42_method_149_code_48 rfl (fun T9 c11 q12 W10 => ?_)
  replace W10 : Wk l Z EL1 ({ frames := 2, cells := 1, slots := cs.length, locals := 35 } : Room) "java/lang/String" jdk_42_method_149_code 6 none "<init>" X [(b, cb), (ac, cc), (a, c11)] [] T9 1 (0 + cs.length + 0) := W10
  have O13 := hO.put' q12
  have F14 := hC.put' q12
  have F15 := hV.keep' q12 (slot_ne (Or.inr (w_34 G)) (Or.inr (w_32 G)) (by decide) (t := (.array .byte)) (t' := .byte) (by decide) (by decide))
  refine Go.aloadN (pc' := 52) W10 d_jdk_42_method_149_code_51 rfl rfl rfl ?_
  refine Go.aload (pc' := 54) W10 d_jdk_42_method_149_code_52 rfl rfl rfl ?_
  refine Go.putfield (pc' := 57) W10 2 rfl (w_33 G) Via.refl F15 O13 (Or.inr ⟨(w_34 G), rfl, rfl⟩) (w_7 G) (ty := (.array .byte)) (v' := .ref b) (by decide) rfl rfl d_jdk_42_method_149_code_54 rfl (fun T16 c18 q19 W17 => ?_)
  replace W17 : Wk l Z EL1 ({ frames := 2, cells := 1, slots := cs.length, locals := 35 } : Room) "java/lang/String" jdk_42_method_149_code 6 none "<init>" X [(b, cb), (ac, cc), (a, c18)] [] T16 1 (0 + cs.length + 0) := W17
  have O20 := O13.put' q19
  have F21 := F14.keep' q19 (slot_ne (Or.inr (w_32 G)) (Or.inr (w_34 G)) (by decide) (t := .byte) (t' := (.array .byte)) (by decide) (by decide))
  have F22 := F15.put' q19
  have W23 := W17.freeze [2, 0] (σi := [(a, c18), (b, cb)]) (σf := [(ac, cc)]) rfl
  replace W23 : Wk l Z EL1 ({ frames := 2, cells := 1, slots := cs.length, locals := 35 } : Room) "java/lang/String" jdk_42_method_149_code 6 none "<init>" X [(ac, cc)] [(a, c18), (b, cb)] T16 1 (0 + cs.length + 0) := W23
  refine Go.retV W23 d_jdk_42_method_149_code_57 (by first | exact Nat.le_of_ble_eq_true rfl | (simp; done) | (simp; omega) | omega) (by first | exact Nat.le_of_ble_eq_true rfl | (simp; done) | (simp; omega) | omega) ?_
  exact ⟨_, b, cb, rfl, rfl, rfl, O20, F21, F22, B, hl⟩
theorem d_jdk_42_method_3_code_0 : decode jdk_42_method_3_code 0 = .ok (.aload_n 0, 1) := by decide +kernel
theorem d_jdk_42_method_3_code_1 : decode jdk_42_method_3_code 1 = .ok (.aload_n 1, 1) := by decide +kernel
theorem d_jdk_42_method_3_code_2 : decode jdk_42_method_3_code 2 = .ok (.iconst 0, 1) := by decide +kernel
theorem d_jdk_42_method_3_code_3 : decode jdk_42_method_3_code 3 = .ok (.aload_n 1, 1) := by decide +kernel
theorem d_jdk_42_method_3_code_4 : decode jdk_42_method_3_code 4 = .ok (.arraylength, 1) := by decide +kernel
theorem d_jdk_42_method_3_code_5 : decode jdk_42_method_3_code 5 = .ok (.aconst_null, 1) := by decide +kernel
theorem d_jdk_42_method_3_code_6 : decode jdk_42_method_3_code 6 = .ok (.invokespecial 27, 3) := by decide +kernel
theorem w_12 {Z : State} {a0 : Array Value} (G : Cl Z a0) : (Jvm.Cond.methodLink "java/lang/String" 27 (⟨"java/lang/String", "<init>", "([CIILjava/lang/Void;)V"⟩ : MethodName)).before a0 Z = true := G.1 _ (List.mem_of_getElem? (l := tables_1) (i := 12) rfl)
theorem w_8 {Z : State} {a0 : Array Value} (G : Cl Z a0) : (Jvm.Cond.initialized "java/lang/String").before a0 Z = true := G.1 _ (List.mem_of_getElem? (l := tables_1) (i := 8) rfl)
theorem w_15 {Z : State} {a0 : Array Value} (G : Cl Z a0) : (Jvm.Cond.code (⟨"java/lang/String", "<init>", "([CIILjava/lang/Void;)V"⟩ : MethodName) jdk_42_method_149_code 6 none).before a0 Z = true := G.1 _ (List.mem_of_getElem? (l := tables_1) (i := 15) rfl)
theorem pd_5 : parseMethodDescriptor "([CIILjava/lang/Void;)V" = some ⟨[(.array .char), .int, .int, (.object "java/lang/Void")], none⟩ := by decide +kernel
theorem w_13 {Z : State} {a0 : Array Value} (G : Cl Z a0) : (Jvm.Cond.instanceMethod (⟨"java/lang/String", "<init>", "([CIILjava/lang/Void;)V"⟩ : MethodName)).before a0 Z = true := G.1 _ (List.mem_of_getElem? (l := tables_1) (i := 13) rfl)
theorem d_jdk_42_method_3_code_9 : decode jdk_42_method_3_code 9 = .ok (.return_, 1) := by decide +kernel
set_option maxRecDepth 65536 in
set_option maxHeartbeats 40000000 in
theorem rm_initC {l : Launch} {Z : State} {a0 : Array Value} (G : Cl Z a0) (a ac : Addr) (c cc : Cell) (cs : List Int32) (A : ArrC Z cc .char (chV cs)) (hO : ObjC Z c "java/lang/String") (hC : FldC Z c "java/lang/String" "coder" "B" (.int 0)) (hV : FldC Z c "java/lang/String" "value" "[B" .null) (hl : Lat cs) (hn : cs.length < 65536) (h0 : ¬ cs.length.toInt32 = 0) :
    Met l Z EL1 (⟨"java/lang/String", "<init>", "([C)V"⟩ : MethodName) jdk_42_method_3_code 2 none ({ frames := 3, cells := 1, slots := cs.length, locals := 52 } : Room) #[.ref a, .ref ac] [(a, c), (ac, cc)] [] (fun v σ ρ => ∃ c' b cb, v = none ∧ σ = [(ac, cc)] ∧ ρ = [(a, c'), (b, cb)] ∧ StrL Z c' b cb cs) := by
  refine Met.walk G.2.1 pn_2 #[.val (.ref a), .val (.ref ac)] (fun m => by first | (simp [entryFrame, mkF, argsToLocals, Value.category]; done) | rfl) ?_
  intro X T0 W0
  refine Go.aloadN (pc' := 1) W0 d_jdk_42_method_3_code_0 rfl rfl rfl ?_
  refine Go.aloadN (pc' := 2) W0 d_jdk_42_method_3_code_1 rfl rfl rfl ?_
  refine Go.iconst (pc' := 3) W0 (0 : Int32) d_jdk_42_method_3_code_2 (by decide) rfl ?_
  refine Go.aloadN (pc' := 4) W0 d_jdk_42_method_3_code_3 rfl rfl rfl ?_
  refine Go.arrlen (pc' := 5) W0 (Or.inl (List.mem_of_getElem? (i := 1) rfl)) A cs.length.toInt32 (by rw [chV, List.length_map]) d_jdk_42_method_3_code_4 rfl ?_
  refine Go.aconstNull (pc' := 6) W0 d_jdk_42_method_3_code_5 rfl ?_
  refine Go.special (pc' := 9) W0 (a := a) (rm_initV G a ac c cc cs A hO hC hV hl hn h0) rfl (w_12 G) (w_13 G) (w_8 G) (w_15 G) (by decide) [0, 0] [] (σf := []) rfl rfl [(.ref ac), (.int (0 : Int32)), (.int cs.length.toInt32), (.null)] [] rfl (lenOf pd_5 rfl) rfl rfl d_jdk_42_method_3_code_6 rfl (by first | exact Nat.le_of_ble_eq_true rfl | (simp; done) | (simp; omega) | omega) (by first | exact Nat.le_of_ble_eq_true rfl | (simp; done) | (simp; omega) | omega) (by first | exact Nat.le_of_ble_eq_true rfl | (simp; done) | (simp; omega) | omega) (by first | exact Nat.le_of_ble_eq_true rfl | (simp; done) | (simp; omega) | omega) ?_
  rintro _ _ _ T1 ⟨c', b, cb, rfl, rfl, rfl, S⟩ W2
  replace W2 : Wk l Z EL1 ({ frames := 3, cells := 1, slots := cs.length, locals := 52 } : Room) "java/lang/String" jdk_42_method_3_code 2 none "<init>" X [(ac, cc)] [(a, c'), (b, cb)] T1 1 (0 + cs.length) := W2
  show Go Z EL1 _ _ _ X T1 9 #[.val (.ref a), .val (.ref ac)] []
  refine Go.retV W2 d_jdk_42_method_3_code_9 (by first | exact Nat.le_of_ble_eq_true rfl | (simp; done) | (simp; omega) | omega) (by first | exact Nat.le_of_ble_eq_true rfl | (simp; done) | (simp; omega) | omega) ?_
  exact ⟨c', b, cb, rfl, rfl, rfl, S⟩
theorem d_jdk_42_method_152_code_0 : decode jdk_42_method_152_code 0 = .ok (.getstatic 38, 3) := by decide +kernel
theorem d_jdk_42_method_152_code_3 : decode jdk_42_method_152_code 3 = .ok (.ifCond .eq 10, 3) := by decide +kernel
theorem d_jdk_42_method_152_code_6 : decode jdk_42_method_152_code 6 = .ok (.aload_n 0, 1) := by decide +kernel
theorem d_jdk_42_method_152_code_7 : decode jdk_42_method_152_code 7 = .ok (.getfield 15, 3) := by decide +kernel
theorem d_jdk_42_method_152_code_10 : decode jdk_42_method_152_code 10 = .ok (.goto 4, 3) := by decide +kernel
theorem d_jdk_42_method_152_code_14 : decode jdk_42_method_152_code 14 = .ok (.ireturn, 1) := by decide +kernel
set_option maxRecDepth 65536 in
set_option maxHeartbeats 40000000 in
theorem rm_coder {l : Launch} {Z : State} {a0 : Array Value} (G : Cl Z a0) (a b : Addr) (c cb : Cell) (cs : List Int32) (S : StrL Z c b cb cs) :
    Met l Z EL1 (⟨"java/lang/String", "coder", "()B"⟩ : MethodName) jdk_42_method_152_code 1 (some .byte) ({ frames := 0, cells := 0, slots := 0, locals := 0 } : Room) #[.ref a] [] [(a, c)] (fun v σ ρ => v = some (.int 0) ∧ σ = [] ∧ ρ = []) := by
  refine Met.walk G.2.1 pn_2 #[.val (.ref a)] (fun m => by first | (simp [entryFrame, mkF, argsToLocals, Value.category]; done) | rfl) ?_
  intro X T0 W0
  obtain ⟨cv, Scv, hcv⟩ := G.2.2.1
  refine Go.getstatic (pc' := 3) W0 (w_19 G) Via.refl Scv d_jdk_42_method_152_code_0 rfl (fun T1 W2 => ?_)
  refine Go.if_eq (pc' := 6) W2 13 d_jdk_42_method_152_code_3 (by decide) rfl (fun q => absurd q hcv) (fun _ => ?_)
  refine Go.aloadN (pc' := 7) W2 d_jdk_42_method_152_code_6 rfl rfl rfl ?_
  refine Go.getfield (pc' := 10) W2 (Or.inr (Or.inl (List.mem_of_getElem? (i := 0) rfl))) (w_31 G) Via.refl S.2.1 d_jdk_42_method_152_code_7 rfl (fun T3 W4 => ?_)
  refine Go.goto W4 14 d_jdk_42_method_152_code_10 (by decide) ?_
  have W5 := W4.keepRo [] (ρ' := []) rfl
  replace W5 : Wk l Z EL1 ({ frames := 0, cells := 0, slots := 0, locals := 0 } : Room) "java/lang/String" jdk_42_method_152_code 1 (some .byte) "coder" X [] [] T3 0 (0) := W5
  refine Go.nret (z' := (0 : Int32)) W5 (by simp) (by decide) d_jdk_42_method_152_code_14 (by first | exact Nat.le_of_ble_eq_true rfl | (simp; done) | (simp; omega) | omega) (by first | exact Nat.le_of_ble_eq_true rfl | (simp; done) | (simp; omega) | omega) ?_
  exact ⟨rfl, rfl, rfl⟩
theorem d_jdk_42_method_54_code_0 : decode jdk_42_method_54_code 0 = .ok (.aload_n 0, 1) := by decide +kernel
theorem d_jdk_42_method_54_code_1 : decode jdk_42_method_54_code 1 = .ok (.getfield 9, 3) := by decide +kernel
theorem d_jdk_42_method_54_code_4 : decode jdk_42_method_54_code 4 = .ok (.arraylength, 1) := by decide +kernel
theorem d_jdk_42_method_54_code_5 : decode jdk_42_method_54_code 5 = .ok (.aload_n 0, 1) := by decide +kernel
theorem d_jdk_42_method_54_code_6 : decode jdk_42_method_54_code 6 = .ok (.invokevirtual 335, 3) := by decide +kernel
theorem w_54 {Z : State} {a0 : Array Value} (G : Cl Z a0) : (Jvm.Cond.methodLink "java/lang/String" 335 (⟨"java/lang/String", "coder", "()B"⟩ : MethodName)).before a0 Z = true := G.1 _ (List.mem_of_getElem? (l := tables_1) (i := 54) rfl)
theorem w_58 {Z : State} {a0 : Array Value} (G : Cl Z a0) : (Jvm.Cond.code (⟨"java/lang/String", "coder", "()B"⟩ : MethodName) jdk_42_method_152_code 1 (some .byte)).before a0 Z = true := G.1 _ (List.mem_of_getElem? (l := tables_1) (i := 58) rfl)
theorem pd_6 : parseMethodDescriptor "()B" = some ⟨[], some .byte⟩ := by decide +kernel
theorem w_55 {Z : State} {a0 : Array Value} (G : Cl Z a0) : (Jvm.Cond.declares (⟨"java/lang/String", "coder", "()B"⟩ : MethodName)).before a0 Z = true := G.1 _ (List.mem_of_getElem? (l := tables_1) (i := 55) rfl)
theorem w_57 {Z : State} {a0 : Array Value} (G : Cl Z a0) : (Jvm.Cond.selects "java/lang/String" (⟨"java/lang/String", "coder", "()B"⟩ : MethodName) (⟨"java/lang/String", "coder", "()B"⟩ : MethodName)).before a0 Z = true := G.1 _ (List.mem_of_getElem? (l := tables_1) (i := 57) rfl)
theorem w_56 {Z : State} {a0 : Array Value} (G : Cl Z a0) : (Jvm.Cond.instanceMethod (⟨"java/lang/String", "coder", "()B"⟩ : MethodName)).before a0 Z = true := G.1 _ (List.mem_of_getElem? (l := tables_1) (i := 56) rfl)
theorem d_jdk_42_method_54_code_9 : decode jdk_42_method_54_code 9 = .ok (.ishr, 1) := by decide +kernel
theorem d_jdk_42_method_54_code_10 : decode jdk_42_method_54_code 10 = .ok (.ireturn, 1) := by decide +kernel
set_option maxRecDepth 65536 in
set_option maxHeartbeats 40000000 in
theorem rm_len {l : Launch} {Z : State} {a0 : Array Value} (G : Cl Z a0) (a b : Addr) (c cb : Cell) (cs : List Int32) (S : StrL Z c b cb cs) :
    Met l Z EL1 (⟨"java/lang/String", "length", "()I"⟩ : MethodName) jdk_42_method_54_code 1 (some .int) ({ frames := 1, cells := 0, slots := 0, locals := 13 } : Room) #[.ref a] [] [(a, c), (b, cb)] (fun v σ ρ => v = some (.int cs.length.toInt32) ∧ σ = [] ∧ ρ = []) := by
  refine Met.walk G.2.1 pn_2 #[.val (.ref a)] (fun m => by first | (simp [entryFrame, mkF, argsToLocals, Value.category]; done) | rfl) ?_
  intro X T0 W0
  refine Go.aloadN (pc' := 1) W0 d_jdk_42_method_54_code_0 rfl rfl rfl ?_
  refine Go.getfield (pc' := 4) W0 (Or.inr (Or.inl (List.mem_of_getElem? (i := 0) rfl))) (w_33 G) Via.refl S.2.2.1 d_jdk_42_method_54_code_1 rfl (fun T1 W2 => ?_)
  refine Go.arrlen (pc' := 5) W2 (Or.inr (Or.inl (List.mem_of_getElem? (i := 1) rfl))) S.2.2.2.1 cs.length.toInt32 (by rw [latB, List.length_map]) d_jdk_42_method_54_code_4 rfl ?_
  refine Go.aloadN (pc' := 6) W2 d_jdk_42_method_54_code_5 rfl rfl rfl ?_
  refine Go.virtual (pc' := 9) W2 (rm_coder G a b c cb cs S) (Or.inr (Or.inl (List.mem_of_getElem? (i := 0) rfl))) S.1 (w_54 G) (w_55 G) (w_57 G) (w_56 G) (w_8 G) (w_58 G) (by decide) [] [0] (σf := []) rfl rfl [] [(.int cs.length.toInt32)] rfl (lenOf pd_6 rfl) rfl rfl d_jdk_42_method_54_code_6 rfl (by first | exact Nat.le_of_ble_eq_true rfl | (simp; done) | (simp; omega) | omega) (by first | exact Nat.le_of_ble_eq_true rfl | (simp; done) | (simp; omega) | omega) (by first | exact Nat.le_of_ble_eq_true rfl | (simp; done) | (simp; omega) | omega) (by first | exact Nat.le_of_ble_eq_true rfl | (simp; done) | (simp; omega) | omega) ?_
  rintro _ _ _ T3 ⟨rfl, rfl, rfl⟩ W4
  replace W4 : Wk l Z EL1 ({ frames := 1, cells := 0, slots := 0, locals := 13 } : Room) "java/lang/String" jdk_42_method_54_code 1 (some .int) "length" X [] [(a, c), (b, cb)] T3 0 (0) := W4
  show Go Z EL1 _ _ _ X T3 9 #[.val (.ref a)] [(.int (0 : Int32)), (.int cs.length.toInt32)]
  refine Go.ishr (pc' := 10) W4 d_jdk_42_method_54_code_9 rfl ?_
  have W5 := W4.keepRo [] (ρ' := []) rfl
  replace W5 : Wk l Z EL1 ({ frames := 1, cells := 0, slots := 0, locals := 13 } : Room) "java/lang/String" jdk_42_method_54_code 1 (some .int) "length" X [] [] T3 0 (0) := W5
  refine Go.iret W5 d_jdk_42_method_54_code_10 (by first | exact Nat.le_of_ble_eq_true rfl | (simp; done) | (simp; omega) | omega) (by first | exact Nat.le_of_ble_eq_true rfl | (simp; done) | (simp; omega) | omega) ?_
  exact ⟨by rw [shr0], rfl, rfl⟩
def CI (x y : Int32) : Prop := x = y ∨ (¬ (x &&& (223 : Int32)) < (65 : Int32) ∧ ¬ (90 : Int32) < (x &&& (223 : Int32)) ∧ (x &&& (223 : Int32)) = (y &&& (223 : Int32)))
instance (x y : Int32) : Decidable (CI x y) := by unfold CI; exact inferInstance
def AllCI (xs ys : List Int32) : Prop := ∀ (i : Nat) (x y : Int32), xs[i]? = some x → ys[i]? = some y → CI x.toInt8.toInt32 y.toInt8.toInt32
theorem AllCI.nil : AllCI [] [] := fun i x y h => by simp at h
theorem AllCI.cons {x y : Int32} {xs ys : List Int32} (h : CI x.toInt8.toInt32 y.toInt8.toInt32) (t : AllCI xs ys) : AllCI (x :: xs) (y :: ys)
  | 0, a, b, ha, hb => by
    obtain rfl : x = a := by simpa using ha
    obtain rfl : y = b := by simpa using hb
    exact h
  | i + 1, a, b, ha, hb => t i a b (by simpa using ha) (by simpa using hb)
theorem pn_7 : plainName "java/lang/CharacterDataLatin1" = true := by first | (simp [plainName, overriddenIn]; done) | decide +kernel
theorem d_jdk_116_method_22_code_0 : decode jdk_116_method_22_code 0 = .ok (.iload_n 0, 1) := by decide +kernel
theorem d_jdk_116_method_22_code_1 : decode jdk_116_method_22_code 1 = .ok (.iload_n 1, 1) := by decide +kernel
theorem d_jdk_116_method_22_code_2 : decode jdk_116_method_22_code 2 = .ok (.if_icmp .ne 5, 3) := by decide +kernel
theorem d_jdk_116_method_22_code_7 : decode jdk_116_method_22_code 7 = .ok (.iload_n 0, 1) := by decide +kernel
theorem d_jdk_116_method_22_code_8 : decode jdk_116_method_22_code 8 = .ok (.sipush 223, 3) := by decide +kernel
theorem d_jdk_116_method_22_code_11 : decode jdk_116_method_22_code 11 = .ok (.iand, 1) := by decide +kernel
theorem d_jdk_116_method_22_code_12 : decode jdk_116_method_22_code 12 = .ok (.istore_n 2, 1) := by decide +kernel
theorem d_jdk_116_method_22_code_13 : decode jdk_116_method_22_code 13 = .ok (.iload_n 2, 1) := by decide +kernel
theorem d_jdk_116_method_22_code_14 : decode jdk_116_method_22_code 14 = .ok (.bipush 65, 2) := by decide +kernel
theorem d_jdk_116_method_22_code_16 : decode jdk_116_method_22_code 16 = .ok (.if_icmp .ge 5, 3) := by decide +kernel
theorem d_jdk_116_method_22_code_21 : decode jdk_116_method_22_code 21 = .ok (.iload_n 2, 1) := by decide +kernel
theorem d_jdk_116_method_22_code_22 : decode jdk_116_method_22_code 22 = .ok (.bipush 90, 2) := by decide +kernel
theorem d_jdk_116_method_22_code_24 : decode jdk_116_method_22_code 24 = .ok (.if_icmp .le 24, 3) := by decide +kernel
theorem d_jdk_116_method_22_code_48 : decode jdk_116_method_22_code 48 = .ok (.iload_n 2, 1) := by decide +kernel
theorem d_jdk_116_method_22_code_49 : decode jdk_116_method_22_code 49 = .ok (.iload_n 1, 1) := by decide +kernel
theorem d_jdk_116_method_22_code_50 : decode jdk_116_method_22_code 50 = .ok (.sipush 223, 3) := by decide +kernel
theorem d_jdk_116_method_22_code_53 : decode jdk_116_method_22_code 53 = .ok (.iand, 1) := by decide +kernel
theorem d_jdk_116_method_22_code_54 : decode jdk_116_method_22_code 54 = .ok (.if_icmp .ne 7, 3) := by decide +kernel
theorem d_jdk_116_method_22_code_61 : decode jdk_116_method_22_code 61 = .ok (.iconst 0, 1) := by decide +kernel
theorem d_jdk_116_method_22_code_62 : decode jdk_116_method_22_code 62 = .ok (.ireturn, 1) := by decide +kernel
theorem d_jdk_116_method_22_code_57 : decode jdk_116_method_22_code 57 = .ok (.iconst 1, 1) := by decide +kernel
theorem d_jdk_116_method_22_code_58 : decode jdk_116_method_22_code 58 = .ok (.goto 4, 3) := by decide +kernel
theorem d_jdk_116_method_22_code_27 : decode jdk_116_method_22_code 27 = .ok (.iload_n 2, 1) := by decide +kernel
theorem d_jdk_116_method_22_code_28 : decode jdk_116_method_22_code 28 = .ok (.sipush 192, 3) := by decide +kernel
theorem d_jdk_116_method_22_code_31 : decode jdk_116_method_22_code 31 = .ok (.if_icmp .lt 30, 3) := by decide +kernel
theorem d_jdk_116_method_22_code_34 : decode jdk_116_method_22_code 34 = .ok (.iload_n 2, 1) := by decide +kernel
theorem d_jdk_116_method_22_code_35 : decode jdk_116_method_22_code 35 = .ok (.sipush 222, 3) := by decide +kernel
theorem d_jdk_116_method_22_code_38 : decode jdk_116_method_22_code 38 = .ok (.if_icmp .gt 23, 3) := by decide +kernel
theorem d_jdk_116_method_22_code_41 : decode jdk_116_method_22_code 41 = .ok (.iload_n 2, 1) := by decide +kernel
theorem d_jdk_116_method_22_code_42 : decode jdk_116_method_22_code 42 = .ok (.sipush 215, 3) := by decide +kernel
theorem d_jdk_116_method_22_code_45 : decode jdk_116_method_22_code 45 = .ok (.if_icmp .eq 16, 3) := by decide +kernel
theorem d_jdk_116_method_22_code_19 : decode jdk_116_method_22_code 19 = .ok (.iconst 0, 1) := by decide +kernel
theorem d_jdk_116_method_22_code_20 : decode jdk_116_method_22_code 20 = .ok (.ireturn, 1) := by decide +kernel
theorem d_jdk_116_method_22_code_5 : decode jdk_116_method_22_code 5 = .ok (.iconst 1, 1) := by decide +kernel
theorem d_jdk_116_method_22_code_6 : decode jdk_116_method_22_code 6 = .ok (.ireturn, 1) := by decide +kernel
set_option maxRecDepth 65536 in
set_option maxHeartbeats 40000000 in
theorem rm_cie {l : Launch} {Z : State} {a0 : Array Value} (G : Cl Z a0) (x y : Int32) (h : CI x y) :
    Met l Z EL1 (⟨"java/lang/CharacterDataLatin1", "equalsIgnoreCase", "(BB)Z"⟩ : MethodName) jdk_116_method_22_code 3 (some .boolean) ({ frames := 0, cells := 0, slots := 0, locals := 0 } : Room) #[.int x, .int y] [] [] (fun v σ ρ => v = some (.int 1) ∧ σ = [] ∧ ρ = []) := by
  refine Met.walk G.2.1 pn_7 #[.val (.int x), .val (.int y), .unset] (fun m => by first | (simp [entryFrame, mkF, argsToLocals, Value.category]; done) | rfl) ?_
  intro X T0 W0
  refine Go.iloadN (pc' := 1) W0 d_jdk_116_method_22_code_0 rfl rfl ?_
  refine Go.iloadN (pc' := 2) W0 d_jdk_116_method_22_code_1 rfl rfl ?_
  refine Go.icmp_ne (pc' := 5) W0 7 d_jdk_116_method_22_code_2 (by decide) rfl (fun (c1 : ¬ (x = y)) => ?_) (fun (c1 : x = y) => ?_)
  · refine Go.iloadN (pc' := 8) W0 d_jdk_116_method_22_code_7 rfl rfl ?_
    refine Go.sipush (pc' := 11) W0 (223 : Int32) d_jdk_116_method_22_code_8 (by decide) rfl ?_
    refine Go.iand (pc' := 12) W0 d_jdk_116_method_22_code_11 rfl ?_
    refine Go.istoreN (pc' := 13) W0 #[.val (.int x), .val (.int y), .val (.int (x &&& (223 : Int32)))] d_jdk_116_method_22_code_12 rfl rfl ?_
    refine Go.iloadN (pc' := 14) W0 d_jdk_116_method_22_code_13 rfl rfl ?_
    refine Go.bipush (pc' := 16) W0 (65 : Int32) d_jdk_116_method_22_code_14 (by decide) rfl ?_
    refine Go.icmp_ge (pc' := 19) W0 21 d_jdk_116_method_22_code_16 (by decide) rfl (fun (c2 : ¬ ((x &&& (223 : Int32)) < (65 : Int32))) => ?_) (fun (c2 : (x &&& (223 : Int32)) < (65 : Int32)) => ?_)
    · refine Go.iloadN (pc' := 22) W0 d_jdk_116_method_22_code_21 rfl rfl ?_
      refine Go.bipush (pc' := 24) W0 (90 : Int32) d_jdk_116_method_22_code_22 (by decide) rfl ?_
      refine Go.icmp_le (pc' := 27) W0 48 d_jdk_116_method_22_code_24 (by decide) rfl (fun (c3 : ¬ ((90 : Int32) < (x &&& (223 : Int32)))) => ?_) (fun (c3 : (90 : Int32) < (x &&& (223 : Int32))) => ?_)
      · refine Go.iloadN (pc' := 49) W0 d_jdk_116_method_22_code_48 rfl rfl ?_
        refine Go.iloadN (pc' := 50) W0 d_jdk_116_method_22_code_49 rfl rfl ?_
        refine Go.sipush (pc' := 53) W0 (223 : Int32) d_jdk_116_method_22_code_50 (by decide) rfl ?_
        refine Go.iand (pc' := 54) W0 d_jdk_116_method_22_code_53 rfl ?_
        refine Go.icmp_ne (pc' := 57) W0 61 d_jdk_116_method_22_code_54 (by decide) rfl (fun (c4 : ¬ ((x &&& (223 : Int32)) = (y &&& (223 : Int32)))) => ?_) (fun (c4 : (x &&& (223 : Int32)) = (y &&& (223 : Int32))) => ?_)
        · refine Go.iconst (pc' := 62) W0 (0 : Int32) d_jdk_116_method_22_code_61 (by decide) rfl ?_
          refine Go.nret (z' := (0 : Int32)) W0 (by simp) (by decide) d_jdk_116_method_22_code_62 (by first | exact Nat.le_of_ble_eq_true rfl | (simp; done) | (simp; omega) | omega) (by first | exact Nat.le_of_ble_eq_true rfl | (simp; done) | (simp; omega) | omega) ?_
          exact absurd h (by simp only [CI]; simp_all)
        · refine Go.iconst (pc' := 58) W0 (1 : Int32) d_jdk_116_method_22_code_57 (by decide) rfl ?_
          refine Go.goto W0 62 d_jdk_116_method_22_code_58 (by decide) ?_
          refine Go.nret (z' := (1 : Int32)) W0 (by simp) (by decide) d_jdk_116_method_22_code_62 (by first | exact Nat.le_of_ble_eq_true rfl | (simp; done) | (simp; omega) | omega) (by first | exact Nat.le_of_ble_eq_true rfl | (simp; done) | (simp; omega) | omega) ?_
          exact ⟨rfl, rfl, rfl⟩
      · refine Go.iloadN (pc' := 28) W0 d_jdk_116_method_22_code_27 rfl rfl ?_
        refine Go.sipush (pc' := 31) W0 (192 : Int32) d_jdk_116_method_22_code_28 (by decide) rfl ?_
        refine Go.icmp_lt (pc' := 34) W0 61 d_jdk_116_method_22_code_31 (by decide) rfl (fun (c5 : (x &&& (223 : Int32)) < (192 : Int32)) => ?_) (fun (c5 : ¬ ((x &&& (223 : Int32)) < (192 : Int32))) => ?_)
        · refine Go.iconst (pc' := 62) W0 (0 : Int32) d_jdk_116_method_22_code_61 (by decide) rfl ?_
          refine Go.nret (z' := (0 : Int32)) W0 (by simp) (by decide) d_jdk_116_method_22_code_62 (by first | exact Nat.le_of_ble_eq_true rfl | (simp; done) | (simp; omega) | omega) (by first | exact Nat.le_of_ble_eq_true rfl | (simp; done) | (simp; omega) | omega) ?_
          exact absurd h (by simp only [CI]; simp_all)
        · refine Go.iloadN (pc' := 35) W0 d_jdk_116_method_22_code_34 rfl rfl ?_
          refine Go.sipush (pc' := 38) W0 (222 : Int32) d_jdk_116_method_22_code_35 (by decide) rfl ?_
          refine Go.icmp_gt (pc' := 41) W0 61 d_jdk_116_method_22_code_38 (by decide) rfl (fun (c6 : (222 : Int32) < (x &&& (223 : Int32))) => ?_) (fun (c6 : ¬ ((222 : Int32) < (x &&& (223 : Int32)))) => ?_)
          · refine Go.iconst (pc' := 62) W0 (0 : Int32) d_jdk_116_method_22_code_61 (by decide) rfl ?_
            refine Go.nret (z' := (0 : Int32)) W0 (by simp) (by decide) d_jdk_116_method_22_code_62 (by first | exact Nat.le_of_ble_eq_true rfl | (simp; done) | (simp; omega) | omega) (by first | exact Nat.le_of_ble_eq_true rfl | (simp; done) | (simp; omega) | omega) ?_
            exact absurd h (by simp only [CI]; simp_all)
          · refine Go.iloadN (pc' := 42) W0 d_jdk_116_method_22_code_41 rfl rfl ?_
            refine Go.sipush (pc' := 45) W0 (215 : Int32) d_jdk_116_method_22_code_42 (by decide) rfl ?_
            refine Go.icmp_eq (pc' := 48) W0 61 d_jdk_116_method_22_code_45 (by decide) rfl (fun (c7 : (x &&& (223 : Int32)) = (215 : Int32)) => ?_) (fun (c7 : ¬ ((x &&& (223 : Int32)) = (215 : Int32))) => ?_)
            · refine Go.iconst (pc' := 62) W0 (0 : Int32) d_jdk_116_method_22_code_61 (by decide) rfl ?_
              refine Go.nret (z' := (0 : Int32)) W0 (by simp) (by decide) d_jdk_116_method_22_code_62 (by first | exact Nat.le_of_ble_eq_true rfl | (simp; done) | (simp; omega) | omega) (by first | exact Nat.le_of_ble_eq_true rfl | (simp; done) | (simp; omega) | omega) ?_
              exact absurd h (by simp only [CI]; simp_all)
            · refine Go.iloadN (pc' := 49) W0 d_jdk_116_method_22_code_48 rfl rfl ?_
              refine Go.iloadN (pc' := 50) W0 d_jdk_116_method_22_code_49 rfl rfl ?_
              refine Go.sipush (pc' := 53) W0 (223 : Int32) d_jdk_116_method_22_code_50 (by decide) rfl ?_
              refine Go.iand (pc' := 54) W0 d_jdk_116_method_22_code_53 rfl ?_
              refine Go.icmp_ne (pc' := 57) W0 61 d_jdk_116_method_22_code_54 (by decide) rfl (fun (c8 : ¬ ((x &&& (223 : Int32)) = (y &&& (223 : Int32)))) => ?_) (fun (c8 : (x &&& (223 : Int32)) = (y &&& (223 : Int32))) => ?_)
              · refine Go.iconst (pc' := 62) W0 (0 : Int32) d_jdk_116_method_22_code_61 (by decide) rfl ?_
                refine Go.nret (z' := (0 : Int32)) W0 (by simp) (by decide) d_jdk_116_method_22_code_62 (by first | exact Nat.le_of_ble_eq_true rfl | (simp; done) | (simp; omega) | omega) (by first | exact Nat.le_of_ble_eq_true rfl | (simp; done) | (simp; omega) | omega) ?_
                exact absurd h (by simp only [CI]; simp_all)
              · refine Go.iconst (pc' := 58) W0 (1 : Int32) d_jdk_116_method_22_code_57 (by decide) rfl ?_
                refine Go.goto W0 62 d_jdk_116_method_22_code_58 (by decide) ?_
                refine Go.nret (z' := (1 : Int32)) W0 (by simp) (by decide) d_jdk_116_method_22_code_62 (by first | exact Nat.le_of_ble_eq_true rfl | (simp; done) | (simp; omega) | omega) (by first | exact Nat.le_of_ble_eq_true rfl | (simp; done) | (simp; omega) | omega) ?_
                exact ⟨rfl, rfl, rfl⟩
    · refine Go.iconst (pc' := 20) W0 (0 : Int32) d_jdk_116_method_22_code_19 (by decide) rfl ?_
      refine Go.nret (z' := (0 : Int32)) W0 (by simp) (by decide) d_jdk_116_method_22_code_20 (by first | exact Nat.le_of_ble_eq_true rfl | (simp; done) | (simp; omega) | omega) (by first | exact Nat.le_of_ble_eq_true rfl | (simp; done) | (simp; omega) | omega) ?_
      exact absurd h (by simp only [CI]; simp_all)
  · refine Go.iconst (pc' := 6) W0 (1 : Int32) d_jdk_116_method_22_code_5 (by decide) rfl ?_
    refine Go.nret (z' := (1 : Int32)) W0 (by simp) (by decide) d_jdk_116_method_22_code_6 (by first | exact Nat.le_of_ble_eq_true rfl | (simp; done) | (simp; omega) | omega) (by first | exact Nat.le_of_ble_eq_true rfl | (simp; done) | (simp; omega) | omega) ?_
    exact ⟨rfl, rfl, rfl⟩
theorem d_jdk_43_method_30_code_0 : decode jdk_43_method_30_code 0 = .ok (.iload_n 1, 1) := by decide +kernel
theorem d_jdk_43_method_30_code_1 : decode jdk_43_method_30_code 1 = .ok (.iload 4, 2) := by decide +kernel
theorem d_jdk_43_method_30_code_3 : decode jdk_43_method_30_code 3 = .ok (.iadd, 1) := by decide +kernel
theorem d_jdk_43_method_30_code_4 : decode jdk_43_method_30_code 4 = .ok (.istore 5, 2) := by decide +kernel
theorem d_jdk_43_method_30_code_6 : decode jdk_43_method_30_code 6 = .ok (.iload_n 1, 1) := by decide +kernel
theorem d_jdk_43_method_30_code_7 : decode jdk_43_method_30_code 7 = .ok (.iload 5, 2) := by decide +kernel
theorem d_jdk_43_method_30_code_9 : decode jdk_43_method_30_code 9 = .ok (.if_icmp .ge 34, 3) := by decide +kernel
theorem d_jdk_43_method_30_code_12 : decode jdk_43_method_30_code 12 = .ok (.aload_n 0, 1) := by decide +kernel
theorem d_jdk_43_method_30_code_13 : decode jdk_43_method_30_code 13 = .ok (.iload_n 1, 1) := by decide +kernel
theorem d_jdk_43_method_30_code_14 : decode jdk_43_method_30_code 14 = .ok (.iinc 1 1, 3) := by decide +kernel
theorem d_jdk_43_method_30_code_17 : decode jdk_43_method_30_code 17 = .ok (.baload, 1) := by decide +kernel
theorem d_jdk_43_method_30_code_18 : decode jdk_43_method_30_code 18 = .ok (.istore 6, 2) := by decide +kernel
theorem d_jdk_43_method_30_code_20 : decode jdk_43_method_30_code 20 = .ok (.aload_n 2, 1) := by decide +kernel
theorem d_jdk_43_method_30_code_21 : decode jdk_43_method_30_code 21 = .ok (.iload_n 3, 1) := by decide +kernel
theorem d_jdk_43_method_30_code_22 : decode jdk_43_method_30_code 22 = .ok (.iinc 3 1, 3) := by decide +kernel
theorem d_jdk_43_method_30_code_25 : decode jdk_43_method_30_code 25 = .ok (.baload, 1) := by decide +kernel
theorem d_jdk_43_method_30_code_26 : decode jdk_43_method_30_code 26 = .ok (.istore 7, 2) := by decide +kernel
theorem d_jdk_43_method_30_code_28 : decode jdk_43_method_30_code 28 = .ok (.iload 6, 2) := by decide +kernel
theorem d_jdk_43_method_30_code_30 : decode jdk_43_method_30_code 30 = .ok (.iload 7, 2) := by decide +kernel
theorem d_jdk_43_method_30_code_32 : decode jdk_43_method_30_code 32 = .ok (.invokestatic 153, 3) := by decide +kernel
theorem d_jdk_43_method_30_code_35 : decode jdk_43_method_30_code 35 = .ok (.ifCond .eq 6, 3) := by decide +kernel
theorem d_jdk_43_method_30_code_38 : decode jdk_43_method_30_code 38 = .ok (.goto (-32), 3) := by decide +kernel
theorem d_jdk_43_method_30_code_41 : decode jdk_43_method_30_code 41 = .ok (.iconst 0, 1) := by decide +kernel
theorem d_jdk_43_method_30_code_42 : decode jdk_43_method_30_code 42 = .ok (.ireturn, 1) := by decide +kernel
theorem d_jdk_43_method_30_code_43 : decode jdk_43_method_30_code 43 = .ok (.iconst 1, 1) := by decide +kernel
theorem d_jdk_43_method_30_code_44 : decode jdk_43_method_30_code 44 = .ok (.ireturn, 1) := by decide +kernel
theorem w_68 {Z : State} {a0 : Array Value} (G : Cl Z a0) : (Jvm.Cond.methodLink "java/lang/StringLatin1" 153 (⟨"java/lang/CharacterDataLatin1", "equalsIgnoreCase", "(BB)Z"⟩ : MethodName)).before a0 Z = true := G.1 _ (List.mem_of_getElem? (l := tables_1) (i := 68) rfl)
theorem w_69 {Z : State} {a0 : Array Value} (G : Cl Z a0) : (Jvm.Cond.static (⟨"java/lang/CharacterDataLatin1", "equalsIgnoreCase", "(BB)Z"⟩ : MethodName)).before a0 Z = true := G.1 _ (List.mem_of_getElem? (l := tables_1) (i := 69) rfl)
theorem w_70 {Z : State} {a0 : Array Value} (G : Cl Z a0) : (Jvm.Cond.initialized "java/lang/CharacterDataLatin1").before a0 Z = true := G.1 _ (List.mem_of_getElem? (l := tables_1) (i := 70) rfl)
theorem w_71 {Z : State} {a0 : Array Value} (G : Cl Z a0) : (Jvm.Cond.code (⟨"java/lang/CharacterDataLatin1", "equalsIgnoreCase", "(BB)Z"⟩ : MethodName) jdk_116_method_22_code 3 (some .boolean)).before a0 Z = true := G.1 _ (List.mem_of_getElem? (l := tables_1) (i := 71) rfl)
theorem pd_8 : parseMethodDescriptor "(BB)Z" = some ⟨[.byte, .byte], some .boolean⟩ := by decide +kernel
theorem lp_rci {l : Launch} {Z : State} {a0 : Array Value} (G : Cl Z a0) {X : Ctx} {b b' : Addr} {cb cb' : Cell} {cs ds : List Int32} (A : ArrC Z cb .byte (latB cs)) (B : ArrC Z cb' .byte (latB ds)) (hn : cs.length < 2147483648) (he : cs.length = ds.length) (h : AllCI cs ds) :
    ∀ (j i : Nat), i + j = cs.length → ∀ (op oq : Slot), One op → One oq → ∀ (T : State), Wk l Z EL1 ({ frames := 1, cells := 0, slots := 0, locals := 16 } : Room) "java/lang/StringLatin1" jdk_43_method_30_code 8 (some .boolean) "regionMatchesCI" X [] [(b, cb), (b', cb')] T 0 0 → Go Z EL1 0 0 (fun v σ ρ => v = some (.int 1) ∧ σ = [] ∧ ρ = []) X T 6 #[.val (.ref b), .val (.int i.toInt32), .val (.ref b'), .val (.int i.toInt32), .val (.int cs.length.toInt32), .val (.int cs.length.toInt32), op, oq] []
  | 0, i, hij, op, oq, hp, hq, T, W => by
    obtain rfl : i = cs.length := by omega
    refine Go.iloadN (pc' := 7) W d_jdk_43_method_30_code_6 rfl rfl ?_
    refine Go.iload (pc' := 9) W d_jdk_43_method_30_code_7 rfl rfl ?_
    refine Go.icmp_ge (pc' := 12) W 43 d_jdk_43_method_30_code_9 (by decide) rfl (fun _ => ?_) (fun q => absurd q (by rw [i32_lt hn hn]; omega))
    refine Go.iconst (pc' := 44) W (1 : Int32) d_jdk_43_method_30_code_43 (by decide) rfl ?_
    exact Go.nret (z' := 1) (W.keepRo [] (ρ' := []) rfl) (by simp) (by decide) d_jdk_43_method_30_code_44 (by decide) (by decide) ⟨rfl, rfl, rfl⟩
  | j + 1, i, hij, op, oq, hp, hq, T, W => by
    have hi : i < cs.length := by omega
    obtain ⟨x, hx⟩ : ∃ x, cs[i]? = some x := ⟨_, List.getElem?_eq_getElem hi⟩
    obtain ⟨y, hy⟩ : ∃ y, ds[i]? = some y := ⟨_, List.getElem?_eq_getElem (by omega)⟩
    refine Go.iloadN (pc' := 7) W d_jdk_43_method_30_code_6 rfl rfl ?_
    refine Go.iload (pc' := 9) W d_jdk_43_method_30_code_7 rfl rfl ?_
    refine Go.icmp_ge (pc' := 12) W 43 d_jdk_43_method_30_code_9 (by decide) rfl (fun q => absurd ((i32_lt (by omega) hn).mpr hi) q) (fun _ => ?_)
    refine Go.aloadN (pc' := 13) W d_jdk_43_method_30_code_12 rfl rfl rfl ?_
    refine Go.iloadN (pc' := 14) W d_jdk_43_method_30_code_13 rfl rfl ?_
    refine Go.iinc (pc' := 17) W (1 : Int32) #[.val (.ref b), .val (.int (i.toInt32 + 1)), .val (.ref b'), .val (.int i.toInt32), .val (.int cs.length.toInt32), .val (.int cs.length.toInt32), op, oq] d_jdk_43_method_30_code_14 rfl (by decide) rfl rfl ?_
    refine Go.baload (pc' := 18) W (Or.inr (Or.inl (List.mem_of_getElem? (i := 0) rfl))) A i (i32_nn (by omega)) (i32_clamp (by omega)) (v := lo8 x) (by rw [latB, List.getElem?_map, hx]; rfl) d_jdk_43_method_30_code_17 rfl ?_
    refine Go.istore (pc' := 20) W #[.val (.ref b), .val (.int (i.toInt32 + 1)), .val (.ref b'), .val (.int i.toInt32), .val (.int cs.length.toInt32), .val (.int cs.length.toInt32), .val (.int x.toInt8.toInt32), oq] d_jdk_43_method_30_code_18 (XS.store1 (o := op) rfl hp rfl) rfl ?_
    refine Go.aloadN (pc' := 21) W d_jdk_43_method_30_code_20 rfl rfl rfl ?_
    refine Go.iloadN (pc' := 22) W d_jdk_43_method_30_code_21 rfl rfl ?_
    refine Go.iinc (pc' := 25) W (1 : Int32) #[.val (.ref b), .val (.int (i.toInt32 + 1)), .val (.ref b'), .val (.int (i.toInt32 + 1)), .val (.int cs.length.toInt32), .val (.int cs.length.toInt32), .val (.int x.toInt8.toInt32), oq] d_jdk_43_method_30_code_22 rfl (by decide) rfl rfl ?_
    refine Go.baload (pc' := 26) W (Or.inr (Or.inl (List.mem_of_getElem? (i := 1) rfl))) B i (i32_nn (by omega)) (i32_clamp (by omega)) (v := lo8 y) (by rw [latB, List.getElem?_map, hy]; rfl) d_jdk_43_method_30_code_25 rfl ?_
    refine Go.istore (pc' := 28) W #[.val (.ref b), .val (.int (i.toInt32 + 1)), .val (.ref b'), .val (.int (i.toInt32 + 1)), .val (.int cs.length.toInt32), .val (.int cs.length.toInt32), .val (.int x.toInt8.toInt32), .val (.int y.toInt8.toInt32)] d_jdk_43_method_30_code_26 (XS.store1 (o := oq) rfl hq rfl) rfl ?_
    refine Go.iload (pc' := 30) W d_jdk_43_method_30_code_28 rfl rfl ?_
    refine Go.iload (pc' := 32) W d_jdk_43_method_30_code_30 rfl rfl ?_
    refine Go.static (pc' := 35) W (rm_cie G x.toInt8.toInt32 y.toInt8.toInt32 (h i x y hx hy)) (w_68 G) (w_69 G) (w_70 G) (w_71 G) (by decide) [] [] (σf := []) rfl rfl [.int x.toInt8.toInt32, .int y.toInt8.toInt32] [] rfl (lenOf pd_8 rfl) rfl rfl d_jdk_43_method_30_code_32 rfl (by first | exact Nat.le_of_ble_eq_true rfl | (simp; done) | (simp; omega) | omega) (by first | exact Nat.le_of_ble_eq_true rfl | (simp; done) | (simp; omega) | omega) (by first | exact Nat.le_of_ble_eq_true rfl | (simp; done) | (simp; omega) | omega) (by first | exact Nat.le_of_ble_eq_true rfl | (simp; done) | (simp; omega) | omega) ?_
    rintro _ _ _ T2 ⟨rfl, rfl, rfl⟩ W2
    refine Go.if_eq (pc' := 38) W2 41 d_jdk_43_method_30_code_35 (by decide) rfl (fun q => absurd q (by decide)) (fun _ => ?_)
    refine Go.goto W2 6 d_jdk_43_method_30_code_38 (by decide) ?_
    rw [i32_succ (by omega)]
    exact lp_rci G A B hn he h j (i + 1) (by omega) _ _ (One.val rfl) (One.val rfl) T2 W2
theorem pn_9 : plainName "java/lang/StringLatin1" = true := by first | (simp [plainName, overriddenIn]; done) | decide +kernel
theorem rm_rci {l : Launch} {Z : State} {a0 : Array Value} (G : Cl Z a0) (b b' : Addr) (cb cb' : Cell) (cs ds : List Int32) (A : ArrC Z cb .byte (latB cs)) (B : ArrC Z cb' .byte (latB ds)) (he : cs.length = ds.length) (h : AllCI cs ds) :
    Met l Z EL1 (⟨"java/lang/StringLatin1", "regionMatchesCI", "([BI[BII)Z"⟩ : MethodName) jdk_43_method_30_code 8 (some .boolean) ({ frames := 1, cells := 0, slots := 0, locals := 16 } : Room) #[.ref b, .int 0, .ref b', .int 0, .int cs.length.toInt32] [] [(b, cb), (b', cb')] (fun v σ ρ => v = some (.int 1) ∧ σ = [] ∧ ρ = []) := by
  have hn : cs.length < 2147483648 := by have := A.2.2.2.2; rwa [latB, List.length_map] at this
  refine Met.walk G.2.1 pn_9 #[.val (.ref b), .val (.int 0), .val (.ref b'), .val (.int 0), .val (.int cs.length.toInt32), .unset, .unset, .unset] (fun m => by first | (simp [entryFrame, mkF, argsToLocals, Value.category]; done) | rfl) ?_
  intro X T W
  refine Go.iloadN (pc' := 1) W d_jdk_43_method_30_code_0 rfl rfl ?_
  refine Go.iload (pc' := 3) W d_jdk_43_method_30_code_1 rfl rfl ?_
  refine Go.iadd (pc' := 4) W d_jdk_43_method_30_code_3 rfl ?_
  rw [Int32.zero_add]
  refine Go.istore (pc' := 6) W #[.val (.ref b), .val (.int 0), .val (.ref b'), .val (.int 0), .val (.int cs.length.toInt32), .val (.int cs.length.toInt32), .unset, .unset] d_jdk_43_method_30_code_4 rfl rfl ?_
  exact lp_rci G A B hn he h cs.length 0 (by omega) .unset .unset One.u One.u T W
theorem d_jdk_42_method_74_code_0 : decode jdk_42_method_74_code 0 = .ok (.iload_n 1, 1) := by decide +kernel
theorem d_jdk_42_method_74_code_1 : decode jdk_42_method_74_code 1 = .ok (.ifCond .ne 14, 3) := by decide +kernel
theorem d_jdk_42_method_74_code_15 : decode jdk_42_method_74_code 15 = .ok (.iload 4, 2) := by decide +kernel
theorem d_jdk_42_method_74_code_17 : decode jdk_42_method_74_code 17 = .ok (.ifCond .lt 38, 3) := by decide +kernel
theorem d_jdk_42_method_74_code_20 : decode jdk_42_method_74_code 20 = .ok (.iload_n 2, 1) := by decide +kernel
theorem d_jdk_42_method_74_code_21 : decode jdk_42_method_74_code 21 = .ok (.ifCond .lt 34, 3) := by decide +kernel
theorem d_jdk_42_method_74_code_24 : decode jdk_42_method_74_code 24 = .ok (.iload_n 2, 1) := by decide +kernel
theorem d_jdk_42_method_74_code_25 : decode jdk_42_method_74_code 25 = .ok (.i2l, 1) := by decide +kernel
theorem d_jdk_42_method_74_code_26 : decode jdk_42_method_74_code 26 = .ok (.aload_n 0, 1) := by decide +kernel
theorem d_jdk_42_method_74_code_27 : decode jdk_42_method_74_code 27 = .ok (.invokevirtual 505, 3) := by decide +kernel
theorem w_49 {Z : State} {a0 : Array Value} (G : Cl Z a0) : (Jvm.Cond.methodLink "java/lang/String" 505 (⟨"java/lang/String", "length", "()I"⟩ : MethodName)).before a0 Z = true := G.1 _ (List.mem_of_getElem? (l := tables_1) (i := 49) rfl)
theorem w_53 {Z : State} {a0 : Array Value} (G : Cl Z a0) : (Jvm.Cond.code (⟨"java/lang/String", "length", "()I"⟩ : MethodName) jdk_42_method_54_code 1 (some .int)).before a0 Z = true := G.1 _ (List.mem_of_getElem? (l := tables_1) (i := 53) rfl)
theorem pd_10 : parseMethodDescriptor "()I" = some ⟨[], some .int⟩ := by decide +kernel
theorem w_50 {Z : State} {a0 : Array Value} (G : Cl Z a0) : (Jvm.Cond.declares (⟨"java/lang/String", "length", "()I"⟩ : MethodName)).before a0 Z = true := G.1 _ (List.mem_of_getElem? (l := tables_1) (i := 50) rfl)
theorem w_52 {Z : State} {a0 : Array Value} (G : Cl Z a0) : (Jvm.Cond.selects "java/lang/String" (⟨"java/lang/String", "length", "()I"⟩ : MethodName) (⟨"java/lang/String", "length", "()I"⟩ : MethodName)).before a0 Z = true := G.1 _ (List.mem_of_getElem? (l := tables_1) (i := 52) rfl)
theorem w_51 {Z : State} {a0 : Array Value} (G : Cl Z a0) : (Jvm.Cond.instanceMethod (⟨"java/lang/String", "length", "()I"⟩ : MethodName)).before a0 Z = true := G.1 _ (List.mem_of_getElem? (l := tables_1) (i := 51) rfl)
theorem d_jdk_42_method_74_code_30 : decode jdk_42_method_74_code 30 = .ok (.i2l, 1) := by decide +kernel
theorem d_jdk_42_method_74_code_31 : decode jdk_42_method_74_code 31 = .ok (.iload 5, 2) := by decide +kernel
theorem d_jdk_42_method_74_code_33 : decode jdk_42_method_74_code 33 = .ok (.i2l, 1) := by decide +kernel
theorem d_jdk_42_method_74_code_34 : decode jdk_42_method_74_code 34 = .ok (.lsub, 1) := by decide +kernel
theorem d_jdk_42_method_74_code_35 : decode jdk_42_method_74_code 35 = .ok (.lcmp, 1) := by decide +kernel
theorem d_jdk_42_method_74_code_36 : decode jdk_42_method_74_code 36 = .ok (.ifCond .gt 19, 3) := by decide +kernel
theorem d_jdk_42_method_74_code_39 : decode jdk_42_method_74_code 39 = .ok (.iload 4, 2) := by decide +kernel
theorem d_jdk_42_method_74_code_41 : decode jdk_42_method_74_code 41 = .ok (.i2l, 1) := by decide +kernel
theorem d_jdk_42_method_74_code_42 : decode jdk_42_method_74_code 42 = .ok (.aload_n 3, 1) := by decide +kernel
theorem d_jdk_42_method_74_code_43 : decode jdk_42_method_74_code 43 = .ok (.invokevirtual 505, 3) := by decide +kernel
theorem d_jdk_42_method_74_code_46 : decode jdk_42_method_74_code 46 = .ok (.i2l, 1) := by decide +kernel
theorem d_jdk_42_method_74_code_47 : decode jdk_42_method_74_code 47 = .ok (.iload 5, 2) := by decide +kernel
theorem d_jdk_42_method_74_code_49 : decode jdk_42_method_74_code 49 = .ok (.i2l, 1) := by decide +kernel
theorem d_jdk_42_method_74_code_50 : decode jdk_42_method_74_code 50 = .ok (.lsub, 1) := by decide +kernel
theorem d_jdk_42_method_74_code_51 : decode jdk_42_method_74_code 51 = .ok (.lcmp, 1) := by decide +kernel
theorem d_jdk_42_method_74_code_52 : decode jdk_42_method_74_code 52 = .ok (.ifCond .le 5, 3) := by decide +kernel
theorem d_jdk_42_method_74_code_57 : decode jdk_42_method_74_code 57 = .ok (.aload_n 0, 1) := by decide +kernel
theorem d_jdk_42_method_74_code_58 : decode jdk_42_method_74_code 58 = .ok (.getfield 9, 3) := by decide +kernel
theorem d_jdk_42_method_74_code_61 : decode jdk_42_method_74_code 61 = .ok (.astore 6, 2) := by decide +kernel
theorem d_jdk_42_method_74_code_63 : decode jdk_42_method_74_code 63 = .ok (.aload_n 3, 1) := by decide +kernel
theorem d_jdk_42_method_74_code_64 : decode jdk_42_method_74_code 64 = .ok (.getfield 9, 3) := by decide +kernel
theorem d_jdk_42_method_74_code_67 : decode jdk_42_method_74_code 67 = .ok (.astore 7, 2) := by decide +kernel
theorem d_jdk_42_method_74_code_69 : decode jdk_42_method_74_code 69 = .ok (.aload_n 0, 1) := by decide +kernel
theorem d_jdk_42_method_74_code_70 : decode jdk_42_method_74_code 70 = .ok (.invokevirtual 335, 3) := by decide +kernel
theorem d_jdk_42_method_74_code_73 : decode jdk_42_method_74_code 73 = .ok (.istore 8, 2) := by decide +kernel
theorem d_jdk_42_method_74_code_75 : decode jdk_42_method_74_code 75 = .ok (.iload 8, 2) := by decide +kernel
theorem d_jdk_42_method_74_code_77 : decode jdk_42_method_74_code 77 = .ok (.aload_n 3, 1) := by decide +kernel
theorem d_jdk_42_method_74_code_78 : decode jdk_42_method_74_code 78 = .ok (.invokevirtual 335, 3) := by decide +kernel
theorem d_jdk_42_method_74_code_81 : decode jdk_42_method_74_code 81 = .ok (.if_icmp .ne 36, 3) := by decide +kernel
theorem d_jdk_42_method_74_code_84 : decode jdk_42_method_74_code 84 = .ok (.iload 8, 2) := by decide +kernel
theorem d_jdk_42_method_74_code_86 : decode jdk_42_method_74_code 86 = .ok (.ifCond .ne 18, 3) := by decide +kernel
theorem d_jdk_42_method_74_code_89 : decode jdk_42_method_74_code 89 = .ok (.aload 6, 2) := by decide +kernel
theorem d_jdk_42_method_74_code_91 : decode jdk_42_method_74_code 91 = .ok (.iload_n 2, 1) := by decide +kernel
theorem d_jdk_42_method_74_code_92 : decode jdk_42_method_74_code 92 = .ok (.aload 7, 2) := by decide +kernel
theorem d_jdk_42_method_74_code_94 : decode jdk_42_method_74_code 94 = .ok (.iload 4, 2) := by decide +kernel
theorem d_jdk_42_method_74_code_96 : decode jdk_42_method_74_code 96 = .ok (.iload 5, 2) := by decide +kernel
theorem d_jdk_42_method_74_code_98 : decode jdk_42_method_74_code 98 = .ok (.invokestatic 613, 3) := by decide +kernel
theorem w_64 {Z : State} {a0 : Array Value} (G : Cl Z a0) : (Jvm.Cond.methodLink "java/lang/String" 613 (⟨"java/lang/StringLatin1", "regionMatchesCI", "([BI[BII)Z"⟩ : MethodName)).before a0 Z = true := G.1 _ (List.mem_of_getElem? (l := tables_1) (i := 64) rfl)
theorem w_66 {Z : State} {a0 : Array Value} (G : Cl Z a0) : (Jvm.Cond.initialized "java/lang/StringLatin1").before a0 Z = true := G.1 _ (List.mem_of_getElem? (l := tables_1) (i := 66) rfl)
theorem w_67 {Z : State} {a0 : Array Value} (G : Cl Z a0) : (Jvm.Cond.code (⟨"java/lang/StringLatin1", "regionMatchesCI", "([BI[BII)Z"⟩ : MethodName) jdk_43_method_30_code 8 (some .boolean)).before a0 Z = true := G.1 _ (List.mem_of_getElem? (l := tables_1) (i := 67) rfl)
theorem pd_11 : parseMethodDescriptor "([BI[BII)Z" = some ⟨[(.array .byte), .int, (.array .byte), .int, .int], some .boolean⟩ := by decide +kernel
theorem w_65 {Z : State} {a0 : Array Value} (G : Cl Z a0) : (Jvm.Cond.static (⟨"java/lang/StringLatin1", "regionMatchesCI", "([BI[BII)Z"⟩ : MethodName)).before a0 Z = true := G.1 _ (List.mem_of_getElem? (l := tables_1) (i := 65) rfl)
theorem d_jdk_42_method_74_code_101 : decode jdk_42_method_74_code 101 = .ok (.goto 15, 3) := by decide +kernel
theorem d_jdk_42_method_74_code_116 : decode jdk_42_method_74_code 116 = .ok (.ireturn, 1) := by decide +kernel
set_option maxRecDepth 65536 in
set_option maxHeartbeats 40000000 in
theorem rm_reg {l : Launch} {Z : State} {a0 : Array Value} (G : Cl Z a0) (a a' b b' : Addr) (c c' cb cb' : Cell) (cs ds : List Int32) (S : StrL Z c b cb cs) (S' : StrL Z c' b' cb' ds) (he : cs.length = ds.length) (h : AllCI cs ds) :
    Met l Z EL1 (⟨"java/lang/String", "regionMatches", "(ZILjava/lang/String;II)Z"⟩ : MethodName) jdk_42_method_74_code 9 (some .boolean) ({ frames := 2, cells := 0, slots := 0, locals := 40 } : Room) #[.ref a, .int (1 : Int32), .int (0 : Int32), .ref a', .int (0 : Int32), .int cs.length.toInt32] [] [(a, c), (b, cb), (a', c'), (b', cb')] (fun v σ ρ => v = some (.int 1) ∧ σ = [] ∧ ρ = []) := by
  refine Met.walk G.2.1 pn_2 #[.val (.ref a), .val (.int (1 : Int32)), .val (.int (0 : Int32)), .val (.ref a'), .val (.int (0 : Int32)), .val (.int cs.length.toInt32), .unset, .unset, .unset] (fun m => by first | (simp [entryFrame, mkF, argsToLocals, Value.category]; done) | rfl) ?_
  intro X T0 W0
  refine Go.iloadN (pc' := 1) W0 d_jdk_42_method_74_code_0 rfl rfl ?_
  refine Go.if_ne (pc' := 4) W0 15 d_jdk_42_method_74_code_1 (by decide) rfl (fun _ => ?_) (fun q => absurd q (by decide))
  refine Go.iload (pc' := 17) W0 d_jdk_42_method_74_code_15 rfl rfl ?_
  refine Go.if_lt (pc' := 20) W0 55 d_jdk_42_method_74_code_17 (by decide) rfl (fun q => absurd q (by decide)) (fun _ => ?_)
  refine Go.iloadN (pc' := 21) W0 d_jdk_42_method_74_code_20 rfl rfl ?_
  refine Go.if_lt (pc' := 24) W0 55 d_jdk_42_method_74_code_21 (by decide) rfl (fun q => absurd q (by decide)) (fun _ => ?_)
  refine Go.iloadN (pc' := 25) W0 d_jdk_42_method_74_code_24 rfl rfl ?_
  refine Go.i2l (pc' := 26) W0 d_jdk_42_method_74_code_25 rfl ?_
  refine Go.aloadN (pc' := 27) W0 d_jdk_42_method_74_code_26 rfl rfl rfl ?_
  refine Go.virtual (pc' := 30) W0 (rm_len G a b c cb cs S) (Or.inr (Or.inl (List.mem_of_getElem? (i := 0) rfl))) S.1 (w_49 G) (w_50 G) (w_52 G) (w_51 G) (w_8 G) (w_53 G) (by decide) [] [0, 1] (σf := []) rfl rfl [] [(.long ((0 : Int32).toInt64))] rfl (lenOf pd_10 rfl) rfl rfl d_jdk_42_method_74_code_27 rfl (by first | exact Nat.le_of_ble_eq_true rfl | (simp; done) | (simp; omega) | omega) (by first | exact Nat.le_of_ble_eq_true rfl | (simp; done) | (simp; omega) | omega) (by first | exact Nat.le_of_ble_eq_true rfl | (simp; done) | (simp; omega) | omega) (by first | exact Nat.le_of_ble_eq_true rfl | (simp; done) | (simp; omega) | omega) ?_
  rintro _ _ _ T1 ⟨rfl, rfl, rfl⟩ W2
  replace W2 : Wk l Z EL1 ({ frames := 2, cells := 0, slots := 0, locals := 40 } : Room) "java/lang/String" jdk_42_method_74_code 9 (some .boolean) "regionMatches" X [] [(a, c), (b, cb), (a', c'), (b', cb')] T1 0 (0) := W2
  show Go Z EL1 _ _ _ X T1 30 #[.val (.ref a), .val (.int (1 : Int32)), .val (.int (0 : Int32)), .val (.ref a'), .val (.int (0 : Int32)), .val (.int cs.length.toInt32), .unset, .unset, .unset] [(.int cs.length.toInt32), (.long ((0 : Int32).toInt64))]
  refine Go.i2l (pc' := 31) W2 d_jdk_42_method_74_code_30 rfl ?_
  refine Go.iload (pc' := 33) W2 d_jdk_42_method_74_code_31 rfl rfl ?_
  refine Go.i2l (pc' := 34) W2 d_jdk_42_method_74_code_33 rfl ?_
  refine Go.lsub (pc' := 35) W2 d_jdk_42_method_74_code_34 rfl ?_
  refine Go.lcmp (pc' := 36) W2 d_jdk_42_method_74_code_35 rfl ?_
  refine Go.if_gt (pc' := 39) W2 55 d_jdk_42_method_74_code_36 (by decide) rfl (fun q => absurd q (by rw [Int64.sub_self]; decide)) (fun _ => ?_)
  refine Go.iload (pc' := 41) W2 d_jdk_42_method_74_code_39 rfl rfl ?_
  refine Go.i2l (pc' := 42) W2 d_jdk_42_method_74_code_41 rfl ?_
  refine Go.aloadN (pc' := 43) W2 d_jdk_42_method_74_code_42 rfl rfl rfl ?_
  refine Go.virtual (pc' := 46) W2 (rm_len G a' b' c' cb' ds S') (Or.inr (Or.inl (List.mem_of_getElem? (i := 2) rfl))) S'.1 (w_49 G) (w_50 G) (w_52 G) (w_51 G) (w_8 G) (w_53 G) (by decide) [] [2, 3] (σf := []) rfl rfl [] [(.long ((0 : Int32).toInt64))] rfl (lenOf pd_10 rfl) rfl rfl d_jdk_42_method_74_code_43 rfl (by first | exact Nat.le_of_ble_eq_true rfl | (simp; done) | (simp; omega) | omega) (by first | exact Nat.le_of_ble_eq_true rfl | (simp; done) | (simp; omega) | omega) (by first | exact Nat.le_of_ble_eq_true rfl | (simp; done) | (simp; omega) | omega) (by first | exact Nat.le_of_ble_eq_true rfl | (simp; done) | (simp; omega) | omega) ?_
  rintro _ _ _ T3 ⟨rfl, rfl, rfl⟩ W4
  replace W4 : Wk l Z EL1 ({ frames := 2, cells := 0, slots := 0, locals := 40 } : Room) "java/lang/String" jdk_42_method_74_code 9 (some .boolean) "regionMatches" X [] [(a, c), (b, cb), (a', c'), (b', cb')] T3 0 (0) := W4
  show Go Z EL1 _ _ _ X T3 46 #[.val (.ref a), .val (.int (1 : Int32)), .val (.int (0 : Int32)), .val (.ref a'), .val (.int (0 : Int32)), .val (.int cs.length.toInt32), .unset, .unset, .unset] [(.int ds.length.toInt32), (.long ((0 : Int32).toInt64))]
  refine Go.i2l (pc' := 47) W4 d_jdk_42_method_74_code_46 rfl ?_
  refine Go.iload (pc' := 49) W4 d_jdk_42_method_74_code_47 rfl rfl ?_
  refine Go.i2l (pc' := 50) W4 d_jdk_42_method_74_code_49 rfl ?_
  refine Go.lsub (pc' := 51) W4 d_jdk_42_method_74_code_50 rfl ?_
  refine Go.lcmp (pc' := 52) W4 d_jdk_42_method_74_code_51 rfl ?_
  refine Go.if_le (pc' := 55) W4 57 d_jdk_42_method_74_code_52 (by decide) rfl (fun _ => ?_) (fun q => absurd q (by rw [← he, Int64.sub_self]; decide))
  refine Go.aloadN (pc' := 58) W4 d_jdk_42_method_74_code_57 rfl rfl rfl ?_
  refine Go.getfield (pc' := 61) W4 (Or.inr (Or.inl (List.mem_of_getElem? (i := 0) rfl))) (w_33 G) Via.refl S.2.2.1 d_jdk_42_method_74_code_58 rfl (fun T5 W6 => ?_)
  refine Go.astore (pc' := 63) W6 #[.val (.ref a), .val (.int (1 : Int32)), .val (.int (0 : Int32)), .val (.ref a'), .val (.int (0 : Int32)), .val (.int cs.length.toInt32), .val (.ref b), .unset, .unset] d_jdk_42_method_74_code_61 rfl rfl rfl ?_
  refine Go.aloadN (pc' := 64) W6 d_jdk_42_method_74_code_63 rfl rfl rfl ?_
  refine Go.getfield (pc' := 67) W6 (Or.inr (Or.inl (List.mem_of_getElem? (i := 2) rfl))) (w_33 G) Via.refl S'.2.2.1 d_jdk_42_method_74_code_64 rfl (fun T7 W8 => ?_)
  refine Go.astore (pc' := 69) W8 #[.val (.ref a), .val (.int (1 : Int32)), .val (.int (0 : Int32)), .val (.ref a'), .val (.int (0 : Int32)), .val (.int cs.length.toInt32), .val (.ref b), .val (.ref b'), .unset] d_jdk_42_method_74_code_67 rfl rfl rfl ?_
  refine Go.aloadN (pc' := 70) W8 d_jdk_42_method_74_code_69 rfl rfl rfl ?_
  refine Go.virtual (pc' := 73) W8 (rm_coder G a b c cb cs S) (Or.inr (Or.inl (List.mem_of_getElem? (i := 0) rfl))) S.1 (w_54 G) (w_55 G) (w_57 G) (w_56 G) (w_8 G) (w_58 G) (by decide) [] [0] (σf := []) rfl rfl [] [] rfl (lenOf pd_6 rfl) rfl rfl d_jdk_42_method_74_code_70 rfl (by first | exact Nat.le_of_ble_eq_true rfl | (simp; done) | (simp; omega) | omega) (by first | exact Nat.le_of_ble_eq_true rfl | (simp; done) | (simp; omega) | omega) (by first | exact Nat.le_of_ble_eq_true rfl | (simp; done) | (simp; omega) | omega) (by first | exact Nat.le_of_ble_eq_true rfl | (simp; done) | (simp; omega) | omega) ?_
  rintro _ _ _ T9 ⟨rfl, rfl, rfl⟩ W10
  replace W10 : Wk l Z EL1 ({ frames := 2, cells := 0, slots := 0, locals := 40 } : Room) "java/lang/String" jdk_42_method_74_code 9 (some .boolean) "regionMatches" X [] [(a, c), (b, cb), (a', c'), (b', cb')] T9 0 (0) := W10
  show Go Z EL1 _ _ _ X T9 73 #[.val (.ref a), .val (.int (1 : Int32)), .val (.int (0 : Int32)), .val (.ref a'), .val (.int (0 : Int32)), .val (.int cs.length.toInt32), .val (.ref b), .val (.ref b'), .unset] [(.int (0 : Int32))]
  refine Go.istore (pc' := 75) W10 #[.val (.ref a), .val (.int (1 : Int32)), .val (.int (0 : Int32)), .val (.ref a'), .val (.int (0 : Int32)), .val (.int cs.length.toInt32), .val (.ref b), .val (.ref b'), .val (.int (0 : Int32))] d_jdk_42_method_74_code_73 rfl rfl ?_
  refine Go.iload (pc' := 77) W10 d_jdk_42_method_74_code_75 rfl rfl ?_
  refine Go.aloadN (pc' := 78) W10 d_jdk_42_method_74_code_77 rfl rfl rfl ?_
  refine Go.virtual (pc' := 81) W10 (rm_coder G a' b' c' cb' ds S') (Or.inr (Or.inl (List.mem_of_getElem? (i := 2) rfl))) S'.1 (w_54 G) (w_55 G) (w_57 G) (w_56 G) (w_8 G) (w_58 G) (by decide) [] [2] (σf := []) rfl rfl [] [(.int (0 : Int32))] rfl (lenOf pd_6 rfl) rfl rfl d_jdk_42_method_74_code_78 rfl (by first | exact Nat.le_of_ble_eq_true rfl | (simp; done) | (simp; omega) | omega) (by first | exact Nat.le_of_ble_eq_true rfl | (simp; done) | (simp; omega) | omega) (by first | exact Nat.le_of_ble_eq_true rfl | (simp; done) | (simp; omega) | omega) (by first | exact Nat.le_of_ble_eq_true rfl | (simp; done) | (simp; omega) | omega) ?_
  rintro _ _ _ T11 ⟨rfl, rfl, rfl⟩ W12
  replace W12 : Wk l Z EL1 ({ frames := 2, cells := 0, slots := 0, locals := 40 } : Room) "java/lang/String" jdk_42_method_74_code 9 (some .boolean) "regionMatches" X [] [(a, c), (b, cb), (a', c'), (b', cb')] T11 0 (0) := W12
  show Go Z EL1 _ _ _ X T11 81 #[.val (.ref a), .val (.int (1 : Int32)), .val (.int (0 : Int32)), .val (.ref a'), .val (.int (0 : Int32)), .val (.int cs.length.toInt32), .val (.ref b), .val (.ref b'), .val (.int (0 : Int32))] [(.int (0 : Int32)), (.int (0 : Int32))]
  refine Go.icmp_ne (pc' := 84) W12 117 d_jdk_42_method_74_code_81 (by decide) rfl (fun q => absurd (by decide) q) (fun _ => ?_)
  refine Go.iload (pc' := 86) W12 d_jdk_42_method_74_code_84 rfl rfl ?_
  refine Go.if_ne (pc' := 89) W12 104 d_jdk_42_method_74_code_86 (by decide) rfl (fun q => absurd (by decide) q) (fun _ => ?_)
  refine Go.aload (pc' := 91) W12 d_jdk_42_method_74_code_89 rfl rfl rfl ?_
  refine Go.iloadN (pc' := 92) W12 d_jdk_42_method_74_code_91 rfl rfl ?_
  refine Go.aload (pc' := 94) W12 d_jdk_42_method_74_code_92 rfl rfl rfl ?_
  refine Go.iload (pc' := 96) W12 d_jdk_42_method_74_code_94 rfl rfl ?_
  refine Go.iload (pc' := 98) W12 d_jdk_42_method_74_code_96 rfl rfl ?_
  refine Go.static (pc' := 101) W12 (rm_rci G b b' cb cb' cs ds S.2.2.2.1 S'.2.2.2.1 he h) (w_64 G) (w_65 G) (w_66 G) (w_67 G) (by decide) [] [1, 3] (σf := []) rfl rfl [(.ref b), (.int (0 : Int32)), (.ref b'), (.int (0 : Int32)), (.int cs.length.toInt32)] [] rfl (lenOf pd_11 rfl) rfl rfl d_jdk_42_method_74_code_98 rfl (by first | exact Nat.le_of_ble_eq_true rfl | (simp; done) | (simp; omega) | omega) (by first | exact Nat.le_of_ble_eq_true rfl | (simp; done) | (simp; omega) | omega) (by first | exact Nat.le_of_ble_eq_true rfl | (simp; done) | (simp; omega) | omega) (by first | exact Nat.le_of_ble_eq_true rfl | (simp; done) | (simp; omega) | omega) ?_
  rintro _ _ _ T13 ⟨rfl, rfl, rfl⟩ W14
  replace W14 : Wk l Z EL1 ({ frames := 2, cells := 0, slots := 0, locals := 40 } : Room) "java/lang/String" jdk_42_method_74_code 9 (some .boolean) "regionMatches" X [] [(a, c), (b, cb), (a', c'), (b', cb')] T13 0 (0) := W14
  show Go Z EL1 _ _ _ X T13 101 #[.val (.ref a), .val (.int (1 : Int32)), .val (.int (0 : Int32)), .val (.ref a'), .val (.int (0 : Int32)), .val (.int cs.length.toInt32), .val (.ref b), .val (.ref b'), .val (.int (0 : Int32))] [(.int (1 : Int32))]
  refine Go.goto W14 116 d_jdk_42_method_74_code_101 (by decide) ?_
  have W15 := W14.keepRo [] (ρ' := []) rfl
  replace W15 : Wk l Z EL1 ({ frames := 2, cells := 0, slots := 0, locals := 40 } : Room) "java/lang/String" jdk_42_method_74_code 9 (some .boolean) "regionMatches" X [] [] T13 0 (0) := W15
  refine Go.nret (z' := (1 : Int32)) W15 (by simp) (by decide) d_jdk_42_method_74_code_116 (by first | exact Nat.le_of_ble_eq_true rfl | (simp; done) | (simp; omega) | omega) (by first | exact Nat.le_of_ble_eq_true rfl | (simp; done) | (simp; omega) | omega) ?_
  exact ⟨rfl, rfl, rfl⟩
theorem d_jdk_42_method_70_code_0 : decode jdk_42_method_70_code 0 = .ok (.aload_n 0, 1) := by decide +kernel
theorem d_jdk_42_method_70_code_1 : decode jdk_42_method_70_code 1 = .ok (.aload_n 1, 1) := by decide +kernel
theorem d_jdk_42_method_70_code_2 : decode jdk_42_method_70_code 2 = .ok (.if_acmp .ne 7, 3) := by decide +kernel
theorem d_jdk_42_method_70_code_5 : decode jdk_42_method_70_code 5 = .ok (.iconst 1, 1) := by decide +kernel
theorem d_jdk_42_method_70_code_6 : decode jdk_42_method_70_code 6 = .ok (.goto 38, 3) := by decide +kernel
theorem d_jdk_42_method_70_code_44 : decode jdk_42_method_70_code 44 = .ok (.ireturn, 1) := by decide +kernel
theorem d_jdk_42_method_70_code_9 : decode jdk_42_method_70_code 9 = .ok (.aload_n 1, 1) := by decide +kernel
theorem d_jdk_42_method_70_code_10 : decode jdk_42_method_70_code 10 = .ok (.ifnull 33, 3) := by decide +kernel
theorem d_jdk_42_method_70_code_13 : decode jdk_42_method_70_code 13 = .ok (.aload_n 1, 1) := by decide +kernel
theorem d_jdk_42_method_70_code_14 : decode jdk_42_method_70_code 14 = .ok (.invokevirtual 505, 3) := by decide +kernel
theorem d_jdk_42_method_70_code_17 : decode jdk_42_method_70_code 17 = .ok (.aload_n 0, 1) := by decide +kernel
theorem d_jdk_42_method_70_code_18 : decode jdk_42_method_70_code 18 = .ok (.invokevirtual 505, 3) := by decide +kernel
theorem d_jdk_42_method_70_code_21 : decode jdk_42_method_70_code 21 = .ok (.if_icmp .ne 22, 3) := by decide +kernel
theorem d_jdk_42_method_70_code_24 : decode jdk_42_method_70_code 24 = .ok (.aload_n 0, 1) := by decide +kernel
theorem d_jdk_42_method_70_code_25 : decode jdk_42_method_70_code 25 = .ok (.iconst 1, 1) := by decide +kernel
theorem d_jdk_42_method_70_code_26 : decode jdk_42_method_70_code 26 = .ok (.iconst 0, 1) := by decide +kernel
theorem d_jdk_42_method_70_code_27 : decode jdk_42_method_70_code 27 = .ok (.aload_n 1, 1) := by decide +kernel
theorem d_jdk_42_method_70_code_28 : decode jdk_42_method_70_code 28 = .ok (.iconst 0, 1) := by decide +kernel
theorem d_jdk_42_method_70_code_29 : decode jdk_42_method_70_code 29 = .ok (.aload_n 0, 1) := by decide +kernel
theorem d_jdk_42_method_70_code_30 : decode jdk_42_method_70_code 30 = .ok (.invokevirtual 505, 3) := by decide +kernel
theorem d_jdk_42_method_70_code_33 : decode jdk_42_method_70_code 33 = .ok (.invokevirtual 582, 3) := by decide +kernel
theorem w_59 {Z : State} {a0 : Array Value} (G : Cl Z a0) : (Jvm.Cond.methodLink "java/lang/String" 582 (⟨"java/lang/String", "regionMatches", "(ZILjava/lang/String;II)Z"⟩ : MethodName)).before a0 Z = true := G.1 _ (List.mem_of_getElem? (l := tables_1) (i := 59) rfl)
theorem w_63 {Z : State} {a0 : Array Value} (G : Cl Z a0) : (Jvm.Cond.code (⟨"java/lang/String", "regionMatches", "(ZILjava/lang/String;II)Z"⟩ : MethodName) jdk_42_method_74_code 9 (some .boolean)).before a0 Z = true := G.1 _ (List.mem_of_getElem? (l := tables_1) (i := 63) rfl)
theorem pd_12 : parseMethodDescriptor "(ZILjava/lang/String;II)Z" = some ⟨[.boolean, .int, (.object "java/lang/String"), .int, .int], some .boolean⟩ := by decide +kernel
theorem w_60 {Z : State} {a0 : Array Value} (G : Cl Z a0) : (Jvm.Cond.declares (⟨"java/lang/String", "regionMatches", "(ZILjava/lang/String;II)Z"⟩ : MethodName)).before a0 Z = true := G.1 _ (List.mem_of_getElem? (l := tables_1) (i := 60) rfl)
theorem w_62 {Z : State} {a0 : Array Value} (G : Cl Z a0) : (Jvm.Cond.selects "java/lang/String" (⟨"java/lang/String", "regionMatches", "(ZILjava/lang/String;II)Z"⟩ : MethodName) (⟨"java/lang/String", "regionMatches", "(ZILjava/lang/String;II)Z"⟩ : MethodName)).before a0 Z = true := G.1 _ (List.mem_of_getElem? (l := tables_1) (i := 62) rfl)
theorem w_61 {Z : State} {a0 : Array Value} (G : Cl Z a0) : (Jvm.Cond.instanceMethod (⟨"java/lang/String", "regionMatches", "(ZILjava/lang/String;II)Z"⟩ : MethodName)).before a0 Z = true := G.1 _ (List.mem_of_getElem? (l := tables_1) (i := 61) rfl)
theorem d_jdk_42_method_70_code_36 : decode jdk_42_method_70_code 36 = .ok (.ifCond .eq 7, 3) := by decide +kernel
theorem d_jdk_42_method_70_code_39 : decode jdk_42_method_70_code 39 = .ok (.iconst 1, 1) := by decide +kernel
theorem d_jdk_42_method_70_code_40 : decode jdk_42_method_70_code 40 = .ok (.goto 4, 3) := by decide +kernel
set_option maxRecDepth 65536 in
set_option maxHeartbeats 40000000 in
theorem rm_eic_y {l : Launch} {Z : State} {a0 : Array Value} (G : Cl Z a0) (a a' b b' : Addr) (c c' cb cb' : Cell) (cs ds : List Int32) (S : StrL Z c b cb cs) (S' : StrL Z c' b' cb' ds) (he : cs.length = ds.length) (h : AllCI cs ds) :
    Met l Z EL1 (⟨"java/lang/String", "equalsIgnoreCase", "(Ljava/lang/String;)Z"⟩ : MethodName) jdk_42_method_70_code 2 (some .boolean) ({ frames := 3, cells := 0, slots := 0, locals := 60 } : Room) #[.ref a, .ref a'] [] [(a, c), (b, cb), (a', c'), (b', cb')] (fun v σ ρ => v = some (.int 1) ∧ σ = [] ∧ ρ = []) := by
  refine Met.walk G.2.1 pn_2 #[.val (.ref a), .val (.ref a')] (fun m => by first | (simp [entryFrame, mkF, argsToLocals, Value.category]; done) | rfl) ?_
  intro X T0 W0
  refine Go.aloadN (pc' := 1) W0 d_jdk_42_method_70_code_0 rfl rfl rfl ?_
  refine Go.aloadN (pc' := 2) W0 d_jdk_42_method_70_code_1 rfl rfl rfl ?_
  refine Go.acmp_ne (pc' := 5) W0 9 rfl rfl d_jdk_42_method_70_code_2 (by decide) rfl (fun _ => ?_) (fun hq => ?_)
  rotate_left
  · refine Go.iconst (pc' := 6) W0 (1 : Int32) d_jdk_42_method_70_code_5 (by decide) rfl ?_
    refine Go.goto W0 44 d_jdk_42_method_70_code_6 (by decide) ?_
    have W1 := W0.keepRo [] (ρ' := []) rfl
    replace W1 : Wk l Z EL1 ({ frames := 3, cells := 0, slots := 0, locals := 60 } : Room) "java/lang/String" jdk_42_method_70_code 2 (some .boolean) "equalsIgnoreCase" X [] [] T0 0 (0) := W1
    refine Go.nret (z' := (1 : Int32)) W1 (by simp) (by decide) d_jdk_42_method_70_code_44 (by first | exact Nat.le_of_ble_eq_true rfl | (simp; done) | (simp; omega) | omega) (by first | exact Nat.le_of_ble_eq_true rfl | (simp; done) | (simp; omega) | omega) ?_
    exact ⟨rfl, rfl, rfl⟩
  refine Go.aloadN (pc' := 10) W0 d_jdk_42_method_70_code_9 rfl rfl rfl ?_
  refine Go.ifnull_no (pc' := 13) W0 d_jdk_42_method_70_code_10 rfl ?_
  refine Go.aloadN (pc' := 14) W0 d_jdk_42_method_70_code_13 rfl rfl rfl ?_
  refine Go.virtual (pc' := 17) W0 (rm_len G a' b' c' cb' ds S') (Or.inr (Or.inl (List.mem_of_getElem? (i := 2) rfl))) S'.1 (w_49 G) (w_50 G) (w_52 G) (w_51 G) (w_8 G) (w_53 G) (by decide) [] [2, 3] (σf := []) rfl rfl [] [] rfl (lenOf pd_10 rfl) rfl rfl d_jdk_42_method_70_code_14 rfl (by first | exact Nat.le_of_ble_eq_true rfl | (simp; done) | (simp; omega) | omega) (by first | exact Nat.le_of_ble_eq_true rfl | (simp; done) | (simp; omega) | omega) (by first | exact Nat.le_of_ble_eq_true rfl | (simp; done) | (simp; omega) | omega) (by first | exact Nat.le_of_ble_eq_true rfl | (simp; done) | (simp; omega) | omega) ?_
  rintro _ _ _ T2 ⟨rfl, rfl, rfl⟩ W3
  replace W3 : Wk l Z EL1 ({ frames := 3, cells := 0, slots := 0, locals := 60 } : Room) "java/lang/String" jdk_42_method_70_code 2 (some .boolean) "equalsIgnoreCase" X [] [(a, c), (b, cb), (a', c'), (b', cb')] T2 0 (0) := W3
  show Go Z EL1 _ _ _ X T2 17 #[.val (.ref a), .val (.ref a')] [(.int ds.length.toInt32)]
  refine Go.aloadN (pc' := 18) W3 d_jdk_42_method_70_code_17 rfl rfl rfl ?_
  refine Go.virtual (pc' := 21) W3 (rm_len G a b c cb cs S) (Or.inr (Or.inl (List.mem_of_getElem? (i := 0) rfl))) S.1 (w_49 G) (w_50 G) (w_52 G) (w_51 G) (w_8 G) (w_53 G) (by decide) [] [0, 1] (σf := []) rfl rfl [] [(.int ds.length.toInt32)] rfl (lenOf pd_10 rfl) rfl rfl d_jdk_42_method_70_code_18 rfl (by first | exact Nat.le_of_ble_eq_true rfl | (simp; done) | (simp; omega) | omega) (by first | exact Nat.le_of_ble_eq_true rfl | (simp; done) | (simp; omega) | omega) (by first | exact Nat.le_of_ble_eq_true rfl | (simp; done) | (simp; omega) | omega) (by first | exact Nat.le_of_ble_eq_true rfl | (simp; done) | (simp; omega) | omega) ?_
  rintro _ _ _ T4 ⟨rfl, rfl, rfl⟩ W5
  replace W5 : Wk l Z EL1 ({ frames := 3, cells := 0, slots := 0, locals := 60 } : Room) "java/lang/String" jdk_42_method_70_code 2 (some .boolean) "equalsIgnoreCase" X [] [(a, c), (b, cb), (a', c'), (b', cb')] T4 0 (0) := W5
  show Go Z EL1 _ _ _ X T4 21 #[.val (.ref a), .val (.ref a')] [(.int cs.length.toInt32), (.int ds.length.toInt32)]
  refine Go.icmp_ne (pc' := 24) W5 43 d_jdk_42_method_70_code_21 (by decide) rfl (fun q => absurd (by rw [he]) q) (fun _ => ?_)
  refine Go.aloadN (pc' := 25) W5 d_jdk_42_method_70_code_24 rfl rfl rfl ?_
  refine Go.iconst (pc' := 26) W5 (1 : Int32) d_jdk_42_method_70_code_25 (by decide) rfl ?_
  refine Go.iconst (pc' := 27) W5 (0 : Int32) d_jdk_42_method_70_code_26 (by decide) rfl ?_
  refine Go.aloadN (pc' := 28) W5 d_jdk_42_method_70_code_27 rfl rfl rfl ?_
  refine Go.iconst (pc' := 29) W5 (0 : Int32) d_jdk_42_method_70_code_28 (by decide) rfl ?_
  refine Go.aloadN (pc' := 30) W5 d_jdk_42_method_70_code_29 rfl rfl rfl ?_
  refine Go.virtual (pc' := 33) W5 (rm_len G a b c cb cs S) (Or.inr (Or.inl (List.mem_of_getElem? (i := 0) rfl))) S.1 (w_49 G) (w_50 G) (w_52 G) (w_51 G) (w_8 G) (w_53 G) (by decide) [] [0, 1] (σf := []) rfl rfl [] [(.int (0 : Int32)), (.ref a'), (.int (0 : Int32)), (.int (1 : Int32)), (.ref a)] rfl (lenOf pd_10 rfl) rfl rfl d_jdk_42_method_70_code_30 rfl (by first | exact Nat.le_of_ble_eq_true rfl | (simp; done) | (simp; omega) | omega) (by first | exact Nat.le_of_ble_eq_true rfl | (simp; done) | (simp; omega) | omega) (by first | exact Nat.le_of_ble_eq_true rfl | (simp; done) | (simp; omega) | omega) (by first | exact Nat.le_of_ble_eq_true rfl | (simp; done) | (simp; omega) | omega) ?_
  rintro _ _ _ T6 ⟨rfl, rfl, rfl⟩ W7
  replace W7 : Wk l Z EL1 ({ frames := 3, cells := 0, slots := 0, locals := 60 } : Room) "java/lang/String" jdk_42_method_70_code 2 (some .boolean) "equalsIgnoreCase" X [] [(a, c), (b, cb), (a', c'), (b', cb')] T6 0 (0) := W7
  show Go Z EL1 _ _ _ X T6 33 #[.val (.ref a), .val (.ref a')] [(.int cs.length.toInt32), (.int (0 : Int32)), (.ref a'), (.int (0 : Int32)), (.int (1 : Int32)), (.ref a)]
  refine Go.virtual (pc' := 36) W7 (rm_reg G a a' b b' c c' cb cb' cs ds S S' he h) (Or.inr (Or.inl (List.mem_of_getElem? (i := 0) rfl))) S.1 (w_59 G) (w_60 G) (w_62 G) (w_61 G) (w_8 G) (w_63 G) (by decide) [] [0, 1, 2, 3] (σf := []) rfl rfl [(.int (1 : Int32)), (.int (0 : Int32)), (.ref a'), (.int (0 : Int32)), (.int cs.length.toInt32)] [] rfl (lenOf pd_12 rfl) rfl rfl d_jdk_42_method_70_code_33 rfl (by first | exact Nat.le_of_ble_eq_true rfl | (simp; done) | (simp; omega) | omega) (by first | exact Nat.le_of_ble_eq_true rfl | (simp; done) | (simp; omega) | omega) (by first | exact Nat.le_of_ble_eq_true rfl | (simp; done) | (simp; omega) | omega) (by first | exact Nat.le_of_ble_eq_true rfl | (simp; done) | (simp; omega) | omega) ?_
  rintro _ _ _ T8 ⟨rfl, rfl, rfl⟩ W9
  replace W9 : Wk l Z EL1 ({ frames := 3, cells := 0, slots := 0, locals := 60 } : Room) "java/lang/String" jdk_42_method_70_code 2 (some .boolean) "equalsIgnoreCase" X [] [(a, c), (b, cb), (a', c'), (b', cb')] T8 0 (0) := W9
  show Go Z EL1 _ _ _ X T8 36 #[.val (.ref a), .val (.ref a')] [(.int (1 : Int32))]
  refine Go.if_eq (pc' := 39) W9 43 d_jdk_42_method_70_code_36 (by decide) rfl (fun q => absurd q (by decide)) (fun _ => ?_)
  refine Go.iconst (pc' := 40) W9 (1 : Int32) d_jdk_42_method_70_code_39 (by decide) rfl ?_
  refine Go.goto W9 44 d_jdk_42_method_70_code_40 (by decide) ?_
  have W10 := W9.keepRo [] (ρ' := []) rfl
  replace W10 : Wk l Z EL1 ({ frames := 3, cells := 0, slots := 0, locals := 60 } : Room) "java/lang/String" jdk_42_method_70_code 2 (some .boolean) "equalsIgnoreCase" X [] [] T8 0 (0) := W10
  refine Go.nret (z' := (1 : Int32)) W10 (by simp) (by decide) d_jdk_42_method_70_code_44 (by first | exact Nat.le_of_ble_eq_true rfl | (simp; done) | (simp; omega) | omega) (by first | exact Nat.le_of_ble_eq_true rfl | (simp; done) | (simp; omega) | omega) ?_
  exact ⟨rfl, rfl, rfl⟩
theorem d_jdk_42_method_70_code_43 : decode jdk_42_method_70_code 43 = .ok (.iconst 0, 1) := by decide +kernel
set_option maxRecDepth 65536 in
set_option maxHeartbeats 40000000 in
theorem rm_eic_n {l : Launch} {Z : State} {a0 : Array Value} (G : Cl Z a0) (a a' b b' : Addr) (c c' cb cb' : Cell) (cs ds : List Int32) (S : StrL Z c b cb cs) (S' : StrL Z c' b' cb' ds) (hne : ¬ ds.length.toInt32 = cs.length.toInt32) :
    Met l Z EL1 (⟨"java/lang/String", "equalsIgnoreCase", "(Ljava/lang/String;)Z"⟩ : MethodName) jdk_42_method_70_code 2 (some .boolean) ({ frames := 2, cells := 0, slots := 0, locals := 40 } : Room) #[.ref a, .ref a'] [] [(a, c), (b, cb), (a', c'), (b', cb')] (fun v σ ρ => v = some (.int 0) ∧ σ = [] ∧ ρ = []) := by
  refine Met.walk G.2.1 pn_2 #[.val (.ref a), .val (.ref a')] (fun m => by first | (simp [entryFrame, mkF, argsToLocals, Value.category]; done) | rfl) ?_
  intro X T0 W0
  refine Go.aloadN (pc' := 1) W0 d_jdk_42_method_70_code_0 rfl rfl rfl ?_
  refine Go.aloadN (pc' := 2) W0 d_jdk_42_method_70_code_1 rfl rfl rfl ?_
  refine Go.acmp_ne (pc' := 5) W0 9 rfl rfl d_jdk_42_method_70_code_2 (by decide) rfl (fun _ => ?_) (fun hq => absurd (by rw [StrL.uniq S S' (W0.cell (q := (a, c)) (Or.inr (Or.inl (List.mem_of_getElem? (i := 0) rfl)))) (by have e := Value.ref.inj hq; rw [e]; exact W0.cell (q := (a', c')) (Or.inr (Or.inl (List.mem_of_getElem? (i := 2) rfl)))) (W0.cell (q := (b, cb)) (Or.inr (Or.inl (List.mem_of_getElem? (i := 1) rfl)))) (W0.cell (q := (b', cb')) (Or.inr (Or.inl (List.mem_of_getElem? (i := 3) rfl))))]) hne)
  refine Go.aloadN (pc' := 10) W0 d_jdk_42_method_70_code_9 rfl rfl rfl ?_
  refine Go.ifnull_no (pc' := 13) W0 d_jdk_42_method_70_code_10 rfl ?_
  refine Go.aloadN (pc' := 14) W0 d_jdk_42_method_70_code_13 rfl rfl rfl ?_
  refine Go.virtual (pc' := 17) W0 (rm_len G a' b' c' cb' ds S') (Or.inr (Or.inl (List.mem_of_getElem? (i := 2) rfl))) S'.1 (w_49 G) (w_50 G) (w_52 G) (w_51 G) (w_8 G) (w_53 G) (by decide) [] [2, 3] (σf := []) rfl rfl [] [] rfl (lenOf pd_10 rfl) rfl rfl d_jdk_42_method_70_code_14 rfl (by first | exact Nat.le_of_ble_eq_true rfl | (simp; done) | (simp; omega) | omega) (by first | exact Nat.le_of_ble_eq_true rfl | (simp; done) | (simp; omega) | omega) (by first | exact Nat.le_of_ble_eq_true rfl | (simp; done) | (simp; omega) | omega) (by first | exact Nat.le_of_ble_eq_true rfl | (simp; done) | (simp; omega) | omega) ?_
  rintro _ _ _ T1 ⟨rfl, rfl, rfl⟩ W2
  replace W2 : Wk l Z EL1 ({ frames := 2, cells := 0, slots := 0, locals := 40 } : Room) "java/lang/String" jdk_42_method_70_code 2 (some .boolean) "equalsIgnoreCase" X [] [(a, c), (b, cb), (a', c'), (b', cb')] T1 0 (0) := W2
  show Go Z EL1 _ _ _ X T1 17 #[.val (.ref a), .val (.ref a')] [(.int ds.length.toInt32)]
  refine Go.aloadN (pc' := 18) W2 d_jdk_42_method_70_code_17 rfl rfl rfl ?_
  refine Go.virtual (pc' := 21) W2 (rm_len G a b c cb cs S) (Or.inr (Or.inl (List.mem_of_getElem? (i := 0) rfl))) S.1 (w_49 G) (w_50 G) (w_52 G) (w_51 G) (w_8 G) (w_53 G) (by decide) [] [0, 1] (σf := []) rfl rfl [] [(.int ds.length.toInt32)] rfl (lenOf pd_10 rfl) rfl rfl d_jdk_42_method_70_code_18 rfl (by first | exact Nat.le_of_ble_eq_true rfl | (simp; done) | (simp; omega) | omega) (by first | exact Nat.le_of_ble_eq_true rfl | (simp; done) | (simp; omega) | omega) (by first | exact Nat.le_of_ble_eq_true rfl | (simp; done) | (simp; omega) | omega) (by first | exact Nat.le_of_ble_eq_true rfl | (simp; done) | (simp; omega) | omega) ?_
  rintro _ _ _ T3 ⟨rfl, rfl, rfl⟩ W4
  replace W4 : Wk l Z EL1 ({ frames := 2, cells := 0, slots := 0, locals := 40 } : Room) "java/lang/String" jdk_42_method_70_code 2 (some .boolean) "equalsIgnoreCase" X [] [(a, c), (b, cb), (a', c'), (b', cb')] T3 0 (0) := W4
  show Go Z EL1 _ _ _ X T3 21 #[.val (.ref a), .val (.ref a')] [(.int cs.length.toInt32), (.int ds.length.toInt32)]
  refine Go.icmp_ne (pc' := 24) W4 43 d_jdk_42_method_70_code_21 (by decide) rfl (fun _ => ?_) (fun q => absurd q hne)
  refine Go.iconst (pc' := 44) W4 (0 : Int32) d_jdk_42_method_70_code_43 (by decide) rfl ?_
  have W5 := W4.keepRo [] (ρ' := []) rfl
  replace W5 : Wk l Z EL1 ({ frames := 2, cells := 0, slots := 0, locals := 40 } : Room) "java/lang/String" jdk_42_method_70_code 2 (some .boolean) "equalsIgnoreCase" X [] [] T3 0 (0) := W5
  refine Go.nret (z' := (0 : Int32)) W5 (by simp) (by decide) d_jdk_42_method_70_code_44 (by first | exact Nat.le_of_ble_eq_true rfl | (simp; done) | (simp; omega) | omega) (by first | exact Nat.le_of_ble_eq_true rfl | (simp; done) | (simp; omega) | omega) ?_
  exact ⟨rfl, rfl, rfl⟩
theorem rem3 (n : Int32) : (n &&& (2147483647 : Int32)) % (3 : Int32) = (0 : Int32) ∨ (n &&& (2147483647 : Int32)) % (3 : Int32) = (1 : Int32) ∨ (n &&& (2147483647 : Int32)) % (3 : Int32) = (2 : Int32) := by
  have h := c_and n 2147483647 (by decide)
  have k := (c_irem (n &&& 2147483647) 3 3 (by decide)).1 h.1
  generalize (n &&& (2147483647 : Int32)) % (3 : Int32) = z at k ⊢
  have k' : z.toInt = 0 ∨ z.toInt = 1 ∨ z.toInt = 2 := by omega
  rcases k' with q | q | q
  · exact Or.inl (Int32.toInt_inj.mp q)
  · exact Or.inr (Or.inl (Int32.toInt_inj.mp q))
  · exact Or.inr (Or.inr (Int32.toInt_inj.mp q))
def pickF (b i x y : Int32) : Int32 := if (b.toUInt32 >>> (i &&& 31).toUInt32).toInt32 &&& (1 : Int32) = 0 then x else y
theorem pickF_lat {b i x y : Int32} (hx : ¬ x < 0 ∧ ¬ (255 : Int32) < x) (hy : ¬ y < 0 ∧ ¬ (255 : Int32) < y) : ¬ pickF b i x y < 0 ∧ ¬ (255 : Int32) < pickF b i x y := by
  unfold pickF
  split
  · exact hx
  · exact hy
theorem pickF_ci {b i x y : Int32} (hx : CI x.toInt8.toInt32 x.toInt8.toInt32) (hy : CI x.toInt8.toInt32 y.toInt8.toInt32) : CI x.toInt8.toInt32 (pickF b i x y).toInt8.toInt32 := by
  unfold pickF
  split
  · exact hx
  · exact hy
theorem pn_13 : plainName "com/example/hermit_crab/hermitcrab/DialectOfPinLaw" = true := by first | (simp [plainName, overriddenIn]; done) | decide +kernel
theorem d_method_2_code_0 : decode method_2_code 0 = .ok (.iload_n 1, 1) := by decide +kernel
theorem d_method_2_code_1 : decode method_2_code 1 = .ok (.iload_n 2, 1) := by decide +kernel
theorem d_method_2_code_2 : decode method_2_code 2 = .ok (.iushr, 1) := by decide +kernel
theorem d_method_2_code_3 : decode method_2_code 3 = .ok (.iconst 1, 1) := by decide +kernel
theorem d_method_2_code_4 : decode method_2_code 4 = .ok (.iand, 1) := by decide +kernel
theorem d_method_2_code_5 : decode method_2_code 5 = .ok (.ifCond .ne 5, 3) := by decide +kernel
theorem d_method_2_code_10 : decode method_2_code 10 = .ok (.iload_n 0, 1) := by decide +kernel
theorem d_method_2_code_11 : decode method_2_code 11 = .ok (.bipush 97, 2) := by decide +kernel
theorem d_method_2_code_13 : decode method_2_code 13 = .ok (.if_icmp .lt 15, 3) := by decide +kernel
theorem d_method_2_code_28 : decode method_2_code 28 = .ok (.iload_n 0, 1) := by decide +kernel
theorem d_method_2_code_29 : decode method_2_code 29 = .ok (.bipush 65, 2) := by decide +kernel
theorem d_method_2_code_31 : decode method_2_code 31 = .ok (.if_icmp .lt 15, 3) := by decide +kernel
theorem d_method_2_code_34 : decode method_2_code 34 = .ok (.iload_n 0, 1) := by decide +kernel
theorem d_method_2_code_35 : decode method_2_code 35 = .ok (.bipush 90, 2) := by decide +kernel
theorem d_method_2_code_37 : decode method_2_code 37 = .ok (.if_icmp .gt 9, 3) := by decide +kernel
theorem d_method_2_code_40 : decode method_2_code 40 = .ok (.iload_n 0, 1) := by decide +kernel
theorem d_method_2_code_41 : decode method_2_code 41 = .ok (.bipush 32, 2) := by decide +kernel
theorem d_method_2_code_43 : decode method_2_code 43 = .ok (.iadd, 1) := by decide +kernel
theorem d_method_2_code_44 : decode method_2_code 44 = .ok (.i2c, 1) := by decide +kernel
theorem d_method_2_code_45 : decode method_2_code 45 = .ok (.ireturn, 1) := by decide +kernel
theorem d_method_2_code_8 : decode method_2_code 8 = .ok (.iload_n 0, 1) := by decide +kernel
theorem d_method_2_code_9 : decode method_2_code 9 = .ok (.ireturn, 1) := by decide +kernel
set_option maxRecDepth 65536 in
set_option maxHeartbeats 40000000 in
theorem rm_f_BO {l : Launch} {Z : State} {a0 : Array Value} (G : Cl Z a0) (b i : Int32) :
    Met l Z EL1 (⟨"com/example/hermit_crab/hermitcrab/DialectOfPinLaw", "f", "(CII)C"⟩ : MethodName) method_2_code 3 (some .char) ({ frames := 0, cells := 0, slots := 0, locals := 0 } : Room) #[.int (66 : Int32), .int b, .int i] [] [] (fun v σ ρ => v = some (.int (pickF b i 66 98)) ∧ σ = [] ∧ ρ = []) := by
  refine Met.walk G.2.1 pn_13 #[.val (.int (66 : Int32)), .val (.int b), .val (.int i)] (fun m => by first | (simp [entryFrame, mkF, argsToLocals, Value.category]; done) | rfl) ?_
  intro X T0 W0
  refine Go.iloadN (pc' := 1) W0 d_method_2_code_0 rfl rfl ?_
  refine Go.iloadN (pc' := 2) W0 d_method_2_code_1 rfl rfl ?_
  refine Go.iushr (pc' := 3) W0 d_method_2_code_2 rfl ?_
  refine Go.iconst (pc' := 4) W0 (1 : Int32) d_method_2_code_3 (by decide) rfl ?_
  refine Go.iand (pc' := 5) W0 d_method_2_code_4 rfl ?_
  refine Go.if_ne (pc' := 8) W0 10 d_method_2_code_5 (by decide) rfl (fun (c1 : ¬ ((((b.toUInt32 >>> (i &&& 31).toUInt32).toInt32) &&& (1 : Int32)) = 0)) => ?_) (fun (c1 : (((b.toUInt32 >>> (i &&& 31).toUInt32).toInt32) &&& (1 : Int32)) = 0) => ?_)
  · refine Go.iloadN (pc' := 11) W0 d_method_2_code_10 rfl rfl ?_
    refine Go.bipush (pc' := 13) W0 (97 : Int32) d_method_2_code_11 (by decide) rfl ?_
    refine Go.icmp_lt (pc' := 16) W0 28 d_method_2_code_13 (by decide) rfl (fun _ => ?_) (fun q => absurd (by decide) q)
    refine Go.iloadN (pc' := 29) W0 d_method_2_code_28 rfl rfl ?_
    refine Go.bipush (pc' := 31) W0 (65 : Int32) d_method_2_code_29 (by decide) rfl ?_
    refine Go.icmp_lt (pc' := 34) W0 46 d_method_2_code_31 (by decide) rfl (fun q => absurd q (by decide)) (fun _ => ?_)
    refine Go.iloadN (pc' := 35) W0 d_method_2_code_34 rfl rfl ?_
    refine Go.bipush (pc' := 37) W0 (90 : Int32) d_method_2_code_35 (by decide) rfl ?_
    refine Go.icmp_gt (pc' := 40) W0 46 d_method_2_code_37 (by decide) rfl (fun q => absurd q (by decide)) (fun _ => ?_)
    refine Go.iloadN (pc' := 41) W0 d_method_2_code_40 rfl rfl ?_
    refine Go.bipush (pc' := 43) W0 (32 : Int32) d_method_2_code_41 (by decide) rfl ?_
    refine Go.iadd (pc' := 44) W0 d_method_2_code_43 rfl ?_
    rw [show ((66 : Int32) + (32 : Int32) : Int32) = (98 : Int32) from by decide]
    refine Go.i2c (pc' := 45) W0 d_method_2_code_44 rfl ?_
    rw [show ((98 : Int32).toUInt32.toUInt16.toUInt32.toInt32 : Int32) = (98 : Int32) from by decide]
    refine Go.nret (z' := (98 : Int32)) W0 (by simp) (by decide) d_method_2_code_45 (by first | exact Nat.le_of_ble_eq_true rfl | (simp; done) | (simp; omega) | omega) (by first | exact Nat.le_of_ble_eq_true rfl | (simp; done) | (simp; omega) | omega) ?_
    exact ⟨by rw [pickF, if_neg c1], rfl, rfl⟩
  · refine Go.iloadN (pc' := 9) W0 d_method_2_code_8 rfl rfl ?_
    refine Go.nret (z' := (66 : Int32)) W0 (by simp) (by decide) d_method_2_code_9 (by first | exact Nat.le_of_ble_eq_true rfl | (simp; done) | (simp; omega) | omega) (by first | exact Nat.le_of_ble_eq_true rfl | (simp; done) | (simp; omega) | omega) ?_
    exact ⟨by rw [pickF, if_pos c1], rfl, rfl⟩
set_option maxRecDepth 65536 in
set_option maxHeartbeats 40000000 in
theorem rm_f_BQ {l : Launch} {Z : State} {a0 : Array Value} (G : Cl Z a0) (b i : Int32) :
    Met l Z EL1 (⟨"com/example/hermit_crab/hermitcrab/DialectOfPinLaw", "f", "(CII)C"⟩ : MethodName) method_2_code 3 (some .char) ({ frames := 0, cells := 0, slots := 0, locals := 0 } : Room) #[.int (68 : Int32), .int b, .int i] [] [] (fun v σ ρ => v = some (.int (pickF b i 68 100)) ∧ σ = [] ∧ ρ = []) := by
  refine Met.walk G.2.1 pn_13 #[.val (.int (68 : Int32)), .val (.int b), .val (.int i)] (fun m => by first | (simp [entryFrame, mkF, argsToLocals, Value.category]; done) | rfl) ?_
  intro X T0 W0
  refine Go.iloadN (pc' := 1) W0 d_method_2_code_0 rfl rfl ?_
  refine Go.iloadN (pc' := 2) W0 d_method_2_code_1 rfl rfl ?_
  refine Go.iushr (pc' := 3) W0 d_method_2_code_2 rfl ?_
  refine Go.iconst (pc' := 4) W0 (1 : Int32) d_method_2_code_3 (by decide) rfl ?_
  refine Go.iand (pc' := 5) W0 d_method_2_code_4 rfl ?_
  refine Go.if_ne (pc' := 8) W0 10 d_method_2_code_5 (by decide) rfl (fun (c1 : ¬ ((((b.toUInt32 >>> (i &&& 31).toUInt32).toInt32) &&& (1 : Int32)) = 0)) => ?_) (fun (c1 : (((b.toUInt32 >>> (i &&& 31).toUInt32).toInt32) &&& (1 : Int32)) = 0) => ?_)
  · refine Go.iloadN (pc' := 11) W0 d_method_2_code_10 rfl rfl ?_
    refine Go.bipush (pc' := 13) W0 (97 : Int32) d_method_2_code_11 (by decide) rfl ?_
    refine Go.icmp_lt (pc' := 16) W0 28 d_method_2_code_13 (by decide) rfl (fun _ => ?_) (fun q => absurd (by decide) q)
    refine Go.iloadN (pc' := 29) W0 d_method_2_code_28 rfl rfl ?_
    refine Go.bipush (pc' := 31) W0 (65 : Int32) d_method_2_code_29 (by decide) rfl ?_
    refine Go.icmp_lt (pc' := 34) W0 46 d_method_2_code_31 (by decide) rfl (fun q => absurd q (by decide)) (fun _ => ?_)
    refine Go.iloadN (pc' := 35) W0 d_method_2_code_34 rfl rfl ?_
    refine Go.bipush (pc' := 37) W0 (90 : Int32) d_method_2_code_35 (by decide) rfl ?_
    refine Go.icmp_gt (pc' := 40) W0 46 d_method_2_code_37 (by decide) rfl (fun q => absurd q (by decide)) (fun _ => ?_)
    refine Go.iloadN (pc' := 41) W0 d_method_2_code_40 rfl rfl ?_
    refine Go.bipush (pc' := 43) W0 (32 : Int32) d_method_2_code_41 (by decide) rfl ?_
    refine Go.iadd (pc' := 44) W0 d_method_2_code_43 rfl ?_
    rw [show ((68 : Int32) + (32 : Int32) : Int32) = (100 : Int32) from by decide]
    refine Go.i2c (pc' := 45) W0 d_method_2_code_44 rfl ?_
    rw [show ((100 : Int32).toUInt32.toUInt16.toUInt32.toInt32 : Int32) = (100 : Int32) from by decide]
    refine Go.nret (z' := (100 : Int32)) W0 (by simp) (by decide) d_method_2_code_45 (by first | exact Nat.le_of_ble_eq_true rfl | (simp; done) | (simp; omega) | omega) (by first | exact Nat.le_of_ble_eq_true rfl | (simp; done) | (simp; omega) | omega) ?_
    exact ⟨by rw [pickF, if_neg c1], rfl, rfl⟩
  · refine Go.iloadN (pc' := 9) W0 d_method_2_code_8 rfl rfl ?_
    refine Go.nret (z' := (68 : Int32)) W0 (by simp) (by decide) d_method_2_code_9 (by first | exact Nat.le_of_ble_eq_true rfl | (simp; done) | (simp; omega) | omega) (by first | exact Nat.le_of_ble_eq_true rfl | (simp; done) | (simp; omega) | omega) ?_
    exact ⟨by rw [pickF, if_pos c1], rfl, rfl⟩
set_option maxRecDepth 65536 in
set_option maxHeartbeats 40000000 in
theorem rm_f_BY {l : Launch} {Z : State} {a0 : Array Value} (G : Cl Z a0) (b i : Int32) :
    Met l Z EL1 (⟨"com/example/hermit_crab/hermitcrab/DialectOfPinLaw", "f", "(CII)C"⟩ : MethodName) method_2_code 3 (some .char) ({ frames := 0, cells := 0, slots := 0, locals := 0 } : Room) #[.int (76 : Int32), .int b, .int i] [] [] (fun v σ ρ => v = some (.int (pickF b i 76 108)) ∧ σ = [] ∧ ρ = []) := by
  refine Met.walk G.2.1 pn_13 #[.val (.int (76 : Int32)), .val (.int b), .val (.int i)] (fun m => by first | (simp [entryFrame, mkF, argsToLocals, Value.category]; done) | rfl) ?_
  intro X T0 W0
  refine Go.iloadN (pc' := 1) W0 d_method_2_code_0 rfl rfl ?_
  refine Go.iloadN (pc' := 2) W0 d_method_2_code_1 rfl rfl ?_
  refine Go.iushr (pc' := 3) W0 d_method_2_code_2 rfl ?_
  refine Go.iconst (pc' := 4) W0 (1 : Int32) d_method_2_code_3 (by decide) rfl ?_
  refine Go.iand (pc' := 5) W0 d_method_2_code_4 rfl ?_
  refine Go.if_ne (pc' := 8) W0 10 d_method_2_code_5 (by decide) rfl (fun (c1 : ¬ ((((b.toUInt32 >>> (i &&& 31).toUInt32).toInt32) &&& (1 : Int32)) = 0)) => ?_) (fun (c1 : (((b.toUInt32 >>> (i &&& 31).toUInt32).toInt32) &&& (1 : Int32)) = 0) => ?_)
  · refine Go.iloadN (pc' := 11) W0 d_method_2_code_10 rfl rfl ?_
    refine Go.bipush (pc' := 13) W0 (97 : Int32) d_method_2_code_11 (by decide) rfl ?_
    refine Go.icmp_lt (pc' := 16) W0 28 d_method_2_code_13 (by decide) rfl (fun _ => ?_) (fun q => absurd (by decide) q)
    refine Go.iloadN (pc' := 29) W0 d_method_2_code_28 rfl rfl ?_
    refine Go.bipush (pc' := 31) W0 (65 : Int32) d_method_2_code_29 (by decide) rfl ?_
    refine Go.icmp_lt (pc' := 34) W0 46 d_method_2_code_31 (by decide) rfl (fun q => absurd q (by decide)) (fun _ => ?_)
    refine Go.iloadN (pc' := 35) W0 d_method_2_code_34 rfl rfl ?_
    refine Go.bipush (pc' := 37) W0 (90 : Int32) d_method_2_code_35 (by decide) rfl ?_
    refine Go.icmp_gt (pc' := 40) W0 46 d_method_2_code_37 (by decide) rfl (fun q => absurd q (by decide)) (fun _ => ?_)
    refine Go.iloadN (pc' := 41) W0 d_method_2_code_40 rfl rfl ?_
    refine Go.bipush (pc' := 43) W0 (32 : Int32) d_method_2_code_41 (by decide) rfl ?_
    refine Go.iadd (pc' := 44) W0 d_method_2_code_43 rfl ?_
    rw [show ((76 : Int32) + (32 : Int32) : Int32) = (108 : Int32) from by decide]
    refine Go.i2c (pc' := 45) W0 d_method_2_code_44 rfl ?_
    rw [show ((108 : Int32).toUInt32.toUInt16.toUInt32.toInt32 : Int32) = (108 : Int32) from by decide]
    refine Go.nret (z' := (108 : Int32)) W0 (by simp) (by decide) d_method_2_code_45 (by first | exact Nat.le_of_ble_eq_true rfl | (simp; done) | (simp; omega) | omega) (by first | exact Nat.le_of_ble_eq_true rfl | (simp; done) | (simp; omega) | omega) ?_
    exact ⟨by rw [pickF, if_neg c1], rfl, rfl⟩
  · refine Go.iloadN (pc' := 9) W0 d_method_2_code_8 rfl rfl ?_
    refine Go.nret (z' := (76 : Int32)) W0 (by simp) (by decide) d_method_2_code_9 (by first | exact Nat.le_of_ble_eq_true rfl | (simp; done) | (simp; omega) | omega) (by first | exact Nat.le_of_ble_eq_true rfl | (simp; done) | (simp; omega) | omega) ?_
    exact ⟨by rw [pickF, if_pos c1], rfl, rfl⟩
set_option maxRecDepth 65536 in
set_option maxHeartbeats 40000000 in
theorem rm_f_BZ {l : Launch} {Z : State} {a0 : Array Value} (G : Cl Z a0) (b i : Int32) :
    Met l Z EL1 (⟨"com/example/hermit_crab/hermitcrab/DialectOfPinLaw", "f", "(CII)C"⟩ : MethodName) method_2_code 3 (some .char) ({ frames := 0, cells := 0, slots := 0, locals := 0 } : Room) #[.int (77 : Int32), .int b, .int i] [] [] (fun v σ ρ => v = some (.int (pickF b i 77 109)) ∧ σ = [] ∧ ρ = []) := by
  refine Met.walk G.2.1 pn_13 #[.val (.int (77 : Int32)), .val (.int b), .val (.int i)] (fun m => by first | (simp [entryFrame, mkF, argsToLocals, Value.category]; done) | rfl) ?_
  intro X T0 W0
  refine Go.iloadN (pc' := 1) W0 d_method_2_code_0 rfl rfl ?_
  refine Go.iloadN (pc' := 2) W0 d_method_2_code_1 rfl rfl ?_
  refine Go.iushr (pc' := 3) W0 d_method_2_code_2 rfl ?_
  refine Go.iconst (pc' := 4) W0 (1 : Int32) d_method_2_code_3 (by decide) rfl ?_
  refine Go.iand (pc' := 5) W0 d_method_2_code_4 rfl ?_
  refine Go.if_ne (pc' := 8) W0 10 d_method_2_code_5 (by decide) rfl (fun (c1 : ¬ ((((b.toUInt32 >>> (i &&& 31).toUInt32).toInt32) &&& (1 : Int32)) = 0)) => ?_) (fun (c1 : (((b.toUInt32 >>> (i &&& 31).toUInt32).toInt32) &&& (1 : Int32)) = 0) => ?_)
  · refine Go.iloadN (pc' := 11) W0 d_method_2_code_10 rfl rfl ?_
    refine Go.bipush (pc' := 13) W0 (97 : Int32) d_method_2_code_11 (by decide) rfl ?_
    refine Go.icmp_lt (pc' := 16) W0 28 d_method_2_code_13 (by decide) rfl (fun _ => ?_) (fun q => absurd (by decide) q)
    refine Go.iloadN (pc' := 29) W0 d_method_2_code_28 rfl rfl ?_
    refine Go.bipush (pc' := 31) W0 (65 : Int32) d_method_2_code_29 (by decide) rfl ?_
    refine Go.icmp_lt (pc' := 34) W0 46 d_method_2_code_31 (by decide) rfl (fun q => absurd q (by decide)) (fun _ => ?_)
    refine Go.iloadN (pc' := 35) W0 d_method_2_code_34 rfl rfl ?_
    refine Go.bipush (pc' := 37) W0 (90 : Int32) d_method_2_code_35 (by decide) rfl ?_
    refine Go.icmp_gt (pc' := 40) W0 46 d_method_2_code_37 (by decide) rfl (fun q => absurd q (by decide)) (fun _ => ?_)
    refine Go.iloadN (pc' := 41) W0 d_method_2_code_40 rfl rfl ?_
    refine Go.bipush (pc' := 43) W0 (32 : Int32) d_method_2_code_41 (by decide) rfl ?_
    refine Go.iadd (pc' := 44) W0 d_method_2_code_43 rfl ?_
    rw [show ((77 : Int32) + (32 : Int32) : Int32) = (109 : Int32) from by decide]
    refine Go.i2c (pc' := 45) W0 d_method_2_code_44 rfl ?_
    rw [show ((109 : Int32).toUInt32.toUInt16.toUInt32.toInt32 : Int32) = (109 : Int32) from by decide]
    refine Go.nret (z' := (109 : Int32)) W0 (by simp) (by decide) d_method_2_code_45 (by first | exact Nat.le_of_ble_eq_true rfl | (simp; done) | (simp; omega) | omega) (by first | exact Nat.le_of_ble_eq_true rfl | (simp; done) | (simp; omega) | omega) ?_
    exact ⟨by rw [pickF, if_neg c1], rfl, rfl⟩
  · refine Go.iloadN (pc' := 9) W0 d_method_2_code_8 rfl rfl ?_
    refine Go.nret (z' := (77 : Int32)) W0 (by simp) (by decide) d_method_2_code_9 (by first | exact Nat.le_of_ble_eq_true rfl | (simp; done) | (simp; omega) | omega) (by first | exact Nat.le_of_ble_eq_true rfl | (simp; done) | (simp; omega) | omega) ?_
    exact ⟨by rw [pickF, if_pos c1], rfl, rfl⟩
set_option maxRecDepth 65536 in
set_option maxHeartbeats 40000000 in
theorem rm_f_CC {l : Launch} {Z : State} {a0 : Array Value} (G : Cl Z a0) (b i : Int32) :
    Met l Z EL1 (⟨"com/example/hermit_crab/hermitcrab/DialectOfPinLaw", "f", "(CII)C"⟩ : MethodName) method_2_code 3 (some .char) ({ frames := 0, cells := 0, slots := 0, locals := 0 } : Room) #[.int (80 : Int32), .int b, .int i] [] [] (fun v σ ρ => v = some (.int (pickF b i 80 112)) ∧ σ = [] ∧ ρ = []) := by
  refine Met.walk G.2.1 pn_13 #[.val (.int (80 : Int32)), .val (.int b), .val (.int i)] (fun m => by first | (simp [entryFrame, mkF, argsToLocals, Value.category]; done) | rfl) ?_
  intro X T0 W0
  refine Go.iloadN (pc' := 1) W0 d_method_2_code_0 rfl rfl ?_
  refine Go.iloadN (pc' := 2) W0 d_method_2_code_1 rfl rfl ?_
  refine Go.iushr (pc' := 3) W0 d_method_2_code_2 rfl ?_
  refine Go.iconst (pc' := 4) W0 (1 : Int32) d_method_2_code_3 (by decide) rfl ?_
  refine Go.iand (pc' := 5) W0 d_method_2_code_4 rfl ?_
  refine Go.if_ne (pc' := 8) W0 10 d_method_2_code_5 (by decide) rfl (fun (c1 : ¬ ((((b.toUInt32 >>> (i &&& 31).toUInt32).toInt32) &&& (1 : Int32)) = 0)) => ?_) (fun (c1 : (((b.toUInt32 >>> (i &&& 31).toUInt32).toInt32) &&& (1 : Int32)) = 0) => ?_)
  · refine Go.iloadN (pc' := 11) W0 d_method_2_code_10 rfl rfl ?_
    refine Go.bipush (pc' := 13) W0 (97 : Int32) d_method_2_code_11 (by decide) rfl ?_
    refine Go.icmp_lt (pc' := 16) W0 28 d_method_2_code_13 (by decide) rfl (fun _ => ?_) (fun q => absurd (by decide) q)
    refine Go.iloadN (pc' := 29) W0 d_method_2_code_28 rfl rfl ?_
    refine Go.bipush (pc' := 31) W0 (65 : Int32) d_method_2_code_29 (by decide) rfl ?_
    refine Go.icmp_lt (pc' := 34) W0 46 d_method_2_code_31 (by decide) rfl (fun q => absurd q (by decide)) (fun _ => ?_)
    refine Go.iloadN (pc' := 35) W0 d_method_2_code_34 rfl rfl ?_
    refine Go.bipush (pc' := 37) W0 (90 : Int32) d_method_2_code_35 (by decide) rfl ?_
    refine Go.icmp_gt (pc' := 40) W0 46 d_method_2_code_37 (by decide) rfl (fun q => absurd q (by decide)) (fun _ => ?_)
    refine Go.iloadN (pc' := 41) W0 d_method_2_code_40 rfl rfl ?_
    refine Go.bipush (pc' := 43) W0 (32 : Int32) d_method_2_code_41 (by decide) rfl ?_
    refine Go.iadd (pc' := 44) W0 d_method_2_code_43 rfl ?_
    rw [show ((80 : Int32) + (32 : Int32) : Int32) = (112 : Int32) from by decide]
    refine Go.i2c (pc' := 45) W0 d_method_2_code_44 rfl ?_
    rw [show ((112 : Int32).toUInt32.toUInt16.toUInt32.toInt32 : Int32) = (112 : Int32) from by decide]
    refine Go.nret (z' := (112 : Int32)) W0 (by simp) (by decide) d_method_2_code_45 (by first | exact Nat.le_of_ble_eq_true rfl | (simp; done) | (simp; omega) | omega) (by first | exact Nat.le_of_ble_eq_true rfl | (simp; done) | (simp; omega) | omega) ?_
    exact ⟨by rw [pickF, if_neg c1], rfl, rfl⟩
  · refine Go.iloadN (pc' := 9) W0 d_method_2_code_8 rfl rfl ?_
    refine Go.nret (z' := (80 : Int32)) W0 (by simp) (by decide) d_method_2_code_9 (by first | exact Nat.le_of_ble_eq_true rfl | (simp; done) | (simp; omega) | omega) (by first | exact Nat.le_of_ble_eq_true rfl | (simp; done) | (simp; omega) | omega) ?_
    exact ⟨by rw [pickF, if_pos c1], rfl, rfl⟩
set_option maxRecDepth 65536 in
set_option maxHeartbeats 40000000 in
theorem rm_f_CD {l : Launch} {Z : State} {a0 : Array Value} (G : Cl Z a0) (b i : Int32) :
    Met l Z EL1 (⟨"com/example/hermit_crab/hermitcrab/DialectOfPinLaw", "f", "(CII)C"⟩ : MethodName) method_2_code 3 (some .char) ({ frames := 0, cells := 0, slots := 0, locals := 0 } : Room) #[.int (81 : Int32), .int b, .int i] [] [] (fun v σ ρ => v = some (.int (pickF b i 81 113)) ∧ σ = [] ∧ ρ = []) := by
  refine Met.walk G.2.1 pn_13 #[.val (.int (81 : Int32)), .val (.int b), .val (.int i)] (fun m => by first | (simp [entryFrame, mkF, argsToLocals, Value.category]; done) | rfl) ?_
  intro X T0 W0
  refine Go.iloadN (pc' := 1) W0 d_method_2_code_0 rfl rfl ?_
  refine Go.iloadN (pc' := 2) W0 d_method_2_code_1 rfl rfl ?_
  refine Go.iushr (pc' := 3) W0 d_method_2_code_2 rfl ?_
  refine Go.iconst (pc' := 4) W0 (1 : Int32) d_method_2_code_3 (by decide) rfl ?_
  refine Go.iand (pc' := 5) W0 d_method_2_code_4 rfl ?_
  refine Go.if_ne (pc' := 8) W0 10 d_method_2_code_5 (by decide) rfl (fun (c1 : ¬ ((((b.toUInt32 >>> (i &&& 31).toUInt32).toInt32) &&& (1 : Int32)) = 0)) => ?_) (fun (c1 : (((b.toUInt32 >>> (i &&& 31).toUInt32).toInt32) &&& (1 : Int32)) = 0) => ?_)
  · refine Go.iloadN (pc' := 11) W0 d_method_2_code_10 rfl rfl ?_
    refine Go.bipush (pc' := 13) W0 (97 : Int32) d_method_2_code_11 (by decide) rfl ?_
    refine Go.icmp_lt (pc' := 16) W0 28 d_method_2_code_13 (by decide) rfl (fun _ => ?_) (fun q => absurd (by decide) q)
    refine Go.iloadN (pc' := 29) W0 d_method_2_code_28 rfl rfl ?_
    refine Go.bipush (pc' := 31) W0 (65 : Int32) d_method_2_code_29 (by decide) rfl ?_
    refine Go.icmp_lt (pc' := 34) W0 46 d_method_2_code_31 (by decide) rfl (fun q => absurd q (by decide)) (fun _ => ?_)
    refine Go.iloadN (pc' := 35) W0 d_method_2_code_34 rfl rfl ?_
    refine Go.bipush (pc' := 37) W0 (90 : Int32) d_method_2_code_35 (by decide) rfl ?_
    refine Go.icmp_gt (pc' := 40) W0 46 d_method_2_code_37 (by decide) rfl (fun q => absurd q (by decide)) (fun _ => ?_)
    refine Go.iloadN (pc' := 41) W0 d_method_2_code_40 rfl rfl ?_
    refine Go.bipush (pc' := 43) W0 (32 : Int32) d_method_2_code_41 (by decide) rfl ?_
    refine Go.iadd (pc' := 44) W0 d_method_2_code_43 rfl ?_
    rw [show ((81 : Int32) + (32 : Int32) : Int32) = (113 : Int32) from by decide]
    refine Go.i2c (pc' := 45) W0 d_method_2_code_44 rfl ?_
    rw [show ((113 : Int32).toUInt32.toUInt16.toUInt32.toInt32 : Int32) = (113 : Int32) from by decide]
    refine Go.nret (z' := (113 : Int32)) W0 (by simp) (by decide) d_method_2_code_45 (by first | exact Nat.le_of_ble_eq_true rfl | (simp; done) | (simp; omega) | omega) (by first | exact Nat.le_of_ble_eq_true rfl | (simp; done) | (simp; omega) | omega) ?_
    exact ⟨by rw [pickF, if_neg c1], rfl, rfl⟩
  · refine Go.iloadN (pc' := 9) W0 d_method_2_code_8 rfl rfl ?_
    refine Go.nret (z' := (81 : Int32)) W0 (by simp) (by decide) d_method_2_code_9 (by first | exact Nat.le_of_ble_eq_true rfl | (simp; done) | (simp; omega) | omega) (by first | exact Nat.le_of_ble_eq_true rfl | (simp; done) | (simp; omega) | omega) ?_
    exact ⟨by rw [pickF, if_pos c1], rfl, rfl⟩
set_option maxRecDepth 65536 in
set_option maxHeartbeats 40000000 in
theorem rm_f_CF {l : Launch} {Z : State} {a0 : Array Value} (G : Cl Z a0) (b i : Int32) :
    Met l Z EL1 (⟨"com/example/hermit_crab/hermitcrab/DialectOfPinLaw", "f", "(CII)C"⟩ : MethodName) method_2_code 3 (some .char) ({ frames := 0, cells := 0, slots := 0, locals := 0 } : Room) #[.int (83 : Int32), .int b, .int i] [] [] (fun v σ ρ => v = some (.int (pickF b i 83 115)) ∧ σ = [] ∧ ρ = []) := by
  refine Met.walk G.2.1 pn_13 #[.val (.int (83 : Int32)), .val (.int b), .val (.int i)] (fun m => by first | (simp [entryFrame, mkF, argsToLocals, Value.category]; done) | rfl) ?_
  intro X T0 W0
  refine Go.iloadN (pc' := 1) W0 d_method_2_code_0 rfl rfl ?_
  refine Go.iloadN (pc' := 2) W0 d_method_2_code_1 rfl rfl ?_
  refine Go.iushr (pc' := 3) W0 d_method_2_code_2 rfl ?_
  refine Go.iconst (pc' := 4) W0 (1 : Int32) d_method_2_code_3 (by decide) rfl ?_
  refine Go.iand (pc' := 5) W0 d_method_2_code_4 rfl ?_
  refine Go.if_ne (pc' := 8) W0 10 d_method_2_code_5 (by decide) rfl (fun (c1 : ¬ ((((b.toUInt32 >>> (i &&& 31).toUInt32).toInt32) &&& (1 : Int32)) = 0)) => ?_) (fun (c1 : (((b.toUInt32 >>> (i &&& 31).toUInt32).toInt32) &&& (1 : Int32)) = 0) => ?_)
  · refine Go.iloadN (pc' := 11) W0 d_method_2_code_10 rfl rfl ?_
    refine Go.bipush (pc' := 13) W0 (97 : Int32) d_method_2_code_11 (by decide) rfl ?_
    refine Go.icmp_lt (pc' := 16) W0 28 d_method_2_code_13 (by decide) rfl (fun _ => ?_) (fun q => absurd (by decide) q)
    refine Go.iloadN (pc' := 29) W0 d_method_2_code_28 rfl rfl ?_
    refine Go.bipush (pc' := 31) W0 (65 : Int32) d_method_2_code_29 (by decide) rfl ?_
    refine Go.icmp_lt (pc' := 34) W0 46 d_method_2_code_31 (by decide) rfl (fun q => absurd q (by decide)) (fun _ => ?_)
    refine Go.iloadN (pc' := 35) W0 d_method_2_code_34 rfl rfl ?_
    refine Go.bipush (pc' := 37) W0 (90 : Int32) d_method_2_code_35 (by decide) rfl ?_
    refine Go.icmp_gt (pc' := 40) W0 46 d_method_2_code_37 (by decide) rfl (fun q => absurd q (by decide)) (fun _ => ?_)
    refine Go.iloadN (pc' := 41) W0 d_method_2_code_40 rfl rfl ?_
    refine Go.bipush (pc' := 43) W0 (32 : Int32) d_method_2_code_41 (by decide) rfl ?_
    refine Go.iadd (pc' := 44) W0 d_method_2_code_43 rfl ?_
    rw [show ((83 : Int32) + (32 : Int32) : Int32) = (115 : Int32) from by decide]
    refine Go.i2c (pc' := 45) W0 d_method_2_code_44 rfl ?_
    rw [show ((115 : Int32).toUInt32.toUInt16.toUInt32.toInt32 : Int32) = (115 : Int32) from by decide]
    refine Go.nret (z' := (115 : Int32)) W0 (by simp) (by decide) d_method_2_code_45 (by first | exact Nat.le_of_ble_eq_true rfl | (simp; done) | (simp; omega) | omega) (by first | exact Nat.le_of_ble_eq_true rfl | (simp; done) | (simp; omega) | omega) ?_
    exact ⟨by rw [pickF, if_neg c1], rfl, rfl⟩
  · refine Go.iloadN (pc' := 9) W0 d_method_2_code_8 rfl rfl ?_
    refine Go.nret (z' := (83 : Int32)) W0 (by simp) (by decide) d_method_2_code_9 (by first | exact Nat.le_of_ble_eq_true rfl | (simp; done) | (simp; omega) | omega) (by first | exact Nat.le_of_ble_eq_true rfl | (simp; done) | (simp; omega) | omega) ?_
    exact ⟨by rw [pickF, if_pos c1], rfl, rfl⟩
theorem d_method_2_code_16 : decode method_2_code 16 = .ok (.iload_n 0, 1) := by decide +kernel
theorem d_method_2_code_17 : decode method_2_code 17 = .ok (.bipush 122, 2) := by decide +kernel
theorem d_method_2_code_19 : decode method_2_code 19 = .ok (.if_icmp .gt 9, 3) := by decide +kernel
theorem d_method_2_code_22 : decode method_2_code 22 = .ok (.iload_n 0, 1) := by decide +kernel
theorem d_method_2_code_23 : decode method_2_code 23 = .ok (.bipush 32, 2) := by decide +kernel
theorem d_method_2_code_25 : decode method_2_code 25 = .ok (.isub, 1) := by decide +kernel
theorem d_method_2_code_26 : decode method_2_code 26 = .ok (.i2c, 1) := by decide +kernel
theorem d_method_2_code_27 : decode method_2_code 27 = .ok (.ireturn, 1) := by decide +kernel
set_option maxRecDepth 65536 in
set_option maxHeartbeats 40000000 in
theorem rm_f_CT {l : Launch} {Z : State} {a0 : Array Value} (G : Cl Z a0) (b i : Int32) :
    Met l Z EL1 (⟨"com/example/hermit_crab/hermitcrab/DialectOfPinLaw", "f", "(CII)C"⟩ : MethodName) method_2_code 3 (some .char) ({ frames := 0, cells := 0, slots := 0, locals := 0 } : Room) #[.int (97 : Int32), .int b, .int i] [] [] (fun v σ ρ => v = some (.int (pickF b i 97 65)) ∧ σ = [] ∧ ρ = []) := by
  refine Met.walk G.2.1 pn_13 #[.val (.int (97 : Int32)), .val (.int b), .val (.int i)] (fun m => by first | (simp [entryFrame, mkF, argsToLocals, Value.category]; done) | rfl) ?_
  intro X T0 W0
  refine Go.iloadN (pc' := 1) W0 d_method_2_code_0 rfl rfl ?_
  refine Go.iloadN (pc' := 2) W0 d_method_2_code_1 rfl rfl ?_
  refine Go.iushr (pc' := 3) W0 d_method_2_code_2 rfl ?_
  refine Go.iconst (pc' := 4) W0 (1 : Int32) d_method_2_code_3 (by decide) rfl ?_
  refine Go.iand (pc' := 5) W0 d_method_2_code_4 rfl ?_
  refine Go.if_ne (pc' := 8) W0 10 d_method_2_code_5 (by decide) rfl (fun (c1 : ¬ ((((b.toUInt32 >>> (i &&& 31).toUInt32).toInt32) &&& (1 : Int32)) = 0)) => ?_) (fun (c1 : (((b.toUInt32 >>> (i &&& 31).toUInt32).toInt32) &&& (1 : Int32)) = 0) => ?_)
  · refine Go.iloadN (pc' := 11) W0 d_method_2_code_10 rfl rfl ?_
    refine Go.bipush (pc' := 13) W0 (97 : Int32) d_method_2_code_11 (by decide) rfl ?_
    refine Go.icmp_lt (pc' := 16) W0 28 d_method_2_code_13 (by decide) rfl (fun q => absurd q (by decide)) (fun _ => ?_)
    refine Go.iloadN (pc' := 17) W0 d_method_2_code_16 rfl rfl ?_
    refine Go.bipush (pc' := 19) W0 (122 : Int32) d_method_2_code_17 (by decide) rfl ?_
    refine Go.icmp_gt (pc' := 22) W0 28 d_method_2_code_19 (by decide) rfl (fun q => absurd q (by decide)) (fun _ => ?_)
    refine Go.iloadN (pc' := 23) W0 d_method_2_code_22 rfl rfl ?_
    refine Go.bipush (pc' := 25) W0 (32 : Int32) d_method_2_code_23 (by decide) rfl ?_
    refine Go.isub (pc' := 26) W0 d_method_2_code_25 rfl ?_
    rw [show ((97 : Int32) - (32 : Int32) : Int32) = (65 : Int32) from by decide]
    refine Go.i2c (pc' := 27) W0 d_method_2_code_26 rfl ?_
    rw [show ((65 : Int32).toUInt32.toUInt16.toUInt32.toInt32 : Int32) = (65 : Int32) from by decide]
    refine Go.nret (z' := (65 : Int32)) W0 (by simp) (by decide) d_method_2_code_27 (by first | exact Nat.le_of_ble_eq_true rfl | (simp; done) | (simp; omega) | omega) (by first | exact Nat.le_of_ble_eq_true rfl | (simp; done) | (simp; omega) | omega) ?_
    exact ⟨by rw [pickF, if_neg c1], rfl, rfl⟩
  · refine Go.iloadN (pc' := 9) W0 d_method_2_code_8 rfl rfl ?_
    refine Go.nret (z' := (97 : Int32)) W0 (by simp) (by decide) d_method_2_code_9 (by first | exact Nat.le_of_ble_eq_true rfl | (simp; done) | (simp; omega) | omega) (by first | exact Nat.le_of_ble_eq_true rfl | (simp; done) | (simp; omega) | omega) ?_
    exact ⟨by rw [pickF, if_pos c1], rfl, rfl⟩
set_option maxRecDepth 65536 in
set_option maxHeartbeats 40000000 in
theorem rm_f_CX {l : Launch} {Z : State} {a0 : Array Value} (G : Cl Z a0) (b i : Int32) :
    Met l Z EL1 (⟨"com/example/hermit_crab/hermitcrab/DialectOfPinLaw", "f", "(CII)C"⟩ : MethodName) method_2_code 3 (some .char) ({ frames := 0, cells := 0, slots := 0, locals := 0 } : Room) #[.int (101 : Int32), .int b, .int i] [] [] (fun v σ ρ => v = some (.int (pickF b i 101 69)) ∧ σ = [] ∧ ρ = []) := by
  refine Met.walk G.2.1 pn_13 #[.val (.int (101 : Int32)), .val (.int b), .val (.int i)] (fun m => by first | (simp [entryFrame, mkF, argsToLocals, Value.category]; done) | rfl) ?_
  intro X T0 W0
  refine Go.iloadN (pc' := 1) W0 d_method_2_code_0 rfl rfl ?_
  refine Go.iloadN (pc' := 2) W0 d_method_2_code_1 rfl rfl ?_
  refine Go.iushr (pc' := 3) W0 d_method_2_code_2 rfl ?_
  refine Go.iconst (pc' := 4) W0 (1 : Int32) d_method_2_code_3 (by decide) rfl ?_
  refine Go.iand (pc' := 5) W0 d_method_2_code_4 rfl ?_
  refine Go.if_ne (pc' := 8) W0 10 d_method_2_code_5 (by decide) rfl (fun (c1 : ¬ ((((b.toUInt32 >>> (i &&& 31).toUInt32).toInt32) &&& (1 : Int32)) = 0)) => ?_) (fun (c1 : (((b.toUInt32 >>> (i &&& 31).toUInt32).toInt32) &&& (1 : Int32)) = 0) => ?_)
  · refine Go.iloadN (pc' := 11) W0 d_method_2_code_10 rfl rfl ?_
    refine Go.bipush (pc' := 13) W0 (97 : Int32) d_method_2_code_11 (by decide) rfl ?_
    refine Go.icmp_lt (pc' := 16) W0 28 d_method_2_code_13 (by decide) rfl (fun q => absurd q (by decide)) (fun _ => ?_)
    refine Go.iloadN (pc' := 17) W0 d_method_2_code_16 rfl rfl ?_
    refine Go.bipush (pc' := 19) W0 (122 : Int32) d_method_2_code_17 (by decide) rfl ?_
    refine Go.icmp_gt (pc' := 22) W0 28 d_method_2_code_19 (by decide) rfl (fun q => absurd q (by decide)) (fun _ => ?_)
    refine Go.iloadN (pc' := 23) W0 d_method_2_code_22 rfl rfl ?_
    refine Go.bipush (pc' := 25) W0 (32 : Int32) d_method_2_code_23 (by decide) rfl ?_
    refine Go.isub (pc' := 26) W0 d_method_2_code_25 rfl ?_
    rw [show ((101 : Int32) - (32 : Int32) : Int32) = (69 : Int32) from by decide]
    refine Go.i2c (pc' := 27) W0 d_method_2_code_26 rfl ?_
    rw [show ((69 : Int32).toUInt32.toUInt16.toUInt32.toInt32 : Int32) = (69 : Int32) from by decide]
    refine Go.nret (z' := (69 : Int32)) W0 (by simp) (by decide) d_method_2_code_27 (by first | exact Nat.le_of_ble_eq_true rfl | (simp; done) | (simp; omega) | omega) (by first | exact Nat.le_of_ble_eq_true rfl | (simp; done) | (simp; omega) | omega) ?_
    exact ⟨by rw [pickF, if_neg c1], rfl, rfl⟩
  · refine Go.iloadN (pc' := 9) W0 d_method_2_code_8 rfl rfl ?_
    refine Go.nret (z' := (101 : Int32)) W0 (by simp) (by decide) d_method_2_code_9 (by first | exact Nat.le_of_ble_eq_true rfl | (simp; done) | (simp; omega) | omega) (by first | exact Nat.le_of_ble_eq_true rfl | (simp; done) | (simp; omega) | omega) ?_
    exact ⟨by rw [pickF, if_pos c1], rfl, rfl⟩
set_option maxRecDepth 65536 in
set_option maxHeartbeats 40000000 in
theorem rm_f_CZ {l : Launch} {Z : State} {a0 : Array Value} (G : Cl Z a0) (b i : Int32) :
    Met l Z EL1 (⟨"com/example/hermit_crab/hermitcrab/DialectOfPinLaw", "f", "(CII)C"⟩ : MethodName) method_2_code 3 (some .char) ({ frames := 0, cells := 0, slots := 0, locals := 0 } : Room) #[.int (103 : Int32), .int b, .int i] [] [] (fun v σ ρ => v = some (.int (pickF b i 103 71)) ∧ σ = [] ∧ ρ = []) := by
  refine Met.walk G.2.1 pn_13 #[.val (.int (103 : Int32)), .val (.int b), .val (.int i)] (fun m => by first | (simp [entryFrame, mkF, argsToLocals, Value.category]; done) | rfl) ?_
  intro X T0 W0
  refine Go.iloadN (pc' := 1) W0 d_method_2_code_0 rfl rfl ?_
  refine Go.iloadN (pc' := 2) W0 d_method_2_code_1 rfl rfl ?_
  refine Go.iushr (pc' := 3) W0 d_method_2_code_2 rfl ?_
  refine Go.iconst (pc' := 4) W0 (1 : Int32) d_method_2_code_3 (by decide) rfl ?_
  refine Go.iand (pc' := 5) W0 d_method_2_code_4 rfl ?_
  refine Go.if_ne (pc' := 8) W0 10 d_method_2_code_5 (by decide) rfl (fun (c1 : ¬ ((((b.toUInt32 >>> (i &&& 31).toUInt32).toInt32) &&& (1 : Int32)) = 0)) => ?_) (fun (c1 : (((b.toUInt32 >>> (i &&& 31).toUInt32).toInt32) &&& (1 : Int32)) = 0) => ?_)
  · refine Go.iloadN (pc' := 11) W0 d_method_2_code_10 rfl rfl ?_
    refine Go.bipush (pc' := 13) W0 (97 : Int32) d_method_2_code_11 (by decide) rfl ?_
    refine Go.icmp_lt (pc' := 16) W0 28 d_method_2_code_13 (by decide) rfl (fun q => absurd q (by decide)) (fun _ => ?_)
    refine Go.iloadN (pc' := 17) W0 d_method_2_code_16 rfl rfl ?_
    refine Go.bipush (pc' := 19) W0 (122 : Int32) d_method_2_code_17 (by decide) rfl ?_
    refine Go.icmp_gt (pc' := 22) W0 28 d_method_2_code_19 (by decide) rfl (fun q => absurd q (by decide)) (fun _ => ?_)
    refine Go.iloadN (pc' := 23) W0 d_method_2_code_22 rfl rfl ?_
    refine Go.bipush (pc' := 25) W0 (32 : Int32) d_method_2_code_23 (by decide) rfl ?_
    refine Go.isub (pc' := 26) W0 d_method_2_code_25 rfl ?_
    rw [show ((103 : Int32) - (32 : Int32) : Int32) = (71 : Int32) from by decide]
    refine Go.i2c (pc' := 27) W0 d_method_2_code_26 rfl ?_
    rw [show ((71 : Int32).toUInt32.toUInt16.toUInt32.toInt32 : Int32) = (71 : Int32) from by decide]
    refine Go.nret (z' := (71 : Int32)) W0 (by simp) (by decide) d_method_2_code_27 (by first | exact Nat.le_of_ble_eq_true rfl | (simp; done) | (simp; omega) | omega) (by first | exact Nat.le_of_ble_eq_true rfl | (simp; done) | (simp; omega) | omega) ?_
    exact ⟨by rw [pickF, if_neg c1], rfl, rfl⟩
  · refine Go.iloadN (pc' := 9) W0 d_method_2_code_8 rfl rfl ?_
    refine Go.nret (z' := (103 : Int32)) W0 (by simp) (by decide) d_method_2_code_9 (by first | exact Nat.le_of_ble_eq_true rfl | (simp; done) | (simp; omega) | omega) (by first | exact Nat.le_of_ble_eq_true rfl | (simp; done) | (simp; omega) | omega) ?_
    exact ⟨by rw [pickF, if_pos c1], rfl, rfl⟩
set_option maxRecDepth 65536 in
set_option maxHeartbeats 40000000 in
theorem rm_f_DB {l : Launch} {Z : State} {a0 : Array Value} (G : Cl Z a0) (b i : Int32) :
    Met l Z EL1 (⟨"com/example/hermit_crab/hermitcrab/DialectOfPinLaw", "f", "(CII)C"⟩ : MethodName) method_2_code 3 (some .char) ({ frames := 0, cells := 0, slots := 0, locals := 0 } : Room) #[.int (105 : Int32), .int b, .int i] [] [] (fun v σ ρ => v = some (.int (pickF b i 105 73)) ∧ σ = [] ∧ ρ = []) := by
  refine Met.walk G.2.1 pn_13 #[.val (.int (105 : Int32)), .val (.int b), .val (.int i)] (fun m => by first | (simp [entryFrame, mkF, argsToLocals, Value.category]; done) | rfl) ?_
  intro X T0 W0
  refine Go.iloadN (pc' := 1) W0 d_method_2_code_0 rfl rfl ?_
  refine Go.iloadN (pc' := 2) W0 d_method_2_code_1 rfl rfl ?_
  refine Go.iushr (pc' := 3) W0 d_method_2_code_2 rfl ?_
  refine Go.iconst (pc' := 4) W0 (1 : Int32) d_method_2_code_3 (by decide) rfl ?_
  refine Go.iand (pc' := 5) W0 d_method_2_code_4 rfl ?_
  refine Go.if_ne (pc' := 8) W0 10 d_method_2_code_5 (by decide) rfl (fun (c1 : ¬ ((((b.toUInt32 >>> (i &&& 31).toUInt32).toInt32) &&& (1 : Int32)) = 0)) => ?_) (fun (c1 : (((b.toUInt32 >>> (i &&& 31).toUInt32).toInt32) &&& (1 : Int32)) = 0) => ?_)
  · refine Go.iloadN (pc' := 11) W0 d_method_2_code_10 rfl rfl ?_
    refine Go.bipush (pc' := 13) W0 (97 : Int32) d_method_2_code_11 (by decide) rfl ?_
    refine Go.icmp_lt (pc' := 16) W0 28 d_method_2_code_13 (by decide) rfl (fun q => absurd q (by decide)) (fun _ => ?_)
    refine Go.iloadN (pc' := 17) W0 d_method_2_code_16 rfl rfl ?_
    refine Go.bipush (pc' := 19) W0 (122 : Int32) d_method_2_code_17 (by decide) rfl ?_
    refine Go.icmp_gt (pc' := 22) W0 28 d_method_2_code_19 (by decide) rfl (fun q => absurd q (by decide)) (fun _ => ?_)
    refine Go.iloadN (pc' := 23) W0 d_method_2_code_22 rfl rfl ?_
    refine Go.bipush (pc' := 25) W0 (32 : Int32) d_method_2_code_23 (by decide) rfl ?_
    refine Go.isub (pc' := 26) W0 d_method_2_code_25 rfl ?_
    rw [show ((105 : Int32) - (32 : Int32) : Int32) = (73 : Int32) from by decide]
    refine Go.i2c (pc' := 27) W0 d_method_2_code_26 rfl ?_
    rw [show ((73 : Int32).toUInt32.toUInt16.toUInt32.toInt32 : Int32) = (73 : Int32) from by decide]
    refine Go.nret (z' := (73 : Int32)) W0 (by simp) (by decide) d_method_2_code_27 (by first | exact Nat.le_of_ble_eq_true rfl | (simp; done) | (simp; omega) | omega) (by first | exact Nat.le_of_ble_eq_true rfl | (simp; done) | (simp; omega) | omega) ?_
    exact ⟨by rw [pickF, if_neg c1], rfl, rfl⟩
  · refine Go.iloadN (pc' := 9) W0 d_method_2_code_8 rfl rfl ?_
    refine Go.nret (z' := (105 : Int32)) W0 (by simp) (by decide) d_method_2_code_9 (by first | exact Nat.le_of_ble_eq_true rfl | (simp; done) | (simp; omega) | omega) (by first | exact Nat.le_of_ble_eq_true rfl | (simp; done) | (simp; omega) | omega) ?_
    exact ⟨by rw [pickF, if_pos c1], rfl, rfl⟩
set_option maxRecDepth 65536 in
set_option maxHeartbeats 40000000 in
theorem rm_f_DH {l : Launch} {Z : State} {a0 : Array Value} (G : Cl Z a0) (b i : Int32) :
    Met l Z EL1 (⟨"com/example/hermit_crab/hermitcrab/DialectOfPinLaw", "f", "(CII)C"⟩ : MethodName) method_2_code 3 (some .char) ({ frames := 0, cells := 0, slots := 0, locals := 0 } : Room) #[.int (111 : Int32), .int b, .int i] [] [] (fun v σ ρ => v = some (.int (pickF b i 111 79)) ∧ σ = [] ∧ ρ = []) := by
  refine Met.walk G.2.1 pn_13 #[.val (.int (111 : Int32)), .val (.int b), .val (.int i)] (fun m => by first | (simp [entryFrame, mkF, argsToLocals, Value.category]; done) | rfl) ?_
  intro X T0 W0
  refine Go.iloadN (pc' := 1) W0 d_method_2_code_0 rfl rfl ?_
  refine Go.iloadN (pc' := 2) W0 d_method_2_code_1 rfl rfl ?_
  refine Go.iushr (pc' := 3) W0 d_method_2_code_2 rfl ?_
  refine Go.iconst (pc' := 4) W0 (1 : Int32) d_method_2_code_3 (by decide) rfl ?_
  refine Go.iand (pc' := 5) W0 d_method_2_code_4 rfl ?_
  refine Go.if_ne (pc' := 8) W0 10 d_method_2_code_5 (by decide) rfl (fun (c1 : ¬ ((((b.toUInt32 >>> (i &&& 31).toUInt32).toInt32) &&& (1 : Int32)) = 0)) => ?_) (fun (c1 : (((b.toUInt32 >>> (i &&& 31).toUInt32).toInt32) &&& (1 : Int32)) = 0) => ?_)
  · refine Go.iloadN (pc' := 11) W0 d_method_2_code_10 rfl rfl ?_
    refine Go.bipush (pc' := 13) W0 (97 : Int32) d_method_2_code_11 (by decide) rfl ?_
    refine Go.icmp_lt (pc' := 16) W0 28 d_method_2_code_13 (by decide) rfl (fun q => absurd q (by decide)) (fun _ => ?_)
    refine Go.iloadN (pc' := 17) W0 d_method_2_code_16 rfl rfl ?_
    refine Go.bipush (pc' := 19) W0 (122 : Int32) d_method_2_code_17 (by decide) rfl ?_
    refine Go.icmp_gt (pc' := 22) W0 28 d_method_2_code_19 (by decide) rfl (fun q => absurd q (by decide)) (fun _ => ?_)
    refine Go.iloadN (pc' := 23) W0 d_method_2_code_22 rfl rfl ?_
    refine Go.bipush (pc' := 25) W0 (32 : Int32) d_method_2_code_23 (by decide) rfl ?_
    refine Go.isub (pc' := 26) W0 d_method_2_code_25 rfl ?_
    rw [show ((111 : Int32) - (32 : Int32) : Int32) = (79 : Int32) from by decide]
    refine Go.i2c (pc' := 27) W0 d_method_2_code_26 rfl ?_
    rw [show ((79 : Int32).toUInt32.toUInt16.toUInt32.toInt32 : Int32) = (79 : Int32) from by decide]
    refine Go.nret (z' := (79 : Int32)) W0 (by simp) (by decide) d_method_2_code_27 (by first | exact Nat.le_of_ble_eq_true rfl | (simp; done) | (simp; omega) | omega) (by first | exact Nat.le_of_ble_eq_true rfl | (simp; done) | (simp; omega) | omega) ?_
    exact ⟨by rw [pickF, if_neg c1], rfl, rfl⟩
  · refine Go.iloadN (pc' := 9) W0 d_method_2_code_8 rfl rfl ?_
    refine Go.nret (z' := (111 : Int32)) W0 (by simp) (by decide) d_method_2_code_9 (by first | exact Nat.le_of_ble_eq_true rfl | (simp; done) | (simp; omega) | omega) (by first | exact Nat.le_of_ble_eq_true rfl | (simp; done) | (simp; omega) | omega) ?_
    exact ⟨by rw [pickF, if_pos c1], rfl, rfl⟩
set_option maxRecDepth 65536 in
set_option maxHeartbeats 40000000 in
theorem rm_f_DK {l : Launch} {Z : State} {a0 : Array Value} (G : Cl Z a0) (b i : Int32) :
    Met l Z EL1 (⟨"com/example/hermit_crab/hermitcrab/DialectOfPinLaw", "f", "(CII)C"⟩ : MethodName) method_2_code 3 (some .char) ({ frames := 0, cells := 0, slots := 0, locals := 0 } : Room) #[.int (114 : Int32), .int b, .int i] [] [] (fun v σ ρ => v = some (.int (pickF b i 114 82)) ∧ σ = [] ∧ ρ = []) := by
  refine Met.walk G.2.1 pn_13 #[.val (.int (114 : Int32)), .val (.int b), .val (.int i)] (fun m => by first | (simp [entryFrame, mkF, argsToLocals, Value.category]; done) | rfl) ?_
  intro X T0 W0
  refine Go.iloadN (pc' := 1) W0 d_method_2_code_0 rfl rfl ?_
  refine Go.iloadN (pc' := 2) W0 d_method_2_code_1 rfl rfl ?_
  refine Go.iushr (pc' := 3) W0 d_method_2_code_2 rfl ?_
  refine Go.iconst (pc' := 4) W0 (1 : Int32) d_method_2_code_3 (by decide) rfl ?_
  refine Go.iand (pc' := 5) W0 d_method_2_code_4 rfl ?_
  refine Go.if_ne (pc' := 8) W0 10 d_method_2_code_5 (by decide) rfl (fun (c1 : ¬ ((((b.toUInt32 >>> (i &&& 31).toUInt32).toInt32) &&& (1 : Int32)) = 0)) => ?_) (fun (c1 : (((b.toUInt32 >>> (i &&& 31).toUInt32).toInt32) &&& (1 : Int32)) = 0) => ?_)
  · refine Go.iloadN (pc' := 11) W0 d_method_2_code_10 rfl rfl ?_
    refine Go.bipush (pc' := 13) W0 (97 : Int32) d_method_2_code_11 (by decide) rfl ?_
    refine Go.icmp_lt (pc' := 16) W0 28 d_method_2_code_13 (by decide) rfl (fun q => absurd q (by decide)) (fun _ => ?_)
    refine Go.iloadN (pc' := 17) W0 d_method_2_code_16 rfl rfl ?_
    refine Go.bipush (pc' := 19) W0 (122 : Int32) d_method_2_code_17 (by decide) rfl ?_
    refine Go.icmp_gt (pc' := 22) W0 28 d_method_2_code_19 (by decide) rfl (fun q => absurd q (by decide)) (fun _ => ?_)
    refine Go.iloadN (pc' := 23) W0 d_method_2_code_22 rfl rfl ?_
    refine Go.bipush (pc' := 25) W0 (32 : Int32) d_method_2_code_23 (by decide) rfl ?_
    refine Go.isub (pc' := 26) W0 d_method_2_code_25 rfl ?_
    rw [show ((114 : Int32) - (32 : Int32) : Int32) = (82 : Int32) from by decide]
    refine Go.i2c (pc' := 27) W0 d_method_2_code_26 rfl ?_
    rw [show ((82 : Int32).toUInt32.toUInt16.toUInt32.toInt32 : Int32) = (82 : Int32) from by decide]
    refine Go.nret (z' := (82 : Int32)) W0 (by simp) (by decide) d_method_2_code_27 (by first | exact Nat.le_of_ble_eq_true rfl | (simp; done) | (simp; omega) | omega) (by first | exact Nat.le_of_ble_eq_true rfl | (simp; done) | (simp; omega) | omega) ?_
    exact ⟨by rw [pickF, if_neg c1], rfl, rfl⟩
  · refine Go.iloadN (pc' := 9) W0 d_method_2_code_8 rfl rfl ?_
    refine Go.nret (z' := (114 : Int32)) W0 (by simp) (by decide) d_method_2_code_9 (by first | exact Nat.le_of_ble_eq_true rfl | (simp; done) | (simp; omega) | omega) (by first | exact Nat.le_of_ble_eq_true rfl | (simp; done) | (simp; omega) | omega) ?_
    exact ⟨by rw [pickF, if_pos c1], rfl, rfl⟩
set_option maxRecDepth 65536 in
set_option maxHeartbeats 40000000 in
theorem rm_f_DL {l : Launch} {Z : State} {a0 : Array Value} (G : Cl Z a0) (b i : Int32) :
    Met l Z EL1 (⟨"com/example/hermit_crab/hermitcrab/DialectOfPinLaw", "f", "(CII)C"⟩ : MethodName) method_2_code 3 (some .char) ({ frames := 0, cells := 0, slots := 0, locals := 0 } : Room) #[.int (115 : Int32), .int b, .int i] [] [] (fun v σ ρ => v = some (.int (pickF b i 115 83)) ∧ σ = [] ∧ ρ = []) := by
  refine Met.walk G.2.1 pn_13 #[.val (.int (115 : Int32)), .val (.int b), .val (.int i)] (fun m => by first | (simp [entryFrame, mkF, argsToLocals, Value.category]; done) | rfl) ?_
  intro X T0 W0
  refine Go.iloadN (pc' := 1) W0 d_method_2_code_0 rfl rfl ?_
  refine Go.iloadN (pc' := 2) W0 d_method_2_code_1 rfl rfl ?_
  refine Go.iushr (pc' := 3) W0 d_method_2_code_2 rfl ?_
  refine Go.iconst (pc' := 4) W0 (1 : Int32) d_method_2_code_3 (by decide) rfl ?_
  refine Go.iand (pc' := 5) W0 d_method_2_code_4 rfl ?_
  refine Go.if_ne (pc' := 8) W0 10 d_method_2_code_5 (by decide) rfl (fun (c1 : ¬ ((((b.toUInt32 >>> (i &&& 31).toUInt32).toInt32) &&& (1 : Int32)) = 0)) => ?_) (fun (c1 : (((b.toUInt32 >>> (i &&& 31).toUInt32).toInt32) &&& (1 : Int32)) = 0) => ?_)
  · refine Go.iloadN (pc' := 11) W0 d_method_2_code_10 rfl rfl ?_
    refine Go.bipush (pc' := 13) W0 (97 : Int32) d_method_2_code_11 (by decide) rfl ?_
    refine Go.icmp_lt (pc' := 16) W0 28 d_method_2_code_13 (by decide) rfl (fun q => absurd q (by decide)) (fun _ => ?_)
    refine Go.iloadN (pc' := 17) W0 d_method_2_code_16 rfl rfl ?_
    refine Go.bipush (pc' := 19) W0 (122 : Int32) d_method_2_code_17 (by decide) rfl ?_
    refine Go.icmp_gt (pc' := 22) W0 28 d_method_2_code_19 (by decide) rfl (fun q => absurd q (by decide)) (fun _ => ?_)
    refine Go.iloadN (pc' := 23) W0 d_method_2_code_22 rfl rfl ?_
    refine Go.bipush (pc' := 25) W0 (32 : Int32) d_method_2_code_23 (by decide) rfl ?_
    refine Go.isub (pc' := 26) W0 d_method_2_code_25 rfl ?_
    rw [show ((115 : Int32) - (32 : Int32) : Int32) = (83 : Int32) from by decide]
    refine Go.i2c (pc' := 27) W0 d_method_2_code_26 rfl ?_
    rw [show ((83 : Int32).toUInt32.toUInt16.toUInt32.toInt32 : Int32) = (83 : Int32) from by decide]
    refine Go.nret (z' := (83 : Int32)) W0 (by simp) (by decide) d_method_2_code_27 (by first | exact Nat.le_of_ble_eq_true rfl | (simp; done) | (simp; omega) | omega) (by first | exact Nat.le_of_ble_eq_true rfl | (simp; done) | (simp; omega) | omega) ?_
    exact ⟨by rw [pickF, if_neg c1], rfl, rfl⟩
  · refine Go.iloadN (pc' := 9) W0 d_method_2_code_8 rfl rfl ?_
    refine Go.nret (z' := (115 : Int32)) W0 (by simp) (by decide) d_method_2_code_9 (by first | exact Nat.le_of_ble_eq_true rfl | (simp; done) | (simp; omega) | omega) (by first | exact Nat.le_of_ble_eq_true rfl | (simp; done) | (simp; omega) | omega) ?_
    exact ⟨by rw [pickF, if_pos c1], rfl, rfl⟩
set_option maxRecDepth 65536 in
set_option maxHeartbeats 40000000 in
theorem rm_f_DM {l : Launch} {Z : State} {a0 : Array Value} (G : Cl Z a0) (b i : Int32) :
    Met l Z EL1 (⟨"com/example/hermit_crab/hermitcrab/DialectOfPinLaw", "f", "(CII)C"⟩ : MethodName) method_2_code 3 (some .char) ({ frames := 0, cells := 0, slots := 0, locals := 0 } : Room) #[.int (116 : Int32), .int b, .int i] [] [] (fun v σ ρ => v = some (.int (pickF b i 116 84)) ∧ σ = [] ∧ ρ = []) := by
  refine Met.walk G.2.1 pn_13 #[.val (.int (116 : Int32)), .val (.int b), .val (.int i)] (fun m => by first | (simp [entryFrame, mkF, argsToLocals, Value.category]; done) | rfl) ?_
  intro X T0 W0
  refine Go.iloadN (pc' := 1) W0 d_method_2_code_0 rfl rfl ?_
  refine Go.iloadN (pc' := 2) W0 d_method_2_code_1 rfl rfl ?_
  refine Go.iushr (pc' := 3) W0 d_method_2_code_2 rfl ?_
  refine Go.iconst (pc' := 4) W0 (1 : Int32) d_method_2_code_3 (by decide) rfl ?_
  refine Go.iand (pc' := 5) W0 d_method_2_code_4 rfl ?_
  refine Go.if_ne (pc' := 8) W0 10 d_method_2_code_5 (by decide) rfl (fun (c1 : ¬ ((((b.toUInt32 >>> (i &&& 31).toUInt32).toInt32) &&& (1 : Int32)) = 0)) => ?_) (fun (c1 : (((b.toUInt32 >>> (i &&& 31).toUInt32).toInt32) &&& (1 : Int32)) = 0) => ?_)
  · refine Go.iloadN (pc' := 11) W0 d_method_2_code_10 rfl rfl ?_
    refine Go.bipush (pc' := 13) W0 (97 : Int32) d_method_2_code_11 (by decide) rfl ?_
    refine Go.icmp_lt (pc' := 16) W0 28 d_method_2_code_13 (by decide) rfl (fun q => absurd q (by decide)) (fun _ => ?_)
    refine Go.iloadN (pc' := 17) W0 d_method_2_code_16 rfl rfl ?_
    refine Go.bipush (pc' := 19) W0 (122 : Int32) d_method_2_code_17 (by decide) rfl ?_
    refine Go.icmp_gt (pc' := 22) W0 28 d_method_2_code_19 (by decide) rfl (fun q => absurd q (by decide)) (fun _ => ?_)
    refine Go.iloadN (pc' := 23) W0 d_method_2_code_22 rfl rfl ?_
    refine Go.bipush (pc' := 25) W0 (32 : Int32) d_method_2_code_23 (by decide) rfl ?_
    refine Go.isub (pc' := 26) W0 d_method_2_code_25 rfl ?_
    rw [show ((116 : Int32) - (32 : Int32) : Int32) = (84 : Int32) from by decide]
    refine Go.i2c (pc' := 27) W0 d_method_2_code_26 rfl ?_
    rw [show ((84 : Int32).toUInt32.toUInt16.toUInt32.toInt32 : Int32) = (84 : Int32) from by decide]
    refine Go.nret (z' := (84 : Int32)) W0 (by simp) (by decide) d_method_2_code_27 (by first | exact Nat.le_of_ble_eq_true rfl | (simp; done) | (simp; omega) | omega) (by first | exact Nat.le_of_ble_eq_true rfl | (simp; done) | (simp; omega) | omega) ?_
    exact ⟨by rw [pickF, if_neg c1], rfl, rfl⟩
  · refine Go.iloadN (pc' := 9) W0 d_method_2_code_8 rfl rfl ?_
    refine Go.nret (z' := (116 : Int32)) W0 (by simp) (by decide) d_method_2_code_9 (by first | exact Nat.le_of_ble_eq_true rfl | (simp; done) | (simp; omega) | omega) (by first | exact Nat.le_of_ble_eq_true rfl | (simp; done) | (simp; omega) | omega) ?_
    exact ⟨by rw [pickF, if_pos c1], rfl, rfl⟩
set_option maxRecDepth 65536 in
set_option maxHeartbeats 40000000 in
theorem rm_f_DR {l : Launch} {Z : State} {a0 : Array Value} (G : Cl Z a0) (b i : Int32) :
    Met l Z EL1 (⟨"com/example/hermit_crab/hermitcrab/DialectOfPinLaw", "f", "(CII)C"⟩ : MethodName) method_2_code 3 (some .char) ({ frames := 0, cells := 0, slots := 0, locals := 0 } : Room) #[.int (121 : Int32), .int b, .int i] [] [] (fun v σ ρ => v = some (.int (pickF b i 121 89)) ∧ σ = [] ∧ ρ = []) := by
  refine Met.walk G.2.1 pn_13 #[.val (.int (121 : Int32)), .val (.int b), .val (.int i)] (fun m => by first | (simp [entryFrame, mkF, argsToLocals, Value.category]; done) | rfl) ?_
  intro X T0 W0
  refine Go.iloadN (pc' := 1) W0 d_method_2_code_0 rfl rfl ?_
  refine Go.iloadN (pc' := 2) W0 d_method_2_code_1 rfl rfl ?_
  refine Go.iushr (pc' := 3) W0 d_method_2_code_2 rfl ?_
  refine Go.iconst (pc' := 4) W0 (1 : Int32) d_method_2_code_3 (by decide) rfl ?_
  refine Go.iand (pc' := 5) W0 d_method_2_code_4 rfl ?_
  refine Go.if_ne (pc' := 8) W0 10 d_method_2_code_5 (by decide) rfl (fun (c1 : ¬ ((((b.toUInt32 >>> (i &&& 31).toUInt32).toInt32) &&& (1 : Int32)) = 0)) => ?_) (fun (c1 : (((b.toUInt32 >>> (i &&& 31).toUInt32).toInt32) &&& (1 : Int32)) = 0) => ?_)
  · refine Go.iloadN (pc' := 11) W0 d_method_2_code_10 rfl rfl ?_
    refine Go.bipush (pc' := 13) W0 (97 : Int32) d_method_2_code_11 (by decide) rfl ?_
    refine Go.icmp_lt (pc' := 16) W0 28 d_method_2_code_13 (by decide) rfl (fun q => absurd q (by decide)) (fun _ => ?_)
    refine Go.iloadN (pc' := 17) W0 d_method_2_code_16 rfl rfl ?_
    refine Go.bipush (pc' := 19) W0 (122 : Int32) d_method_2_code_17 (by decide) rfl ?_
    refine Go.icmp_gt (pc' := 22) W0 28 d_method_2_code_19 (by decide) rfl (fun q => absurd q (by decide)) (fun _ => ?_)
    refine Go.iloadN (pc' := 23) W0 d_method_2_code_22 rfl rfl ?_
    refine Go.bipush (pc' := 25) W0 (32 : Int32) d_method_2_code_23 (by decide) rfl ?_
    refine Go.isub (pc' := 26) W0 d_method_2_code_25 rfl ?_
    rw [show ((121 : Int32) - (32 : Int32) : Int32) = (89 : Int32) from by decide]
    refine Go.i2c (pc' := 27) W0 d_method_2_code_26 rfl ?_
    rw [show ((89 : Int32).toUInt32.toUInt16.toUInt32.toInt32 : Int32) = (89 : Int32) from by decide]
    refine Go.nret (z' := (89 : Int32)) W0 (by simp) (by decide) d_method_2_code_27 (by first | exact Nat.le_of_ble_eq_true rfl | (simp; done) | (simp; omega) | omega) (by first | exact Nat.le_of_ble_eq_true rfl | (simp; done) | (simp; omega) | omega) ?_
    exact ⟨by rw [pickF, if_neg c1], rfl, rfl⟩
  · refine Go.iloadN (pc' := 9) W0 d_method_2_code_8 rfl rfl ?_
    refine Go.nret (z' := (121 : Int32)) W0 (by simp) (by decide) d_method_2_code_9 (by first | exact Nat.le_of_ble_eq_true rfl | (simp; done) | (simp; omega) | omega) (by first | exact Nat.le_of_ble_eq_true rfl | (simp; done) | (simp; omega) | omega) ?_
    exact ⟨by rw [pickF, if_pos c1], rfl, rfl⟩
theorem pn_14 : plainName "com/example/hermit_crab/hermitcrab/JdbcLockStore$Dialect" = true := by first | (simp [plainName, overriddenIn]; done) | decide +kernel
theorem d_prog_7_method_4_code_0 : decode prog_7_method_4_code 0 = .ok (.ldc 55, 2) := by decide +kernel
theorem w_41 {Z : State} {a0 : Array Value} (G : Cl Z a0) : (Jvm.Cond.stringLink "com/example/hermit_crab/hermitcrab/JdbcLockStore$Dialect" 55 "MariaDB").before a0 Z = true := G.1 _ (List.mem_of_getElem? (l := tables_1) (i := 41) rfl)
theorem d_prog_7_method_4_code_2 : decode prog_7_method_4_code 2 = .ok (.aload_n 0, 1) := by decide +kernel
theorem d_prog_7_method_4_code_3 : decode prog_7_method_4_code 3 = .ok (.invokevirtual 57, 3) := by decide +kernel
theorem w_44 {Z : State} {a0 : Array Value} (G : Cl Z a0) : (Jvm.Cond.methodLink "com/example/hermit_crab/hermitcrab/JdbcLockStore$Dialect" 57 (⟨"java/lang/String", "equalsIgnoreCase", "(Ljava/lang/String;)Z"⟩ : MethodName)).before a0 Z = true := G.1 _ (List.mem_of_getElem? (l := tables_1) (i := 44) rfl)
theorem w_48 {Z : State} {a0 : Array Value} (G : Cl Z a0) : (Jvm.Cond.code (⟨"java/lang/String", "equalsIgnoreCase", "(Ljava/lang/String;)Z"⟩ : MethodName) jdk_42_method_70_code 2 (some .boolean)).before a0 Z = true := G.1 _ (List.mem_of_getElem? (l := tables_1) (i := 48) rfl)
theorem pd_15 : parseMethodDescriptor "(Ljava/lang/String;)Z" = some ⟨[(.object "java/lang/String")], some .boolean⟩ := by decide +kernel
theorem w_45 {Z : State} {a0 : Array Value} (G : Cl Z a0) : (Jvm.Cond.declares (⟨"java/lang/String", "equalsIgnoreCase", "(Ljava/lang/String;)Z"⟩ : MethodName)).before a0 Z = true := G.1 _ (List.mem_of_getElem? (l := tables_1) (i := 45) rfl)
theorem w_47 {Z : State} {a0 : Array Value} (G : Cl Z a0) : (Jvm.Cond.selects "java/lang/String" (⟨"java/lang/String", "equalsIgnoreCase", "(Ljava/lang/String;)Z"⟩ : MethodName) (⟨"java/lang/String", "equalsIgnoreCase", "(Ljava/lang/String;)Z"⟩ : MethodName)).before a0 Z = true := G.1 _ (List.mem_of_getElem? (l := tables_1) (i := 47) rfl)
theorem w_46 {Z : State} {a0 : Array Value} (G : Cl Z a0) : (Jvm.Cond.instanceMethod (⟨"java/lang/String", "equalsIgnoreCase", "(Ljava/lang/String;)Z"⟩ : MethodName)).before a0 Z = true := G.1 _ (List.mem_of_getElem? (l := tables_1) (i := 46) rfl)
theorem d_prog_7_method_4_code_6 : decode prog_7_method_4_code 6 = .ok (.ifCond .ne 12, 3) := by decide +kernel
theorem d_prog_7_method_4_code_18 : decode prog_7_method_4_code 18 = .ok (.getstatic 5, 3) := by decide +kernel
theorem w_72 {Z : State} {a0 : Array Value} (G : Cl Z a0) : (Jvm.Cond.fieldLink "com/example/hermit_crab/hermitcrab/JdbcLockStore$Dialect" 5 "com/example/hermit_crab/hermitcrab/JdbcLockStore$Dialect" "MARIADB" "Lcom/example/hermit_crab/hermitcrab/JdbcLockStore$Dialect;").before a0 Z = true := G.1 _ (List.mem_of_getElem? (l := tables_1) (i := 72) rfl)
theorem d_prog_7_method_4_code_21 : decode prog_7_method_4_code 21 = .ok (.astore_n 1, 1) := by decide +kernel
theorem d_prog_7_method_4_code_22 : decode prog_7_method_4_code 22 = .ok (.goto 33, 3) := by decide +kernel
theorem d_prog_7_method_4_code_55 : decode prog_7_method_4_code 55 = .ok (.aload_n 1, 1) := by decide +kernel
theorem d_prog_7_method_4_code_56 : decode prog_7_method_4_code 56 = .ok (.areturn, 1) := by decide +kernel
set_option maxRecDepth 65536 in
set_option maxHeartbeats 40000000 in
theorem rm_of_MariaDB {l : Launch} {Z : State} {a0 : Array Value} (G : Cl Z a0) (adA : Addr) (adB : Addr) (ceA : Cell) (ceB : Cell) (hzA : Z.heap[adA]? = some ceA) (obA : ObjC Z ceA "com/example/hermit_crab/hermitcrab/JdbcLockStore$Dialect$1") (hzB : Z.heap[adB]? = some ceB) (obB : ObjC Z ceB "com/example/hermit_crab/hermitcrab/JdbcLockStore$Dialect$2") (stA : Sta Z Z.heap "com/example/hermit_crab/hermitcrab/JdbcLockStore$Dialect" "MARIADB" "Lcom/example/hermit_crab/hermitcrab/JdbcLockStore$Dialect;" (.ref adA)) (stB : Sta Z Z.heap "com/example/hermit_crab/hermitcrab/JdbcLockStore$Dialect" "POSTGRESQL" "Lcom/example/hermit_crab/hermitcrab/JdbcLockStore$Dialect;" (.ref adB)) (bits : Int32) (a b : Addr) (c cb : Cell) (S : StrL Z c b cb [pickF bits (0 : Int32) (77 : Int32) (109 : Int32), pickF bits (1 : Int32) (97 : Int32) (65 : Int32), pickF bits (2 : Int32) (114 : Int32) (82 : Int32), pickF bits (3 : Int32) (105 : Int32) (73 : Int32), pickF bits (4 : Int32) (97 : Int32) (65 : Int32), pickF bits (5 : Int32) (68 : Int32) (100 : Int32), pickF bits (6 : Int32) (66 : Int32) (98 : Int32)]) :
    Met l Z EL1 (⟨"com/example/hermit_crab/hermitcrab/JdbcLockStore$Dialect", "of", "(Ljava/lang/String;)Lcom/example/hermit_crab/hermitcrab/JdbcLockStore$Dialect;"⟩ : MethodName) prog_7_method_4_code 2 (some (.object "com/example/hermit_crab/hermitcrab/JdbcLockStore$Dialect")) ({ frames := 4, cells := 6, slots := 100, locals := 80 } : Room) #[.ref a] [] [(a, c), (b, cb)] (fun v σ ρ => v = some (.ref adA) ∧ σ = [] ∧ ρ = []) := by
  refine Met.walk G.2.1 pn_14 #[.val (.ref a), .unset] (fun m => by first | (simp [entryFrame, mkF, argsToLocals, Value.category]; done) | rfl) ?_
  intro X T0 W0
  refine Go.ldcStr (pc' := 2) W0 G.2.1 (w_41 G) (strAtoms G) (by decide) (bs := [(.int (77 : Int32)), (.int (97 : Int32)), (.int (114 : Int32)), (.int (105 : Int32)), (.int (97 : Int32)), (.int (68 : Int32)), (.int (66 : Int32))]) (z := 7) (by decide +kernel) (by decide) (by decide) (by decide) d_prog_7_method_4_code_0 rfl (m := 28) (by decide +kernel) (by decide) (by first | exact Nat.le_of_ble_eq_true rfl | (simp; done) | (simp; omega) | omega) (by first | exact Nat.le_of_ble_eq_true rfl | (simp; done) | (simp; omega) | omega) (fun T1 a3 b4 c5 c6 W2 O7 F8 F9 A10 => ?_)
  replace W2 : Wk l Z EL1 ({ frames := 4, cells := 6, slots := 100, locals := 80 } : Room) "com/example/hermit_crab/hermitcrab/JdbcLockStore$Dialect" prog_7_method_4_code 2 (some (.object "com/example/hermit_crab/hermitcrab/JdbcLockStore$Dialect")) "of" X [] [(a3, c5), (b4, c6), (a, c), (b, cb)] T1 2 (32) := W2
  have S11 : StrL Z c5 b4 c6 [(77 : Int32), (97 : Int32), (114 : Int32), (105 : Int32), (97 : Int32), (68 : Int32), (66 : Int32)] := ⟨O7, F8, F9, (by rw [show latB [(77 : Int32), (97 : Int32), (114 : Int32), (105 : Int32), (97 : Int32), (68 : Int32), (66 : Int32)] = [(.int (77 : Int32)), (.int (97 : Int32)), (.int (114 : Int32)), (.int (105 : Int32)), (.int (97 : Int32)), (.int (68 : Int32)), (.int (66 : Int32))] from by decide +kernel]; exact A10), (by decide +kernel : ∀ x ∈ ([(77 : Int32), (97 : Int32), (114 : Int32), (105 : Int32), (97 : Int32), (68 : Int32), (66 : Int32)] : List Int32), ¬ x < 0 ∧ ¬ (255 : Int32) < x)⟩
  refine Go.aloadN (pc' := 3) W2 d_prog_7_method_4_code_2 rfl rfl rfl ?_
  refine Go.virtual (pc' := 6) W2 (rm_eic_y G a3 a b4 b c5 c c6 cb [(77 : Int32), (97 : Int32), (114 : Int32), (105 : Int32), (97 : Int32), (68 : Int32), (66 : Int32)] [pickF bits (0 : Int32) (77 : Int32) (109 : Int32), pickF bits (1 : Int32) (97 : Int32) (65 : Int32), pickF bits (2 : Int32) (114 : Int32) (82 : Int32), pickF bits (3 : Int32) (105 : Int32) (73 : Int32), pickF bits (4 : Int32) (97 : Int32) (65 : Int32), pickF bits (5 : Int32) (68 : Int32) (100 : Int32), pickF bits (6 : Int32) (66 : Int32) (98 : Int32)] S11 S rfl (AllCI.cons (pickF_ci (by decide) (by decide)) (AllCI.cons (pickF_ci (by decide) (by decide)) (AllCI.cons (pickF_ci (by decide) (by decide)) (AllCI.cons (pickF_ci (by decide) (by decide)) (AllCI.cons (pickF_ci (by decide) (by decide)) (AllCI.cons (pickF_ci (by decide) (by decide)) (AllCI.cons (pickF_ci (by decide) (by decide)) AllCI.nil)))))))) (Or.inr (Or.inl (List.mem_of_getElem? (i := 0) rfl))) O7 (w_44 G) (w_45 G) (w_47 G) (w_46 G) (w_8 G) (w_48 G) (by decide) [] [0, 1, 2, 3] (σf := []) rfl rfl [(.ref a)] [] rfl (lenOf pd_15 rfl) rfl rfl d_prog_7_method_4_code_3 rfl (by first | exact Nat.le_of_ble_eq_true rfl | (simp; done) | (simp; omega) | omega) (by first | exact Nat.le_of_ble_eq_true rfl | (simp; done) | (simp; omega) | omega) (by first | exact Nat.le_of_ble_eq_true rfl | (simp; done) | (simp; omega) | omega) (by first | exact Nat.le_of_ble_eq_true rfl | (simp; done) | (simp; omega) | omega) ?_
  rintro _ _ _ T12 ⟨rfl, rfl, rfl⟩ W13
  replace W13 : Wk l Z EL1 ({ frames := 4, cells := 6, slots := 100, locals := 80 } : Room) "com/example/hermit_crab/hermitcrab/JdbcLockStore$Dialect" prog_7_method_4_code 2 (some (.object "com/example/hermit_crab/hermitcrab/JdbcLockStore$Dialect")) "of" X [] [(a3, c5), (b4, c6), (a, c), (b, cb)] T12 2 (32) := W13
  show Go Z EL1 _ _ _ X T12 6 #[.val (.ref a), .unset] [(.int (1 : Int32))]
  refine Go.if_ne (pc' := 9) W13 18 d_prog_7_method_4_code_6 (by decide) rfl (fun _ => ?_) (fun q => absurd q (by decide))
  refine Go.getstatic (pc' := 21) W13 (w_72 G) Via.refl stA d_prog_7_method_4_code_18 rfl (fun T14 W15 => ?_)
  refine Go.astoreN (pc' := 22) W15 #[.val (.ref a), .val (.ref adA)] d_prog_7_method_4_code_21 rfl rfl rfl ?_
  refine Go.goto W15 55 d_prog_7_method_4_code_22 (by decide) ?_
  refine Go.aloadN (pc' := 56) W15 d_prog_7_method_4_code_55 rfl rfl rfl ?_
  have W16 := W15.keepRo [] (ρ' := []) rfl
  replace W16 : Wk l Z EL1 ({ frames := 4, cells := 6, slots := 100, locals := 80 } : Room) "com/example/hermit_crab/hermitcrab/JdbcLockStore$Dialect" prog_7_method_4_code 2 (some (.object "com/example/hermit_crab/hermitcrab/JdbcLockStore$Dialect")) "of" X [] [] T14 2 (32) := W16
  refine Go.aret W16 rfl rfl d_prog_7_method_4_code_56 (by first | exact Nat.le_of_ble_eq_true rfl | (simp; done) | (simp; omega) | omega) (by first | exact Nat.le_of_ble_eq_true rfl | (simp; done) | (simp; omega) | omega) ?_
  exact ⟨rfl, rfl, rfl⟩
theorem d_prog_7_method_4_code_9 : decode prog_7_method_4_code 9 = .ok (.ldc 63, 2) := by decide +kernel
theorem w_75 {Z : State} {a0 : Array Value} (G : Cl Z a0) : (Jvm.Cond.stringLink "com/example/hermit_crab/hermitcrab/JdbcLockStore$Dialect" 63 "MySQL").before a0 Z = true := G.1 _ (List.mem_of_getElem? (l := tables_1) (i := 75) rfl)
theorem d_prog_7_method_4_code_11 : decode prog_7_method_4_code 11 = .ok (.aload_n 0, 1) := by decide +kernel
theorem d_prog_7_method_4_code_12 : decode prog_7_method_4_code 12 = .ok (.invokevirtual 57, 3) := by decide +kernel
theorem d_prog_7_method_4_code_15 : decode prog_7_method_4_code 15 = .ok (.ifCond .eq 10, 3) := by decide +kernel
set_option maxRecDepth 65536 in
set_option maxHeartbeats 40000000 in
theorem rm_of_MySQL {l : Launch} {Z : State} {a0 : Array Value} (G : Cl Z a0) (adA : Addr) (adB : Addr) (ceA : Cell) (ceB : Cell) (hzA : Z.heap[adA]? = some ceA) (obA : ObjC Z ceA "com/example/hermit_crab/hermitcrab/JdbcLockStore$Dialect$1") (hzB : Z.heap[adB]? = some ceB) (obB : ObjC Z ceB "com/example/hermit_crab/hermitcrab/JdbcLockStore$Dialect$2") (stA : Sta Z Z.heap "com/example/hermit_crab/hermitcrab/JdbcLockStore$Dialect" "MARIADB" "Lcom/example/hermit_crab/hermitcrab/JdbcLockStore$Dialect;" (.ref adA)) (stB : Sta Z Z.heap "com/example/hermit_crab/hermitcrab/JdbcLockStore$Dialect" "POSTGRESQL" "Lcom/example/hermit_crab/hermitcrab/JdbcLockStore$Dialect;" (.ref adB)) (bits : Int32) (a b : Addr) (c cb : Cell) (S : StrL Z c b cb [pickF bits (0 : Int32) (77 : Int32) (109 : Int32), pickF bits (1 : Int32) (121 : Int32) (89 : Int32), pickF bits (2 : Int32) (83 : Int32) (115 : Int32), pickF bits (3 : Int32) (81 : Int32) (113 : Int32), pickF bits (4 : Int32) (76 : Int32) (108 : Int32)]) :
    Met l Z EL1 (⟨"com/example/hermit_crab/hermitcrab/JdbcLockStore$Dialect", "of", "(Ljava/lang/String;)Lcom/example/hermit_crab/hermitcrab/JdbcLockStore$Dialect;"⟩ : MethodName) prog_7_method_4_code 2 (some (.object "com/example/hermit_crab/hermitcrab/JdbcLockStore$Dialect")) ({ frames := 4, cells := 6, slots := 100, locals := 80 } : Room) #[.ref a] [] [(a, c), (b, cb)] (fun v σ ρ => v = some (.ref adA) ∧ σ = [] ∧ ρ = []) := by
  refine Met.walk G.2.1 pn_14 #[.val (.ref a), .unset] (fun m => by first | (simp [entryFrame, mkF, argsToLocals, Value.category]; done) | rfl) ?_
  intro X T0 W0
  refine Go.ldcStr (pc' := 2) W0 G.2.1 (w_41 G) (strAtoms G) (by decide) (bs := [(.int (77 : Int32)), (.int (97 : Int32)), (.int (114 : Int32)), (.int (105 : Int32)), (.int (97 : Int32)), (.int (68 : Int32)), (.int (66 : Int32))]) (z := 7) (by decide +kernel) (by decide) (by decide) (by decide) d_prog_7_method_4_code_0 rfl (m := 28) (by decide +kernel) (by decide) (by first | exact Nat.le_of_ble_eq_true rfl | (simp; done) | (simp; omega) | omega) (by first | exact Nat.le_of_ble_eq_true rfl | (simp; done) | (simp; omega) | omega) (fun T1 a3 b4 c5 c6 W2 O7 F8 F9 A10 => ?_)
  replace W2 : Wk l Z EL1 ({ frames := 4, cells := 6, slots := 100, locals := 80 } : Room) "com/example/hermit_crab/hermitcrab/JdbcLockStore$Dialect" prog_7_method_4_code 2 (some (.object "com/example/hermit_crab/hermitcrab/JdbcLockStore$Dialect")) "of" X [] [(a3, c5), (b4, c6), (a, c), (b, cb)] T1 2 (32) := W2
  have S11 : StrL Z c5 b4 c6 [(77 : Int32), (97 : Int32), (114 : Int32), (105 : Int32), (97 : Int32), (68 : Int32), (66 : Int32)] := ⟨O7, F8, F9, (by rw [show latB [(77 : Int32), (97 : Int32), (114 : Int32), (105 : Int32), (97 : Int32), (68 : Int32), (66 : Int32)] = [(.int (77 : Int32)), (.int (97 : Int32)), (.int (114 : Int32)), (.int (105 : Int32)), (.int (97 : Int32)), (.int (68 : Int32)), (.int (66 : Int32))] from by decide +kernel]; exact A10), (by decide +kernel : ∀ x ∈ ([(77 : Int32), (97 : Int32), (114 : Int32), (105 : Int32), (97 : Int32), (68 : Int32), (66 : Int32)] : List Int32), ¬ x < 0 ∧ ¬ (255 : Int32) < x)⟩
  refine Go.aloadN (pc' := 3) W2 d_prog_7_method_4_code_2 rfl rfl rfl ?_
  refine Go.virtual (pc' := 6) W2 (rm_eic_n G a3 a b4 b c5 c c6 cb [(77 : Int32), (97 : Int32), (114 : Int32), (105 : Int32), (97 : Int32), (68 : Int32), (66 : Int32)] [pickF bits (0 : Int32) (77 : Int32) (109 : Int32), pickF bits (1 : Int32) (121 : Int32) (89 : Int32), pickF bits (2 : Int32) (83 : Int32) (115 : Int32), pickF bits (3 : Int32) (81 : Int32) (113 : Int32), pickF bits (4 : Int32) (76 : Int32) (108 : Int32)] S11 S (show ¬ (5 : Nat).toInt32 = (7 : Nat).toInt32 by decide)) (Or.inr (Or.inl (List.mem_of_getElem? (i := 0) rfl))) O7 (w_44 G) (w_45 G) (w_47 G) (w_46 G) (w_8 G) (w_48 G) (by decide) [] [0, 1, 2, 3] (σf := []) rfl rfl [(.ref a)] [] rfl (lenOf pd_15 rfl) rfl rfl d_prog_7_method_4_code_3 rfl (by first | exact Nat.le_of_ble_eq_true rfl | (simp; done) | (simp; omega) | omega) (by first | exact Nat.le_of_ble_eq_true rfl | (simp; done) | (simp; omega) | omega) (by first | exact Nat.le_of_ble_eq_true rfl | (simp; done) | (simp; omega) | omega) (by first | exact Nat.le_of_ble_eq_true rfl | (simp; done) | (simp; omega) | omega) ?_
  rintro _ _ _ T12 ⟨rfl, rfl, rfl⟩ W13
  replace W13 : Wk l Z EL1 ({ frames := 4, cells := 6, slots := 100, locals := 80 } : Room) "com/example/hermit_crab/hermitcrab/JdbcLockStore$Dialect" prog_7_method_4_code 2 (some (.object "com/example/hermit_crab/hermitcrab/JdbcLockStore$Dialect")) "of" X [] [(a3, c5), (b4, c6), (a, c), (b, cb)] T12 2 (32) := W13
  show Go Z EL1 _ _ _ X T12 6 #[.val (.ref a), .unset] [(.int (0 : Int32))]
  refine Go.if_ne (pc' := 9) W13 18 d_prog_7_method_4_code_6 (by decide) rfl (fun q => absurd (by decide) q) (fun _ => ?_)
  refine Go.ldcStr (pc' := 11) W13 G.2.1 (w_75 G) (strAtoms G) (by decide) (bs := [(.int (77 : Int32)), (.int (121 : Int32)), (.int (83 : Int32)), (.int (81 : Int32)), (.int (76 : Int32))]) (z := 5) (by decide +kernel) (by decide) (by decide) (by decide) d_prog_7_method_4_code_9 rfl (m := 20) (by decide +kernel) (by decide) (by first | exact Nat.le_of_ble_eq_true rfl | (simp; done) | (simp; omega) | omega) (by first | exact Nat.le_of_ble_eq_true rfl | (simp; done) | (simp; omega) | omega) (fun T14 a16 b17 c18 c19 W15 O20 F21 F22 A23 => ?_)
  replace W15 : Wk l Z EL1 ({ frames := 4, cells := 6, slots := 100, locals := 80 } : Room) "com/example/hermit_crab/hermitcrab/JdbcLockStore$Dialect" prog_7_method_4_code 2 (some (.object "com/example/hermit_crab/hermitcrab/JdbcLockStore$Dialect")) "of" X [] [(a16, c18), (b17, c19), (a3, c5), (b4, c6), (a, c), (b, cb)] T14 4 (56) := W15
  have S24 : StrL Z c18 b17 c19 [(77 : Int32), (121 : Int32), (83 : Int32), (81 : Int32), (76 : Int32)] := ⟨O20, F21, F22, (by rw [show latB [(77 : Int32), (121 : Int32), (83 : Int32), (81 : Int32), (76 : Int32)] = [(.int (77 : Int32)), (.int (121 : Int32)), (.int (83 : Int32)), (.int (81 : Int32)), (.int (76 : Int32))] from by decide +kernel]; exact A23), (by decide +kernel : ∀ x ∈ ([(77 : Int32), (121 : Int32), (83 : Int32), (81 : Int32), (76 : Int32)] : List Int32), ¬ x < 0 ∧ ¬ (255 : Int32) < x)⟩
  refine Go.aloadN (pc' := 12) W15 d_prog_7_method_4_code_11 rfl rfl rfl ?_
  refine Go.virtual (pc' := 15) W15 (rm_eic_y G a16 a b17 b c18 c c19 cb [(77 : Int32), (121 : Int32), (83 : Int32), (81 : Int32), (76 : Int32)] [pickF bits (0 : Int32) (77 : Int32) (109 : Int32), pickF bits (1 : Int32) (121 : Int32) (89 : Int32), pickF bits (2 : Int32) (83 : Int32) (115 : Int32), pickF bits (3 : Int32) (81 : Int32) (113 : Int32), pickF bits (4 : Int32) (76 : Int32) (108 : Int32)] S24 S rfl (AllCI.cons (pickF_ci (by decide) (by decide)) (AllCI.cons (pickF_ci (by decide) (by decide)) (AllCI.cons (pickF_ci (by decide) (by decide)) (AllCI.cons (pickF_ci (by decide) (by decide)) (AllCI.cons (pickF_ci (by decide) (by decide)) AllCI.nil)))))) (Or.inr (Or.inl (List.mem_of_getElem? (i := 0) rfl))) O20 (w_44 G) (w_45 G) (w_47 G) (w_46 G) (w_8 G) (w_48 G) (by decide) [] [0, 1, 4, 5] (σf := []) rfl rfl [(.ref a)] [] rfl (lenOf pd_15 rfl) rfl rfl d_prog_7_method_4_code_12 rfl (by first | exact Nat.le_of_ble_eq_true rfl | (simp; done) | (simp; omega) | omega) (by first | exact Nat.le_of_ble_eq_true rfl | (simp; done) | (simp; omega) | omega) (by first | exact Nat.le_of_ble_eq_true rfl | (simp; done) | (simp; omega) | omega) (by first | exact Nat.le_of_ble_eq_true rfl | (simp; done) | (simp; omega) | omega) ?_
  rintro _ _ _ T25 ⟨rfl, rfl, rfl⟩ W26
  replace W26 : Wk l Z EL1 ({ frames := 4, cells := 6, slots := 100, locals := 80 } : Room) "com/example/hermit_crab/hermitcrab/JdbcLockStore$Dialect" prog_7_method_4_code 2 (some (.object "com/example/hermit_crab/hermitcrab/JdbcLockStore$Dialect")) "of" X [] [(a16, c18), (b17, c19), (a3, c5), (b4, c6), (a, c), (b, cb)] T25 4 (56) := W26
  show Go Z EL1 _ _ _ X T25 15 #[.val (.ref a), .unset] [(.int (1 : Int32))]
  refine Go.if_eq (pc' := 18) W26 25 d_prog_7_method_4_code_15 (by decide) rfl (fun q => absurd q (by decide)) (fun _ => ?_)
  refine Go.getstatic (pc' := 21) W26 (w_72 G) Via.refl stA d_prog_7_method_4_code_18 rfl (fun T27 W28 => ?_)
  refine Go.astoreN (pc' := 22) W28 #[.val (.ref a), .val (.ref adA)] d_prog_7_method_4_code_21 rfl rfl rfl ?_
  refine Go.goto W28 55 d_prog_7_method_4_code_22 (by decide) ?_
  refine Go.aloadN (pc' := 56) W28 d_prog_7_method_4_code_55 rfl rfl rfl ?_
  have W29 := W28.keepRo [] (ρ' := []) rfl
  replace W29 : Wk l Z EL1 ({ frames := 4, cells := 6, slots := 100, locals := 80 } : Room) "com/example/hermit_crab/hermitcrab/JdbcLockStore$Dialect" prog_7_method_4_code 2 (some (.object "com/example/hermit_crab/hermitcrab/JdbcLockStore$Dialect")) "of" X [] [] T27 4 (56) := W29
  refine Go.aret W29 rfl rfl d_prog_7_method_4_code_56 (by first | exact Nat.le_of_ble_eq_true rfl | (simp; done) | (simp; omega) | omega) (by first | exact Nat.le_of_ble_eq_true rfl | (simp; done) | (simp; omega) | omega) ?_
  exact ⟨rfl, rfl, rfl⟩
theorem d_prog_7_method_4_code_25 : decode prog_7_method_4_code 25 = .ok (.ldc 65, 2) := by decide +kernel
theorem w_76 {Z : State} {a0 : Array Value} (G : Cl Z a0) : (Jvm.Cond.stringLink "com/example/hermit_crab/hermitcrab/JdbcLockStore$Dialect" 65 "PostgreSQL").before a0 Z = true := G.1 _ (List.mem_of_getElem? (l := tables_1) (i := 76) rfl)
theorem d_prog_7_method_4_code_27 : decode prog_7_method_4_code 27 = .ok (.aload_n 0, 1) := by decide +kernel
theorem d_prog_7_method_4_code_28 : decode prog_7_method_4_code 28 = .ok (.invokevirtual 57, 3) := by decide +kernel
theorem d_prog_7_method_4_code_31 : decode prog_7_method_4_code 31 = .ok (.ifCond .eq 10, 3) := by decide +kernel
theorem d_prog_7_method_4_code_34 : decode prog_7_method_4_code 34 = .ok (.getstatic 9, 3) := by decide +kernel
theorem w_77 {Z : State} {a0 : Array Value} (G : Cl Z a0) : (Jvm.Cond.fieldLink "com/example/hermit_crab/hermitcrab/JdbcLockStore$Dialect" 9 "com/example/hermit_crab/hermitcrab/JdbcLockStore$Dialect" "POSTGRESQL" "Lcom/example/hermit_crab/hermitcrab/JdbcLockStore$Dialect;").before a0 Z = true := G.1 _ (List.mem_of_getElem? (l := tables_1) (i := 77) rfl)
theorem d_prog_7_method_4_code_37 : decode prog_7_method_4_code 37 = .ok (.astore_n 1, 1) := by decide +kernel
theorem d_prog_7_method_4_code_38 : decode prog_7_method_4_code 38 = .ok (.goto 17, 3) := by decide +kernel
set_option maxRecDepth 65536 in
set_option maxHeartbeats 40000000 in
theorem rm_of_PostgreSQL {l : Launch} {Z : State} {a0 : Array Value} (G : Cl Z a0) (adA : Addr) (adB : Addr) (ceA : Cell) (ceB : Cell) (hzA : Z.heap[adA]? = some ceA) (obA : ObjC Z ceA "com/example/hermit_crab/hermitcrab/JdbcLockStore$Dialect$1") (hzB : Z.heap[adB]? = some ceB) (obB : ObjC Z ceB "com/example/hermit_crab/hermitcrab/JdbcLockStore$Dialect$2") (stA : Sta Z Z.heap "com/example/hermit_crab/hermitcrab/JdbcLockStore$Dialect" "MARIADB" "Lcom/example/hermit_crab/hermitcrab/JdbcLockStore$Dialect;" (.ref adA)) (stB : Sta Z Z.heap "com/example/hermit_crab/hermitcrab/JdbcLockStore$Dialect" "POSTGRESQL" "Lcom/example/hermit_crab/hermitcrab/JdbcLockStore$Dialect;" (.ref adB)) (bits : Int32) (a b : Addr) (c cb : Cell) (S : StrL Z c b cb [pickF bits (0 : Int32) (80 : Int32) (112 : Int32), pickF bits (1 : Int32) (111 : Int32) (79 : Int32), pickF bits (2 : Int32) (115 : Int32) (83 : Int32), pickF bits (3 : Int32) (116 : Int32) (84 : Int32), pickF bits (4 : Int32) (103 : Int32) (71 : Int32), pickF bits (5 : Int32) (114 : Int32) (82 : Int32), pickF bits (6 : Int32) (101 : Int32) (69 : Int32), pickF bits (7 : Int32) (83 : Int32) (115 : Int32), pickF bits (8 : Int32) (81 : Int32) (113 : Int32), pickF bits (9 : Int32) (76 : Int32) (108 : Int32)]) :
    Met l Z EL1 (⟨"com/example/hermit_crab/hermitcrab/JdbcLockStore$Dialect", "of", "(Ljava/lang/String;)Lcom/example/hermit_crab/hermitcrab/JdbcLockStore$Dialect;"⟩ : MethodName) prog_7_method_4_code 2 (some (.object "com/example/hermit_crab/hermitcrab/JdbcLockStore$Dialect")) ({ frames := 4, cells := 6, slots := 100, locals := 80 } : Room) #[.ref a] [] [(a, c), (b, cb)] (fun v σ ρ => v = some (.ref adB) ∧ σ = [] ∧ ρ = []) := by
  refine Met.walk G.2.1 pn_14 #[.val (.ref a), .unset] (fun m => by first | (simp [entryFrame, mkF, argsToLocals, Value.category]; done) | rfl) ?_
  intro X T0 W0
  refine Go.ldcStr (pc' := 2) W0 G.2.1 (w_41 G) (strAtoms G) (by decide) (bs := [(.int (77 : Int32)), (.int (97 : Int32)), (.int (114 : Int32)), (.int (105 : Int32)), (.int (97 : Int32)), (.int (68 : Int32)), (.int (66 : Int32))]) (z := 7) (by decide +kernel) (by decide) (by decide) (by decide) d_prog_7_method_4_code_0 rfl (m := 28) (by decide +kernel) (by decide) (by first | exact Nat.le_of_ble_eq_true rfl | (simp; done) | (simp; omega) | omega) (by first | exact Nat.le_of_ble_eq_true rfl | (simp; done) | (simp; omega) | omega) (fun T1 a3 b4 c5 c6 W2 O7 F8 F9 A10 => ?_)
  replace W2 : Wk l Z EL1 ({ frames := 4, cells := 6, slots := 100, locals := 80 } : Room) "com/example/hermit_crab/hermitcrab/JdbcLockStore$Dialect" prog_7_method_4_code 2 (some (.object "com/example/hermit_crab/hermitcrab/JdbcLockStore$Dialect")) "of" X [] [(a3, c5), (b4, c6), (a, c), (b, cb)] T1 2 (32) := W2
  have S11 : StrL Z c5 b4 c6 [(77 : Int32), (97 : Int32), (114 : Int32), (105 : Int32), (97 : Int32), (68 : Int32), (66 : Int32)] := ⟨O7, F8, F9, (by rw [show latB [(77 : Int32), (97 : Int32), (114 : Int32), (105 : Int32), (97 : Int32), (68 : Int32), (66 : Int32)] = [(.int (77 : Int32)), (.int (97 : Int32)), (.int (114 : Int32)), (.int (105 : Int32)), (.int (97 : Int32)), (.int (68 : Int32)), (.int (66 : Int32))] from by decide +kernel]; exact A10), (by decide +kernel : ∀ x ∈ ([(77 : Int32), (97 : Int32), (114 : Int32), (105 : Int32), (97 : Int32), (68 : Int32), (66 : Int32)] : List Int32), ¬ x < 0 ∧ ¬ (255 : Int32) < x)⟩
  refine Go.aloadN (pc' := 3) W2 d_prog_7_method_4_code_2 rfl rfl rfl ?_
  refine Go.virtual (pc' := 6) W2 (rm_eic_n G a3 a b4 b c5 c c6 cb [(77 : Int32), (97 : Int32), (114 : Int32), (105 : Int32), (97 : Int32), (68 : Int32), (66 : Int32)] [pickF bits (0 : Int32) (80 : Int32) (112 : Int32), pickF bits (1 : Int32) (111 : Int32) (79 : Int32), pickF bits (2 : Int32) (115 : Int32) (83 : Int32), pickF bits (3 : Int32) (116 : Int32) (84 : Int32), pickF bits (4 : Int32) (103 : Int32) (71 : Int32), pickF bits (5 : Int32) (114 : Int32) (82 : Int32), pickF bits (6 : Int32) (101 : Int32) (69 : Int32), pickF bits (7 : Int32) (83 : Int32) (115 : Int32), pickF bits (8 : Int32) (81 : Int32) (113 : Int32), pickF bits (9 : Int32) (76 : Int32) (108 : Int32)] S11 S (show ¬ (10 : Nat).toInt32 = (7 : Nat).toInt32 by decide)) (Or.inr (Or.inl (List.mem_of_getElem? (i := 0) rfl))) O7 (w_44 G) (w_45 G) (w_47 G) (w_46 G) (w_8 G) (w_48 G) (by decide) [] [0, 1, 2, 3] (σf := []) rfl rfl [(.ref a)] [] rfl (lenOf pd_15 rfl) rfl rfl d_prog_7_method_4_code_3 rfl (by first | exact Nat.le_of_ble_eq_true rfl | (simp; done) | (simp; omega) | omega) (by first | exact Nat.le_of_ble_eq_true rfl | (simp; done) | (simp; omega) | omega) (by first | exact Nat.le_of_ble_eq_true rfl | (simp; done) | (simp; omega) | omega) (by first | exact Nat.le_of_ble_eq_true rfl | (simp; done) | (simp; omega) | omega) ?_
  rintro _ _ _ T12 ⟨rfl, rfl, rfl⟩ W13
  replace W13 : Wk l Z EL1 ({ frames := 4, cells := 6, slots := 100, locals := 80 } : Room) "com/example/hermit_crab/hermitcrab/JdbcLockStore$Dialect" prog_7_method_4_code 2 (some (.object "com/example/hermit_crab/hermitcrab/JdbcLockStore$Dialect")) "of" X [] [(a3, c5), (b4, c6), (a, c), (b, cb)] T12 2 (32) := W13
  show Go Z EL1 _ _ _ X T12 6 #[.val (.ref a), .unset] [(.int (0 : Int32))]
  refine Go.if_ne (pc' := 9) W13 18 d_prog_7_method_4_code_6 (by decide) rfl (fun q => absurd (by decide) q) (fun _ => ?_)
  refine Go.ldcStr (pc' := 11) W13 G.2.1 (w_75 G) (strAtoms G) (by decide) (bs := [(.int (77 : Int32)), (.int (121 : Int32)), (.int (83 : Int32)), (.int (81 : Int32)), (.int (76 : Int32))]) (z := 5) (by decide +kernel) (by decide) (by decide) (by decide) d_prog_7_method_4_code_9 rfl (m := 20) (by decide +kernel) (by decide) (by first | exact Nat.le_of_ble_eq_true rfl | (simp; done) | (simp; omega) | omega) (by first | exact Nat.le_of_ble_eq_true rfl | (simp; done) | (simp; omega) | omega) (fun T14 a16 b17 c18 c19 W15 O20 F21 F22 A23 => ?_)
  replace W15 : Wk l Z EL1 ({ frames := 4, cells := 6, slots := 100, locals := 80 } : Room) "com/example/hermit_crab/hermitcrab/JdbcLockStore$Dialect" prog_7_method_4_code 2 (some (.object "com/example/hermit_crab/hermitcrab/JdbcLockStore$Dialect")) "of" X [] [(a16, c18), (b17, c19), (a3, c5), (b4, c6), (a, c), (b, cb)] T14 4 (56) := W15
  have S24 : StrL Z c18 b17 c19 [(77 : Int32), (121 : Int32), (83 : Int32), (81 : Int32), (76 : Int32)] := ⟨O20, F21, F22, (by rw [show latB [(77 : Int32), (121 : Int32), (83 : Int32), (81 : Int32), (76 : Int32)] = [(.int (77 : Int32)), (.int (121 : Int32)), (.int (83 : Int32)), (.int (81 : Int32)), (.int (76 : Int32))] from by decide +kernel]; exact A23), (by decide +kernel : ∀ x ∈ ([(77 : Int32), (121 : Int32), (83 : Int32), (81 : Int32), (76 : Int32)] : List Int32), ¬ x < 0 ∧ ¬ (255 : Int32) < x)⟩
  refine Go.aloadN (pc' := 12) W15 d_prog_7_method_4_code_11 rfl rfl rfl ?_
  refine Go.virtual (pc' := 15) W15 (rm_eic_n G a16 a b17 b c18 c c19 cb [(77 : Int32), (121 : Int32), (83 : Int32), (81 : Int32), (76 : Int32)] [pickF bits (0 : Int32) (80 : Int32) (112 : Int32), pickF bits (1 : Int32) (111 : Int32) (79 : Int32), pickF bits (2 : Int32) (115 : Int32) (83 : Int32), pickF bits (3 : Int32) (116 : Int32) (84 : Int32), pickF bits (4 : Int32) (103 : Int32) (71 : Int32), pickF bits (5 : Int32) (114 : Int32) (82 : Int32), pickF bits (6 : Int32) (101 : Int32) (69 : Int32), pickF bits (7 : Int32) (83 : Int32) (115 : Int32), pickF bits (8 : Int32) (81 : Int32) (113 : Int32), pickF bits (9 : Int32) (76 : Int32) (108 : Int32)] S24 S (show ¬ (10 : Nat).toInt32 = (5 : Nat).toInt32 by decide)) (Or.inr (Or.inl (List.mem_of_getElem? (i := 0) rfl))) O20 (w_44 G) (w_45 G) (w_47 G) (w_46 G) (w_8 G) (w_48 G) (by decide) [] [0, 1, 4, 5] (σf := []) rfl rfl [(.ref a)] [] rfl (lenOf pd_15 rfl) rfl rfl d_prog_7_method_4_code_12 rfl (by first | exact Nat.le_of_ble_eq_true rfl | (simp; done) | (simp; omega) | omega) (by first | exact Nat.le_of_ble_eq_true rfl | (simp; done) | (simp; omega) | omega) (by first | exact Nat.le_of_ble_eq_true rfl | (simp; done) | (simp; omega) | omega) (by first | exact Nat.le_of_ble_eq_true rfl | (simp; done) | (simp; omega) | omega) ?_
  rintro _ _ _ T25 ⟨rfl, rfl, rfl⟩ W26
  replace W26 : Wk l Z EL1 ({ frames := 4, cells := 6, slots := 100, locals := 80 } : Room) "com/example/hermit_crab/hermitcrab/JdbcLockStore$Dialect" prog_7_method_4_code 2 (some (.object "com/example/hermit_crab/hermitcrab/JdbcLockStore$Dialect")) "of" X [] [(a16, c18), (b17, c19), (a3, c5), (b4, c6), (a, c), (b, cb)] T25 4 (56) := W26
  show Go Z EL1 _ _ _ X T25 15 #[.val (.ref a), .unset] [(.int (0 : Int32))]
  refine Go.if_eq (pc' := 18) W26 25 d_prog_7_method_4_code_15 (by decide) rfl (fun _ => ?_) (fun q => absurd (by decide) q)
  refine Go.ldcStr (pc' := 27) W26 G.2.1 (w_76 G) (strAtoms G) (by decide) (bs := [(.int (80 : Int32)), (.int (111 : Int32)), (.int (115 : Int32)), (.int (116 : Int32)), (.int (103 : Int32)), (.int (114 : Int32)), (.int (101 : Int32)), (.int (83 : Int32)), (.int (81 : Int32)), (.int (76 : Int32))]) (z := 10) (by decide +kernel) (by decide) (by decide) (by decide) d_prog_7_method_4_code_25 rfl (m := 40) (by decide +kernel) (by decide) (by first | exact Nat.le_of_ble_eq_true rfl | (simp; done) | (simp; omega) | omega) (by first | exact Nat.le_of_ble_eq_true rfl | (simp; done) | (simp; omega) | omega) (fun T27 a29 b30 c31 c32 W28 O33 F34 F35 A36 => ?_)
  replace W28 : Wk l Z EL1 ({ frames := 4, cells := 6, slots := 100, locals := 80 } : Room) "com/example/hermit_crab/hermitcrab/JdbcLockStore$Dialect" prog_7_method_4_code 2 (some (.object "com/example/hermit_crab/hermitcrab/JdbcLockStore$Dialect")) "of" X [] [(a29, c31), (b30, c32), (a16, c18), (b17, c19), (a3, c5), (b4, c6), (a, c), (b, cb)] T27 6 (100) := W28
  have S37 : StrL Z c31 b30 c32 [(80 : Int32), (111 : Int32), (115 : Int32), (116 : Int32), (103 : Int32), (114 : Int32), (101 : Int32), (83 : Int32), (81 : Int32), (76 : Int32)] := ⟨O33, F34, F35, (by rw [show latB [(80 : Int32), (111 : Int32), (115 : Int32), (116 : Int32), (103 : Int32), (114 : Int32), (101 : Int32), (83 : Int32), (81 : Int32), (76 : Int32)] = [(.int (80 : Int32)), (.int (111 : Int32)), (.int (115 : Int32)), (.int (116 : Int32)), (.int (103 : Int32)), (.int (114 : Int32)), (.int (101 : Int32)), (.int (83 : Int32)), (.int (81 : Int32)), (.int (76 : Int32))] from by decide +kernel]; exact A36), (by decide +kernel : ∀ x ∈ ([(80 : Int32), (111 : Int32), (115 : Int32), (116 : Int32), (103 : Int32), (114 : Int32), (101 : Int32), (83 : Int32), (81 : Int32), (76 : Int32)] : List Int32), ¬ x < 0 ∧ ¬ (255 : Int32) < x)⟩
  refine Go.aloadN (pc' := 28) W28 d_prog_7_method_4_code_27 rfl rfl rfl ?_
  refine Go.virtual (pc' := 31) W28 (rm_eic_y G a29 a b30 b c31 c c32 cb [(80 : Int32), (111 : Int32), (115 : Int32), (116 : Int32), (103 : Int32), (114 : Int32), (101 : Int32), (83 : Int32), (81 : Int32), (76 : Int32)] [pickF bits (0 : Int32) (80 : Int32) (112 : Int32), pickF bits (1 : Int32) (111 : Int32) (79 : Int32), pickF bits (2 : Int32) (115 : Int32) (83 : Int32), pickF bits (3 : Int32) (116 : Int32) (84 : Int32), pickF bits (4 : Int32) (103 : Int32) (71 : Int32), pickF bits (5 : Int32) (114 : Int32) (82 : Int32), pickF bits (6 : Int32) (101 : Int32) (69 : Int32), pickF bits (7 : Int32) (83 : Int32) (115 : Int32), pickF bits (8 : Int32) (81 : Int32) (113 : Int32), pickF bits (9 : Int32) (76 : Int32) (108 : Int32)] S37 S rfl (AllCI.cons (pickF_ci (by decide) (by decide)) (AllCI.cons (pickF_ci (by decide) (by decide)) (AllCI.cons (pickF_ci (by decide) (by decide)) (AllCI.cons (pickF_ci (by decide) (by decide)) (AllCI.cons (pickF_ci (by decide) (by decide)) (AllCI.cons (pickF_ci (by decide) (by decide)) (AllCI.cons (pickF_ci (by decide) (by decide)) (AllCI.cons (pickF_ci (by decide) (by decide)) (AllCI.cons (pickF_ci (by decide) (by decide)) (AllCI.cons (pickF_ci (by decide) (by decide)) AllCI.nil))))))))))) (Or.inr (Or.inl (List.mem_of_getElem? (i := 0) rfl))) O33 (w_44 G) (w_45 G) (w_47 G) (w_46 G) (w_8 G) (w_48 G) (by decide) [] [0, 1, 6, 7] (σf := []) rfl rfl [(.ref a)] [] rfl (lenOf pd_15 rfl) rfl rfl d_prog_7_method_4_code_28 rfl (by first | exact Nat.le_of_ble_eq_true rfl | (simp; done) | (simp; omega) | omega) (by first | exact Nat.le_of_ble_eq_true rfl | (simp; done) | (simp; omega) | omega) (by first | exact Nat.le_of_ble_eq_true rfl | (simp; done) | (simp; omega) | omega) (by first | exact Nat.le_of_ble_eq_true rfl | (simp; done) | (simp; omega) | omega) ?_
  rintro _ _ _ T38 ⟨rfl, rfl, rfl⟩ W39
  replace W39 : Wk l Z EL1 ({ frames := 4, cells := 6, slots := 100, locals := 80 } : Room) "com/example/hermit_crab/hermitcrab/JdbcLockStore$Dialect" prog_7_method_4_code 2 (some (.object "com/example/hermit_crab/hermitcrab/JdbcLockStore$Dialect")) "of" X [] [(a29, c31), (b30, c32), (a16, c18), (b17, c19), (a3, c5), (b4, c6), (a, c), (b, cb)] T38 6 (100) := W39
  show Go Z EL1 _ _ _ X T38 31 #[.val (.ref a), .unset] [(.int (1 : Int32))]
  refine Go.if_eq (pc' := 34) W39 41 d_prog_7_method_4_code_31 (by decide) rfl (fun q => absurd q (by decide)) (fun _ => ?_)
  refine Go.getstatic (pc' := 37) W39 (w_77 G) Via.refl stB d_prog_7_method_4_code_34 rfl (fun T40 W41 => ?_)
  refine Go.astoreN (pc' := 38) W41 #[.val (.ref a), .val (.ref adB)] d_prog_7_method_4_code_37 rfl rfl rfl ?_
  refine Go.goto W41 55 d_prog_7_method_4_code_38 (by decide) ?_
  refine Go.aloadN (pc' := 56) W41 d_prog_7_method_4_code_55 rfl rfl rfl ?_
  have W42 := W41.keepRo [] (ρ' := []) rfl
  replace W42 : Wk l Z EL1 ({ frames := 4, cells := 6, slots := 100, locals := 80 } : Room) "com/example/hermit_crab/hermitcrab/JdbcLockStore$Dialect" prog_7_method_4_code 2 (some (.object "com/example/hermit_crab/hermitcrab/JdbcLockStore$Dialect")) "of" X [] [] T40 6 (100) := W42
  refine Go.aret W42 rfl rfl d_prog_7_method_4_code_56 (by first | exact Nat.le_of_ble_eq_true rfl | (simp; done) | (simp; omega) | omega) (by first | exact Nat.le_of_ble_eq_true rfl | (simp; done) | (simp; omega) | omega) ?_
  exact ⟨rfl, rfl, rfl⟩
theorem d_code_0 : decode code 0 = .ok (.iload_n 0, 1) := by decide +kernel
theorem d_code_1 : decode code 1 = .ok (.ldc 7, 2) := by decide +kernel
theorem w_0 {Z : State} {a0 : Array Value} (G : Cl Z a0) : (Jvm.Cond.constant "com/example/hermit_crab/hermitcrab/DialectOfPinLaw" 7 (2147483647)).before a0 Z = true := G.1 _ (List.mem_of_getElem? (l := tables_1) (i := 0) rfl)
theorem d_code_3 : decode code 3 = .ok (.iand, 1) := by decide +kernel
theorem d_code_4 : decode code 4 = .ok (.iconst 3, 1) := by decide +kernel
theorem d_code_5 : decode code 5 = .ok (.irem, 1) := by decide +kernel
theorem d_code_6 : decode code 6 = .ok (.istore_n 2, 1) := by decide +kernel
theorem d_code_7 : decode code 7 = .ok (.iload_n 2, 1) := by decide +kernel
theorem d_code_8 : decode code 8 = .ok (.ifCond .ne 101, 3) := by decide +kernel
theorem d_code_11 : decode code 11 = .ok (.bipush 7, 2) := by decide +kernel
theorem d_code_13 : decode code 13 = .ok (.newarray .char, 2) := by decide +kernel
theorem w_1 {Z : State} {a0 : Array Value} (G : Cl Z a0) : (Jvm.Cond.arrayClass .char).before a0 Z = true := G.1 _ (List.mem_of_getElem? (l := tables_1) (i := 1) rfl)
theorem d_code_15 : decode code 15 = .ok (.astore 4, 2) := by decide +kernel
theorem d_code_17 : decode code 17 = .ok (.aload 4, 2) := by decide +kernel
theorem d_code_19 : decode code 19 = .ok (.iconst 0, 1) := by decide +kernel
theorem d_code_20 : decode code 20 = .ok (.bipush 77, 2) := by decide +kernel
theorem d_code_22 : decode code 22 = .ok (.iload_n 1, 1) := by decide +kernel
theorem d_code_23 : decode code 23 = .ok (.iconst 0, 1) := by decide +kernel
theorem d_code_24 : decode code 24 = .ok (.invokestatic 8, 3) := by decide +kernel
theorem w_2 {Z : State} {a0 : Array Value} (G : Cl Z a0) : (Jvm.Cond.methodLink "com/example/hermit_crab/hermitcrab/DialectOfPinLaw" 8 (⟨"com/example/hermit_crab/hermitcrab/DialectOfPinLaw", "f", "(CII)C"⟩ : MethodName)).before a0 Z = true := G.1 _ (List.mem_of_getElem? (l := tables_1) (i := 2) rfl)
theorem w_4 {Z : State} {a0 : Array Value} (G : Cl Z a0) : (Jvm.Cond.initialized "com/example/hermit_crab/hermitcrab/DialectOfPinLaw").before a0 Z = true := G.1 _ (List.mem_of_getElem? (l := tables_1) (i := 4) rfl)
theorem w_5 {Z : State} {a0 : Array Value} (G : Cl Z a0) : (Jvm.Cond.code (⟨"com/example/hermit_crab/hermitcrab/DialectOfPinLaw", "f", "(CII)C"⟩ : MethodName) method_2_code 3 (some .char)).before a0 Z = true := G.1 _ (List.mem_of_getElem? (l := tables_1) (i := 5) rfl)
theorem pd_16 : parseMethodDescriptor "(CII)C" = some ⟨[.char, .int, .int], some .char⟩ := by decide +kernel
theorem w_3 {Z : State} {a0 : Array Value} (G : Cl Z a0) : (Jvm.Cond.static (⟨"com/example/hermit_crab/hermitcrab/DialectOfPinLaw", "f", "(CII)C"⟩ : MethodName)).before a0 Z = true := G.1 _ (List.mem_of_getElem? (l := tables_1) (i := 3) rfl)
theorem d_code_27 : decode code 27 = .ok (.castore, 1) := by decide +kernel
theorem d_code_28 : decode code 28 = .ok (.aload 4, 2) := by decide +kernel
theorem d_code_30 : decode code 30 = .ok (.iconst 1, 1) := by decide +kernel
theorem d_code_31 : decode code 31 = .ok (.bipush 97, 2) := by decide +kernel
theorem d_code_33 : decode code 33 = .ok (.iload_n 1, 1) := by decide +kernel
theorem d_code_34 : decode code 34 = .ok (.iconst 1, 1) := by decide +kernel
theorem d_code_35 : decode code 35 = .ok (.invokestatic 8, 3) := by decide +kernel
theorem d_code_38 : decode code 38 = .ok (.castore, 1) := by decide +kernel
theorem d_code_39 : decode code 39 = .ok (.aload 4, 2) := by decide +kernel
theorem d_code_41 : decode code 41 = .ok (.iconst 2, 1) := by decide +kernel
theorem d_code_42 : decode code 42 = .ok (.bipush 114, 2) := by decide +kernel
theorem d_code_44 : decode code 44 = .ok (.iload_n 1, 1) := by decide +kernel
theorem d_code_45 : decode code 45 = .ok (.iconst 2, 1) := by decide +kernel
theorem d_code_46 : decode code 46 = .ok (.invokestatic 8, 3) := by decide +kernel
theorem d_code_49 : decode code 49 = .ok (.castore, 1) := by decide +kernel
theorem d_code_50 : decode code 50 = .ok (.aload 4, 2) := by decide +kernel
theorem d_code_52 : decode code 52 = .ok (.iconst 3, 1) := by decide +kernel
theorem d_code_53 : decode code 53 = .ok (.bipush 105, 2) := by decide +kernel
theorem d_code_55 : decode code 55 = .ok (.iload_n 1, 1) := by decide +kernel
theorem d_code_56 : decode code 56 = .ok (.iconst 3, 1) := by decide +kernel
theorem d_code_57 : decode code 57 = .ok (.invokestatic 8, 3) := by decide +kernel
theorem d_code_60 : decode code 60 = .ok (.castore, 1) := by decide +kernel
theorem d_code_61 : decode code 61 = .ok (.aload 4, 2) := by decide +kernel
theorem d_code_63 : decode code 63 = .ok (.iconst 4, 1) := by decide +kernel
theorem d_code_64 : decode code 64 = .ok (.bipush 97, 2) := by decide +kernel
theorem d_code_66 : decode code 66 = .ok (.iload_n 1, 1) := by decide +kernel
theorem d_code_67 : decode code 67 = .ok (.iconst 4, 1) := by decide +kernel
theorem d_code_68 : decode code 68 = .ok (.invokestatic 8, 3) := by decide +kernel
theorem d_code_71 : decode code 71 = .ok (.castore, 1) := by decide +kernel
theorem d_code_72 : decode code 72 = .ok (.aload 4, 2) := by decide +kernel
theorem d_code_74 : decode code 74 = .ok (.iconst 5, 1) := by decide +kernel
theorem d_code_75 : decode code 75 = .ok (.bipush 68, 2) := by decide +kernel
theorem d_code_77 : decode code 77 = .ok (.iload_n 1, 1) := by decide +kernel
theorem d_code_78 : decode code 78 = .ok (.iconst 5, 1) := by decide +kernel
theorem d_code_79 : decode code 79 = .ok (.invokestatic 8, 3) := by decide +kernel
theorem d_code_82 : decode code 82 = .ok (.castore, 1) := by decide +kernel
theorem d_code_83 : decode code 83 = .ok (.aload 4, 2) := by decide +kernel
theorem d_code_85 : decode code 85 = .ok (.bipush 6, 2) := by decide +kernel
theorem d_code_87 : decode code 87 = .ok (.bipush 66, 2) := by decide +kernel
theorem d_code_89 : decode code 89 = .ok (.iload_n 1, 1) := by decide +kernel
theorem d_code_90 : decode code 90 = .ok (.bipush 6, 2) := by decide +kernel
theorem d_code_92 : decode code 92 = .ok (.invokestatic 8, 3) := by decide +kernel
theorem d_code_95 : decode code 95 = .ok (.castore, 1) := by decide +kernel
theorem d_code_96 : decode code 96 = .ok (.new 14, 3) := by decide +kernel
theorem w_6 {Z : State} {a0 : Array Value} (G : Cl Z a0) : (Jvm.Cond.classLink "com/example/hermit_crab/hermitcrab/DialectOfPinLaw" 14 "java/lang/String").before a0 Z = true := G.1 _ (List.mem_of_getElem? (l := tables_1) (i := 6) rfl)
theorem d_code_99 : decode code 99 = .ok (.dup, 1) := by decide +kernel
theorem d_code_100 : decode code 100 = .ok (.aload 4, 2) := by decide +kernel
theorem d_code_102 : decode code 102 = .ok (.invokespecial 16, 3) := by decide +kernel
theorem w_9 {Z : State} {a0 : Array Value} (G : Cl Z a0) : (Jvm.Cond.methodLink "com/example/hermit_crab/hermitcrab/DialectOfPinLaw" 16 (⟨"java/lang/String", "<init>", "([C)V"⟩ : MethodName)).before a0 Z = true := G.1 _ (List.mem_of_getElem? (l := tables_1) (i := 9) rfl)
theorem w_11 {Z : State} {a0 : Array Value} (G : Cl Z a0) : (Jvm.Cond.code (⟨"java/lang/String", "<init>", "([C)V"⟩ : MethodName) jdk_42_method_3_code 2 none).before a0 Z = true := G.1 _ (List.mem_of_getElem? (l := tables_1) (i := 11) rfl)
theorem pd_17 : parseMethodDescriptor "([C)V" = some ⟨[(.array .char)], none⟩ := by decide +kernel
theorem w_10 {Z : State} {a0 : Array Value} (G : Cl Z a0) : (Jvm.Cond.instanceMethod (⟨"java/lang/String", "<init>", "([C)V"⟩ : MethodName)).before a0 Z = true := G.1 _ (List.mem_of_getElem? (l := tables_1) (i := 10) rfl)
theorem d_code_105 : decode code 105 = .ok (.astore_n 3, 1) := by decide +kernel
theorem d_code_106 : decode code 106 = .ok (.goto 215, 3) := by decide +kernel
theorem d_code_321 : decode code 321 = .ok (.iload_n 2, 1) := by decide +kernel
theorem d_code_322 : decode code 322 = .ok (.iconst 2, 1) := by decide +kernel
theorem d_code_323 : decode code 323 = .ok (.if_icmp .ne 9, 3) := by decide +kernel
theorem d_code_332 : decode code 332 = .ok (.getstatic 25, 3) := by decide +kernel
theorem w_35 {Z : State} {a0 : Array Value} (G : Cl Z a0) : (Jvm.Cond.fieldLink "com/example/hermit_crab/hermitcrab/DialectOfPinLaw" 25 "com/example/hermit_crab/hermitcrab/JdbcLockStore$Dialect" "MARIADB" "Lcom/example/hermit_crab/hermitcrab/JdbcLockStore$Dialect;").before a0 Z = true := G.1 _ (List.mem_of_getElem? (l := tables_1) (i := 35) rfl)
theorem d_code_335 : decode code 335 = .ok (.astore 4, 2) := by decide +kernel
theorem d_code_337 : decode code 337 = .ok (.aload_n 3, 1) := by decide +kernel
theorem d_code_338 : decode code 338 = .ok (.invokestatic 28, 3) := by decide +kernel
theorem w_38 {Z : State} {a0 : Array Value} (G : Cl Z a0) : (Jvm.Cond.methodLink "com/example/hermit_crab/hermitcrab/DialectOfPinLaw" 28 (⟨"com/example/hermit_crab/hermitcrab/JdbcLockStore$Dialect", "of", "(Ljava/lang/String;)Lcom/example/hermit_crab/hermitcrab/JdbcLockStore$Dialect;"⟩ : MethodName)).before a0 Z = true := G.1 _ (List.mem_of_getElem? (l := tables_1) (i := 38) rfl)
theorem w_36 {Z : State} {a0 : Array Value} (G : Cl Z a0) : (Jvm.Cond.initialized "com/example/hermit_crab/hermitcrab/JdbcLockStore$Dialect").before a0 Z = true := G.1 _ (List.mem_of_getElem? (l := tables_1) (i := 36) rfl)
theorem w_40 {Z : State} {a0 : Array Value} (G : Cl Z a0) : (Jvm.Cond.code (⟨"com/example/hermit_crab/hermitcrab/JdbcLockStore$Dialect", "of", "(Ljava/lang/String;)Lcom/example/hermit_crab/hermitcrab/JdbcLockStore$Dialect;"⟩ : MethodName) prog_7_method_4_code 2 (some (.object "com/example/hermit_crab/hermitcrab/JdbcLockStore$Dialect"))).before a0 Z = true := G.1 _ (List.mem_of_getElem? (l := tables_1) (i := 40) rfl)
theorem pd_18 : parseMethodDescriptor "(Ljava/lang/String;)Lcom/example/hermit_crab/hermitcrab/JdbcLockStore$Dialect;" = some ⟨[(.object "java/lang/String")], some (.object "com/example/hermit_crab/hermitcrab/JdbcLockStore$Dialect")⟩ := by decide +kernel
theorem w_39 {Z : State} {a0 : Array Value} (G : Cl Z a0) : (Jvm.Cond.static (⟨"com/example/hermit_crab/hermitcrab/JdbcLockStore$Dialect", "of", "(Ljava/lang/String;)Lcom/example/hermit_crab/hermitcrab/JdbcLockStore$Dialect;"⟩ : MethodName)).before a0 Z = true := G.1 _ (List.mem_of_getElem? (l := tables_1) (i := 39) rfl)
theorem d_code_341 : decode code 341 = .ok (.aload 4, 2) := by decide +kernel
theorem d_code_343 : decode code 343 = .ok (.if_acmp .ne 7, 3) := by decide +kernel
theorem d_code_346 : decode code 346 = .ok (.iconst 1, 1) := by decide +kernel
theorem d_code_347 : decode code 347 = .ok (.goto 4, 3) := by decide +kernel
theorem d_code_351 : decode code 351 = .ok (.ireturn, 1) := by decide +kernel
theorem d_code_109 : decode code 109 = .ok (.iload_n 2, 1) := by decide +kernel
theorem d_code_110 : decode code 110 = .ok (.iconst 1, 1) := by decide +kernel
theorem d_code_111 : decode code 111 = .ok (.if_icmp .ne 76, 3) := by decide +kernel
theorem d_code_114 : decode code 114 = .ok (.iconst 5, 1) := by decide +kernel
theorem d_code_115 : decode code 115 = .ok (.newarray .char, 2) := by decide +kernel
theorem d_code_117 : decode code 117 = .ok (.astore 4, 2) := by decide +kernel
theorem d_code_119 : decode code 119 = .ok (.aload 4, 2) := by decide +kernel
theorem d_code_121 : decode code 121 = .ok (.iconst 0, 1) := by decide +kernel
theorem d_code_122 : decode code 122 = .ok (.bipush 77, 2) := by decide +kernel
theorem d_code_124 : decode code 124 = .ok (.iload_n 1, 1) := by decide +kernel
theorem d_code_125 : decode code 125 = .ok (.iconst 0, 1) := by decide +kernel
theorem d_code_126 : decode code 126 = .ok (.invokestatic 8, 3) := by decide +kernel
theorem d_code_129 : decode code 129 = .ok (.castore, 1) := by decide +kernel
theorem d_code_130 : decode code 130 = .ok (.aload 4, 2) := by decide +kernel
theorem d_code_132 : decode code 132 = .ok (.iconst 1, 1) := by decide +kernel
theorem d_code_133 : decode code 133 = .ok (.bipush 121, 2) := by decide +kernel
theorem d_code_135 : decode code 135 = .ok (.iload_n 1, 1) := by decide +kernel
theorem d_code_136 : decode code 136 = .ok (.iconst 1, 1) := by decide +kernel
theorem d_code_137 : decode code 137 = .ok (.invokestatic 8, 3) := by decide +kernel
theorem d_code_140 : decode code 140 = .ok (.castore, 1) := by decide +kernel
theorem d_code_141 : decode code 141 = .ok (.aload 4, 2) := by decide +kernel
theorem d_code_143 : decode code 143 = .ok (.iconst 2, 1) := by decide +kernel
theorem d_code_144 : decode code 144 = .ok (.bipush 83, 2) := by decide +kernel
theorem d_code_146 : decode code 146 = .ok (.iload_n 1, 1) := by decide +kernel
theorem d_code_147 : decode code 147 = .ok (.iconst 2, 1) := by decide +kernel
theorem d_code_148 : decode code 148 = .ok (.invokestatic 8, 3) := by decide +kernel
theorem d_code_151 : decode code 151 = .ok (.castore, 1) := by decide +kernel
theorem d_code_152 : decode code 152 = .ok (.aload 4, 2) := by decide +kernel
theorem d_code_154 : decode code 154 = .ok (.iconst 3, 1) := by decide +kernel
theorem d_code_155 : decode code 155 = .ok (.bipush 81, 2) := by decide +kernel
theorem d_code_157 : decode code 157 = .ok (.iload_n 1, 1) := by decide +kernel
theorem d_code_158 : decode code 158 = .ok (.iconst 3, 1) := by decide +kernel
theorem d_code_159 : decode code 159 = .ok (.invokestatic 8, 3) := by decide +kernel
theorem d_code_162 : decode code 162 = .ok (.castore, 1) := by decide +kernel
theorem d_code_163 : decode code 163 = .ok (.aload 4, 2) := by decide +kernel
theorem d_code_165 : decode code 165 = .ok (.iconst 4, 1) := by decide +kernel
theorem d_code_166 : decode code 166 = .ok (.bipush 76, 2) := by decide +kernel
theorem d_code_168 : decode code 168 = .ok (.iload_n 1, 1) := by decide +kernel
theorem d_code_169 : decode code 169 = .ok (.iconst 4, 1) := by decide +kernel
theorem d_code_170 : decode code 170 = .ok (.invokestatic 8, 3) := by decide +kernel
theorem d_code_173 : decode code 173 = .ok (.castore, 1) := by decide +kernel
theorem d_code_174 : decode code 174 = .ok (.new 14, 3) := by decide +kernel
theorem d_code_177 : decode code 177 = .ok (.dup, 1) := by decide +kernel
theorem d_code_178 : decode code 178 = .ok (.aload 4, 2) := by decide +kernel
theorem d_code_180 : decode code 180 = .ok (.invokespecial 16, 3) := by decide +kernel
theorem d_code_183 : decode code 183 = .ok (.astore_n 3, 1) := by decide +kernel
theorem d_code_184 : decode code 184 = .ok (.goto 137, 3) := by decide +kernel
theorem d_code_187 : decode code 187 = .ok (.bipush 10, 2) := by decide +kernel
theorem d_code_189 : decode code 189 = .ok (.newarray .char, 2) := by decide +kernel
theorem d_code_191 : decode code 191 = .ok (.astore 4, 2) := by decide +kernel
theorem d_code_193 : decode code 193 = .ok (.aload 4, 2) := by decide +kernel
theorem d_code_195 : decode code 195 = .ok (.iconst 0, 1) := by decide +kernel
theorem d_code_196 : decode code 196 = .ok (.bipush 80, 2) := by decide +kernel
theorem d_code_198 : decode code 198 = .ok (.iload_n 1, 1) := by decide +kernel
theorem d_code_199 : decode code 199 = .ok (.iconst 0, 1) := by decide +kernel
theorem d_code_200 : decode code 200 = .ok (.invokestatic 8, 3) := by decide +kernel
theorem d_code_203 : decode code 203 = .ok (.castore, 1) := by decide +kernel
theorem d_code_204 : decode code 204 = .ok (.aload 4, 2) := by decide +kernel
theorem d_code_206 : decode code 206 = .ok (.iconst 1, 1) := by decide +kernel
theorem d_code_207 : decode code 207 = .ok (.bipush 111, 2) := by decide +kernel
theorem d_code_209 : decode code 209 = .ok (.iload_n 1, 1) := by decide +kernel
theorem d_code_210 : decode code 210 = .ok (.iconst 1, 1) := by decide +kernel
theorem d_code_211 : decode code 211 = .ok (.invokestatic 8, 3) := by decide +kernel
theorem d_code_214 : decode code 214 = .ok (.castore, 1) := by decide +kernel
theorem d_code_215 : decode code 215 = .ok (.aload 4, 2) := by decide +kernel
theorem d_code_217 : decode code 217 = .ok (.iconst 2, 1) := by decide +kernel
theorem d_code_218 : decode code 218 = .ok (.bipush 115, 2) := by decide +kernel
theorem d_code_220 : decode code 220 = .ok (.iload_n 1, 1) := by decide +kernel
theorem d_code_221 : decode code 221 = .ok (.iconst 2, 1) := by decide +kernel
theorem d_code_222 : decode code 222 = .ok (.invokestatic 8, 3) := by decide +kernel
theorem d_code_225 : decode code 225 = .ok (.castore, 1) := by decide +kernel
theorem d_code_226 : decode code 226 = .ok (.aload 4, 2) := by decide +kernel
theorem d_code_228 : decode code 228 = .ok (.iconst 3, 1) := by decide +kernel
theorem d_code_229 : decode code 229 = .ok (.bipush 116, 2) := by decide +kernel
theorem d_code_231 : decode code 231 = .ok (.iload_n 1, 1) := by decide +kernel
theorem d_code_232 : decode code 232 = .ok (.iconst 3, 1) := by decide +kernel
theorem d_code_233 : decode code 233 = .ok (.invokestatic 8, 3) := by decide +kernel
theorem d_code_236 : decode code 236 = .ok (.castore, 1) := by decide +kernel
theorem d_code_237 : decode code 237 = .ok (.aload 4, 2) := by decide +kernel
theorem d_code_239 : decode code 239 = .ok (.iconst 4, 1) := by decide +kernel
theorem d_code_240 : decode code 240 = .ok (.bipush 103, 2) := by decide +kernel
theorem d_code_242 : decode code 242 = .ok (.iload_n 1, 1) := by decide +kernel
theorem d_code_243 : decode code 243 = .ok (.iconst 4, 1) := by decide +kernel
theorem d_code_244 : decode code 244 = .ok (.invokestatic 8, 3) := by decide +kernel
theorem d_code_247 : decode code 247 = .ok (.castore, 1) := by decide +kernel
theorem d_code_248 : decode code 248 = .ok (.aload 4, 2) := by decide +kernel
theorem d_code_250 : decode code 250 = .ok (.iconst 5, 1) := by decide +kernel
theorem d_code_251 : decode code 251 = .ok (.bipush 114, 2) := by decide +kernel
theorem d_code_253 : decode code 253 = .ok (.iload_n 1, 1) := by decide +kernel
theorem d_code_254 : decode code 254 = .ok (.iconst 5, 1) := by decide +kernel
theorem d_code_255 : decode code 255 = .ok (.invokestatic 8, 3) := by decide +kernel
theorem d_code_258 : decode code 258 = .ok (.castore, 1) := by decide +kernel
theorem d_code_259 : decode code 259 = .ok (.aload 4, 2) := by decide +kernel
theorem d_code_261 : decode code 261 = .ok (.bipush 6, 2) := by decide +kernel
theorem d_code_263 : decode code 263 = .ok (.bipush 101, 2) := by decide +kernel
theorem d_code_265 : decode code 265 = .ok (.iload_n 1, 1) := by decide +kernel
theorem d_code_266 : decode code 266 = .ok (.bipush 6, 2) := by decide +kernel
theorem d_code_268 : decode code 268 = .ok (.invokestatic 8, 3) := by decide +kernel
theorem d_code_271 : decode code 271 = .ok (.castore, 1) := by decide +kernel
theorem d_code_272 : decode code 272 = .ok (.aload 4, 2) := by decide +kernel
theorem d_code_274 : decode code 274 = .ok (.bipush 7, 2) := by decide +kernel
theorem d_code_276 : decode code 276 = .ok (.bipush 83, 2) := by decide +kernel
theorem d_code_278 : decode code 278 = .ok (.iload_n 1, 1) := by decide +kernel
theorem d_code_279 : decode code 279 = .ok (.bipush 7, 2) := by decide +kernel
theorem d_code_281 : decode code 281 = .ok (.invokestatic 8, 3) := by decide +kernel
theorem d_code_284 : decode code 284 = .ok (.castore, 1) := by decide +kernel
theorem d_code_285 : decode code 285 = .ok (.aload 4, 2) := by decide +kernel
theorem d_code_287 : decode code 287 = .ok (.bipush 8, 2) := by decide +kernel
theorem d_code_289 : decode code 289 = .ok (.bipush 81, 2) := by decide +kernel
theorem d_code_291 : decode code 291 = .ok (.iload_n 1, 1) := by decide +kernel
theorem d_code_292 : decode code 292 = .ok (.bipush 8, 2) := by decide +kernel
theorem d_code_294 : decode code 294 = .ok (.invokestatic 8, 3) := by decide +kernel
theorem d_code_297 : decode code 297 = .ok (.castore, 1) := by decide +kernel
theorem d_code_298 : decode code 298 = .ok (.aload 4, 2) := by decide +kernel
theorem d_code_300 : decode code 300 = .ok (.bipush 9, 2) := by decide +kernel
theorem d_code_302 : decode code 302 = .ok (.bipush 76, 2) := by decide +kernel
theorem d_code_304 : decode code 304 = .ok (.iload_n 1, 1) := by decide +kernel
theorem d_code_305 : decode code 305 = .ok (.bipush 9, 2) := by decide +kernel
theorem d_code_307 : decode code 307 = .ok (.invokestatic 8, 3) := by decide +kernel
theorem d_code_310 : decode code 310 = .ok (.castore, 1) := by decide +kernel
theorem d_code_311 : decode code 311 = .ok (.new 14, 3) := by decide +kernel
theorem d_code_314 : decode code 314 = .ok (.dup, 1) := by decide +kernel
theorem d_code_315 : decode code 315 = .ok (.aload 4, 2) := by decide +kernel
theorem d_code_317 : decode code 317 = .ok (.invokespecial 16, 3) := by decide +kernel
theorem d_code_320 : decode code 320 = .ok (.astore_n 3, 1) := by decide +kernel
theorem d_code_326 : decode code 326 = .ok (.getstatic 19, 3) := by decide +kernel
theorem w_73 {Z : State} {a0 : Array Value} (G : Cl Z a0) : (Jvm.Cond.fieldLink "com/example/hermit_crab/hermitcrab/DialectOfPinLaw" 19 "com/example/hermit_crab/hermitcrab/JdbcLockStore$Dialect" "POSTGRESQL" "Lcom/example/hermit_crab/hermitcrab/JdbcLockStore$Dialect;").before a0 Z = true := G.1 _ (List.mem_of_getElem? (l := tables_1) (i := 73) rfl)
theorem d_code_329 : decode code 329 = .ok (.goto 6, 3) := by decide +kernel
set_option maxRecDepth 65536 in
set_option maxHeartbeats 40000000 in
theorem rm_law {l : Launch} {Z : State} {a0 : Array Value} (G : Cl Z a0) (which bits : Int32) (adA : Addr) (adB : Addr) (ceA : Cell) (ceB : Cell) (hzA : Z.heap[adA]? = some ceA) (obA : ObjC Z ceA "com/example/hermit_crab/hermitcrab/JdbcLockStore$Dialect$1") (hzB : Z.heap[adB]? = some ceB) (obB : ObjC Z ceB "com/example/hermit_crab/hermitcrab/JdbcLockStore$Dialect$2") (stA : Sta Z Z.heap "com/example/hermit_crab/hermitcrab/JdbcLockStore$Dialect" "MARIADB" "Lcom/example/hermit_crab/hermitcrab/JdbcLockStore$Dialect;" (.ref adA)) (stB : Sta Z Z.heap "com/example/hermit_crab/hermitcrab/JdbcLockStore$Dialect" "POSTGRESQL" "Lcom/example/hermit_crab/hermitcrab/JdbcLockStore$Dialect;" (.ref adB)) :
    Met l Z EL1 (⟨"com/example/hermit_crab/hermitcrab/DialectOfPinLaw", "law", "(II)Z"⟩ : MethodName) code 5 (some .boolean) ({ frames := 8, cells := 24, slots := 3200, locals := 192 } : Room) #[.int which, .int bits] [] [] (fun v _ _ => v = some (.int 1)) := by
  refine Met.walk G.2.1 pn_13 #[.val (.int which), .val (.int bits), .unset, .unset, .unset] (fun m => by first | (simp [entryFrame, mkF, argsToLocals, Value.category]; done) | rfl) ?_
  intro X T0 W0
  refine Go.iloadN (pc' := 1) W0 d_code_0 rfl rfl ?_
  refine Go.ldcInt (pc' := 3) W0 (w_0 G) d_code_1 rfl ?_
  refine Go.iand (pc' := 4) W0 d_code_3 rfl ?_
  refine Go.iconst (pc' := 5) W0 (3 : Int32) d_code_4 (by decide) rfl ?_
  refine Go.irem (pc' := 6) W0 d_code_5 (by decide) rfl ?_
  generalize e2 : (which &&& (2147483647 : Int32)) % (3 : Int32) = n1
  have h3 : n1 = (0 : Int32) ∨ n1 = (1 : Int32) ∨ n1 = (2 : Int32) := by rw [← e2]; exact rem3 which
  rcases h3 with rfl | rfl | rfl
  · refine Go.istoreN (pc' := 7) W0 #[.val (.int which), .val (.int bits), .val (.int (0 : Int32)), .unset, .unset] d_code_6 rfl rfl ?_
    refine Go.iloadN (pc' := 8) W0 d_code_7 rfl rfl ?_
    refine Go.if_ne (pc' := 11) W0 109 d_code_8 (by decide) rfl (fun q => absurd (by decide) q) (fun _ => ?_)
    refine Go.bipush (pc' := 13) W0 (7 : Int32) d_code_11 (by decide) rfl ?_
    refine Go.newarr (pc' := 15) W0 .char rfl 7 (w_1 G) d_code_13 rfl (by decide) (by decide) (by decide) (by first | exact Nat.le_of_ble_eq_true rfl | (simp; done) | (simp; omega) | omega) (by first | exact Nat.le_of_ble_eq_true rfl | (simp; done) | (simp; omega) | omega) (fun T4 a6 c7 W5 A8 => ?_)
    replace W5 : Wk l Z EL1 ({ frames := 8, cells := 24, slots := 3200, locals := 192 } : Room) "com/example/hermit_crab/hermitcrab/DialectOfPinLaw" code 5 (some .boolean) "law" X [(a6, c7)] [] T4 1 (7) := W5
    replace A8 : ArrC Z c7 .char [(.int (0 : Int32)), (.int (0 : Int32)), (.int (0 : Int32)), (.int (0 : Int32)), (.int (0 : Int32)), (.int (0 : Int32)), (.int (0 : Int32))] := A8
    refine Go.astore (pc' := 17) W5 #[.val (.int which), .val (.int bits), .val (.int (0 : Int32)), .unset, .val (.ref a6)] d_code_15 rfl rfl rfl ?_
    refine Go.aload (pc' := 19) W5 d_code_17 rfl rfl rfl ?_
    refine Go.iconst (pc' := 20) W5 (0 : Int32) d_code_19 (by decide) rfl ?_
    refine Go.bipush (pc' := 22) W5 (77 : Int32) d_code_20 (by decide) rfl ?_
    refine Go.iloadN (pc' := 23) W5 d_code_22 rfl rfl ?_
    refine Go.iconst (pc' := 24) W5 (0 : Int32) d_code_23 (by decide) rfl ?_
    refine Go.static (pc' := 27) W5 (rm_f_BZ G bits (0 : Int32)) (w_2 G) (w_3 G) (w_4 G) (w_5 G) (by decide) [] [] (σf := [(a6, c7)]) rfl rfl [(.int (77 : Int32)), (.int bits), (.int (0 : Int32))] [(.int (0 : Int32)), (.ref a6)] rfl (lenOf pd_16 rfl) rfl rfl d_code_24 rfl (by first | exact Nat.le_of_ble_eq_true rfl | (simp; done) | (simp; omega) | omega) (by first | exact Nat.le_of_ble_eq_true rfl | (simp; done) | (simp; omega) | omega) (by first | exact Nat.le_of_ble_eq_true rfl | (simp; done) | (simp; omega) | omega) (by first | exact Nat.le_of_ble_eq_true rfl | (simp; done) | (simp; omega) | omega) ?_
    rintro _ _ _ T9 ⟨rfl, rfl, rfl⟩ W10
    replace W10 : Wk l Z EL1 ({ frames := 8, cells := 24, slots := 3200, locals := 192 } : Room) "com/example/hermit_crab/hermitcrab/DialectOfPinLaw" code 5 (some .boolean) "law" X [(a6, c7)] [] T9 1 (7) := W10
    show Go Z EL1 _ _ _ X T9 27 #[.val (.int which), .val (.int bits), .val (.int (0 : Int32)), .unset, .val (.ref a6)] [(.int (pickF bits (0 : Int32) (77 : Int32) (109 : Int32))), (.int (0 : Int32)), (.ref a6)]
    refine Go.castore (pc' := 28) W10 0 rfl A8 0 (pickF bits (0 : Int32) (77 : Int32) (109 : Int32)) (nar_char_id (lat_char (pickF_lat (by decide) (by decide)))) (by decide) (by decide) (by simp) d_code_27 rfl (fun T11 c13 W12 A14 => ?_)
    replace W12 : Wk l Z EL1 ({ frames := 8, cells := 24, slots := 3200, locals := 192 } : Room) "com/example/hermit_crab/hermitcrab/DialectOfPinLaw" code 5 (some .boolean) "law" X [(a6, c13)] [] T11 1 (7) := W12
    replace A14 : ArrC Z c13 .char [(.int (pickF bits (0 : Int32) (77 : Int32) (109 : Int32))), (.int (0 : Int32)), (.int (0 : Int32)), (.int (0 : Int32)), (.int (0 : Int32)), (.int (0 : Int32)), (.int (0 : Int32))] := A14
    refine Go.aload (pc' := 30) W12 d_code_28 rfl rfl rfl ?_
    refine Go.iconst (pc' := 31) W12 (1 : Int32) d_code_30 (by decide) rfl ?_
    refine Go.bipush (pc' := 33) W12 (97 : Int32) d_code_31 (by decide) rfl ?_
    refine Go.iloadN (pc' := 34) W12 d_code_33 rfl rfl ?_
    refine Go.iconst (pc' := 35) W12 (1 : Int32) d_code_34 (by decide) rfl ?_
    refine Go.static (pc' := 38) W12 (rm_f_CT G bits (1 : Int32)) (w_2 G) (w_3 G) (w_4 G) (w_5 G) (by decide) [] [] (σf := [(a6, c13)]) rfl rfl [(.int (97 : Int32)), (.int bits), (.int (1 : Int32))] [(.int (1 : Int32)), (.ref a6)] rfl (lenOf pd_16 rfl) rfl rfl d_code_35 rfl (by first | exact Nat.le_of_ble_eq_true rfl | (simp; done) | (simp; omega) | omega) (by first | exact Nat.le_of_ble_eq_true rfl | (simp; done) | (simp; omega) | omega) (by first | exact Nat.le_of_ble_eq_true rfl | (simp; done) | (simp; omega) | omega) (by first | exact Nat.le_of_ble_eq_true rfl | (simp; done) | (simp; omega) | omega) ?_
    rintro _ _ _ T15 ⟨rfl, rfl, rfl⟩ W16
    replace W16 : Wk l Z EL1 ({ frames := 8, cells := 24, slots := 3200, locals := 192 } : Room) "com/example/hermit_crab/hermitcrab/DialectOfPinLaw" code 5 (some .boolean) "law" X [(a6, c13)] [] T15 1 (7) := W16
    show Go Z EL1 _ _ _ X T15 38 #[.val (.int which), .val (.int bits), .val (.int (0 : Int32)), .unset, .val (.ref a6)] [(.int (pickF bits (1 : Int32) (97 : Int32) (65 : Int32))), (.int (1 : Int32)), (.ref a6)]
    refine Go.castore (pc' := 39) W16 0 rfl A14 1 (pickF bits (1 : Int32) (97 : Int32) (65 : Int32)) (nar_char_id (lat_char (pickF_lat (by decide) (by decide)))) (by decide) (by decide) (by simp) d_code_38 rfl (fun T17 c19 W18 A20 => ?_)
    replace W18 : Wk l Z EL1 ({ frames := 8, cells := 24, slots := 3200, locals := 192 } : Room) "com/example/hermit_crab/hermitcrab/DialectOfPinLaw" code 5 (some .boolean) "law" X [(a6, c19)] [] T17 1 (7) := W18
    replace A20 : ArrC Z c19 .char [(.int (pickF bits (0 : Int32) (77 : Int32) (109 : Int32))), (.int (pickF bits (1 : Int32) (97 : Int32) (65 : Int32))), (.int (0 : Int32)), (.int (0 : Int32)), (.int (0 : Int32)), (.int (0 : Int32)), (.int (0 : Int32))] := A20
    refine Go.aload (pc' := 41) W18 d_code_39 rfl rfl rfl ?_
    refine Go.iconst (pc' := 42) W18 (2 : Int32) d_code_41 (by decide) rfl ?_
    refine Go.bipush (pc' := 44) W18 (114 : Int32) d_code_42 (by decide) rfl ?_
    refine Go.iloadN (pc' := 45) W18 d_code_44 rfl rfl ?_
    refine Go.iconst (pc' := 46) W18 (2 : Int32) d_code_45 (by decide) rfl ?_
    refine Go.static (pc' := 49) W18 (rm_f_DK G bits (2 : Int32)) (w_2 G) (w_3 G) (w_4 G) (w_5 G) (by decide) [] [] (σf := [(a6, c19)]) rfl rfl [(.int (114 : Int32)), (.int bits), (.int (2 : Int32))] [(.int (2 : Int32)), (.ref a6)] rfl (lenOf pd_16 rfl) rfl rfl d_code_46 rfl (by first | exact Nat.le_of_ble_eq_true rfl | (simp; done) | (simp; omega) | omega) (by first | exact Nat.le_of_ble_eq_true rfl | (simp; done) | (simp; omega) | omega) (by first | exact Nat.le_of_ble_eq_true rfl | (simp; done) | (simp; omega) | omega) (by first | exact Nat.le_of_ble_eq_true rfl | (simp; done) | (simp; omega) | omega) ?_
    rintro _ _ _ T21 ⟨rfl, rfl, rfl⟩ W22
    replace W22 : Wk l Z EL1 ({ frames := 8, cells := 24, slots := 3200, locals := 192 } : Room) "com/example/hermit_crab/hermitcrab/DialectOfPinLaw" code 5 (some .boolean) "law" X [(a6, c19)] [] T21 1 (7) := W22
    show Go Z EL1 _ _ _ X T21 49 #[.val (.int which), .val (.int bits), .val (.int (0 : Int32)), .unset, .val (.ref a6)] [(.int (pickF bits (2 : Int32) (114 : Int32) (82 : Int32))), (.int (2 : Int32)), (.ref a6)]
    refine Go.castore (pc' := 50) W22 0 rfl A20 2 (pickF bits (2 : Int32) (114 : Int32) (82 : Int32)) (nar_char_id (lat_char (pickF_lat (by decide) (by decide)))) (by decide) (by decide) (by simp) d_code_49 rfl (fun T23 c25 W24 A26 => ?_)
    replace W24 : Wk l Z EL1 ({ frames := 8, cells := 24, slots := 3200, locals := 192 } : Room) "com/example/hermit_crab/hermitcrab/DialectOfPinLaw" code 5 (some .boolean) "law" X [(a6, c25)] [] T23 1 (7) := W24
    replace A26 : ArrC Z c25 .char [(.int (pickF bits (0 : Int32) (77 : Int32) (109 : Int32))), (.int (pickF bits (1 : Int32) (97 : Int32) (65 : Int32))), (.int (pickF bits (2 : Int32) (114 : Int32) (82 : Int32))), (.int (0 : Int32)), (.int (0 : Int32)), (.int (0 : Int32)), (.int (0 : Int32))] := A26
    refine Go.aload (pc' := 52) W24 d_code_50 rfl rfl rfl ?_
    refine Go.iconst (pc' := 53) W24 (3 : Int32) d_code_52 (by decide) rfl ?_
    refine Go.bipush (pc' := 55) W24 (105 : Int32) d_code_53 (by decide) rfl ?_
    refine Go.iloadN (pc' := 56) W24 d_code_55 rfl rfl ?_
    refine Go.iconst (pc' := 57) W24 (3 : Int32) d_code_56 (by decide) rfl ?_
    refine Go.static (pc' := 60) W24 (rm_f_DB G bits (3 : Int32)) (w_2 G) (w_3 G) (w_4 G) (w_5 G) (by decide) [] [] (σf := [(a6, c25)]) rfl rfl [(.int (105 : Int32)), (.int bits), (.int (3 : Int32))] [(.int (3 : Int32)), (.ref a6)] rfl (lenOf pd_16 rfl) rfl rfl d_code_57 rfl (by first | exact Nat.le_of_ble_eq_true rfl | (simp; done) | (simp; omega) | omega) (by first | exact Nat.le_of_ble_eq_true rfl | (simp; done) | (simp; omega) | omega) (by first | exact Nat.le_of_ble_eq_true rfl | (simp; done) | (simp; omega) | omega) (by first | exact Nat.le_of_ble_eq_true rfl | (simp; done) | (simp; omega) | omega) ?_
    rintro _ _ _ T27 ⟨rfl, rfl, rfl⟩ W28
    replace W28 : Wk l Z EL1 ({ frames := 8, cells := 24, slots := 3200, locals := 192 } : Room) "com/example/hermit_crab/hermitcrab/DialectOfPinLaw" code 5 (some .boolean) "law" X [(a6, c25)] [] T27 1 (7) := W28
    show Go Z EL1 _ _ _ X T27 60 #[.val (.int which), .val (.int bits), .val (.int (0 : Int32)), .unset, .val (.ref a6)] [(.int (pickF bits (3 : Int32) (105 : Int32) (73 : Int32))), (.int (3 : Int32)), (.ref a6)]
    refine Go.castore (pc' := 61) W28 0 rfl A26 3 (pickF bits (3 : Int32) (105 : Int32) (73 : Int32)) (nar_char_id (lat_char (pickF_lat (by decide) (by decide)))) (by decide) (by decide) (by simp) d_code_60 rfl (fun T29 c31 W30 A32 => ?_)
    replace W30 : Wk l Z EL1 ({ frames := 8, cells := 24, slots := 3200, locals := 192 } : Room) "com/example/hermit_crab/hermitcrab/DialectOfPinLaw" code 5 (some .boolean) "law" X [(a6, c31)] [] T29 1 (7) := W30
    replace A32 : ArrC Z c31 .char [(.int (pickF bits (0 : Int32) (77 : Int32) (109 : Int32))), (.int (pickF bits (1 : Int32) (97 : Int32) (65 : Int32))), (.int (pickF bits (2 : Int32) (114 : Int32) (82 : Int32))), (.int (pickF bits (3 : Int32) (105 : Int32) (73 : Int32))), (.int (0 : Int32)), (.int (0 : Int32)), (.int (0 : Int32))] := A32
    refine Go.aload (pc' := 63) W30 d_code_61 rfl rfl rfl ?_
    refine Go.iconst (pc' := 64) W30 (4 : Int32) d_code_63 (by decide) rfl ?_
    refine Go.bipush (pc' := 66) W30 (97 : Int32) d_code_64 (by decide) rfl ?_
    refine Go.iloadN (pc' := 67) W30 d_code_66 rfl rfl ?_
    refine Go.iconst (pc' := 68) W30 (4 : Int32) d_code_67 (by decide) rfl ?_
    refine Go.static (pc' := 71) W30 (rm_f_CT G bits (4 : Int32)) (w_2 G) (w_3 G) (w_4 G) (w_5 G) (by decide) [] [] (σf := [(a6, c31)]) rfl rfl [(.int (97 : Int32)), (.int bits), (.int (4 : Int32))] [(.int (4 : Int32)), (.ref a6)] rfl (lenOf pd_16 rfl) rfl rfl d_code_68 rfl (by first | exact Nat.le_of_ble_eq_true rfl | (simp; done) | (simp; omega) | omega) (by first | exact Nat.le_of_ble_eq_true rfl | (simp; done) | (simp; omega) | omega) (by first | exact Nat.le_of_ble_eq_true rfl | (simp; done) | (simp; omega) | omega) (by first | exact Nat.le_of_ble_eq_true rfl | (simp; done) | (simp; omega) | omega) ?_
    rintro _ _ _ T33 ⟨rfl, rfl, rfl⟩ W34
    replace W34 : Wk l Z EL1 ({ frames := 8, cells := 24, slots := 3200, locals := 192 } : Room) "com/example/hermit_crab/hermitcrab/DialectOfPinLaw" code 5 (some .boolean) "law" X [(a6, c31)] [] T33 1 (7) := W34
    show Go Z EL1 _ _ _ X T33 71 #[.val (.int which), .val (.int bits), .val (.int (0 : Int32)), .unset, .val (.ref a6)] [(.int (pickF bits (4 : Int32) (97 : Int32) (65 : Int32))), (.int (4 : Int32)), (.ref a6)]
    refine Go.castore (pc' := 72) W34 0 rfl A32 4 (pickF bits (4 : Int32) (97 : Int32) (65 : Int32)) (nar_char_id (lat_char (pickF_lat (by decide) (by decide)))) (by decide) (by decide) (by simp) d_code_71 rfl (fun T35 c37 W36 A38 => ?_)
    replace W36 : Wk l Z EL1 ({ frames := 8, cells := 24, slots := 3200, locals := 192 } : Room) "com/example/hermit_crab/hermitcrab/DialectOfPinLaw" code 5 (some .boolean) "law" X [(a6, c37)] [] T35 1 (7) := W36
    replace A38 : ArrC Z c37 .char [(.int (pickF bits (0 : Int32) (77 : Int32) (109 : Int32))), (.int (pickF bits (1 : Int32) (97 : Int32) (65 : Int32))), (.int (pickF bits (2 : Int32) (114 : Int32) (82 : Int32))), (.int (pickF bits (3 : Int32) (105 : Int32) (73 : Int32))), (.int (pickF bits (4 : Int32) (97 : Int32) (65 : Int32))), (.int (0 : Int32)), (.int (0 : Int32))] := A38
    refine Go.aload (pc' := 74) W36 d_code_72 rfl rfl rfl ?_
    refine Go.iconst (pc' := 75) W36 (5 : Int32) d_code_74 (by decide) rfl ?_
    refine Go.bipush (pc' := 77) W36 (68 : Int32) d_code_75 (by decide) rfl ?_
    refine Go.iloadN (pc' := 78) W36 d_code_77 rfl rfl ?_
    refine Go.iconst (pc' := 79) W36 (5 : Int32) d_code_78 (by decide) rfl ?_
    refine Go.static (pc' := 82) W36 (rm_f_BQ G bits (5 : Int32)) (w_2 G) (w_3 G) (w_4 G) (w_5 G) (by decide) [] [] (σf := [(a6, c37)]) rfl rfl [(.int (68 : Int32)), (.int bits), (.int (5 : Int32))] [(.int (5 : Int32)), (.ref a6)] rfl (lenOf pd_16 rfl) rfl rfl d_code_79 rfl (by first | exact Nat.le_of_ble_eq_true rfl | (simp; done) | (simp; omega) | omega) (by first | exact Nat.le_of_ble_eq_true rfl | (simp; done) | (simp; omega) | omega) (by first | exact Nat.le_of_ble_eq_true rfl | (simp; done) | (simp; omega) | omega) (by first | exact Nat.le_of_ble_eq_true rfl | (simp; done) | (simp; omega) | omega) ?_
    rintro _ _ _ T39 ⟨rfl, rfl, rfl⟩ W40
    replace W40 : Wk l Z EL1 ({ frames := 8, cells := 24, slots := 3200, locals := 192 } : Room) "com/example/hermit_crab/hermitcrab/DialectOfPinLaw" code 5 (some .boolean) "law" X [(a6, c37)] [] T39 1 (7) := W40
    show Go Z EL1 _ _ _ X T39 82 #[.val (.int which), .val (.int bits), .val (.int (0 : Int32)), .unset, .val (.ref a6)] [(.int (pickF bits (5 : Int32) (68 : Int32) (100 : Int32))), (.int (5 : Int32)), (.ref a6)]
    refine Go.castore (pc' := 83) W40 0 rfl A38 5 (pickF bits (5 : Int32) (68 : Int32) (100 : Int32)) (nar_char_id (lat_char (pickF_lat (by decide) (by decide)))) (by decide) (by decide) (by simp) d_code_82 rfl (fun T41 c43 W42 A44 => ?_)
    replace W42 : Wk l Z EL1 ({ frames := 8, cells := 24, slots := 3200, locals := 192 } : Room) "com/example/hermit_crab/hermitcrab/DialectOfPinLaw" code 5 (some .boolean) "law" X [(a6, c43)] [] T41 1 (7) := W42
    replace A44 : ArrC Z c43 .char [(.int (pickF bits (0 : Int32) (77 : Int32) (109 : Int32))), (.int (pickF bits (1 : Int32) (97 : Int32) (65 : Int32))), (.int (pickF bits (2 : Int32) (114 : Int32) (82 : Int32))), (.int (pickF bits (3 : Int32) (105 : Int32) (73 : Int32))), (.int (pickF bits (4 : Int32) (97 : Int32) (65 : Int32))), (.int (pickF bits (5 : Int32) (68 : Int32) (100 : Int32))), (.int (0 : Int32))] := A44
    refine Go.aload (pc' := 85) W42 d_code_83 rfl rfl rfl ?_
    refine Go.bipush (pc' := 87) W42 (6 : Int32) d_code_85 (by decide) rfl ?_
    refine Go.bipush (pc' := 89) W42 (66 : Int32) d_code_87 (by decide) rfl ?_
    refine Go.iloadN (pc' := 90) W42 d_code_89 rfl rfl ?_
    refine Go.bipush (pc' := 92) W42 (6 : Int32) d_code_90 (by decide) rfl ?_
    refine Go.static (pc' := 95) W42 (rm_f_BO G bits (6 : Int32)) (w_2 G) (w_3 G) (w_4 G) (w_5 G) (by decide) [] [] (σf := [(a6, c43)]) rfl rfl [(.int (66 : Int32)), (.int bits), (.int (6 : Int32))] [(.int (6 : Int32)), (.ref a6)] rfl (lenOf pd_16 rfl) rfl rfl d_code_92 rfl (by first | exact Nat.le_of_ble_eq_true rfl | (simp; done) | (simp; omega) | omega) (by first | exact Nat.le_of_ble_eq_true rfl | (simp; done) | (simp; omega) | omega) (by first | exact Nat.le_of_ble_eq_true rfl | (simp; done) | (simp; omega) | omega) (by first | exact Nat.le_of_ble_eq_true rfl | (simp; done) | (simp; omega) | omega) ?_
    rintro _ _ _ T45 ⟨rfl, rfl, rfl⟩ W46
    replace W46 : Wk l Z EL1 ({ frames := 8, cells := 24, slots := 3200, locals := 192 } : Room) "com/example/hermit_crab/hermitcrab/DialectOfPinLaw" code 5 (some .boolean) "law" X [(a6, c43)] [] T45 1 (7) := W46
    show Go Z EL1 _ _ _ X T45 95 #[.val (.int which), .val (.int bits), .val (.int (0 : Int32)), .unset, .val (.ref a6)] [(.int (pickF bits (6 : Int32) (66 : Int32) (98 : Int32))), (.int (6 : Int32)), (.ref a6)]
    refine Go.castore (pc' := 96) W46 0 rfl A44 6 (pickF bits (6 : Int32) (66 : Int32) (98 : Int32)) (nar_char_id (lat_char (pickF_lat (by decide) (by decide)))) (by decide) (by decide) (by simp) d_code_95 rfl (fun T47 c49 W48 A50 => ?_)
    replace W48 : Wk l Z EL1 ({ frames := 8, cells := 24, slots := 3200, locals := 192 } : Room) "com/example/hermit_crab/hermitcrab/DialectOfPinLaw" code 5 (some .boolean) "law" X [(a6, c49)] [] T47 1 (7) := W48
    replace A50 : ArrC Z c49 .char [(.int (pickF bits (0 : Int32) (77 : Int32) (109 : Int32))), (.int (pickF bits (1 : Int32) (97 : Int32) (65 : Int32))), (.int (pickF bits (2 : Int32) (114 : Int32) (82 : Int32))), (.int (pickF bits (3 : Int32) (105 : Int32) (73 : Int32))), (.int (pickF bits (4 : Int32) (97 : Int32) (65 : Int32))), (.int (pickF bits (5 : Int32) (68 : Int32) (100 : Int32))), (.int (pickF bits (6 : Int32) (66 : Int32) (98 : Int32)))] := A50
    refine Go.new (pc' := 99) W48 (w_6 G) (w_7 G) (w_8 G) d_code_96 rfl (by first | exact Nat.le_of_ble_eq_true rfl | (simp; done) | (simp; omega) | omega) (by first | exact Nat.le_of_ble_eq_true rfl | (simp; done) | (simp; omega) | omega) (fun T51 a53 c54 W52 O55 D56 => ?_)
    replace W52 : Wk l Z EL1 ({ frames := 8, cells := 24, slots := 3200, locals := 192 } : Room) "com/example/hermit_crab/hermitcrab/DialectOfPinLaw" code 5 (some .boolean) "law" X [(a53, c54), (a6, c49)] [] T51 2 (11) := W52
    have F57 : FldC Z c54 "java/lang/String" "coder" "B" (.int (0 : Int32)) := D56 (Or.inr (w_32 G)) (ty := .byte) (by decide)
    have F58 : FldC Z c54 "java/lang/String" "value" "[B" (.null) := D56 (Or.inr (w_34 G)) (ty := (.array .byte)) (by decide)
    refine Go.dup (pc' := 100) W52 d_code_99 rfl rfl ?_
    refine Go.aload (pc' := 102) W52 d_code_100 rfl rfl rfl ?_
    refine Go.special (pc' := 105) W52 (a := a53) (rm_initC G a53 a6 c54 c49 [pickF bits (0 : Int32) (77 : Int32) (109 : Int32), pickF bits (1 : Int32) (97 : Int32) (65 : Int32), pickF bits (2 : Int32) (114 : Int32) (82 : Int32), pickF bits (3 : Int32) (105 : Int32) (73 : Int32), pickF bits (4 : Int32) (97 : Int32) (65 : Int32), pickF bits (5 : Int32) (68 : Int32) (100 : Int32), pickF bits (6 : Int32) (66 : Int32) (98 : Int32)] A50 O55 F57 F58 (Lat.cons (pickF_lat (by decide) (by decide)) (Lat.cons (pickF_lat (by decide) (by decide)) (Lat.cons (pickF_lat (by decide) (by decide)) (Lat.cons (pickF_lat (by decide) (by decide)) (Lat.cons (pickF_lat (by decide) (by decide)) (Lat.cons (pickF_lat (by decide) (by decide)) (Lat.cons (pickF_lat (by decide) (by decide)) Lat.nil))))))) (by simp) (show ¬ (7 : Nat).toInt32 = 0 by decide)) rfl (w_9 G) (w_10 G) (w_8 G) (w_11 G) (by decide) [0, 0] [] (σf := []) rfl rfl [(.ref a6)] [(.ref a53)] rfl (lenOf pd_17 rfl) rfl rfl d_code_102 rfl (by first | exact Nat.le_of_ble_eq_true rfl | (simp; done) | (simp; omega) | omega) (by first | exact Nat.le_of_ble_eq_true rfl | (simp; done) | (simp; omega) | omega) (by first | exact Nat.le_of_ble_eq_true rfl | (simp; done) | (simp; omega) | omega) (by first | exact Nat.le_of_ble_eq_true rfl | (simp; done) | (simp; omega) | omega) ?_
    rintro _ _ _ T63 ⟨c59, b60, c61, rfl, rfl, rfl, S62⟩ W64
    replace W64 : Wk l Z EL1 ({ frames := 8, cells := 24, slots := 3200, locals := 192 } : Room) "com/example/hermit_crab/hermitcrab/DialectOfPinLaw" code 5 (some .boolean) "law" X [(a6, c49)] [(a53, c59), (b60, c61)] T63 3 (18) := W64
    show Go Z EL1 _ _ _ X T63 105 #[.val (.int which), .val (.int bits), .val (.int (0 : Int32)), .unset, .val (.ref a6)] [(.ref a53)]
    refine Go.astoreN (pc' := 106) W64 #[.val (.int which), .val (.int bits), .val (.int (0 : Int32)), .val (.ref a53), .val (.ref a6)] d_code_105 rfl rfl rfl ?_
    refine Go.goto W64 321 d_code_106 (by decide) ?_
    refine Go.iloadN (pc' := 322) W64 d_code_321 rfl rfl ?_
    refine Go.iconst (pc' := 323) W64 (2 : Int32) d_code_322 (by decide) rfl ?_
    refine Go.icmp_ne (pc' := 326) W64 332 d_code_323 (by decide) rfl (fun _ => ?_) (fun q => absurd q (by decide))
    refine Go.getstatic (pc' := 335) W64 (w_35 G) Via.refl stA d_code_332 rfl (fun T65 W66 => ?_)
    refine Go.astore (pc' := 337) W66 #[.val (.int which), .val (.int bits), .val (.int (0 : Int32)), .val (.ref a53), .val (.ref adA)] d_code_335 rfl rfl rfl ?_
    refine Go.aloadN (pc' := 338) W66 d_code_337 rfl rfl rfl ?_
    refine Go.static (pc' := 341) W66 (rm_of_MariaDB G adA adB ceA ceB hzA obA hzB obB stA stB bits a53 b60 c59 c61 S62) (w_38 G) (w_39 G) (w_36 G) (w_40 G) (by decide) [] [0, 1] (σf := [(a6, c49)]) rfl rfl [(.ref a53)] [] rfl (lenOf pd_18 rfl) rfl rfl d_code_338 rfl (by first | exact Nat.le_of_ble_eq_true rfl | (simp; done) | (simp; omega) | omega) (by first | exact Nat.le_of_ble_eq_true rfl | (simp; done) | (simp; omega) | omega) (by first | exact Nat.le_of_ble_eq_true rfl | (simp; done) | (simp; omega) | omega) (by first | exact Nat.le_of_ble_eq_true rfl | (simp; done) | (simp; omega) | omega) ?_
    rintro _ _ _ T67 ⟨rfl, rfl, rfl⟩ W68
    replace W68 : Wk l Z EL1 ({ frames := 8, cells := 24, slots := 3200, locals := 192 } : Room) "com/example/hermit_crab/hermitcrab/DialectOfPinLaw" code 5 (some .boolean) "law" X [(a6, c49)] [(a53, c59), (b60, c61)] T67 9 (118) := W68
    show Go Z EL1 _ _ _ X T67 341 #[.val (.int which), .val (.int bits), .val (.int (0 : Int32)), .val (.ref a53), .val (.ref adA)] [(.ref adA)]
    refine Go.aload (pc' := 343) W68 d_code_341 rfl rfl rfl ?_
    refine Go.acmp_ne (pc' := 346) W68 350 rfl rfl d_code_343 (by decide) rfl (fun hq => absurd rfl hq) (fun _ => ?_)
    refine Go.iconst (pc' := 347) W68 (1 : Int32) d_code_346 (by decide) rfl ?_
    refine Go.goto W68 351 d_code_347 (by decide) ?_
    refine Go.nret (z' := (1 : Int32)) W68 (by simp) (by decide) d_code_351 (by first | exact Nat.le_of_ble_eq_true rfl | (simp; done) | (simp; omega) | omega) (by first | exact Nat.le_of_ble_eq_true rfl | (simp; done) | (simp; omega) | omega) ?_
    rfl
  · refine Go.istoreN (pc' := 7) W0 #[.val (.int which), .val (.int bits), .val (.int (1 : Int32)), .unset, .unset] d_code_6 rfl rfl ?_
    refine Go.iloadN (pc' := 8) W0 d_code_7 rfl rfl ?_
    refine Go.if_ne (pc' := 11) W0 109 d_code_8 (by decide) rfl (fun _ => ?_) (fun q => absurd q (by decide))
    refine Go.iloadN (pc' := 110) W0 d_code_109 rfl rfl ?_
    refine Go.iconst (pc' := 111) W0 (1 : Int32) d_code_110 (by decide) rfl ?_
    refine Go.icmp_ne (pc' := 114) W0 187 d_code_111 (by decide) rfl (fun q => absurd (by decide) q) (fun _ => ?_)
    refine Go.iconst (pc' := 115) W0 (5 : Int32) d_code_114 (by decide) rfl ?_
    refine Go.newarr (pc' := 117) W0 .char rfl 5 (w_1 G) d_code_115 rfl (by decide) (by decide) (by decide) (by first | exact Nat.le_of_ble_eq_true rfl | (simp; done) | (simp; omega) | omega) (by first | exact Nat.le_of_ble_eq_true rfl | (simp; done) | (simp; omega) | omega) (fun T69 a71 c72 W70 A73 => ?_)
    replace W70 : Wk l Z EL1 ({ frames := 8, cells := 24, slots := 3200, locals := 192 } : Room) "com/example/hermit_crab/hermitcrab/DialectOfPinLaw" code 5 (some .boolean) "law" X [(a71, c72)] [] T69 1 (5) := W70
    replace A73 : ArrC Z c72 .char [(.int (0 : Int32)), (.int (0 : Int32)), (.int (0 : Int32)), (.int (0 : Int32)), (.int (0 : Int32))] := A73
    refine Go.astore (pc' := 119) W70 #[.val (.int which), .val (.int bits), .val (.int (1 : Int32)), .unset, .val (.ref a71)] d_code_117 rfl rfl rfl ?_
    refine Go.aload (pc' := 121) W70 d_code_119 rfl rfl rfl ?_
    refine Go.iconst (pc' := 122) W70 (0 : Int32) d_code_121 (by decide) rfl ?_
    refine Go.bipush (pc' := 124) W70 (77 : Int32) d_code_122 (by decide) rfl ?_
    refine Go.iloadN (pc' := 125) W70 d_code_124 rfl rfl ?_
    refine Go.iconst (pc' := 126) W70 (0 : Int32) d_code_125 (by decide) rfl ?_
    refine Go.static (pc' := 129) W70 (rm_f_BZ G bits (0 : Int32)) (w_2 G) (w_3 G) (w_4 G) (w_5 G) (by decide) [] [] (σf := [(a71, c72)]) rfl rfl [(.int (77 : Int32)), (.int bits), (.int (0 : Int32))] [(.int (0 : Int32)), (.ref a71)] rfl (lenOf pd_16 rfl) rfl rfl d_code_126 rfl (by first | exact Nat.le_of_ble_eq_true rfl | (simp; done) | (simp; omega) | omega) (by first | exact Nat.le_of_ble_eq_true rfl | (simp; done) | (simp; omega) | omega) (by first | exact Nat.le_of_ble_eq_true rfl | (simp; done) | (simp; omega) | omega) (by first | exact Nat.le_of_ble_eq_true rfl | (simp; done) | (simp; omega) | omega) ?_
    rintro _ _ _ T74 ⟨rfl, rfl, rfl⟩ W75
    replace W75 : Wk l Z EL1 ({ frames := 8, cells := 24, slots := 3200, locals := 192 } : Room) "com/example/hermit_crab/hermitcrab/DialectOfPinLaw" code 5 (some .boolean) "law" X [(a71, c72)] [] T74 1 (5) := W75
    show Go Z EL1 _ _ _ X T74 129 #[.val (.int which), .val (.int bits), .val (.int (1 : Int32)), .unset, .val (.ref a71)] [(.int (pickF bits (0 : Int32) (77 : Int32) (109 : Int32))), (.int (0 : Int32)), (.ref a71)]
    refine Go.castore (pc' := 130) W75 0 rfl A73 0 (pickF bits (0 : Int32) (77 : Int32) (109 : Int32)) (nar_char_id (lat_char (pickF_lat (by decide) (by decide)))) (by decide) (by decide) (by simp) d_code_129 rfl (fun T76 c78 W77 A79 => ?_)
    replace W77 : Wk l Z EL1 ({ frames := 8, cells := 24, slots := 3200, locals := 192 } : Room) "com/example/hermit_crab/hermitcrab/DialectOfPinLaw" code 5 (some .boolean) "law" X [(a71, c78)] [] T76 1 (5) := W77
    replace A79 : ArrC Z c78 .char [(.int (pickF bits (0 : Int32) (77 : Int32) (109 : Int32))), (.int (0 : Int32)), (.int (0 : Int32)), (.int (0 : Int32)), (.int (0 : Int32))] := A79
    refine Go.aload (pc' := 132) W77 d_code_130 rfl rfl rfl ?_
    refine Go.iconst (pc' := 133) W77 (1 : Int32) d_code_132 (by decide) rfl ?_
    refine Go.bipush (pc' := 135) W77 (121 : Int32) d_code_133 (by decide) rfl ?_
    refine Go.iloadN (pc' := 136) W77 d_code_135 rfl rfl ?_
    refine Go.iconst (pc' := 137) W77 (1 : Int32) d_code_136 (by decide) rfl ?_
    refine Go.static (pc' := 140) W77 (rm_f_DR G bits (1 : Int32)) (w_2 G) (w_3 G) (w_4 G) (w_5 G) (by decide) [] [] (σf := [(a71, c78)]) rfl rfl [(.int (121 : Int32)), (.int bits), (.int (1 : Int32))] [(.int (1 : Int32)), (.ref a71)] rfl (lenOf pd_16 rfl) rfl rfl d_code_137 rfl (by first | exact Nat.le_of_ble_eq_true rfl | (simp; done) | (simp; omega) | omega) (by first | exact Nat.le_of_ble_eq_true rfl | (simp; done) | (simp; omega) | omega) (by first | exact Nat.le_of_ble_eq_true rfl | (simp; done) | (simp; omega) | omega) (by first | exact Nat.le_of_ble_eq_true rfl | (simp; done) | (simp; omega) | omega) ?_
    rintro _ _ _ T80 ⟨rfl, rfl, rfl⟩ W81
    replace W81 : Wk l Z EL1 ({ frames := 8, cells := 24, slots := 3200, locals := 192 } : Room) "com/example/hermit_crab/hermitcrab/DialectOfPinLaw" code 5 (some .boolean) "law" X [(a71, c78)] [] T80 1 (5) := W81
    show Go Z EL1 _ _ _ X T80 140 #[.val (.int which), .val (.int bits), .val (.int (1 : Int32)), .unset, .val (.ref a71)] [(.int (pickF bits (1 : Int32) (121 : Int32) (89 : Int32))), (.int (1 : Int32)), (.ref a71)]
    refine Go.castore (pc' := 141) W81 0 rfl A79 1 (pickF bits (1 : Int32) (121 : Int32) (89 : Int32)) (nar_char_id (lat_char (pickF_lat (by decide) (by decide)))) (by decide) (by decide) (by simp) d_code_140 rfl (fun T82 c84 W83 A85 => ?_)
    replace W83 : Wk l Z EL1 ({ frames := 8, cells := 24, slots := 3200, locals := 192 } : Room) "com/example/hermit_crab/hermitcrab/DialectOfPinLaw" code 5 (some .boolean) "law" X [(a71, c84)] [] T82 1 (5) := W83
    replace A85 : ArrC Z c84 .char [(.int (pickF bits (0 : Int32) (77 : Int32) (109 : Int32))), (.int (pickF bits (1 : Int32) (121 : Int32) (89 : Int32))), (.int (0 : Int32)), (.int (0 : Int32)), (.int (0 : Int32))] := A85
    refine Go.aload (pc' := 143) W83 d_code_141 rfl rfl rfl ?_
    refine Go.iconst (pc' := 144) W83 (2 : Int32) d_code_143 (by decide) rfl ?_
    refine Go.bipush (pc' := 146) W83 (83 : Int32) d_code_144 (by decide) rfl ?_
    refine Go.iloadN (pc' := 147) W83 d_code_146 rfl rfl ?_
    refine Go.iconst (pc' := 148) W83 (2 : Int32) d_code_147 (by decide) rfl ?_
    refine Go.static (pc' := 151) W83 (rm_f_CF G bits (2 : Int32)) (w_2 G) (w_3 G) (w_4 G) (w_5 G) (by decide) [] [] (σf := [(a71, c84)]) rfl rfl [(.int (83 : Int32)), (.int bits), (.int (2 : Int32))] [(.int (2 : Int32)), (.ref a71)] rfl (lenOf pd_16 rfl) rfl rfl d_code_148 rfl (by first | exact Nat.le_of_ble_eq_true rfl | (simp; done) | (simp; omega) | omega) (by first | exact Nat.le_of_ble_eq_true rfl | (simp; done) | (simp; omega) | omega) (by first | exact Nat.le_of_ble_eq_true rfl | (simp; done) | (simp; omega) | omega) (by first | exact Nat.le_of_ble_eq_true rfl | (simp; done) | (simp; omega) | omega) ?_
    rintro _ _ _ T86 ⟨rfl, rfl, rfl⟩ W87
    replace W87 : Wk l Z EL1 ({ frames := 8, cells := 24, slots := 3200, locals := 192 } : Room) "com/example/hermit_crab/hermitcrab/DialectOfPinLaw" code 5 (some .boolean) "law" X [(a71, c84)] [] T86 1 (5) := W87
    show Go Z EL1 _ _ _ X T86 151 #[.val (.int which), .val (.int bits), .val (.int (1 : Int32)), .unset, .val (.ref a71)] [(.int (pickF bits (2 : Int32) (83 : Int32) (115 : Int32))), (.int (2 : Int32)), (.ref a71)]
    refine Go.castore (pc' := 152) W87 0 rfl A85 2 (pickF bits (2 : Int32) (83 : Int32) (115 : Int32)) (nar_char_id (lat_char (pickF_lat (by decide) (by decide)))) (by decide) (by decide) (by simp) d_code_151 rfl (fun T88 c90 W89 A91 => ?_)
    replace W89 : Wk l Z EL1 ({ frames := 8, cells := 24, slots := 3200, locals := 192 } : Room) "com/example/hermit_crab/hermitcrab/DialectOfPinLaw" code 5 (some .boolean) "law" X [(a71, c90)] [] T88 1 (5) := W89
    replace A91 : ArrC Z c90 .char [(.int (pickF bits (0 : Int32) (77 : Int32) (109 : Int32))), (.int (pickF bits (1 : Int32) (121 : Int32) (89 : Int32))), (.int (pickF bits (2 : Int32) (83 : Int32) (115 : Int32))), (.int (0 : Int32)), (.int (0 : Int32))] := A91
    refine Go.aload (pc' := 154) W89 d_code_152 rfl rfl rfl ?_
    refine Go.iconst (pc' := 155) W89 (3 : Int32) d_code_154 (by decide) rfl ?_
    refine Go.bipush (pc' := 157) W89 (81 : Int32) d_code_155 (by decide) rfl ?_
    refine Go.iloadN (pc' := 158) W89 d_code_157 rfl rfl ?_
    refine Go.iconst (pc' := 159) W89 (3 : Int32) d_code_158 (by decide) rfl ?_
    refine Go.static (pc' := 162) W89 (rm_f_CD G bits (3 : Int32)) (w_2 G) (w_3 G) (w_4 G) (w_5 G) (by decide) [] [] (σf := [(a71, c90)]) rfl rfl [(.int (81 : Int32)), (.int bits), (.int (3 : Int32))] [(.int (3 : Int32)), (.ref a71)] rfl (lenOf pd_16 rfl) rfl rfl d_code_159 rfl (by first | exact Nat.le_of_ble_eq_true rfl | (simp; done) | (simp; omega) | omega) (by first | exact Nat.le_of_ble_eq_true rfl | (simp; done) | (simp; omega) | omega) (by first | exact Nat.le_of_ble_eq_true rfl | (simp; done) | (simp; omega) | omega) (by first | exact Nat.le_of_ble_eq_true rfl | (simp; done) | (simp; omega) | omega) ?_
    rintro _ _ _ T92 ⟨rfl, rfl, rfl⟩ W93
    replace W93 : Wk l Z EL1 ({ frames := 8, cells := 24, slots := 3200, locals := 192 } : Room) "com/example/hermit_crab/hermitcrab/DialectOfPinLaw" code 5 (some .boolean) "law" X [(a71, c90)] [] T92 1 (5) := W93
    show Go Z EL1 _ _ _ X T92 162 #[.val (.int which), .val (.int bits), .val (.int (1 : Int32)), .unset, .val (.ref a71)] [(.int (pickF bits (3 : Int32) (81 : Int32) (113 : Int32))), (.int (3 : Int32)), (.ref a71)]
    refine Go.castore (pc' := 163) W93 0 rfl A91 3 (pickF bits (3 : Int32) (81 : Int32) (113 : Int32)) (nar_char_id (lat_char (pickF_lat (by decide) (by decide)))) (by decide) (by decide) (by simp) d_code_162 rfl (fun T94 c96 W95 A97 => ?_)
    replace W95 : Wk l Z EL1 ({ frames := 8, cells := 24, slots := 3200, locals := 192 } : Room) "com/example/hermit_crab/hermitcrab/DialectOfPinLaw" code 5 (some .boolean) "law" X [(a71, c96)] [] T94 1 (5) := W95
    replace A97 : ArrC Z c96 .char [(.int (pickF bits (0 : Int32) (77 : Int32) (109 : Int32))), (.int (pickF bits (1 : Int32) (121 : Int32) (89 : Int32))), (.int (pickF bits (2 : Int32) (83 : Int32) (115 : Int32))), (.int (pickF bits (3 : Int32) (81 : Int32) (113 : Int32))), (.int (0 : Int32))] := A97
    refine Go.aload (pc' := 165) W95 d_code_163 rfl rfl rfl ?_
    refine Go.iconst (pc' := 166) W95 (4 : Int32) d_code_165 (by decide) rfl ?_
    refine Go.bipush (pc' := 168) W95 (76 : Int32) d_code_166 (by decide) rfl ?_
    refine Go.iloadN (pc' := 169) W95 d_code_168 rfl rfl ?_
    refine Go.iconst (pc' := 170) W95 (4 : Int32) d_code_169 (by decide) rfl ?_
    refine Go.static (pc' := 173) W95 (rm_f_BY G bits (4 : Int32)) (w_2 G) (w_3 G) (w_4 G) (w_5 G) (by decide) [] [] (σf := [(a71, c96)]) rfl rfl [(.int (76 : Int32)), (.int bits), (.int (4 : Int32))] [(.int (4 : Int32)), (.ref a71)] rfl (lenOf pd_16 rfl) rfl rfl d_code_170 rfl (by first | exact Nat.le_of_ble_eq_true rfl | (simp; done) | (simp; omega) | omega) (by first | exact Nat.le_of_ble_eq_true rfl | (simp; done) | (simp; omega) | omega) (by first | exact Nat.le_of_ble_eq_true rfl | (simp; done) | (simp; omega) | omega) (by first | exact Nat.le_of_ble_eq_true rfl | (simp; done) | (simp; omega) | omega) ?_
    rintro _ _ _ T98 ⟨rfl, rfl, rfl⟩ W99
    replace W99 : Wk l Z EL1 ({ frames := 8, cells := 24, slots := 3200, locals := 192 } : Room) "com/example/hermit_crab/hermitcrab/DialectOfPinLaw" code 5 (some .boolean) "law" X [(a71, c96)] [] T98 1 (5) := W99
    show Go Z EL1 _ _ _ X T98 173 #[.val (.int which), .val (.int bits), .val (.int (1 : Int32)), .unset, .val (.ref a71)] [(.int (pickF bits (4 : Int32) (76 : Int32) (108 : Int32))), (.int (4 : Int32)), (.ref a71)]
    refine Go.castore (pc' := 174) W99 0 rfl A97 4 (pickF bits (4 : Int32) (76 : Int32) (108 : Int32)) (nar_char_id (lat_char (pickF_lat (by decide) (by decide)))) (by decide) (by decide) (by simp) d_code_173 rfl (fun T100 c102 W101 A103 => ?_)
    replace W101 : Wk l Z EL1 ({ frames := 8, cells := 24, slots := 3200, locals := 192 } : Room) "com/example/hermit_crab/hermitcrab/DialectOfPinLaw" code 5 (some .boolean) "law" X [(a71, c102)] [] T100 1 (5) := W101
    replace A103 : ArrC Z c102 .char [(.int (pickF bits (0 : Int32) (77 : Int32) (109 : Int32))), (.int (pickF bits (1 : Int32) (121 : Int32) (89 : Int32))), (.int (pickF bits (2 : Int32) (83 : Int32) (115 : Int32))), (.int (pickF bits (3 : Int32) (81 : Int32) (113 : Int32))), (.int (pickF bits (4 : Int32) (76 : Int32) (108 : Int32)))] := A103
    refine Go.new (pc' := 177) W101 (w_6 G) (w_7 G) (w_8 G) d_code_174 rfl (by first | exact Nat.le_of_ble_eq_true rfl | (simp; done) | (simp; omega) | omega) (by first | exact Nat.le_of_ble_eq_true rfl | (simp; done) | (simp; omega) | omega) (fun T104 a106 c107 W105 O108 D109 => ?_)
    replace W105 : Wk l Z EL1 ({ frames := 8, cells := 24, slots := 3200, locals := 192 } : Room) "com/example/hermit_crab/hermitcrab/DialectOfPinLaw" code 5 (some .boolean) "law" X [(a106, c107), (a71, c102)] [] T104 2 (9) := W105
    have F110 : FldC Z c107 "java/lang/String" "coder" "B" (.int (0 : Int32)) := D109 (Or.inr (w_32 G)) (ty := .byte) (by decide)
    have F111 : FldC Z c107 "java/lang/String" "value" "[B" (.null) := D109 (Or.inr (w_34 G)) (ty := (.array .byte)) (by decide)
    refine Go.dup (pc' := 178) W105 d_code_177 rfl rfl ?_
    refine Go.aload (pc' := 180) W105 d_code_178 rfl rfl rfl ?_
    refine Go.special (pc' := 183) W105 (a := a106) (rm_initC G a106 a71 c107 c102 [pickF bits (0 : Int32) (77 : Int32) (109 : Int32), pickF bits (1 : Int32) (121 : Int32) (89 : Int32), pickF bits (2 : Int32) (83 : Int32) (115 : Int32), pickF bits (3 : Int32) (81 : Int32) (113 : Int32), pickF bits (4 : Int32) (76 : Int32) (108 : Int32)] A103 O108 F110 F111 (Lat.cons (pickF_lat (by decide) (by decide)) (Lat.cons (pickF_lat (by decide) (by decide)) (Lat.cons (pickF_lat (by decide) (by decide)) (Lat.cons (pickF_lat (by decide) (by decide)) (Lat.cons (pickF_lat (by decide) (by decide)) Lat.nil))))) (by simp) (show ¬ (5 : Nat).toInt32 = 0 by decide)) rfl (w_9 G) (w_10 G) (w_8 G) (w_11 G) (by decide) [0, 0] [] (σf := []) rfl rfl [(.ref a71)] [(.ref a106)] rfl (lenOf pd_17 rfl) rfl rfl d_code_180 rfl (by first | exact Nat.le_of_ble_eq_true rfl | (simp; done) | (simp; omega) | omega) (by first | exact Nat.le_of_ble_eq_true rfl | (simp; done) | (simp; omega) | omega) (by first | exact Nat.le_of_ble_eq_true rfl | (simp; done) | (simp; omega) | omega) (by first | exact Nat.le_of_ble_eq_true rfl | (simp; done) | (simp; omega) | omega) ?_
    rintro _ _ _ T116 ⟨c112, b113, c114, rfl, rfl, rfl, S115⟩ W117
    replace W117 : Wk l Z EL1 ({ frames := 8, cells := 24, slots := 3200, locals := 192 } : Room) "com/example/hermit_crab/hermitcrab/DialectOfPinLaw" code 5 (some .boolean) "law" X [(a71, c102)] [(a106, c112), (b113, c114)] T116 3 (14) := W117
    show Go Z EL1 _ _ _ X T116 183 #[.val (.int which), .val (.int bits), .val (.int (1 : Int32)), .unset, .val (.ref a71)] [(.ref a106)]
    refine Go.astoreN (pc' := 184) W117 #[.val (.int which), .val (.int bits), .val (.int (1 : Int32)), .val (.ref a106), .val (.ref a71)] d_code_183 rfl rfl rfl ?_
    refine Go.goto W117 321 d_code_184 (by decide) ?_
    refine Go.iloadN (pc' := 322) W117 d_code_321 rfl rfl ?_
    refine Go.iconst (pc' := 323) W117 (2 : Int32) d_code_322 (by decide) rfl ?_
    refine Go.icmp_ne (pc' := 326) W117 332 d_code_323 (by decide) rfl (fun _ => ?_) (fun q => absurd q (by decide))
    refine Go.getstatic (pc' := 335) W117 (w_35 G) Via.refl stA d_code_332 rfl (fun T118 W119 => ?_)
    refine Go.astore (pc' := 337) W119 #[.val (.int which), .val (.int bits), .val (.int (1 : Int32)), .val (.ref a106), .val (.ref adA)] d_code_335 rfl rfl rfl ?_
    refine Go.aloadN (pc' := 338) W119 d_code_337 rfl rfl rfl ?_
    refine Go.static (pc' := 341) W119 (rm_of_MySQL G adA adB ceA ceB hzA obA hzB obB stA stB bits a106 b113 c112 c114 S115) (w_38 G) (w_39 G) (w_36 G) (w_40 G) (by decide) [] [0, 1] (σf := [(a71, c102)]) rfl rfl [(.ref a106)] [] rfl (lenOf pd_18 rfl) rfl rfl d_code_338 rfl (by first | exact Nat.le_of_ble_eq_true rfl | (simp; done) | (simp; omega) | omega) (by first | exact Nat.le_of_ble_eq_true rfl | (simp; done) | (simp; omega) | omega) (by first | exact Nat.le_of_ble_eq_true rfl | (simp; done) | (simp; omega) | omega) (by first | exact Nat.le_of_ble_eq_true rfl | (simp; done) | (simp; omega) | omega) ?_
    rintro _ _ _ T120 ⟨rfl, rfl, rfl⟩ W121
    replace W121 : Wk l Z EL1 ({ frames := 8, cells := 24, slots := 3200, locals := 192 } : Room) "com/example/hermit_crab/hermitcrab/DialectOfPinLaw" code 5 (some .boolean) "law" X [(a71, c102)] [(a106, c112), (b113, c114)] T120 9 (114) := W121
    show Go Z EL1 _ _ _ X T120 341 #[.val (.int which), .val (.int bits), .val (.int (1 : Int32)), .val (.ref a106), .val (.ref adA)] [(.ref adA)]
    refine Go.aload (pc' := 343) W121 d_code_341 rfl rfl rfl ?_
    refine Go.acmp_ne (pc' := 346) W121 350 rfl rfl d_code_343 (by decide) rfl (fun hq => absurd rfl hq) (fun _ => ?_)
    refine Go.iconst (pc' := 347) W121 (1 : Int32) d_code_346 (by decide) rfl ?_
    refine Go.goto W121 351 d_code_347 (by decide) ?_
    refine Go.nret (z' := (1 : Int32)) W121 (by simp) (by decide) d_code_351 (by first | exact Nat.le_of_ble_eq_true rfl | (simp; done) | (simp; omega) | omega) (by first | exact Nat.le_of_ble_eq_true rfl | (simp; done) | (simp; omega) | omega) ?_
    rfl
  · refine Go.istoreN (pc' := 7) W0 #[.val (.int which), .val (.int bits), .val (.int (2 : Int32)), .unset, .unset] d_code_6 rfl rfl ?_
    refine Go.iloadN (pc' := 8) W0 d_code_7 rfl rfl ?_
    refine Go.if_ne (pc' := 11) W0 109 d_code_8 (by decide) rfl (fun _ => ?_) (fun q => absurd q (by decide))
    refine Go.iloadN (pc' := 110) W0 d_code_109 rfl rfl ?_
    refine Go.iconst (pc' := 111) W0 (1 : Int32) d_code_110 (by decide) rfl ?_
    refine Go.icmp_ne (pc' := 114) W0 187 d_code_111 (by decide) rfl (fun _ => ?_) (fun q => absurd q (by decide))
    refine Go.bipush (pc' := 189) W0 (10 : Int32) d_code_187 (by decide) rfl ?_
    refine Go.newarr (pc' := 191) W0 .char rfl 10 (w_1 G) d_code_189 rfl (by decide) (by decide) (by decide) (by first | exact Nat.le_of_ble_eq_true rfl | (simp; done) | (simp; omega) | omega) (by first | exact Nat.le_of_ble_eq_true rfl | (simp; done) | (simp; omega) | omega) (fun T122 a124 c125 W123 A126 => ?_)
    replace W123 : Wk l Z EL1 ({ frames := 8, cells := 24, slots := 3200, locals := 192 } : Room) "com/example/hermit_crab/hermitcrab/DialectOfPinLaw" code 5 (some .boolean) "law" X [(a124, c125)] [] T122 1 (10) := W123
    replace A126 : ArrC Z c125 .char [(.int (0 : Int32)), (.int (0 : Int32)), (.int (0 : Int32)), (.int (0 : Int32)), (.int (0 : Int32)), (.int (0 : Int32)), (.int (0 : Int32)), (.int (0 : Int32)), (.int (0 : Int32)), (.int (0 : Int32))] := A126
    refine Go.astore (pc' := 193) W123 #[.val (.int which), .val (.int bits), .val (.int (2 : Int32)), .unset, .val (.ref a124)] d_code_191 rfl rfl rfl ?_
    refine Go.aload (pc' := 195) W123 d_code_193 rfl rfl rfl ?_
    refine Go.iconst (pc' := 196) W123 (0 : Int32) d_code_195 (by decide) rfl ?_
    refine Go.bipush (pc' := 198) W123 (80 : Int32) d_code_196 (by decide) rfl ?_
    refine Go.iloadN (pc' := 199) W123 d_code_198 rfl rfl ?_
    refine Go.iconst (pc' := 200) W123 (0 : Int32) d_code_199 (by decide) rfl ?_
    refine Go.static (pc' := 203) W123 (rm_f_CC G bits (0 : Int32)) (w_2 G) (w_3 G) (w_4 G) (w_5 G) (by decide) [] [] (σf := [(a124, c125)]) rfl rfl [(.int (80 : Int32)), (.int bits), (.int (0 : Int32))] [(.int (0 : Int32)), (.ref a124)] rfl (lenOf pd_16 rfl) rfl rfl d_code_200 rfl (by first | exact Nat.le_of_ble_eq_true rfl | (simp; done) | (simp; omega) | omega) (by first | exact Nat.le_of_ble_eq_true rfl | (simp; done) | (simp; omega) | omega) (by first | exact Nat.le_of_ble_eq_true rfl | (simp; done) | (simp; omega) | omega) (by first | exact Nat.le_of_ble_eq_true rfl | (simp; done) | (simp; omega) | omega) ?_
    rintro _ _ _ T127 ⟨rfl, rfl, rfl⟩ W128
    replace W128 : Wk l Z EL1 ({ frames := 8, cells := 24, slots := 3200, locals := 192 } : Room) "com/example/hermit_crab/hermitcrab/DialectOfPinLaw" code 5 (some .boolean) "law" X [(a124, c125)] [] T127 1 (10) := W128
    show Go Z EL1 _ _ _ X T127 203 #[.val (.int which), .val (.int bits), .val (.int (2 : Int32)), .unset, .val (.ref a124)] [(.int (pickF bits (0 : Int32) (80 : Int32) (112 : Int32))), (.int (0 : Int32)), (.ref a124)]
    refine Go.castore (pc' := 204) W128 0 rfl A126 0 (pickF bits (0 : Int32) (80 : Int32) (112 : Int32)) (nar_char_id (lat_char (pickF_lat (by decide) (by decide)))) (by decide) (by decide) (by simp) d_code_203 rfl (fun T129 c131 W130 A132 => ?_)
    replace W130 : Wk l Z EL1 ({ frames := 8, cells := 24, slots := 3200, locals := 192 } : Room) "com/example/hermit_crab/hermitcrab/DialectOfPinLaw" code 5 (some .boolean) "law" X [(a124, c131)] [] T129 1 (10) := W130
    replace A132 : ArrC Z c131 .char [(.int (pickF bits (0 : Int32) (80 : Int32) (112 : Int32))), (.int (0 : Int32)), (.int (0 : Int32)), (.int (0 : Int32)), (.int (0 : Int32)), (.int (0 : Int32)), (.int (0 : Int32)), (.int (0 : Int32)), (.int (0 : Int32)), (.int (0 : Int32))] := A132
    refine Go.aload (pc' := 206) W130 d_code_204 rfl rfl rfl ?_
    refine Go.iconst (pc' := 207) W130 (1 : Int32) d_code_206 (by decide) rfl ?_
    refine Go.bipush (pc' := 209) W130 (111 : Int32) d_code_207 (by decide) rfl ?_
    refine Go.iloadN (pc' := 210) W130 d_code_209 rfl rfl ?_
    refine Go.iconst (pc' := 211) W130 (1 : Int32) d_code_210 (by decide) rfl ?_
    refine Go.static (pc' := 214) W130 (rm_f_DH G bits (1 : Int32)) (w_2 G) (w_3 G) (w_4 G) (w_5 G) (by decide) [] [] (σf := [(a124, c131)]) rfl rfl [(.int (111 : Int32)), (.int bits), (.int (1 : Int32))] [(.int (1 : Int32)), (.ref a124)] rfl (lenOf pd_16 rfl) rfl rfl d_code_211 rfl (by first | exact Nat.le_of_ble_eq_true rfl | (simp; done) | (simp; omega) | omega) (by first | exact Nat.le_of_ble_eq_true rfl | (simp; done) | (simp; omega) | omega) (by first | exact Nat.le_of_ble_eq_true rfl | (simp; done) | (simp; omega) | omega) (by first | exact Nat.le_of_ble_eq_true rfl | (simp; done) | (simp; omega) | omega) ?_
    rintro _ _ _ T133 ⟨rfl, rfl, rfl⟩ W134
    replace W134 : Wk l Z EL1 ({ frames := 8, cells := 24, slots := 3200, locals := 192 } : Room) "com/example/hermit_crab/hermitcrab/DialectOfPinLaw" code 5 (some .boolean) "law" X [(a124, c131)] [] T133 1 (10) := W134
    show Go Z EL1 _ _ _ X T133 214 #[.val (.int which), .val (.int bits), .val (.int (2 : Int32)), .unset, .val (.ref a124)] [(.int (pickF bits (1 : Int32) (111 : Int32) (79 : Int32))), (.int (1 : Int32)), (.ref a124)]
    refine Go.castore (pc' := 215) W134 0 rfl A132 1 (pickF bits (1 : Int32) (111 : Int32) (79 : Int32)) (nar_char_id (lat_char (pickF_lat (by decide) (by decide)))) (by decide) (by decide) (by simp) d_code_214 rfl (fun T135 c137 W136 A138 => ?_)
    replace W136 : Wk l Z EL1 ({ frames := 8, cells := 24, slots := 3200, locals := 192 } : Room) "com/example/hermit_crab/hermitcrab/DialectOfPinLaw" code 5 (some .boolean) "law" X [(a124, c137)] [] T135 1 (10) := W136
    replace A138 : ArrC Z c137 .char [(.int (pickF bits (0 : Int32) (80 : Int32) (112 : Int32))), (.int (pickF bits (1 : Int32) (111 : Int32) (79 : Int32))), (.int (0 : Int32)), (.int (0 : Int32)), (.int (0 : Int32)), (.int (0 : Int32)), (.int (0 : Int32)), (.int (0 : Int32)), (.int (0 : Int32)), (.int (0 : Int32))] := A138
    refine Go.aload (pc' := 217) W136 d_code_215 rfl rfl rfl ?_
    refine Go.iconst (pc' := 218) W136 (2 : Int32) d_code_217 (by decide) rfl ?_
    refine Go.bipush (pc' := 220) W136 (115 : Int32) d_code_218 (by decide) rfl ?_
    refine Go.iloadN (pc' := 221) W136 d_code_220 rfl rfl ?_
    refine Go.iconst (pc' := 222) W136 (2 : Int32) d_code_221 (by decide) rfl ?_
    refine Go.static (pc' := 225) W136 (rm_f_DL G bits (2 : Int32)) (w_2 G) (w_3 G) (w_4 G) (w_5 G) (by decide) [] [] (σf := [(a124, c137)]) rfl rfl [(.int (115 : Int32)), (.int bits), (.int (2 : Int32))] [(.int (2 : Int32)), (.ref a124)] rfl (lenOf pd_16 rfl) rfl rfl d_code_222 rfl (by first | exact Nat.le_of_ble_eq_true rfl | (simp; done) | (simp; omega) | omega) (by first | exact Nat.le_of_ble_eq_true rfl | (simp; done) | (simp; omega) | omega) (by first | exact Nat.le_of_ble_eq_true rfl | (simp; done) | (simp; omega) | omega) (by first | exact Nat.le_of_ble_eq_true rfl | (simp; done) | (simp; omega) | omega) ?_
    rintro _ _ _ T139 ⟨rfl, rfl, rfl⟩ W140
    replace W140 : Wk l Z EL1 ({ frames := 8, cells := 24, slots := 3200, locals := 192 } : Room) "com/example/hermit_crab/hermitcrab/DialectOfPinLaw" code 5 (some .boolean) "law" X [(a124, c137)] [] T139 1 (10) := W140
    show Go Z EL1 _ _ _ X T139 225 #[.val (.int which), .val (.int bits), .val (.int (2 : Int32)), .unset, .val (.ref a124)] [(.int (pickF bits (2 : Int32) (115 : Int32) (83 : Int32))), (.int (2 : Int32)), (.ref a124)]
    refine Go.castore (pc' := 226) W140 0 rfl A138 2 (pickF bits (2 : Int32) (115 : Int32) (83 : Int32)) (nar_char_id (lat_char (pickF_lat (by decide) (by decide)))) (by decide) (by decide) (by simp) d_code_225 rfl (fun T141 c143 W142 A144 => ?_)
    replace W142 : Wk l Z EL1 ({ frames := 8, cells := 24, slots := 3200, locals := 192 } : Room) "com/example/hermit_crab/hermitcrab/DialectOfPinLaw" code 5 (some .boolean) "law" X [(a124, c143)] [] T141 1 (10) := W142
    replace A144 : ArrC Z c143 .char [(.int (pickF bits (0 : Int32) (80 : Int32) (112 : Int32))), (.int (pickF bits (1 : Int32) (111 : Int32) (79 : Int32))), (.int (pickF bits (2 : Int32) (115 : Int32) (83 : Int32))), (.int (0 : Int32)), (.int (0 : Int32)), (.int (0 : Int32)), (.int (0 : Int32)), (.int (0 : Int32)), (.int (0 : Int32)), (.int (0 : Int32))] := A144
    refine Go.aload (pc' := 228) W142 d_code_226 rfl rfl rfl ?_
    refine Go.iconst (pc' := 229) W142 (3 : Int32) d_code_228 (by decide) rfl ?_
    refine Go.bipush (pc' := 231) W142 (116 : Int32) d_code_229 (by decide) rfl ?_
    refine Go.iloadN (pc' := 232) W142 d_code_231 rfl rfl ?_
    refine Go.iconst (pc' := 233) W142 (3 : Int32) d_code_232 (by decide) rfl ?_
    refine Go.static (pc' := 236) W142 (rm_f_DM G bits (3 : Int32)) (w_2 G) (w_3 G) (w_4 G) (w_5 G) (by decide) [] [] (σf := [(a124, c143)]) rfl rfl [(.int (116 : Int32)), (.int bits), (.int (3 : Int32))] [(.int (3 : Int32)), (.ref a124)] rfl (lenOf pd_16 rfl) rfl rfl d_code_233 rfl (by first | exact Nat.le_of_ble_eq_true rfl | (simp; done) | (simp; omega) | omega) (by first | exact Nat.le_of_ble_eq_true rfl | (simp; done) | (simp; omega) | omega) (by first | exact Nat.le_of_ble_eq_true rfl | (simp; done) | (simp; omega) | omega) (by first | exact Nat.le_of_ble_eq_true rfl | (simp; done) | (simp; omega) | omega) ?_
    rintro _ _ _ T145 ⟨rfl, rfl, rfl⟩ W146
    replace W146 : Wk l Z EL1 ({ frames := 8, cells := 24, slots := 3200, locals := 192 } : Room) "com/example/hermit_crab/hermitcrab/DialectOfPinLaw" code 5 (some .boolean) "law" X [(a124, c143)] [] T145 1 (10) := W146
    show Go Z EL1 _ _ _ X T145 236 #[.val (.int which), .val (.int bits), .val (.int (2 : Int32)), .unset, .val (.ref a124)] [(.int (pickF bits (3 : Int32) (116 : Int32) (84 : Int32))), (.int (3 : Int32)), (.ref a124)]
    refine Go.castore (pc' := 237) W146 0 rfl A144 3 (pickF bits (3 : Int32) (116 : Int32) (84 : Int32)) (nar_char_id (lat_char (pickF_lat (by decide) (by decide)))) (by decide) (by decide) (by simp) d_code_236 rfl (fun T147 c149 W148 A150 => ?_)
    replace W148 : Wk l Z EL1 ({ frames := 8, cells := 24, slots := 3200, locals := 192 } : Room) "com/example/hermit_crab/hermitcrab/DialectOfPinLaw" code 5 (some .boolean) "law" X [(a124, c149)] [] T147 1 (10) := W148
    replace A150 : ArrC Z c149 .char [(.int (pickF bits (0 : Int32) (80 : Int32) (112 : Int32))), (.int (pickF bits (1 : Int32) (111 : Int32) (79 : Int32))), (.int (pickF bits (2 : Int32) (115 : Int32) (83 : Int32))), (.int (pickF bits (3 : Int32) (116 : Int32) (84 : Int32))), (.int (0 : Int32)), (.int (0 : Int32)), (.int (0 : Int32)), (.int (0 : Int32)), (.int (0 : Int32)), (.int (0 : Int32))] := A150
    refine Go.aload (pc' := 239) W148 d_code_237 rfl rfl rfl ?_
    refine Go.iconst (pc' := 240) W148 (4 : Int32) d_code_239 (by decide) rfl ?_
    refine Go.bipush (pc' := 242) W148 (103 : Int32) d_code_240 (by decide) rfl ?_
    refine Go.iloadN (pc' := 243) W148 d_code_242 rfl rfl ?_
    refine Go.iconst (pc' := 244) W148 (4 : Int32) d_code_243 (by decide) rfl ?_
    refine Go.static (pc' := 247) W148 (rm_f_CZ G bits (4 : Int32)) (w_2 G) (w_3 G) (w_4 G) (w_5 G) (by decide) [] [] (σf := [(a124, c149)]) rfl rfl [(.int (103 : Int32)), (.int bits), (.int (4 : Int32))] [(.int (4 : Int32)), (.ref a124)] rfl (lenOf pd_16 rfl) rfl rfl d_code_244 rfl (by first | exact Nat.le_of_ble_eq_true rfl | (simp; done) | (simp; omega) | omega) (by first | exact Nat.le_of_ble_eq_true rfl | (simp; done) | (simp; omega) | omega) (by first | exact Nat.le_of_ble_eq_true rfl | (simp; done) | (simp; omega) | omega) (by first | exact Nat.le_of_ble_eq_true rfl | (simp; done) | (simp; omega) | omega) ?_
    rintro _ _ _ T151 ⟨rfl, rfl, rfl⟩ W152
    replace W152 : Wk l Z EL1 ({ frames := 8, cells := 24, slots := 3200, locals := 192 } : Room) "com/example/hermit_crab/hermitcrab/DialectOfPinLaw" code 5 (some .boolean) "law" X [(a124, c149)] [] T151 1 (10) := W152
    show Go Z EL1 _ _ _ X T151 247 #[.val (.int which), .val (.int bits), .val (.int (2 : Int32)), .unset, .val (.ref a124)] [(.int (pickF bits (4 : Int32) (103 : Int32) (71 : Int32))), (.int (4 : Int32)), (.ref a124)]
    refine Go.castore (pc' := 248) W152 0 rfl A150 4 (pickF bits (4 : Int32) (103 : Int32) (71 : Int32)) (nar_char_id (lat_char (pickF_lat (by decide) (by decide)))) (by decide) (by decide) (by simp) d_code_247 rfl (fun T153 c155 W154 A156 => ?_)
    replace W154 : Wk l Z EL1 ({ frames := 8, cells := 24, slots := 3200, locals := 192 } : Room) "com/example/hermit_crab/hermitcrab/DialectOfPinLaw" code 5 (some .boolean) "law" X [(a124, c155)] [] T153 1 (10) := W154
    replace A156 : ArrC Z c155 .char [(.int (pickF bits (0 : Int32) (80 : Int32) (112 : Int32))), (.int (pickF bits (1 : Int32) (111 : Int32) (79 : Int32))), (.int (pickF bits (2 : Int32) (115 : Int32) (83 : Int32))), (.int (pickF bits (3 : Int32) (116 : Int32) (84 : Int32))), (.int (pickF bits (4 : Int32) (103 : Int32) (71 : Int32))), (.int (0 : Int32)), (.int (0 : Int32)), (.int (0 : Int32)), (.int (0 : Int32)), (.int (0 : Int32))] := A156
    refine Go.aload (pc' := 250) W154 d_code_248 rfl rfl rfl ?_
    refine Go.iconst (pc' := 251) W154 (5 : Int32) d_code_250 (by decide) rfl ?_
    refine Go.bipush (pc' := 253) W154 (114 : Int32) d_code_251 (by decide) rfl ?_
    refine Go.iloadN (pc' := 254) W154 d_code_253 rfl rfl ?_
    refine Go.iconst (pc' := 255) W154 (5 : Int32) d_code_254 (by decide) rfl ?_
    refine Go.static (pc' := 258) W154 (rm_f_DK G bits (5 : Int32)) (w_2 G) (w_3 G) (w_4 G) (w_5 G) (by decide) [] [] (σf := [(a124, c155)]) rfl rfl [(.int (114 : Int32)), (.int bits), (.int (5 : Int32))] [(.int (5 : Int32)), (.ref a124)] rfl (lenOf pd_16 rfl) rfl rfl d_code_255 rfl (by first | exact Nat.le_of_ble_eq_true rfl | (simp; done) | (simp; omega) | omega) (by first | exact Nat.le_of_ble_eq_true rfl | (simp; done) | (simp; omega) | omega) (by first | exact Nat.le_of_ble_eq_true rfl | (simp; done) | (simp; omega) | omega) (by first | exact Nat.le_of_ble_eq_true rfl | (simp; done) | (simp; omega) | omega) ?_
    rintro _ _ _ T157 ⟨rfl, rfl, rfl⟩ W158
    replace W158 : Wk l Z EL1 ({ frames := 8, cells := 24, slots := 3200, locals := 192 } : Room) "com/example/hermit_crab/hermitcrab/DialectOfPinLaw" code 5 (some .boolean) "law" X [(a124, c155)] [] T157 1 (10) := W158
    show Go Z EL1 _ _ _ X T157 258 #[.val (.int which), .val (.int bits), .val (.int (2 : Int32)), .unset, .val (.ref a124)] [(.int (pickF bits (5 : Int32) (114 : Int32) (82 : Int32))), (.int (5 : Int32)), (.ref a124)]
    refine Go.castore (pc' := 259) W158 0 rfl A156 5 (pickF bits (5 : Int32) (114 : Int32) (82 : Int32)) (nar_char_id (lat_char (pickF_lat (by decide) (by decide)))) (by decide) (by decide) (by simp) d_code_258 rfl (fun T159 c161 W160 A162 => ?_)
    replace W160 : Wk l Z EL1 ({ frames := 8, cells := 24, slots := 3200, locals := 192 } : Room) "com/example/hermit_crab/hermitcrab/DialectOfPinLaw" code 5 (some .boolean) "law" X [(a124, c161)] [] T159 1 (10) := W160
    replace A162 : ArrC Z c161 .char [(.int (pickF bits (0 : Int32) (80 : Int32) (112 : Int32))), (.int (pickF bits (1 : Int32) (111 : Int32) (79 : Int32))), (.int (pickF bits (2 : Int32) (115 : Int32) (83 : Int32))), (.int (pickF bits (3 : Int32) (116 : Int32) (84 : Int32))), (.int (pickF bits (4 : Int32) (103 : Int32) (71 : Int32))), (.int (pickF bits (5 : Int32) (114 : Int32) (82 : Int32))), (.int (0 : Int32)), (.int (0 : Int32)), (.int (0 : Int32)), (.int (0 : Int32))] := A162
    refine Go.aload (pc' := 261) W160 d_code_259 rfl rfl rfl ?_
    refine Go.bipush (pc' := 263) W160 (6 : Int32) d_code_261 (by decide) rfl ?_
    refine Go.bipush (pc' := 265) W160 (101 : Int32) d_code_263 (by decide) rfl ?_
    refine Go.iloadN (pc' := 266) W160 d_code_265 rfl rfl ?_
    refine Go.bipush (pc' := 268) W160 (6 : Int32) d_code_266 (by decide) rfl ?_
    refine Go.static (pc' := 271) W160 (rm_f_CX G bits (6 : Int32)) (w_2 G) (w_3 G) (w_4 G) (w_5 G) (by decide) [] [] (σf := [(a124, c161)]) rfl rfl [(.int (101 : Int32)), (.int bits), (.int (6 : Int32))] [(.int (6 : Int32)), (.ref a124)] rfl (lenOf pd_16 rfl) rfl rfl d_code_268 rfl (by first | exact Nat.le_of_ble_eq_true rfl | (simp; done) | (simp; omega) | omega) (by first | exact Nat.le_of_ble_eq_true rfl | (simp; done) | (simp; omega) | omega) (by first | exact Nat.le_of_ble_eq_true rfl | (simp; done) | (simp; omega) | omega) (by first | exact Nat.le_of_ble_eq_true rfl | (simp; done) | (simp; omega) | omega) ?_
    rintro _ _ _ T163 ⟨rfl, rfl, rfl⟩ W164
    replace W164 : Wk l Z EL1 ({ frames := 8, cells := 24, slots := 3200, locals := 192 } : Room) "com/example/hermit_crab/hermitcrab/DialectOfPinLaw" code 5 (some .boolean) "law" X [(a124, c161)] [] T163 1 (10) := W164
    show Go Z EL1 _ _ _ X T163 271 #[.val (.int which), .val (.int bits), .val (.int (2 : Int32)), .unset, .val (.ref a124)] [(.int (pickF bits (6 : Int32) (101 : Int32) (69 : Int32))), (.int (6 : Int32)), (.ref a124)]
    refine Go.castore (pc' := 272) W164 0 rfl A162 6 (pickF bits (6 : Int32) (101 : Int32) (69 : Int32)) (nar_char_id (lat_char (pickF_lat (by decide) (by decide)))) (by decide) (by decide) (by simp) d_code_271 rfl (fun T165 c167 W166 A168 => ?_)
    replace W166 : Wk l Z EL1 ({ frames := 8, cells := 24, slots := 3200, locals := 192 } : Room) "com/example/hermit_crab/hermitcrab/DialectOfPinLaw" code 5 (some .boolean) "law" X [(a124, c167)] [] T165 1 (10) := W166
    replace A168 : ArrC Z c167 .char [(.int (pickF bits (0 : Int32) (80 : Int32) (112 : Int32))), (.int (pickF bits (1 : Int32) (111 : Int32) (79 : Int32))), (.int (pickF bits (2 : Int32) (115 : Int32) (83 : Int32))), (.int (pickF bits (3 : Int32) (116 : Int32) (84 : Int32))), (.int (pickF bits (4 : Int32) (103 : Int32) (71 : Int32))), (.int (pickF bits (5 : Int32) (114 : Int32) (82 : Int32))), (.int (pickF bits (6 : Int32) (101 : Int32) (69 : Int32))), (.int (0 : Int32)), (.int (0 : Int32)), (.int (0 : Int32))] := A168
    refine Go.aload (pc' := 274) W166 d_code_272 rfl rfl rfl ?_
    refine Go.bipush (pc' := 276) W166 (7 : Int32) d_code_274 (by decide) rfl ?_
    refine Go.bipush (pc' := 278) W166 (83 : Int32) d_code_276 (by decide) rfl ?_
    refine Go.iloadN (pc' := 279) W166 d_code_278 rfl rfl ?_
    refine Go.bipush (pc' := 281) W166 (7 : Int32) d_code_279 (by decide) rfl ?_
    refine Go.static (pc' := 284) W166 (rm_f_CF G bits (7 : Int32)) (w_2 G) (w_3 G) (w_4 G) (w_5 G) (by decide) [] [] (σf := [(a124, c167)]) rfl rfl [(.int (83 : Int32)), (.int bits), (.int (7 : Int32))] [(.int (7 : Int32)), (.ref a124)] rfl (lenOf pd_16 rfl) rfl rfl d_code_281 rfl (by first | exact Nat.le_of_ble_eq_true rfl | (simp; done) | (simp; omega) | omega) (by first | exact Nat.le_of_ble_eq_true rfl | (simp; done) | (simp; omega) | omega) (by first | exact Nat.le_of_ble_eq_true rfl | (simp; done) | (simp; omega) | omega) (by first | exact Nat.le_of_ble_eq_true rfl | (simp; done) | (simp; omega) | omega) ?_
    rintro _ _ _ T169 ⟨rfl, rfl, rfl⟩ W170
    replace W170 : Wk l Z EL1 ({ frames := 8, cells := 24, slots := 3200, locals := 192 } : Room) "com/example/hermit_crab/hermitcrab/DialectOfPinLaw" code 5 (some .boolean) "law" X [(a124, c167)] [] T169 1 (10) := W170
    show Go Z EL1 _ _ _ X T169 284 #[.val (.int which), .val (.int bits), .val (.int (2 : Int32)), .unset, .val (.ref a124)] [(.int (pickF bits (7 : Int32) (83 : Int32) (115 : Int32))), (.int (7 : Int32)), (.ref a124)]
    refine Go.castore (pc' := 285) W170 0 rfl A168 7 (pickF bits (7 : Int32) (83 : Int32) (115 : Int32)) (nar_char_id (lat_char (pickF_lat (by decide) (by decide)))) (by decide) (by decide) (by simp) d_code_284 rfl (fun T171 c173 W172 A174 => ?_)
    replace W172 : Wk l Z EL1 ({ frames := 8, cells := 24, slots := 3200, locals := 192 } : Room) "com/example/hermit_crab/hermitcrab/DialectOfPinLaw" code 5 (some .boolean) "law" X [(a124, c173)] [] T171 1 (10) := W172
    replace A174 : ArrC Z c173 .char [(.int (pickF bits (0 : Int32) (80 : Int32) (112 : Int32))), (.int (pickF bits (1 : Int32) (111 : Int32) (79 : Int32))), (.int (pickF bits (2 : Int32) (115 : Int32) (83 : Int32))), (.int (pickF bits (3 : Int32) (116 : Int32) (84 : Int32))), (.int (pickF bits (4 : Int32) (103 : Int32) (71 : Int32))), (.int (pickF bits (5 : Int32) (114 : Int32) (82 : Int32))), (.int (pickF bits (6 : Int32) (101 : Int32) (69 : Int32))), (.int (pickF bits (7 : Int32) (83 : Int32) (115 : Int32))), (.int (0 : Int32)), (.int (0 : Int32))] := A174
    refine Go.aload (pc' := 287) W172 d_code_285 rfl rfl rfl ?_
    refine Go.bipush (pc' := 289) W172 (8 : Int32) d_code_287 (by decide) rfl ?_
    refine Go.bipush (pc' := 291) W172 (81 : Int32) d_code_289 (by decide) rfl ?_
    refine Go.iloadN (pc' := 292) W172 d_code_291 rfl rfl ?_
    refine Go.bipush (pc' := 294) W172 (8 : Int32) d_code_292 (by decide) rfl ?_
    refine Go.static (pc' := 297) W172 (rm_f_CD G bits (8 : Int32)) (w_2 G) (w_3 G) (w_4 G) (w_5 G) (by decide) [] [] (σf := [(a124, c173)]) rfl rfl [(.int (81 : Int32)), (.int bits), (.int (8 : Int32))] [(.int (8 : Int32)), (.ref a124)] rfl (lenOf pd_16 rfl) rfl rfl d_code_294 rfl (by first | exact Nat.le_of_ble_eq_true rfl | (simp; done) | (simp; omega) | omega) (by first | exact Nat.le_of_ble_eq_true rfl | (simp; done) | (simp; omega) | omega) (by first | exact Nat.le_of_ble_eq_true rfl | (simp; done) | (simp; omega) | omega) (by first | exact Nat.le_of_ble_eq_true rfl | (simp; done) | (simp; omega) | omega) ?_
    rintro _ _ _ T175 ⟨rfl, rfl, rfl⟩ W176
    replace W176 : Wk l Z EL1 ({ frames := 8, cells := 24, slots := 3200, locals := 192 } : Room) "com/example/hermit_crab/hermitcrab/DialectOfPinLaw" code 5 (some .boolean) "law" X [(a124, c173)] [] T175 1 (10) := W176
    show Go Z EL1 _ _ _ X T175 297 #[.val (.int which), .val (.int bits), .val (.int (2 : Int32)), .unset, .val (.ref a124)] [(.int (pickF bits (8 : Int32) (81 : Int32) (113 : Int32))), (.int (8 : Int32)), (.ref a124)]
    refine Go.castore (pc' := 298) W176 0 rfl A174 8 (pickF bits (8 : Int32) (81 : Int32) (113 : Int32)) (nar_char_id (lat_char (pickF_lat (by decide) (by decide)))) (by decide) (by decide) (by simp) d_code_297 rfl (fun T177 c179 W178 A180 => ?_)
    replace W178 : Wk l Z EL1 ({ frames := 8, cells := 24, slots := 3200, locals := 192 } : Room) "com/example/hermit_crab/hermitcrab/DialectOfPinLaw" code 5 (some .boolean) "law" X [(a124, c179)] [] T177 1 (10) := W178
    replace A180 : ArrC Z c179 .char [(.int (pickF bits (0 : Int32) (80 : Int32) (112 : Int32))), (.int (pickF bits (1 : Int32) (111 : Int32) (79 : Int32))), (.int (pickF bits (2 : Int32) (115 : Int32) (83 : Int32))), (.int (pickF bits (3 : Int32) (116 : Int32) (84 : Int32))), (.int (pickF bits (4 : Int32) (103 : Int32) (71 : Int32))), (.int (pickF bits (5 : Int32) (114 : Int32) (82 : Int32))), (.int (pickF bits (6 : Int32) (101 : Int32) (69 : Int32))), (.int (pickF bits (7 : Int32) (83 : Int32) (115 : Int32))), (.int (pickF bits (8 : Int32) (81 : Int32) (113 : Int32))), (.int (0 : Int32))] := A180
    refine Go.aload (pc' := 300) W178 d_code_298 rfl rfl rfl ?_
    refine Go.bipush (pc' := 302) W178 (9 : Int32) d_code_300 (by decide) rfl ?_
    refine Go.bipush (pc' := 304) W178 (76 : Int32) d_code_302 (by decide) rfl ?_
    refine Go.iloadN (pc' := 305) W178 d_code_304 rfl rfl ?_
    refine Go.bipush (pc' := 307) W178 (9 : Int32) d_code_305 (by decide) rfl ?_
    refine Go.static (pc' := 310) W178 (rm_f_BY G bits (9 : Int32)) (w_2 G) (w_3 G) (w_4 G) (w_5 G) (by decide) [] [] (σf := [(a124, c179)]) rfl rfl [(.int (76 : Int32)), (.int bits), (.int (9 : Int32))] [(.int (9 : Int32)), (.ref a124)] rfl (lenOf pd_16 rfl) rfl rfl d_code_307 rfl (by first | exact Nat.le_of_ble_eq_true rfl | (simp; done) | (simp; omega) | omega) (by first | exact Nat.le_of_ble_eq_true rfl | (simp; done) | (simp; omega) | omega) (by first | exact Nat.le_of_ble_eq_true rfl | (simp; done) | (simp; omega) | omega) (by first | exact Nat.le_of_ble_eq_true rfl | (simp; done) | (simp; omega) | omega) ?_
    rintro _ _ _ T181 ⟨rfl, rfl, rfl⟩ W182
    replace W182 : Wk l Z EL1 ({ frames := 8, cells := 24, slots := 3200, locals := 192 } : Room) "com/example/hermit_crab/hermitcrab/DialectOfPinLaw" code 5 (some .boolean) "law" X [(a124, c179)] [] T181 1 (10) := W182
    show Go Z EL1 _ _ _ X T181 310 #[.val (.int which), .val (.int bits), .val (.int (2 : Int32)), .unset, .val (.ref a124)] [(.int (pickF bits (9 : Int32) (76 : Int32) (108 : Int32))), (.int (9 : Int32)), (.ref a124)]
    refine Go.castore (pc' := 311) W182 0 rfl A180 9 (pickF bits (9 : Int32) (76 : Int32) (108 : Int32)) (nar_char_id (lat_char (pickF_lat (by decide) (by decide)))) (by decide) (by decide) (by simp) d_code_310 rfl (fun T183 c185 W184 A186 => ?_)
    replace W184 : Wk l Z EL1 ({ frames := 8, cells := 24, slots := 3200, locals := 192 } : Room) "com/example/hermit_crab/hermitcrab/DialectOfPinLaw" code 5 (some .boolean) "law" X [(a124, c185)] [] T183 1 (10) := W184
    replace A186 : ArrC Z c185 .char [(.int (pickF bits (0 : Int32) (80 : Int32) (112 : Int32))), (.int (pickF bits (1 : Int32) (111 : Int32) (79 : Int32))), (.int (pickF bits (2 : Int32) (115 : Int32) (83 : Int32))), (.int (pickF bits (3 : Int32) (116 : Int32) (84 : Int32))), (.int (pickF bits (4 : Int32) (103 : Int32) (71 : Int32))), (.int (pickF bits (5 : Int32) (114 : Int32) (82 : Int32))), (.int (pickF bits (6 : Int32) (101 : Int32) (69 : Int32))), (.int (pickF bits (7 : Int32) (83 : Int32) (115 : Int32))), (.int (pickF bits (8 : Int32) (81 : Int32) (113 : Int32))), (.int (pickF bits (9 : Int32) (76 : Int32) (108 : Int32)))] := A186
    refine Go.new (pc' := 314) W184 (w_6 G) (w_7 G) (w_8 G) d_code_311 rfl (by first | exact Nat.le_of_ble_eq_true rfl | (simp; done) | (simp; omega) | omega) (by first | exact Nat.le_of_ble_eq_true rfl | (simp; done) | (simp; omega) | omega) (fun T187 a189 c190 W188 O191 D192 => ?_)
    replace W188 : Wk l Z EL1 ({ frames := 8, cells := 24, slots := 3200, locals := 192 } : Room) "com/example/hermit_crab/hermitcrab/DialectOfPinLaw" code 5 (some .boolean) "law" X [(a189, c190), (a124, c185)] [] T187 2 (14) := W188
    have F193 : FldC Z c190 "java/lang/String" "coder" "B" (.int (0 : Int32)) := D192 (Or.inr (w_32 G)) (ty := .byte) (by decide)
    have F194 : FldC Z c190 "java/lang/String" "value" "[B" (.null) := D192 (Or.inr (w_34 G)) (ty := (.array .byte)) (by decide)
    refine Go.dup (pc' := 315) W188 d_code_314 rfl rfl ?_
    refine Go.aload (pc' := 317) W188 d_code_315 rfl rfl rfl ?_
    refine Go.special (pc' := 320) W188 (a := a189) (rm_initC G a189 a124 c190 c185 [pickF bits (0 : Int32) (80 : Int32) (112 : Int32), pickF bits (1 : Int32) (111 : Int32) (79 : Int32), pickF bits (2 : Int32) (115 : Int32) (83 : Int32), pickF bits (3 : Int32) (116 : Int32) (84 : Int32), pickF bits (4 : Int32) (103 : Int32) (71 : Int32), pickF bits (5 : Int32) (114 : Int32) (82 : Int32), pickF bits (6 : Int32) (101 : Int32) (69 : Int32), pickF bits (7 : Int32) (83 : Int32) (115 : Int32), pickF bits (8 : Int32) (81 : Int32) (113 : Int32), pickF bits (9 : Int32) (76 : Int32) (108 : Int32)] A186 O191 F193 F194 (Lat.cons (pickF_lat (by decide) (by decide)) (Lat.cons (pickF_lat (by decide) (by decide)) (Lat.cons (pickF_lat (by decide) (by decide)) (Lat.cons (pickF_lat (by decide) (by decide)) (Lat.cons (pickF_lat (by decide) (by decide)) (Lat.cons (pickF_lat (by decide) (by decide)) (Lat.cons (pickF_lat (by decide) (by decide)) (Lat.cons (pickF_lat (by decide) (by decide)) (Lat.cons (pickF_lat (by decide) (by decide)) (Lat.cons (pickF_lat (by decide) (by decide)) Lat.nil)))))))))) (by simp) (show ¬ (10 : Nat).toInt32 = 0 by decide)) rfl (w_9 G) (w_10 G) (w_8 G) (w_11 G) (by decide) [0, 0] [] (σf := []) rfl rfl [(.ref a124)] [(.ref a189)] rfl (lenOf pd_17 rfl) rfl rfl d_code_317 rfl (by first | exact Nat.le_of_ble_eq_true rfl | (simp; done) | (simp; omega) | omega) (by first | exact Nat.le_of_ble_eq_true rfl | (simp; done) | (simp; omega) | omega) (by first | exact Nat.le_of_ble_eq_true rfl | (simp; done) | (simp; omega) | omega) (by first | exact Nat.le_of_ble_eq_true rfl | (simp; done) | (simp; omega) | omega) ?_
    rintro _ _ _ T199 ⟨c195, b196, c197, rfl, rfl, rfl, S198⟩ W200
    replace W200 : Wk l Z EL1 ({ frames := 8, cells := 24, slots := 3200, locals := 192 } : Room) "com/example/hermit_crab/hermitcrab/DialectOfPinLaw" code 5 (some .boolean) "law" X [(a124, c185)] [(a189, c195), (b196, c197)] T199 3 (24) := W200
    show Go Z EL1 _ _ _ X T199 320 #[.val (.int which), .val (.int bits), .val (.int (2 : Int32)), .unset, .val (.ref a124)] [(.ref a189)]
    refine Go.astoreN (pc' := 321) W200 #[.val (.int which), .val (.int bits), .val (.int (2 : Int32)), .val (.ref a189), .val (.ref a124)] d_code_320 rfl rfl rfl ?_
    refine Go.iloadN (pc' := 322) W200 d_code_321 rfl rfl ?_
    refine Go.iconst (pc' := 323) W200 (2 : Int32) d_code_322 (by decide) rfl ?_
    refine Go.icmp_ne (pc' := 326) W200 332 d_code_323 (by decide) rfl (fun q => absurd (by decide) q) (fun _ => ?_)
    refine Go.getstatic (pc' := 329) W200 (w_73 G) Via.refl stB d_code_326 rfl (fun T201 W202 => ?_)
    refine Go.goto W202 335 d_code_329 (by decide) ?_
    refine Go.astore (pc' := 337) W202 #[.val (.int which), .val (.int bits), .val (.int (2 : Int32)), .val (.ref a189), .val (.ref adB)] d_code_335 rfl rfl rfl ?_
    refine Go.aloadN (pc' := 338) W202 d_code_337 rfl rfl rfl ?_
    refine Go.static (pc' := 341) W202 (rm_of_PostgreSQL G adA adB ceA ceB hzA obA hzB obB stA stB bits a189 b196 c195 c197 S198) (w_38 G) (w_39 G) (w_36 G) (w_40 G) (by decide) [] [0, 1] (σf := [(a124, c185)]) rfl rfl [(.ref a189)] [] rfl (lenOf pd_18 rfl) rfl rfl d_code_338 rfl (by first | exact Nat.le_of_ble_eq_true rfl | (simp; done) | (simp; omega) | omega) (by first | exact Nat.le_of_ble_eq_true rfl | (simp; done) | (simp; omega) | omega) (by first | exact Nat.le_of_ble_eq_true rfl | (simp; done) | (simp; omega) | omega) (by first | exact Nat.le_of_ble_eq_true rfl | (simp; done) | (simp; omega) | omega) ?_
    rintro _ _ _ T203 ⟨rfl, rfl, rfl⟩ W204
    replace W204 : Wk l Z EL1 ({ frames := 8, cells := 24, slots := 3200, locals := 192 } : Room) "com/example/hermit_crab/hermitcrab/DialectOfPinLaw" code 5 (some .boolean) "law" X [(a124, c185)] [(a189, c195), (b196, c197)] T203 9 (124) := W204
    show Go Z EL1 _ _ _ X T203 341 #[.val (.int which), .val (.int bits), .val (.int (2 : Int32)), .val (.ref a189), .val (.ref adB)] [(.ref adB)]
    refine Go.aload (pc' := 343) W204 d_code_341 rfl rfl rfl ?_
    refine Go.acmp_ne (pc' := 346) W204 350 rfl rfl d_code_343 (by decide) rfl (fun hq => absurd rfl hq) (fun _ => ?_)
    refine Go.iconst (pc' := 347) W204 (1 : Int32) d_code_346 (by decide) rfl ?_
    refine Go.goto W204 351 d_code_347 (by decide) ?_
    refine Go.nret (z' := (1 : Int32)) W204 (by simp) (by decide) d_code_351 (by first | exact Nat.le_of_ble_eq_true rfl | (simp; done) | (simp; omega) | omega) (by first | exact Nat.le_of_ble_eq_true rfl | (simp; done) | (simp; omega) | omega) ?_
    rfl
set_option maxRecDepth 65536 in
set_option maxHeartbeats 40000000 in
theorem comes_1 {Post : Tables → Env → Array Value → State → Outcome → State → Prop} (hpost : ∀ tb e args s v u, (limb_1_1.after args s (.returned v) u = true ∧ limb_1_2.after args s (.returned v) u = true ∧ True) → ReturnedEndW s (.returned v) u (Jvm.fieldLocs frame_1_writes args s ++ Jvm.arrayLocs frame_1_arrays args s ++ Jvm.staticLocs frame_1_statics s) 24 3200 → Post tb e args s (.returned v) u) :
    ArmFor flags0 classFile x code maxLocals ret World_1 tables_1 room_1 Calls_1 rest_1 Pre_1 Post := by
  intro l hfl _ _ p e ha hc hk s m args below hf hA hF happ hP
  obtain ⟨hcalls, hrest, hpre⟩ := hP
  obtain ⟨-, -, -, hnamed, -, -, -, hat⟩ := (Spec.applies_iff hf).mp happ
  obtain ⟨hg, hn⟩ := and_e (Cond.before_iff.mp (show (Jvm.Cond.and given_1 narrow_1).before args s = true from hpre))
  obtain ⟨g0, h0⟩ := and_e hg
  obtain ⟨g1, h1⟩ := and_e h0
  have g2 := h1
  obtain ⟨w0, w1, rfl⟩ : ∃ w0 w1 : Value, args = #[w0, w1] := by
    have hs : args.size = 2 := by simpa [Cond.value, given_1] using g0
    obtain ⟨L⟩ := args
    match L, hs with
    | [w0, w1], _ => exact ⟨w0, w1, rfl⟩
  have hw := fun d (hd : d ∈ tables_1) => atoms_spec (ws := Jvm.Cond.code x code maxLocals ret :: tables_1) hat d (List.mem_cons_of_mem _ hd)
  obtain ⟨hsets, hown0⟩ := atoms_of _ (rest_1_c_eq ▸ (show rest_1_c.before _ s = true from hrest))
  have hfit : Fit s := fun {y c} hc i hi => by
    obtain ⟨ha, rfl⟩ := Array.getElem?_eq_some_iff.mp hc
    have q := List.all_eq_true.mp ((Array.all_eq_true_iff_forall_mem.mp hF) _ (Array.getElem_mem ha)) i (List.mem_range.mpr hi)
    simpa [Array.getElem?_eq_getElem hi] using q
  obtain ⟨i0, e0⟩ := is_v g1
  obtain rfl : w0 = (.int i0) := Option.some.inj e0
  obtain ⟨i1, e1⟩ := is_v g2
  obtain rfl : w1 = (.int i1) := Option.some.inj e1
  have n5 := not_v (Cond.before_iff.mp (hsets _ (List.mem_of_getElem? (i := 2) rfl)))
  obtain ⟨icv, ecv⟩ := is_v (Cond.before_iff.mp (hsets _ (List.mem_of_getElem? (i := 1) rfl)))
  have Scv : Sta s s.heap "java/lang/String" "COMPACT_STRINGS" "Z" (.int icv) := Sta.start ecv (Or.inl (hsets _ (List.mem_of_getElem? (i := 0) rfl)))
  have ccv : ¬ (icv = (0 : Int32)) := gotF (Cond.eq_ints ecv (Term.int_eval (0))) n5
  have hEL : EW s _ EL1 := (EW.cons (text := "MariaDB") (hw _ (List.mem_of_getElem? (l := tables_1) (i := 41) rfl)) (by decide +kernel) (EW.cons (text := "MySQL") (hw _ (List.mem_of_getElem? (l := tables_1) (i := 75) rfl)) (by decide +kernel) (EW.cons (text := "PostgreSQL") (hw _ (List.mem_of_getElem? (l := tables_1) (i := 76) rfl)) (by decide +kernel) EW.nil)))
  obtain ⟨moA, nxA⟩ := and_e hn
  have moB := nxA
  obtain ⟨adA, ceA, evA, hzA, obA⟩ := objC_start moA
  obtain ⟨adB, ceB, evB, hzB, obB⟩ := objC_start moB
  have stA : Sta s s.heap "com/example/hermit_crab/hermitcrab/JdbcLockStore$Dialect" "MARIADB" "Lcom/example/hermit_crab/hermitcrab/JdbcLockStore$Dialect;" (.ref adA) := Sta.start evA (Or.inr ⟨hw _ (List.mem_of_getElem? (l := tables_1) (i := 36) rfl), hw _ (List.mem_of_getElem? (l := tables_1) (i := 37) rfl)⟩)
  have stB : Sta s s.heap "com/example/hermit_crab/hermitcrab/JdbcLockStore$Dialect" "POSTGRESQL" "Lcom/example/hermit_crab/hermitcrab/JdbcLockStore$Dialect;" (.ref adB) := Sta.start evB (Or.inr ⟨hw _ (List.mem_of_getElem? (l := tables_1) (i := 36) rfl), hw _ (List.mem_of_getElem? (l := tables_1) (i := 74) rfl)⟩)
  obtain ⟨vfm, efm, rfm⟩ := isR_v (Cond.before_iff.mp (hsets _ (List.mem_of_getElem? (i := 8) rfl)))
  have Sfm : Sta s s.heap "jdk/internal/util/Preconditions" "SIOOBE_FORMATTER" "Ljava/util/function/BiFunction;" vfm := Sta.start efm (Or.inl (hsets _ (List.mem_of_getElem? (i := 7) rfl)))
  have G : Cl s _ := ⟨hw, hEL, ⟨icv, Scv, ccv⟩, ⟨vfm, Sfm, rfm⟩, trivial⟩
  have hCH : CHv s EL1 s.vm s.heap := CHv.start hEL (fun p hp => hcalls.1 p hp) (hsets _ (List.mem_of_getElem? (i := 2) rfl)) (w_24 G) (w_7 G)
  have H0 : Hp s EL1 [] [] s [] [] s.vm s.heap := ⟨CHr.refl hCH, (fun _ q => nomatch q), (fun _ q => nomatch q), List.nodup_nil, (fun _ q => nomatch q), (fun _ q => nomatch q), (fun _ _ q _ => q), Nat.le_refl _, fun _ _ q => q⟩
  have happ' : (head1 [Jvm.Cond.code x code maxLocals ret] room_1).appliesLoose x e.platform s = true := by
    obtain ⟨q1, q2, q3, q4, q5, q6, q7, q8⟩ := (Spec.appliesLoose_iff hf).mp ((Spec.applies_iff_loose hf).mp happ).1
    refine (Spec.appliesLoose_iff hf).mpr ⟨q1, q2, q3, q4, q5, q6, q7, ?_⟩
    show (Jvm.Cond.and _ .tt).before _ s = true
    rw [Cond.before_and, atoms_spec (ws := Jvm.Cond.code x code maxLocals ret :: tables_1) hat _ (List.mem_cons_self ..)]; rfl
  obtain ⟨n, o, h1, h2, h3, v, σ, ρ, L, rfl, rfl, N, -, hq⟩ := rm_law G i0 i1 adA adB ceA ceB hzA obA hzB obB stA stB p e ha hc hk s m _ below hf happ' ⟨rfl, State.Warmed39.refl s, H0⟩ trivial
  refine ⟨n, _, h1, h2, h3, hpost _ _ _ _ _ _ ⟨Cond.after_iff.mpr rfl, Cond.after_iff.mpr (eq_i res_at (Term.int_eval (1)) rfl), trivial⟩ ⟨hq.1, hq.2.1, hq.2.2.1, (hq.2.2.2.sift fun y hy => Or.inr (N y hy)).mono (by decide) (by decide)⟩⟩
theorem main_1_1 : Claimed_1_1 := comes_1 fun _ _ _ _ _ _ h hF => ⟨h.1, hF⟩
theorem main_1_2 : Claimed_1_2 := comes_1 fun _ _ _ _ _ _ h hF => ⟨h.2.1, hF⟩
end Jvm.Pilot.@@N@@
namespace Jvm.Pilot.@@N@@
open Jvm Jvm.ClassFile Sem Op Lib Jvm.Free Jvm.Stand Jvm.Pilot.@@N@@.Jvm.D
/-! MADE BY PROGRAM (witnessworld.py) out of the Statement's table words and the real class files: 25 classes; the members and pool entries that the words name. The judged class is class 1, her method 2. -/
namespace start1
open Jvm.ClassFile
def u (s : String) : CpInfo := .utf8 (stringToUtf16 s)
/-- a pool by its gaps: so many unusable entries, then the entry; so many at the end -/
def gap : Nat → List CpInfo → List CpInfo
  | 0, r => r
  | n + 1, r => .unusable :: gap n r
def poolList (es : List (Nat × CpInfo)) (last : Nat) : List CpInfo := es.foldr (fun e r => gap e.1 (e.2 :: r)) (gap last [])
def pool (es : List (Nat × CpInfo)) (last : Nat) : Array CpInfo := ⟨poolList es last⟩
def fileOf (pool : Array CpInfo) (this : Nat) (attrs : Array Attribute := #[]) (ms : Array MethodInfo := #[]) (fl : Nat := 33) (sup : Nat := 0) (ifs : Array Nat := #[]) (fds : Array FieldInfo := #[]) : ClassFile where
  minorVersion := 0
  majorVersion := 65
  constantPool := pool
  accessFlags := fl
  thisClass := this
  superClass := sup
  interfaces := ifs
  fields := fds
  methods := ms
  attributes := attrs
def plain (name : String) (sup : Option ClassId) : Class where
  name := name
  kind := .ordinary
  loader := none
  accessFlags := 33
  super := sup
  interfaces := #[]
  cf := none
  fields := #[]
  methods := #[]
  instanceTypes := #[]
  staticTypes := #[]
  resolved := #[]
  callSites := []
  init := .initialized
  statics := none
  mirror := none

def pool0 : Array CpInfo := pool [(5, u "<init>"), (0, u "()V"), (1, .class_ 10), (1, u "java/lang/Object")] 113

def k0c0 : Code := { maxStack := 0, maxLocals := 1, code := object_method_1_code, exceptionTable := #[], attributes := #[] }
def k0m0 : Method := { name := "<init>", desc := "()V", sig := { parameters := [], returnType := none }, accessFlags := 1, code := some k0c0 }
/-- java/lang/Object -/
def k0 : Class := { plain "java/lang/Object" none with
  accessFlags := 33
  interfaces := #[]
  cf := some (fileOf pool0 8 #[] #[{ accessFlags := 1, nameIndex := 5, descriptorIndex := 6, attributes := #[] }] 33 0 #[] #[])
  fields := #[]
  methods := #[k0m0]
  instanceTypes := #[]
  staticTypes := #[]
  resolved := Array.replicate 124 none
  statics := none }

def pool1 : Array CpInfo := pool [(2, .class_ 4), (1, u "java/lang/Object"), (0, u "<init>"), (0, u "()V"), (0, .integer 2147483647), (0, .methodref 9 10), (0, .class_ 11), (0, .nameAndType 12 13), (0, u "com/example/hermit_crab/hermitcrab/DialectOfPinLaw"), (0, u "f"), (0, u "(CII)C"), (0, .class_ 15), (0, u "java/lang/String"), (0, .methodref 14 17), (0, .nameAndType 5 18), (0, u "([C)V"), (0, .fieldref 20 21), (0, .class_ 22), (0, .nameAndType 23 24), (0, u "com/example/hermit_crab/hermitcrab/JdbcLockStore$Dialect"), (0, u "POSTGRESQL"), (0, u "Lcom/example/hermit_crab/hermitcrab/JdbcLockStore$Dialect;"), (0, .fieldref 20 26), (0, .nameAndType 27 24), (0, u "MARIADB"), (0, .methodref 20 29), (0, .nameAndType 30 31), (0, u "of"), (0, u "(Ljava/lang/String;)Lcom/example/hermit_crab/hermitcrab/JdbcLockStore$Dialect;"), (3, u "law"), (0, u "(II)Z")] 6

def k1m0 : Method := { name := "<init>", desc := "()V", sig := { parameters := [], returnType := none }, accessFlags := 2, code := none }
def k1c1 : Code := { maxStack := 2, maxLocals := 3, code := method_2_code, exceptionTable := #[], attributes := #[] }
def k1m1 : Method := { name := "f", desc := "(CII)C", sig := { parameters := [.char, .int, .int], returnType := some .char }, accessFlags := 10, code := some k1c1 }
def k1c2 : Code := { maxStack := 5, maxLocals := 5, code := code, exceptionTable := #[], attributes := #[] }
def k1m2 : Method := { name := "law", desc := "(II)Z", sig := { parameters := [.int, .int], returnType := some .boolean }, accessFlags := 9, code := some k1c2 }
/-- com/example/hermit_crab/hermitcrab/DialectOfPinLaw -/
def k1 : Class := { plain "com/example/hermit_crab/hermitcrab/DialectOfPinLaw" (some 0) with
  accessFlags := 49
  interfaces := #[]
  cf := some (fileOf pool1 9 #[] #[{ accessFlags := 2, nameIndex := 5, descriptorIndex := 6, attributes := #[] }, { accessFlags := 10, nameIndex := 12, descriptorIndex := 13, attributes := #[] }, { accessFlags := 9, nameIndex := 35, descriptorIndex := 36, attributes := #[] }] 49 2 #[] #[])
  fields := #[]
  methods := #[k1m0, k1m1, k1m2]
  instanceTypes := #[]
  staticTypes := #[]
  resolved := Array.replicate 43 none
  statics := none }

def pool2 : Array CpInfo := pool [(1, .class_ 2), (0, u "java/io/Serializable"), (0, .class_ 4), (0, u "java/lang/Object")] 2

/-- java/io/Serializable -/
def k2 : Class := { plain "java/io/Serializable" (some 0) with
  accessFlags := 1537
  interfaces := #[]
  cf := some (fileOf pool2 1 #[] #[] 1537 3 #[] #[])
  fields := #[]
  methods := #[]
  instanceTypes := #[]
  staticTypes := #[]
  resolved := Array.replicate 7 none
  statics := none }

def pool3 : Array CpInfo := pool [(1, .class_ 2), (0, u "java/lang/Comparable"), (0, .class_ 4), (0, u "java/lang/Object")] 7

/-- java/lang/Comparable -/
def k3 : Class := { plain "java/lang/Comparable" (some 0) with
  accessFlags := 1537
  interfaces := #[]
  cf := some (fileOf pool3 1 #[] #[] 1537 3 #[] #[])
  fields := #[]
  methods := #[]
  instanceTypes := #[]
  staticTypes := #[]
  resolved := Array.replicate 12 none
  statics := none }

def pool4 : Array CpInfo := pool [(2, .class_ 4), (1, u "java/lang/CharSequence"), (42, .class_ 48), (0, u "java/lang/CharSequence$1CodePointIterator"), (10, .class_ 60), (0, u "java/lang/CharSequence$1CharIterator"), (5, .class_ 67), (0, u "java/lang/Object")] 63

/-- java/lang/CharSequence -/
def k4 : Class := { plain "java/lang/CharSequence" (some 0) with
  accessFlags := 1537
  interfaces := #[]
  cf := some (fileOf pool4 2 #[.nestMembers #[47, 59]] #[] 1537 66 #[] #[])
  fields := #[]
  methods := #[]
  instanceTypes := #[]
  staticTypes := #[]
  resolved := Array.replicate 131 none
  statics := none }

def pool5 : Array CpInfo := pool [(1, .class_ 2), (0, u "java/lang/constant/Constable"), (0, .class_ 4), (0, u "java/lang/Object")] 6

/-- java/lang/constant/Constable -/
def k5 : Class := { plain "java/lang/constant/Constable" (some 0) with
  accessFlags := 1537
  interfaces := #[]
  cf := some (fileOf pool5 1 #[] #[] 1537 3 #[] #[])
  fields := #[]
  methods := #[]
  instanceTypes := #[]
  staticTypes := #[]
  resolved := Array.replicate 11 none
  statics := none }

def pool6 : Array CpInfo := pool [(1, .class_ 2), (0, u "java/lang/constant/ConstantDesc"), (0, .class_ 4), (0, u "java/lang/Object")] 32

/-- java/lang/constant/ConstantDesc -/
def k6 : Class := { plain "java/lang/constant/ConstantDesc" (some 0) with
  accessFlags := 1537
  interfaces := #[]
  cf := some (fileOf pool6 1 #[] #[] 1537 3 #[] #[])
  fields := #[]
  methods := #[]
  instanceTypes := #[]
  staticTypes := #[]
  resolved := Array.replicate 37 none
  statics := none }

def pool7 : Array CpInfo := pool [(1, .methodref 2 3), (0, .class_ 4), (0, .nameAndType 5 6), (0, u "java/lang/Object"), (0, u "<init>"), (0, u "()V"), (2, .fieldref 10 11), (0, .class_ 12), (0, .nameAndType 13 14), (0, u "java/lang/String"), (0, u "value"), (0, u "[B"), (0, .fieldref 10 16), (0, .nameAndType 17 18), (0, u "coder"), (0, u "B"), (2, u "hash"), (0, u "I"), (2, u "hashIsZero"), (0, u "Z"), (0, .methodref 10 28), (0, .nameAndType 5 29), (0, u "([CIILjava/lang/Void;)V"), (8, .fieldref 10 39), (0, .nameAndType 40 26), (0, u "COMPACT_STRINGS"), (1, .class_ 44), (1, u "java/lang/StringUTF16"), (0, u "compress"), (1, .methodref 42 48), (0, .nameAndType 49 50), (0, u "coderFromArrayLen"), (0, u "([BI)B"), (56, .class_ 109), (1, u "java/lang/StringLatin1"), (67, .methodref 42 178), (0, .nameAndType 45 179), (0, u "([CII)[B"), (154, u "()I"), (0, .methodref 10 336), (0, .nameAndType 17 337), (0, u "()B"), (167, .methodref 10 506), (0, .nameAndType 507 334), (0, u "length"), (67, .class_ 576), (0, u "java/lang/CharSequence"), (5, .methodref 10 583), (0, .nameAndType 584 585), (0, u "regionMatches"), (0, u "(ZILjava/lang/String;II)Z"), (13, u "CASE_INSENSITIVE_ORDER"), (0, u "Ljava/util/Comparator;"), (12, .methodref 107 614), (0, .nameAndType 615 616), (0, u "regionMatchesCI"), (0, u "([BI[BII)Z"), (393, u "([C)V"), (90, u "serialPersistentFields"), (0, u "[Ljava/io/ObjectStreamField;"), (0, .class_ 1104), (0, u "java/lang/String$CaseInsensitiveComparator"), (1, .class_ 1107), (0, u "java/io/Serializable"), (0, .class_ 1109), (0, u "java/lang/Comparable"), (0, .class_ 1111), (0, u "java/lang/constant/Constable"), (0, .class_ 1113), (0, u "java/lang/constant/ConstantDesc"), (2, u "serialVersionUID"), (0, u "J"), (3, u "REPL"), (0, u "C"), (2, u "LATIN1"), (1, u "UTF16"), (128, u "equalsIgnoreCase"), (0, u "(Ljava/lang/String;)Z")] 193

def k7m0 : Method := { name := "<init>", desc := "()V", sig := { parameters := [], returnType := none }, accessFlags := 1, code := none }
def k7c1 : Code := { maxStack := 5, maxLocals := 2, code := jdk_42_method_3_code, exceptionTable := #[], attributes := #[] }
def k7m1 : Method := { name := "<init>", desc := "([C)V", sig := { parameters := [(.array .char)], returnType := none }, accessFlags := 1, code := some k7c1 }
def k7c2 : Code := { maxStack := 2, maxLocals := 1, code := jdk_42_method_54_code, exceptionTable := #[], attributes := #[] }
def k7m2 : Method := { name := "length", desc := "()I", sig := { parameters := [], returnType := some .int }, accessFlags := 1, code := some k7c2 }
def k7c3 : Code := { maxStack := 6, maxLocals := 2, code := jdk_42_method_70_code, exceptionTable := #[], attributes := #[] }
def k7m3 : Method := { name := "equalsIgnoreCase", desc := "(Ljava/lang/String;)Z", sig := { parameters := [(.object "java/lang/String")], returnType := some .boolean }, accessFlags := 1, code := some k7c3 }
def k7c4 : Code := { maxStack := 6, maxLocals := 9, code := jdk_42_method_74_code, exceptionTable := #[], attributes := #[] }
def k7m4 : Method := { name := "regionMatches", desc := "(ZILjava/lang/String;II)Z", sig := { parameters := [.boolean, .int, (.object "java/lang/String"), .int, .int], returnType := some .boolean }, accessFlags := 1, code := some k7c4 }
def k7c5 : Code := { maxStack := 4, maxLocals := 6, code := jdk_42_method_149_code, exceptionTable := #[], attributes := #[] }
def k7m5 : Method := { name := "<init>", desc := "([CIILjava/lang/Void;)V", sig := { parameters := [(.array .char), .int, .int, (.object "java/lang/Void")], returnType := none }, accessFlags := 2, code := some k7c5 }
def k7c6 : Code := { maxStack := 1, maxLocals := 1, code := jdk_42_method_152_code, exceptionTable := #[], attributes := #[] }
def k7m6 : Method := { name := "coder", desc := "()B", sig := { parameters := [], returnType := some .byte }, accessFlags := 0, code := some k7c6 }
/-- java/lang/String -/
def k7 : Class := { plain "java/lang/String" (some 0) with
  accessFlags := 49
  interfaces := #[2, 3, 4, 5, 6]
  cf := some (fileOf pool7 10 #[.nestMembers #[1103]] #[{ accessFlags := 1, nameIndex := 5, descriptorIndex := 6, attributes := #[] }, { accessFlags := 1, nameIndex := 5, descriptorIndex := 1010, attributes := #[] }, { accessFlags := 1, nameIndex := 507, descriptorIndex := 334, attributes := #[] }, { accessFlags := 1, nameIndex := 1256, descriptorIndex := 1257, attributes := #[] }, { accessFlags := 1, nameIndex := 584, descriptorIndex := 585, attributes := #[] }, { accessFlags := 2, nameIndex := 5, descriptorIndex := 29, attributes := #[] }, { accessFlags := 0, nameIndex := 17, descriptorIndex := 337, attributes := #[] }] 49 2 #[1106, 1108, 575, 1110, 1112] #[{ accessFlags := 18, nameIndex := 13, descriptorIndex := 14, attributes := #[] }, { accessFlags := 18, nameIndex := 17, descriptorIndex := 18, attributes := #[] }, { accessFlags := 2, nameIndex := 21, descriptorIndex := 22, attributes := #[] }, { accessFlags := 2, nameIndex := 25, descriptorIndex := 26, attributes := #[] }, { accessFlags := 26, nameIndex := 1116, descriptorIndex := 1117, attributes := #[] }, { accessFlags := 24, nameIndex := 40, descriptorIndex := 26, attributes := #[] }, { accessFlags := 26, nameIndex := 1101, descriptorIndex := 1102, attributes := #[] }, { accessFlags := 26, nameIndex := 1121, descriptorIndex := 1122, attributes := #[] }, { accessFlags := 25, nameIndex := 599, descriptorIndex := 600, attributes := #[] }, { accessFlags := 24, nameIndex := 1125, descriptorIndex := 18, attributes := #[] }, { accessFlags := 24, nameIndex := 1127, descriptorIndex := 18, attributes := #[] }])
  fields := #[{ name := "value", type := (.array .byte), accessFlags := 18, slot := 0, constantValue := 0 }, { name := "coder", type := .byte, accessFlags := 18, slot := 1, constantValue := 0 }, { name := "hash", type := .int, accessFlags := 2, slot := 2, constantValue := 0 }, { name := "hashIsZero", type := .boolean, accessFlags := 2, slot := 3, constantValue := 0 }, { name := "serialVersionUID", type := .long, accessFlags := 26, slot := 0, constantValue := 0 }, { name := "COMPACT_STRINGS", type := .boolean, accessFlags := 24, slot := 1, constantValue := 0 }, { name := "serialPersistentFields", type := (.array (.object "java/io/ObjectStreamField")), accessFlags := 26, slot := 2, constantValue := 0 }, { name := "REPL", type := .char, accessFlags := 26, slot := 3, constantValue := 0 }, { name := "CASE_INSENSITIVE_ORDER", type := (.object "java/util/Comparator"), accessFlags := 25, slot := 4, constantValue := 0 }, { name := "LATIN1", type := .byte, accessFlags := 24, slot := 5, constantValue := 0 }, { name := "UTF16", type := .byte, accessFlags := 24, slot := 6, constantValue := 0 }]
  methods := #[k7m0, k7m1, k7m2, k7m3, k7m4, k7m5, k7m6]
  instanceTypes := #[(.array .byte), .byte, .int, .boolean]
  staticTypes := #[.long, .boolean, (.array (.object "java/io/ObjectStreamField")), .char, (.object "java/util/Comparator"), .byte, .byte]
  resolved := Array.replicate 1451 none
  statics := some 0 }

def pool8 : Array CpInfo := pool [(6, .class_ 8), (1, u "java/lang/Object"), (0, u "<init>"), (0, u "()V"), (1, .class_ 14), (1, u "java/lang/StringUTF16"), (31, u "$assertionsDisabled"), (0, u "Z"), (13, u "HI_BYTE_SHIFT"), (0, u "I"), (2, u "LO_BYTE_SHIFT"), (49, .methodref 12 116), (0, .nameAndType 117 118), (0, u "compress"), (0, u "([CI[BII)I"), (3, u "([CII)[B"), (138, u "coderFromArrayLen"), (0, u "([BI)B"), (106, .class_ 371), (1, u "java/lang/StringUTF16$LinesSpliterator"), (58, u "MAX_LENGTH"), (196, .class_ 628), (0, u "java/lang/StringUTF16$CodePointsSpliterator"), (0, .class_ 630), (0, u "java/lang/StringUTF16$CharsSpliterator")] 4

def k8m0 : Method := { name := "<init>", desc := "()V", sig := { parameters := [], returnType := none }, accessFlags := 0, code := none }
def k8c1 : Code := { maxStack := 2, maxLocals := 2, code := jdk_52_method_15_code, exceptionTable := #[], attributes := #[] }
def k8m1 : Method := { name := "coderFromArrayLen", desc := "([BI)B", sig := { parameters := [(.array .byte), .int], returnType := some .byte }, accessFlags := 8, code := some k8c1 }
def k8c2 : Code := { maxStack := 5, maxLocals := 6, code := jdk_52_method_16_code, exceptionTable := #[], attributes := #[] }
def k8m2 : Method := { name := "compress", desc := "([CII)[B", sig := { parameters := [(.array .char), .int, .int], returnType := some (.array .byte) }, accessFlags := 9, code := some k8c2 }
def k8c3 : Code := { maxStack := 3, maxLocals := 7, code := jdk_52_method_21_code, exceptionTable := #[], attributes := #[] }
def k8m3 : Method := { name := "compress", desc := "([CI[BII)I", sig := { parameters := [(.array .char), .int, (.array .byte), .int, .int], returnType := some .int }, accessFlags := 9, code := some k8c3 }
/-- java/lang/StringUTF16 -/
def k8 : Class := { plain "java/lang/StringUTF16" (some 0) with
  accessFlags := 48
  interfaces := #[]
  cf := some (fileOf pool8 12 #[.nestMembers #[627, 629, 369]] #[{ accessFlags := 0, nameIndex := 9, descriptorIndex := 10, attributes := #[] }, { accessFlags := 8, nameIndex := 261, descriptorIndex := 262, attributes := #[] }, { accessFlags := 9, nameIndex := 117, descriptorIndex := 122, attributes := #[] }, { accessFlags := 9, nameIndex := 117, descriptorIndex := 118, attributes := #[] }] 48 6 #[] #[{ accessFlags := 26, nameIndex := 61, descriptorIndex := 62, attributes := #[] }, { accessFlags := 26, nameIndex := 65, descriptorIndex := 62, attributes := #[] }, { accessFlags := 24, nameIndex := 430, descriptorIndex := 62, attributes := #[] }, { accessFlags := 4120, nameIndex := 46, descriptorIndex := 47, attributes := #[] }])
  fields := #[{ name := "HI_BYTE_SHIFT", type := .int, accessFlags := 26, slot := 0, constantValue := 0 }, { name := "LO_BYTE_SHIFT", type := .int, accessFlags := 26, slot := 1, constantValue := 0 }, { name := "MAX_LENGTH", type := .int, accessFlags := 24, slot := 2, constantValue := 0 }, { name := "$assertionsDisabled", type := .boolean, accessFlags := 4120, slot := 3, constantValue := 0 }]
  methods := #[k8m0, k8m1, k8m2, k8m3]
  instanceTypes := #[]
  staticTypes := #[.int, .int, .int, .boolean]
  resolved := Array.replicate 635 none
  statics := none }

def pool9 : Array CpInfo := pool [(2, .class_ 4), (1, u "java/lang/Enum"), (0, u "name"), (0, u "Ljava/lang/String;"), (2, u "ordinal"), (0, u "I"), (1, .class_ 14), (1, u "java/lang/Object"), (4, u "hash"), (86, .class_ 108), (1, u "java/lang/Enum$EnumDesc"), (2, .class_ 112), (0, u "java/lang/constant/Constable"), (0, .class_ 114), (0, u "java/lang/Comparable"), (0, .class_ 116), (0, u "java/io/Serializable")] 87

/-- java/lang/Enum -/
def k9 : Class := { plain "java/lang/Enum" (some 0) with
  accessFlags := 1057
  interfaces := #[5, 3, 2]
  cf := some (fileOf pool9 2 #[.nestMembers #[106]] #[] 1057 12 #[111, 113, 115] #[{ accessFlags := 18, nameIndex := 5, descriptorIndex := 6, attributes := #[] }, { accessFlags := 18, nameIndex := 9, descriptorIndex := 10, attributes := #[] }, { accessFlags := 2, nameIndex := 19, descriptorIndex := 10, attributes := #[] }])
  fields := #[{ name := "name", type := (.object "java/lang/String"), accessFlags := 18, slot := 0, constantValue := 0 }, { name := "ordinal", type := .int, accessFlags := 18, slot := 1, constantValue := 0 }, { name := "hash", type := .int, accessFlags := 2, slot := 2, constantValue := 0 }]
  methods := #[]
  instanceTypes := #[(.object "java/lang/String"), .int, .int]
  staticTypes := #[]
  resolved := Array.replicate 204 none
  statics := none }

def pool10 : Array CpInfo := pool [(1, .class_ 2), (0, u "com/example/hermit_crab/hermitcrab/JdbcLockStore"), (0, .class_ 4), (0, u "com/example/hermit_crab/hermitcrab/JdbcLockStore$Dialect"), (0, .fieldref 3 6), (0, .nameAndType 7 8), (0, u "MARIADB"), (0, u "Lcom/example/hermit_crab/hermitcrab/JdbcLockStore$Dialect;"), (0, .fieldref 3 10), (0, .nameAndType 11 8), (0, u "POSTGRESQL"), (2, u "$VALUES"), (0, u "[Lcom/example/hermit_crab/hermitcrab/JdbcLockStore$Dialect;"), (6, .class_ 24), (1, u "java/lang/Enum"), (8, u "clock"), (0, u "Ljava/lang/String;"), (6, u "later"), (2, u "createTable"), (3, u "renew"), (5, u "release"), (0, .string 56), (0, u "MariaDB"), (0, .methodref 58 59), (0, .class_ 60), (0, .nameAndType 61 62), (0, u "java/lang/String"), (0, u "equalsIgnoreCase"), (0, u "(Ljava/lang/String;)Z"), (0, .string 64), (0, u "MySQL"), (0, .string 66), (0, u "PostgreSQL"), (61, u "(Ljava/lang/String;)Lcom/example/hermit_crab/hermitcrab/JdbcLockStore$Dialect;"), (3, u "of")] 40

def k10c0 : Code := { maxStack := 3, maxLocals := 2, code := prog_7_method_4_code, exceptionTable := #[], attributes := #[] }
def k10m0 : Method := { name := "of", desc := "(Ljava/lang/String;)Lcom/example/hermit_crab/hermitcrab/JdbcLockStore$Dialect;", sig := { parameters := [(.object "java/lang/String")], returnType := some (.object "com/example/hermit_crab/hermitcrab/JdbcLockStore$Dialect") }, accessFlags := 8, code := some k10c0 }
/-- com/example/hermit_crab/hermitcrab/JdbcLockStore$Dialect -/
def k10 : Class := { plain "com/example/hermit_crab/hermitcrab/JdbcLockStore$Dialect" (some 9) with
  accessFlags := 17440
  interfaces := #[]
  cf := some (fileOf pool10 3 #[.nestHost 1] #[{ accessFlags := 8, nameIndex := 132, descriptorIndex := 128, attributes := #[] }] 17440 22 #[] #[{ accessFlags := 16409, nameIndex := 7, descriptorIndex := 8, attributes := #[] }, { accessFlags := 16409, nameIndex := 11, descriptorIndex := 8, attributes := #[] }, { accessFlags := 16, nameIndex := 33, descriptorIndex := 34, attributes := #[] }, { accessFlags := 16, nameIndex := 41, descriptorIndex := 34, attributes := #[] }, { accessFlags := 16, nameIndex := 44, descriptorIndex := 34, attributes := #[] }, { accessFlags := 16, nameIndex := 48, descriptorIndex := 34, attributes := #[] }, { accessFlags := 16, nameIndex := 54, descriptorIndex := 34, attributes := #[] }, { accessFlags := 4122, nameIndex := 14, descriptorIndex := 15, attributes := #[] }])
  fields := #[{ name := "MARIADB", type := (.object "com/example/hermit_crab/hermitcrab/JdbcLockStore$Dialect"), accessFlags := 16409, slot := 0, constantValue := 0 }, { name := "POSTGRESQL", type := (.object "com/example/hermit_crab/hermitcrab/JdbcLockStore$Dialect"), accessFlags := 16409, slot := 1, constantValue := 0 }, { name := "clock", type := (.object "java/lang/String"), accessFlags := 16, slot := 3, constantValue := 0 }, { name := "later", type := (.object "java/lang/String"), accessFlags := 16, slot := 4, constantValue := 0 }, { name := "createTable", type := (.object "java/lang/String"), accessFlags := 16, slot := 5, constantValue := 0 }, { name := "renew", type := (.object "java/lang/String"), accessFlags := 16, slot := 6, constantValue := 0 }, { name := "release", type := (.object "java/lang/String"), accessFlags := 16, slot := 7, constantValue := 0 }, { name := "$VALUES", type := (.array (.object "com/example/hermit_crab/hermitcrab/JdbcLockStore$Dialect")), accessFlags := 4122, slot := 2, constantValue := 0 }]
  methods := #[k10m0]
  instanceTypes := #[(.object "java/lang/String"), .int, .int, (.object "java/lang/String"), (.object "java/lang/String"), (.object "java/lang/String"), (.object "java/lang/String"), (.object "java/lang/String")]
  staticTypes := #[(.object "com/example/hermit_crab/hermitcrab/JdbcLockStore$Dialect"), (.object "com/example/hermit_crab/hermitcrab/JdbcLockStore$Dialect"), (.array (.object "com/example/hermit_crab/hermitcrab/JdbcLockStore$Dialect"))]
  resolved := Array.replicate 173 none
  statics := some 1 }

def pool11 : Array CpInfo := pool [(4, .class_ 6), (1, u "java/lang/Object"), (0, u "<init>"), (0, u "()V"), (5, .class_ 16), (1, u "java/lang/StringLatin1"), (50, .class_ 69), (1, u "java/lang/CharacterDataLatin1"), (51, u "$assertionsDisabled"), (0, u "Z"), (30, .methodref 67 154), (0, .nameAndType 155 156), (0, u "equalsIgnoreCase"), (0, u "(BB)Z"), (64, .class_ 223), (1, u "java/lang/StringLatin1$LinesSpliterator"), (116, u "regionMatchesCI"), (0, u "([BI[BII)Z"), (48, .class_ 391), (0, u "java/lang/StringLatin1$CharsSpliterator")] 3

def k11m0 : Method := { name := "<init>", desc := "()V", sig := { parameters := [], returnType := none }, accessFlags := 0, code := none }
def k11c1 : Code := { maxStack := 2, maxLocals := 8, code := jdk_43_method_30_code, exceptionTable := #[], attributes := #[] }
def k11m1 : Method := { name := "regionMatchesCI", desc := "([BI[BII)Z", sig := { parameters := [(.array .byte), .int, (.array .byte), .int, .int], returnType := some .boolean }, accessFlags := 9, code := some k11c1 }
/-- java/lang/StringLatin1 -/
def k11 : Class := { plain "java/lang/StringLatin1" (some 0) with
  accessFlags := 48
  interfaces := #[]
  cf := some (fileOf pool11 14 #[.nestMembers #[390, 221]] #[{ accessFlags := 0, nameIndex := 7, descriptorIndex := 8, attributes := #[] }, { accessFlags := 9, nameIndex := 340, descriptorIndex := 341, attributes := #[] }] 48 4 #[] #[{ accessFlags := 4120, nameIndex := 121, descriptorIndex := 122, attributes := #[] }])
  fields := #[{ name := "$assertionsDisabled", type := .boolean, accessFlags := 4120, slot := 0, constantValue := 0 }]
  methods := #[k11m0, k11m1]
  instanceTypes := #[]
  staticTypes := #[.boolean]
  resolved := Array.replicate 395 none
  statics := none }

def pool12 : Array CpInfo := pool [(2, .class_ 4), (1, u "java/lang/Object"), (0, u "<init>"), (0, u "()V"), (1, .class_ 10), (1, u "java/lang/CharacterData")] 75

def k12m0 : Method := { name := "<init>", desc := "()V", sig := { parameters := [], returnType := none }, accessFlags := 0, code := none }
/-- java/lang/CharacterData -/
def k12 : Class := { plain "java/lang/CharacterData" (some 0) with
  accessFlags := 1056
  interfaces := #[]
  cf := some (fileOf pool12 8 #[] #[{ accessFlags := 0, nameIndex := 5, descriptorIndex := 6, attributes := #[] }] 1056 2 #[] #[])
  fields := #[]
  methods := #[k12m0]
  instanceTypes := #[]
  staticTypes := #[]
  resolved := Array.replicate 86 none
  statics := none }

def pool13 : Array CpInfo := pool [(2, .class_ 4), (1, u "java/lang/CharacterDataLatin1"), (0, u "A"), (0, u "[I"), (2, u "B"), (0, u "[C"), (16, u "DIGITS"), (0, u "[B"), (8, u "sharpsMap"), (1, .class_ 41), (1, u "java/lang/CharacterData"), (0, u "<init>"), (0, u "()V"), (3, u "instance"), (0, u "Ljava/lang/CharacterDataLatin1;"), (66, u "equalsIgnoreCase"), (0, u "(BB)Z")] 24

def k13c0 : Code := { maxStack := 3, maxLocals := 3, code := jdk_116_method_22_code, exceptionTable := #[], attributes := #[] }
def k13m0 : Method := { name := "equalsIgnoreCase", desc := "(BB)Z", sig := { parameters := [.byte, .byte], returnType := some .boolean }, accessFlags := 8, code := some k13c0 }
def k13m1 : Method := { name := "<init>", desc := "()V", sig := { parameters := [], returnType := none }, accessFlags := 2, code := none }
/-- java/lang/CharacterDataLatin1 -/
def k13 : Class := { plain "java/lang/CharacterDataLatin1" (some 12) with
  accessFlags := 32
  interfaces := #[]
  cf := some (fileOf pool13 2 #[] #[{ accessFlags := 8, nameIndex := 115, descriptorIndex := 116, attributes := #[] }, { accessFlags := 2, nameIndex := 42, descriptorIndex := 43, attributes := #[] }] 32 39 #[] #[{ accessFlags := 26, nameIndex := 27, descriptorIndex := 28, attributes := #[] }, { accessFlags := 8, nameIndex := 37, descriptorIndex := 10, attributes := #[] }, { accessFlags := 24, nameIndex := 47, descriptorIndex := 48, attributes := #[] }, { accessFlags := 24, nameIndex := 5, descriptorIndex := 6, attributes := #[] }, { accessFlags := 24, nameIndex := 9, descriptorIndex := 10, attributes := #[] }])
  fields := #[{ name := "DIGITS", type := (.array .byte), accessFlags := 26, slot := 0, constantValue := 0 }, { name := "sharpsMap", type := (.array .char), accessFlags := 8, slot := 1, constantValue := 0 }, { name := "instance", type := (.object "java/lang/CharacterDataLatin1"), accessFlags := 24, slot := 2, constantValue := 0 }, { name := "A", type := (.array .int), accessFlags := 24, slot := 3, constantValue := 0 }, { name := "B", type := (.array .char), accessFlags := 24, slot := 4, constantValue := 0 }]
  methods := #[k13m0, k13m1]
  instanceTypes := #[]
  staticTypes := #[(.array .byte), (.array .char), (.object "java/lang/CharacterDataLatin1"), (.array .int), (.array .char)]
  resolved := Array.replicate 141 none
  statics := none }

def pool14 : Array CpInfo := pool [(2, .class_ 4), (1, u "java/lang/Object"), (0, u "<init>"), (0, u "()V"), (17, .class_ 26), (1, u "jdk/internal/util/Preconditions"), (28, .class_ 56), (0, u "jdk/internal/util/Preconditions$4"), (57, .class_ 115), (0, u "jdk/internal/util/Preconditions$1"), (7, u "SIOOBE_FORMATTER"), (0, u "Ljava/util/function/BiFunction;"), (0, .class_ 126), (0, u "jdk/internal/util/Preconditions$2"), (3, u "AIOOBE_FORMATTER"), (0, .class_ 132), (0, u "jdk/internal/util/Preconditions$3"), (3, u "IOOBE_FORMATTER")] 57

def k14m0 : Method := { name := "<init>", desc := "()V", sig := { parameters := [], returnType := none }, accessFlags := 1, code := none }
/-- jdk/internal/util/Preconditions -/
def k14 : Class := { plain "jdk/internal/util/Preconditions" (some 0) with
  accessFlags := 33
  interfaces := #[]
  cf := some (fileOf pool14 24 #[.nestMembers #[55, 131, 125, 114]] #[{ accessFlags := 1, nameIndex := 5, descriptorIndex := 6, attributes := #[] }] 33 2 #[] #[{ accessFlags := 25, nameIndex := 123, descriptorIndex := 124, attributes := #[] }, { accessFlags := 25, nameIndex := 130, descriptorIndex := 124, attributes := #[] }, { accessFlags := 25, nameIndex := 136, descriptorIndex := 124, attributes := #[] }])
  fields := #[{ name := "SIOOBE_FORMATTER", type := (.object "java/util/function/BiFunction"), accessFlags := 25, slot := 0, constantValue := 0 }, { name := "AIOOBE_FORMATTER", type := (.object "java/util/function/BiFunction"), accessFlags := 25, slot := 1, constantValue := 0 }, { name := "IOOBE_FORMATTER", type := (.object "java/util/function/BiFunction"), accessFlags := 25, slot := 2, constantValue := 0 }]
  methods := #[k14m0]
  instanceTypes := #[]
  staticTypes := #[(.object "java/util/function/BiFunction"), (.object "java/util/function/BiFunction"), (.object "java/util/function/BiFunction")]
  resolved := Array.replicate 194 none
  statics := some 2 }

def pool15 : Array CpInfo := pool [(9, u "<init>"), (6, .class_ 18), (1, u "java/lang/Object"), (0, u "()V"), (1, .class_ 23), (1, u "jdk/internal/util/ArraysSupport"), (0, u "LOG2_ARRAY_LONG_INDEX_SCALE"), (0, u "I"), (2, u "U"), (0, u "Ljdk/internal/misc/Unsafe;"), (8, u "BIG_ENDIAN"), (0, u "Z"), (8, u "LOG2_BYTE_BIT_SIZE"), (4, u "LOG2_ARRAY_INT_INDEX_SCALE"), (54, u "JLA"), (0, u "Ljdk/internal/access/JavaLangAccess;"), (11, u "LOG2_ARRAY_BOOLEAN_INDEX_SCALE"), (9, u "LOG2_ARRAY_BYTE_INDEX_SCALE"), (5, u "LOG2_ARRAY_CHAR_INDEX_SCALE"), (5, u "LOG2_ARRAY_SHORT_INDEX_SCALE"), (18, u "LOG2_ARRAY_FLOAT_INDEX_SCALE"), (24, u "LOG2_ARRAY_DOUBLE_INDEX_SCALE"), (89, u "T_BOOLEAN"), (2, u "T_CHAR"), (1, u "T_FLOAT"), (1, u "T_DOUBLE"), (1, u "T_BYTE"), (1, u "T_SHORT"), (1, u "T_INT"), (1, u "T_LONG"), (1, u "SOFT_MAX_ARRAY_LENGTH")] 83

def k15m0 : Method := { name := "<init>", desc := "()V", sig := { parameters := [], returnType := none }, accessFlags := 2, code := none }
/-- jdk/internal/util/ArraysSupport -/
def k15 : Class := { plain "jdk/internal/util/ArraysSupport" (some 0) with
  accessFlags := 33
  interfaces := #[]
  cf := some (fileOf pool15 21 #[] #[{ accessFlags := 2, nameIndex := 9, descriptorIndex := 19, attributes := #[] }] 33 16 #[] #[{ accessFlags := 24, nameIndex := 28, descriptorIndex := 29, attributes := #[] }, { accessFlags := 26, nameIndex := 38, descriptorIndex := 39, attributes := #[] }, { accessFlags := 25, nameIndex := 121, descriptorIndex := 25, attributes := #[] }, { accessFlags := 25, nameIndex := 131, descriptorIndex := 25, attributes := #[] }, { accessFlags := 25, nameIndex := 137, descriptorIndex := 25, attributes := #[] }, { accessFlags := 25, nameIndex := 143, descriptorIndex := 25, attributes := #[] }, { accessFlags := 25, nameIndex := 53, descriptorIndex := 25, attributes := #[] }, { accessFlags := 25, nameIndex := 24, descriptorIndex := 25, attributes := #[] }, { accessFlags := 25, nameIndex := 162, descriptorIndex := 25, attributes := #[] }, { accessFlags := 25, nameIndex := 187, descriptorIndex := 25, attributes := #[] }, { accessFlags := 26, nameIndex := 48, descriptorIndex := 25, attributes := #[] }, { accessFlags := 25, nameIndex := 277, descriptorIndex := 25, attributes := #[] }, { accessFlags := 25, nameIndex := 280, descriptorIndex := 25, attributes := #[] }, { accessFlags := 25, nameIndex := 282, descriptorIndex := 25, attributes := #[] }, { accessFlags := 25, nameIndex := 284, descriptorIndex := 25, attributes := #[] }, { accessFlags := 25, nameIndex := 286, descriptorIndex := 25, attributes := #[] }, { accessFlags := 25, nameIndex := 288, descriptorIndex := 25, attributes := #[] }, { accessFlags := 25, nameIndex := 290, descriptorIndex := 25, attributes := #[] }, { accessFlags := 25, nameIndex := 292, descriptorIndex := 25, attributes := #[] }, { accessFlags := 26, nameIndex := 108, descriptorIndex := 109, attributes := #[] }, { accessFlags := 25, nameIndex := 294, descriptorIndex := 25, attributes := #[] }])
  fields := #[{ name := "U", type := (.object "jdk/internal/misc/Unsafe"), accessFlags := 24, slot := 0, constantValue := 0 }, { name := "BIG_ENDIAN", type := .boolean, accessFlags := 26, slot := 1, constantValue := 0 }, { name := "LOG2_ARRAY_BOOLEAN_INDEX_SCALE", type := .int, accessFlags := 25, slot := 2, constantValue := 0 }, { name := "LOG2_ARRAY_BYTE_INDEX_SCALE", type := .int, accessFlags := 25, slot := 3, constantValue := 0 }, { name := "LOG2_ARRAY_CHAR_INDEX_SCALE", type := .int, accessFlags := 25, slot := 4, constantValue := 0 }, { name := "LOG2_ARRAY_SHORT_INDEX_SCALE", type := .int, accessFlags := 25, slot := 5, constantValue := 0 }, { name := "LOG2_ARRAY_INT_INDEX_SCALE", type := .int, accessFlags := 25, slot := 6, constantValue := 0 }, { name := "LOG2_ARRAY_LONG_INDEX_SCALE", type := .int, accessFlags := 25, slot := 7, constantValue := 0 }, { name := "LOG2_ARRAY_FLOAT_INDEX_SCALE", type := .int, accessFlags := 25, slot := 8, constantValue := 0 }, { name := "LOG2_ARRAY_DOUBLE_INDEX_SCALE", type := .int, accessFlags := 25, slot := 9, constantValue := 0 }, { name := "LOG2_BYTE_BIT_SIZE", type := .int, accessFlags := 26, slot := 10, constantValue := 0 }, { name := "T_BOOLEAN", type := .int, accessFlags := 25, slot := 11, constantValue := 0 }, { name := "T_CHAR", type := .int, accessFlags := 25, slot := 12, constantValue := 0 }, { name := "T_FLOAT", type := .int, accessFlags := 25, slot := 13, constantValue := 0 }, { name := "T_DOUBLE", type := .int, accessFlags := 25, slot := 14, constantValue := 0 }, { name := "T_BYTE", type := .int, accessFlags := 25, slot := 15, constantValue := 0 }, { name := "T_SHORT", type := .int, accessFlags := 25, slot := 16, constantValue := 0 }, { name := "T_INT", type := .int, accessFlags := 25, slot := 17, constantValue := 0 }, { name := "T_LONG", type := .int, accessFlags := 25, slot := 18, constantValue := 0 }, { name := "JLA", type := (.object "jdk/internal/access/JavaLangAccess"), accessFlags := 26, slot := 19, constantValue := 0 }, { name := "SOFT_MAX_ARRAY_LENGTH", type := .int, accessFlags := 25, slot := 20, constantValue := 0 }]
  methods := #[k15m0]
  instanceTypes := #[]
  staticTypes := #[(.object "jdk/internal/misc/Unsafe"), .boolean, .int, .int, .int, .int, .int, .int, .int, .int, .int, .int, .int, .int, .int, .int, .int, .int, .int, (.object "jdk/internal/access/JavaLangAccess"), .int]
  resolved := Array.replicate 378 none
  statics := none }

def pool16 : Array CpInfo := pool [(1, .class_ 2), (0, u "com/example/hermit_crab/hermitcrab/JdbcLockStore"), (1, .class_ 6), (1, u "com/example/hermit_crab/hermitcrab/JdbcLockStore$Dialect"), (3, .class_ 12), (1, u "com/example/hermit_crab/hermitcrab/JdbcLockStore$Dialect$1"), (1, u "Ljava/lang/String;"), (6, u "free"), (8, u "take"), (4, u "token")] 91

/-- com/example/hermit_crab/hermitcrab/JdbcLockStore$Dialect$1 -/
def k16 : Class := { plain "com/example/hermit_crab/hermitcrab/JdbcLockStore$Dialect$1" (some 10) with
  accessFlags := 16432
  interfaces := #[]
  cf := some (fileOf pool16 10 #[.nestHost 1] #[] 16432 4 #[] #[{ accessFlags := 18, nameIndex := 21, descriptorIndex := 14, attributes := #[] }, { accessFlags := 18, nameIndex := 30, descriptorIndex := 14, attributes := #[] }, { accessFlags := 18, nameIndex := 35, descriptorIndex := 14, attributes := #[] }])
  fields := #[{ name := "free", type := (.object "java/lang/String"), accessFlags := 18, slot := 8, constantValue := 0 }, { name := "take", type := (.object "java/lang/String"), accessFlags := 18, slot := 9, constantValue := 0 }, { name := "token", type := (.object "java/lang/String"), accessFlags := 18, slot := 10, constantValue := 0 }]
  methods := #[]
  instanceTypes := #[(.object "java/lang/String"), .int, .int, (.object "java/lang/String"), (.object "java/lang/String"), (.object "java/lang/String"), (.object "java/lang/String"), (.object "java/lang/String"), (.object "java/lang/String"), (.object "java/lang/String"), (.object "java/lang/String")]
  staticTypes := #[]
  resolved := Array.replicate 127 none
  statics := none }

def pool17 : Array CpInfo := pool [(1, .class_ 2), (0, u "com/example/hermit_crab/hermitcrab/JdbcLockStore"), (1, .class_ 6), (1, u "com/example/hermit_crab/hermitcrab/JdbcLockStore$Dialect"), (3, .class_ 12), (1, u "com/example/hermit_crab/hermitcrab/JdbcLockStore$Dialect$2"), (1, u "Ljava/lang/String;"), (9, u "take")] 90

/-- com/example/hermit_crab/hermitcrab/JdbcLockStore$Dialect$2 -/
def k17 : Class := { plain "com/example/hermit_crab/hermitcrab/JdbcLockStore$Dialect$2" (some 10) with
  accessFlags := 16432
  interfaces := #[]
  cf := some (fileOf pool17 10 #[.nestHost 1] #[] 16432 4 #[] #[{ accessFlags := 18, nameIndex := 24, descriptorIndex := 14, attributes := #[] }])
  fields := #[{ name := "take", type := (.object "java/lang/String"), accessFlags := 18, slot := 8, constantValue := 0 }]
  methods := #[]
  instanceTypes := #[(.object "java/lang/String"), .int, .int, (.object "java/lang/String"), (.object "java/lang/String"), (.object "java/lang/String"), (.object "java/lang/String"), (.object "java/lang/String"), (.object "java/lang/String")]
  staticTypes := #[]
  resolved := Array.replicate 115 none
  statics := none }

def pool18 : Array CpInfo := pool [(1, u "java/lang/Cloneable"), (0, .class_ 1), (0, u "java/lang/Object"), (0, .class_ 3)] 3

/-- java/lang/Cloneable -/
def k18 : Class := { plain "java/lang/Cloneable" (some 0) with
  accessFlags := 1537
  interfaces := #[]
  cf := some (fileOf pool18 2 #[] #[] 1537 4 #[] #[])
  fields := #[]
  methods := #[]
  instanceTypes := #[]
  staticTypes := #[]
  resolved := Array.replicate 8 none
  statics := none }

/-- the primitive byte -/
def k19 : Class := { plain "byte" none with kind := .primitive 'B', accessFlags := 0x411 }
/-- [B -/
def k20 : Class := { plain "[B" (some 0) with kind := .array 19 .byte, interfaces := #[18, 2], accessFlags := 1041 }

/-- the primitive char -/
def k21 : Class := { plain "char" none with kind := .primitive 'C', accessFlags := 0x411 }
/-- [C -/
def k22 : Class := { plain "[C" (some 0) with kind := .array 21 .char, interfaces := #[18, 2], accessFlags := 1041 }

/-- the primitive int -/
def k23 : Class := { plain "int" none with kind := .primitive 'I', accessFlags := 0x411 }
/-- [I -/
def k24 : Class := { plain "[I" (some 0) with kind := .array 23 .int, interfaces := #[18, 2], accessFlags := 1041 }

def heap : Heap := #[{ cls := 7, slots := #[.long 0, .int 1, .null, .int 0, .null, .int 0, .int 0], vm := .statics 7 },
  { cls := 10, slots := #[.ref 3, .ref 4, .null], vm := .statics 10 },
  { cls := 14, slots := #[.null, .null, .null], vm := .statics 14 },
  { cls := 16, slots := #[.null, .int 0, .int 0, .null, .null, .null, .null, .null, .null, .null, .null], vm := .none },
  { cls := 17, slots := #[.null, .int 1, .int 0, .null, .null, .null, .null, .null, .null], vm := .none }]
def classes : Array Class := #[k0, k1, k2, k3, k4, k5, k6, k7, k8, k9, k10, k11, k12, k13, k14, k15, k16, k17, k18, k19, k20, k21, k22, k23, k24]
def interned : List (Array UInt16 × Addr) := []
def slotsUsed : Nat := 33
def theMethod : MethodId := ⟨1, 2⟩
def args0 : Array Value := #[.int 5, .int 5]
def aboutOver (below : List Frame) : State where
  vm := { classes := classes, interned := interned.toArray }
  heap := heap
  slotsUsed := slotsUsed
  threads := #[{ frames := .invoking theMethod args0 :: below }]
def below0 : List Frame := [.native { method := ⟨0, 0⟩, args := #[] }]
def about1 : State := aboutOver below0
def p0 : Program := .bare "" "" ""
def e0 : Env := launch0.env 0 0 0
theorem w_frames : about1.frames = Frame.invoking theMethod args0 :: below0 := rfl
set_option maxRecDepth 65536 in
theorem w_args : argsFit about1.vm theMethod args0 = true := by decide +kernel
set_option maxRecDepth 65536 in
theorem w_heap : heapFits about1 = true := by decide +kernel
set_option maxRecDepth 65536 in
theorem w_runnable : about1.curStatus? = some .runnable := by decide +kernel
set_option maxRecDepth 65536 in
theorem w_alone : about1.alone = true := by decide +kernel
set_option maxRecDepth 65536 in
theorem w_named : about1.methodNamed? x = some theMethod := by decide +kernel
set_option maxRecDepth 65536 in
theorem w_hears : about1.hears theMethod below0 = true := by decide +kernel
set_option maxRecDepth 65536 in
theorem w_ripe : about1.ripe theMethod args0 below0 = true := by decide +kernel
theorem w_running : about1.status = .running := rfl
set_option maxRecDepth 65536 in
theorem w_room : about1.hasRoom e0.platform room_1 = true :=
  launch0.hasRoom_least _ room_1 (by decide +kernel) (by decide +kernel) (by decide +kernel) (by decide +kernel) (by decide +kernel) (by decide +kernel)
theorem allAtoms_all (ts : List Jvm.Cond) (a : Array Jvm.Value) (st : Jvm.State) : (allAtoms ts).before a st = ts.all (fun c => c.before a st) := by
  induction ts with
  | nil => rfl
  | cons c t ih =>
    show (Jvm.Cond.and c (allAtoms t)).before a st = _
    rw [Jvm.Cond.before_and, ih, List.all_cons]
def words1 : List Jvm.Cond := Jvm.Cond.code x code maxLocals ret :: tables_1
/-- a 'code' word, met by the world's own term for the bytes: nothing is compared byte by byte -/
theorem code_word {y : MethodName} {bytes : ByteArray} {mx : Nat} {rt : Option FieldType} {a : Array Value} {s : State} {m : MethodId} {meth : Method} {c : Code} (h1 : s.methodNamed? y = some m) (h2 : s.vm.method? m = some meth) (h3 : meth.code = some c) (h4 : c.code = bytes)
    (h5 : (c.maxLocals == mx && c.exceptionTable.isEmpty && decide (c.maxStack ≤ mostOperands) && decide (meth.sig.returnType = rt) && !meth.locks && decide (parseMethodDescriptor y.desc = some meth.sig)) = true) : (Jvm.Cond.code y bytes mx rt).before a s = true := by
  simp only [Bool.and_eq_true, beq_iff_eq, Bool.not_eq_true', decide_eq_true_eq] at h5
  obtain ⟨⟨⟨⟨⟨g1, g2⟩, g3⟩, g4⟩, g5⟩, g6⟩ := h5
  simp [Cond.before, Cond.holds, Cond.value, h1, h2, h3, h4, g1, g2, g3, g4, g5, g6]
def isCode : Jvm.Cond → Bool
  | .code _ _ _ _ => true
  | _ => false
theorem all_split {L : List Jvm.Cond} {P : Jvm.Cond → Bool} (h1 : L.all (fun c => isCode c || P c) = true) (h2 : ∀ c ∈ L.filter isCode, P c = true) : L.all P = true := by
  refine List.all_eq_true.mpr fun c hc => ?_
  have h := List.all_eq_true.mp h1 c hc
  rcases Bool.eq_false_or_eq_true (isCode c) with hi | hi
  · exact h2 c (List.mem_filter.mpr ⟨hc, hi⟩)
  · simpa [hi] using h
set_option maxRecDepth 65536 in
theorem w_c0 : (Jvm.Cond.code x code maxLocals ret).before args0 about1 = true := code_word (m := ⟨1, 2⟩) (meth := k1m2) (c := k1c2) (by decide +kernel) rfl rfl rfl (by decide +kernel)
set_option maxRecDepth 65536 in
theorem w_c1 : (Jvm.Cond.code ({ cls := "com/example/hermit_crab/hermitcrab/DialectOfPinLaw", name := "f", desc := "(CII)C" } : Jvm.MethodName) method_2_code (3 : Nat) (Option.some Jvm.ClassFile.FieldType.char)).before args0 about1 = true := code_word (m := ⟨1, 1⟩) (meth := k1m1) (c := k1c1) (by decide +kernel) rfl rfl rfl (by decide +kernel)
set_option maxRecDepth 65536 in
theorem w_c2 : (Jvm.Cond.code ({ cls := "java/lang/String", name := "<init>", desc := "([C)V" } : Jvm.MethodName) jdk_42_method_3_code (2 : Nat) (Option.none : Option Jvm.ClassFile.FieldType)).before args0 about1 = true := code_word (m := ⟨7, 1⟩) (meth := k7m1) (c := k7c1) (by decide +kernel) rfl rfl rfl (by decide +kernel)
set_option maxRecDepth 65536 in
theorem w_c3 : (Jvm.Cond.code ({ cls := "java/lang/String", name := "<init>", desc := "([CIILjava/lang/Void;)V" } : Jvm.MethodName) jdk_42_method_149_code (6 : Nat) (Option.none : Option Jvm.ClassFile.FieldType)).before args0 about1 = true := code_word (m := ⟨7, 5⟩) (meth := k7m5) (c := k7c5) (by decide +kernel) rfl rfl rfl (by decide +kernel)
set_option maxRecDepth 65536 in
theorem w_c4 : (Jvm.Cond.code ({ cls := "java/lang/Object", name := "<init>", desc := "()V" } : Jvm.MethodName) object_method_1_code (1 : Nat) (Option.none : Option Jvm.ClassFile.FieldType)).before args0 about1 = true := code_word (m := ⟨0, 0⟩) (meth := k0m0) (c := k0c0) (by decide +kernel) rfl rfl rfl (by decide +kernel)
set_option maxRecDepth 65536 in
theorem w_c5 : (Jvm.Cond.code ({ cls := "java/lang/StringUTF16", name := "compress", desc := "([CII)[B" } : Jvm.MethodName) jdk_52_method_16_code (6 : Nat) (Option.some (Jvm.ClassFile.FieldType.array Jvm.ClassFile.FieldType.byte))).before args0 about1 = true := code_word (m := ⟨8, 2⟩) (meth := k8m2) (c := k8c2) (by decide +kernel) rfl rfl rfl (by decide +kernel)
set_option maxRecDepth 65536 in
theorem w_c6 : (Jvm.Cond.code ({ cls := "java/lang/StringUTF16", name := "compress", desc := "([CI[BII)I" } : Jvm.MethodName) jdk_52_method_21_code (7 : Nat) (Option.some Jvm.ClassFile.FieldType.int)).before args0 about1 = true := code_word (m := ⟨8, 3⟩) (meth := k8m3) (c := k8c3) (by decide +kernel) rfl rfl rfl (by decide +kernel)
set_option maxRecDepth 65536 in
theorem w_c7 : (Jvm.Cond.code ({ cls := "java/lang/StringUTF16", name := "coderFromArrayLen", desc := "([BI)B" } : Jvm.MethodName) jdk_52_method_15_code (2 : Nat) (Option.some Jvm.ClassFile.FieldType.byte)).before args0 about1 = true := code_word (m := ⟨8, 1⟩) (meth := k8m1) (c := k8c1) (by decide +kernel) rfl rfl rfl (by decide +kernel)
set_option maxRecDepth 65536 in
theorem w_c8 : (Jvm.Cond.code ({ cls := "com/example/hermit_crab/hermitcrab/JdbcLockStore$Dialect", name := "of", desc := "(Ljava/lang/String;)Lcom/example/hermit_crab/hermitcrab/JdbcLockStore$Dialect;" } : Jvm.MethodName) prog_7_method_4_code (2 : Nat) (Option.some (Jvm.ClassFile.FieldType.object "com/example/hermit_crab/hermitcrab/JdbcLockStore$Dialect"))).before args0 about1 = true := code_word (m := ⟨10, 0⟩) (meth := k10m0) (c := k10c0) (by decide +kernel) rfl rfl rfl (by decide +kernel)
set_option maxRecDepth 65536 in
theorem w_c9 : (Jvm.Cond.code ({ cls := "java/lang/String", name := "equalsIgnoreCase", desc := "(Ljava/lang/String;)Z" } : Jvm.MethodName) jdk_42_method_70_code (2 : Nat) (Option.some Jvm.ClassFile.FieldType.boolean)).before args0 about1 = true := code_word (m := ⟨7, 3⟩) (meth := k7m3) (c := k7c3) (by decide +kernel) rfl rfl rfl (by decide +kernel)
set_option maxRecDepth 65536 in
theorem w_c10 : (Jvm.Cond.code ({ cls := "java/lang/String", name := "length", desc := "()I" } : Jvm.MethodName) jdk_42_method_54_code (1 : Nat) (Option.some Jvm.ClassFile.FieldType.int)).before args0 about1 = true := code_word (m := ⟨7, 2⟩) (meth := k7m2) (c := k7c2) (by decide +kernel) rfl rfl rfl (by decide +kernel)
set_option maxRecDepth 65536 in
theorem w_c11 : (Jvm.Cond.code ({ cls := "java/lang/String", name := "coder", desc := "()B" } : Jvm.MethodName) jdk_42_method_152_code (1 : Nat) (Option.some Jvm.ClassFile.FieldType.byte)).before args0 about1 = true := code_word (m := ⟨7, 6⟩) (meth := k7m6) (c := k7c6) (by decide +kernel) rfl rfl rfl (by decide +kernel)
set_option maxRecDepth 65536 in
theorem w_c12 : (Jvm.Cond.code ({ cls := "java/lang/String", name := "regionMatches", desc := "(ZILjava/lang/String;II)Z" } : Jvm.MethodName) jdk_42_method_74_code (9 : Nat) (Option.some Jvm.ClassFile.FieldType.boolean)).before args0 about1 = true := code_word (m := ⟨7, 4⟩) (meth := k7m4) (c := k7c4) (by decide +kernel) rfl rfl rfl (by decide +kernel)
set_option maxRecDepth 65536 in
theorem w_c13 : (Jvm.Cond.code ({ cls := "java/lang/StringLatin1", name := "regionMatchesCI", desc := "([BI[BII)Z" } : Jvm.MethodName) jdk_43_method_30_code (8 : Nat) (Option.some Jvm.ClassFile.FieldType.boolean)).before args0 about1 = true := code_word (m := ⟨11, 1⟩) (meth := k11m1) (c := k11c1) (by decide +kernel) rfl rfl rfl (by decide +kernel)
set_option maxRecDepth 65536 in
theorem w_c14 : (Jvm.Cond.code ({ cls := "java/lang/CharacterDataLatin1", name := "equalsIgnoreCase", desc := "(BB)Z" } : Jvm.MethodName) jdk_116_method_22_code (3 : Nat) (Option.some Jvm.ClassFile.FieldType.boolean)).before args0 about1 = true := code_word (m := ⟨13, 0⟩) (meth := k13m0) (c := k13c0) (by decide +kernel) rfl rfl rfl (by decide +kernel)
def codes1 : List Jvm.Cond := [Jvm.Cond.code x code maxLocals ret, Jvm.Cond.code ({ cls := "com/example/hermit_crab/hermitcrab/DialectOfPinLaw", name := "f", desc := "(CII)C" } : Jvm.MethodName) method_2_code (3 : Nat) (Option.some Jvm.ClassFile.FieldType.char), Jvm.Cond.code ({ cls := "java/lang/String", name := "<init>", desc := "([C)V" } : Jvm.MethodName) jdk_42_method_3_code (2 : Nat) (Option.none : Option Jvm.ClassFile.FieldType), Jvm.Cond.code ({ cls := "java/lang/String", name := "<init>", desc := "([CIILjava/lang/Void;)V" } : Jvm.MethodName) jdk_42_method_149_code (6 : Nat) (Option.none : Option Jvm.ClassFile.FieldType), Jvm.Cond.code ({ cls := "java/lang/Object", name := "<init>", desc := "()V" } : Jvm.MethodName) object_method_1_code (1 : Nat) (Option.none : Option Jvm.ClassFile.FieldType), Jvm.Cond.code ({ cls := "java/lang/StringUTF16", name := "compress", desc := "([CII)[B" } : Jvm.MethodName) jdk_52_method_16_code (6 : Nat) (Option.some (Jvm.ClassFile.FieldType.array Jvm.ClassFile.FieldType.byte)), Jvm.Cond.code ({ cls := "java/lang/StringUTF16", name := "compress", desc := "([CI[BII)I" } : Jvm.MethodName) jdk_52_method_21_code (7 : Nat) (Option.some Jvm.ClassFile.FieldType.int), Jvm.Cond.code ({ cls := "java/lang/StringUTF16", name := "coderFromArrayLen", desc := "([BI)B" } : Jvm.MethodName) jdk_52_method_15_code (2 : Nat) (Option.some Jvm.ClassFile.FieldType.byte), Jvm.Cond.code ({ cls := "com/example/hermit_crab/hermitcrab/JdbcLockStore$Dialect", name := "of", desc := "(Ljava/lang/String;)Lcom/example/hermit_crab/hermitcrab/JdbcLockStore$Dialect;" } : Jvm.MethodName) prog_7_method_4_code (2 : Nat) (Option.some (Jvm.ClassFile.FieldType.object "com/example/hermit_crab/hermitcrab/JdbcLockStore$Dialect")), Jvm.Cond.code ({ cls := "java/lang/String", name := "equalsIgnoreCase", desc := "(Ljava/lang/String;)Z" } : Jvm.MethodName) jdk_42_method_70_code (2 : Nat) (Option.some Jvm.ClassFile.FieldType.boolean), Jvm.Cond.code ({ cls := "java/lang/String", name := "length", desc := "()I" } : Jvm.MethodName) jdk_42_method_54_code (1 : Nat) (Option.some Jvm.ClassFile.FieldType.int), Jvm.Cond.code ({ cls := "java/lang/String", name := "coder", desc := "()B" } : Jvm.MethodName) jdk_42_method_152_code (1 : Nat) (Option.some Jvm.ClassFile.FieldType.byte), Jvm.Cond.code ({ cls := "java/lang/String", name := "regionMatches", desc := "(ZILjava/lang/String;II)Z" } : Jvm.MethodName) jdk_42_method_74_code (9 : Nat) (Option.some Jvm.ClassFile.FieldType.boolean), Jvm.Cond.code ({ cls := "java/lang/StringLatin1", name := "regionMatchesCI", desc := "([BI[BII)Z" } : Jvm.MethodName) jdk_43_method_30_code (8 : Nat) (Option.some Jvm.ClassFile.FieldType.boolean), Jvm.Cond.code ({ cls := "java/lang/CharacterDataLatin1", name := "equalsIgnoreCase", desc := "(BB)Z" } : Jvm.MethodName) jdk_116_method_22_code (3 : Nat) (Option.some Jvm.ClassFile.FieldType.boolean)]
set_option maxRecDepth 65536 in
theorem codes_eq : words1.filter isCode = codes1 := rfl
theorem w_codes : ∀ c ∈ words1.filter isCode, c.before args0 about1 = true := by
  rw [codes_eq]
  intro c hc
  simp only [codes1, List.mem_cons, List.not_mem_nil, or_false] at hc
  rcases hc with rfl | rfl | rfl | rfl | rfl | rfl | rfl | rfl | rfl | rfl | rfl | rfl | rfl | rfl | rfl
  · exact w_c0
  · exact w_c1
  · exact w_c2
  · exact w_c3
  · exact w_c4
  · exact w_c5
  · exact w_c6
  · exact w_c7
  · exact w_c8
  · exact w_c9
  · exact w_c10
  · exact w_c11
  · exact w_c12
  · exact w_c13
  · exact w_c14
set_option maxRecDepth 65536 in
theorem w_t1 : (words1.take 24).all (fun c => isCode c || c.before args0 about1) = true := by decide +kernel
set_option maxRecDepth 65536 in
theorem w_t2 : ((words1.drop 24).take 24).all (fun c => isCode c || c.before args0 about1) = true := by decide +kernel
set_option maxRecDepth 65536 in
theorem w_t3 : (((words1.drop 24).drop 24).take 24).all (fun c => isCode c || c.before args0 about1) = true := by decide +kernel
set_option maxRecDepth 65536 in
theorem w_t4 : (((words1.drop 24).drop 24).drop 24).all (fun c => isCode c || c.before args0 about1) = true := by decide +kernel
theorem w_tables : (allAtoms (Jvm.Cond.code x code maxLocals ret :: tables_1)).before args0 about1 = true := by
  rw [allAtoms_all]
  show words1.all (fun c => c.before args0 about1) = true
  refine all_split ?_ w_codes
  rw [← List.take_append_drop 24 words1, List.all_append, w_t1, ← List.take_append_drop 24 (words1.drop 24), List.all_append, w_t2, ← List.take_append_drop 24 ((words1.drop 24).drop 24), List.all_append, w_t3, w_t4]
  rfl
set_option maxRecDepth 65536 in
theorem w_rest : rest_1_c.before args0 about1 = true := by decide +kernel
set_option maxRecDepth 65536 in
theorem w_case : (Jvm.Cond.and given_1 narrow_1).before args0 about1 = true := by decide +kernel
set_option maxRecDepth 65536 in
theorem w_consts : constsHeld consts_1 about1 := Jvm.Lit.constsHeldB_iff.mp (by decide +kernel)
theorem w_applies : (headSpec (Jvm.Cond.code x code maxLocals ret :: tables_1) room_1).applies x e0.platform about1 = true :=
  (Spec.applies_iff w_frames).mpr ⟨w_running, w_runnable, w_alone, w_named, w_hears, w_ripe, w_room, w_tables⟩
theorem atStart : AtStart classFile x code maxLocals ret World_1 tables_1 room_1 Calls_1 rest_1 Pre_1 launch0 p0 e0 about1 theMethod args0 below0 :=
  ⟨lists_1, trivial, launch0.admits_env _ _ _, launch0.least_env, fairChoices_fair.cas, fairChoices_fair.clock, w_frames, w_args, w_heap, w_applies, ⟨w_consts, trivial⟩, w_rest, w_case⟩
end start1
theorem witness_1 : WitnessClaimed_1 := ⟨start1.p0, start1.e0, start1.about1, start1.theMethod, start1.args0, start1.below0, start1.atStart⟩
end Jvm.Pilot.@@N@@
