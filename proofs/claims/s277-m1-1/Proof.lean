import JvmDerived
import JvmDerived.Pilot.@@N@@Statement
import JvmDerived.Pilot.@@N@@Code
set_option linter.unusedVariables false
set_option linter.unusedSimpArgs false
namespace Jvm.Pilot.@@N@@
open Jvm Jvm.ClassFile Sem Op Lib Jvm.Free Jvm.Stand Jvm.LawKit Jvm.RoadKit Bundle Jvm.Pilot.@@N@@.Jvm.D
/-! ## own: a small logic of owned cells over the library's Stand -/
/-- cells by their addresses -/
abbrev HL := List (Addr × Cell)
def Own (h : Heap) (σ : HL) : Prop := ∀ q ∈ σ, h[q.1]? = some q.2
abbrev adr (σ : HL) : List Addr := σ.map Prod.fst
/-- what is known of the heap h under the tables vm, in an activation that began at s owning σ0 and reading ρ0: σ is owned, ρ is read, what stood at the law's start Z stands -/
def Hp (Z : State) (EL : List (String × Nat)) (σ0 ρ0 : HL) (s : State) (σ ρ : HL) (vm : Vm) (h : Heap) : Prop :=
  CHr Z EL s.vm s.heap vm h ∧ Own h σ ∧ Own h ρ ∧ (adr σ).Nodup ∧
  (∀ q ∈ σ, Z.heap.size ≤ q.1 ∧ (q.1 ∈ adr σ0 ∨ s.heap.size ≤ q.1) ∧ Safe Z EL vm h q.1) ∧
  (∀ q ∈ ρ, q.1 ∉ adr σ ∧ (q.1 ∈ adr ρ0 ∨ q.1 ∈ adr σ0 ∨ s.heap.size ≤ q.1 ∨ Bk Z EL s.vm s.heap q.1 ∨ q.1 < Z.heap.size)) ∧
  (∀ (x : Addr) (cl : Cell), s.heap[x]? = some cl → x ∉ adr σ0 → h[x]? = some cl) ∧ Ext Z.heap h
section HpLaws
variable {Z s : State} {EL : List (String × Nat)} {σ0 ρ0 σ ρ σ' ρ' : HL} {vm vm1 : Vm} {h h' : Heap}
theorem own_lt (O : Own h σ) {q : Addr × Cell} (hq : q ∈ σ) : q.1 < h.size := (Array.getElem?_eq_some_iff.mp (O q hq)).1
theorem adr_mem {x : Addr} (hx : x ∈ adr σ) : ∃ q ∈ σ, q.1 = x := List.mem_map.mp hx
theorem mem_adr {q : Addr × Cell} (hq : q ∈ σ) : q.1 ∈ adr σ := List.mem_map.mpr ⟨q, hq, rfl⟩
theorem Own.ext (E : Ext h h') (O : Own h σ) : Own h' σ := fun q hq => E.2 _ _ (O q hq)
theorem Own.sub (O : Own h σ) (hs : ∀ q ∈ σ', q ∈ σ) : Own h σ' := fun q hq => O q (hs q hq)
theorem own_app (O : Own h σ) (O' : Own h σ') : Own h (σ ++ σ') := fun q hq => (List.mem_append.mp hq).elim (O q) (O' q)
theorem ext_tr {h2 : Heap} (E : Ext h h') (E' : Ext h' h2) : Ext h h2 := ⟨Nat.le_trans E.1 E'.1, fun a c q => E'.2 _ _ (E.2 _ _ q)⟩
/-- tables and heap go on; nothing owned or read is touched -/
theorem Hp.later (H : Hp Z EL σ0 ρ0 s σ ρ vm h) (C : CHr Z EL vm h vm1 h') (E : Ext h h') : Hp Z EL σ0 ρ0 s σ ρ vm1 h' := by
  obtain ⟨c, o, r, nd, a, b, f, z⟩ := H
  exact ⟨c.trans C, o.ext E, r.ext E, nd, fun q hq => ⟨(a q hq).1, (a q hq).2.1, C.safe (own_lt o hq) (a q hq).2.2⟩, b, fun x cl hx hn => E.2 _ _ (f x cl hx hn), ext_tr z E⟩
theorem Hp.alloc (H : Hp Z EL σ0 ρ0 s σ ρ vm h) (E : Ext h h') {c : Cell} (hc : h'[h.size]? = some c) : Hp Z EL σ0 ρ0 s ((h.size, c) :: σ) ρ vm h' := by
  have C : CHr Z EL vm h vm h' := CHr.ext E H.1.1
  have H' := H.later C E
  obtain ⟨c1, o, r, nd, a, b, f, z⟩ := H
  obtain ⟨c1', o', r', nd', a', b', f', z'⟩ := H'
  refine ⟨c1', fun q hq => ?_, r', ?_, fun q hq => ?_, fun q hq => ⟨?_, (b q hq).2⟩, f', z'⟩
  · rcases List.mem_cons.mp hq with rfl | hq
    · exact hc
    · exact o' q hq
  · refine List.nodup_cons.mpr ⟨fun hm => ?_, nd⟩
    obtain ⟨q, hq, e⟩ := adr_mem hm
    exact absurd (e ▸ own_lt o hq) (Nat.lt_irrefl _)
  · rcases List.mem_cons.mp hq with rfl | hq
    · exact ⟨z.1, Or.inr c1.2.1, Safe.ext E c1.1 (Safe.new (Nat.le_refl _))⟩
    · exact a' q hq
  · intro hm
    rcases List.mem_cons.mp hm with e | hm
    · exact absurd (e ▸ own_lt r hq) (Nat.lt_irrefl _)
    · exact (b q hq).1 hm
/-- one owned cell is written -/
theorem Hp.write (H : Hp Z EL σ0 ρ0 s σ ρ vm h) {i : Nat} {a : Addr} {c c' : Cell} (hi : σ[i]? = some (a, c)) (hw : h' = h.setIfInBounds a c') : Hp Z EL σ0 ρ0 s (σ.set i (a, c')) ρ vm h' := by
  have hmem : (a, c) ∈ σ := List.mem_of_getElem? hi
  have hadr : adr (σ.set i (a, c')) = adr σ := by
    rw [adr, List.map_set]
    apply List.ext_getElem?
    intro j
    rw [List.getElem?_set]
    split
    · rename_i e
      subst e
      simp only [List.length_map, List.getElem?_map, hi, Option.map_some]
      split
      · rfl
      · rename_i hl
        exact absurd (List.getElem?_eq_some_iff.mp hi).1 (by simpa using hl)
    · rfl
  obtain ⟨c1, o, r, nd, al, b, f, z⟩ := H
  have ha : h[a]? = some c := o _ hmem
  have hlt : a < h.size := (Array.getElem?_eq_some_iff.mp ha).1
  have hS : Safe Z EL vm h a := (al _ hmem).2.2
  have ke : ∀ y, y ≠ a → h'[y]? = h[y]? := fun y hy => by rw [hw, Array.getElem?_setIfInBounds_ne (Ne.symm hy)]
  have hsz : h'.size = h.size := by rw [hw]; simp
  have hstep := c1.1.step (h' := h') fun y B cell q => by
    rw [ke y fun e => hS (e ▸ B)]; exact q
  have C : CHr Z EL vm h vm h' := ⟨hstep.1, by rw [hsz]; exact Nat.le_refl _, fun y q => Or.inl (hstep.2 y q)⟩
  have hin : ∀ q ∈ σ.set i (a, c'), q = (a, c') ∨ (q ∈ σ ∧ q.1 ≠ a) := fun q hq => by
    obtain ⟨j, hj⟩ := List.mem_iff_getElem?.mp hq
    rw [List.getElem?_set] at hj
    split at hj
    · split at hj
      · exact Or.inl (Option.some.inj hj).symm
      · cases hj
    · rename_i hne
      refine Or.inr ⟨List.mem_of_getElem? hj, fun e => hne ?_⟩
      have h1 : (adr σ)[j]? = some a := by rw [adr, List.getElem?_map, hj]; exact congrArg some e
      have h2 : (adr σ)[i]? = some a := by rw [adr, List.getElem?_map, hi]; rfl
      obtain ⟨l1, e1⟩ := List.getElem?_eq_some_iff.mp h1
      obtain ⟨l2, e2⟩ := List.getElem?_eq_some_iff.mp h2
      exact (List.getElem_inj nd).mp (e2.trans e1.symm)
  refine ⟨c1.trans C, fun q hq => ?_, fun q hq => ?_, by rw [hadr]; exact nd, fun q hq => ?_, fun q hq => ⟨by rw [hadr]; exact (b q hq).1, (b q hq).2⟩, fun x cl hx hn => ?_, ⟨by rw [hsz]; exact z.1, fun x cl hx => ?_⟩⟩
  · rcases hin q hq with rfl | ⟨hq, hne⟩
    · show h'[a]? = some c'
      rw [hw]; simp [hlt]
    · rw [ke _ hne]; exact o q hq
  · rw [ke q.1 fun e => (b q hq).1 (by rw [e]; exact mem_adr hmem)]; exact r q hq
  · rcases hin q hq with rfl | ⟨hq, -⟩
    · exact ⟨(al _ hmem).1, (al _ hmem).2.1, C.safe hlt hS⟩
    · exact ⟨(al q hq).1, (al q hq).2.1, C.safe (own_lt o hq) (al q hq).2.2⟩
  · have hx' := f x cl hx hn
    rw [ke x]
    · exact hx'
    · rintro rfl
      rcases (al _ hmem).2.1 with q | q
      · exact hn q
      · exact absurd (Array.getElem?_eq_some_iff.mp hx).1 (Nat.not_lt.mpr q)
  · rw [ke x]
    · exact z.2 x cl hx
    · rintro rfl
      exact absurd (Array.getElem?_eq_some_iff.mp hx).1 (Nat.not_lt.mpr (al _ hmem).1)
/-- fewer, or otherwise ordered -/
theorem Hp.sub (H : Hp Z EL σ0 ρ0 s σ ρ vm h) (hs : ∀ q ∈ σ', q ∈ σ) (nd : (adr σ').Nodup) (hr : ∀ q ∈ ρ', q ∈ ρ) : Hp Z EL σ0 ρ0 s σ' ρ' vm h := by
  obtain ⟨c, o, r, -, a, b, f⟩ := H
  refine ⟨c, o.sub hs, r.sub hr, nd, fun q hq => a q (hs q hq), fun q hq => ⟨fun hm => ?_, (b q (hr q hq)).2⟩, f⟩
  obtain ⟨q', hq', e⟩ := adr_mem hm
  exact (b q (hr q hq)).1 (e ▸ mem_adr (hs q' hq'))
/-- owned cells become read-only -/
theorem Hp.freeze (H : Hp Z EL σ0 ρ0 s (σ' ++ σ) ρ vm h) : Hp Z EL σ0 ρ0 s σ (σ' ++ ρ) vm h := by
  obtain ⟨c, o, r, nd, a, b, f⟩ := H
  have nd' := nd
  rw [adr, List.map_append, List.nodup_append] at nd'
  refine ⟨c, o.sub fun q hq => List.mem_append_right _ hq, own_app (o.sub fun q hq => List.mem_append_left _ hq) r, nd'.2.1, fun q hq => a q (List.mem_append_right _ hq), fun q hq => ?_, f⟩
  rcases List.mem_append.mp hq with hq | hq
  · refine ⟨fun hm => nd'.2.2 _ (mem_adr hq) _ hm rfl, ?_⟩
    rcases (a q (List.mem_append_left _ hq)).2.1 with z | z
    · exact Or.inr (Or.inl z)
    · exact Or.inr (Or.inr (Or.inl z))
  · refine ⟨fun hm => (b q hq).1 ?_, (b q hq).2⟩
    rw [adr, List.map_append]; exact List.mem_append_right _ hm
/-- a booked literal's cells are read-only -/
theorem Hp.lit (H : Hp Z EL σ0 ρ0 s σ ρ vm h) {a : Addr} {c : Cell} (ha : h[a]? = some c) (hb : ∀ x, Safe Z EL vm h x → x ≠ a) : Hp Z EL σ0 ρ0 s σ ((a, c) :: ρ) vm h := by
  obtain ⟨c1, o, r, nd, al, b, f⟩ := H
  refine ⟨c1, o, fun q hq => ?_, nd, al, fun q hq => ?_, f⟩
  · rcases List.mem_cons.mp hq with rfl | hq
    · exact ha
    · exact r q hq
  · rcases List.mem_cons.mp hq with rfl | hq
    · refine ⟨fun hm => ?_, ?_⟩
      · obtain ⟨q, hq, e⟩ := adr_mem hm
        exact hb _ (al q hq).2.2 e
      · have hB : Bk Z EL vm h a := Classical.byContradiction fun hn => hb a hn rfl
        rcases c1.2.2 a hB with z | z
        · exact Or.inr (Or.inr (Or.inr (Or.inl z)))
        · exact Or.inr (Or.inr (Or.inl z))
    · exact b q hq
/-- what stood at the law's start may be read -/
theorem Hp.old (H : Hp Z EL σ0 ρ0 s σ ρ vm h) {a : Addr} {c : Cell} (ha : Z.heap[a]? = some c) : Hp Z EL σ0 ρ0 s σ ((a, c) :: ρ) vm h := by
  obtain ⟨c1, o, r, nd, al, b, f, z⟩ := H
  have hlt : a < Z.heap.size := (Array.getElem?_eq_some_iff.mp ha).1
  refine ⟨c1, o, fun q hq => ?_, nd, al, fun q hq => ?_, f, z⟩
  · rcases List.mem_cons.mp hq with rfl | hq
    · exact z.2 _ _ ha
    · exact r q hq
  · rcases List.mem_cons.mp hq with rfl | hq
    · refine ⟨fun hm => ?_, Or.inr (Or.inr (Or.inr (Or.inr hlt)))⟩
      obtain ⟨q, hq, e⟩ := adr_mem hm
      exact absurd hlt (Nat.not_lt.mpr (by rw [show a = q.1 from e.symm]; exact (al q hq).1))
    · exact b q hq
/-- **THE FRAME RULE**: a callee that was handed σi and ρi gives back σ' and ρ' -/
theorem Hp.call {U : State} {σi σf ρi : HL} (H : Hp Z EL σ0 ρ0 s (σi ++ σf) ρ U.vm U.heap) (hρ : ∀ q ∈ ρi, q ∈ ρ) (Hc : Hp Z EL σi ρi U σ' ρ' vm1 h') : Hp Z EL σ0 ρ0 s (σ' ++ σf) (ρ' ++ ρ) vm1 h' := by
  obtain ⟨c, o, r, nd, a, b, f, z0⟩ := H
  obtain ⟨c', o', r', nd', a', b', f', z'⟩ := Hc
  have nd2 := nd
  rw [adr, List.map_append, List.nodup_append] at nd2
  have of : Own U.heap σf := o.sub fun q hq => List.mem_append_right _ hq
  have disj : ∀ x, x ∈ adr σi → x ∉ adr σf := fun x h1 h2 => nd2.2.2 x h1 x h2 rfl
  have inapp : ∀ x, x ∈ adr σi → x ∈ adr (σi ++ σf) := fun x hx => by rw [adr, List.map_append]; exact List.mem_append_left _ hx
  have inapp' : ∀ x, x ∈ adr σf → x ∈ adr (σi ++ σf) := fun x hx => by rw [adr, List.map_append]; exact List.mem_append_right _ hx
  have flt : ∀ x, x ∈ adr σf → x < U.heap.size := fun x hx => by obtain ⟨q, hq, rfl⟩ := adr_mem hx; exact own_lt of hq
  have orig : ∀ x, x ∈ adr σi → x ∈ adr σ0 ∨ s.heap.size ≤ x := fun x hx => by obtain ⟨q, hq, rfl⟩ := adr_mem hx; exact (a q (List.mem_append_left _ hq)).2.1
  have hs := c.2.1
  refine ⟨c.trans c', own_app o' fun q hq => f' _ _ (of q hq) fun hm => disj _ hm (mem_adr hq), own_app r' fun q hq => f' _ _ (r q hq) fun hm => (b q hq).1 (inapp _ hm), ?_, fun q hq => ?_, fun q hq => ?_, fun x cl hx hn => ?_, z'⟩
  · rw [adr, List.map_append, List.nodup_append]
    refine ⟨nd', nd2.2.1, fun x hx y hy e => ?_⟩
    subst e
    obtain ⟨q, hq, rfl⟩ := adr_mem hx
    rcases (a' q hq).2.1 with z | z
    · exact disj _ z hy
    · exact absurd (flt _ hy) (Nat.not_lt.mpr z)
  · rcases List.mem_append.mp hq with hq | hq
    · refine ⟨(a' q hq).1, ?_, (a' q hq).2.2⟩
      rcases (a' q hq).2.1 with z | z
      · exact orig _ z
      · exact Or.inr (Nat.le_trans hs z)
    · have z := a q (List.mem_append_right _ hq)
      exact ⟨z.1, z.2.1, c'.safe (own_lt of hq) z.2.2⟩
  · rcases List.mem_append.mp hq with hq | hq
    · have z := b' q hq
      refine ⟨fun hm => ?_, ?_⟩
      · rw [adr, List.map_append] at hm
        rcases List.mem_append.mp hm with hm | hm
        · exact z.1 hm
        · rcases z.2 with y | y | y | y | y
          · obtain ⟨q', hq', e⟩ := adr_mem y
            refine (b q' (hρ q' hq')).1 (inapp' _ ?_)
            rw [e]; exact hm
          · exact disj _ y hm
          · exact absurd (flt _ hm) (Nat.not_lt.mpr y)
          · obtain ⟨q', hq', e⟩ := adr_mem hm
            refine (a q' (List.mem_append_right _ hq')).2.2 ?_
            rw [e]; exact y
          · obtain ⟨q', hq', e⟩ := adr_mem hm
            exact absurd y (Nat.not_lt.mpr (e ▸ (a q' (List.mem_append_right _ hq')).1))
      · rcases z.2 with y | y | y | y | y
        · obtain ⟨q', hq', e⟩ := adr_mem y
          have := (b q' (hρ q' hq')).2
          rw [e] at this; exact this
        · rcases orig _ y with w | w
          · exact Or.inr (Or.inl w)
          · exact Or.inr (Or.inr (Or.inl w))
        · exact Or.inr (Or.inr (Or.inl (Nat.le_trans hs y)))
        · rcases c.2.2 _ y with w | w
          · exact Or.inr (Or.inr (Or.inr (Or.inl w)))
          · exact Or.inr (Or.inr (Or.inl w))
        · exact Or.inr (Or.inr (Or.inr (Or.inr y)))
    · have z := b q hq
      refine ⟨fun hm => ?_, z.2⟩
      rw [adr, List.map_append] at hm
      rcases List.mem_append.mp hm with hm | hm
      · obtain ⟨q', hq', e⟩ := adr_mem hm
        rcases (a' q' hq').2.1 with y | y
        · refine z.1 (inapp _ ?_)
          rw [← e]; exact y
        · exact absurd (own_lt r hq) (Nat.not_lt.mpr (e ▸ y))
      · exact z.1 (inapp' _ hm)
  · refine f' x cl (f x cl hx hn) fun hm => ?_
    rcases orig _ hm with z | z
    · exact hn z
    · exact absurd (Array.getElem?_eq_some_iff.mp hx).1 (Nat.not_lt.mpr z)
end HpLaws
/-! ## own: the walk's point (Wk), what is still to be reached (Go), a contract (Met) -/
abbrev Ctx := Program × Env × State × MethodId × Array Value × List Frame × Method × Code × HL × HL
abbrev Ctx.p (X : Ctx) : Program := X.1
abbrev Ctx.e (X : Ctx) : Env := X.2.1
abbrev Ctx.s (X : Ctx) : State := X.2.2.1
abbrev Ctx.m (X : Ctx) : MethodId := X.2.2.2.1
abbrev Ctx.args (X : Ctx) : Array Value := X.2.2.2.2.1
abbrev Ctx.below (X : Ctx) : List Frame := X.2.2.2.2.2.1
abbrev Ctx.meth (X : Ctx) : Method := X.2.2.2.2.2.2.1
abbrev Ctx.c (X : Ctx) : Code := X.2.2.2.2.2.2.2.1
abbrev Ctx.so (X : Ctx) : HL := X.2.2.2.2.2.2.2.2.1
abbrev Ctx.ro (X : Ctx) : HL := X.2.2.2.2.2.2.2.2.2
def Wk (l : Launch) (Z : State) (EL : List (String × Nat)) (R : Room) (own : String) (bytes : ByteArray) (maxL : Nat) (ret : Option FieldType) (nm : String) (X : Ctx) (σ ρ : HL) (T : State) (k n : Nat) : Prop :=
  (X.p.tables.exec = Jvm.exec ∧ X.c.code = bytes ∧ X.c.maxLocals = maxL ∧ X.meth.sig.returnType = ret ∧ X.meth.locks = false ∧ X.meth.name = nm ∧ ∃ a : Array Value, EW Z a EL) ∧
  ∃ (vm0 : Vm) (k0 : Nat) (locs : List Loc), Stand X.p l X.e R (X.s.setVm vm0) X.m X.args X.below X.meth X.c T locs k n ∧ X.s.Since vm0 k0 ∧ k0 ≤ T.heap.size ∧ Z.Warmed39 vm0 ∧ vm0.findClass own = some X.m.cls ∧ Fr Z.heap.size locs ∧ Hp Z EL X.so X.ro X.s σ ρ vm0 T.heap
def Go (Z : State) (EL : List (String × Nat)) (K N : Nat) (Q : Option Value → HL → HL → Prop) (X : Ctx) (T : State) (pc : Nat) (Ls : Array Slot) (st : List Value) : Prop :=
  ∃ (s₂ : State) (o : Outcome), Steps X.p.tables X.e X.below (T.setTop (mkF X.m pc Ls st)) s₂ ∧ s₂.status = .running ∧ Ended s₂ X.below o ∧
    ∃ v σ ρ L, o = .returned v ∧ Q v σ ρ ∧ Fr Z.heap.size L ∧ Hp Z EL X.so X.ro X.s σ ρ s₂.vm s₂.heap ∧ ReturnedEndW X.s o s₂ L K N
def Met (l : Launch) (Z : State) (EL : List (String × Nat)) (y : MethodName) (bytes : ByteArray) (maxL : Nat) (ret : Option FieldType) (rm : Room) (as' : Array Value) (σi ρi : HL) (Q : Option Value → HL → HL → Prop) : Prop :=
  MetFree l y (head1 [Jvm.Cond.code y bytes maxL ret] rm) (fun a U => a = as' ∧ Z.Warmed39 U.vm ∧ Hp Z EL σi ρi U σi ρi U.vm U.heap) (fun _ _ _ _ _ => True)
    (fun _ U o U' => ∃ v σ ρ L, o = .returned v ∧ Q v σ ρ ∧ Fr Z.heap.size L ∧ Hp Z EL σi ρi U σ ρ U'.vm U'.heap ∧ ReturnedEndW U o U' L rm.cells rm.slots)
section WkLaws
variable {l : Launch} {Z : State} {a0 : Array Value} {EL : List (String × Nat)} {R : Room} {own : String} {bytes : ByteArray} {maxL : Nat} {ret : Option FieldType} {nm : String} {X : Ctx} {σ ρ σ' ρ' : HL} {T T' : State} {k n K N : Nat} {Q Q' : Option Value → HL → HL → Prop} {pc pc' : Nat} {Ls Ls' : Array Slot} {st st' : List Value}
theorem Wk.here (W : Wk l Z EL R own bytes maxL ret nm X σ ρ T k n) : At T X.m X.c X.below := by obtain ⟨-, _, _, _, Y, -⟩ := W; exact Y.here
theorem Wk.hx (W : Wk l Z EL R own bytes maxL ret nm X σ ρ T k n) : X.p.tables.exec = Jvm.exec := W.1.1
theorem Wk.hb (W : Wk l Z EL R own bytes maxL ret nm X σ ρ T k n) {r : Except ClassFile.DecodeError (ClassFile.Instr × Nat)} (hd : decode bytes pc = r) : decode X.c.code pc = r := by rw [W.1.2.1]; exact hd
theorem Go.by (f : ∀ t, Steps X.p.tables X.e X.below (T'.setTop (mkF X.m pc' Ls' st')) t → Steps X.p.tables X.e X.below (T.setTop (mkF X.m pc Ls st)) t) (r : Go Z EL K N Q X T' pc' Ls' st') : Go Z EL K N Q X T pc Ls st := by
  obtain ⟨s2, o, h1, h2⟩ := r
  exact ⟨s2, o, f _ h1, h2⟩
theorem Go.mono (h : ∀ v σ ρ, Q v σ ρ → Q' v σ ρ) (r : Go Z EL K N Q X T pc Ls st) : Go Z EL K N Q' X T pc Ls st := by
  obtain ⟨s2, o, h1, h2, h3, v, a, b, L, e, q, r⟩ := r
  exact ⟨s2, o, h1, h2, h3, v, a, b, L, e, h _ _ _ q, r⟩
theorem Met.mono {y : MethodName} {rm : Room} {as' : Array Value} (h : ∀ v σ ρ, Q v σ ρ → Q' v σ ρ) (M : Met l Z EL y bytes maxL ret rm as' σ ρ Q) : Met l Z EL y bytes maxL ret rm as' σ ρ Q' :=
  fun p e ha hc hk s m args below hf happ hP hK => by
    obtain ⟨n, o, h1, h2, h3, v, s1, r1, L, e1, q, r⟩ := M p e ha hc hk s m args below hf happ hP hK
    exact ⟨n, o, h1, h2, h3, v, s1, r1, L, e1, h _ _ _ q, r⟩
theorem Hp.enter {s U : State} {σ0 ρ0 σi σf ρi : HL} (H : Hp Z EL σ0 ρ0 s (σi ++ σf) ρ U.vm U.heap) (hρ : ∀ q ∈ ρi, q ∈ ρ) : Hp Z EL σi ρi U σi ρi U.vm U.heap := by
  obtain ⟨c, o, r, nd, a, b, f, z0⟩ := H
  rw [adr, List.map_append, List.nodup_append] at nd
  refine ⟨CHr.refl c.1, o.sub fun q hq => List.mem_append_left _ hq, r.sub hρ, nd.1, fun q hq => ?_, fun q hq => ⟨fun hm => (b q (hρ q hq)).1 ?_, Or.inl (mem_adr hq)⟩, fun _ _ q _ => q, z0⟩
  · have z := a q (List.mem_append_left _ hq)
    exact ⟨z.1, Or.inl (mem_adr hq), z.2.2⟩
  · rw [adr, List.map_append]; exact List.mem_append_left _ hm
/-- a walk of the body meets the contract -/
theorem Met.walk {y : MethodName} {rm : Room} {as' : Array Value} {σi ρi : HL} (hEL : EW Z a0 EL) (hp : plainName y.cls = true) (Ls0 : Array Slot) (ent : ∀ m, entryFrame m as' maxL = mkF m 0 Ls0 [])
    (w : ∀ (X : Ctx) (T : State), Wk l Z EL rm y.cls bytes maxL ret y.name X σi ρi T 0 0 → Go Z EL rm.cells rm.slots Q X T 0 Ls0 []) : Met l Z EL y bytes maxL ret rm as' σi ρi Q := by
  refine MetFree.of_bodySF (plainFor_of_name hp) hisR ?_
  intro p e s m args below meth c s₁ Bd hml hP hK
  obtain ⟨rfl, hZ, H⟩ := hP
  have X0 : Stand p l e rm s m args below meth c s₁ [] 0 0 := Stand.of_body Bd
  have e0 : s₁.heap = s.heap := by rw [Bd.state]; rfl
  obtain ⟨s2, o, h1, h2, h3, h4⟩ := w (p, e, s, m, args, below, meth, c, σi, ρi) s₁ ⟨⟨Bd.exec, Bd.bytes, hml, Bd.returns, Bd.notSynchronized, (name_of_methodNamed Bd.named Bd.method).1, a0, hEL⟩, s.vm, s.heap.size, [], X0, (State.WarmedH.refl s).since _, by rw [e0]; exact Nat.le_refl _, hZ, findClass_of_methodNamed Bd.named, Fr.nil _, by rw [e0]; exact H⟩
  exact ⟨s2, o, castTop (ent m) h1, h2, h3, h4⟩
/-- a contract pays a call -/
theorem Met.back {p : Program} {e : Env} {below : List Frame} {s : State} {args : Array Value} {vm0 : Vm} {y : MethodName} {rm : Room} {as' : Array Value} {σi ρi σf σ0 ρ0 : HL} {len W : Nat} {h : Heap} (M : Met l Z EL y bytes maxL ret rm as' σi ρi Q)
    (hZ : Z.Warmed39 vm0) (wc : (Jvm.Cond.code y bytes maxL ret).before a0 Z = true) (wz : (Jvm.Cond.initialized y.cls).before a0 Z = true) (hf : rm.frames + 1 ≤ R.frames) (hl : W + (maxL + 11) + rm.locals ≤ R.locals) {a1 : Array Value} (hEL : EW Z a1 EL)
    (H : Hp Z EL σ0 ρ0 s (σi ++ σf) ρ vm0 h) (hρ : ∀ q ∈ ρi, q ∈ ρ) :
    BackS l R p e below (s.setVm vm0) args y len W (fun A a => a = as' ∧ A.U.heap = h ∧ A.cells + rm.cells ≤ R.cells ∧ A.slots + rm.slots ≤ R.slots)
      (fun A _ v B => ∃ σ' ρ' L, Q v σ' ρ' ∧ Fr Z.heap.size L ∧ Hp Z EL σ0 ρ0 s (σ' ++ σf) (ρ' ++ ρ) B.U.vm B.U.heap ∧ B.locs = A.locs ++ L ∧ B.cells = A.cells + rm.cells ∧ B.slots = A.slots + rm.slots) := by
  have key : ∀ m meth c (A : Pt) (g : JFrame) mk (a : Array Value), Stand p l e R (s.setVm vm0) m args below meth c A.U A.locs A.cells A.slots → A.U.heap = h → Hp Z EL σ0 ρ0 s (σi ++ σf) ρ (A.U.calling g mk a).vm (A.U.calling g mk a).heap := fun m meth c A g mk a Y hp => by
    have C := CHv.at Y hZ hEL H.1.1
    have q := H.later C ⟨Nat.le_refl _, fun _ _ z => z⟩
    show Hp Z EL σ0 ρ0 s (σi ++ σf) ρ A.U.vm A.U.heap
    rw [hp]; exact q
  refine BackS.of_freeW (bytes := bytes) (maxL := maxL) (ret := ret) (E := fun _ first o t L k n => k = rm.cells ∧ n = rm.slots ∧ ∃ v σ ρ, o = .returned v ∧ Q v σ ρ ∧ Fr Z.heap.size L ∧ Hp Z EL σi ρi first σ ρ t.vm t.heap) M hf hl
    (fun m meth c A a Y hp => have hU : Z.Warmed39 A.U.vm := wtrans (s := s.setVm vm0) hZ Y.warmed
      ⟨by show (Jvm.Cond.and _ .tt).before a A.U = true; rw [Cond.before_and, mv hU wc]; rfl, mv hU wc, mv hU wz, hp.2.2.1, hp.2.2.2⟩)
    (fun m meth c A a g mk Y hp => ⟨hp.1, wtrans (s := s.setVm vm0) hZ Y.warmed, (key m meth c A g mk a Y hp.2.1).enter hρ⟩) (fun _ _ _ _ _ _ _ _ _ => trivial)
    (fun _ _ _ _ ⟨v, s1, r1, L, h1, h2, h3, h4, h5⟩ => ⟨L, _, _, h5, rfl, rfl, v, s1, r1, h1, h2, h3, h4⟩) ?_
  intro m meth c A a g mk v t L k n Y hp _ _ ⟨e1, e2, v', s1, r1, e3, e4, e5, e6⟩
  cases e3
  subst e1 e2
  exact ⟨s1, r1, L, e4, e5, (key m meth c A g mk a Y hp.2.1).call hρ e6, rfl, rfl, rfl⟩
/-! picking out of lists -/
def takeAt {α : Type} : Nat → List α → Option (α × List α)
  | _, [] => none
  | 0, x :: l => some (x, l)
  | i + 1, x :: l => match takeAt i l with
    | none => none
    | some (y, l') => some (y, x :: l')
def pick {α : Type} : List Nat → List α → Option (List α × List α)
  | [], l => some ([], l)
  | i :: is, l => match takeAt i l with
    | none => none
    | some (x, l') => match pick is l' with
      | none => none
      | some (a, b) => some (x :: a, b)
theorem takeAt_perm {α : Type} : ∀ (i : Nat) (l : List α) (x : α) (l' : List α), takeAt i l = some (x, l') → (x :: l').Perm l
  | _, [], _, _, h => by simp [takeAt] at h
  | 0, y :: l, x, l', h => by simp [takeAt] at h; obtain ⟨rfl, rfl⟩ := h; exact List.Perm.refl _
  | i + 1, y :: l, x, l', h => by
    simp only [takeAt] at h
    cases hq : takeAt i l with
    | none => simp [hq] at h
    | some q =>
      obtain ⟨z, l2⟩ := q
      simp [hq] at h
      obtain ⟨rfl, rfl⟩ := h
      exact (List.Perm.swap _ _ _).trans ((takeAt_perm i l z l2 hq).cons y)
theorem pick_perm {α : Type} : ∀ (is : List Nat) (l a b : List α), pick is l = some (a, b) → (a ++ b).Perm l
  | [], l, a, b, h => by simp [pick] at h; obtain ⟨rfl, rfl⟩ := h; exact List.Perm.refl _
  | i :: is, l, a, b, h => by
    simp only [pick] at h
    cases hq : takeAt i l with
    | none => simp [hq] at h
    | some q =>
      obtain ⟨x, l'⟩ := q
      cases hp : pick is l' with
      | none => simp [hq, hp] at h
      | some r =>
        obtain ⟨a', b'⟩ := r
        simp [hq, hp] at h
        obtain ⟨rfl, rfl⟩ := h
        exact ((pick_perm is l' a' b' hp).cons x).trans (takeAt_perm i l x l' hq)
theorem Hp.perm {s : State} {σ0 ρ0 : HL} {vm : Vm} {h : Heap} (H : Hp Z EL σ0 ρ0 s σ ρ vm h) (hp : σ'.Perm σ) : Hp Z EL σ0 ρ0 s σ' ρ vm h :=
  H.sub (fun q hq => hp.mem_iff.mp hq) ((hp.map Prod.fst).nodup_iff.mpr H.2.2.2.1) fun _ q => q
def roOf (is : List Nat) (ρ ρi : HL) : Prop := is.map (fun i => ρ[i]?) = ρi.map some
theorem roOf.mem {is : List Nat} {ρi : HL} (h : roOf is ρ ρi) : ∀ q ∈ ρi, q ∈ ρ := fun q hq => by
  have h1 : some q ∈ ρi.map some := List.mem_map.mpr ⟨q, hq, rfl⟩
  rw [← h] at h1
  obtain ⟨i, -, e⟩ := List.mem_map.mp h1
  exact List.mem_of_getElem? e
theorem Wk.perm (W : Wk l Z EL R own bytes maxL ret nm X σ ρ T k n) (hp : σ'.Perm σ) : Wk l Z EL R own bytes maxL ret nm X σ' ρ T k n := by
  obtain ⟨w, vm0, k0, locs, a, b, c, d, e, f, H⟩ := W
  exact ⟨w, vm0, k0, locs, a, b, c, d, e, f, H.perm hp⟩
/-- owned cells become read-only -/
theorem Wk.freeze (W : Wk l Z EL R own bytes maxL ret nm X σ ρ T k n) (is : List Nat) {σi σf : HL} (hp : pick is σ = some (σi, σf)) : Wk l Z EL R own bytes maxL ret nm X σf (σi ++ ρ) T k n := by
  obtain ⟨w, vm0, k0, locs, a, b, c, d, e, f, H⟩ := W
  exact ⟨w, vm0, k0, locs, a, b, c, d, e, f, (H.perm (pick_perm _ _ _ _ hp)).freeze⟩
/-- cells forgotten -/
theorem Wk.drop (W : Wk l Z EL R own bytes maxL ret nm X σ ρ T k n) (is : List Nat) {σi σf : HL} (hp : pick is σ = some (σi, σf)) : Wk l Z EL R own bytes maxL ret nm X σf ρ T k n := by
  obtain ⟨w, vm0, k0, locs, a, b, c, d, e, f, H⟩ := W
  have H' := H.perm (pick_perm _ _ _ _ hp)
  refine ⟨w, vm0, k0, locs, a, b, c, d, e, f, H'.sub (fun q hq => List.mem_append_right _ hq) ?_ fun _ q => q⟩
  have nd := H'.2.2.2.1
  rw [adr, List.map_append, List.nodup_append] at nd
  exact nd.2.1
theorem Wk.keepRo (W : Wk l Z EL R own bytes maxL ret nm X σ ρ T k n) (is : List Nat) (hp : roOf is ρ ρ') : Wk l Z EL R own bytes maxL ret nm X σ ρ' T k n := by
  obtain ⟨w, vm0, k0, locs, a, b, c, d, e, f, H⟩ := W
  exact ⟨w, vm0, k0, locs, a, b, c, d, e, f, H.sub (fun _ q => q) H.2.2.2.1 hp.mem⟩
theorem Wk.old (W : Wk l Z EL R own bytes maxL ret nm X σ ρ T k n) {a : Addr} {c : Cell} (ha : Z.heap[a]? = some c) : Wk l Z EL R own bytes maxL ret nm X σ ((a, c) :: ρ) T k n := by
  obtain ⟨w, vm0, k0, locs, a, b, c, d, e, f, H⟩ := W
  exact ⟨w, vm0, k0, locs, a, b, c, d, e, f, H.old ha⟩
theorem Wk.more (W : Wk l Z EL R own bytes maxL ret nm X σ ρ T k n) {k' n' : Nat} (hk : k ≤ k') (hn : n ≤ n') : Wk l Z EL R own bytes maxL ret nm X σ ρ T k' n' := by
  obtain ⟨w, vm0, k0, locs, a, b⟩ := W
  exact ⟨w, vm0, k0, locs, a.more hk hn, b⟩
theorem Wk.ext (W : Wk l Z EL R own bytes maxL ret nm X σ ρ T k n) : Ext Z.heap T.heap := by
  obtain ⟨w, vm0, k0, locs, a, b, c, d, e, f, H⟩ := W
  exact H.2.2.2.2.2.2.2
theorem Wk.cell (W : Wk l Z EL R own bytes maxL ret nm X σ ρ T k n) {q : Addr × Cell} (hq : q ∈ σ ∨ q ∈ ρ ∨ Z.heap[q.1]? = some q.2) : T.heap[q.1]? = some q.2 := by
  obtain ⟨w, vm0, k0, locs, a, b, c, d, e, f, H⟩ := W
  exact hq.elim (H.2.1 q) fun z => z.elim (H.2.2.1 q) (H.2.2.2.2.2.2.2.2 _ _)
end WkLaws
/-! ## own: single steps in the Go form (printed by gen_steps.py) -/
section StepLaws
variable {l : Launch} {Z : State} {a0 : Array Value} {EL : List (String × Nat)} {R : Room} {own : String} {bytes : ByteArray} {maxL : Nat} {ret : Option FieldType} {nm : String} {X : Ctx} {σ ρ : HL} {T : State} {k n K N : Nat} {Q : Option Value → HL → HL → Prop} {pc pc' : Nat} {Ls : Array Slot} {st : List Value}
theorem Go.aload (W : Wk l Z EL R own bytes maxL ret nm X σ ρ T k n) {k' : Nat} {v : Value} (hd : decode bytes pc = .ok (.aload k', 2)) (hl : Ls[k']? = some (.val v)) (hv : v.isRef = true) (hp : pc + 2 = pc') (r : Go Z EL K N Q X T pc' Ls (v :: st)) : Go Z EL K N Q X T pc Ls st :=
  Go.by (fun t kk => XS.aload W.here W.hx rfl (W.hb hd) hl hv (by subst hp; exact kk)) r
theorem Go.aloadN (W : Wk l Z EL R own bytes maxL ret nm X σ ρ T k n) {k' : Fin 4} {v : Value} (hd : decode bytes pc = .ok (.aload_n k', 1)) (hl : Ls[k'.val]? = some (.val v)) (hv : v.isRef = true) (hp : pc + 1 = pc') (r : Go Z EL K N Q X T pc' Ls (v :: st)) : Go Z EL K N Q X T pc Ls st :=
  Go.by (fun t kk => XS.aloadN W.here W.hx rfl (W.hb hd) hl hv (by subst hp; exact kk)) r
theorem Go.iload (W : Wk l Z EL R own bytes maxL ret nm X σ ρ T k n) {k' : Nat} {v : Int32} (hd : decode bytes pc = .ok (.iload k', 2)) (hl : Ls[k']? = some (.val (.int v))) (hp : pc + 2 = pc') (r : Go Z EL K N Q X T pc' Ls (.int v :: st)) : Go Z EL K N Q X T pc Ls st :=
  Go.by (fun t kk => XS.iload W.here W.hx rfl (W.hb hd) hl (by subst hp; exact kk)) r
theorem Go.iloadN (W : Wk l Z EL R own bytes maxL ret nm X σ ρ T k n) {k' : Fin 4} {v : Int32} (hd : decode bytes pc = .ok (.iload_n k', 1)) (hl : Ls[k'.val]? = some (.val (.int v))) (hp : pc + 1 = pc') (r : Go Z EL K N Q X T pc' Ls (.int v :: st)) : Go Z EL K N Q X T pc Ls st :=
  Go.by (fun t kk => XS.iloadN W.here W.hx rfl (W.hb hd) hl (by subst hp; exact kk)) r
theorem Go.lload (W : Wk l Z EL R own bytes maxL ret nm X σ ρ T k n) {k' : Nat} {v : Int64} (hd : decode bytes pc = .ok (.lload k', 2)) (hl : Ls[k']? = some (.val (.long v))) (hp : pc + 2 = pc') (r : Go Z EL K N Q X T pc' Ls (.long v :: st)) : Go Z EL K N Q X T pc Ls st :=
  Go.by (fun t kk => XT.lload W.here W.hx rfl (W.hb hd) hl (by subst hp; exact kk)) r
theorem Go.lloadN (W : Wk l Z EL R own bytes maxL ret nm X σ ρ T k n) {k' : Fin 4} {v : Int64} (hd : decode bytes pc = .ok (.lload_n k', 1)) (hl : Ls[k'.val]? = some (.val (.long v))) (hp : pc + 1 = pc') (r : Go Z EL K N Q X T pc' Ls (.long v :: st)) : Go Z EL K N Q X T pc Ls st :=
  Go.by (fun t kk => XT.lloadN W.here W.hx rfl (W.hb hd) hl (by subst hp; exact kk)) r
theorem Go.istore (W : Wk l Z EL R own bytes maxL ret nm X σ ρ T k n) {k' : Nat} {x : Int32} (Ls' : Array Slot) (hd : decode bytes pc = .ok (.istore k', 2)) (hl : storeLocals Ls k' (.int x) = some Ls') (hp : pc + 2 = pc') (r : Go Z EL K N Q X T pc' Ls' st) : Go Z EL K N Q X T pc Ls (.int x :: st) :=
  Go.by (fun t kk => XS.istore W.here W.hx rfl (W.hb hd) rfl hl (by subst hp; exact kk)) r
theorem Go.istoreN (W : Wk l Z EL R own bytes maxL ret nm X σ ρ T k n) {k' : Fin 4} {x : Int32} (Ls' : Array Slot) (hd : decode bytes pc = .ok (.istore_n k', 1)) (hl : storeLocals Ls k'.val (.int x) = some Ls') (hp : pc + 1 = pc') (r : Go Z EL K N Q X T pc' Ls' st) : Go Z EL K N Q X T pc Ls (.int x :: st) :=
  Go.by (fun t kk => XS.istoreN W.here W.hx rfl (W.hb hd) rfl hl (by subst hp; exact kk)) r
theorem Go.astore (W : Wk l Z EL R own bytes maxL ret nm X σ ρ T k n) {k' : Nat} {x : Value} (Ls' : Array Slot) (hd : decode bytes pc = .ok (.astore k', 2)) (hv : x.isRef = true) (hl : storeLocals Ls k' x = some Ls') (hp : pc + 2 = pc') (r : Go Z EL K N Q X T pc' Ls' st) : Go Z EL K N Q X T pc Ls (x :: st) :=
  Go.by (fun t kk => XS.astore W.here W.hx rfl (W.hb hd) rfl hv hl (by subst hp; exact kk)) r
theorem Go.astoreN (W : Wk l Z EL R own bytes maxL ret nm X σ ρ T k n) {k' : Fin 4} {x : Value} (Ls' : Array Slot) (hd : decode bytes pc = .ok (.astore_n k', 1)) (hv : x.isRef = true) (hl : storeLocals Ls k'.val x = some Ls') (hp : pc + 1 = pc') (r : Go Z EL K N Q X T pc' Ls' st) : Go Z EL K N Q X T pc Ls (x :: st) :=
  Go.by (fun t kk => XS.astoreN W.here W.hx rfl (W.hb hd) rfl hv hl (by subst hp; exact kk)) r
theorem Go.lstore (W : Wk l Z EL R own bytes maxL ret nm X σ ρ T k n) {k' : Nat} {x : Int64} (Ls' : Array Slot) (hd : decode bytes pc = .ok (.lstore k', 2)) (hl : storeLocals Ls k' (.long x) = some Ls') (hp : pc + 2 = pc') (r : Go Z EL K N Q X T pc' Ls' st) : Go Z EL K N Q X T pc Ls (.long x :: st) :=
  Go.by (fun t kk => XT.lstore W.here W.hx rfl (W.hb hd) rfl hl (by subst hp; exact kk)) r
theorem Go.lstoreN (W : Wk l Z EL R own bytes maxL ret nm X σ ρ T k n) {k' : Fin 4} {x : Int64} (Ls' : Array Slot) (hd : decode bytes pc = .ok (.lstore_n k', 1)) (hl : storeLocals Ls k'.val (.long x) = some Ls') (hp : pc + 1 = pc') (r : Go Z EL K N Q X T pc' Ls' st) : Go Z EL K N Q X T pc Ls (.long x :: st) :=
  Go.by (fun t kk => XT.lstoreN W.here W.hx rfl (W.hb hd) rfl hl (by subst hp; exact kk)) r
theorem Go.iconst (W : Wk l Z EL R own bytes maxL ret nm X σ ρ T k n) {i : Int} (v : Int32) (hd : decode bytes pc = .ok (.iconst i, 1)) (hv : Int32.ofInt i = v) (hp : pc + 1 = pc') (r : Go Z EL K N Q X T pc' Ls (.int v :: st)) : Go Z EL K N Q X T pc Ls st :=
  Go.by (fun t kk => XS.iconst W.here W.hx rfl (W.hb hd)  (by subst hp; subst hv; exact kk)) r
theorem Go.bipush (W : Wk l Z EL R own bytes maxL ret nm X σ ρ T k n) {i : Int} (v : Int32) (hd : decode bytes pc = .ok (.bipush i, 2)) (hv : (Int8.ofInt i).toInt32 = v) (hp : pc + 2 = pc') (r : Go Z EL K N Q X T pc' Ls (.int v :: st)) : Go Z EL K N Q X T pc Ls st :=
  Go.by (fun t kk => XS.bipush W.here W.hx rfl (W.hb hd)  (by subst hp; subst hv; exact kk)) r
theorem Go.sipush (W : Wk l Z EL R own bytes maxL ret nm X σ ρ T k n) {i : Int} (v : Int32) (hd : decode bytes pc = .ok (.sipush i, 3)) (hv : (Int16.ofInt i).toInt32 = v) (hp : pc + 3 = pc') (r : Go Z EL K N Q X T pc' Ls (.int v :: st)) : Go Z EL K N Q X T pc Ls st :=
  Go.by (fun t kk => XS.sipush W.here W.hx rfl (W.hb hd)  (by subst hp; subst hv; exact kk)) r
theorem Go.lconst (W : Wk l Z EL R own bytes maxL ret nm X σ ρ T k n) {i : Fin 2} (v : Int64) (hd : decode bytes pc = .ok (.lconst i, 1)) (hv : Int64.ofNat i = v) (hp : pc + 1 = pc') (r : Go Z EL K N Q X T pc' Ls (.long v :: st)) : Go Z EL K N Q X T pc Ls st :=
  Go.by (fun t kk => XT.lconst W.here W.hx rfl (W.hb hd)  (by subst hp; subst hv; exact kk)) r
theorem Go.aconstNull (W : Wk l Z EL R own bytes maxL ret nm X σ ρ T k n)  (hd : decode bytes pc = .ok (.aconst_null, 1))  (hp : pc + 1 = pc') (r : Go Z EL K N Q X T pc' Ls (.null :: st)) : Go Z EL K N Q X T pc Ls st :=
  Go.by (fun t kk => XS.aconstNull W.here W.hx rfl (W.hb hd)  (by subst hp; exact kk)) r
theorem Go.iadd (W : Wk l Z EL R own bytes maxL ret nm X σ ρ T k n) {x y : Int32} (hd : decode bytes pc = .ok (.iadd, 1))  (hp : pc + 1 = pc') (r : Go Z EL K N Q X T pc' Ls (.int (x + y) :: st)) : Go Z EL K N Q X T pc Ls (.int y :: .int x :: st) :=
  Go.by (fun t kk => XS.iadd W.here W.hx rfl (W.hb hd) rfl (by subst hp; exact kk)) r
theorem Go.isub (W : Wk l Z EL R own bytes maxL ret nm X σ ρ T k n) {x y : Int32} (hd : decode bytes pc = .ok (.isub, 1))  (hp : pc + 1 = pc') (r : Go Z EL K N Q X T pc' Ls (.int (x - y) :: st)) : Go Z EL K N Q X T pc Ls (.int y :: .int x :: st) :=
  Go.by (fun t kk => XS.isub W.here W.hx rfl (W.hb hd) rfl (by subst hp; exact kk)) r
theorem Go.imul (W : Wk l Z EL R own bytes maxL ret nm X σ ρ T k n) {x y : Int32} (hd : decode bytes pc = .ok (.imul, 1))  (hp : pc + 1 = pc') (r : Go Z EL K N Q X T pc' Ls (.int (x * y) :: st)) : Go Z EL K N Q X T pc Ls (.int y :: .int x :: st) :=
  Go.by (fun t kk => XS.imul W.here W.hx rfl (W.hb hd) rfl (by subst hp; exact kk)) r
theorem Go.iand (W : Wk l Z EL R own bytes maxL ret nm X σ ρ T k n) {x y : Int32} (hd : decode bytes pc = .ok (.iand, 1))  (hp : pc + 1 = pc') (r : Go Z EL K N Q X T pc' Ls (.int (x &&& y) :: st)) : Go Z EL K N Q X T pc Ls (.int y :: .int x :: st) :=
  Go.by (fun t kk => XS.iand W.here W.hx rfl (W.hb hd) rfl (by subst hp; exact kk)) r
theorem Go.ior (W : Wk l Z EL R own bytes maxL ret nm X σ ρ T k n) {x y : Int32} (hd : decode bytes pc = .ok (.ior, 1))  (hp : pc + 1 = pc') (r : Go Z EL K N Q X T pc' Ls (.int (x ||| y) :: st)) : Go Z EL K N Q X T pc Ls (.int y :: .int x :: st) :=
  Go.by (fun t kk => XT.ior W.here W.hx rfl (W.hb hd) rfl (by subst hp; exact kk)) r
theorem Go.ixor (W : Wk l Z EL R own bytes maxL ret nm X σ ρ T k n) {x y : Int32} (hd : decode bytes pc = .ok (.ixor, 1))  (hp : pc + 1 = pc') (r : Go Z EL K N Q X T pc' Ls (.int (x ^^^ y) :: st)) : Go Z EL K N Q X T pc Ls (.int y :: .int x :: st) :=
  Go.by (fun t kk => XT.ixor W.here W.hx rfl (W.hb hd) rfl (by subst hp; exact kk)) r
theorem Go.ishl (W : Wk l Z EL R own bytes maxL ret nm X σ ρ T k n) {x y : Int32} (hd : decode bytes pc = .ok (.ishl, 1))  (hp : pc + 1 = pc') (r : Go Z EL K N Q X T pc' Ls (.int (x <<< (y &&& 31)) :: st)) : Go Z EL K N Q X T pc Ls (.int y :: .int x :: st) :=
  Go.by (fun t kk => XT.ishl W.here W.hx rfl (W.hb hd) rfl (by subst hp; exact kk)) r
theorem Go.ishr (W : Wk l Z EL R own bytes maxL ret nm X σ ρ T k n) {x y : Int32} (hd : decode bytes pc = .ok (.ishr, 1))  (hp : pc + 1 = pc') (r : Go Z EL K N Q X T pc' Ls (.int (x >>> (y &&& 31)) :: st)) : Go Z EL K N Q X T pc Ls (.int y :: .int x :: st) :=
  Go.by (fun t kk => XT.ishr W.here W.hx rfl (W.hb hd) rfl (by subst hp; exact kk)) r
theorem Go.iushr (W : Wk l Z EL R own bytes maxL ret nm X σ ρ T k n) {x y : Int32} (hd : decode bytes pc = .ok (.iushr, 1))  (hp : pc + 1 = pc') (r : Go Z EL K N Q X T pc' Ls (.int ((x.toUInt32 >>> (y &&& 31).toUInt32).toInt32) :: st)) : Go Z EL K N Q X T pc Ls (.int y :: .int x :: st) :=
  Go.by (fun t kk => XT.iushr W.here W.hx rfl (W.hb hd) rfl (by subst hp; exact kk)) r
theorem Go.idiv (W : Wk l Z EL R own bytes maxL ret nm X σ ρ T k n) {x y : Int32} (hd : decode bytes pc = .ok (.idiv, 1)) (hy : y ≠ 0) (hp : pc + 1 = pc') (r : Go Z EL K N Q X T pc' Ls (.int (x / y) :: st)) : Go Z EL K N Q X T pc Ls (.int y :: .int x :: st) :=
  Go.by (fun t kk => XS.idiv W.here W.hx rfl (W.hb hd) rfl hy (by subst hp; exact kk)) r
theorem Go.irem (W : Wk l Z EL R own bytes maxL ret nm X σ ρ T k n) {x y : Int32} (hd : decode bytes pc = .ok (.irem, 1)) (hy : y ≠ 0) (hp : pc + 1 = pc') (r : Go Z EL K N Q X T pc' Ls (.int (x % y) :: st)) : Go Z EL K N Q X T pc Ls (.int y :: .int x :: st) :=
  Go.by (fun t kk => XS.irem W.here W.hx rfl (W.hb hd) rfl hy (by subst hp; rw [irem_eq_mod x y]; exact kk)) r
theorem Go.ineg (W : Wk l Z EL R own bytes maxL ret nm X σ ρ T k n) {x : Int32} (hd : decode bytes pc = .ok (.ineg, 1))  (hp : pc + 1 = pc') (r : Go Z EL K N Q X T pc' Ls (.int (-x) :: st)) : Go Z EL K N Q X T pc Ls (.int x :: st) :=
  Go.by (fun t kk => XS.ineg W.here W.hx rfl (W.hb hd) rfl (by subst hp; exact kk)) r
theorem Go.i2b (W : Wk l Z EL R own bytes maxL ret nm X σ ρ T k n) {x : Int32} (hd : decode bytes pc = .ok (.i2b, 1))  (hp : pc + 1 = pc') (r : Go Z EL K N Q X T pc' Ls (.int x.toInt8.toInt32 :: st)) : Go Z EL K N Q X T pc Ls (.int x :: st) :=
  Go.by (fun t kk => XT.i2b W.here W.hx rfl (W.hb hd) rfl (by subst hp; exact kk)) r
theorem Go.i2c (W : Wk l Z EL R own bytes maxL ret nm X σ ρ T k n) {x : Int32} (hd : decode bytes pc = .ok (.i2c, 1))  (hp : pc + 1 = pc') (r : Go Z EL K N Q X T pc' Ls (.int x.toUInt32.toUInt16.toUInt32.toInt32 :: st)) : Go Z EL K N Q X T pc Ls (.int x :: st) :=
  Go.by (fun t kk => XT.i2c W.here W.hx rfl (W.hb hd) rfl (by subst hp; exact kk)) r
theorem Go.i2s (W : Wk l Z EL R own bytes maxL ret nm X σ ρ T k n) {x : Int32} (hd : decode bytes pc = .ok (.i2s, 1))  (hp : pc + 1 = pc') (r : Go Z EL K N Q X T pc' Ls (.int x.toInt16.toInt32 :: st)) : Go Z EL K N Q X T pc Ls (.int x :: st) :=
  Go.by (fun t kk => XT.i2s W.here W.hx rfl (W.hb hd) rfl (by subst hp; exact kk)) r
theorem Go.i2l (W : Wk l Z EL R own bytes maxL ret nm X σ ρ T k n) {x : Int32} (hd : decode bytes pc = .ok (.i2l, 1))  (hp : pc + 1 = pc') (r : Go Z EL K N Q X T pc' Ls (.long x.toInt64 :: st)) : Go Z EL K N Q X T pc Ls (.int x :: st) :=
  Go.by (fun t kk => XT.i2l W.here W.hx rfl (W.hb hd) rfl (by subst hp; exact kk)) r
theorem Go.l2i (W : Wk l Z EL R own bytes maxL ret nm X σ ρ T k n) {x : Int64} (hd : decode bytes pc = .ok (.l2i, 1))  (hp : pc + 1 = pc') (r : Go Z EL K N Q X T pc' Ls (.int x.toInt32 :: st)) : Go Z EL K N Q X T pc Ls (.long x :: st) :=
  Go.by (fun t kk => XT.l2i W.here W.hx rfl (W.hb hd) rfl (by subst hp; exact kk)) r
theorem Go.ladd (W : Wk l Z EL R own bytes maxL ret nm X σ ρ T k n) {x y : Int64} (hd : decode bytes pc = .ok (.ladd, 1))  (hp : pc + 1 = pc') (r : Go Z EL K N Q X T pc' Ls (.long (x + y) :: st)) : Go Z EL K N Q X T pc Ls (.long y :: .long x :: st) :=
  Go.by (fun t kk => XT.ladd W.here W.hx rfl (W.hb hd) rfl (by subst hp; exact kk)) r
theorem Go.lsub (W : Wk l Z EL R own bytes maxL ret nm X σ ρ T k n) {x y : Int64} (hd : decode bytes pc = .ok (.lsub, 1))  (hp : pc + 1 = pc') (r : Go Z EL K N Q X T pc' Ls (.long (x - y) :: st)) : Go Z EL K N Q X T pc Ls (.long y :: .long x :: st) :=
  Go.by (fun t kk => XT.lsub W.here W.hx rfl (W.hb hd) rfl (by subst hp; exact kk)) r
theorem Go.lmul (W : Wk l Z EL R own bytes maxL ret nm X σ ρ T k n) {x y : Int64} (hd : decode bytes pc = .ok (.lmul, 1))  (hp : pc + 1 = pc') (r : Go Z EL K N Q X T pc' Ls (.long (x * y) :: st)) : Go Z EL K N Q X T pc Ls (.long y :: .long x :: st) :=
  Go.by (fun t kk => XT.lmul W.here W.hx rfl (W.hb hd) rfl (by subst hp; exact kk)) r
theorem Go.land (W : Wk l Z EL R own bytes maxL ret nm X σ ρ T k n) {x y : Int64} (hd : decode bytes pc = .ok (.land, 1))  (hp : pc + 1 = pc') (r : Go Z EL K N Q X T pc' Ls (.long (x &&& y) :: st)) : Go Z EL K N Q X T pc Ls (.long y :: .long x :: st) :=
  Go.by (fun t kk => XT.land W.here W.hx rfl (W.hb hd) rfl (by subst hp; exact kk)) r
theorem Go.lor (W : Wk l Z EL R own bytes maxL ret nm X σ ρ T k n) {x y : Int64} (hd : decode bytes pc = .ok (.lor, 1))  (hp : pc + 1 = pc') (r : Go Z EL K N Q X T pc' Ls (.long (x ||| y) :: st)) : Go Z EL K N Q X T pc Ls (.long y :: .long x :: st) :=
  Go.by (fun t kk => XT.lor W.here W.hx rfl (W.hb hd) rfl (by subst hp; exact kk)) r
theorem Go.lxor (W : Wk l Z EL R own bytes maxL ret nm X σ ρ T k n) {x y : Int64} (hd : decode bytes pc = .ok (.lxor, 1))  (hp : pc + 1 = pc') (r : Go Z EL K N Q X T pc' Ls (.long (x ^^^ y) :: st)) : Go Z EL K N Q X T pc Ls (.long y :: .long x :: st) :=
  Go.by (fun t kk => XT.lxor W.here W.hx rfl (W.hb hd) rfl (by subst hp; exact kk)) r
theorem Go.ldiv (W : Wk l Z EL R own bytes maxL ret nm X σ ρ T k n) {x y : Int64} (hd : decode bytes pc = .ok (.ldiv, 1)) (hy : y ≠ 0) (hp : pc + 1 = pc') (r : Go Z EL K N Q X T pc' Ls (.long (x / y) :: st)) : Go Z EL K N Q X T pc Ls (.long y :: .long x :: st) :=
  Go.by (fun t kk => XT.ldiv W.here W.hx rfl (W.hb hd) rfl hy (by subst hp; exact kk)) r
theorem Go.lrem (W : Wk l Z EL R own bytes maxL ret nm X σ ρ T k n) {x y : Int64} (hd : decode bytes pc = .ok (.lrem, 1)) (hy : y ≠ 0) (hp : pc + 1 = pc') (r : Go Z EL K N Q X T pc' Ls (.long (x % y) :: st)) : Go Z EL K N Q X T pc Ls (.long y :: .long x :: st) :=
  Go.by (fun t kk => XT.lrem W.here W.hx rfl (W.hb hd) rfl hy (by subst hp; rw [lrem_mod x y]; exact kk)) r
theorem Go.lneg (W : Wk l Z EL R own bytes maxL ret nm X σ ρ T k n) {x : Int64} (hd : decode bytes pc = .ok (.lneg, 1))  (hp : pc + 1 = pc') (r : Go Z EL K N Q X T pc' Ls (.long (-x) :: st)) : Go Z EL K N Q X T pc Ls (.long x :: st) :=
  Go.by (fun t kk => XT.lneg W.here W.hx rfl (W.hb hd) rfl (by subst hp; exact kk)) r
theorem Go.lushr (W : Wk l Z EL R own bytes maxL ret nm X σ ρ T k n) {x : Int64} {y : Int32} (hd : decode bytes pc = .ok (.lushr, 1))  (hp : pc + 1 = pc') (r : Go Z EL K N Q X T pc' Ls (.long (Jvm.Free.XT.ushrL x y) :: st)) : Go Z EL K N Q X T pc Ls (.int y :: .long x :: st) :=
  Go.by (fun t kk => XT.lushr W.here W.hx rfl (W.hb hd) rfl (by subst hp; exact kk)) r
theorem Go.lcmp (W : Wk l Z EL R own bytes maxL ret nm X σ ρ T k n) {x y : Int64} (hd : decode bytes pc = .ok (.lcmp, 1))  (hp : pc + 1 = pc') (r : Go Z EL K N Q X T pc' Ls (.int (lcmpW x y) :: st)) : Go Z EL K N Q X T pc Ls (.long y :: .long x :: st) :=
  Go.by (fun t kk => XT.lcmp W.here W.hx rfl (W.hb hd) rfl (by subst hp; exact kk)) r
theorem Go.dup (W : Wk l Z EL R own bytes maxL ret nm X σ ρ T k n) {x : Value} (hd : decode bytes pc = .ok (.dup, 1)) (hc : x.category = 1) (hp : pc + 1 = pc') (r : Go Z EL K N Q X T pc' Ls (x :: x :: st)) : Go Z EL K N Q X T pc Ls (x :: st) :=
  Go.by (fun t kk => XS.dup W.here W.hx rfl (W.hb hd) rfl hc (by subst hp; exact kk)) r
theorem Go.dupX1 (W : Wk l Z EL R own bytes maxL ret nm X σ ρ T k n) {x y : Value} (hd : decode bytes pc = .ok (.dup_x1, 1)) (hc : x.category = 1) (hc' : y.category = 1) (hp : pc + 1 = pc') (r : Go Z EL K N Q X T pc' Ls (x :: y :: x :: st)) : Go Z EL K N Q X T pc Ls (x :: y :: st) :=
  Go.by (fun t kk => XT.dupX1 W.here W.hx rfl (W.hb hd) rfl hc hc' (by subst hp; exact kk)) r
theorem Go.dup2 (W : Wk l Z EL R own bytes maxL ret nm X σ ρ T k n) {x y : Value} (hd : decode bytes pc = .ok (.dup2, 1)) (hc : x.category = 1) (hc' : y.category = 1) (hp : pc + 1 = pc') (r : Go Z EL K N Q X T pc' Ls (x :: y :: x :: y :: st)) : Go Z EL K N Q X T pc Ls (x :: y :: st) :=
  Go.by (fun t kk => XT.dup2 W.here W.hx rfl (W.hb hd) rfl hc hc' (by subst hp; exact kk)) r
theorem Go.pop (W : Wk l Z EL R own bytes maxL ret nm X σ ρ T k n) {x : Value} (hd : decode bytes pc = .ok (.pop, 1)) (hc : x.category = 1) (hp : pc + 1 = pc') (r : Go Z EL K N Q X T pc' Ls st) : Go Z EL K N Q X T pc Ls (x :: st) :=
  Go.by (fun t kk => XT.pop W.here W.hx rfl (W.hb hd) rfl hc (by subst hp; exact kk)) r
theorem Go.iinc (W : Wk l Z EL R own bytes maxL ret nm X σ ρ T k n) {k' : Nat} {cst : Int} {x : Int32} (v : Int32) (Ls' : Array Slot) (hd : decode bytes pc = .ok (.iinc k' cst, 3)) (hl : Ls[k']? = some (.val (.int x))) (hv : Int32.ofInt cst = v) (hl' : storeLocals Ls k' (.int (x + v)) = some Ls') (hp : pc + 3 = pc') (r : Go Z EL K N Q X T pc' Ls' st) : Go Z EL K N Q X T pc Ls st :=
  Go.by (fun t kk => XS.iinc W.here W.hx rfl (W.hb hd) hl (by rw [hv]; exact hl') (by subst hp; exact kk)) r
theorem Go.goto (W : Wk l Z EL R own bytes maxL ret nm X σ ρ T k n) {o : Int} (pcY : Nat) (hd : decode bytes pc = .ok (.goto o, 3)) (hy : (pc : Int) + o = (pcY : Nat)) (r : Go Z EL K N Q X T pcY Ls st) : Go Z EL K N Q X T pc Ls st :=
  Go.by (fun t kk => XS.goto W.here W.hx rfl (pc0 := pc) (pc' := pcY) rfl (W.hb hd) (by omega) (by omega) kk) r
theorem Go.icmp_eq (W : Wk l Z EL R own bytes maxL ret nm X σ ρ T k n) {x y : Int32} {o : Int} (pcY : Nat) (hd : decode bytes pc = .ok (.if_icmp .eq o, 3)) (hy : (pc : Int) + o = (pcY : Nat)) (hp : pc + 3 = pc') (rY : (x = y) → Go Z EL K N Q X T pcY Ls st) (rN : (¬ x = y) → Go Z EL K N Q X T pc' Ls st) : Go Z EL K N Q X T pc Ls (.int y :: .int x :: st) := by
  by_cases q : x = y
  · exact Go.by (fun t kk => XS.icmpYes W.here W.hx rfl (pc0 := pc) (pc' := pcY) rfl (W.hb hd) rfl (teq q).1 (by omega) (by omega) kk) (rY q)
  · exact Go.by (fun t kk => XS.icmpNo W.here W.hx rfl (W.hb hd) rfl (feq q).1 (by subst hp; exact kk)) (rN q)
theorem Go.if_eq (W : Wk l Z EL R own bytes maxL ret nm X σ ρ T k n) {x : Int32} {o : Int} (pcY : Nat) (hd : decode bytes pc = .ok (.ifCond .eq o, 3)) (hy : (pc : Int) + o = (pcY : Nat)) (hp : pc + 3 = pc') (rY : (x = 0) → Go Z EL K N Q X T pcY Ls st) (rN : (¬ x = 0) → Go Z EL K N Q X T pc' Ls st) : Go Z EL K N Q X T pc Ls (.int x :: st) := by
  by_cases q : x = 0
  · exact Go.by (fun t kk => XS.ifYes W.here W.hx rfl (pc0 := pc) (pc' := pcY) rfl (W.hb hd) rfl ((if0 .eq x).trans (teq q).1) (by omega) (by omega) kk) (rY q)
  · exact Go.by (fun t kk => XS.ifNo W.here W.hx rfl (W.hb hd) rfl ((if0 .eq x).trans (feq q).1) (by subst hp; exact kk)) (rN q)
theorem Go.icmp_ne (W : Wk l Z EL R own bytes maxL ret nm X σ ρ T k n) {x y : Int32} {o : Int} (pcY : Nat) (hd : decode bytes pc = .ok (.if_icmp .ne o, 3)) (hy : (pc : Int) + o = (pcY : Nat)) (hp : pc + 3 = pc') (rY : (¬ x = y) → Go Z EL K N Q X T pcY Ls st) (rN : (x = y) → Go Z EL K N Q X T pc' Ls st) : Go Z EL K N Q X T pc Ls (.int y :: .int x :: st) := by
  by_cases q : x = y
  · exact Go.by (fun t kk => XS.icmpNo W.here W.hx rfl (W.hb hd) rfl (teq q).2 (by subst hp; exact kk)) (rN q)
  · exact Go.by (fun t kk => XS.icmpYes W.here W.hx rfl (pc0 := pc) (pc' := pcY) rfl (W.hb hd) rfl (feq q).2 (by omega) (by omega) kk) (rY q)
theorem Go.if_ne (W : Wk l Z EL R own bytes maxL ret nm X σ ρ T k n) {x : Int32} {o : Int} (pcY : Nat) (hd : decode bytes pc = .ok (.ifCond .ne o, 3)) (hy : (pc : Int) + o = (pcY : Nat)) (hp : pc + 3 = pc') (rY : (¬ x = 0) → Go Z EL K N Q X T pcY Ls st) (rN : (x = 0) → Go Z EL K N Q X T pc' Ls st) : Go Z EL K N Q X T pc Ls (.int x :: st) := by
  by_cases q : x = 0
  · exact Go.by (fun t kk => XS.ifNo W.here W.hx rfl (W.hb hd) rfl ((if0 .ne x).trans (teq q).2) (by subst hp; exact kk)) (rN q)
  · exact Go.by (fun t kk => XS.ifYes W.here W.hx rfl (pc0 := pc) (pc' := pcY) rfl (W.hb hd) rfl ((if0 .ne x).trans (feq q).2) (by omega) (by omega) kk) (rY q)
theorem Go.icmp_lt (W : Wk l Z EL R own bytes maxL ret nm X σ ρ T k n) {x y : Int32} {o : Int} (pcY : Nat) (hd : decode bytes pc = .ok (.if_icmp .lt o, 3)) (hy : (pc : Int) + o = (pcY : Nat)) (hp : pc + 3 = pc') (rY : (x < y) → Go Z EL K N Q X T pcY Ls st) (rN : (¬ x < y) → Go Z EL K N Q X T pc' Ls st) : Go Z EL K N Q X T pc Ls (.int y :: .int x :: st) := by
  by_cases q : x < y
  · exact Go.by (fun t kk => XS.icmpYes W.here W.hx rfl (pc0 := pc) (pc' := pcY) rfl (W.hb hd) rfl (tlt q).1 (by omega) (by omega) kk) (rY q)
  · exact Go.by (fun t kk => XS.icmpNo W.here W.hx rfl (W.hb hd) rfl (flt q).1 (by subst hp; exact kk)) (rN q)
theorem Go.if_lt (W : Wk l Z EL R own bytes maxL ret nm X σ ρ T k n) {x : Int32} {o : Int} (pcY : Nat) (hd : decode bytes pc = .ok (.ifCond .lt o, 3)) (hy : (pc : Int) + o = (pcY : Nat)) (hp : pc + 3 = pc') (rY : (x < 0) → Go Z EL K N Q X T pcY Ls st) (rN : (¬ x < 0) → Go Z EL K N Q X T pc' Ls st) : Go Z EL K N Q X T pc Ls (.int x :: st) := by
  by_cases q : x < 0
  · exact Go.by (fun t kk => XS.ifYes W.here W.hx rfl (pc0 := pc) (pc' := pcY) rfl (W.hb hd) rfl ((if0 .lt x).trans (tlt q).1) (by omega) (by omega) kk) (rY q)
  · exact Go.by (fun t kk => XS.ifNo W.here W.hx rfl (W.hb hd) rfl ((if0 .lt x).trans (flt q).1) (by subst hp; exact kk)) (rN q)
theorem Go.icmp_ge (W : Wk l Z EL R own bytes maxL ret nm X σ ρ T k n) {x y : Int32} {o : Int} (pcY : Nat) (hd : decode bytes pc = .ok (.if_icmp .ge o, 3)) (hy : (pc : Int) + o = (pcY : Nat)) (hp : pc + 3 = pc') (rY : (¬ x < y) → Go Z EL K N Q X T pcY Ls st) (rN : (x < y) → Go Z EL K N Q X T pc' Ls st) : Go Z EL K N Q X T pc Ls (.int y :: .int x :: st) := by
  by_cases q : x < y
  · exact Go.by (fun t kk => XS.icmpNo W.here W.hx rfl (W.hb hd) rfl (tlt q).2.1 (by subst hp; exact kk)) (rN q)
  · exact Go.by (fun t kk => XS.icmpYes W.here W.hx rfl (pc0 := pc) (pc' := pcY) rfl (W.hb hd) rfl (flt q).2.1 (by omega) (by omega) kk) (rY q)
theorem Go.if_ge (W : Wk l Z EL R own bytes maxL ret nm X σ ρ T k n) {x : Int32} {o : Int} (pcY : Nat) (hd : decode bytes pc = .ok (.ifCond .ge o, 3)) (hy : (pc : Int) + o = (pcY : Nat)) (hp : pc + 3 = pc') (rY : (¬ x < 0) → Go Z EL K N Q X T pcY Ls st) (rN : (x < 0) → Go Z EL K N Q X T pc' Ls st) : Go Z EL K N Q X T pc Ls (.int x :: st) := by
  by_cases q : x < 0
  · exact Go.by (fun t kk => XS.ifNo W.here W.hx rfl (W.hb hd) rfl ((if0 .ge x).trans (tlt q).2.1) (by subst hp; exact kk)) (rN q)
  · exact Go.by (fun t kk => XS.ifYes W.here W.hx rfl (pc0 := pc) (pc' := pcY) rfl (W.hb hd) rfl ((if0 .ge x).trans (flt q).2.1) (by omega) (by omega) kk) (rY q)
theorem Go.icmp_gt (W : Wk l Z EL R own bytes maxL ret nm X σ ρ T k n) {x y : Int32} {o : Int} (pcY : Nat) (hd : decode bytes pc = .ok (.if_icmp .gt o, 3)) (hy : (pc : Int) + o = (pcY : Nat)) (hp : pc + 3 = pc') (rY : (y < x) → Go Z EL K N Q X T pcY Ls st) (rN : (¬ y < x) → Go Z EL K N Q X T pc' Ls st) : Go Z EL K N Q X T pc Ls (.int y :: .int x :: st) := by
  by_cases q : y < x
  · exact Go.by (fun t kk => XS.icmpYes W.here W.hx rfl (pc0 := pc) (pc' := pcY) rfl (W.hb hd) rfl (tlt q).2.2.1 (by omega) (by omega) kk) (rY q)
  · exact Go.by (fun t kk => XS.icmpNo W.here W.hx rfl (W.hb hd) rfl (flt q).2.2.1 (by subst hp; exact kk)) (rN q)
theorem Go.if_gt (W : Wk l Z EL R own bytes maxL ret nm X σ ρ T k n) {x : Int32} {o : Int} (pcY : Nat) (hd : decode bytes pc = .ok (.ifCond .gt o, 3)) (hy : (pc : Int) + o = (pcY : Nat)) (hp : pc + 3 = pc') (rY : (0 < x) → Go Z EL K N Q X T pcY Ls st) (rN : (¬ 0 < x) → Go Z EL K N Q X T pc' Ls st) : Go Z EL K N Q X T pc Ls (.int x :: st) := by
  by_cases q : 0 < x
  · exact Go.by (fun t kk => XS.ifYes W.here W.hx rfl (pc0 := pc) (pc' := pcY) rfl (W.hb hd) rfl ((if0 .gt x).trans (tlt q).2.2.1) (by omega) (by omega) kk) (rY q)
  · exact Go.by (fun t kk => XS.ifNo W.here W.hx rfl (W.hb hd) rfl ((if0 .gt x).trans (flt q).2.2.1) (by subst hp; exact kk)) (rN q)
theorem Go.icmp_le (W : Wk l Z EL R own bytes maxL ret nm X σ ρ T k n) {x y : Int32} {o : Int} (pcY : Nat) (hd : decode bytes pc = .ok (.if_icmp .le o, 3)) (hy : (pc : Int) + o = (pcY : Nat)) (hp : pc + 3 = pc') (rY : (¬ y < x) → Go Z EL K N Q X T pcY Ls st) (rN : (y < x) → Go Z EL K N Q X T pc' Ls st) : Go Z EL K N Q X T pc Ls (.int y :: .int x :: st) := by
  by_cases q : y < x
  · exact Go.by (fun t kk => XS.icmpNo W.here W.hx rfl (W.hb hd) rfl (tlt q).2.2.2 (by subst hp; exact kk)) (rN q)
  · exact Go.by (fun t kk => XS.icmpYes W.here W.hx rfl (pc0 := pc) (pc' := pcY) rfl (W.hb hd) rfl (flt q).2.2.2 (by omega) (by omega) kk) (rY q)
theorem Go.if_le (W : Wk l Z EL R own bytes maxL ret nm X σ ρ T k n) {x : Int32} {o : Int} (pcY : Nat) (hd : decode bytes pc = .ok (.ifCond .le o, 3)) (hy : (pc : Int) + o = (pcY : Nat)) (hp : pc + 3 = pc') (rY : (¬ 0 < x) → Go Z EL K N Q X T pcY Ls st) (rN : (0 < x) → Go Z EL K N Q X T pc' Ls st) : Go Z EL K N Q X T pc Ls (.int x :: st) := by
  by_cases q : 0 < x
  · exact Go.by (fun t kk => XS.ifNo W.here W.hx rfl (W.hb hd) rfl ((if0 .le x).trans (tlt q).2.2.2) (by subst hp; exact kk)) (rN q)
  · exact Go.by (fun t kk => XS.ifYes W.here W.hx rfl (pc0 := pc) (pc' := pcY) rfl (W.hb hd) rfl ((if0 .le x).trans (flt q).2.2.2) (by omega) (by omega) kk) (rY q)
theorem Go.ifnull_yes (W : Wk l Z EL R own bytes maxL ret nm X σ ρ T k n) {o : Int} (pcY : Nat) (hd : decode bytes pc = .ok (.ifnull o, 3)) (hy : (pc : Int) + o = (pcY : Nat)) (r : Go Z EL K N Q X T pcY Ls st) : Go Z EL K N Q X T pc Ls (.null :: st) :=
  Go.by (fun t kk => XS.ifnullYes W.here W.hx rfl (pc0 := pc) (pc' := pcY) rfl (W.hb hd) rfl (by omega) (by omega) kk) r
theorem Go.ifnull_no (W : Wk l Z EL R own bytes maxL ret nm X σ ρ T k n) {b : Addr} {o : Int} (hd : decode bytes pc = .ok (.ifnull o, 3)) (hp : pc + 3 = pc') (r : Go Z EL K N Q X T pc' Ls st) : Go Z EL K N Q X T pc Ls (.ref b :: st) :=
  Go.by (fun t kk => XS.ifnullNo W.here W.hx rfl (W.hb hd) rfl (by subst hp; exact kk)) r
theorem Go.ifnonnull_yes (W : Wk l Z EL R own bytes maxL ret nm X σ ρ T k n) {b : Addr} {o : Int} (pcY : Nat) (hd : decode bytes pc = .ok (.ifnonnull o, 3)) (hy : (pc : Int) + o = (pcY : Nat)) (r : Go Z EL K N Q X T pcY Ls st) : Go Z EL K N Q X T pc Ls (.ref b :: st) :=
  Go.by (fun t kk => XT.ifnonnullYes W.here W.hx rfl (pc0 := pc) (pc' := pcY) rfl (W.hb hd) rfl (by omega) (by omega) kk) r
theorem Go.ifnonnull_no (W : Wk l Z EL R own bytes maxL ret nm X σ ρ T k n) {o : Int} (hd : decode bytes pc = .ok (.ifnonnull o, 3)) (hp : pc + 3 = pc') (r : Go Z EL K N Q X T pc' Ls st) : Go Z EL K N Q X T pc Ls (.null :: st) :=
  Go.by (fun t kk => XT.ifnonnullNo W.here W.hx rfl (W.hb hd) rfl (by subst hp; exact kk)) r
end StepLaws
/-! ## own: what is known of one cell -/
def ObjC (Z : State) (c : Cell) (C : String) : Prop := ∃ k : Class, Z.vm.findClass C = some c.cls ∧ Z.vm.classes[c.cls]? = some k ∧ c.vm.isStatics = false ∧ (k.kind = .ordinary → c.slots.size = k.instanceTypes.size)
def FldC (Z : State) (c : Cell) (C n d : String) (v : Value) : Prop := ∃ (cf : ClassId) (k : Class) (i : Nat) (f : Field), Z.fieldFound? C n d = some (cf, k, i, f) ∧ f.isStatic = false ∧ c.vm ≠ .unknown ∧ c.vm.isStatics = false ∧ Z.vm.assignable c.cls cf = true ∧ c.slots[f.slot]? = some v
def ArrC (Z : State) (c : Cell) (ty : FieldType) (vs : List Value) : Prop := Z.isArrayOf c ty ∧ c.vm ≠ .unknown ∧ c.slots.toList = vs ∧ (∀ v ∈ vs, fits ty v = true) ∧ vs.length < 2147483648
section CellLaws
variable {Z : State} {c c' : Cell} {C n d C' n' d' : String} {v w : Value} {h : Heap} {a : Addr} {ty : FieldType} {vs : List Value}
theorem ObjC.exa (F : ObjC Z c C) (ha : h[a]? = some c) : Exa Z h a C := by obtain ⟨k, h1, h2, h3, h4⟩ := F; exact ⟨c, k, ha, h1, h2, h3, h4⟩
theorem ObjC.of (F : Exa Z h a C) (ha : h[a]? = some c) : ObjC Z c C := by
  obtain ⟨c', k, h0, h1, h2, h3, h4⟩ := F
  cases ha.symm.trans h0
  exact ⟨k, h1, h2, h3, h4⟩
theorem FldC.fld (F : FldC Z c C n d v) (ha : h[a]? = some c) : Fld Z h a C n d v := by obtain ⟨cf, k, i, f, r⟩ := F; exact ⟨c, cf, k, i, f, ha, r⟩
theorem FldC.of (F : Fld Z h a C n d v) (ha : h[a]? = some c) : FldC Z c C n d v := by
  obtain ⟨c', cf, k, i, f, h0, r⟩ := F
  cases ha.symm.trans h0
  exact ⟨cf, k, i, f, r⟩
theorem ArrC.arr (F : ArrC Z c ty vs) (ha : h[a]? = some c) : Arr Z h a c ty := ⟨ha, F.1, F.2.1⟩
theorem ArrC.size (F : ArrC Z c ty vs) : c.slots.size = vs.length := by rw [← F.2.2.1]; simp
theorem ArrC.get (F : ArrC Z c ty vs) (i : Nat) : c.slots[i]? = vs[i]? := by rw [← F.2.2.1]; simp
theorem FldC.put {v' : Value} (F : FldC Z c C n d v) : FldC Z (c.setSlot (Jvm.RoadKit.slotOf Z C n d) v') C n d v' := by
  obtain ⟨cf, k, i, f, h1, h2, h3, h4, h5, h6⟩ := F
  have hlt := (Array.getElem?_eq_some_iff.mp h6).1
  exact ⟨cf, k, i, f, h1, h2, h3, h4, h5, by simp [Cell.setSlot, Jvm.RoadKit.slotOf, h1, hlt]⟩
theorem FldC.keep {sl : Nat} {v' : Value} (F : FldC Z c C n d v) (hne : Jvm.RoadKit.slotOf Z C n d ≠ sl) : FldC Z (c.setSlot sl v') C n d v := by
  obtain ⟨cf, k, i, f, h1, h2, h3, h4, h5, h6⟩ := F
  have e : Jvm.RoadKit.slotOf Z C n d = f.slot := by simp [Jvm.RoadKit.slotOf, h1]
  rw [e] at hne
  exact ⟨cf, k, i, f, h1, h2, h3, h4, h5, by show (c.slots.setIfInBounds sl v')[f.slot]? = _; rw [Array.getElem?_setIfInBounds_ne (Ne.symm hne)]; exact h6⟩
theorem ObjC.put {sl : Nat} {v' : Value} (F : ObjC Z c C) : ObjC Z (c.setSlot sl v') C := by
  obtain ⟨k, h1, h2, h3, h4⟩ := F
  exact ⟨k, h1, h2, h3, fun q => by rw [← h4 q]; simp [Cell.setSlot]⟩
theorem FldC.put' {v' : Value} (F : FldC Z c C n d v) (e : c' = c.setSlot (Jvm.RoadKit.slotOf Z C n d) v') : FldC Z c' C n d v' := e ▸ F.put
theorem FldC.keep' {sl : Nat} {v' : Value} (F : FldC Z c C n d v) (e : c' = c.setSlot sl v') (hne : Jvm.RoadKit.slotOf Z C n d ≠ sl) : FldC Z c' C n d v := e ▸ F.keep hne
theorem ObjC.put' {sl : Nat} {v' : Value} (F : ObjC Z c C) (e : c' = c.setSlot sl v') : ObjC Z c' C := e ▸ F.put
theorem fits_isref (ht : ty.isReference = true) (hv : v.isRef = true) : fits ty v = true := by cases ty <;> first | (cases ht; done) | (cases v <;> first | (cases hv; done) | rfl)
theorem ArrC.put {i : Nat} {v' : Value} (F : ArrC Z c ty vs) (hf : fits ty v' = true) : ArrC Z (c.setSlot i v') ty (vs.set i v') := by
  obtain ⟨h1, h2, h3, h4, h5⟩ := F
  refine ⟨h1, h2, by simp [Cell.setSlot, h3], fun v hv => ?_, by simpa using h5⟩
  rcases List.mem_or_eq_of_mem_set hv with q | q
  · exact h4 v q
  · rw [q]; exact hf
end CellLaws
/-! ## own: steps that read or make or write cells, and calls, in the Go form -/
section HeapLaws
variable {l : Launch} {Z : State} {a0 : Array Value} {EL : List (String × Nat)} {R : Room} {own : String} {bytes : ByteArray} {maxL : Nat} {ret : Option FieldType} {nm : String} {X : Ctx} {σ ρ : HL} {T : State} {k n K N : Nat} {Q : Option Value → HL → HL → Prop} {pc pc' : Nat} {Ls : Array Slot} {st : List Value} {a : Addr} {c : Cell} {vs : List Value}
theorem Go.new (W : Wk l Z EL R own bytes maxL ret nm X σ ρ T k n) {C : String} {ix cnt : Nat} (w : (Jvm.Cond.classLink own ix C).before a0 Z = true) (wi : (Jvm.Cond.instantiable C cnt).before a0 Z = true) (wz : (Jvm.Cond.initialized C).before a0 Z = true)
    (hd : decode bytes pc = .ok (.new ix, 3)) (hp : pc + 3 = pc') (hk : k + 1 ≤ R.cells) (hn : n + cnt ≤ R.slots)
    (r : ∀ (T' : State) (a : Addr) (c : Cell), Wk l Z EL R own bytes maxL ret nm X ((a, c) :: σ) ρ T' (k + 1) (n + cnt) → ObjC Z c C → (∀ {O nm d : String} {ty : FieldType}, Laid Z a0 C O nm d → parseFieldDescriptor d = some ty → FldC Z c O nm d (defaultValue ty)) → Go Z EL K N Q X T' pc' Ls (.ref a :: st)) :
    Go Z EL K N Q X T pc Ls st := by
  obtain ⟨w0, vm0, k0, locs, Y, hS, hk0, hZ, hown, hFr, H⟩ := W
  obtain ⟨T', h', Y', e', E, A, D, ⟨cl, hcl, -⟩, stp⟩ := newO Y w0.1 hZ hown w wi wz rfl (g := mkF X.m pc Ls st) rfl (by rw [w0.2.1]; exact hd) hk hn
  subst e'
  refine Go.by stp (by subst hp; exact r T' T.heap.size cl ⟨w0, vm0, k0, locs, Y', hS, Nat.le_trans hk0 E.1, hZ, hown, hFr, H.alloc E hcl⟩ (ObjC.of A hcl) fun L ht => FldC.of (D L ht) hcl)
theorem fits_default (ty : FieldType) : fits ty (defaultValue ty) = true := by cases ty <;> rfl
theorem Go.newarr (W : Wk l Z EL R own bytes maxL ret nm X σ ρ T k n) {aty : ArrayType} {z : Int32} (ty : FieldType) (hty : newarray.typeOf aty = ty) (len : Nat) (w : (Jvm.Cond.arrayClass ty).before a0 Z = true) (hd : decode bytes pc = .ok (.newarray aty, 2)) (hp : pc + 2 = pc')
    (hz : ¬ z < 0) (hl : z.toNatClampNeg = len) (hb : len * 8 ≤ 536870912) (hk : k + 1 ≤ R.cells) (hn : n + len ≤ R.slots)
    (r : ∀ (T' : State) (a : Addr) (c : Cell), Wk l Z EL R own bytes maxL ret nm X ((a, c) :: σ) ρ T' (k + 1) (n + len) → ArrC Z c ty (List.replicate len (defaultValue ty)) → Go Z EL K N Q X T' pc' Ls (.ref a :: st)) :
    Go Z EL K N Q X T pc Ls (.int z :: st) := by
  subst hty
  obtain ⟨w0, vm0, k0, locs, Y, hS, hk0, hZ, hown, hFr, H⟩ := W
  obtain ⟨T', h', cA, Y', e', E, A, stp⟩ := newP Y w0.1 hZ w rfl (g := mkF X.m pc Ls (.int z :: st)) rfl (by rw [w0.2.1]; exact hd) rfl hz (cap := len) (Nat.le_of_eq hl) hb hk hn
  subst e' hp
  have hfd : ∀ v ∈ List.replicate len (defaultValue (newarray.typeOf aty)), fits (newarray.typeOf aty) v = true := fun v hv => by rw [(List.mem_replicate.mp hv).2]; exact fits_default _
  exact Go.by stp (r T' T.heap.size _ ⟨w0, vm0, k0, locs, Y', hS, Nat.le_trans hk0 E.1, hZ, hown, hFr, H.alloc E A.1⟩ ⟨A.2.1, A.2.2, by simp [newA, hl], hfd, by simp; omega⟩)
theorem Go.arrlen (W : Wk l Z EL R own bytes maxL ret nm X σ ρ T k n) (hm : (a, c) ∈ σ ∨ (a, c) ∈ ρ ∨ Z.heap[a]? = some c) {ty : FieldType} (A : ArrC Z c ty vs) (z : Int32) (hz : vs.length.toInt32 = z) (hd : decode bytes pc = .ok (.arraylength, 1)) (hp : pc + 1 = pc')
    (r : Go Z EL K N Q X T pc' Ls (.int z :: st)) : Go Z EL K N Q X T pc Ls (.ref a :: st) := by
  have hc := W.cell hm
  obtain ⟨w0, vm0, k0, locs, Y, hS, hk0, hZ, hown, hFr, H⟩ := W
  refine Go.by (fun t kk => Y.arraylength w0.1 (cell := c) hc (State.isArrayOf_alike hZ.alike A.1) (g := mkF X.m pc Ls (.ref a :: st)) rfl rfl (by rw [w0.2.1]; exact hd) t ?_) r
  rw [A.size, hz]; subst hp; exact kk
theorem arr_in' {ty : FieldType} (A : ArrC Z c ty vs) {j : Int32} {i : Nat} (hj : ¬ j < 0) (hi : j.toNatClampNeg = i) (hl : i < vs.length) : ¬ (j < 0 ∨ c.slots.size ≤ j.toNatClampNeg) := by
  rw [A.size, hi]; rintro (q | q)
  · exact hj q
  · omega
theorem Go.caload (W : Wk l Z EL R own bytes maxL ret nm X σ ρ T k n) (hm : (a, c) ∈ σ ∨ (a, c) ∈ ρ ∨ Z.heap[a]? = some c) (A : ArrC Z c .char vs) {j : Int32} (i : Nat) {v : Value} (hj : ¬ j < 0) (hi : j.toNatClampNeg = i) (hv : vs[i]? = some v) (hd : decode bytes pc = .ok (.caload, 1)) (hp : pc + 1 = pc')
    (r : Go Z EL K N Q X T pc' Ls (v :: st)) : Go Z EL K N Q X T pc Ls (.int j :: .ref a :: st) := by
  have hc := W.cell hm
  obtain ⟨w0, vm0, k0, locs, Y, hS, hk0, hZ, hown, hFr, H⟩ := W
  exact Go.by (fun t kk => Y.caload w0.1 hc (State.isArrayOf_alike hZ.alike A.1) A.2.1 (arr_in' A hj hi (List.getElem?_eq_some_iff.mp hv).1) (by rw [hi, A.get, hv]) (g := mkF X.m pc Ls (.int j :: .ref a :: st)) rfl rfl (by rw [w0.2.1]; exact hd) t (by subst hp; exact kk)) r
theorem Go.baload (W : Wk l Z EL R own bytes maxL ret nm X σ ρ T k n) (hm : (a, c) ∈ σ ∨ (a, c) ∈ ρ ∨ Z.heap[a]? = some c) (A : ArrC Z c .byte vs) {j : Int32} (i : Nat) {v : Value} (hj : ¬ j < 0) (hi : j.toNatClampNeg = i) (hv : vs[i]? = some v) (hd : decode bytes pc = .ok (.baload, 1)) (hp : pc + 1 = pc')
    (r : Go Z EL K N Q X T pc' Ls (v :: st)) : Go Z EL K N Q X T pc Ls (.int j :: .ref a :: st) := by
  have hc := W.cell hm
  obtain ⟨w0, vm0, k0, locs, Y, hS, hk0, hZ, hown, hFr, H⟩ := W
  exact Go.by (fun t kk => Y.baloadBytes w0.1 hc (State.isArrayOf_alike hZ.alike A.1) A.2.1 (arr_in' A hj hi (List.getElem?_eq_some_iff.mp hv).1) (by rw [hi, A.get, hv]) (g := mkF X.m pc Ls (.int j :: .ref a :: st)) rfl rfl (by rw [w0.2.1]; exact hd) t (by subst hp; exact kk)) r
theorem Go.aaload (W : Wk l Z EL R own bytes maxL ret nm X σ ρ T k n) (hm : (a, c) ∈ σ ∨ (a, c) ∈ ρ ∨ Z.heap[a]? = some c) {ty : FieldType} (A : ArrC Z c ty vs) (hty : ty.isReference = true) {j : Int32} (i : Nat) {v : Value} (hj : ¬ j < 0) (hi : j.toNatClampNeg = i) (hv : vs[i]? = some v) (hd : decode bytes pc = .ok (.aaload, 1)) (hp : pc + 1 = pc')
    (r : Go Z EL K N Q X T pc' Ls (v :: st)) : Go Z EL K N Q X T pc Ls (.int j :: .ref a :: st) := by
  have hc := W.cell hm
  obtain ⟨w0, vm0, k0, locs, Y, hS, hk0, hZ, hown, hFr, H⟩ := W
  exact Go.by (fun t kk => Y.aaload w0.1 hc (State.isArrayOf_alike hZ.alike A.1) hty A.2.1 (arr_in' A hj hi (List.getElem?_eq_some_iff.mp hv).1) (by rw [hi, A.get, hv]) (g := mkF X.m pc Ls (.int j :: .ref a :: st)) rfl rfl (by rw [w0.2.1]; exact hd) t (by subst hp; exact kk)) r
/-- the step of one write: the point behind it -/
theorem Wk.wrote (W : Wk l Z EL R own bytes maxL ret nm X σ ρ T k n) {i : Nat} (hi : σ[i]? = some (a, c)) {vm0 : Vm} {k0 : Nat} {locs : List Loc} {T' : State} {sl : Nat} {v : Value}
    (hS : X.s.Since vm0 k0) (hk0 : k0 ≤ T.heap.size) (hZ : Z.Warmed39 vm0) (hown : vm0.findClass own = some X.m.cls) (hFr : Fr Z.heap.size locs) (H : Hp Z EL X.so X.ro X.s σ ρ vm0 T.heap)
    (Y' : Stand X.p l X.e R (X.s.setVm vm0) X.m X.args X.below X.meth X.c T' (locs ++ [⟨a, sl⟩]) k n) (Wr' : Wr T.heap T'.heap a sl v) : Wk l Z EL R own bytes maxL ret nm X (σ.set i (a, c.setSlot sl v)) ρ T' k n := by
  obtain ⟨cl, h1, -, -, h4⟩ := Wr'
  have hmem : (a, c) ∈ σ := List.mem_of_getElem? hi
  cases (H.2.1 _ hmem).symm.trans h1
  exact ⟨W.1, vm0, k0, _, Y', hS, by rw [h4]; simpa using hk0, hZ, hown, hFr.app fun y hy => by cases List.mem_singleton.mp hy; exact (H.2.2.2.2.1 _ hmem).1, H.write hi h4⟩
theorem Go.castore (W : Wk l Z EL R own bytes maxL ret nm X σ ρ T k n) (ix : Nat) (hm : σ[ix]? = some (a, c)) (A : ArrC Z c .char vs) {j x : Int32} (i : Nat) (x' : Int32) (hx : nar .char x = x') (hj : ¬ j < 0) (hi : j.toNatClampNeg = i) (hl : i < vs.length) (hd : decode bytes pc = .ok (.castore, 1)) (hp : pc + 1 = pc')
    (r : ∀ (T' : State) (c' : Cell), Wk l Z EL R own bytes maxL ret nm X (σ.set ix (a, c')) ρ T' k n → ArrC Z c' .char (vs.set i (.int x')) → Go Z EL K N Q X T' pc' Ls st) : Go Z EL K N Q X T pc Ls (.int x :: .int j :: .ref a :: st) := by
  have hc := W.cell (Or.inl (List.mem_of_getElem? hm))
  have W1 := W
  obtain ⟨w0, vm0, k0, locs, Y, hS, hk0, hZ, hown, hFr, H⟩ := W
  obtain ⟨T', h', Y', e', Wr', stp⟩ := stC Y w0.1 hZ rfl (A.arr hc) (arr_in' A hj hi hl) (g := mkF X.m pc Ls (.int x :: .int j :: .ref a :: st)) rfl rfl (by rw [w0.2.1]; exact hd)
  subst e' hp hi hx
  exact Go.by stp (r T' _ (W1.wrote hm hS hk0 hZ hown hFr H Y' Wr') (A.put (fits_nar_char x)))
theorem Go.bastore (W : Wk l Z EL R own bytes maxL ret nm X σ ρ T k n) (ix : Nat) (hm : σ[ix]? = some (a, c)) (A : ArrC Z c .byte vs) {j x : Int32} (i : Nat) (hj : ¬ j < 0) (hi : j.toNatClampNeg = i) (hl : i < vs.length) (hd : decode bytes pc = .ok (.bastore, 1)) (hp : pc + 1 = pc')
    (r : ∀ (T' : State) (c' : Cell), Wk l Z EL R own bytes maxL ret nm X (σ.set ix (a, c')) ρ T' k n → ArrC Z c' .byte (vs.set i (.int x.toInt8.toInt32)) → Go Z EL K N Q X T' pc' Ls st) : Go Z EL K N Q X T pc Ls (.int x :: .int j :: .ref a :: st) := by
  have hc := W.cell (Or.inl (List.mem_of_getElem? hm))
  have W1 := W
  obtain ⟨w0, vm0, k0, locs, Y, hS, hk0, hZ, hown, hFr, H⟩ := W
  obtain ⟨T', h', Y', e', Wr', stp⟩ := stB Y w0.1 hZ rfl (A.arr hc) (arr_in' A hj hi hl) (g := mkF X.m pc Ls (.int x :: .int j :: .ref a :: st)) rfl rfl (by rw [w0.2.1]; exact hd)
  subst e' hp hi
  exact Go.by stp (r T' _ (W1.wrote hm hS hk0 hZ hown hFr H Y' Wr') (A.put (fits_nar_byte x)))
theorem Go.aastore (W : Wk l Z EL R own bytes maxL ret nm X σ ρ T k n) (ix : Nat) (hm : σ[ix]? = some (a, c)) {ty : FieldType} (A : ArrC Z c ty vs) (hty : ty.isReference = true) {j : Int32} {v : Value} (i : Nat) (hj : ¬ j < 0) (hi : j.toNatClampNeg = i) (hl : i < vs.length) (hf : fits ty v = true) (F : Sto Z T.heap a v) (hd : decode bytes pc = .ok (.aastore, 1)) (hp : pc + 1 = pc')
    (r : ∀ (T' : State) (c' : Cell), Wk l Z EL R own bytes maxL ret nm X (σ.set ix (a, c')) ρ T' k n → ArrC Z c' ty (vs.set i v) → c'.cls = c.cls → Go Z EL K N Q X T' pc' Ls st) : Go Z EL K N Q X T pc Ls (v :: .int j :: .ref a :: st) := by
  have hc := W.cell (Or.inl (List.mem_of_getElem? hm))
  have W1 := W
  obtain ⟨w0, vm0, k0, locs, Y, hS, hk0, hZ, hown, hFr, H⟩ := W
  obtain ⟨T', h', Y', e', Wr', stp⟩ := stR Y w0.1 hZ rfl (A.arr hc) (arr_in' A hj hi hl) hty F (g := mkF X.m pc Ls (v :: .int j :: .ref a :: st)) rfl rfl (by rw [w0.2.1]; exact hd)
  subst e' hp hi
  exact Go.by stp (r T' _ (W1.wrote hm hS hk0 hZ hown hFr H Y' Wr') (A.put hf) rfl)
/-- a step that changes nothing of the heap -/
theorem Wk.same {vm0 : Vm} {k0 : Nat} {locs : List Loc} {T' : State} (W : Wk l Z EL R own bytes maxL ret nm X σ ρ T k n)
    (hS : X.s.Since vm0 k0) (hk0 : k0 ≤ T.heap.size) (hZ : Z.Warmed39 vm0) (hown : vm0.findClass own = some X.m.cls) (hFr : Fr Z.heap.size locs) (H : Hp Z EL X.so X.ro X.s σ ρ vm0 T.heap)
    (Y' : Stand X.p l X.e R (X.s.setVm vm0) X.m X.args X.below X.meth X.c T' locs k n) (e : T'.heap = T.heap) : Wk l Z EL R own bytes maxL ret nm X σ ρ T' k n :=
  ⟨W.1, vm0, k0, locs, Y', hS, by rw [e]; exact hk0, hZ, hown, hFr, by rw [e]; exact H⟩
theorem Go.getfield (W : Wk l Z EL R own bytes maxL ret nm X σ ρ T k n) (hm : (a, c) ∈ σ ∨ (a, c) ∈ ρ ∨ Z.heap[a]? = some c) {R0 O nF d : String} {ix : Nat} {v : Value} (w : (Jvm.Cond.fieldLink own ix R0 nF d).before a0 Z = true) (via : Via Z R0 O nF d) (F : FldC Z c O nF d v) (hd : decode bytes pc = .ok (.getfield ix, 3)) (hp : pc + 3 = pc')
    (r : ∀ T' : State, Wk l Z EL R own bytes maxL ret nm X σ ρ T' k n → Go Z EL K N Q X T' pc' Ls (v :: st)) : Go Z EL K N Q X T pc Ls (.ref a :: st) := by
  have hc := W.cell hm
  have W1 := W
  obtain ⟨w0, vm0, k0, locs, Y, hS, hk0, hZ, hown, hFr, H⟩ := W
  obtain ⟨T', Y', e', stp⟩ := getF Y w0.1 hZ hown (host := "") (Or.inl w) via rfl (F.fld hc) (g := mkF X.m pc Ls (.ref a :: st)) rfl rfl (by rw [w0.2.1]; exact hd)
  subst hp
  exact Go.by stp (r T' (W1.same hS hk0 hZ hown hFr H Y' e'))
theorem Go.getstatic (W : Wk l Z EL R own bytes maxL ret nm X σ ρ T k n) {R0 O nF d : String} {ix : Nat} {v : Value} (w : (Jvm.Cond.fieldLink own ix R0 nF d).before a0 Z = true) (via : Via Z R0 O nF d) (F : Sta Z Z.heap O nF d v) (hd : decode bytes pc = .ok (.getstatic ix, 3)) (hp : pc + 3 = pc')
    (r : ∀ T' : State, Wk l Z EL R own bytes maxL ret nm X σ ρ T' k n → Go Z EL K N Q X T' pc' Ls (v :: st)) : Go Z EL K N Q X T pc Ls st := by
  have hE := W.ext
  have W1 := W
  obtain ⟨w0, vm0, k0, locs, Y, hS, hk0, hZ, hown, hFr, H⟩ := W
  obtain ⟨T', Y', e', stp⟩ := getS Y w0.1 hZ (host := "") hown w via rfl (F.ext hE) (g := mkF X.m pc Ls st) rfl (by rw [w0.2.1]; exact hd)
  subst hp
  exact Go.by stp (r T' (W1.same hS hk0 hZ hown hFr H Y' e'))
theorem Go.putfield (W : Wk l Z EL R own bytes maxL ret nm X σ ρ T k n) (i : Nat) (hm : σ[i]? = some (a, c)) {R0 O nF d C : String} {ix kk : Nat} {ty : FieldType} {v v' old : Value} (w : (Jvm.Cond.fieldLink own ix R0 nF d).before a0 Z = true) (via : Via Z R0 O nF d) (F : FldC Z c O nF d old) (E : ObjC Z c C)
    (L : (Jvm.Cond.lays C O nF d).before a0 Z = true ∨ ((Jvm.Cond.laysFinal C O nF d).before a0 Z = true ∧ own = O ∧ nm = "<init>")) (wi : (Jvm.Cond.instantiable C kk).before a0 Z = true) (hty : parseFieldDescriptor d = some ty) (hn : narrow ty v = v') (hf : fits ty v' = true)
    (hd : decode bytes pc = .ok (.putfield ix, 3)) (hp : pc + 3 = pc')
    (r : ∀ (T' : State) (c' : Cell), c' = c.setSlot (Jvm.RoadKit.slotOf Z O nF d) v' → Wk l Z EL R own bytes maxL ret nm X (σ.set i (a, c')) ρ T' k n → Go Z EL K N Q X T' pc' Ls st) : Go Z EL K N Q X T pc Ls (v :: .ref a :: st) := by
  have hc := W.cell (Or.inl (List.mem_of_getElem? hm))
  have W1 := W
  obtain ⟨w0, vm0, k0, locs, Y, hS, hk0, hZ, hown, hFr, H⟩ := W
  obtain ⟨T', h', Y', e', Wr', stp⟩ := putFN Y w0.1 hZ hown w via rfl (F.fld hc) (E.exa hc) (L.imp id fun q => ⟨q.1, q.2.1, by rw [w0.2.2.2.2.2.1]; exact q.2.2⟩) wi hty hn hf (g := mkF X.m pc Ls (v :: .ref a :: st)) rfl rfl (by rw [w0.2.1]; exact hd)
  subst e' hp
  exact Go.by stp (r T' _ rfl (W1.wrote hm hS hk0 hZ hown hFr H Y' Wr'))
theorem Go.objInit (W : Wk l Z EL R own bytes maxL ret nm X σ ρ T k n) {ix : Nat} (w1 : (Jvm.Cond.methodLink own ix Lib.objectInit).before a0 Z = true) (w2 : (Jvm.Cond.instanceMethod Lib.objectInit).before a0 Z = true) (w3 : (Jvm.Cond.code Lib.objectInit ⟨#[0xb1]⟩ 1 none).before a0 Z = true) (hLs : Ls.size = maxL)
    (hd : decode bytes pc = .ok (.invokespecial ix, 3)) (hp : pc + 3 = pc') (hf : 1 ≤ R.frames) (hl : (st.map fun v => v.category).sum + 12 ≤ R.locals)
    (r : ∀ T' : State, Wk l Z EL R own bytes maxL ret nm X σ ρ T' k n → Go Z EL K N Q X T' pc' Ls st) : Go Z EL K N Q X T pc Ls (.ref a :: st) := by
  have W1 := W
  obtain ⟨w0, vm0, k0, locs, Y, hS, hk0, hZ, hown, hFr, H⟩ := W
  obtain ⟨T', Y', e', stp⟩ := initO Y w0.1 hZ hown w1 w2 w3 rfl (g := mkF X.m pc Ls (.ref a :: st)) rfl (by show Ls.size = _; rw [hLs, w0.2.2.1]) rfl (by rw [w0.2.1]; exact hd) hf (W := (st.map fun v => v.category).sum) (by show 2 * 0 + _ ≤ _; omega) hl
  subst hp
  exact Go.by stp (r T' (W1.same hS hk0 hZ hown hFr H Y' e'))
theorem Go.ldcInt (W : Wk l Z EL R own bytes maxL ret nm X σ ρ T k n) {ix : Nat} {v : Int32} (w : (Jvm.Cond.constant own ix v).before a0 Z = true) (hd : decode bytes pc = .ok (.ldc ix, 2)) (hp : pc + 2 = pc') (r : Go Z EL K N Q X T pc' Ls (.int v :: st)) : Go Z EL K N Q X T pc Ls st := by
  obtain ⟨w0, vm0, k0, locs, Y, hS, hk0, hZ, hown, hFr, H⟩ := W
  exact Go.by (fun t kk => Y.ldcI w0.1 hown (mvT hZ w) (g := mkF X.m pc Ls st) rfl (by rw [w0.2.1]; exact hd) (by subst hp; exact kk)) r
theorem Go.ldcwInt (W : Wk l Z EL R own bytes maxL ret nm X σ ρ T k n) {ix : Nat} {v : Int32} (w : (Jvm.Cond.constant own ix v).before a0 Z = true) (hd : decode bytes pc = .ok (.ldc_w ix, 3)) (hp : pc + 3 = pc') (r : Go Z EL K N Q X T pc' Ls (.int v :: st)) : Go Z EL K N Q X T pc Ls st := by
  obtain ⟨w0, vm0, k0, locs, Y, hS, hk0, hZ, hown, hFr, H⟩ := W
  exact Go.by (fun t kk => Y.ldcWI w0.1 hown (mvT hZ w) (g := mkF X.m pc Ls st) rfl (by rw [w0.2.1]; exact hd) (by subst hp; exact kk)) r
theorem Go.ldc2 (W : Wk l Z EL R own bytes maxL ret nm X σ ρ T k n) {ix : Nat} {v : Int64} (w : (Jvm.Cond.constantLong own ix v).before a0 Z = true) (hd : decode bytes pc = .ok (.ldc2_w ix, 3)) (hp : pc + 3 = pc') (r : Go Z EL K N Q X T pc' Ls (.long v :: st)) : Go Z EL K N Q X T pc Ls st := by
  obtain ⟨w0, vm0, k0, locs, Y, hS, hk0, hZ, hown, hFr, H⟩ := W
  exact Go.by (fun t kk => Y.ldc2J w0.1 hown (mvT hZ w) (g := mkF X.m pc Ls st) rfl (by rw [w0.2.1]; exact hd) (by subst hp; exact kk)) r
/-- a literal that may be made: what it holds -/
theorem Go.ldcStr (W : Wk l Z EL R own bytes maxL ret nm X σ ρ T k n) (hEL : EW Z a0 EL) {text : String} {ix : Nat} (w : (Jvm.Cond.stringLink own ix text).before a0 Z = true) (wS : ∀ d ∈ Bundle.stringAtoms, d.before a0 Z = true) (hmem : (own, ix) ∈ EL)
    {bs : List Value} {z : Int32} (ht : (∀ c ∈ text.toList, c.toNat < 256) ∧ text.toList.map (fun c => Value.int (Jvm.Lit.byteI c.toNat.toUInt16)) = bs) (hz : ¬ z < 0) (hl : z.toNatClampNeg = bs.length) (hbl : bs.length < 2147483648)
    (hd : decode bytes pc = .ok (.ldc ix, 2)) (hp : pc + 2 = pc') {m : Nat} (hm : 4 * text.toList.length ≤ m) (hbig : m ≤ 536870912) (hk : k + 2 ≤ R.cells) (hn : n + (m + 4) ≤ R.slots)
    (r : ∀ (T' : State) (a b : Addr) (c cb : Cell), Wk l Z EL R own bytes maxL ret nm X σ ((a, c) :: (b, cb) :: ρ) T' (k + 2) (n + (m + 4)) → ObjC Z c "java/lang/String" → FldC Z c "java/lang/String" "coder" "B" (.int 0) → FldC Z c "java/lang/String" "value" "[B" (.ref b) → ArrC Z cb .byte bs → Go Z EL K N Q X T' pc' Ls (.ref a :: st)) :
    Go Z EL K N Q X T pc Ls st := by
  obtain ⟨w0, vm0, k0, locs, Y, hS, hk0, hZ, hown, hFr, H⟩ := W
  obtain ⟨a, T', h', k1, b, kc, Y', e', E, hS', hk1, hZ', hown', A1, F1, F2, V1, la, lb, C, -, hne, stp⟩ := ldcCH Y w0.1 hZ hown w wS rfl hS hk0 hEL hmem H.1.1 ht hz hl (g := mkF X.m pc Ls st) rfl (by rw [w0.2.1]; exact hd) hm hbig hk hn
  subst e' hp
  obtain ⟨cb, Ab, -, sz, -, hh, hfit⟩ := V1
  have hcb : T'.heap[b]? = some cb := Ab.1
  obtain ⟨c, hc⟩ : ∃ c, T'.heap[a]? = some c := by obtain ⟨c, _, q, -⟩ := A1; exact ⟨c, q⟩
  have H2 := ((H.later C E).lit hcb fun x q => (hne x q).2).lit hc fun x q => (hne x q).1
  have hlen : cb.slots.size = bs.length := by rw [sz, hl]
  have hsl : cb.slots.toList = bs := by
    apply List.ext_getElem?
    intro i
    by_cases q : i < bs.length
    · have := hh i (by omega)
      rw [Array.getElem?_toList, this, List.getD_eq_getElem?_getD, List.getElem?_eq_getElem q]; rfl
    · rw [Array.getElem?_toList, Array.getElem?_eq_none (by omega), List.getElem?_eq_none (by omega)]
  refine Go.by stp (r T' a b c cb ⟨w0, T'.vm, k1, locs, Y', hS', hk1, hZ', hown', hFr, H2⟩ (ObjC.of A1 hc) (FldC.of F1 hc) (FldC.of F2 hc) ⟨Ab.2.1, Ab.2.2, hsl, fun v hv => ?_, hbl⟩)
  obtain ⟨i, hi⟩ := List.mem_iff_getElem?.mp hv
  have hlt := (List.getElem?_eq_some_iff.mp hi).1
  have q := hfit i (by omega)
  rw [List.getD_eq_getElem?_getD, hi] at q
  exact q
end HeapLaws
/-! ## own: calls and returns in the Go form -/
section CallLaws
variable {l : Launch} {Z : State} {a0 : Array Value} {EL : List (String × Nat)} {R : Room} {own : String} {bytes : ByteArray} {maxL : Nat} {ret : Option FieldType} {nm : String} {X : Ctx} {σ ρ : HL} {T : State} {k n K N : Nat} {Q Q' : Option Value → HL → HL → Prop} {pc pc' : Nat} {Ls : Array Slot} {st rest : List Value} {a : Addr} {c : Cell}
  {y y' : MethodName} {by' : ByteArray} {mL : Nat} {rt : Option FieldType} {rm : Room} {as' : Array Value} {σi σf ρi : HL}
/-- the point behind a call -/
theorem Wk.called (W : Wk l Z EL R own bytes maxL ret nm X σ ρ T k n) {vm0 : Vm} {k0 : Nat} {locs L : List Loc} (hS : X.s.Since vm0 k0) (hk0 : k0 ≤ T.heap.size) (hZ : Z.Warmed39 vm0) (hown : vm0.findClass own = some X.m.cls) (hFr : Fr Z.heap.size locs) (B : Pt) {σ' ρ' : HL}
    (Y' : Stand X.p l X.e R ((X.s.setVm vm0).setVm B.U.vm) X.m X.args X.below X.meth X.c B.U B.locs B.cells B.slots) (hS2 : (X.s.setVm vm0).Since B.U.vm B.U.heap.size) (g : T.heap.size ≤ B.U.heap.size) (hL : Fr Z.heap.size L) (H : Hp Z EL X.so X.ro X.s σ' ρ' B.U.vm B.U.heap)
    (e1 : B.locs = locs ++ L) (e2 : B.cells = k + rm.cells) (e3 : B.slots = n + rm.slots) : Wk l Z EL R own bytes maxL ret nm X σ' ρ' B.U (k + rm.cells) (n + rm.slots) := by
  obtain ⟨U, Lo, c1, s1⟩ := B
  dsimp only [Pt.U, Pt.locs, Pt.cells, Pt.slots] at *
  subst e1 e2 e3
  exact ⟨W.1, U.vm, U.heap.size, _, Y', hS.trans hS2 (Nat.le_trans hk0 g), Nat.le_refl _, State.Warmed39.trans (t := X.s.setVm vm0) hZ hS2.1, by rw [hS2.1.alike.findClass]; exact hown, hFr.app hL, H⟩
theorem Go.static (W : Wk l Z EL R own bytes maxL ret nm X σ ρ T k n) {ix : Nat} (M : Met l Z EL y by' mL rt rm as' σi ρi Q') (w1 : (Jvm.Cond.methodLink own ix y).before a0 Z = true) (w2 : (Jvm.Cond.static y).before a0 Z = true) (w3 : (Jvm.Cond.initialized y.cls).before a0 Z = true) (w4 : (Jvm.Cond.code y by' mL rt).before a0 Z = true)
    (hy : y.cls ≠ "java/lang/invoke/MethodHandle" ∧ y.cls ≠ "java/lang/invoke/VarHandle") (is js : List Nat) (hσ : pick is σ = some (σi, σf)) (hρ : roOf js ρ ρi) (argsL : List Value) (rest : List Value) (has : argsL.toArray = as') (hlen : ∀ sig, parseMethodDescriptor y.desc = some sig → argsL.length = sig.parameters.length) (hst : st = argsL.reverse ++ rest)
    (hLs : Ls.size = maxL) (hd : decode bytes pc = .ok (.invokestatic ix, 3)) (hp : pc + 3 = pc') (hf : rm.frames + 1 ≤ R.frames) (hl : (rest.map fun v => v.category).sum + (mL + 11) + rm.locals ≤ R.locals) (hk : k + rm.cells ≤ R.cells) (hn : n + rm.slots ≤ R.slots)
    (r : ∀ (v : Option Value) (σ' ρ' : HL) (T' : State), Q' v σ' ρ' → Wk l Z EL R own bytes maxL ret nm X (σ' ++ σf) (ρ' ++ ρ) T' (k + rm.cells) (n + rm.slots) → Go Z EL K N Q X T' pc' Ls (v.toList ++ rest)) : Go Z EL K N Q X T pc Ls st := by
  have W1 := W
  obtain ⟨w0, vm0, k0, locs, Y, hS, hk0, hZ, hown, hFr, H⟩ := W
  obtain ⟨ae, hEL⟩ := w0.2.2.2.2.2.2
  subst has hst
  have B1 := M.back (R := R) (p := X.p) (e := X.e) (below := X.below) (args := X.args) (len := 3) (W := (rest.map fun v => v.category).sum) hZ w4 w3 hf hl hEL (H.perm (pick_perm _ _ _ _ hσ)) hρ.mem
  obtain ⟨v, vm1, B, -, Y', hS2, g, ⟨σ', ρ', L, q, hL, H', e1, e2, e3⟩, stp⟩ := callSS Y w0.1 hown (mvT hZ w1) (mvT hZ w2) (mvT hZ w3) (mvT hZ w4) hy B1 (g := mkF X.m pc Ls (argsL.reverse ++ rest)) rfl (by show Ls.size = _; rw [hLs, w0.2.2.1]) (argsL := argsL) (rest := rest) hlen rfl (by show 2 * 0 + _ ≤ _; omega) (by rw [w0.2.1]; exact hd) (fun _ _ => ⟨rfl, rfl, hk, hn⟩)
  subst hp
  exact Go.by (fun t kk => stp.trans kk) (r v σ' ρ' B.U q (W1.called hS hk0 hZ hown hFr B Y' hS2 g hL H' e1 e2 e3))
theorem Go.special (W : Wk l Z EL R own bytes maxL ret nm X σ ρ T k n) {ix : Nat} (M : Met l Z EL y by' mL none rm as' σi ρi Q') (hy1 : y.name = "<init>") (w1 : (Jvm.Cond.methodLink own ix y).before a0 Z = true) (w2 : (Jvm.Cond.instanceMethod y).before a0 Z = true) (w3 : (Jvm.Cond.initialized y.cls).before a0 Z = true) (w4 : (Jvm.Cond.code y by' mL none).before a0 Z = true)
    (hy : y.cls ≠ "java/lang/invoke/MethodHandle" ∧ y.cls ≠ "java/lang/invoke/VarHandle") (is js : List Nat) (hσ : pick is σ = some (σi, σf)) (hρ : roOf js ρ ρi) (argsL : List Value) (rest : List Value) (has : (.ref a :: argsL).toArray = as') (hlen : ∀ sig, parseMethodDescriptor y.desc = some sig → argsL.length = sig.parameters.length) (hst : st = argsL.reverse ++ .ref a :: rest)
    (hLs : Ls.size = maxL) (hd : decode bytes pc = .ok (.invokespecial ix, 3)) (hp : pc + 3 = pc') (hf : rm.frames + 1 ≤ R.frames) (hl : (rest.map fun v => v.category).sum + (mL + 11) + rm.locals ≤ R.locals) (hk : k + rm.cells ≤ R.cells) (hn : n + rm.slots ≤ R.slots)
    (r : ∀ (v : Option Value) (σ' ρ' : HL) (T' : State), Q' v σ' ρ' → Wk l Z EL R own bytes maxL ret nm X (σ' ++ σf) (ρ' ++ ρ) T' (k + rm.cells) (n + rm.slots) → Go Z EL K N Q X T' pc' Ls (v.toList ++ rest)) : Go Z EL K N Q X T pc Ls st := by
  have W1 := W
  obtain ⟨w0, vm0, k0, locs, Y, hS, hk0, hZ, hown, hFr, H⟩ := W
  obtain ⟨ae, hEL⟩ := w0.2.2.2.2.2.2
  subst has hst
  have B1 := M.back (R := R) (p := X.p) (e := X.e) (below := X.below) (args := X.args) (len := 3) (W := (rest.map fun v => v.category).sum) hZ w4 w3 hf hl hEL (H.perm (pick_perm _ _ _ _ hσ)) hρ.mem
  obtain ⟨v, vm1, B, -, Y', hS2, g, ⟨σ', ρ', L, q, hL, H', e1, e2, e3⟩, stp⟩ := Y.specialBackS w0.1 hy1 hown (mvT hZ w1) (mvT hZ w2) (mvT hZ w4) hy B1 (g := mkF X.m pc Ls (argsL.reverse ++ .ref a :: rest)) rfl (by show Ls.size = _; rw [hLs, w0.2.2.1]) (Steps.refl _) (a := a) (argsL := argsL) (rest := rest) hlen rfl (by show 2 * 0 + _ ≤ _; omega) (by rw [w0.2.1]; exact hd) (fun _ _ => ⟨rfl, rfl, hk, hn⟩)
  subst hp
  exact Go.by (fun t kk => stp.trans kk) (r v σ' ρ' B.U q (W1.called hS hk0 hZ hown hFr B Y' hS2 g hL H' e1 e2 e3))
theorem Go.virtual (W : Wk l Z EL R own bytes maxL ret nm X σ ρ T k n) {ix : Nat} {C : String} (M : Met l Z EL y by' mL rt rm as' σi ρi Q') (hm : (a, c) ∈ σ ∨ (a, c) ∈ ρ ∨ Z.heap[a]? = some c) (O : ObjC Z c C) (w1 : (Jvm.Cond.methodLink own ix y).before a0 Z = true) (wd : (Jvm.Cond.declares y).before a0 Z = true) (ws : (Jvm.Cond.selects C y y).before a0 Z = true) (w2 : (Jvm.Cond.instanceMethod y).before a0 Z = true) (w3 : (Jvm.Cond.initialized y.cls).before a0 Z = true) (w4 : (Jvm.Cond.code y by' mL rt).before a0 Z = true)
    (hy : y.cls ≠ "java/lang/invoke/MethodHandle" ∧ y.cls ≠ "java/lang/invoke/VarHandle") (is js : List Nat) (hσ : pick is σ = some (σi, σf)) (hρ : roOf js ρ ρi) (argsL : List Value) (rest : List Value) (has : (.ref a :: argsL).toArray = as') (hlen : ∀ sig, parseMethodDescriptor y.desc = some sig → argsL.length = sig.parameters.length) (hst : st = argsL.reverse ++ .ref a :: rest)
    (hLs : Ls.size = maxL) (hd : decode bytes pc = .ok (.invokevirtual ix, 3)) (hp : pc + 3 = pc') (hf : rm.frames + 1 ≤ R.frames) (hl : (rest.map fun v => v.category).sum + (mL + 11) + rm.locals ≤ R.locals) (hk : k + rm.cells ≤ R.cells) (hn : n + rm.slots ≤ R.slots)
    (r : ∀ (v : Option Value) (σ' ρ' : HL) (T' : State), Q' v σ' ρ' → Wk l Z EL R own bytes maxL ret nm X (σ' ++ σf) (ρ' ++ ρ) T' (k + rm.cells) (n + rm.slots) → Go Z EL K N Q X T' pc' Ls (v.toList ++ rest)) : Go Z EL K N Q X T pc Ls st := by
  have W1 := W
  have hc := W.cell hm
  obtain ⟨w0, vm0, k0, locs, Y, hS, hk0, hZ, hown, hFr, H⟩ := W
  obtain ⟨ae, hEL⟩ := w0.2.2.2.2.2.2
  subst has hst
  have B1 := M.back (R := R) (p := X.p) (e := X.e) (below := X.below) (args := X.args) (len := 3) (W := (rest.map fun v => v.category).sum) hZ w4 w3 hf hl hEL (H.perm (pick_perm _ _ _ _ hσ)) hρ.mem
  obtain ⟨cq, kq, qa, qb, qc⟩ := isOf (s := X.s.setVm vm0) hZ rfl (O.exa hc)
  obtain ⟨v, vm1, B, -, Y', hS2, g, ⟨σ', ρ', L, q, hL, H', e1, e2, e3⟩, stp⟩ := Y.virtualBackS w0.1 hown (mvT hZ w1) (mvT hZ wd) (notFace_of_selects (args := #[]) (mvT hZ ws)) (mvT hZ ws) (mvT hZ w2) hy B1 qa qc (g := mkF X.m pc Ls (argsL.reverse ++ .ref a :: rest)) rfl (by show Ls.size = _; rw [hLs, w0.2.2.1]) (Steps.refl _) (argsL := argsL) (rest := rest) hlen rfl (by show 2 * 0 + _ ≤ _; omega) (by rw [w0.2.1]; exact hd) (fun _ _ => ⟨rfl, rfl, hk, hn⟩)
  subst hp
  exact Go.by (fun t kk => stp.trans kk) (r v σ' ρ' B.U q (W1.called hS hk0 hZ hown hFr B Y' hS2 g hL H' e1 e2 e3))
/-! returns -/
theorem Go.leave (W : Wk l Z EL R own bytes maxL ret nm X σ ρ T k n) (v : Option Value) (hv : ret = none → v = none) (hk : k ≤ K) (hn : n ≤ N) (q : Q v σ ρ)
    (hstep : ∀ (fs : List Frame) (vm0 : Vm) (locs : List Loc), Stand X.p l X.e R (X.s.setVm vm0) X.m X.args X.below X.meth X.c T locs K N → (∀ (f : JFrame) (acts : List Action), f.method = X.m → f.locked = none → f.entered = [] → (doReturn X.e (T.setTop f) acts v).1 = T.setFrames fs) → Steps X.p.tables X.e X.below (T.setTop (mkF X.m pc Ls st)) (T.setFrames fs)) :
    Go Z EL K N Q X T pc Ls st := by
  obtain ⟨w0, vm0, k0, locs, Y, hS, hk0, hZ, hown, hFr, H⟩ := W
  obtain ⟨ae, hEL⟩ := w0.2.2.2.2.2.2
  have Y2 := Y.more hk hn
  obtain ⟨fs, h1, h2, h3, h4⟩ := Y2.leaveW hS hk0 (v := v) (fun h => hv (by rw [← w0.2.2.2.1]; exact h)) w0.2.2.2.2.1
  have H2 : Hp Z EL X.so X.ro X.s σ ρ T.vm T.heap := H.later (CHv.at Y hZ hEL H.1.1) ⟨Nat.le_refl _, fun _ _ z => z⟩
  exact ⟨T.setFrames fs, _, hstep fs vm0 locs Y2 h1, h2, h3, v, σ, ρ, locs, rfl, q, hFr, H2, h4⟩
theorem Go.retV (W : Wk l Z EL R own bytes maxL none nm X σ ρ T k n) (hd : decode bytes pc = .ok (.return_, 1)) (hk : k ≤ K) (hn : n ≤ N) (q : Q none σ ρ) : Go Z EL K N Q X T pc Ls [] := by
  refine Go.leave W none (fun _ => rfl) hk hn q fun fs vm0 locs Y h => ?_
  exact Y.returnOut W.hx W.1.2.2.2.1 (W.hb hd) h
theorem Go.iret (W : Wk l Z EL R own bytes maxL (some .int) nm X σ ρ T k n) {z : Int32} (hd : decode bytes pc = .ok (.ireturn, 1)) (hk : k ≤ K) (hn : n ≤ N) (q : Q (some (.int z)) σ ρ) : Go Z EL K N Q X T pc Ls (.int z :: st) := by
  refine Go.leave W (some (.int z)) (fun h => nomatch h) hk hn q fun fs vm0 locs Y h => ?_
  exact retOut Y W.hx W.1.2.2.2.1 rfl (Or.inl ⟨rfl, Or.inl rfl, z, rfl⟩) (W.hb hd) h
theorem Go.nret (W : Wk l Z EL R own bytes maxL (some t) nm X σ ρ T k n) {z z' : Int32} (ht : t = .boolean ∨ t = .byte ∨ t = .char ∨ t = .short) (hz : nar t z = z') (hd : decode bytes pc = .ok (.ireturn, 1)) (hk : k ≤ K) (hn : n ≤ N) (q : Q (some (.int z')) σ ρ) : Go Z EL K N Q X T pc Ls (.int z :: st) := by
  subst hz
  refine Go.leave W (some (.int (nar t z))) (fun h => nomatch h) hk hn q fun fs vm0 locs Y h => ?_
  exact retN Y W.hx W.1.2.2.2.1 ht (W.hb hd) h
theorem Go.lret (W : Wk l Z EL R own bytes maxL (some .long) nm X σ ρ T k n) {z : Int64} (hd : decode bytes pc = .ok (.lreturn, 1)) (hk : k ≤ K) (hn : n ≤ N) (q : Q (some (.long z)) σ ρ) : Go Z EL K N Q X T pc Ls (.long z :: st) := by
  refine Go.leave W (some (.long z)) (fun h => nomatch h) hk hn q fun fs vm0 locs Y h => ?_
  exact retOut Y W.hx W.1.2.2.2.1 rfl (Or.inr (Or.inl ⟨rfl, rfl, z, rfl⟩)) (W.hb hd) h
theorem narrow_ref {t : FieldType} (ht : t.isReference = true) (w : Value) : narrow t w = w := by cases t <;> first | (cases ht; done) | rfl
theorem Go.aret (W : Wk l Z EL R own bytes maxL (some t) nm X σ ρ T k n) {w : Value} (hw : w.isRef = true) (ht : t.isReference = true) (hd : decode bytes pc = .ok (.areturn, 1)) (hk : k ≤ K) (hn : n ≤ N) (q : Q (some w) σ ρ) : Go Z EL K N Q X T pc Ls (w :: st) := by
  refine Go.leave W (some w) (fun h => nomatch h) hk hn q fun fs vm0 locs Y h => ?_
  exact retOut Y W.hx W.1.2.2.2.1 (narrow_ref ht w) (Or.inr (Or.inr (Or.inr (Or.inr ⟨rfl, ht, hw⟩)))) (W.hb hd) h
end CallLaws
/-! ## own: numbers and lists for the loops over arrays -/
theorem i32_toInt {i : Nat} (hi : i < 2147483648) : i.toInt32.toInt = (i : Int) := by
  rw [show i.toInt32 = Int32.ofNat i from rfl, Int32.toInt_ofNat_of_lt (by omega)]
theorem i32_lt {i n : Nat} (hi : i < 2147483648) (hn : n < 2147483648) : i.toInt32 < n.toInt32 ↔ i < n := by
  rw [Int32.lt_iff_toInt_lt, i32_toInt hi, i32_toInt hn]; omega
theorem i32_nn {i : Nat} (hi : i < 2147483648) : ¬ i.toInt32 < 0 := by
  rw [Int32.lt_iff_toInt_lt, i32_toInt hi]
  have : (0 : Int32).toInt = 0 := by decide
  omega
theorem i32_clamp {i : Nat} (hi : i < 2147483648) : i.toInt32.toNatClampNeg = i := by
  have h := nat_of (i32_nn hi)
  rw [i32_toInt hi] at h
  omega
theorem i32_succ {i : Nat} (hi : i + 1 < 2147483648) : i.toInt32 + 1 = (i + 1).toInt32 := by
  apply Int32.toInt_inj.mp
  have h := c_iadd i.toInt32 1
  rw [i32_toInt (by omega)] at h
  rw [i32_toInt hi]
  have h1 : (1 : Int32).toInt = 1 := by decide
  rw [h1] at h
  have r := rng32 (i.toInt32 + 1)
  omega
theorem i32_inj {i n : Nat} (hi : i < 2147483648) (hn : n < 2147483648) : i.toInt32 = n.toInt32 ↔ i = n := by
  constructor
  · intro h
    have := congrArg Int32.toInt h
    rw [i32_toInt hi, i32_toInt hn] at this
    omega
  · intro h; rw [h]
/-- a char's low byte, as a byte[] holds it -/
abbrev lo8 (x : Int32) : Value := .int x.toInt8.toInt32
abbrev latB (cs : List Int32) : List Value := cs.map lo8
abbrev chV (cs : List Int32) : List Value := cs.map Value.int
/-- each is a Latin-1 char -/
def Lat (cs : List Int32) : Prop := ∀ x ∈ cs, ¬ x < 0 ∧ ¬ (255 : Int32) < x
theorem Lat.nil : Lat [] := fun _ h => nomatch h
theorem Lat.cons {x : Int32} {cs : List Int32} (h : ¬ x < 0 ∧ ¬ (255 : Int32) < x) (r : Lat cs) : Lat (x :: cs) := fun y hy => by
  rcases List.mem_cons.mp hy with rfl | hy
  · exact h
  · exact r y hy
/-- a Latin-1 String's two cells -/
def StrL (Z : State) (c : Cell) (b : Addr) (cb : Cell) (cs : List Int32) : Prop :=
  ObjC Z c "java/lang/String" ∧ FldC Z c "java/lang/String" "coder" "B" (.int 0) ∧ FldC Z c "java/lang/String" "value" "[B" (.ref b) ∧ ArrC Z cb .byte (latB cs) ∧ Lat cs
theorem take_succ' {α : Type} {l : List α} {i : Nat} {x : α} (h : l[i]? = some x) : l.take (i + 1) = l.take i ++ [x] := by
  rw [List.take_add_one, h]; rfl
theorem set_next {cs : List Int32} {i j : Nat} {x : Int32} (hx : cs[i]? = some x) : (latB (cs.take i) ++ List.replicate (j + 1) (.int 0 : Value)).set i (lo8 x) = latB (cs.take (i + 1)) ++ List.replicate j (.int 0) := by
  have hi : i < cs.length := (List.getElem?_eq_some_iff.mp hx).1
  have hl : (latB (cs.take i)).length = i := by simp; omega
  rw [List.set_append_right _ _ (by omega), hl, Nat.sub_self, List.replicate_succ, List.set_cons_zero, take_succ' hx]
  simp [latB]
theorem and255 (x : Int32) : ¬ (x &&& 255) < 0 ∧ ¬ (255 : Int32) < (x &&& 255) := by
  have h := c_and x 255 (by decide)
  have h0 : (0 : Int32).toInt = 0 := by decide
  have h1 : (255 : Int32).toInt = 255 := by decide
  rw [Int32.lt_iff_toInt_lt, Int32.lt_iff_toInt_lt, h0]
  rw [h1] at h ⊢
  omega
/-- a char stays a char -/
theorem i2c_id {x : Int32} (h0 : ¬ x < 0) (h1 : ¬ (65535 : Int32) < x) : x.toUInt32.toUInt16.toUInt32.toInt32 = x := by
  apply Int32.toInt_inj.mp
  have h := c_i2c x
  rw [Int32.lt_iff_toInt_lt] at h0 h1
  have e0 : (0 : Int32).toInt = 0 := by decide
  have e1 : (65535 : Int32).toInt = 65535 := by decide
  rw [e0] at h0
  rw [e1] at h1
  omega
theorem lat_char {x : Int32} (h : ¬ x < 0 ∧ ¬ (255 : Int32) < x) : ¬ x < 0 ∧ ¬ (65535 : Int32) < x := by
  obtain ⟨h0, h1⟩ := h
  refine ⟨h0, ?_⟩
  rw [Int32.lt_iff_toInt_lt] at h1 ⊢
  have e0 : (255 : Int32).toInt = 255 := by decide
  have e1 : (65535 : Int32).toInt = 65535 := by decide
  rw [e0] at h1
  rw [e1]
  omega
theorem nar_char_id {x : Int32} (h : ¬ x < 0 ∧ ¬ (65535 : Int32) < x) : nar .char x = x := i2c_id h.1 h.2
/-- a byte read back with & 255 -/
theorem byte_back {x : Int32} (h : ¬ x < 0 ∧ ¬ (255 : Int32) < x) : x.toInt8.toInt32 &&& 255 = x := by
  apply Int32.toInt_inj.mp
  rw [c_mask _ 255 8 (by decide) (by decide)]
  have hb := c_i2b x
  obtain ⟨h0, h1⟩ := h
  rw [Int32.lt_iff_toInt_lt] at h0 h1
  have e0 : (0 : Int32).toInt = 0 := by decide
  have e1 : (255 : Int32).toInt = 255 := by decide
  rw [e0] at h0
  rw [e1] at h1
  omega
theorem lo8_inj {x y : Int32} (hx : ¬ x < 0 ∧ ¬ (255 : Int32) < x) (hy : ¬ y < 0 ∧ ¬ (255 : Int32) < y) (h : x.toInt8.toInt32 = y.toInt8.toInt32) : x = y := by
  rw [← byte_back hx, ← byte_back hy, h]
theorem i8_i8 (x : Int32) : x.toInt8.toInt32.toInt8.toInt32 = x.toInt8.toInt32 := by
  apply Int32.toInt_inj.mp
  have h1 := c_i2b x
  have h2 := c_i2b x.toInt8.toInt32
  omega
theorem andchr (x m : Int32) (h0 : 0 ≤ m.toInt) (h1 : m.toInt ≤ 65535) : ¬ (x &&& m) < 0 ∧ ¬ (65535 : Int32) < (x &&& m) := by
  have h := c_and x m h0
  have e0 : (0 : Int32).toInt = 0 := by decide
  have e1 : (65535 : Int32).toInt = 65535 := by decide
  rw [Int32.lt_iff_toInt_lt, Int32.lt_iff_toInt_lt, e0, e1]
  omega
theorem ite10_z {P : Prop} [Decidable P] : ((if P then (1 : Int32) else 0) = 0) ↔ ¬ P := by by_cases h : P <;> simp [h]
theorem ite10_o {P : Prop} [Decidable P] : ((if P then (1 : Int32) else 0) = 1) ↔ P := by by_cases h : P <;> simp [h]
theorem ite01_z {P : Prop} [Decidable P] : ((if P then (0 : Int32) else 1) = 0) ↔ P := by by_cases h : P <;> simp [h]
theorem ite01_o {P : Prop} [Decidable P] : ((if P then (0 : Int32) else 1) = 1) ↔ ¬ P := by by_cases h : P <;> simp [h]
/-! ## own: casts and comparisons of references in the Go form -/
section RefLaws
variable {l : Launch} {Z : State} {a0 : Array Value} {EL : List (String × Nat)} {R : Room} {own : String} {bytes : ByteArray} {maxL : Nat} {ret : Option FieldType} {nm : String} {X : Ctx} {σ ρ : HL} {T : State} {k n K N : Nat} {Q : Option Value → HL → HL → Prop} {pc pc' : Nat} {Ls : Array Slot} {st : List Value} {a : Addr} {c : Cell}
theorem Go.instY (W : Wk l Z EL R own bytes maxL ret nm X σ ρ T k n) (hm : (a, c) ∈ σ ∨ (a, c) ∈ ρ ∨ Z.heap[a]? = some c) {C : String} {ix : Nat} (O : ObjC Z c C) (w : (Jvm.Cond.classLink own ix C).before a0 Z = true) (hd : decode bytes pc = .ok (.instanceof ix, 3)) (hp : pc + 3 = pc')
    (r : ∀ T' : State, Wk l Z EL R own bytes maxL ret nm X σ ρ T' k n → Go Z EL K N Q X T' pc' Ls (.int 1 :: st)) : Go Z EL K N Q X T pc Ls (.ref a :: st) := by
  have hc := W.cell hm
  have W1 := W
  obtain ⟨w0, vm0, k0, locs, Y, hS, hk0, hZ, hown, hFr, H⟩ := W
  obtain ⟨T', Y', e', stp⟩ := Jvm.RoadKit.instY Y w0.1 hZ hown w rfl (Ins.self (O.exa hc)) (g := mkF X.m pc Ls (.ref a :: st)) rfl rfl (by rw [w0.2.1]; exact hd)
  subst hp
  exact Go.by stp (r T' (W1.same hS hk0 hZ hown hFr H Y' e'))
theorem Go.castY (W : Wk l Z EL R own bytes maxL ret nm X σ ρ T k n) (hm : (a, c) ∈ σ ∨ (a, c) ∈ ρ ∨ Z.heap[a]? = some c) {C : String} {ix : Nat} (O : ObjC Z c C) (w : (Jvm.Cond.classLink own ix C).before a0 Z = true) (hd : decode bytes pc = .ok (.checkcast ix, 3)) (hp : pc + 3 = pc')
    (r : ∀ T' : State, Wk l Z EL R own bytes maxL ret nm X σ ρ T' k n → Go Z EL K N Q X T' pc' Ls (.ref a :: st)) : Go Z EL K N Q X T pc Ls (.ref a :: st) := by
  have hc := W.cell hm
  have W1 := W
  obtain ⟨w0, vm0, k0, locs, Y, hS, hk0, hZ, hown, hFr, H⟩ := W
  obtain ⟨T', Y', e', stp⟩ := Jvm.RoadKit.castY Y w0.1 hZ hown w rfl (Ins.self (O.exa hc)) (g := mkF X.m pc Ls (.ref a :: st)) rfl rfl (by rw [w0.2.1]; exact hd)
  subst hp
  exact Go.by stp (r T' (W1.same hS hk0 hZ hown hFr H Y' e'))
theorem Go.acmp_ne (W : Wk l Z EL R own bytes maxL ret nm X σ ρ T k n) {x y : Value} {o : Int} (pcY : Nat) (h1 : x.isRef = true) (h2 : y.isRef = true) (hd : decode bytes pc = .ok (.if_acmp .ne o, 3)) (hy : (pc : Int) + o = (pcY : Nat)) (hp : pc + 3 = pc')
    (rY : ¬ x = y → Go Z EL K N Q X T pcY Ls st) (rN : x = y → Go Z EL K N Q X T pc' Ls st) : Go Z EL K N Q X T pc Ls (y :: x :: st) := by
  obtain ⟨w0, vm0, k0, locs, Y, hS, hk0, hZ, hown, hFr, H⟩ := W
  by_cases q : x = y
  · exact Go.by (fun t kk => acmp Y w0.1 (g := mkF X.m pc Ls (y :: x :: st)) rfl h1 h2 (pc0 := pc) (pc' := pc') (same := true) rfl (by rw [w0.2.1]; exact hd) rfl (by simp [q]) (by omega) (by subst hp; rfl) kk) (rN q)
  · exact Go.by (fun t kk => acmp Y w0.1 (g := mkF X.m pc Ls (y :: x :: st)) rfl h1 h2 (pc0 := pc) (pc' := pcY) (same := false) rfl (by rw [w0.2.1]; exact hd) rfl (by simp [q]) (by omega) (by simp [acV]; omega) kk) (rY q)
theorem Go.acmp_eq (W : Wk l Z EL R own bytes maxL ret nm X σ ρ T k n) {x y : Value} {o : Int} (pcY : Nat) (h1 : x.isRef = true) (h2 : y.isRef = true) (hd : decode bytes pc = .ok (.if_acmp .eq o, 3)) (hy : (pc : Int) + o = (pcY : Nat)) (hp : pc + 3 = pc')
    (rY : x = y → Go Z EL K N Q X T pcY Ls st) (rN : ¬ x = y → Go Z EL K N Q X T pc' Ls st) : Go Z EL K N Q X T pc Ls (y :: x :: st) := by
  obtain ⟨w0, vm0, k0, locs, Y, hS, hk0, hZ, hown, hFr, H⟩ := W
  by_cases q : x = y
  · exact Go.by (fun t kk => acmp Y w0.1 (g := mkF X.m pc Ls (y :: x :: st)) rfl h1 h2 (pc0 := pc) (pc' := pcY) (same := true) rfl (by rw [w0.2.1]; exact hd) rfl (by simp [q]) (by omega) (by simp [acV]; omega) kk) (rY q)
  · exact Go.by (fun t kk => acmp Y w0.1 (g := mkF X.m pc Ls (y :: x :: st)) rfl h1 h2 (pc0 := pc) (pc' := pc') (same := false) rfl (by rw [w0.2.1]; exact hd) rfl (by simp [q]) (by omega) (by subst hp; rfl) kk) (rN q)
theorem Go.instNull (W : Wk l Z EL R own bytes maxL ret nm X σ ρ T k n) {ix : Nat} (hd : decode bytes pc = .ok (.instanceof ix, 3)) (hp : pc + 3 = pc') (r : Go Z EL K N Q X T pc' Ls (.int 0 :: st)) : Go Z EL K N Q X T pc Ls (.null :: st) := by
  obtain ⟨w0, vm0, k0, locs, Y, hS, hk0, hZ, hown, hFr, H⟩ := W
  exact Go.by (fun t kk => Y.instanceofNull w0.1 (g := mkF X.m pc Ls (.null :: st)) rfl rfl (by rw [w0.2.1]; exact hd) t (by subst hp; exact kk)) r
theorem Go.castNull (W : Wk l Z EL R own bytes maxL ret nm X σ ρ T k n) {ix : Nat} (hd : decode bytes pc = .ok (.checkcast ix, 3)) (hp : pc + 3 = pc') (r : Go Z EL K N Q X T pc' Ls (.null :: st)) : Go Z EL K N Q X T pc Ls (.null :: st) := by
  obtain ⟨w0, vm0, k0, locs, Y, hS, hk0, hZ, hown, hFr, H⟩ := W
  exact Go.by (fun t kk => Y.checkcastNull w0.1 (g := mkF X.m pc Ls (.null :: st)) rfl rfl (by rw [w0.2.1]; exact hd) t (by subst hp; exact kk)) r
end RefLaws
/-! ## own: two Strings at one address -/
theorem FldC.uniq {Z : State} {c : Cell} {C n d : String} {v w : Value} (F : FldC Z c C n d v) (F' : FldC Z c C n d w) : v = w := by
  obtain ⟨cf, k, i, f, h1, -, -, -, -, h6⟩ := F
  obtain ⟨cf', k', i', f', g1, -, -, -, -, g6⟩ := F'
  cases h1.symm.trans g1
  exact Option.some.inj (h6.symm.trans g6)
theorem latB_inj {cs ds : List Int32} (hc : Lat cs) (hd : Lat ds) (h : cs.map (fun x => x.toInt8.toInt32) = ds.map (fun x => x.toInt8.toInt32)) : cs = ds := by
  induction cs generalizing ds with
  | nil => cases ds with
    | nil => rfl
    | cons y ds => simp at h
  | cons x cs ih => cases ds with
    | nil => simp at h
    | cons y ds =>
      simp only [List.map_cons, List.cons.injEq] at h
      rw [lo8_inj (hc x (by simp)) (hd y (by simp)) h.1, ih (fun z hz => hc z (by simp [hz])) (fun z hz => hd z (by simp [hz])) h.2]
theorem latB_eq (cs : List Int32) : latB cs = chV (cs.map fun x => x.toInt8.toInt32) := by simp [latB, chV, lo8]
theorem chV_inj {xs ys : List Int32} (h : chV xs = chV ys) : xs = ys := by
  induction xs generalizing ys with
  | nil => cases ys with
    | nil => rfl
    | cons y ys => simp at h
  | cons x xs ih => cases ys with
    | nil => simp at h
    | cons y ys =>
      simp only [chV, List.map_cons, List.cons.injEq, Value.int.injEq] at h
      rw [h.1, ih h.2]
theorem StrL.uniq {Z : State} {h : Heap} {a b b' : Addr} {c c' cb cb' : Cell} {cs ds : List Int32} (S : StrL Z c b cb cs) (S' : StrL Z c' b' cb' ds) (h1 : h[a]? = some c) (h2 : h[a]? = some c') (h3 : h[b]? = some cb) (h4 : h[b']? = some cb') : cs = ds := by
  cases h1.symm.trans h2
  have e : b = b' := Value.ref.inj (S.2.2.1.uniq S'.2.2.1)
  subst e
  cases h3.symm.trans h4
  have q : latB cs = latB ds := S.2.2.2.1.2.2.1.symm.trans S'.2.2.2.1.2.2.1
  rw [latB_eq, latB_eq] at q
  exact latB_inj S.2.2.2.2 S'.2.2.2.2 (chV_inj q)

theorem len0 {Z : State} {cb : Cell} {cs : List Int32} (A : ArrC Z cb .byte (latB cs)) (h : cs.length.toInt32 = 0) : cs = [] := by
  have hn : cs.length < 2147483648 := by have := A.2.2.2.2; rwa [latB, List.length_map] at this
  have := (i32_inj hn (n := 0) (by decide)).mp h
  exact List.length_eq_zero_iff.mp this
theorem shr0 (x : Int32) : x >>> ((0 : Int32) &&& 31) = x := by
  apply Int32.toInt_inj.mp
  rw [c_ishr x 0 0 (by decide)]
  simp
/-! ## own: arrays of references, old arrays -/
section RefArr
variable {l : Launch} {Z : State} {a0 : Array Value} {EL : List (String × Nat)} {R : Room} {own : String} {bytes : ByteArray} {maxL : Nat} {ret : Option FieldType} {nm : String} {X : Ctx} {σ ρ : HL} {T : State} {k n K N : Nat} {Q : Option Value → HL → HL → Prop} {pc pc' : Nat} {Ls : Array Slot} {st : List Value} {a y : Addr} {c cy : Cell} {vs : List Value}
theorem Go.anewarr (W : Wk l Z EL R own bytes maxL ret nm X σ ρ T k n) {C : String} {ix : Nat} {z : Int32} (len : Nat) (w1 : (Jvm.Cond.classLink own ix C).before a0 Z = true) (w2 : (Jvm.Cond.arrayOver (.object C)).before a0 Z = true) (hd : decode bytes pc = .ok (.anewarray ix, 3)) (hp : pc + 3 = pc')
    (hz : ¬ z < 0) (hl : z.toNatClampNeg = len) (hb : len * 8 ≤ 536870912) (hk : k + 1 ≤ R.cells) (hn : n + len ≤ R.slots)
    (r : ∀ (T' : State) (a : Addr) (c : Cell), Wk l Z EL R own bytes maxL ret nm X ((a, c) :: σ) ρ T' (k + 1) (n + len) → ArrC Z c (.object C) (List.replicate len .null) → Ovr Z c.cls C → Go Z EL K N Q X T' pc' Ls (.ref a :: st)) :
    Go Z EL K N Q X T pc Ls (.int z :: st) := by
  obtain ⟨w0, vm0, k0, locs, Y, hS, hk0, hZ, hown, hFr, H⟩ := W
  obtain ⟨T', h', cA, Y', e', E, A, O, stp⟩ := newR Y w0.1 hZ hown w1 w2 rfl (g := mkF X.m pc Ls (.int z :: st)) rfl (by rw [w0.2.1]; exact hd) rfl hz (cap := len) (Nat.le_of_eq hl) hb hk hn
  subst e' hp
  have hfd : ∀ v ∈ List.replicate len (Value.null), fits (.object C) v = true := fun v hv => by rw [(List.mem_replicate.mp hv).2]; rfl
  exact Go.by stp (r T' T.heap.size _ ⟨w0, vm0, k0, locs, Y', hS, Nat.le_trans hk0 E.1, hZ, hown, hFr, H.alloc E A.1⟩ ⟨A.2.1, A.2.2, by simp [newA, hl, defaultValue], hfd, by simp; omega⟩ O)
theorem Go.aastoreObj (W : Wk l Z EL R own bytes maxL ret nm X σ ρ T k n) (ix : Nat) (hm : σ[ix]? = some (a, c)) {C D : String} (A : ArrC Z c (.object D) vs) (O : Ovr Z c.cls C) (hmy : (y, cy) ∈ σ ∨ (y, cy) ∈ ρ ∨ Z.heap[y]? = some cy) (Oy : ObjC Z cy C) {j : Int32} (i : Nat) (hj : ¬ j < 0) (hi : j.toNatClampNeg = i) (hl : i < vs.length) (hd : decode bytes pc = .ok (.aastore, 1)) (hp : pc + 1 = pc')
    (r : ∀ (T' : State) (c' : Cell), Wk l Z EL R own bytes maxL ret nm X (σ.set ix (a, c')) ρ T' k n → ArrC Z c' (.object D) (vs.set i (.ref y)) → Ovr Z c'.cls C → Go Z EL K N Q X T' pc' Ls st) : Go Z EL K N Q X T pc Ls (.ref y :: .int j :: .ref a :: st) := by
  have hc := W.cell (Or.inl (List.mem_of_getElem? hm))
  have hcy := W.cell hmy
  exact Go.aastore W ix hm A rfl i hj hi hl rfl (Sto.of (A.arr hc) O (Ins.self (Oy.exa hcy))) hd hp fun T' c' W' A' e' => r T' c' W' A' (e' ▸ O)
/-- an array that stood at the start, its components known -/
theorem arrC_old {cl : Cell} {ty : FieldType} (hf : Fit Z) (A : Arr Z Z.heap a cl ty) (hl : cl.slots.size = vs.length) (he : ∀ i, i < vs.length → cl.slots[i]? = vs[i]?) (hb : vs.length < 2147483648) : ArrC Z cl ty vs := by
  have e : cl.slots.toList = vs := by
    apply List.ext_getElem?
    intro i
    by_cases q : i < vs.length
    · rw [Array.getElem?_toList]; exact he i q
    · rw [Array.getElem?_toList, Array.getElem?_eq_none (by omega), List.getElem?_eq_none (by omega)]
  refine ⟨A.2.1, A.2.2, e, fun v hv => ?_, hb⟩
  obtain ⟨i, hi⟩ := List.mem_iff_getElem?.mp hv
  have hlt := (List.getElem?_eq_some_iff.mp hi).1
  refine elem_fits (j := i.toInt32) hf A ?_ ?_
  · rw [i32_clamp (by omega), hl]
    rintro (q | q)
    · exact i32_nn (by omega) q
    · omega
  · rw [i32_clamp (by omega), he i hlt, hi]
end RefArr
abbrev EL1 : List (String × Nat) := consts_1
def Cl (Z : State) (a0 : Array Value) : Prop := (∀ d ∈ tables_1, d.before a0 Z = true) ∧ EW Z a0 EL1 ∧ (∃ cv : Int32, Sta Z Z.heap "java/lang/String" "COMPACT_STRINGS" "Z" (.int cv) ∧ ¬ cv = 0) ∧ (∃ fv : Value, Sta Z Z.heap "jdk/internal/util/Preconditions" "SIOOBE_FORMATTER" "Ljava/util/function/BiFunction;" fv ∧ fv.isRef = true) ∧ True
theorem strAtoms {Z : State} {a0 : Array Value} (G : Cl Z a0) : ∀ d ∈ Bundle.stringAtoms, d.before a0 Z = true := fun d hd => G.1 d ((by decide +kernel : ∀ d ∈ Bundle.stringAtoms, d ∈ tables_1) d hd)
theorem d_jdk_52_method_21_code_0 : decode jdk_52_method_21_code 0 = .ok (.iconst 0, 1) := by decide +kernel
theorem d_jdk_52_method_21_code_1 : decode jdk_52_method_21_code 1 = .ok (.istore 5, 2) := by decide +kernel
theorem d_jdk_52_method_21_code_3 : decode jdk_52_method_21_code 3 = .ok (.iload 5, 2) := by decide +kernel
theorem d_jdk_52_method_21_code_5 : decode jdk_52_method_21_code 5 = .ok (.iload 4, 2) := by decide +kernel
theorem d_jdk_52_method_21_code_7 : decode jdk_52_method_21_code 7 = .ok (.if_icmp .ge 37, 3) := by decide +kernel
theorem d_jdk_52_method_21_code_10 : decode jdk_52_method_21_code 10 = .ok (.aload_n 0, 1) := by decide +kernel
theorem d_jdk_52_method_21_code_11 : decode jdk_52_method_21_code 11 = .ok (.iload_n 1, 1) := by decide +kernel
theorem d_jdk_52_method_21_code_12 : decode jdk_52_method_21_code 12 = .ok (.caload, 1) := by decide +kernel
theorem d_jdk_52_method_21_code_13 : decode jdk_52_method_21_code 13 = .ok (.istore 6, 2) := by decide +kernel
theorem d_jdk_52_method_21_code_15 : decode jdk_52_method_21_code 15 = .ok (.iload 6, 2) := by decide +kernel
theorem d_jdk_52_method_21_code_17 : decode jdk_52_method_21_code 17 = .ok (.sipush 255, 3) := by decide +kernel
theorem d_jdk_52_method_21_code_20 : decode jdk_52_method_21_code 20 = .ok (.if_icmp .le 6, 3) := by decide +kernel
theorem d_jdk_52_method_21_code_23 : decode jdk_52_method_21_code 23 = .ok (.iload 5, 2) := by decide +kernel
theorem d_jdk_52_method_21_code_25 : decode jdk_52_method_21_code 25 = .ok (.ireturn, 1) := by decide +kernel
theorem d_jdk_52_method_21_code_26 : decode jdk_52_method_21_code 26 = .ok (.aload_n 2, 1) := by decide +kernel
theorem d_jdk_52_method_21_code_27 : decode jdk_52_method_21_code 27 = .ok (.iload_n 3, 1) := by decide +kernel
theorem d_jdk_52_method_21_code_28 : decode jdk_52_method_21_code 28 = .ok (.iload 6, 2) := by decide +kernel
theorem d_jdk_52_method_21_code_30 : decode jdk_52_method_21_code 30 = .ok (.i2b, 1) := by decide +kernel
theorem d_jdk_52_method_21_code_31 : decode jdk_52_method_21_code 31 = .ok (.bastore, 1) := by decide +kernel
theorem d_jdk_52_method_21_code_32 : decode jdk_52_method_21_code 32 = .ok (.iinc 1 1, 3) := by decide +kernel
theorem d_jdk_52_method_21_code_35 : decode jdk_52_method_21_code 35 = .ok (.iinc 3 1, 3) := by decide +kernel
theorem d_jdk_52_method_21_code_38 : decode jdk_52_method_21_code 38 = .ok (.iinc 5 1, 3) := by decide +kernel
theorem d_jdk_52_method_21_code_41 : decode jdk_52_method_21_code 41 = .ok (.goto (-38), 3) := by decide +kernel
theorem d_jdk_52_method_21_code_44 : decode jdk_52_method_21_code 44 = .ok (.iload 4, 2) := by decide +kernel
theorem d_jdk_52_method_21_code_46 : decode jdk_52_method_21_code 46 = .ok (.ireturn, 1) := by decide +kernel
theorem lp_cmp5 {l : Launch} {Z : State} {X : Ctx} {ac b : Addr} {cc : Cell} {cs : List Int32} (A : ArrC Z cc .char (chV cs)) (hl : Lat cs) (hn : cs.length < 2147483648) :
    ∀ (j i : Nat), i + j = cs.length → ∀ (o6 : Slot), One o6 → ∀ (T : State) (cb : Cell), Wk l Z EL1 ({ frames := 0, cells := 0, slots := 0, locals := 0 } : Room) "java/lang/StringUTF16" jdk_52_method_21_code 7 (some .int) "compress" X [(ac, cc), (b, cb)] [] T 0 0 → ArrC Z cb .byte (latB (cs.take i) ++ List.replicate j (.int 0)) →
      Go Z EL1 0 0 (fun v σ ρ => ∃ cb', v = some (.int cs.length.toInt32) ∧ σ = [(ac, cc), (b, cb')] ∧ ρ = [] ∧ ArrC Z cb' .byte (latB cs)) X T 3 #[.val (.ref ac), .val (.int i.toInt32), .val (.ref b), .val (.int i.toInt32), .val (.int cs.length.toInt32), .val (.int i.toInt32), o6] []
  | 0, i, hij, o6, ho, T, cb, W, B => by
    obtain rfl : i = cs.length := by omega
    refine Go.iload (pc' := 5) W d_jdk_52_method_21_code_3 rfl rfl ?_
    refine Go.iload (pc' := 7) W d_jdk_52_method_21_code_5 rfl rfl ?_
    refine Go.icmp_ge (pc' := 10) W 44 d_jdk_52_method_21_code_7 (by decide) rfl (fun _ => ?_) (fun q => absurd q (by rw [i32_lt hn hn]; omega))
    refine Go.iload (pc' := 46) W d_jdk_52_method_21_code_44 rfl rfl ?_
    refine Go.iret W d_jdk_52_method_21_code_46 (by decide) (by decide) ⟨cb, rfl, rfl, rfl, ?_⟩
    simpa using B
  | j + 1, i, hij, o6, ho, T, cb, W, B => by
    have hi : i < cs.length := by omega
    obtain ⟨x, hx⟩ : ∃ x, cs[i]? = some x := ⟨_, List.getElem?_eq_getElem hi⟩
    have hL := hl x (List.mem_of_getElem? hx)
    have hlen : i < (latB (cs.take i) ++ List.replicate (j + 1) (.int 0 : Value)).length := by simp; omega
    refine Go.iload (pc' := 5) W d_jdk_52_method_21_code_3 rfl rfl ?_
    refine Go.iload (pc' := 7) W d_jdk_52_method_21_code_5 rfl rfl ?_
    refine Go.icmp_ge (pc' := 10) W 44 d_jdk_52_method_21_code_7 (by decide) rfl (fun q => absurd ((i32_lt (by omega) hn).mpr hi) q) (fun _ => ?_)
    refine Go.aloadN (pc' := 11) W d_jdk_52_method_21_code_10 rfl rfl rfl ?_
    refine Go.iloadN (pc' := 12) W d_jdk_52_method_21_code_11 rfl rfl ?_
    refine Go.caload (pc' := 13) W (Or.inl (List.mem_of_getElem? (i := 0) rfl)) A i (i32_nn (by omega)) (i32_clamp (by omega)) (v := .int x) (by rw [chV, List.getElem?_map, hx]; rfl) d_jdk_52_method_21_code_12 rfl ?_
    refine Go.istore (pc' := 15) W #[.val (.ref ac), .val (.int i.toInt32), .val (.ref b), .val (.int i.toInt32), .val (.int cs.length.toInt32), .val (.int i.toInt32), .val (.int x)] d_jdk_52_method_21_code_13 (XS.store1 (o := o6) rfl ho rfl) rfl ?_
    refine Go.iload (pc' := 17) W d_jdk_52_method_21_code_15 rfl rfl ?_
    refine Go.sipush (pc' := 20) W (255 : Int32) d_jdk_52_method_21_code_17 (by decide) rfl ?_
    refine Go.icmp_le (pc' := 23) W 26 d_jdk_52_method_21_code_20 (by decide) rfl (fun _ => ?_) (fun q => absurd q hL.2)
    refine Go.aloadN (pc' := 27) W d_jdk_52_method_21_code_26 rfl rfl rfl ?_
    refine Go.iloadN (pc' := 28) W d_jdk_52_method_21_code_27 rfl rfl ?_
    refine Go.iload (pc' := 30) W d_jdk_52_method_21_code_28 rfl rfl ?_
    refine Go.i2b (pc' := 31) W d_jdk_52_method_21_code_30 rfl ?_
    refine Go.bastore (pc' := 32) W 1 rfl B i (i32_nn (by omega)) (i32_clamp (by omega)) hlen d_jdk_52_method_21_code_31 rfl (fun T2 cb2 W2 B2 => ?_)
    rw [i8_i8, set_next hx] at B2
    refine Go.iinc (pc' := 35) W2 (1 : Int32) #[.val (.ref ac), .val (.int (i.toInt32 + 1)), .val (.ref b), .val (.int i.toInt32), .val (.int cs.length.toInt32), .val (.int i.toInt32), .val (.int x)] d_jdk_52_method_21_code_32 rfl (by decide) rfl rfl ?_
    refine Go.iinc (pc' := 38) W2 (1 : Int32) #[.val (.ref ac), .val (.int (i.toInt32 + 1)), .val (.ref b), .val (.int (i.toInt32 + 1)), .val (.int cs.length.toInt32), .val (.int i.toInt32), .val (.int x)] d_jdk_52_method_21_code_35 rfl (by decide) rfl rfl ?_
    refine Go.iinc (pc' := 41) W2 (1 : Int32) #[.val (.ref ac), .val (.int (i.toInt32 + 1)), .val (.ref b), .val (.int (i.toInt32 + 1)), .val (.int cs.length.toInt32), .val (.int (i.toInt32 + 1)), .val (.int x)] d_jdk_52_method_21_code_38 rfl (by decide) rfl rfl ?_
    refine Go.goto W2 3 d_jdk_52_method_21_code_41 (by decide) ?_
    rw [i32_succ (by omega)]
    exact lp_cmp5 A hl hn j (i + 1) (by omega) _ (One.val rfl) T2 cb2 W2 B2
theorem pn_0 : plainName "java/lang/StringUTF16" = true := by first | (simp [plainName, overriddenIn]; done) | decide +kernel
theorem rm_cmp5 {l : Launch} {Z : State} {a0 : Array Value} (G : Cl Z a0) (ac b : Addr) (cc cb : Cell) (cs : List Int32) (A : ArrC Z cc .char (chV cs)) (hl : Lat cs) (hn : cs.length < 2147483648) (B : ArrC Z cb .byte (List.replicate cs.length (.int 0))) :
    Met l Z EL1 (⟨"java/lang/StringUTF16", "compress", "([CI[BII)I"⟩ : MethodName) jdk_52_method_21_code 7 (some .int) ({ frames := 0, cells := 0, slots := 0, locals := 0 } : Room) #[.ref ac, .int 0, .ref b, .int 0, .int cs.length.toInt32] [(ac, cc), (b, cb)] [] (fun v σ ρ => ∃ cb', v = some (.int cs.length.toInt32) ∧ σ = [(ac, cc), (b, cb')] ∧ ρ = [] ∧ ArrC Z cb' .byte (latB cs)) := by
  refine Met.walk G.2.1 pn_0 #[.val (.ref ac), .val (.int 0), .val (.ref b), .val (.int 0), .val (.int cs.length.toInt32), .unset, .unset] (fun m => by first | (simp [entryFrame, mkF, argsToLocals, Value.category]; done) | rfl) ?_
  intro X T W
  refine Go.iconst (pc' := 1) W (0 : Int32) d_jdk_52_method_21_code_0 (by decide) rfl ?_
  refine Go.istore (pc' := 3) W #[.val (.ref ac), .val (.int 0), .val (.ref b), .val (.int 0), .val (.int cs.length.toInt32), .val (.int 0), .unset] d_jdk_52_method_21_code_1 rfl rfl ?_
  exact lp_cmp5 A hl hn cs.length 0 (by omega) .unset One.u T cb W (by simpa using B)
theorem d_jdk_52_method_16_code_0 : decode jdk_52_method_16_code 0 = .ok (.iload_n 2, 1) := by decide +kernel
theorem w_23 {Z : State} {a0 : Array Value} (G : Cl Z a0) : (Jvm.Cond.arrayClass .byte).before a0 Z = true := G.1 _ (List.mem_of_getElem? (l := tables_1) (i := 23) rfl)
theorem d_jdk_52_method_16_code_1 : decode jdk_52_method_16_code 1 = .ok (.newarray .byte, 2) := by decide +kernel
theorem d_jdk_52_method_16_code_3 : decode jdk_52_method_16_code 3 = .ok (.astore_n 3, 1) := by decide +kernel
theorem d_jdk_52_method_16_code_4 : decode jdk_52_method_16_code 4 = .ok (.aload_n 0, 1) := by decide +kernel
theorem d_jdk_52_method_16_code_5 : decode jdk_52_method_16_code 5 = .ok (.iload_n 1, 1) := by decide +kernel
theorem d_jdk_52_method_16_code_6 : decode jdk_52_method_16_code 6 = .ok (.aload_n 3, 1) := by decide +kernel
theorem d_jdk_52_method_16_code_7 : decode jdk_52_method_16_code 7 = .ok (.iconst 0, 1) := by decide +kernel
theorem d_jdk_52_method_16_code_8 : decode jdk_52_method_16_code 8 = .ok (.iload_n 2, 1) := by decide +kernel
theorem w_24 {Z : State} {a0 : Array Value} (G : Cl Z a0) : (Jvm.Cond.methodLink "java/lang/StringUTF16" 115 (⟨"java/lang/StringUTF16", "compress", "([CI[BII)I"⟩ : MethodName)).before a0 Z = true := G.1 _ (List.mem_of_getElem? (l := tables_1) (i := 24) rfl)
theorem w_25 {Z : State} {a0 : Array Value} (G : Cl Z a0) : (Jvm.Cond.static (⟨"java/lang/StringUTF16", "compress", "([CI[BII)I"⟩ : MethodName)).before a0 Z = true := G.1 _ (List.mem_of_getElem? (l := tables_1) (i := 25) rfl)
theorem w_21 {Z : State} {a0 : Array Value} (G : Cl Z a0) : (Jvm.Cond.initialized "java/lang/StringUTF16").before a0 Z = true := G.1 _ (List.mem_of_getElem? (l := tables_1) (i := 21) rfl)
theorem w_26 {Z : State} {a0 : Array Value} (G : Cl Z a0) : (Jvm.Cond.code (⟨"java/lang/StringUTF16", "compress", "([CI[BII)I"⟩ : MethodName) jdk_52_method_21_code 7 (some .int)).before a0 Z = true := G.1 _ (List.mem_of_getElem? (l := tables_1) (i := 26) rfl)
theorem pd_1 : parseMethodDescriptor "([CI[BII)I" = some ⟨[(.array .char), .int, (.array .byte), .int, .int], some .int⟩ := by decide +kernel
theorem d_jdk_52_method_16_code_9 : decode jdk_52_method_16_code 9 = .ok (.invokestatic 115, 3) := by decide +kernel
theorem d_jdk_52_method_16_code_12 : decode jdk_52_method_16_code 12 = .ok (.istore 4, 2) := by decide +kernel
theorem d_jdk_52_method_16_code_14 : decode jdk_52_method_16_code 14 = .ok (.iload 4, 2) := by decide +kernel
theorem d_jdk_52_method_16_code_16 : decode jdk_52_method_16_code 16 = .ok (.iload_n 2, 1) := by decide +kernel
theorem d_jdk_52_method_16_code_17 : decode jdk_52_method_16_code 17 = .ok (.if_icmp .eq 40, 3) := by decide +kernel
theorem d_jdk_52_method_16_code_57 : decode jdk_52_method_16_code 57 = .ok (.aload_n 3, 1) := by decide +kernel
theorem d_jdk_52_method_16_code_58 : decode jdk_52_method_16_code 58 = .ok (.areturn, 1) := by decide +kernel
theorem rm_cmp3 {l : Launch} {Z : State} {a0 : Array Value} (G : Cl Z a0) (ac : Addr) (cc : Cell) (cs : List Int32) (A : ArrC Z cc .char (chV cs)) (hl : Lat cs) (hn : cs.length < 65536) :
    Met l Z EL1 (⟨"java/lang/StringUTF16", "compress", "([CII)[B"⟩ : MethodName) jdk_52_method_16_code 6 (some (.array .byte)) ({ frames := 1, cells := 1, slots := cs.length, locals := 18 } : Room) #[.ref ac, .int 0, .int cs.length.toInt32] [(ac, cc)] [] (fun v σ ρ => ∃ b cb, v = some (.ref b) ∧ σ = [(ac, cc), (b, cb)] ∧ ρ = [] ∧ ArrC Z cb .byte (latB cs)) := by
  refine Met.walk G.2.1 pn_0 #[.val (.ref ac), .val (.int 0), .val (.int cs.length.toInt32), .unset, .unset, .unset] (fun m => by first | (simp [entryFrame, mkF, argsToLocals, Value.category]; done) | rfl) ?_
  intro X T0 W0
  refine Go.iloadN (pc' := 1) W0 d_jdk_52_method_16_code_0 rfl rfl ?_
  refine Go.newarr (pc' := 3) W0 .byte rfl cs.length (w_23 G) d_jdk_52_method_16_code_1 rfl (i32_nn (by omega)) (i32_clamp (by omega)) (by omega) (by first | exact Nat.le_of_ble_eq_true rfl | (simp; done) | (simp; omega) | omega) (by first | exact Nat.le_of_ble_eq_true rfl | (simp; done) | (simp; omega) | omega) (fun T1 b cb W1 B => ?_)
  refine Go.astoreN (pc' := 4) W1 #[.val (.ref ac), .val (.int 0), .val (.int cs.length.toInt32), .val (.ref b), .unset, .unset] d_jdk_52_method_16_code_3 rfl rfl rfl ?_
  refine Go.aloadN (pc' := 5) W1 d_jdk_52_method_16_code_4 rfl rfl rfl ?_
  refine Go.iloadN (pc' := 6) W1 d_jdk_52_method_16_code_5 rfl rfl ?_
  refine Go.aloadN (pc' := 7) W1 d_jdk_52_method_16_code_6 rfl rfl rfl ?_
  refine Go.iconst (pc' := 8) W1 (0 : Int32) d_jdk_52_method_16_code_7 (by decide) rfl ?_
  refine Go.iloadN (pc' := 9) W1 d_jdk_52_method_16_code_8 rfl rfl ?_
  refine Go.static (pc' := 12) W1 (rm_cmp5 G ac b cc cb cs A hl (by omega) B) (w_24 G) (w_25 G) (w_21 G) (w_26 G) (by decide) [1, 0] [] (σf := []) rfl rfl [.ref ac, .int 0, .ref b, .int 0, .int cs.length.toInt32] [] rfl (lenOf pd_1 rfl) rfl rfl d_jdk_52_method_16_code_9 rfl (by first | exact Nat.le_of_ble_eq_true rfl | (simp; done) | (simp; omega) | omega) (by first | exact Nat.le_of_ble_eq_true rfl | (simp; done) | (simp; omega) | omega) (by first | exact Nat.le_of_ble_eq_true rfl | (simp; done) | (simp; omega) | omega) (by first | exact Nat.le_of_ble_eq_true rfl | (simp; done) | (simp; omega) | omega) ?_
  rintro _ _ _ T2 ⟨cb2, rfl, rfl, rfl, B2⟩ W2
  refine Go.istore (pc' := 14) W2 #[.val (.ref ac), .val (.int 0), .val (.int cs.length.toInt32), .val (.ref b), .val (.int cs.length.toInt32), .unset] d_jdk_52_method_16_code_12 rfl rfl ?_
  refine Go.iload (pc' := 16) W2 d_jdk_52_method_16_code_14 rfl rfl ?_
  refine Go.iloadN (pc' := 17) W2 d_jdk_52_method_16_code_16 rfl rfl ?_
  refine Go.icmp_eq (pc' := 20) W2 57 d_jdk_52_method_16_code_17 (by decide) rfl (fun _ => ?_) (fun q => absurd rfl q)
  refine Go.aloadN (pc' := 58) W2 d_jdk_52_method_16_code_57 rfl rfl rfl ?_
  exact Go.aret W2 rfl rfl d_jdk_52_method_16_code_58 (by first | exact Nat.le_of_ble_eq_true rfl | (simp; done) | (simp; omega) | omega) (by first | exact Nat.le_of_ble_eq_true rfl | (simp; done) | (simp; omega) | omega) ⟨b, cb2, rfl, rfl, rfl, B2⟩
theorem d_jdk_52_method_15_code_0 : decode jdk_52_method_15_code 0 = .ok (.iload_n 1, 1) := by decide +kernel
theorem d_jdk_52_method_15_code_1 : decode jdk_52_method_15_code 1 = .ok (.aload_n 0, 1) := by decide +kernel
theorem d_jdk_52_method_15_code_2 : decode jdk_52_method_15_code 2 = .ok (.arraylength, 1) := by decide +kernel
theorem d_jdk_52_method_15_code_3 : decode jdk_52_method_15_code 3 = .ok (.isub, 1) := by decide +kernel
theorem d_jdk_52_method_15_code_4 : decode jdk_52_method_15_code 4 = .ok (.bipush 31, 2) := by decide +kernel
theorem d_jdk_52_method_15_code_6 : decode jdk_52_method_15_code 6 = .ok (.iushr, 1) := by decide +kernel
theorem d_jdk_52_method_15_code_7 : decode jdk_52_method_15_code 7 = .ok (.i2b, 1) := by decide +kernel
theorem d_jdk_52_method_15_code_8 : decode jdk_52_method_15_code 8 = .ok (.ireturn, 1) := by decide +kernel
theorem rm_cod {l : Launch} {Z : State} {a0 : Array Value} (G : Cl Z a0) (b : Addr) (cb : Cell) (cs : List Int32) (B : ArrC Z cb .byte (latB cs)) :
    Met l Z EL1 (⟨"java/lang/StringUTF16", "coderFromArrayLen", "([BI)B"⟩ : MethodName) jdk_52_method_15_code 2 (some .byte) ({ frames := 0, cells := 0, slots := 0, locals := 0 } : Room) #[.ref b, .int cs.length.toInt32] [(b, cb)] [] (fun v σ ρ => v = some (.int 0) ∧ σ = [(b, cb)] ∧ ρ = []) := by
  refine Met.walk G.2.1 pn_0 #[.val (.ref b), .val (.int cs.length.toInt32)] (fun m => by first | (simp [entryFrame, mkF, argsToLocals, Value.category]; done) | rfl) ?_
  intro X T0 W0
  refine Go.iloadN (pc' := 1) W0 d_jdk_52_method_15_code_0 rfl rfl ?_
  refine Go.aloadN (pc' := 2) W0 d_jdk_52_method_15_code_1 rfl rfl rfl ?_
  refine Go.arrlen (pc' := 3) W0 (Or.inl (List.mem_of_getElem? (i := 0) rfl)) B cs.length.toInt32 (by rw [latB, List.length_map]) d_jdk_52_method_15_code_2 rfl ?_
  refine Go.isub (pc' := 4) W0 d_jdk_52_method_15_code_3 rfl ?_
  rw [Int32.sub_self]
  refine Go.bipush (pc' := 6) W0 (31 : Int32) d_jdk_52_method_15_code_4 (by decide) rfl ?_
  refine Go.iushr (pc' := 7) W0 d_jdk_52_method_15_code_6 rfl ?_
  refine Go.i2b (pc' := 8) W0 d_jdk_52_method_15_code_7 rfl ?_
  exact Go.nret (z' := 0) W0 (by simp) (by decide) d_jdk_52_method_15_code_8 (by decide) (by decide) ⟨rfl, rfl, rfl⟩
theorem pn_2 : plainName "java/lang/String" = true := by first | (simp [plainName, overriddenIn]; done) | decide +kernel
theorem d_jdk_42_method_149_code_0 : decode jdk_42_method_149_code 0 = .ok (.aload_n 0, 1) := by decide +kernel
theorem d_jdk_42_method_149_code_1 : decode jdk_42_method_149_code 1 = .ok (.invokespecial 1, 3) := by decide +kernel
theorem w_15 {Z : State} {a0 : Array Value} (G : Cl Z a0) : (Jvm.Cond.methodLink "java/lang/String" 1 (⟨"java/lang/Object", "<init>", "()V"⟩ : MethodName)).before a0 Z = true := G.1 _ (List.mem_of_getElem? (l := tables_1) (i := 15) rfl)
theorem w_16 {Z : State} {a0 : Array Value} (G : Cl Z a0) : (Jvm.Cond.instanceMethod (⟨"java/lang/Object", "<init>", "()V"⟩ : MethodName)).before a0 Z = true := G.1 _ (List.mem_of_getElem? (l := tables_1) (i := 16) rfl)
theorem w_17 {Z : State} {a0 : Array Value} (G : Cl Z a0) : (Jvm.Cond.code (⟨"java/lang/Object", "<init>", "()V"⟩ : MethodName) object_method_1_code 1 none).before a0 Z = true := G.1 _ (List.mem_of_getElem? (l := tables_1) (i := 17) rfl)
theorem d_jdk_42_method_149_code_4 : decode jdk_42_method_149_code 4 = .ok (.iload_n 3, 1) := by decide +kernel
theorem d_jdk_42_method_149_code_5 : decode jdk_42_method_149_code 5 = .ok (.ifCond .ne 22, 3) := by decide +kernel
theorem d_jdk_42_method_149_code_27 : decode jdk_42_method_149_code 27 = .ok (.getstatic 38, 3) := by decide +kernel
theorem w_18 {Z : State} {a0 : Array Value} (G : Cl Z a0) : (Jvm.Cond.fieldLink "java/lang/String" 38 "java/lang/String" "COMPACT_STRINGS" "Z").before a0 Z = true := G.1 _ (List.mem_of_getElem? (l := tables_1) (i := 18) rfl)
theorem d_jdk_42_method_149_code_30 : decode jdk_42_method_149_code 30 = .ok (.ifCond .eq 28, 3) := by decide +kernel
theorem d_jdk_42_method_149_code_33 : decode jdk_42_method_149_code 33 = .ok (.aload_n 1, 1) := by decide +kernel
theorem d_jdk_42_method_149_code_34 : decode jdk_42_method_149_code 34 = .ok (.iload_n 2, 1) := by decide +kernel
theorem d_jdk_42_method_149_code_35 : decode jdk_42_method_149_code 35 = .ok (.iload_n 3, 1) := by decide +kernel
theorem d_jdk_42_method_149_code_36 : decode jdk_42_method_149_code 36 = .ok (.invokestatic 177, 3) := by decide +kernel
theorem w_19 {Z : State} {a0 : Array Value} (G : Cl Z a0) : (Jvm.Cond.methodLink "java/lang/String" 177 (⟨"java/lang/StringUTF16", "compress", "([CII)[B"⟩ : MethodName)).before a0 Z = true := G.1 _ (List.mem_of_getElem? (l := tables_1) (i := 19) rfl)
theorem w_22 {Z : State} {a0 : Array Value} (G : Cl Z a0) : (Jvm.Cond.code (⟨"java/lang/StringUTF16", "compress", "([CII)[B"⟩ : MethodName) jdk_52_method_16_code 6 (some (.array .byte))).before a0 Z = true := G.1 _ (List.mem_of_getElem? (l := tables_1) (i := 22) rfl)
theorem pd_3 : parseMethodDescriptor "([CII)[B" = some ⟨[(.array .char), .int, .int], some (.array .byte)⟩ := by decide +kernel
theorem w_20 {Z : State} {a0 : Array Value} (G : Cl Z a0) : (Jvm.Cond.static (⟨"java/lang/StringUTF16", "compress", "([CII)[B"⟩ : MethodName)).before a0 Z = true := G.1 _ (List.mem_of_getElem? (l := tables_1) (i := 20) rfl)
theorem d_jdk_42_method_149_code_39 : decode jdk_42_method_149_code 39 = .ok (.astore 5, 2) := by decide +kernel
theorem d_jdk_42_method_149_code_41 : decode jdk_42_method_149_code 41 = .ok (.aload_n 0, 1) := by decide +kernel
theorem d_jdk_42_method_149_code_42 : decode jdk_42_method_149_code 42 = .ok (.aload 5, 2) := by decide +kernel
theorem d_jdk_42_method_149_code_44 : decode jdk_42_method_149_code 44 = .ok (.iload_n 3, 1) := by decide +kernel
theorem d_jdk_42_method_149_code_45 : decode jdk_42_method_149_code 45 = .ok (.invokestatic 47, 3) := by decide +kernel
theorem w_27 {Z : State} {a0 : Array Value} (G : Cl Z a0) : (Jvm.Cond.methodLink "java/lang/String" 47 (⟨"java/lang/StringUTF16", "coderFromArrayLen", "([BI)B"⟩ : MethodName)).before a0 Z = true := G.1 _ (List.mem_of_getElem? (l := tables_1) (i := 27) rfl)
theorem w_29 {Z : State} {a0 : Array Value} (G : Cl Z a0) : (Jvm.Cond.code (⟨"java/lang/StringUTF16", "coderFromArrayLen", "([BI)B"⟩ : MethodName) jdk_52_method_15_code 2 (some .byte)).before a0 Z = true := G.1 _ (List.mem_of_getElem? (l := tables_1) (i := 29) rfl)
theorem pd_4 : parseMethodDescriptor "([BI)B" = some ⟨[(.array .byte), .int], some .byte⟩ := by decide +kernel
theorem w_28 {Z : State} {a0 : Array Value} (G : Cl Z a0) : (Jvm.Cond.static (⟨"java/lang/StringUTF16", "coderFromArrayLen", "([BI)B"⟩ : MethodName)).before a0 Z = true := G.1 _ (List.mem_of_getElem? (l := tables_1) (i := 28) rfl)
theorem d_jdk_42_method_149_code_48 : decode jdk_42_method_149_code 48 = .ok (.putfield 15, 3) := by decide +kernel
theorem w_30 {Z : State} {a0 : Array Value} (G : Cl Z a0) : (Jvm.Cond.fieldLink "java/lang/String" 15 "java/lang/String" "coder" "B").before a0 Z = true := G.1 _ (List.mem_of_getElem? (l := tables_1) (i := 30) rfl)
theorem w_31 {Z : State} {a0 : Array Value} (G : Cl Z a0) : (Jvm.Cond.laysFinal "java/lang/String" "java/lang/String" "coder" "B").before a0 Z = true := G.1 _ (List.mem_of_getElem? (l := tables_1) (i := 31) rfl)
theorem w_5 {Z : State} {a0 : Array Value} (G : Cl Z a0) : (Jvm.Cond.instantiable "java/lang/String" 4).before a0 Z = true := G.1 _ (List.mem_of_getElem? (l := tables_1) (i := 5) rfl)
theorem w_33 {Z : State} {a0 : Array Value} (G : Cl Z a0) : (Jvm.Cond.laysFinal "java/lang/String" "java/lang/String" "value" "[B").before a0 Z = true := G.1 _ (List.mem_of_getElem? (l := tables_1) (i := 33) rfl)
theorem d_jdk_42_method_149_code_51 : decode jdk_42_method_149_code 51 = .ok (.aload_n 0, 1) := by decide +kernel
theorem d_jdk_42_method_149_code_52 : decode jdk_42_method_149_code 52 = .ok (.aload 5, 2) := by decide +kernel
theorem d_jdk_42_method_149_code_54 : decode jdk_42_method_149_code 54 = .ok (.putfield 9, 3) := by decide +kernel
theorem w_32 {Z : State} {a0 : Array Value} (G : Cl Z a0) : (Jvm.Cond.fieldLink "java/lang/String" 9 "java/lang/String" "value" "[B").before a0 Z = true := G.1 _ (List.mem_of_getElem? (l := tables_1) (i := 32) rfl)
theorem d_jdk_42_method_149_code_57 : decode jdk_42_method_149_code 57 = .ok (.return_, 1) := by decide +kernel
set_option maxRecDepth 65536 in
set_option maxHeartbeats 40000000 in
theorem rm_initV {l : Launch} {Z : State} {a0 : Array Value} (G : Cl Z a0) (a ac : Addr) (c cc : Cell) (cs : List Int32) (A : ArrC Z cc .char (chV cs)) (hO : ObjC Z c "java/lang/String") (hC : FldC Z c "java/lang/String" "coder" "B" (.int 0)) (hV : FldC Z c "java/lang/String" "value" "[B" .null) (hl : Lat cs) (hn : cs.length < 65536) (h0 : ¬ cs.length.toInt32 = 0) :
    Met l Z EL1 (⟨"java/lang/String", "<init>", "([CIILjava/lang/Void;)V"⟩ : MethodName) jdk_42_method_149_code 6 none ({ frames := 2, cells := 1, slots := cs.length, locals := 35 } : Room) #[.ref a, .ref ac, .int (0 : Int32), .int cs.length.toInt32, .null] [(a, c), (ac, cc)] [] (fun v σ ρ => ∃ c' b cb, v = none ∧ σ = [(ac, cc)] ∧ ρ = [(a, c'), (b, cb)] ∧ StrL Z c' b cb cs) := by
  refine Met.walk G.2.1 pn_2 #[.val (.ref a), .val (.ref ac), .val (.int (0 : Int32)), .val (.int cs.length.toInt32), .val (.null), .unset] (fun m => by first | (simp [entryFrame, mkF, argsToLocals, Value.category]; done) | rfl) ?_
  intro X T0 W0
  obtain ⟨cv, Scv, hcv⟩ := G.2.2.1
  refine Go.aloadN (pc' := 1) W0 d_jdk_42_method_149_code_0 rfl rfl rfl ?_
  refine Go.objInit (pc' := 4) W0 (w_15 G) (w_16 G) (w_17 G) rfl d_jdk_42_method_149_code_1 rfl (by first | exact Nat.le_of_ble_eq_true rfl | (simp; done) | (simp; omega) | omega) (by first | exact Nat.le_of_ble_eq_true rfl | (simp; done) | (simp; omega) | omega) (fun T1 W2 => ?_)
  refine Go.iloadN (pc' := 5) W2 d_jdk_42_method_149_code_4 rfl rfl ?_
  refine Go.if_ne (pc' := 8) W2 27 d_jdk_42_method_149_code_5 (by decide) rfl (fun _ => ?_) (fun q => absurd q h0)
  refine Go.getstatic (pc' := 30) W2 (w_18 G) Via.refl Scv d_jdk_42_method_149_code_27 rfl (fun T3 W4 => ?_)
  refine Go.if_eq (pc' := 33) W4 58 d_jdk_42_method_149_code_30 (by decide) rfl (fun q => absurd q hcv) (fun _ => ?_)
  refine Go.aloadN (pc' := 34) W4 d_jdk_42_method_149_code_33 rfl rfl rfl ?_
  refine Go.iloadN (pc' := 35) W4 d_jdk_42_method_149_code_34 rfl rfl ?_
  refine Go.iloadN (pc' := 36) W4 d_jdk_42_method_149_code_35 rfl rfl ?_
  refine Go.static (pc' := 39) W4 (rm_cmp3 G ac cc cs A hl hn) (w_19 G) (w_20 G) (w_21 G) (w_22 G) (by decide) [1] [] (σf := [(a, c)]) rfl rfl [(.ref ac), (.int (0 : Int32)), (.int cs.length.toInt32)] [] rfl (lenOf pd_3 rfl) rfl rfl d_jdk_42_method_149_code_36 rfl (by first | exact Nat.le_of_ble_eq_true rfl | (simp; done) | (simp; omega) | omega) (by first | exact Nat.le_of_ble_eq_true rfl | (simp; done) | (simp; omega) | omega) (by first | exact Nat.le_of_ble_eq_true rfl | (simp; done) | (simp; omega) | omega) (by first | exact Nat.le_of_ble_eq_true rfl | (simp; done) | (simp; omega) | omega) ?_
  rintro _ _ _ T5 ⟨b, cb, rfl, rfl, rfl, B⟩ W6
  replace W6 : Wk l Z EL1 ({ frames := 2, cells := 1, slots := cs.length, locals := 35 } : Room) "java/lang/String" jdk_42_method_149_code 6 none "<init>" X [(ac, cc), (b, cb), (a, c)] [] T5 1 (0 + cs.length) := W6
  show Go Z EL1 _ _ _ X T5 39 #[.val (.ref a), .val (.ref ac), .val (.int (0 : Int32)), .val (.int cs.length.toInt32), .val (.null), .unset] [(.ref b)]
  refine Go.astore (pc' := 41) W6 #[.val (.ref a), .val (.ref ac), .val (.int (0 : Int32)), .val (.int cs.length.toInt32), .val (.null), .val (.ref b)] d_jdk_42_method_149_code_39 rfl rfl rfl ?_
  refine Go.aloadN (pc' := 42) W6 d_jdk_42_method_149_code_41 rfl rfl rfl ?_
  refine Go.aload (pc' := 44) W6 d_jdk_42_method_149_code_42 rfl rfl rfl ?_
  refine Go.iloadN (pc' := 45) W6 d_jdk_42_method_149_code_44 rfl rfl ?_
  refine Go.static (pc' := 48) W6 (rm_cod G b cb cs B) (w_27 G) (w_28 G) (w_21 G) (w_29 G) (by decide) [1] [] (σf := [(ac, cc), (a, c)]) rfl rfl [(.ref b), (.int cs.length.toInt32)] [(.ref a)] rfl (lenOf pd_4 rfl) rfl rfl d_jdk_42_method_149_code_45 rfl (by first | exact Nat.le_of_ble_eq_true rfl | (simp; done) | (simp; omega) | omega) (by first | exact Nat.le_of_ble_eq_true rfl | (simp; done) | (simp; omega) | omega) (by first | exact Nat.le_of_ble_eq_true rfl | (simp; done) | (simp; omega) | omega) (by first | exact Nat.le_of_ble_eq_true rfl | (simp; done) | (simp; omega) | omega) ?_
  rintro _ _ _ T7 ⟨rfl, rfl, rfl⟩ W8
  replace W8 : Wk l Z EL1 ({ frames := 2, cells := 1, slots := cs.length, locals := 35 } : Room) "java/lang/String" jdk_42_method_149_code 6 none "<init>" X [(b, cb), (ac, cc), (a, c)] [] T7 1 (0 + cs.length + 0) := W8
  show Go Z EL1 _ _ _ X T7 48 #[.val (.ref a), .val (.ref ac), .val (.int (0 : Int32)), .val (.int cs.length.toInt32), .val (.null), .val (.ref b)] [(.int (0 : Int32)), (.ref a)]
  refine Go.putfield (pc' := 51) W8 2 rfl (w_30 G) Via.refl hC hO (Or.inr ⟨(w_31 G), rfl, rfl⟩) (w_5 G) (ty := .byte) (v' := .int (0 : Int32)) (by decide) rfl rfl d_jdk_42_method_149_code_48 rfl (fun T9 c11 q12 W10 => ?_)
  replace W10 : Wk l Z EL1 ({ frames := 2, cells := 1, slots := cs.length, locals := 35 } : Room) "java/lang/String" jdk_42_method_149_code 6 none "<init>" X [(b, cb), (ac, cc), (a, c11)] [] T9 1 (0 + cs.length + 0) := W10
  have O13 := hO.put' q12
  have F14 := hC.put' q12
  have F15 := hV.keep' q12 (slot_ne (Or.inr (w_33 G)) (Or.inr (w_31 G)) (by decide) (t := (.array .byte)) (t' := .byte) (by decide) (by decide))
  refine Go.aloadN (pc' := 52) W10 d_jdk_42_method_149_code_51 rfl rfl rfl ?_
  refine Go.aload (pc' := 54) W10 d_jdk_42_method_149_code_52 rfl rfl rfl ?_
  refine Go.putfield (pc' := 57) W10 2 rfl (w_32 G) Via.refl F15 O13 (Or.inr ⟨(w_33 G), rfl, rfl⟩) (w_5 G) (ty := (.array .byte)) (v' := .ref b) (by decide) rfl rfl d_jdk_42_method_149_code_54 rfl (fun T16 c18 q19 W17 => ?_)
  replace W17 : Wk l Z EL1 ({ frames := 2, cells := 1, slots := cs.length, locals := 35 } : Room) "java/lang/String" jdk_42_method_149_code 6 none "<init>" X [(b, cb), (ac, cc), (a, c18)] [] T16 1 (0 + cs.length + 0) := W17
  have O20 := O13.put' q19
  have F21 := F14.keep' q19 (slot_ne (Or.inr (w_31 G)) (Or.inr (w_33 G)) (by decide) (t := .byte) (t' := (.array .byte)) (by decide) (by decide))
  have F22 := F15.put' q19
  have W23 := W17.freeze [2, 0] (σi := [(a, c18), (b, cb)]) (σf := [(ac, cc)]) rfl
  replace W23 : Wk l Z EL1 ({ frames := 2, cells := 1, slots := cs.length, locals := 35 } : Room) "java/lang/String" jdk_42_method_149_code 6 none "<init>" X [(ac, cc)] [(a, c18), (b, cb)] T16 1 (0 + cs.length + 0) := W23
  refine Go.retV W23 d_jdk_42_method_149_code_57 (by first | exact Nat.le_of_ble_eq_true rfl | (simp; done) | (simp; omega) | omega) (by first | exact Nat.le_of_ble_eq_true rfl | (simp; done) | (simp; omega) | omega) ?_
  exact ⟨_, b, cb, rfl, rfl, rfl, O20, F21, F22, B, hl⟩
theorem d_jdk_42_method_149_code_8 : decode jdk_42_method_149_code 8 = .ok (.aload_n 0, 1) := by decide +kernel
theorem d_jdk_42_method_149_code_9 : decode jdk_42_method_149_code 9 = .ok (.ldc 7, 2) := by decide +kernel
theorem w_78 {Z : State} {a0 : Array Value} (G : Cl Z a0) : (Jvm.Cond.stringLink "java/lang/String" 7 "").before a0 Z = true := G.1 _ (List.mem_of_getElem? (l := tables_1) (i := 78) rfl)
theorem d_jdk_42_method_149_code_11 : decode jdk_42_method_149_code 11 = .ok (.getfield 9, 3) := by decide +kernel
theorem d_jdk_42_method_149_code_14 : decode jdk_42_method_149_code 14 = .ok (.putfield 9, 3) := by decide +kernel
theorem d_jdk_42_method_149_code_17 : decode jdk_42_method_149_code 17 = .ok (.aload_n 0, 1) := by decide +kernel
theorem d_jdk_42_method_149_code_18 : decode jdk_42_method_149_code 18 = .ok (.ldc 7, 2) := by decide +kernel
theorem d_jdk_42_method_149_code_20 : decode jdk_42_method_149_code 20 = .ok (.getfield 15, 3) := by decide +kernel
theorem d_jdk_42_method_149_code_23 : decode jdk_42_method_149_code 23 = .ok (.putfield 15, 3) := by decide +kernel
theorem d_jdk_42_method_149_code_26 : decode jdk_42_method_149_code 26 = .ok (.return_, 1) := by decide +kernel
set_option maxRecDepth 65536 in
set_option maxHeartbeats 40000000 in
theorem rm_initV0 {l : Launch} {Z : State} {a0 : Array Value} (G : Cl Z a0) (a ac : Addr) (c cc : Cell) (A : ArrC Z cc .char []) (hO : ObjC Z c "java/lang/String") (hC : FldC Z c "java/lang/String" "coder" "B" (.int 0)) (hV : FldC Z c "java/lang/String" "value" "[B" .null) :
    Met l Z EL1 (⟨"java/lang/String", "<init>", "([CIILjava/lang/Void;)V"⟩ : MethodName) jdk_42_method_149_code 6 none ({ frames := 1, cells := 4, slots := 8, locals := 12 } : Room) #[.ref a, .ref ac, .int (0 : Int32), .int (0 : Int32), .null] [(a, c), (ac, cc)] [] (fun v σ ρ => ∃ c' b cb, v = none ∧ σ = [(ac, cc)] ∧ ρ = [(a, c'), (b, cb)] ∧ StrL Z c' b cb []) := by
  refine Met.walk G.2.1 pn_2 #[.val (.ref a), .val (.ref ac), .val (.int (0 : Int32)), .val (.int (0 : Int32)), .val (.null), .unset] (fun m => by first | (simp [entryFrame, mkF, argsToLocals, Value.category]; done) | rfl) ?_
  intro X T0 W0
  refine Go.aloadN (pc' := 1) W0 d_jdk_42_method_149_code_0 rfl rfl rfl ?_
  refine Go.objInit (pc' := 4) W0 (w_15 G) (w_16 G) (w_17 G) rfl d_jdk_42_method_149_code_1 rfl (by first | exact Nat.le_of_ble_eq_true rfl | (simp; done) | (simp; omega) | omega) (by first | exact Nat.le_of_ble_eq_true rfl | (simp; done) | (simp; omega) | omega) (fun T1 W2 => ?_)
  refine Go.iloadN (pc' := 5) W2 d_jdk_42_method_149_code_4 rfl rfl ?_
  refine Go.if_ne (pc' := 8) W2 27 d_jdk_42_method_149_code_5 (by decide) rfl (fun q => absurd (by decide) q) (fun _ => ?_)
  refine Go.aloadN (pc' := 9) W2 d_jdk_42_method_149_code_8 rfl rfl rfl ?_
  refine Go.ldcStr (pc' := 11) W2 G.2.1 (w_78 G) (strAtoms G) (by decide) (bs := []) (z := 0) (by decide +kernel) (by decide) (by decide) (by decide) d_jdk_42_method_149_code_9 rfl (m := 0) (by decide +kernel) (by decide) (by first | exact Nat.le_of_ble_eq_true rfl | (simp; done) | (simp; omega) | omega) (by first | exact Nat.le_of_ble_eq_true rfl | (simp; done) | (simp; omega) | omega) (fun T3 a5 b6 c7 c8 W4 O9 F10 F11 A12 => ?_)
  replace W4 : Wk l Z EL1 ({ frames := 1, cells := 4, slots := 8, locals := 12 } : Room) "java/lang/String" jdk_42_method_149_code 6 none "<init>" X [(a, c), (ac, cc)] [(a5, c7), (b6, c8)] T3 2 (4) := W4
  refine Go.getfield (pc' := 14) W4 (Or.inr (Or.inl (List.mem_of_getElem? (i := 0) rfl))) (w_32 G) Via.refl F11 d_jdk_42_method_149_code_11 rfl (fun T13 W14 => ?_)
  refine Go.putfield (pc' := 17) W14 0 rfl (w_32 G) Via.refl hV hO (Or.inr ⟨(w_33 G), rfl, rfl⟩) (w_5 G) (ty := (.array .byte)) (v' := .ref b6) (by decide) rfl rfl d_jdk_42_method_149_code_14 rfl (fun T15 c17 q18 W16 => ?_)
  replace W16 : Wk l Z EL1 ({ frames := 1, cells := 4, slots := 8, locals := 12 } : Room) "java/lang/String" jdk_42_method_149_code 6 none "<init>" X [(a, c17), (ac, cc)] [(a5, c7), (b6, c8)] T15 2 (4) := W16
  have O19 := hO.put' q18
  have F20 := hC.keep' q18 (slot_ne (Or.inr (w_31 G)) (Or.inr (w_33 G)) (by decide) (t := .byte) (t' := (.array .byte)) (by decide) (by decide))
  have F21 := hV.put' q18
  refine Go.aloadN (pc' := 18) W16 d_jdk_42_method_149_code_17 rfl rfl rfl ?_
  refine Go.ldcStr (pc' := 20) W16 G.2.1 (w_78 G) (strAtoms G) (by decide) (bs := []) (z := 0) (by decide +kernel) (by decide) (by decide) (by decide) d_jdk_42_method_149_code_18 rfl (m := 0) (by decide +kernel) (by decide) (by first | exact Nat.le_of_ble_eq_true rfl | (simp; done) | (simp; omega) | omega) (by first | exact Nat.le_of_ble_eq_true rfl | (simp; done) | (simp; omega) | omega) (fun T22 a24 b25 c26 c27 W23 O28 F29 F30 A31 => ?_)
  replace W23 : Wk l Z EL1 ({ frames := 1, cells := 4, slots := 8, locals := 12 } : Room) "java/lang/String" jdk_42_method_149_code 6 none "<init>" X [(a, c17), (ac, cc)] [(a24, c26), (b25, c27), (a5, c7), (b6, c8)] T22 4 (8) := W23
  refine Go.getfield (pc' := 23) W23 (Or.inr (Or.inl (List.mem_of_getElem? (i := 0) rfl))) (w_30 G) Via.refl F29 d_jdk_42_method_149_code_20 rfl (fun T32 W33 => ?_)
  refine Go.putfield (pc' := 26) W33 0 rfl (w_30 G) Via.refl F20 O19 (Or.inr ⟨(w_31 G), rfl, rfl⟩) (w_5 G) (ty := .byte) (v' := .int (0 : Int32)) (by decide) rfl rfl d_jdk_42_method_149_code_23 rfl (fun T34 c36 q37 W35 => ?_)
  replace W35 : Wk l Z EL1 ({ frames := 1, cells := 4, slots := 8, locals := 12 } : Room) "java/lang/String" jdk_42_method_149_code 6 none "<init>" X [(a, c36), (ac, cc)] [(a24, c26), (b25, c27), (a5, c7), (b6, c8)] T34 4 (8) := W35
  have O38 := O19.put' q37
  have F39 := F20.put' q37
  have F40 := F21.keep' q37 (slot_ne (Or.inr (w_33 G)) (Or.inr (w_31 G)) (by decide) (t := (.array .byte)) (t' := .byte) (by decide) (by decide))
  have W41 := W35.freeze [0] (σi := [(a, c36)]) (σf := [(ac, cc)]) rfl
  replace W41 : Wk l Z EL1 ({ frames := 1, cells := 4, slots := 8, locals := 12 } : Room) "java/lang/String" jdk_42_method_149_code 6 none "<init>" X [(ac, cc)] [(a, c36), (a24, c26), (b25, c27), (a5, c7), (b6, c8)] T34 4 (8) := W41
  have W42 := W41.keepRo [0, 4] (ρ' := [(a, c36), (b6, c8)]) rfl
  replace W42 : Wk l Z EL1 ({ frames := 1, cells := 4, slots := 8, locals := 12 } : Room) "java/lang/String" jdk_42_method_149_code 6 none "<init>" X [(ac, cc)] [(a, c36), (b6, c8)] T34 4 (8) := W42
  refine Go.retV W42 d_jdk_42_method_149_code_26 (by first | exact Nat.le_of_ble_eq_true rfl | (simp; done) | (simp; omega) | omega) (by first | exact Nat.le_of_ble_eq_true rfl | (simp; done) | (simp; omega) | omega) ?_
  exact ⟨_, b6, c8, rfl, rfl, rfl, O38, F39, F40, A12, Lat.nil⟩
theorem d_jdk_42_method_3_code_0 : decode jdk_42_method_3_code 0 = .ok (.aload_n 0, 1) := by decide +kernel
theorem d_jdk_42_method_3_code_1 : decode jdk_42_method_3_code 1 = .ok (.aload_n 1, 1) := by decide +kernel
theorem d_jdk_42_method_3_code_2 : decode jdk_42_method_3_code 2 = .ok (.iconst 0, 1) := by decide +kernel
theorem d_jdk_42_method_3_code_3 : decode jdk_42_method_3_code 3 = .ok (.aload_n 1, 1) := by decide +kernel
theorem d_jdk_42_method_3_code_4 : decode jdk_42_method_3_code 4 = .ok (.arraylength, 1) := by decide +kernel
theorem d_jdk_42_method_3_code_5 : decode jdk_42_method_3_code 5 = .ok (.aconst_null, 1) := by decide +kernel
theorem d_jdk_42_method_3_code_6 : decode jdk_42_method_3_code 6 = .ok (.invokespecial 27, 3) := by decide +kernel
theorem w_11 {Z : State} {a0 : Array Value} (G : Cl Z a0) : (Jvm.Cond.methodLink "java/lang/String" 27 (⟨"java/lang/String", "<init>", "([CIILjava/lang/Void;)V"⟩ : MethodName)).before a0 Z = true := G.1 _ (List.mem_of_getElem? (l := tables_1) (i := 11) rfl)
theorem w_6 {Z : State} {a0 : Array Value} (G : Cl Z a0) : (Jvm.Cond.initialized "java/lang/String").before a0 Z = true := G.1 _ (List.mem_of_getElem? (l := tables_1) (i := 6) rfl)
theorem w_14 {Z : State} {a0 : Array Value} (G : Cl Z a0) : (Jvm.Cond.code (⟨"java/lang/String", "<init>", "([CIILjava/lang/Void;)V"⟩ : MethodName) jdk_42_method_149_code 6 none).before a0 Z = true := G.1 _ (List.mem_of_getElem? (l := tables_1) (i := 14) rfl)
theorem pd_5 : parseMethodDescriptor "([CIILjava/lang/Void;)V" = some ⟨[(.array .char), .int, .int, (.object "java/lang/Void")], none⟩ := by decide +kernel
theorem w_12 {Z : State} {a0 : Array Value} (G : Cl Z a0) : (Jvm.Cond.instanceMethod (⟨"java/lang/String", "<init>", "([CIILjava/lang/Void;)V"⟩ : MethodName)).before a0 Z = true := G.1 _ (List.mem_of_getElem? (l := tables_1) (i := 12) rfl)
theorem d_jdk_42_method_3_code_9 : decode jdk_42_method_3_code 9 = .ok (.return_, 1) := by decide +kernel
set_option maxRecDepth 65536 in
set_option maxHeartbeats 40000000 in
theorem rm_initC0 {l : Launch} {Z : State} {a0 : Array Value} (G : Cl Z a0) (a ac : Addr) (c cc : Cell) (A : ArrC Z cc .char []) (hO : ObjC Z c "java/lang/String") (hC : FldC Z c "java/lang/String" "coder" "B" (.int 0)) (hV : FldC Z c "java/lang/String" "value" "[B" .null) :
    Met l Z EL1 (⟨"java/lang/String", "<init>", "([C)V"⟩ : MethodName) jdk_42_method_3_code 2 none ({ frames := 2, cells := 4, slots := 8, locals := 29 } : Room) #[.ref a, .ref ac] [(a, c), (ac, cc)] [] (fun v σ ρ => ∃ c' b cb, v = none ∧ σ = [(ac, cc)] ∧ ρ = [(a, c'), (b, cb)] ∧ StrL Z c' b cb []) := by
  refine Met.walk G.2.1 pn_2 #[.val (.ref a), .val (.ref ac)] (fun m => by first | (simp [entryFrame, mkF, argsToLocals, Value.category]; done) | rfl) ?_
  intro X T0 W0
  refine Go.aloadN (pc' := 1) W0 d_jdk_42_method_3_code_0 rfl rfl rfl ?_
  refine Go.aloadN (pc' := 2) W0 d_jdk_42_method_3_code_1 rfl rfl rfl ?_
  refine Go.iconst (pc' := 3) W0 (0 : Int32) d_jdk_42_method_3_code_2 (by decide) rfl ?_
  refine Go.aloadN (pc' := 4) W0 d_jdk_42_method_3_code_3 rfl rfl rfl ?_
  refine Go.arrlen (pc' := 5) W0 (Or.inl (List.mem_of_getElem? (i := 1) rfl)) A (0 : Int32) rfl d_jdk_42_method_3_code_4 rfl ?_
  refine Go.aconstNull (pc' := 6) W0 d_jdk_42_method_3_code_5 rfl ?_
  refine Go.special (pc' := 9) W0 (a := a) (rm_initV0 G a ac c cc A hO hC hV) rfl (w_11 G) (w_12 G) (w_6 G) (w_14 G) (by decide) [0, 0] [] (σf := []) rfl rfl [(.ref ac), (.int (0 : Int32)), (.int (0 : Int32)), (.null)] [] rfl (lenOf pd_5 rfl) rfl rfl d_jdk_42_method_3_code_6 rfl (by first | exact Nat.le_of_ble_eq_true rfl | (simp; done) | (simp; omega) | omega) (by first | exact Nat.le_of_ble_eq_true rfl | (simp; done) | (simp; omega) | omega) (by first | exact Nat.le_of_ble_eq_true rfl | (simp; done) | (simp; omega) | omega) (by first | exact Nat.le_of_ble_eq_true rfl | (simp; done) | (simp; omega) | omega) ?_
  rintro _ _ _ T1 ⟨c', b, cb, rfl, rfl, rfl, S⟩ W2
  replace W2 : Wk l Z EL1 ({ frames := 2, cells := 4, slots := 8, locals := 29 } : Room) "java/lang/String" jdk_42_method_3_code 2 none "<init>" X [(ac, cc)] [(a, c'), (b, cb)] T1 4 (8) := W2
  show Go Z EL1 _ _ _ X T1 9 #[.val (.ref a), .val (.ref ac)] []
  refine Go.retV W2 d_jdk_42_method_3_code_9 (by first | exact Nat.le_of_ble_eq_true rfl | (simp; done) | (simp; omega) | omega) (by first | exact Nat.le_of_ble_eq_true rfl | (simp; done) | (simp; omega) | omega) ?_
  exact ⟨c', b, cb, rfl, rfl, rfl, S⟩
set_option maxRecDepth 65536 in
set_option maxHeartbeats 40000000 in
theorem rm_initC {l : Launch} {Z : State} {a0 : Array Value} (G : Cl Z a0) (a ac : Addr) (c cc : Cell) (cs : List Int32) (A : ArrC Z cc .char (chV cs)) (hO : ObjC Z c "java/lang/String") (hC : FldC Z c "java/lang/String" "coder" "B" (.int 0)) (hV : FldC Z c "java/lang/String" "value" "[B" .null) (hl : Lat cs) (hn : cs.length < 65536) (h0 : ¬ cs.length.toInt32 = 0) :
    Met l Z EL1 (⟨"java/lang/String", "<init>", "([C)V"⟩ : MethodName) jdk_42_method_3_code 2 none ({ frames := 3, cells := 1, slots := cs.length, locals := 52 } : Room) #[.ref a, .ref ac] [(a, c), (ac, cc)] [] (fun v σ ρ => ∃ c' b cb, v = none ∧ σ = [(ac, cc)] ∧ ρ = [(a, c'), (b, cb)] ∧ StrL Z c' b cb cs) := by
  refine Met.walk G.2.1 pn_2 #[.val (.ref a), .val (.ref ac)] (fun m => by first | (simp [entryFrame, mkF, argsToLocals, Value.category]; done) | rfl) ?_
  intro X T0 W0
  refine Go.aloadN (pc' := 1) W0 d_jdk_42_method_3_code_0 rfl rfl rfl ?_
  refine Go.aloadN (pc' := 2) W0 d_jdk_42_method_3_code_1 rfl rfl rfl ?_
  refine Go.iconst (pc' := 3) W0 (0 : Int32) d_jdk_42_method_3_code_2 (by decide) rfl ?_
  refine Go.aloadN (pc' := 4) W0 d_jdk_42_method_3_code_3 rfl rfl rfl ?_
  refine Go.arrlen (pc' := 5) W0 (Or.inl (List.mem_of_getElem? (i := 1) rfl)) A cs.length.toInt32 (by rw [chV, List.length_map]) d_jdk_42_method_3_code_4 rfl ?_
  refine Go.aconstNull (pc' := 6) W0 d_jdk_42_method_3_code_5 rfl ?_
  refine Go.special (pc' := 9) W0 (a := a) (rm_initV G a ac c cc cs A hO hC hV hl hn h0) rfl (w_11 G) (w_12 G) (w_6 G) (w_14 G) (by decide) [0, 0] [] (σf := []) rfl rfl [(.ref ac), (.int (0 : Int32)), (.int cs.length.toInt32), (.null)] [] rfl (lenOf pd_5 rfl) rfl rfl d_jdk_42_method_3_code_6 rfl (by first | exact Nat.le_of_ble_eq_true rfl | (simp; done) | (simp; omega) | omega) (by first | exact Nat.le_of_ble_eq_true rfl | (simp; done) | (simp; omega) | omega) (by first | exact Nat.le_of_ble_eq_true rfl | (simp; done) | (simp; omega) | omega) (by first | exact Nat.le_of_ble_eq_true rfl | (simp; done) | (simp; omega) | omega) ?_
  rintro _ _ _ T1 ⟨c', b, cb, rfl, rfl, rfl, S⟩ W2
  replace W2 : Wk l Z EL1 ({ frames := 3, cells := 1, slots := cs.length, locals := 52 } : Room) "java/lang/String" jdk_42_method_3_code 2 none "<init>" X [(ac, cc)] [(a, c'), (b, cb)] T1 1 (0 + cs.length) := W2
  show Go Z EL1 _ _ _ X T1 9 #[.val (.ref a), .val (.ref ac)] []
  refine Go.retV W2 d_jdk_42_method_3_code_9 (by first | exact Nat.le_of_ble_eq_true rfl | (simp; done) | (simp; omega) | omega) (by first | exact Nat.le_of_ble_eq_true rfl | (simp; done) | (simp; omega) | omega) ?_
  exact ⟨c', b, cb, rfl, rfl, rfl, S⟩
theorem d_jdk_43_method_13_code_0 : decode jdk_43_method_13_code 0 = .ok (.aload_n 0, 1) := by decide +kernel
theorem d_jdk_43_method_13_code_1 : decode jdk_43_method_13_code 1 = .ok (.arraylength, 1) := by decide +kernel
theorem d_jdk_43_method_13_code_2 : decode jdk_43_method_13_code 2 = .ok (.aload_n 1, 1) := by decide +kernel
theorem d_jdk_43_method_13_code_3 : decode jdk_43_method_13_code 3 = .ok (.arraylength, 1) := by decide +kernel
theorem d_jdk_43_method_13_code_4 : decode jdk_43_method_13_code 4 = .ok (.if_icmp .ne 30, 3) := by decide +kernel
theorem d_jdk_43_method_13_code_7 : decode jdk_43_method_13_code 7 = .ok (.iconst 0, 1) := by decide +kernel
theorem d_jdk_43_method_13_code_8 : decode jdk_43_method_13_code 8 = .ok (.istore_n 2, 1) := by decide +kernel
theorem d_jdk_43_method_13_code_9 : decode jdk_43_method_13_code 9 = .ok (.iload_n 2, 1) := by decide +kernel
theorem d_jdk_43_method_13_code_10 : decode jdk_43_method_13_code 10 = .ok (.aload_n 0, 1) := by decide +kernel
theorem d_jdk_43_method_13_code_11 : decode jdk_43_method_13_code 11 = .ok (.arraylength, 1) := by decide +kernel
theorem d_jdk_43_method_13_code_12 : decode jdk_43_method_13_code 12 = .ok (.if_icmp .ge 20, 3) := by decide +kernel
theorem d_jdk_43_method_13_code_15 : decode jdk_43_method_13_code 15 = .ok (.aload_n 0, 1) := by decide +kernel
theorem d_jdk_43_method_13_code_16 : decode jdk_43_method_13_code 16 = .ok (.iload_n 2, 1) := by decide +kernel
theorem d_jdk_43_method_13_code_17 : decode jdk_43_method_13_code 17 = .ok (.baload, 1) := by decide +kernel
theorem d_jdk_43_method_13_code_18 : decode jdk_43_method_13_code 18 = .ok (.aload_n 1, 1) := by decide +kernel
theorem d_jdk_43_method_13_code_19 : decode jdk_43_method_13_code 19 = .ok (.iload_n 2, 1) := by decide +kernel
theorem d_jdk_43_method_13_code_20 : decode jdk_43_method_13_code 20 = .ok (.baload, 1) := by decide +kernel
theorem d_jdk_43_method_13_code_21 : decode jdk_43_method_13_code 21 = .ok (.if_icmp .eq 5, 3) := by decide +kernel
theorem d_jdk_43_method_13_code_24 : decode jdk_43_method_13_code 24 = .ok (.iconst 0, 1) := by decide +kernel
theorem d_jdk_43_method_13_code_25 : decode jdk_43_method_13_code 25 = .ok (.ireturn, 1) := by decide +kernel
theorem d_jdk_43_method_13_code_26 : decode jdk_43_method_13_code 26 = .ok (.iinc 2 1, 3) := by decide +kernel
theorem d_jdk_43_method_13_code_29 : decode jdk_43_method_13_code 29 = .ok (.goto (-20), 3) := by decide +kernel
theorem d_jdk_43_method_13_code_32 : decode jdk_43_method_13_code 32 = .ok (.iconst 1, 1) := by decide +kernel
theorem d_jdk_43_method_13_code_33 : decode jdk_43_method_13_code 33 = .ok (.ireturn, 1) := by decide +kernel
theorem d_jdk_43_method_13_code_34 : decode jdk_43_method_13_code 34 = .ok (.iconst 0, 1) := by decide +kernel
theorem d_jdk_43_method_13_code_35 : decode jdk_43_method_13_code 35 = .ok (.ireturn, 1) := by decide +kernel
theorem lp_leq {l : Launch} {Z : State} {X : Ctx} {b b' : Addr} {cb cb' : Cell} {xs ys : List Int32} (A : ArrC Z cb .byte (chV xs)) (B : ArrC Z cb' .byte (chV ys)) (hn : xs.length < 2147483648) (he : xs.length = ys.length) :
    ∀ (j i : Nat), i + j = xs.length → xs.take i = ys.take i → ∀ (T : State), Wk l Z EL1 ({ frames := 0, cells := 0, slots := 0, locals := 0 } : Room) "java/lang/StringLatin1" jdk_43_method_13_code 3 (some .boolean) "equals" X [] [(b, cb), (b', cb')] T 0 0 → Go Z EL1 0 0 (fun v σ ρ => v = some (.int (if xs = ys then 1 else 0)) ∧ σ = [] ∧ ρ = [(b, cb), (b', cb')]) X T 9 #[.val (.ref b), .val (.ref b'), .val (.int i.toInt32)] []
  | 0, i, hij, ht, T, W => by
    obtain rfl : i = xs.length := by omega
    have hxy : xs = ys := by rw [List.take_length, he, List.take_length] at ht; exact ht
    refine Go.iloadN (pc' := 10) W d_jdk_43_method_13_code_9 rfl rfl ?_
    refine Go.aloadN (pc' := 11) W d_jdk_43_method_13_code_10 rfl rfl rfl ?_
    refine Go.arrlen (pc' := 12) W (Or.inr (Or.inl (List.mem_of_getElem? (i := 0) rfl))) A xs.length.toInt32 (by rw [chV, List.length_map]) d_jdk_43_method_13_code_11 rfl ?_
    refine Go.icmp_ge (pc' := 15) W 32 d_jdk_43_method_13_code_12 (by decide) rfl (fun _ => ?_) (fun q => absurd q (by rw [i32_lt hn hn]; omega))
    refine Go.iconst (pc' := 33) W (1 : Int32) d_jdk_43_method_13_code_32 (by decide) rfl ?_
    exact Go.nret (z' := 1) W (by simp) (by decide) d_jdk_43_method_13_code_33 (by decide) (by decide) ⟨by rw [if_pos hxy], rfl, rfl⟩
  | j + 1, i, hij, ht, T, W => by
    have hi : i < xs.length := by omega
    obtain ⟨x, hx⟩ : ∃ x, xs[i]? = some x := ⟨_, List.getElem?_eq_getElem hi⟩
    obtain ⟨y, hy⟩ : ∃ y, ys[i]? = some y := ⟨_, List.getElem?_eq_getElem (by omega)⟩
    refine Go.iloadN (pc' := 10) W d_jdk_43_method_13_code_9 rfl rfl ?_
    refine Go.aloadN (pc' := 11) W d_jdk_43_method_13_code_10 rfl rfl rfl ?_
    refine Go.arrlen (pc' := 12) W (Or.inr (Or.inl (List.mem_of_getElem? (i := 0) rfl))) A xs.length.toInt32 (by rw [chV, List.length_map]) d_jdk_43_method_13_code_11 rfl ?_
    refine Go.icmp_ge (pc' := 15) W 32 d_jdk_43_method_13_code_12 (by decide) rfl (fun q => absurd ((i32_lt (by omega) hn).mpr hi) q) (fun _ => ?_)
    refine Go.aloadN (pc' := 16) W d_jdk_43_method_13_code_15 rfl rfl rfl ?_
    refine Go.iloadN (pc' := 17) W d_jdk_43_method_13_code_16 rfl rfl ?_
    refine Go.baload (pc' := 18) W (Or.inr (Or.inl (List.mem_of_getElem? (i := 0) rfl))) A i (i32_nn (by omega)) (i32_clamp (by omega)) (v := .int x) (by rw [chV, List.getElem?_map, hx]; rfl) d_jdk_43_method_13_code_17 rfl ?_
    refine Go.aloadN (pc' := 19) W d_jdk_43_method_13_code_18 rfl rfl rfl ?_
    refine Go.iloadN (pc' := 20) W d_jdk_43_method_13_code_19 rfl rfl ?_
    refine Go.baload (pc' := 21) W (Or.inr (Or.inl (List.mem_of_getElem? (i := 1) rfl))) B i (i32_nn (by omega)) (i32_clamp (by omega)) (v := .int y) (by rw [chV, List.getElem?_map, hy]; rfl) d_jdk_43_method_13_code_20 rfl ?_
    refine Go.icmp_eq (pc' := 24) W 26 d_jdk_43_method_13_code_21 (by decide) rfl (fun (c : x = y) => ?_) (fun (c : ¬ x = y) => ?_)
    · refine Go.iinc (pc' := 29) W (1 : Int32) #[.val (.ref b), .val (.ref b'), .val (.int (i.toInt32 + 1))] d_jdk_43_method_13_code_26 rfl (by decide) rfl rfl ?_
      refine Go.goto W 9 d_jdk_43_method_13_code_29 (by decide) ?_
      rw [i32_succ (by omega)]
      exact lp_leq A B hn he j (i + 1) (by omega) (by rw [take_succ' hx, take_succ' hy, ht, c]) T W
    · refine Go.iconst (pc' := 25) W (0 : Int32) d_jdk_43_method_13_code_24 (by decide) rfl ?_
      refine Go.nret (z' := 0) W (by simp) (by decide) d_jdk_43_method_13_code_25 (by decide) (by decide) ⟨?_, rfl, rfl⟩
      rw [if_neg]
      rintro rfl
      exact c (Option.some.inj (hx.symm.trans hy))
theorem pn_6 : plainName "java/lang/StringLatin1" = true := by first | (simp [plainName, overriddenIn]; done) | decide +kernel
theorem rm_leq {l : Launch} {Z : State} {a0 : Array Value} (G : Cl Z a0) (b b' : Addr) (cb cb' : Cell) (xs ys : List Int32) (A : ArrC Z cb .byte (chV xs)) (B : ArrC Z cb' .byte (chV ys)) :
    Met l Z EL1 (⟨"java/lang/StringLatin1", "equals", "([B[B)Z"⟩ : MethodName) jdk_43_method_13_code 3 (some .boolean) ({ frames := 0, cells := 0, slots := 0, locals := 0 } : Room) #[.ref b, .ref b'] [] [(b, cb), (b', cb')] (fun v σ ρ => v = some (.int (if xs = ys then 1 else 0)) ∧ σ = [] ∧ ρ = [(b, cb), (b', cb')]) := by
  have hn : xs.length < 2147483648 := by have := A.2.2.2.2; rwa [chV, List.length_map] at this
  have hn' : ys.length < 2147483648 := by have := B.2.2.2.2; rwa [chV, List.length_map] at this
  refine Met.walk G.2.1 pn_6 #[.val (.ref b), .val (.ref b'), .unset] (fun m => by first | (simp [entryFrame, mkF, argsToLocals, Value.category]; done) | rfl) ?_
  intro X T W
  refine Go.aloadN (pc' := 1) W d_jdk_43_method_13_code_0 rfl rfl rfl ?_
  refine Go.arrlen (pc' := 2) W (Or.inr (Or.inl (List.mem_of_getElem? (i := 0) rfl))) A xs.length.toInt32 (by rw [chV, List.length_map]) d_jdk_43_method_13_code_1 rfl ?_
  refine Go.aloadN (pc' := 3) W d_jdk_43_method_13_code_2 rfl rfl rfl ?_
  refine Go.arrlen (pc' := 4) W (Or.inr (Or.inl (List.mem_of_getElem? (i := 1) rfl))) B ys.length.toInt32 (by rw [chV, List.length_map]) d_jdk_43_method_13_code_3 rfl ?_
  refine Go.icmp_ne (pc' := 7) W 34 d_jdk_43_method_13_code_4 (by decide) rfl (fun (c : ¬ xs.length.toInt32 = ys.length.toInt32) => ?_) (fun (c : xs.length.toInt32 = ys.length.toInt32) => ?_)
  · refine Go.iconst (pc' := 35) W (0 : Int32) d_jdk_43_method_13_code_34 (by decide) rfl ?_
    refine Go.nret (z' := 0) W (by simp) (by decide) d_jdk_43_method_13_code_35 (by decide) (by decide) ⟨?_, rfl, rfl⟩
    rw [if_neg]
    rintro rfl
    exact c rfl
  · refine Go.iconst (pc' := 8) W (0 : Int32) d_jdk_43_method_13_code_7 (by decide) rfl ?_
    refine Go.istoreN (pc' := 9) W #[.val (.ref b), .val (.ref b'), .val (.int 0)] d_jdk_43_method_13_code_8 rfl rfl ?_
    exact lp_leq A B hn ((i32_inj hn hn').mp c) xs.length 0 (by omega) rfl T W
theorem d_jdk_42_method_66_code_0 : decode jdk_42_method_66_code 0 = .ok (.aload_n 0, 1) := by decide +kernel
theorem d_jdk_42_method_66_code_1 : decode jdk_42_method_66_code 1 = .ok (.aload_n 1, 1) := by decide +kernel
theorem d_jdk_42_method_66_code_2 : decode jdk_42_method_66_code 2 = .ok (.if_acmp .ne 5, 3) := by decide +kernel
theorem d_jdk_42_method_66_code_5 : decode jdk_42_method_66_code 5 = .ok (.iconst 1, 1) := by decide +kernel
theorem d_jdk_42_method_66_code_6 : decode jdk_42_method_66_code 6 = .ok (.ireturn, 1) := by decide +kernel
theorem d_jdk_42_method_66_code_7 : decode jdk_42_method_66_code 7 = .ok (.aload_n 1, 1) := by decide +kernel
theorem d_jdk_42_method_66_code_8 : decode jdk_42_method_66_code 8 = .ok (.instanceof 10, 3) := by decide +kernel
theorem w_86 {Z : State} {a0 : Array Value} (G : Cl Z a0) : (Jvm.Cond.classLink "java/lang/String" 10 "java/lang/String").before a0 Z = true := G.1 _ (List.mem_of_getElem? (l := tables_1) (i := 86) rfl)
theorem d_jdk_42_method_66_code_11 : decode jdk_42_method_66_code 11 = .ok (.ifCond .eq 43, 3) := by decide +kernel
theorem d_jdk_42_method_66_code_14 : decode jdk_42_method_66_code 14 = .ok (.aload_n 1, 1) := by decide +kernel
theorem d_jdk_42_method_66_code_15 : decode jdk_42_method_66_code 15 = .ok (.checkcast 10, 3) := by decide +kernel
theorem d_jdk_42_method_66_code_18 : decode jdk_42_method_66_code 18 = .ok (.astore_n 2, 1) := by decide +kernel
theorem d_jdk_42_method_66_code_19 : decode jdk_42_method_66_code 19 = .ok (.getstatic 38, 3) := by decide +kernel
theorem d_jdk_42_method_66_code_22 : decode jdk_42_method_66_code 22 = .ok (.ifCond .eq 14, 3) := by decide +kernel
theorem d_jdk_42_method_66_code_25 : decode jdk_42_method_66_code 25 = .ok (.aload_n 0, 1) := by decide +kernel
theorem d_jdk_42_method_66_code_26 : decode jdk_42_method_66_code 26 = .ok (.getfield 15, 3) := by decide +kernel
theorem d_jdk_42_method_66_code_29 : decode jdk_42_method_66_code 29 = .ok (.aload_n 2, 1) := by decide +kernel
theorem d_jdk_42_method_66_code_30 : decode jdk_42_method_66_code 30 = .ok (.getfield 15, 3) := by decide +kernel
theorem d_jdk_42_method_66_code_33 : decode jdk_42_method_66_code 33 = .ok (.if_icmp .ne 21, 3) := by decide +kernel
theorem d_jdk_42_method_66_code_36 : decode jdk_42_method_66_code 36 = .ok (.aload_n 0, 1) := by decide +kernel
theorem d_jdk_42_method_66_code_37 : decode jdk_42_method_66_code 37 = .ok (.getfield 9, 3) := by decide +kernel
theorem d_jdk_42_method_66_code_40 : decode jdk_42_method_66_code 40 = .ok (.aload_n 2, 1) := by decide +kernel
theorem d_jdk_42_method_66_code_41 : decode jdk_42_method_66_code 41 = .ok (.getfield 9, 3) := by decide +kernel
theorem d_jdk_42_method_66_code_44 : decode jdk_42_method_66_code 44 = .ok (.invokestatic 541, 3) := by decide +kernel
theorem w_87 {Z : State} {a0 : Array Value} (G : Cl Z a0) : (Jvm.Cond.methodLink "java/lang/String" 541 (⟨"java/lang/StringLatin1", "equals", "([B[B)Z"⟩ : MethodName)).before a0 Z = true := G.1 _ (List.mem_of_getElem? (l := tables_1) (i := 87) rfl)
theorem w_89 {Z : State} {a0 : Array Value} (G : Cl Z a0) : (Jvm.Cond.initialized "java/lang/StringLatin1").before a0 Z = true := G.1 _ (List.mem_of_getElem? (l := tables_1) (i := 89) rfl)
theorem w_90 {Z : State} {a0 : Array Value} (G : Cl Z a0) : (Jvm.Cond.code (⟨"java/lang/StringLatin1", "equals", "([B[B)Z"⟩ : MethodName) jdk_43_method_13_code 3 (some .boolean)).before a0 Z = true := G.1 _ (List.mem_of_getElem? (l := tables_1) (i := 90) rfl)
theorem pd_7 : parseMethodDescriptor "([B[B)Z" = some ⟨[(.array .byte), (.array .byte)], some .boolean⟩ := by decide +kernel
theorem w_88 {Z : State} {a0 : Array Value} (G : Cl Z a0) : (Jvm.Cond.static (⟨"java/lang/StringLatin1", "equals", "([B[B)Z"⟩ : MethodName)).before a0 Z = true := G.1 _ (List.mem_of_getElem? (l := tables_1) (i := 88) rfl)
theorem d_jdk_42_method_66_code_47 : decode jdk_42_method_66_code 47 = .ok (.ifCond .eq 7, 3) := by decide +kernel
theorem d_jdk_42_method_66_code_54 : decode jdk_42_method_66_code 54 = .ok (.iconst 0, 1) := by decide +kernel
theorem d_jdk_42_method_66_code_55 : decode jdk_42_method_66_code 55 = .ok (.ireturn, 1) := by decide +kernel
theorem d_jdk_42_method_66_code_50 : decode jdk_42_method_66_code 50 = .ok (.iconst 1, 1) := by decide +kernel
theorem d_jdk_42_method_66_code_51 : decode jdk_42_method_66_code 51 = .ok (.goto 4, 3) := by decide +kernel
set_option maxRecDepth 65536 in
set_option maxHeartbeats 40000000 in
theorem rm_eqs {l : Launch} {Z : State} {a0 : Array Value} (G : Cl Z a0) (a a' b b' : Addr) (c c' cb cb' : Cell) (cs ds : List Int32) (S : StrL Z c b cb cs) (S' : StrL Z c' b' cb' ds) :
    Met l Z EL1 (⟨"java/lang/String", "equals", "(Ljava/lang/Object;)Z"⟩ : MethodName) jdk_42_method_66_code 3 (some .boolean) ({ frames := 1, cells := 0, slots := 0, locals := 14 } : Room) #[.ref a, .ref a'] [] [(a, c), (b, cb), (a', c'), (b', cb')] (fun v σ ρ => v = some (.int (if cs = ds then 1 else 0)) ∧ σ = [] ∧ ρ = []) := by
  refine Met.walk G.2.1 pn_2 #[.val (.ref a), .val (.ref a'), .unset] (fun m => by first | (simp [entryFrame, mkF, argsToLocals, Value.category]; done) | rfl) ?_
  intro X T0 W0
  obtain ⟨cv, Scv, hcv⟩ := G.2.2.1
  refine Go.aloadN (pc' := 1) W0 d_jdk_42_method_66_code_0 rfl rfl rfl ?_
  refine Go.aloadN (pc' := 2) W0 d_jdk_42_method_66_code_1 rfl rfl rfl ?_
  refine Go.acmp_ne (pc' := 5) W0 7 rfl rfl d_jdk_42_method_66_code_2 (by decide) rfl (fun _ => ?_) (fun hq => ?_)
  rotate_left
  · refine Go.iconst (pc' := 6) W0 (1 : Int32) d_jdk_42_method_66_code_5 (by decide) rfl ?_
    have W1 := W0.keepRo [] (ρ' := []) rfl
    replace W1 : Wk l Z EL1 ({ frames := 1, cells := 0, slots := 0, locals := 14 } : Room) "java/lang/String" jdk_42_method_66_code 3 (some .boolean) "equals" X [] [] T0 0 (0) := W1
    refine Go.nret (z' := (1 : Int32)) W1 (by simp) (by decide) d_jdk_42_method_66_code_6 (by first | exact Nat.le_of_ble_eq_true rfl | (simp; done) | (simp; omega) | omega) (by first | exact Nat.le_of_ble_eq_true rfl | (simp; done) | (simp; omega) | omega) ?_
    exact ⟨by rw [if_pos (StrL.uniq S S' (W0.cell (q := (a, c)) (Or.inr (Or.inl (List.mem_of_getElem? (i := 0) rfl)))) (by have e := Value.ref.inj hq; rw [e]; exact W0.cell (q := (a', c')) (Or.inr (Or.inl (List.mem_of_getElem? (i := 2) rfl)))) (W0.cell (q := (b, cb)) (Or.inr (Or.inl (List.mem_of_getElem? (i := 1) rfl)))) (W0.cell (q := (b', cb')) (Or.inr (Or.inl (List.mem_of_getElem? (i := 3) rfl)))))], rfl, rfl⟩
  refine Go.aloadN (pc' := 8) W0 d_jdk_42_method_66_code_7 rfl rfl rfl ?_
  refine Go.instY (pc' := 11) W0 (Or.inr (Or.inl (List.mem_of_getElem? (i := 2) rfl))) S'.1 (w_86 G) d_jdk_42_method_66_code_8 rfl (fun T2 W3 => ?_)
  refine Go.if_eq (pc' := 14) W3 54 d_jdk_42_method_66_code_11 (by decide) rfl (fun q => absurd q (by decide)) (fun _ => ?_)
  refine Go.aloadN (pc' := 15) W3 d_jdk_42_method_66_code_14 rfl rfl rfl ?_
  refine Go.castY (pc' := 18) W3 (Or.inr (Or.inl (List.mem_of_getElem? (i := 2) rfl))) S'.1 (w_86 G) d_jdk_42_method_66_code_15 rfl (fun T4 W5 => ?_)
  refine Go.astoreN (pc' := 19) W5 #[.val (.ref a), .val (.ref a'), .val (.ref a')] d_jdk_42_method_66_code_18 rfl rfl rfl ?_
  refine Go.getstatic (pc' := 22) W5 (w_18 G) Via.refl Scv d_jdk_42_method_66_code_19 rfl (fun T6 W7 => ?_)
  refine Go.if_eq (pc' := 25) W7 36 d_jdk_42_method_66_code_22 (by decide) rfl (fun q => absurd q hcv) (fun _ => ?_)
  refine Go.aloadN (pc' := 26) W7 d_jdk_42_method_66_code_25 rfl rfl rfl ?_
  refine Go.getfield (pc' := 29) W7 (Or.inr (Or.inl (List.mem_of_getElem? (i := 0) rfl))) (w_30 G) Via.refl S.2.1 d_jdk_42_method_66_code_26 rfl (fun T8 W9 => ?_)
  refine Go.aloadN (pc' := 30) W9 d_jdk_42_method_66_code_29 rfl rfl rfl ?_
  refine Go.getfield (pc' := 33) W9 (Or.inr (Or.inl (List.mem_of_getElem? (i := 2) rfl))) (w_30 G) Via.refl S'.2.1 d_jdk_42_method_66_code_30 rfl (fun T10 W11 => ?_)
  refine Go.icmp_ne (pc' := 36) W11 54 d_jdk_42_method_66_code_33 (by decide) rfl (fun q => absurd (by decide) q) (fun _ => ?_)
  refine Go.aloadN (pc' := 37) W11 d_jdk_42_method_66_code_36 rfl rfl rfl ?_
  refine Go.getfield (pc' := 40) W11 (Or.inr (Or.inl (List.mem_of_getElem? (i := 0) rfl))) (w_32 G) Via.refl S.2.2.1 d_jdk_42_method_66_code_37 rfl (fun T12 W13 => ?_)
  refine Go.aloadN (pc' := 41) W13 d_jdk_42_method_66_code_40 rfl rfl rfl ?_
  refine Go.getfield (pc' := 44) W13 (Or.inr (Or.inl (List.mem_of_getElem? (i := 2) rfl))) (w_32 G) Via.refl S'.2.2.1 d_jdk_42_method_66_code_41 rfl (fun T14 W15 => ?_)
  refine Go.static (pc' := 47) W15 (rm_leq G b b' cb cb' (cs.map fun x => x.toInt8.toInt32) (ds.map fun x => x.toInt8.toInt32) (latB_eq cs ▸ S.2.2.2.1) (latB_eq ds ▸ S'.2.2.2.1)) (w_87 G) (w_88 G) (w_89 G) (w_90 G) (by decide) [] [1, 3] (σf := []) rfl rfl [(.ref b), (.ref b')] [] rfl (lenOf pd_7 rfl) rfl rfl d_jdk_42_method_66_code_44 rfl (by first | exact Nat.le_of_ble_eq_true rfl | (simp; done) | (simp; omega) | omega) (by first | exact Nat.le_of_ble_eq_true rfl | (simp; done) | (simp; omega) | omega) (by first | exact Nat.le_of_ble_eq_true rfl | (simp; done) | (simp; omega) | omega) (by first | exact Nat.le_of_ble_eq_true rfl | (simp; done) | (simp; omega) | omega) ?_
  rintro _ _ _ T16 ⟨rfl, rfl, rfl⟩ W17
  replace W17 : Wk l Z EL1 ({ frames := 1, cells := 0, slots := 0, locals := 14 } : Room) "java/lang/String" jdk_42_method_66_code 3 (some .boolean) "equals" X [] [(b, cb), (b', cb'), (a, c), (b, cb), (a', c'), (b', cb')] T16 0 (0) := W17
  show Go Z EL1 _ _ _ X T16 47 #[.val (.ref a), .val (.ref a'), .val (.ref a')] [(.int (if cs.map (fun x => x.toInt8.toInt32) = ds.map (fun x => x.toInt8.toInt32) then 1 else 0))]
  refine Go.if_eq (pc' := 50) W17 54 d_jdk_42_method_66_code_47 (by decide) rfl (fun (c18 : (if cs.map (fun x => x.toInt8.toInt32) = ds.map (fun x => x.toInt8.toInt32) then 1 else 0) = 0) => ?_) (fun (c18 : ¬ ((if cs.map (fun x => x.toInt8.toInt32) = ds.map (fun x => x.toInt8.toInt32) then 1 else 0) = 0)) => ?_)
  · refine Go.iconst (pc' := 55) W17 (0 : Int32) d_jdk_42_method_66_code_54 (by decide) rfl ?_
    have W19 := W17.keepRo [] (ρ' := []) rfl
    replace W19 : Wk l Z EL1 ({ frames := 1, cells := 0, slots := 0, locals := 14 } : Room) "java/lang/String" jdk_42_method_66_code 3 (some .boolean) "equals" X [] [] T16 0 (0) := W19
    refine Go.nret (z' := (0 : Int32)) W19 (by simp) (by decide) d_jdk_42_method_66_code_55 (by first | exact Nat.le_of_ble_eq_true rfl | (simp; done) | (simp; omega) | omega) (by first | exact Nat.le_of_ble_eq_true rfl | (simp; done) | (simp; omega) | omega) ?_
    refine ⟨?_, rfl, rfl⟩
    rw [if_neg]
    rintro rfl
    simp at c18
  · refine Go.iconst (pc' := 51) W17 (1 : Int32) d_jdk_42_method_66_code_50 (by decide) rfl ?_
    refine Go.goto W17 55 d_jdk_42_method_66_code_51 (by decide) ?_
    have W20 := W17.keepRo [] (ρ' := []) rfl
    replace W20 : Wk l Z EL1 ({ frames := 1, cells := 0, slots := 0, locals := 14 } : Room) "java/lang/String" jdk_42_method_66_code 3 (some .boolean) "equals" X [] [] T16 0 (0) := W20
    refine Go.nret (z' := (1 : Int32)) W20 (by simp) (by decide) d_jdk_42_method_66_code_55 (by first | exact Nat.le_of_ble_eq_true rfl | (simp; done) | (simp; omega) | omega) (by first | exact Nat.le_of_ble_eq_true rfl | (simp; done) | (simp; omega) | omega) ?_
    refine ⟨?_, rfl, rfl⟩
    rw [if_pos]
    refine latB_inj S.2.2.2.2 S'.2.2.2.2 (Classical.byContradiction fun h => c18 (if_neg h))
def bitF (c k : Int32) : Int32 := (c.toUInt32 >>> (k &&& 31).toUInt32).toInt32 &&& (1 : Int32)
def strF (c : Int32) : List Int32 := if bitF c 16 = 0 then (if bitF c 17 = 0 then [c &&& (255 : Int32)] else [c &&& (255 : Int32), (c.toUInt32 >>> ((8 : Int32) &&& 31).toUInt32).toInt32 &&& (255 : Int32)]) else []
def othF (own : List Int32) (code mode ocode : Int32) (next : List Int32) : List Int32 := if mode = 0 then own else if mode = 1 then strF code else if mode = 2 then strF ocode else next
theorem and3 (p : Int32) : p &&& (3 : Int32) = (0 : Int32) ∨ p &&& (3 : Int32) = (1 : Int32) ∨ p &&& (3 : Int32) = (2 : Int32) ∨ p &&& (3 : Int32) = (3 : Int32) := by
  have h := c_and p 3 (by decide)
  have e : (3 : Int32).toInt = 3 := by decide
  rw [e] at h
  have k : (p &&& 3).toInt = 0 ∨ (p &&& 3).toInt = 1 ∨ (p &&& 3).toInt = 2 ∨ (p &&& 3).toInt = 3 := by omega
  rcases k with k | k | k | k
  · exact Or.inl (Int32.toInt_inj.mp k)
  · exact Or.inr (Or.inl (Int32.toInt_inj.mp k))
  · exact Or.inr (Or.inr (Or.inl (Int32.toInt_inj.mp k)))
  · exact Or.inr (Or.inr (Or.inr (Int32.toInt_inj.mp k)))
theorem pn_8 : plainName "com/example/maswali/maswali/RendererWrittenInPinLaw" = true := by first | (simp [plainName, overriddenIn]; done) | decide +kernel
theorem d_method_2_code_0 : decode method_2_code 0 = .ok (.iload_n 0, 1) := by decide +kernel
theorem d_method_2_code_1 : decode method_2_code 1 = .ok (.bipush 16, 2) := by decide +kernel
theorem d_method_2_code_3 : decode method_2_code 3 = .ok (.iushr, 1) := by decide +kernel
theorem d_method_2_code_4 : decode method_2_code 4 = .ok (.iconst 1, 1) := by decide +kernel
theorem d_method_2_code_5 : decode method_2_code 5 = .ok (.iand, 1) := by decide +kernel
theorem d_method_2_code_6 : decode method_2_code 6 = .ok (.ifCond .eq 14, 3) := by decide +kernel
theorem d_method_2_code_20 : decode method_2_code 20 = .ok (.iload_n 0, 1) := by decide +kernel
theorem d_method_2_code_21 : decode method_2_code 21 = .ok (.sipush 255, 3) := by decide +kernel
theorem d_method_2_code_24 : decode method_2_code 24 = .ok (.iand, 1) := by decide +kernel
theorem d_method_2_code_25 : decode method_2_code 25 = .ok (.i2c, 1) := by decide +kernel
theorem d_method_2_code_26 : decode method_2_code 26 = .ok (.istore_n 1, 1) := by decide +kernel
theorem d_method_2_code_27 : decode method_2_code 27 = .ok (.iload_n 0, 1) := by decide +kernel
theorem d_method_2_code_28 : decode method_2_code 28 = .ok (.bipush 17, 2) := by decide +kernel
theorem d_method_2_code_30 : decode method_2_code 30 = .ok (.iushr, 1) := by decide +kernel
theorem d_method_2_code_31 : decode method_2_code 31 = .ok (.iconst 1, 1) := by decide +kernel
theorem d_method_2_code_32 : decode method_2_code 32 = .ok (.iand, 1) := by decide +kernel
theorem d_method_2_code_33 : decode method_2_code 33 = .ok (.ifCond .ne 18, 3) := by decide +kernel
theorem d_method_2_code_51 : decode method_2_code 51 = .ok (.new 7, 3) := by decide +kernel
theorem w_4 {Z : State} {a0 : Array Value} (G : Cl Z a0) : (Jvm.Cond.classLink "com/example/maswali/maswali/RendererWrittenInPinLaw" 7 "java/lang/String").before a0 Z = true := G.1 _ (List.mem_of_getElem? (l := tables_1) (i := 4) rfl)
theorem d_method_2_code_54 : decode method_2_code 54 = .ok (.dup, 1) := by decide +kernel
theorem d_method_2_code_55 : decode method_2_code 55 = .ok (.iconst 2, 1) := by decide +kernel
theorem d_method_2_code_56 : decode method_2_code 56 = .ok (.newarray .char, 2) := by decide +kernel
theorem w_7 {Z : State} {a0 : Array Value} (G : Cl Z a0) : (Jvm.Cond.arrayClass .char).before a0 Z = true := G.1 _ (List.mem_of_getElem? (l := tables_1) (i := 7) rfl)
theorem d_method_2_code_58 : decode method_2_code 58 = .ok (.dup, 1) := by decide +kernel
theorem d_method_2_code_59 : decode method_2_code 59 = .ok (.iconst 0, 1) := by decide +kernel
theorem d_method_2_code_60 : decode method_2_code 60 = .ok (.iload_n 1, 1) := by decide +kernel
theorem d_method_2_code_61 : decode method_2_code 61 = .ok (.castore, 1) := by decide +kernel
theorem d_method_2_code_62 : decode method_2_code 62 = .ok (.dup, 1) := by decide +kernel
theorem d_method_2_code_63 : decode method_2_code 63 = .ok (.iconst 1, 1) := by decide +kernel
theorem d_method_2_code_64 : decode method_2_code 64 = .ok (.iload_n 0, 1) := by decide +kernel
theorem d_method_2_code_65 : decode method_2_code 65 = .ok (.bipush 8, 2) := by decide +kernel
theorem d_method_2_code_67 : decode method_2_code 67 = .ok (.iushr, 1) := by decide +kernel
theorem d_method_2_code_68 : decode method_2_code 68 = .ok (.sipush 255, 3) := by decide +kernel
theorem d_method_2_code_71 : decode method_2_code 71 = .ok (.iand, 1) := by decide +kernel
theorem d_method_2_code_72 : decode method_2_code 72 = .ok (.i2c, 1) := by decide +kernel
theorem d_method_2_code_73 : decode method_2_code 73 = .ok (.castore, 1) := by decide +kernel
theorem d_method_2_code_74 : decode method_2_code 74 = .ok (.invokespecial 9, 3) := by decide +kernel
theorem w_8 {Z : State} {a0 : Array Value} (G : Cl Z a0) : (Jvm.Cond.methodLink "com/example/maswali/maswali/RendererWrittenInPinLaw" 9 (⟨"java/lang/String", "<init>", "([C)V"⟩ : MethodName)).before a0 Z = true := G.1 _ (List.mem_of_getElem? (l := tables_1) (i := 8) rfl)
theorem w_10 {Z : State} {a0 : Array Value} (G : Cl Z a0) : (Jvm.Cond.code (⟨"java/lang/String", "<init>", "([C)V"⟩ : MethodName) jdk_42_method_3_code 2 none).before a0 Z = true := G.1 _ (List.mem_of_getElem? (l := tables_1) (i := 10) rfl)
theorem pd_9 : parseMethodDescriptor "([C)V" = some ⟨[(.array .char)], none⟩ := by decide +kernel
theorem w_9 {Z : State} {a0 : Array Value} (G : Cl Z a0) : (Jvm.Cond.instanceMethod (⟨"java/lang/String", "<init>", "([C)V"⟩ : MethodName)).before a0 Z = true := G.1 _ (List.mem_of_getElem? (l := tables_1) (i := 9) rfl)
theorem d_method_2_code_77 : decode method_2_code 77 = .ok (.areturn, 1) := by decide +kernel
theorem d_method_2_code_36 : decode method_2_code 36 = .ok (.new 7, 3) := by decide +kernel
theorem d_method_2_code_39 : decode method_2_code 39 = .ok (.dup, 1) := by decide +kernel
theorem d_method_2_code_40 : decode method_2_code 40 = .ok (.iconst 1, 1) := by decide +kernel
theorem d_method_2_code_41 : decode method_2_code 41 = .ok (.newarray .char, 2) := by decide +kernel
theorem d_method_2_code_43 : decode method_2_code 43 = .ok (.dup, 1) := by decide +kernel
theorem d_method_2_code_44 : decode method_2_code 44 = .ok (.iconst 0, 1) := by decide +kernel
theorem d_method_2_code_45 : decode method_2_code 45 = .ok (.iload_n 1, 1) := by decide +kernel
theorem d_method_2_code_46 : decode method_2_code 46 = .ok (.castore, 1) := by decide +kernel
theorem d_method_2_code_47 : decode method_2_code 47 = .ok (.invokespecial 9, 3) := by decide +kernel
theorem d_method_2_code_50 : decode method_2_code 50 = .ok (.areturn, 1) := by decide +kernel
theorem d_method_2_code_9 : decode method_2_code 9 = .ok (.new 7, 3) := by decide +kernel
theorem d_method_2_code_12 : decode method_2_code 12 = .ok (.dup, 1) := by decide +kernel
theorem d_method_2_code_13 : decode method_2_code 13 = .ok (.iconst 0, 1) := by decide +kernel
theorem d_method_2_code_14 : decode method_2_code 14 = .ok (.newarray .char, 2) := by decide +kernel
theorem d_method_2_code_16 : decode method_2_code 16 = .ok (.invokespecial 9, 3) := by decide +kernel
theorem d_method_2_code_19 : decode method_2_code 19 = .ok (.areturn, 1) := by decide +kernel
set_option maxRecDepth 65536 in
set_option maxHeartbeats 40000000 in
theorem rm_str {l : Launch} {Z : State} {a0 : Array Value} (G : Cl Z a0) (x : Int32) :
    Met l Z EL1 (⟨"com/example/maswali/maswali/RendererWrittenInPinLaw", "str", "(I)Ljava/lang/String;"⟩ : MethodName) method_2_code 2 (some (.object "java/lang/String")) ({ frames := 4, cells := 6, slots := 12, locals := 66 } : Room) #[.int x] [] [] (fun v σ ρ => ∃ a c b cb, v = some (.ref a) ∧ σ = [] ∧ ρ = [(a, c), (b, cb)] ∧ StrL Z c b cb (strF x)) := by
  refine Met.walk G.2.1 pn_8 #[.val (.int x), .unset] (fun m => by first | (simp [entryFrame, mkF, argsToLocals, Value.category]; done) | rfl) ?_
  intro X T0 W0
  refine Go.iloadN (pc' := 1) W0 d_method_2_code_0 rfl rfl ?_
  refine Go.bipush (pc' := 3) W0 (16 : Int32) d_method_2_code_1 (by decide) rfl ?_
  refine Go.iushr (pc' := 4) W0 d_method_2_code_3 rfl ?_
  refine Go.iconst (pc' := 5) W0 (1 : Int32) d_method_2_code_4 (by decide) rfl ?_
  refine Go.iand (pc' := 6) W0 d_method_2_code_5 rfl ?_
  refine Go.if_eq (pc' := 9) W0 20 d_method_2_code_6 (by decide) rfl (fun (c1 : (((x.toUInt32 >>> ((16 : Int32) &&& 31).toUInt32).toInt32) &&& (1 : Int32)) = 0) => ?_) (fun (c1 : ¬ ((((x.toUInt32 >>> ((16 : Int32) &&& 31).toUInt32).toInt32) &&& (1 : Int32)) = 0)) => ?_)
  · refine Go.iloadN (pc' := 21) W0 d_method_2_code_20 rfl rfl ?_
    refine Go.sipush (pc' := 24) W0 (255 : Int32) d_method_2_code_21 (by decide) rfl ?_
    refine Go.iand (pc' := 25) W0 d_method_2_code_24 rfl ?_
    refine Go.i2c (pc' := 26) W0 d_method_2_code_25 rfl ?_
    rw [i2c_id (lat_char (and255 _)).1 (lat_char (and255 _)).2]
    refine Go.istoreN (pc' := 27) W0 #[.val (.int x), .val (.int (x &&& (255 : Int32)))] d_method_2_code_26 rfl rfl ?_
    refine Go.iloadN (pc' := 28) W0 d_method_2_code_27 rfl rfl ?_
    refine Go.bipush (pc' := 30) W0 (17 : Int32) d_method_2_code_28 (by decide) rfl ?_
    refine Go.iushr (pc' := 31) W0 d_method_2_code_30 rfl ?_
    refine Go.iconst (pc' := 32) W0 (1 : Int32) d_method_2_code_31 (by decide) rfl ?_
    refine Go.iand (pc' := 33) W0 d_method_2_code_32 rfl ?_
    refine Go.if_ne (pc' := 36) W0 51 d_method_2_code_33 (by decide) rfl (fun (c2 : ¬ ((((x.toUInt32 >>> ((17 : Int32) &&& 31).toUInt32).toInt32) &&& (1 : Int32)) = 0)) => ?_) (fun (c2 : (((x.toUInt32 >>> ((17 : Int32) &&& 31).toUInt32).toInt32) &&& (1 : Int32)) = 0) => ?_)
    · refine Go.new (pc' := 54) W0 (w_4 G) (w_5 G) (w_6 G) d_method_2_code_51 rfl (by first | exact Nat.le_of_ble_eq_true rfl | (simp; done) | (simp; omega) | omega) (by first | exact Nat.le_of_ble_eq_true rfl | (simp; done) | (simp; omega) | omega) (fun T3 a5 c6 W4 O7 D8 => ?_)
      replace W4 : Wk l Z EL1 ({ frames := 4, cells := 6, slots := 12, locals := 66 } : Room) "com/example/maswali/maswali/RendererWrittenInPinLaw" method_2_code 2 (some (.object "java/lang/String")) "str" X [(a5, c6)] [] T3 1 (4) := W4
      have F9 : FldC Z c6 "java/lang/String" "coder" "B" (.int (0 : Int32)) := D8 (Or.inr (w_31 G)) (ty := .byte) (by decide)
      have F10 : FldC Z c6 "java/lang/String" "value" "[B" (.null) := D8 (Or.inr (w_33 G)) (ty := (.array .byte)) (by decide)
      refine Go.dup (pc' := 55) W4 d_method_2_code_54 rfl rfl ?_
      refine Go.iconst (pc' := 56) W4 (2 : Int32) d_method_2_code_55 (by decide) rfl ?_
      refine Go.newarr (pc' := 58) W4 .char rfl 2 (w_7 G) d_method_2_code_56 rfl (by decide) (by decide) (by decide) (by first | exact Nat.le_of_ble_eq_true rfl | (simp; done) | (simp; omega) | omega) (by first | exact Nat.le_of_ble_eq_true rfl | (simp; done) | (simp; omega) | omega) (fun T11 a13 c14 W12 A15 => ?_)
      replace W12 : Wk l Z EL1 ({ frames := 4, cells := 6, slots := 12, locals := 66 } : Room) "com/example/maswali/maswali/RendererWrittenInPinLaw" method_2_code 2 (some (.object "java/lang/String")) "str" X [(a13, c14), (a5, c6)] [] T11 2 (6) := W12
      replace A15 : ArrC Z c14 .char [(.int (0 : Int32)), (.int (0 : Int32))] := A15
      refine Go.dup (pc' := 59) W12 d_method_2_code_58 rfl rfl ?_
      refine Go.iconst (pc' := 60) W12 (0 : Int32) d_method_2_code_59 (by decide) rfl ?_
      refine Go.iloadN (pc' := 61) W12 d_method_2_code_60 rfl rfl ?_
      refine Go.castore (pc' := 62) W12 0 rfl A15 0 (x &&& (255 : Int32)) (nar_char_id (lat_char (and255 _))) (by decide) (by decide) (by simp) d_method_2_code_61 rfl (fun T16 c18 W17 A19 => ?_)
      replace W17 : Wk l Z EL1 ({ frames := 4, cells := 6, slots := 12, locals := 66 } : Room) "com/example/maswali/maswali/RendererWrittenInPinLaw" method_2_code 2 (some (.object "java/lang/String")) "str" X [(a13, c18), (a5, c6)] [] T16 2 (6) := W17
      replace A19 : ArrC Z c18 .char [(.int (x &&& (255 : Int32))), (.int (0 : Int32))] := A19
      refine Go.dup (pc' := 63) W17 d_method_2_code_62 rfl rfl ?_
      refine Go.iconst (pc' := 64) W17 (1 : Int32) d_method_2_code_63 (by decide) rfl ?_
      refine Go.iloadN (pc' := 65) W17 d_method_2_code_64 rfl rfl ?_
      refine Go.bipush (pc' := 67) W17 (8 : Int32) d_method_2_code_65 (by decide) rfl ?_
      refine Go.iushr (pc' := 68) W17 d_method_2_code_67 rfl ?_
      refine Go.sipush (pc' := 71) W17 (255 : Int32) d_method_2_code_68 (by decide) rfl ?_
      refine Go.iand (pc' := 72) W17 d_method_2_code_71 rfl ?_
      refine Go.i2c (pc' := 73) W17 d_method_2_code_72 rfl ?_
      rw [i2c_id (lat_char (and255 _)).1 (lat_char (and255 _)).2]
      refine Go.castore (pc' := 74) W17 0 rfl A19 1 (((x.toUInt32 >>> ((8 : Int32) &&& 31).toUInt32).toInt32) &&& (255 : Int32)) (nar_char_id (lat_char (and255 _))) (by decide) (by decide) (by simp) d_method_2_code_73 rfl (fun T20 c22 W21 A23 => ?_)
      replace W21 : Wk l Z EL1 ({ frames := 4, cells := 6, slots := 12, locals := 66 } : Room) "com/example/maswali/maswali/RendererWrittenInPinLaw" method_2_code 2 (some (.object "java/lang/String")) "str" X [(a13, c22), (a5, c6)] [] T20 2 (6) := W21
      replace A23 : ArrC Z c22 .char [(.int (x &&& (255 : Int32))), (.int (((x.toUInt32 >>> ((8 : Int32) &&& 31).toUInt32).toInt32) &&& (255 : Int32)))] := A23
      refine Go.special (pc' := 77) W21 (a := a5) (rm_initC G a5 a13 c6 c22 [x &&& (255 : Int32), ((x.toUInt32 >>> ((8 : Int32) &&& 31).toUInt32).toInt32) &&& (255 : Int32)] A23 O7 F9 F10 (Lat.cons (and255 _) (Lat.cons (and255 _) Lat.nil)) (by simp) (show ¬ (2 : Nat).toInt32 = 0 by decide)) rfl (w_8 G) (w_9 G) (w_6 G) (w_10 G) (by decide) [1, 0] [] (σf := []) rfl rfl [(.ref a13)] [(.ref a5)] rfl (lenOf pd_9 rfl) rfl rfl d_method_2_code_74 rfl (by first | exact Nat.le_of_ble_eq_true rfl | (simp; done) | (simp; omega) | omega) (by first | exact Nat.le_of_ble_eq_true rfl | (simp; done) | (simp; omega) | omega) (by first | exact Nat.le_of_ble_eq_true rfl | (simp; done) | (simp; omega) | omega) (by first | exact Nat.le_of_ble_eq_true rfl | (simp; done) | (simp; omega) | omega) ?_
      rintro _ _ _ T28 ⟨c24, b25, c26, rfl, rfl, rfl, S27⟩ W29
      replace W29 : Wk l Z EL1 ({ frames := 4, cells := 6, slots := 12, locals := 66 } : Room) "com/example/maswali/maswali/RendererWrittenInPinLaw" method_2_code 2 (some (.object "java/lang/String")) "str" X [(a13, c22)] [(a5, c24), (b25, c26)] T28 3 (8) := W29
      show Go Z EL1 _ _ _ X T28 77 #[.val (.int x), .val (.int (x &&& (255 : Int32)))] [(.ref a5)]
      have W30 := W29.drop [0] (σi := [(a13, c22)]) (σf := []) rfl
      replace W30 : Wk l Z EL1 ({ frames := 4, cells := 6, slots := 12, locals := 66 } : Room) "com/example/maswali/maswali/RendererWrittenInPinLaw" method_2_code 2 (some (.object "java/lang/String")) "str" X [] [(a5, c24), (b25, c26)] T28 3 (8) := W30
      have W31 := W30.keepRo [0, 1] (ρ' := [(a5, c24), (b25, c26)]) rfl
      replace W31 : Wk l Z EL1 ({ frames := 4, cells := 6, slots := 12, locals := 66 } : Room) "com/example/maswali/maswali/RendererWrittenInPinLaw" method_2_code 2 (some (.object "java/lang/String")) "str" X [] [(a5, c24), (b25, c26)] T28 3 (8) := W31
      refine Go.aret W31 rfl rfl d_method_2_code_77 (by first | exact Nat.le_of_ble_eq_true rfl | (simp; done) | (simp; omega) | omega) (by first | exact Nat.le_of_ble_eq_true rfl | (simp; done) | (simp; omega) | omega) ?_
      refine ⟨a5, c24, b25, c26, rfl, rfl, rfl, ?_⟩
      have hs : strF x = [x &&& (255 : Int32), ((x.toUInt32 >>> ((8 : Int32) &&& 31).toUInt32).toInt32) &&& (255 : Int32)] := by simp_all [strF, bitF]
      rw [hs]; exact S27
    · refine Go.new (pc' := 39) W0 (w_4 G) (w_5 G) (w_6 G) d_method_2_code_36 rfl (by first | exact Nat.le_of_ble_eq_true rfl | (simp; done) | (simp; omega) | omega) (by first | exact Nat.le_of_ble_eq_true rfl | (simp; done) | (simp; omega) | omega) (fun T32 a34 c35 W33 O36 D37 => ?_)
      replace W33 : Wk l Z EL1 ({ frames := 4, cells := 6, slots := 12, locals := 66 } : Room) "com/example/maswali/maswali/RendererWrittenInPinLaw" method_2_code 2 (some (.object "java/lang/String")) "str" X [(a34, c35)] [] T32 1 (4) := W33
      have F38 : FldC Z c35 "java/lang/String" "coder" "B" (.int (0 : Int32)) := D37 (Or.inr (w_31 G)) (ty := .byte) (by decide)
      have F39 : FldC Z c35 "java/lang/String" "value" "[B" (.null) := D37 (Or.inr (w_33 G)) (ty := (.array .byte)) (by decide)
      refine Go.dup (pc' := 40) W33 d_method_2_code_39 rfl rfl ?_
      refine Go.iconst (pc' := 41) W33 (1 : Int32) d_method_2_code_40 (by decide) rfl ?_
      refine Go.newarr (pc' := 43) W33 .char rfl 1 (w_7 G) d_method_2_code_41 rfl (by decide) (by decide) (by decide) (by first | exact Nat.le_of_ble_eq_true rfl | (simp; done) | (simp; omega) | omega) (by first | exact Nat.le_of_ble_eq_true rfl | (simp; done) | (simp; omega) | omega) (fun T40 a42 c43 W41 A44 => ?_)
      replace W41 : Wk l Z EL1 ({ frames := 4, cells := 6, slots := 12, locals := 66 } : Room) "com/example/maswali/maswali/RendererWrittenInPinLaw" method_2_code 2 (some (.object "java/lang/String")) "str" X [(a42, c43), (a34, c35)] [] T40 2 (5) := W41
      replace A44 : ArrC Z c43 .char [(.int (0 : Int32))] := A44
      refine Go.dup (pc' := 44) W41 d_method_2_code_43 rfl rfl ?_
      refine Go.iconst (pc' := 45) W41 (0 : Int32) d_method_2_code_44 (by decide) rfl ?_
      refine Go.iloadN (pc' := 46) W41 d_method_2_code_45 rfl rfl ?_
      refine Go.castore (pc' := 47) W41 0 rfl A44 0 (x &&& (255 : Int32)) (nar_char_id (lat_char (and255 _))) (by decide) (by decide) (by simp) d_method_2_code_46 rfl (fun T45 c47 W46 A48 => ?_)
      replace W46 : Wk l Z EL1 ({ frames := 4, cells := 6, slots := 12, locals := 66 } : Room) "com/example/maswali/maswali/RendererWrittenInPinLaw" method_2_code 2 (some (.object "java/lang/String")) "str" X [(a42, c47), (a34, c35)] [] T45 2 (5) := W46
      replace A48 : ArrC Z c47 .char [(.int (x &&& (255 : Int32)))] := A48
      refine Go.special (pc' := 50) W46 (a := a34) (rm_initC G a34 a42 c35 c47 [x &&& (255 : Int32)] A48 O36 F38 F39 (Lat.cons (and255 _) Lat.nil) (by simp) (show ¬ (1 : Nat).toInt32 = 0 by decide)) rfl (w_8 G) (w_9 G) (w_6 G) (w_10 G) (by decide) [1, 0] [] (σf := []) rfl rfl [(.ref a42)] [(.ref a34)] rfl (lenOf pd_9 rfl) rfl rfl d_method_2_code_47 rfl (by first | exact Nat.le_of_ble_eq_true rfl | (simp; done) | (simp; omega) | omega) (by first | exact Nat.le_of_ble_eq_true rfl | (simp; done) | (simp; omega) | omega) (by first | exact Nat.le_of_ble_eq_true rfl | (simp; done) | (simp; omega) | omega) (by first | exact Nat.le_of_ble_eq_true rfl | (simp; done) | (simp; omega) | omega) ?_
      rintro _ _ _ T53 ⟨c49, b50, c51, rfl, rfl, rfl, S52⟩ W54
      replace W54 : Wk l Z EL1 ({ frames := 4, cells := 6, slots := 12, locals := 66 } : Room) "com/example/maswali/maswali/RendererWrittenInPinLaw" method_2_code 2 (some (.object "java/lang/String")) "str" X [(a42, c47)] [(a34, c49), (b50, c51)] T53 3 (6) := W54
      show Go Z EL1 _ _ _ X T53 50 #[.val (.int x), .val (.int (x &&& (255 : Int32)))] [(.ref a34)]
      have W55 := W54.drop [0] (σi := [(a42, c47)]) (σf := []) rfl
      replace W55 : Wk l Z EL1 ({ frames := 4, cells := 6, slots := 12, locals := 66 } : Room) "com/example/maswali/maswali/RendererWrittenInPinLaw" method_2_code 2 (some (.object "java/lang/String")) "str" X [] [(a34, c49), (b50, c51)] T53 3 (6) := W55
      have W56 := W55.keepRo [0, 1] (ρ' := [(a34, c49), (b50, c51)]) rfl
      replace W56 : Wk l Z EL1 ({ frames := 4, cells := 6, slots := 12, locals := 66 } : Room) "com/example/maswali/maswali/RendererWrittenInPinLaw" method_2_code 2 (some (.object "java/lang/String")) "str" X [] [(a34, c49), (b50, c51)] T53 3 (6) := W56
      refine Go.aret W56 rfl rfl d_method_2_code_50 (by first | exact Nat.le_of_ble_eq_true rfl | (simp; done) | (simp; omega) | omega) (by first | exact Nat.le_of_ble_eq_true rfl | (simp; done) | (simp; omega) | omega) ?_
      refine ⟨a34, c49, b50, c51, rfl, rfl, rfl, ?_⟩
      have hs : strF x = [x &&& (255 : Int32)] := by simp_all [strF, bitF]
      rw [hs]; exact S52
  · refine Go.new (pc' := 12) W0 (w_4 G) (w_5 G) (w_6 G) d_method_2_code_9 rfl (by first | exact Nat.le_of_ble_eq_true rfl | (simp; done) | (simp; omega) | omega) (by first | exact Nat.le_of_ble_eq_true rfl | (simp; done) | (simp; omega) | omega) (fun T57 a59 c60 W58 O61 D62 => ?_)
    replace W58 : Wk l Z EL1 ({ frames := 4, cells := 6, slots := 12, locals := 66 } : Room) "com/example/maswali/maswali/RendererWrittenInPinLaw" method_2_code 2 (some (.object "java/lang/String")) "str" X [(a59, c60)] [] T57 1 (4) := W58
    have F63 : FldC Z c60 "java/lang/String" "coder" "B" (.int (0 : Int32)) := D62 (Or.inr (w_31 G)) (ty := .byte) (by decide)
    have F64 : FldC Z c60 "java/lang/String" "value" "[B" (.null) := D62 (Or.inr (w_33 G)) (ty := (.array .byte)) (by decide)
    refine Go.dup (pc' := 13) W58 d_method_2_code_12 rfl rfl ?_
    refine Go.iconst (pc' := 14) W58 (0 : Int32) d_method_2_code_13 (by decide) rfl ?_
    refine Go.newarr (pc' := 16) W58 .char rfl 0 (w_7 G) d_method_2_code_14 rfl (by decide) (by decide) (by decide) (by first | exact Nat.le_of_ble_eq_true rfl | (simp; done) | (simp; omega) | omega) (by first | exact Nat.le_of_ble_eq_true rfl | (simp; done) | (simp; omega) | omega) (fun T65 a67 c68 W66 A69 => ?_)
    replace W66 : Wk l Z EL1 ({ frames := 4, cells := 6, slots := 12, locals := 66 } : Room) "com/example/maswali/maswali/RendererWrittenInPinLaw" method_2_code 2 (some (.object "java/lang/String")) "str" X [(a67, c68), (a59, c60)] [] T65 2 (4) := W66
    replace A69 : ArrC Z c68 .char [] := A69
    refine Go.special (pc' := 19) W66 (a := a59) (rm_initC0 G a59 a67 c60 c68 A69 O61 F63 F64) rfl (w_8 G) (w_9 G) (w_6 G) (w_10 G) (by decide) [1, 0] [] (σf := []) rfl rfl [(.ref a67)] [(.ref a59)] rfl (lenOf pd_9 rfl) rfl rfl d_method_2_code_16 rfl (by first | exact Nat.le_of_ble_eq_true rfl | (simp; done) | (simp; omega) | omega) (by first | exact Nat.le_of_ble_eq_true rfl | (simp; done) | (simp; omega) | omega) (by first | exact Nat.le_of_ble_eq_true rfl | (simp; done) | (simp; omega) | omega) (by first | exact Nat.le_of_ble_eq_true rfl | (simp; done) | (simp; omega) | omega) ?_
    rintro _ _ _ T74 ⟨c70, b71, c72, rfl, rfl, rfl, S73⟩ W75
    replace W75 : Wk l Z EL1 ({ frames := 4, cells := 6, slots := 12, locals := 66 } : Room) "com/example/maswali/maswali/RendererWrittenInPinLaw" method_2_code 2 (some (.object "java/lang/String")) "str" X [(a67, c68)] [(a59, c70), (b71, c72)] T74 6 (12) := W75
    show Go Z EL1 _ _ _ X T74 19 #[.val (.int x), .unset] [(.ref a59)]
    have W76 := W75.drop [0] (σi := [(a67, c68)]) (σf := []) rfl
    replace W76 : Wk l Z EL1 ({ frames := 4, cells := 6, slots := 12, locals := 66 } : Room) "com/example/maswali/maswali/RendererWrittenInPinLaw" method_2_code 2 (some (.object "java/lang/String")) "str" X [] [(a59, c70), (b71, c72)] T74 6 (12) := W76
    have W77 := W76.keepRo [0, 1] (ρ' := [(a59, c70), (b71, c72)]) rfl
    replace W77 : Wk l Z EL1 ({ frames := 4, cells := 6, slots := 12, locals := 66 } : Room) "com/example/maswali/maswali/RendererWrittenInPinLaw" method_2_code 2 (some (.object "java/lang/String")) "str" X [] [(a59, c70), (b71, c72)] T74 6 (12) := W77
    refine Go.aret W77 rfl rfl d_method_2_code_19 (by first | exact Nat.le_of_ble_eq_true rfl | (simp; done) | (simp; omega) | omega) (by first | exact Nat.le_of_ble_eq_true rfl | (simp; done) | (simp; omega) | omega) ?_
    refine ⟨a59, c70, b71, c72, rfl, rfl, rfl, ?_⟩
    have hs : strF x = [] := by simp_all [strF, bitF]
    rw [hs]; exact S73
theorem d_method_3_code_0 : decode method_3_code 0 = .ok (.iload_n 2, 1) := by decide +kernel
theorem d_method_3_code_1 : decode method_3_code 1 = .ok (.ifCond .ne 5, 3) := by decide +kernel
theorem d_method_3_code_6 : decode method_3_code 6 = .ok (.iload_n 2, 1) := by decide +kernel
theorem d_method_3_code_7 : decode method_3_code 7 = .ok (.iconst 1, 1) := by decide +kernel
theorem d_method_3_code_8 : decode method_3_code 8 = .ok (.if_icmp .ne 8, 3) := by decide +kernel
theorem d_method_3_code_16 : decode method_3_code 16 = .ok (.iload_n 2, 1) := by decide +kernel
theorem d_method_3_code_17 : decode method_3_code 17 = .ok (.iconst 2, 1) := by decide +kernel
theorem d_method_3_code_18 : decode method_3_code 18 = .ok (.if_icmp .ne 8, 3) := by decide +kernel
theorem d_method_3_code_26 : decode method_3_code 26 = .ok (.aload 4, 2) := by decide +kernel
theorem d_method_3_code_28 : decode method_3_code 28 = .ok (.areturn, 1) := by decide +kernel
theorem d_method_3_code_21 : decode method_3_code 21 = .ok (.iload_n 3, 1) := by decide +kernel
theorem d_method_3_code_22 : decode method_3_code 22 = .ok (.invokestatic 12, 3) := by decide +kernel
theorem w_0 {Z : State} {a0 : Array Value} (G : Cl Z a0) : (Jvm.Cond.methodLink "com/example/maswali/maswali/RendererWrittenInPinLaw" 12 (⟨"com/example/maswali/maswali/RendererWrittenInPinLaw", "str", "(I)Ljava/lang/String;"⟩ : MethodName)).before a0 Z = true := G.1 _ (List.mem_of_getElem? (l := tables_1) (i := 0) rfl)
theorem w_2 {Z : State} {a0 : Array Value} (G : Cl Z a0) : (Jvm.Cond.initialized "com/example/maswali/maswali/RendererWrittenInPinLaw").before a0 Z = true := G.1 _ (List.mem_of_getElem? (l := tables_1) (i := 2) rfl)
theorem w_3 {Z : State} {a0 : Array Value} (G : Cl Z a0) : (Jvm.Cond.code (⟨"com/example/maswali/maswali/RendererWrittenInPinLaw", "str", "(I)Ljava/lang/String;"⟩ : MethodName) method_2_code 2 (some (.object "java/lang/String"))).before a0 Z = true := G.1 _ (List.mem_of_getElem? (l := tables_1) (i := 3) rfl)
theorem pd_10 : parseMethodDescriptor "(I)Ljava/lang/String;" = some ⟨[.int], some (.object "java/lang/String")⟩ := by decide +kernel
theorem w_1 {Z : State} {a0 : Array Value} (G : Cl Z a0) : (Jvm.Cond.static (⟨"com/example/maswali/maswali/RendererWrittenInPinLaw", "str", "(I)Ljava/lang/String;"⟩ : MethodName)).before a0 Z = true := G.1 _ (List.mem_of_getElem? (l := tables_1) (i := 1) rfl)
theorem d_method_3_code_25 : decode method_3_code 25 = .ok (.areturn, 1) := by decide +kernel
theorem d_method_3_code_11 : decode method_3_code 11 = .ok (.iload_n 1, 1) := by decide +kernel
theorem d_method_3_code_12 : decode method_3_code 12 = .ok (.invokestatic 12, 3) := by decide +kernel
theorem d_method_3_code_15 : decode method_3_code 15 = .ok (.areturn, 1) := by decide +kernel
theorem d_method_3_code_4 : decode method_3_code 4 = .ok (.aload_n 0, 1) := by decide +kernel
theorem d_method_3_code_5 : decode method_3_code 5 = .ok (.areturn, 1) := by decide +kernel
set_option maxRecDepth 65536 in
set_option maxHeartbeats 40000000 in
theorem rm_oth {l : Launch} {Z : State} {a0 : Array Value} (G : Cl Z a0) (p bp q bq : Addr) (cp cbp cq cbq : Cell) (xs ys : List Int32) (code mode ocode : Int32) (Sp : StrL Z cp bp cbp xs) (Sq : StrL Z cq bq cbq ys) :
    Met l Z EL1 (⟨"com/example/maswali/maswali/RendererWrittenInPinLaw", "other", "(Ljava/lang/String;IIILjava/lang/String;)Ljava/lang/String;"⟩ : MethodName) method_3_code 5 (some (.object "java/lang/String")) ({ frames := 5, cells := 6, slots := 12, locals := 79 } : Room) #[.ref p, .int code, .int mode, .int ocode, .ref q] [] [(p, cp), (bp, cbp), (q, cq), (bq, cbq)] (fun v σ ρ => ∃ a c b cb, v = some (.ref a) ∧ σ = [] ∧ ρ = [(a, c), (b, cb)] ∧ StrL Z c b cb (othF xs code mode ocode ys)) := by
  refine Met.walk G.2.1 pn_8 #[.val (.ref p), .val (.int code), .val (.int mode), .val (.int ocode), .val (.ref q)] (fun m => by first | (simp [entryFrame, mkF, argsToLocals, Value.category]; done) | rfl) ?_
  intro X T0 W0
  refine Go.iloadN (pc' := 1) W0 d_method_3_code_0 rfl rfl ?_
  refine Go.if_ne (pc' := 4) W0 6 d_method_3_code_1 (by decide) rfl (fun (c1 : ¬ (mode = 0)) => ?_) (fun (c1 : mode = 0) => ?_)
  · refine Go.iloadN (pc' := 7) W0 d_method_3_code_6 rfl rfl ?_
    refine Go.iconst (pc' := 8) W0 (1 : Int32) d_method_3_code_7 (by decide) rfl ?_
    refine Go.icmp_ne (pc' := 11) W0 16 d_method_3_code_8 (by decide) rfl (fun (c2 : ¬ (mode = (1 : Int32))) => ?_) (fun (c2 : mode = (1 : Int32)) => ?_)
    · refine Go.iloadN (pc' := 17) W0 d_method_3_code_16 rfl rfl ?_
      refine Go.iconst (pc' := 18) W0 (2 : Int32) d_method_3_code_17 (by decide) rfl ?_
      refine Go.icmp_ne (pc' := 21) W0 26 d_method_3_code_18 (by decide) rfl (fun (c3 : ¬ (mode = (2 : Int32))) => ?_) (fun (c3 : mode = (2 : Int32)) => ?_)
      · refine Go.aload (pc' := 28) W0 d_method_3_code_26 rfl rfl rfl ?_
        have W4 := W0.drop [] (σi := []) (σf := []) rfl
        replace W4 : Wk l Z EL1 ({ frames := 5, cells := 6, slots := 12, locals := 79 } : Room) "com/example/maswali/maswali/RendererWrittenInPinLaw" method_3_code 5 (some (.object "java/lang/String")) "other" X [] [(p, cp), (bp, cbp), (q, cq), (bq, cbq)] T0 0 (0) := W4
        have W5 := W4.keepRo [2, 3] (ρ' := [(q, cq), (bq, cbq)]) rfl
        replace W5 : Wk l Z EL1 ({ frames := 5, cells := 6, slots := 12, locals := 79 } : Room) "com/example/maswali/maswali/RendererWrittenInPinLaw" method_3_code 5 (some (.object "java/lang/String")) "other" X [] [(q, cq), (bq, cbq)] T0 0 (0) := W5
        refine Go.aret W5 rfl rfl d_method_3_code_28 (by first | exact Nat.le_of_ble_eq_true rfl | (simp; done) | (simp; omega) | omega) (by first | exact Nat.le_of_ble_eq_true rfl | (simp; done) | (simp; omega) | omega) ?_
        refine ⟨q, cq, bq, cbq, rfl, rfl, rfl, ?_⟩
        have hs : othF xs code mode ocode ys = ys := by simp_all [othF]
        rw [hs]; exact Sq
      · refine Go.iloadN (pc' := 22) W0 d_method_3_code_21 rfl rfl ?_
        refine Go.static (pc' := 25) W0 (rm_str G ocode) (w_0 G) (w_1 G) (w_2 G) (w_3 G) (by decide) [] [] (σf := []) rfl rfl [(.int ocode)] [] rfl (lenOf pd_10 rfl) rfl rfl d_method_3_code_22 rfl (by first | exact Nat.le_of_ble_eq_true rfl | (simp; done) | (simp; omega) | omega) (by first | exact Nat.le_of_ble_eq_true rfl | (simp; done) | (simp; omega) | omega) (by first | exact Nat.le_of_ble_eq_true rfl | (simp; done) | (simp; omega) | omega) (by first | exact Nat.le_of_ble_eq_true rfl | (simp; done) | (simp; omega) | omega) ?_
        rintro _ _ _ T11 ⟨a6, c7, b8, c9, rfl, rfl, rfl, S10⟩ W12
        replace W12 : Wk l Z EL1 ({ frames := 5, cells := 6, slots := 12, locals := 79 } : Room) "com/example/maswali/maswali/RendererWrittenInPinLaw" method_3_code 5 (some (.object "java/lang/String")) "other" X [] [(a6, c7), (b8, c9), (p, cp), (bp, cbp), (q, cq), (bq, cbq)] T11 6 (12) := W12
        show Go Z EL1 _ _ _ X T11 25 #[.val (.ref p), .val (.int code), .val (.int mode), .val (.int ocode), .val (.ref q)] [(.ref a6)]
        have W13 := W12.drop [] (σi := []) (σf := []) rfl
        replace W13 : Wk l Z EL1 ({ frames := 5, cells := 6, slots := 12, locals := 79 } : Room) "com/example/maswali/maswali/RendererWrittenInPinLaw" method_3_code 5 (some (.object "java/lang/String")) "other" X [] [(a6, c7), (b8, c9), (p, cp), (bp, cbp), (q, cq), (bq, cbq)] T11 6 (12) := W13
        have W14 := W13.keepRo [0, 1] (ρ' := [(a6, c7), (b8, c9)]) rfl
        replace W14 : Wk l Z EL1 ({ frames := 5, cells := 6, slots := 12, locals := 79 } : Room) "com/example/maswali/maswali/RendererWrittenInPinLaw" method_3_code 5 (some (.object "java/lang/String")) "other" X [] [(a6, c7), (b8, c9)] T11 6 (12) := W14
        refine Go.aret W14 rfl rfl d_method_3_code_25 (by first | exact Nat.le_of_ble_eq_true rfl | (simp; done) | (simp; omega) | omega) (by first | exact Nat.le_of_ble_eq_true rfl | (simp; done) | (simp; omega) | omega) ?_
        refine ⟨a6, c7, b8, c9, rfl, rfl, rfl, ?_⟩
        have hs : othF xs code mode ocode ys = strF ocode := by simp_all [othF]
        rw [hs]; exact S10
    · refine Go.iloadN (pc' := 12) W0 d_method_3_code_11 rfl rfl ?_
      refine Go.static (pc' := 15) W0 (rm_str G code) (w_0 G) (w_1 G) (w_2 G) (w_3 G) (by decide) [] [] (σf := []) rfl rfl [(.int code)] [] rfl (lenOf pd_10 rfl) rfl rfl d_method_3_code_12 rfl (by first | exact Nat.le_of_ble_eq_true rfl | (simp; done) | (simp; omega) | omega) (by first | exact Nat.le_of_ble_eq_true rfl | (simp; done) | (simp; omega) | omega) (by first | exact Nat.le_of_ble_eq_true rfl | (simp; done) | (simp; omega) | omega) (by first | exact Nat.le_of_ble_eq_true rfl | (simp; done) | (simp; omega) | omega) ?_
      rintro _ _ _ T20 ⟨a15, c16, b17, c18, rfl, rfl, rfl, S19⟩ W21
      replace W21 : Wk l Z EL1 ({ frames := 5, cells := 6, slots := 12, locals := 79 } : Room) "com/example/maswali/maswali/RendererWrittenInPinLaw" method_3_code 5 (some (.object "java/lang/String")) "other" X [] [(a15, c16), (b17, c18), (p, cp), (bp, cbp), (q, cq), (bq, cbq)] T20 6 (12) := W21
      show Go Z EL1 _ _ _ X T20 15 #[.val (.ref p), .val (.int code), .val (.int mode), .val (.int ocode), .val (.ref q)] [(.ref a15)]
      have W22 := W21.drop [] (σi := []) (σf := []) rfl
      replace W22 : Wk l Z EL1 ({ frames := 5, cells := 6, slots := 12, locals := 79 } : Room) "com/example/maswali/maswali/RendererWrittenInPinLaw" method_3_code 5 (some (.object "java/lang/String")) "other" X [] [(a15, c16), (b17, c18), (p, cp), (bp, cbp), (q, cq), (bq, cbq)] T20 6 (12) := W22
      have W23 := W22.keepRo [0, 1] (ρ' := [(a15, c16), (b17, c18)]) rfl
      replace W23 : Wk l Z EL1 ({ frames := 5, cells := 6, slots := 12, locals := 79 } : Room) "com/example/maswali/maswali/RendererWrittenInPinLaw" method_3_code 5 (some (.object "java/lang/String")) "other" X [] [(a15, c16), (b17, c18)] T20 6 (12) := W23
      refine Go.aret W23 rfl rfl d_method_3_code_15 (by first | exact Nat.le_of_ble_eq_true rfl | (simp; done) | (simp; omega) | omega) (by first | exact Nat.le_of_ble_eq_true rfl | (simp; done) | (simp; omega) | omega) ?_
      refine ⟨a15, c16, b17, c18, rfl, rfl, rfl, ?_⟩
      have hs : othF xs code mode ocode ys = strF code := by simp_all [othF]
      rw [hs]; exact S19
  · refine Go.aloadN (pc' := 5) W0 d_method_3_code_4 rfl rfl rfl ?_
    have W24 := W0.drop [] (σi := []) (σf := []) rfl
    replace W24 : Wk l Z EL1 ({ frames := 5, cells := 6, slots := 12, locals := 79 } : Room) "com/example/maswali/maswali/RendererWrittenInPinLaw" method_3_code 5 (some (.object "java/lang/String")) "other" X [] [(p, cp), (bp, cbp), (q, cq), (bq, cbq)] T0 0 (0) := W24
    have W25 := W24.keepRo [0, 1] (ρ' := [(p, cp), (bp, cbp)]) rfl
    replace W25 : Wk l Z EL1 ({ frames := 5, cells := 6, slots := 12, locals := 79 } : Room) "com/example/maswali/maswali/RendererWrittenInPinLaw" method_3_code 5 (some (.object "java/lang/String")) "other" X [] [(p, cp), (bp, cbp)] T0 0 (0) := W25
    refine Go.aret W25 rfl rfl d_method_3_code_5 (by first | exact Nat.le_of_ble_eq_true rfl | (simp; done) | (simp; omega) | omega) (by first | exact Nat.le_of_ble_eq_true rfl | (simp; done) | (simp; omega) | omega) ?_
    refine ⟨p, cp, bp, cbp, rfl, rfl, rfl, ?_⟩
    have hs : othF xs code mode ocode ys = xs := by simp_all [othF]
    rw [hs]; exact Sp
def RenC (Z : State) (c : Cell) (p n : Value) : Prop := ObjC Z c "com/example/maswali/maswali/Renderer" ∧ FldC Z c "com/example/maswali/maswali/Renderer" "pieces" "[Ljava/lang/String;" p ∧ FldC Z c "com/example/maswali/maswali/Renderer" "pieceCount" "I" n
theorem pn_11 : plainName "com/example/maswali/maswali/BindValues" = true := by first | (simp [plainName, overriddenIn]; done) | decide +kernel
theorem d_prog_2_method_1_code_0 : decode prog_2_method_1_code 0 = .ok (.aload_n 0, 1) := by decide +kernel
theorem d_prog_2_method_1_code_1 : decode prog_2_method_1_code 1 = .ok (.invokespecial 1, 3) := by decide +kernel
theorem w_54 {Z : State} {a0 : Array Value} (G : Cl Z a0) : (Jvm.Cond.methodLink "com/example/maswali/maswali/BindValues" 1 (⟨"java/lang/Object", "<init>", "()V"⟩ : MethodName)).before a0 Z = true := G.1 _ (List.mem_of_getElem? (l := tables_1) (i := 54) rfl)
theorem d_prog_2_method_1_code_4 : decode prog_2_method_1_code 4 = .ok (.aload_n 0, 1) := by decide +kernel
theorem d_prog_2_method_1_code_5 : decode prog_2_method_1_code 5 = .ok (.getstatic 7, 3) := by decide +kernel
theorem w_55 {Z : State} {a0 : Array Value} (G : Cl Z a0) : (Jvm.Cond.fieldLink "com/example/maswali/maswali/BindValues" 7 "com/example/maswali/maswali/BindValues" "NONE" "[Ljava/lang/Object;").before a0 Z = true := G.1 _ (List.mem_of_getElem? (l := tables_1) (i := 55) rfl)
theorem d_prog_2_method_1_code_8 : decode prog_2_method_1_code 8 = .ok (.putfield 13, 3) := by decide +kernel
theorem w_57 {Z : State} {a0 : Array Value} (G : Cl Z a0) : (Jvm.Cond.fieldLink "com/example/maswali/maswali/BindValues" 13 "com/example/maswali/maswali/BindValues" "values" "[Ljava/lang/Object;").before a0 Z = true := G.1 _ (List.mem_of_getElem? (l := tables_1) (i := 57) rfl)
theorem w_58 {Z : State} {a0 : Array Value} (G : Cl Z a0) : (Jvm.Cond.lays "com/example/maswali/maswali/BindValues" "com/example/maswali/maswali/BindValues" "values" "[Ljava/lang/Object;").before a0 Z = true := G.1 _ (List.mem_of_getElem? (l := tables_1) (i := 58) rfl)
theorem w_49 {Z : State} {a0 : Array Value} (G : Cl Z a0) : (Jvm.Cond.instantiable "com/example/maswali/maswali/BindValues" 2).before a0 Z = true := G.1 _ (List.mem_of_getElem? (l := tables_1) (i := 49) rfl)
theorem d_prog_2_method_1_code_11 : decode prog_2_method_1_code 11 = .ok (.return_, 1) := by decide +kernel
set_option maxRecDepth 65536 in
set_option maxHeartbeats 40000000 in
theorem rm_bv {l : Launch} {Z : State} {a0 : Array Value} (G : Cl Z a0) (a : Addr) (c : Cell) (nv : Value) (hnv : nv.isRef = true) (Sn : Sta Z Z.heap "com/example/maswali/maswali/BindValues" "NONE" "[Ljava/lang/Object;" nv) (hO : ObjC Z c "com/example/maswali/maswali/BindValues") (hF : FldC Z c "com/example/maswali/maswali/BindValues" "values" "[Ljava/lang/Object;" .null) :
    Met l Z EL1 (⟨"com/example/maswali/maswali/BindValues", "<init>", "()V"⟩ : MethodName) prog_2_method_1_code 1 none ({ frames := 1, cells := 0, slots := 0, locals := 12 } : Room) #[.ref a] [(a, c)] [] (fun v σ ρ => v = none ∧ σ = [] ∧ ρ = []) := by
  refine Met.walk G.2.1 pn_11 #[.val (.ref a)] (fun m => by first | (simp [entryFrame, mkF, argsToLocals, Value.category]; done) | rfl) ?_
  intro X T0 W0
  refine Go.aloadN (pc' := 1) W0 d_prog_2_method_1_code_0 rfl rfl rfl ?_
  refine Go.objInit (pc' := 4) W0 (w_54 G) (w_16 G) (w_17 G) rfl d_prog_2_method_1_code_1 rfl (by first | exact Nat.le_of_ble_eq_true rfl | (simp; done) | (simp; omega) | omega) (by first | exact Nat.le_of_ble_eq_true rfl | (simp; done) | (simp; omega) | omega) (fun T1 W2 => ?_)
  refine Go.aloadN (pc' := 5) W2 d_prog_2_method_1_code_4 rfl rfl rfl ?_
  refine Go.getstatic (pc' := 8) W2 (w_55 G) Via.refl Sn d_prog_2_method_1_code_5 rfl (fun T3 W4 => ?_)
  refine Go.putfield (pc' := 11) W4 0 rfl (w_57 G) Via.refl hF hO (Or.inl (w_58 G)) (w_49 G) (ty := (.array (.object "java/lang/Object"))) (v' := nv) (by decide) (narrow_ref rfl _) (fits_isref rfl hnv) d_prog_2_method_1_code_8 rfl (fun T5 c7 q8 W6 => ?_)
  replace W6 : Wk l Z EL1 ({ frames := 1, cells := 0, slots := 0, locals := 12 } : Room) "com/example/maswali/maswali/BindValues" prog_2_method_1_code 1 none "<init>" X [(a, c7)] [] T5 0 (0) := W6
  have O9 := hO.put' q8
  have F10 := hF.put' q8
  have W11 := W6.drop [0] (σi := [(a, c7)]) (σf := []) rfl
  replace W11 : Wk l Z EL1 ({ frames := 1, cells := 0, slots := 0, locals := 12 } : Room) "com/example/maswali/maswali/BindValues" prog_2_method_1_code 1 none "<init>" X [] [] T5 0 (0) := W11
  refine Go.retV W11 d_prog_2_method_1_code_11 (by first | exact Nat.le_of_ble_eq_true rfl | (simp; done) | (simp; omega) | omega) (by first | exact Nat.le_of_ble_eq_true rfl | (simp; done) | (simp; omega) | omega) ?_
  exact ⟨rfl, rfl, rfl⟩
theorem pn_12 : plainName "com/example/maswali/maswali/Renderer" = true := by first | (simp [plainName, overriddenIn]; done) | decide +kernel
theorem d_prog_7_method_1_code_0 : decode prog_7_method_1_code 0 = .ok (.aload_n 0, 1) := by decide +kernel
theorem d_prog_7_method_1_code_1 : decode prog_7_method_1_code 1 = .ok (.invokespecial 1, 3) := by decide +kernel
theorem w_44 {Z : State} {a0 : Array Value} (G : Cl Z a0) : (Jvm.Cond.methodLink "com/example/maswali/maswali/Renderer" 1 (⟨"java/lang/Object", "<init>", "()V"⟩ : MethodName)).before a0 Z = true := G.1 _ (List.mem_of_getElem? (l := tables_1) (i := 44) rfl)
theorem d_prog_7_method_1_code_4 : decode prog_7_method_1_code 4 = .ok (.aload_n 0, 1) := by decide +kernel
theorem d_prog_7_method_1_code_5 : decode prog_7_method_1_code 5 = .ok (.bipush 64, 2) := by decide +kernel
theorem d_prog_7_method_1_code_7 : decode prog_7_method_1_code 7 = .ok (.anewarray 7, 3) := by decide +kernel
theorem w_45 {Z : State} {a0 : Array Value} (G : Cl Z a0) : (Jvm.Cond.classLink "com/example/maswali/maswali/Renderer" 7 "java/lang/String").before a0 Z = true := G.1 _ (List.mem_of_getElem? (l := tables_1) (i := 45) rfl)
theorem w_34 {Z : State} {a0 : Array Value} (G : Cl Z a0) : (Jvm.Cond.arrayOver (.object "java/lang/String")).before a0 Z = true := G.1 _ (List.mem_of_getElem? (l := tables_1) (i := 34) rfl)
theorem d_prog_7_method_1_code_10 : decode prog_7_method_1_code 10 = .ok (.putfield 9, 3) := by decide +kernel
theorem w_46 {Z : State} {a0 : Array Value} (G : Cl Z a0) : (Jvm.Cond.fieldLink "com/example/maswali/maswali/Renderer" 9 "com/example/maswali/maswali/Renderer" "pieces" "[Ljava/lang/String;").before a0 Z = true := G.1 _ (List.mem_of_getElem? (l := tables_1) (i := 46) rfl)
theorem w_47 {Z : State} {a0 : Array Value} (G : Cl Z a0) : (Jvm.Cond.lays "com/example/maswali/maswali/Renderer" "com/example/maswali/maswali/Renderer" "pieces" "[Ljava/lang/String;").before a0 Z = true := G.1 _ (List.mem_of_getElem? (l := tables_1) (i := 47) rfl)
theorem w_36 {Z : State} {a0 : Array Value} (G : Cl Z a0) : (Jvm.Cond.instantiable "com/example/maswali/maswali/Renderer" 4).before a0 Z = true := G.1 _ (List.mem_of_getElem? (l := tables_1) (i := 36) rfl)
theorem w_69 {Z : State} {a0 : Array Value} (G : Cl Z a0) : (Jvm.Cond.lays "com/example/maswali/maswali/Renderer" "com/example/maswali/maswali/Renderer" "pieceCount" "I").before a0 Z = true := G.1 _ (List.mem_of_getElem? (l := tables_1) (i := 69) rfl)
theorem w_62 {Z : State} {a0 : Array Value} (G : Cl Z a0) : (Jvm.Cond.laysFinal "com/example/maswali/maswali/Renderer" "com/example/maswali/maswali/Renderer" "dialect" "Lcom/example/maswali/maswali/Dialect;").before a0 Z = true := G.1 _ (List.mem_of_getElem? (l := tables_1) (i := 62) rfl)
theorem w_60 {Z : State} {a0 : Array Value} (G : Cl Z a0) : (Jvm.Cond.laysFinal "com/example/maswali/maswali/Renderer" "com/example/maswali/maswali/Renderer" "bindValues" "Lcom/example/maswali/maswali/BindValues;").before a0 Z = true := G.1 _ (List.mem_of_getElem? (l := tables_1) (i := 60) rfl)
theorem d_prog_7_method_1_code_13 : decode prog_7_method_1_code 13 = .ok (.aload_n 0, 1) := by decide +kernel
theorem d_prog_7_method_1_code_14 : decode prog_7_method_1_code 14 = .ok (.new 15, 3) := by decide +kernel
theorem w_48 {Z : State} {a0 : Array Value} (G : Cl Z a0) : (Jvm.Cond.classLink "com/example/maswali/maswali/Renderer" 15 "com/example/maswali/maswali/BindValues").before a0 Z = true := G.1 _ (List.mem_of_getElem? (l := tables_1) (i := 48) rfl)
theorem w_50 {Z : State} {a0 : Array Value} (G : Cl Z a0) : (Jvm.Cond.initialized "com/example/maswali/maswali/BindValues").before a0 Z = true := G.1 _ (List.mem_of_getElem? (l := tables_1) (i := 50) rfl)
theorem d_prog_7_method_1_code_17 : decode prog_7_method_1_code 17 = .ok (.dup, 1) := by decide +kernel
theorem d_prog_7_method_1_code_18 : decode prog_7_method_1_code 18 = .ok (.invokespecial 17, 3) := by decide +kernel
theorem w_51 {Z : State} {a0 : Array Value} (G : Cl Z a0) : (Jvm.Cond.methodLink "com/example/maswali/maswali/Renderer" 17 (⟨"com/example/maswali/maswali/BindValues", "<init>", "()V"⟩ : MethodName)).before a0 Z = true := G.1 _ (List.mem_of_getElem? (l := tables_1) (i := 51) rfl)
theorem w_53 {Z : State} {a0 : Array Value} (G : Cl Z a0) : (Jvm.Cond.code (⟨"com/example/maswali/maswali/BindValues", "<init>", "()V"⟩ : MethodName) prog_2_method_1_code 1 none).before a0 Z = true := G.1 _ (List.mem_of_getElem? (l := tables_1) (i := 53) rfl)
theorem pd_13 : parseMethodDescriptor "()V" = some ⟨[], none⟩ := by decide +kernel
theorem w_52 {Z : State} {a0 : Array Value} (G : Cl Z a0) : (Jvm.Cond.instanceMethod (⟨"com/example/maswali/maswali/BindValues", "<init>", "()V"⟩ : MethodName)).before a0 Z = true := G.1 _ (List.mem_of_getElem? (l := tables_1) (i := 52) rfl)
theorem d_prog_7_method_1_code_21 : decode prog_7_method_1_code 21 = .ok (.putfield 18, 3) := by decide +kernel
theorem w_59 {Z : State} {a0 : Array Value} (G : Cl Z a0) : (Jvm.Cond.fieldLink "com/example/maswali/maswali/Renderer" 18 "com/example/maswali/maswali/Renderer" "bindValues" "Lcom/example/maswali/maswali/BindValues;").before a0 Z = true := G.1 _ (List.mem_of_getElem? (l := tables_1) (i := 59) rfl)
theorem d_prog_7_method_1_code_24 : decode prog_7_method_1_code 24 = .ok (.aload_n 0, 1) := by decide +kernel
theorem d_prog_7_method_1_code_25 : decode prog_7_method_1_code 25 = .ok (.aload_n 1, 1) := by decide +kernel
theorem d_prog_7_method_1_code_26 : decode prog_7_method_1_code 26 = .ok (.putfield 22, 3) := by decide +kernel
theorem w_61 {Z : State} {a0 : Array Value} (G : Cl Z a0) : (Jvm.Cond.fieldLink "com/example/maswali/maswali/Renderer" 22 "com/example/maswali/maswali/Renderer" "dialect" "Lcom/example/maswali/maswali/Dialect;").before a0 Z = true := G.1 _ (List.mem_of_getElem? (l := tables_1) (i := 61) rfl)
theorem d_prog_7_method_1_code_29 : decode prog_7_method_1_code 29 = .ok (.return_, 1) := by decide +kernel
set_option maxRecDepth 65536 in
set_option maxHeartbeats 40000000 in
theorem rm_ren {l : Launch} {Z : State} {a0 : Array Value} (G : Cl Z a0) (a : Addr) (c : Cell) (nv dv : Value) (hnv : nv.isRef = true) (Sn : Sta Z Z.heap "com/example/maswali/maswali/BindValues" "NONE" "[Ljava/lang/Object;" nv) (hdv : dv.isRef = true) (hO : ObjC Z c "com/example/maswali/maswali/Renderer") (h1 : FldC Z c "com/example/maswali/maswali/Renderer" "pieces" "[Ljava/lang/String;" .null) (h2 : FldC Z c "com/example/maswali/maswali/Renderer" "pieceCount" "I" (.int 0)) (h3 : FldC Z c "com/example/maswali/maswali/Renderer" "dialect" "Lcom/example/maswali/maswali/Dialect;" .null) (h4 : FldC Z c "com/example/maswali/maswali/Renderer" "bindValues" "Lcom/example/maswali/maswali/BindValues;" .null) :
    Met l Z EL1 (⟨"com/example/maswali/maswali/Renderer", "<init>", "(Lcom/example/maswali/maswali/Dialect;)V"⟩ : MethodName) prog_7_method_1_code 2 none ({ frames := 2, cells := 2, slots := 66, locals := 26 } : Room) #[.ref a, dv] [(a, c)] [] (fun v σ ρ => ∃ c' p cp, v = none ∧ σ = [(a, c'), (p, cp)] ∧ ρ = [] ∧ RenC Z c' (.ref p) (.int 0) ∧ ArrC Z cp (.object "java/lang/String") (List.replicate 64 .null) ∧ Ovr Z cp.cls "java/lang/String") := by
  refine Met.walk G.2.1 pn_12 #[.val (.ref a), .val (dv)] (fun m => by rcases ref_cases hdv with rfl | ⟨_, rfl⟩ <;> first | (simp [entryFrame, mkF, argsToLocals, Value.category]; done) | rfl) ?_
  intro X T0 W0
  refine Go.aloadN (pc' := 1) W0 d_prog_7_method_1_code_0 rfl rfl rfl ?_
  refine Go.objInit (pc' := 4) W0 (w_44 G) (w_16 G) (w_17 G) rfl d_prog_7_method_1_code_1 rfl (by first | exact Nat.le_of_ble_eq_true rfl | (simp; done) | (simp; omega) | omega) (by first | exact Nat.le_of_ble_eq_true rfl | (simp; done) | (simp; omega) | omega) (fun T1 W2 => ?_)
  refine Go.aloadN (pc' := 5) W2 d_prog_7_method_1_code_4 rfl rfl rfl ?_
  refine Go.bipush (pc' := 7) W2 (64 : Int32) d_prog_7_method_1_code_5 (by decide) rfl ?_
  refine Go.anewarr (pc' := 10) W2 64 (w_45 G) (w_34 G) d_prog_7_method_1_code_7 rfl (by decide) (by decide) (by decide) (by first | exact Nat.le_of_ble_eq_true rfl | (simp; done) | (simp; omega) | omega) (by first | exact Nat.le_of_ble_eq_true rfl | (simp; done) | (simp; omega) | omega) (fun T3 a5 c6 W4 A7 O8 => ?_)
  replace W4 : Wk l Z EL1 ({ frames := 2, cells := 2, slots := 66, locals := 26 } : Room) "com/example/maswali/maswali/Renderer" prog_7_method_1_code 2 none "<init>" X [(a5, c6), (a, c)] [] T3 1 (64) := W4
  refine Go.putfield (pc' := 13) W4 1 rfl (w_46 G) Via.refl h1 hO (Or.inl (w_47 G)) (w_36 G) (ty := (.array (.object "java/lang/String"))) (v' := .ref a5) (by decide) rfl rfl d_prog_7_method_1_code_10 rfl (fun T9 c11 q12 W10 => ?_)
  replace W10 : Wk l Z EL1 ({ frames := 2, cells := 2, slots := 66, locals := 26 } : Room) "com/example/maswali/maswali/Renderer" prog_7_method_1_code 2 none "<init>" X [(a5, c6), (a, c11)] [] T9 1 (64) := W10
  have O13 := hO.put' q12
  have F14 := h1.put' q12
  have F15 := h2.keep' q12 (slot_ne (Or.inl (w_69 G)) (Or.inl (w_47 G)) (by decide) (t := .int) (t' := (.array (.object "java/lang/String"))) (by decide) (by decide))
  have F16 := h3.keep' q12 (slot_ne (Or.inr (w_62 G)) (Or.inl (w_47 G)) (by decide) (t := (.object "com/example/maswali/maswali/Dialect")) (t' := (.array (.object "java/lang/String"))) (by decide) (by decide))
  have F17 := h4.keep' q12 (slot_ne (Or.inr (w_60 G)) (Or.inl (w_47 G)) (by decide) (t := (.object "com/example/maswali/maswali/BindValues")) (t' := (.array (.object "java/lang/String"))) (by decide) (by decide))
  refine Go.aloadN (pc' := 14) W10 d_prog_7_method_1_code_13 rfl rfl rfl ?_
  refine Go.new (pc' := 17) W10 (w_48 G) (w_49 G) (w_50 G) d_prog_7_method_1_code_14 rfl (by first | exact Nat.le_of_ble_eq_true rfl | (simp; done) | (simp; omega) | omega) (by first | exact Nat.le_of_ble_eq_true rfl | (simp; done) | (simp; omega) | omega) (fun T18 a20 c21 W19 O22 D23 => ?_)
  replace W19 : Wk l Z EL1 ({ frames := 2, cells := 2, slots := 66, locals := 26 } : Room) "com/example/maswali/maswali/Renderer" prog_7_method_1_code 2 none "<init>" X [(a20, c21), (a5, c6), (a, c11)] [] T18 2 (66) := W19
  have F24 : FldC Z c21 "com/example/maswali/maswali/BindValues" "values" "[Ljava/lang/Object;" (.null) := D23 (Or.inl (w_58 G)) (ty := (.array (.object "java/lang/Object"))) (by decide)
  refine Go.dup (pc' := 18) W19 d_prog_7_method_1_code_17 rfl rfl ?_
  refine Go.special (pc' := 21) W19 (a := a20) (rm_bv G a20 c21 nv hnv Sn O22 F24) rfl (w_51 G) (w_52 G) (w_50 G) (w_53 G) (by decide) [0] [] (σf := [(a5, c6), (a, c11)]) rfl rfl [] [(.ref a20), (.ref a)] rfl (lenOf pd_13 rfl) rfl rfl d_prog_7_method_1_code_18 rfl (by first | exact Nat.le_of_ble_eq_true rfl | (simp; done) | (simp; omega) | omega) (by first | exact Nat.le_of_ble_eq_true rfl | (simp; done) | (simp; omega) | omega) (by first | exact Nat.le_of_ble_eq_true rfl | (simp; done) | (simp; omega) | omega) (by first | exact Nat.le_of_ble_eq_true rfl | (simp; done) | (simp; omega) | omega) ?_
  rintro _ _ _ T25 ⟨rfl, rfl, rfl⟩ W26
  replace W26 : Wk l Z EL1 ({ frames := 2, cells := 2, slots := 66, locals := 26 } : Room) "com/example/maswali/maswali/Renderer" prog_7_method_1_code 2 none "<init>" X [(a5, c6), (a, c11)] [] T25 2 (66) := W26
  show Go Z EL1 _ _ _ X T25 21 #[.val (.ref a), .val (dv)] [(.ref a20), (.ref a)]
  refine Go.putfield (pc' := 24) W26 1 rfl (w_59 G) Via.refl F17 O13 (Or.inr ⟨(w_60 G), rfl, rfl⟩) (w_36 G) (ty := (.object "com/example/maswali/maswali/BindValues")) (v' := .ref a20) (by decide) rfl rfl d_prog_7_method_1_code_21 rfl (fun T27 c29 q30 W28 => ?_)
  replace W28 : Wk l Z EL1 ({ frames := 2, cells := 2, slots := 66, locals := 26 } : Room) "com/example/maswali/maswali/Renderer" prog_7_method_1_code 2 none "<init>" X [(a5, c6), (a, c29)] [] T27 2 (66) := W28
  have O31 := O13.put' q30
  have F32 := F14.keep' q30 (slot_ne (Or.inl (w_47 G)) (Or.inr (w_60 G)) (by decide) (t := (.array (.object "java/lang/String"))) (t' := (.object "com/example/maswali/maswali/BindValues")) (by decide) (by decide))
  have F33 := F15.keep' q30 (slot_ne (Or.inl (w_69 G)) (Or.inr (w_60 G)) (by decide) (t := .int) (t' := (.object "com/example/maswali/maswali/BindValues")) (by decide) (by decide))
  have F34 := F16.keep' q30 (slot_ne (Or.inr (w_62 G)) (Or.inr (w_60 G)) (by decide) (t := (.object "com/example/maswali/maswali/Dialect")) (t' := (.object "com/example/maswali/maswali/BindValues")) (by decide) (by decide))
  have F35 := F17.put' q30
  refine Go.aloadN (pc' := 25) W28 d_prog_7_method_1_code_24 rfl rfl rfl ?_
  refine Go.aloadN (pc' := 26) W28 d_prog_7_method_1_code_25 rfl hdv rfl ?_
  refine Go.putfield (pc' := 29) W28 1 rfl (w_61 G) Via.refl F34 O31 (Or.inr ⟨(w_62 G), rfl, rfl⟩) (w_36 G) (ty := (.object "com/example/maswali/maswali/Dialect")) (v' := dv) (by decide) (narrow_ref rfl _) (fits_isref rfl hdv) d_prog_7_method_1_code_26 rfl (fun T36 c38 q39 W37 => ?_)
  replace W37 : Wk l Z EL1 ({ frames := 2, cells := 2, slots := 66, locals := 26 } : Room) "com/example/maswali/maswali/Renderer" prog_7_method_1_code 2 none "<init>" X [(a5, c6), (a, c38)] [] T36 2 (66) := W37
  have O40 := O31.put' q39
  have F41 := F32.keep' q39 (slot_ne (Or.inl (w_47 G)) (Or.inr (w_62 G)) (by decide) (t := (.array (.object "java/lang/String"))) (t' := (.object "com/example/maswali/maswali/Dialect")) (by decide) (by decide))
  have F42 := F33.keep' q39 (slot_ne (Or.inl (w_69 G)) (Or.inr (w_62 G)) (by decide) (t := .int) (t' := (.object "com/example/maswali/maswali/Dialect")) (by decide) (by decide))
  have F43 := F34.put' q39
  have F44 := F35.keep' q39 (slot_ne (Or.inr (w_60 G)) (Or.inr (w_62 G)) (by decide) (t := (.object "com/example/maswali/maswali/BindValues")) (t' := (.object "com/example/maswali/maswali/Dialect")) (by decide) (by decide))
  have W45 := W37.perm (pick_perm [1, 0] _ [(a, c38), (a5, c6)] [] rfl)
  replace W45 : Wk l Z EL1 ({ frames := 2, cells := 2, slots := 66, locals := 26 } : Room) "com/example/maswali/maswali/Renderer" prog_7_method_1_code 2 none "<init>" X [(a, c38), (a5, c6)] [] T36 2 (66) := W45
  refine Go.retV W45 d_prog_7_method_1_code_29 (by first | exact Nat.le_of_ble_eq_true rfl | (simp; done) | (simp; omega) | omega) (by first | exact Nat.le_of_ble_eq_true rfl | (simp; done) | (simp; omega) | omega) ?_
  exact ⟨_, a5, c6, rfl, rfl, rfl, ⟨O40, F41, F42⟩, A7, O8⟩
theorem d_prog_7_method_3_code_0 : decode prog_7_method_3_code 0 = .ok (.aload_n 0, 1) := by decide +kernel
theorem d_prog_7_method_3_code_1 : decode prog_7_method_3_code 1 = .ok (.getfield 26, 3) := by decide +kernel
theorem w_68 {Z : State} {a0 : Array Value} (G : Cl Z a0) : (Jvm.Cond.fieldLink "com/example/maswali/maswali/Renderer" 26 "com/example/maswali/maswali/Renderer" "pieceCount" "I").before a0 Z = true := G.1 _ (List.mem_of_getElem? (l := tables_1) (i := 68) rfl)
theorem d_prog_7_method_3_code_4 : decode prog_7_method_3_code 4 = .ok (.aload_n 0, 1) := by decide +kernel
theorem d_prog_7_method_3_code_5 : decode prog_7_method_3_code 5 = .ok (.getfield 9, 3) := by decide +kernel
theorem d_prog_7_method_3_code_8 : decode prog_7_method_3_code 8 = .ok (.arraylength, 1) := by decide +kernel
theorem d_prog_7_method_3_code_9 : decode prog_7_method_3_code 9 = .ok (.if_icmp .ne 7, 3) := by decide +kernel
theorem d_prog_7_method_3_code_16 : decode prog_7_method_3_code 16 = .ok (.aload_n 0, 1) := by decide +kernel
theorem d_prog_7_method_3_code_17 : decode prog_7_method_3_code 17 = .ok (.getfield 9, 3) := by decide +kernel
theorem d_prog_7_method_3_code_20 : decode prog_7_method_3_code 20 = .ok (.aload_n 0, 1) := by decide +kernel
theorem d_prog_7_method_3_code_21 : decode prog_7_method_3_code 21 = .ok (.dup, 1) := by decide +kernel
theorem d_prog_7_method_3_code_22 : decode prog_7_method_3_code 22 = .ok (.getfield 26, 3) := by decide +kernel
theorem d_prog_7_method_3_code_25 : decode prog_7_method_3_code 25 = .ok (.dup_x1, 1) := by decide +kernel
theorem d_prog_7_method_3_code_26 : decode prog_7_method_3_code 26 = .ok (.iconst 1, 1) := by decide +kernel
theorem d_prog_7_method_3_code_27 : decode prog_7_method_3_code 27 = .ok (.iadd, 1) := by decide +kernel
theorem d_prog_7_method_3_code_28 : decode prog_7_method_3_code 28 = .ok (.putfield 26, 3) := by decide +kernel
theorem d_prog_7_method_3_code_31 : decode prog_7_method_3_code 31 = .ok (.aload_n 1, 1) := by decide +kernel
theorem d_prog_7_method_3_code_32 : decode prog_7_method_3_code 32 = .ok (.aastore, 1) := by decide +kernel
theorem d_prog_7_method_3_code_33 : decode prog_7_method_3_code 33 = .ok (.return_, 1) := by decide +kernel
set_option maxRecDepth 65536 in
set_option maxHeartbeats 40000000 in
theorem rm_app {l : Launch} {Z : State} {a0 : Array Value} (G : Cl Z a0) (a p y by_ : Addr) (c cp cy cby : Cell) (n : Nat) (vs : List Value) (xs : List Int32) (hn : n < 64) (hv : vs.length = 64) (Sy : StrL Z cy by_ cby xs) (M : RenC Z c (.ref p) (.int n.toInt32)) (A : ArrC Z cp (.object "java/lang/String") vs) (O : Ovr Z cp.cls "java/lang/String") :
    Met l Z EL1 (⟨"com/example/maswali/maswali/Renderer", "append", "(Ljava/lang/String;)V"⟩ : MethodName) prog_7_method_3_code 2 none ({ frames := 0, cells := 0, slots := 0, locals := 0 } : Room) #[.ref a, .ref y] [(a, c), (p, cp)] [(y, cy)] (fun v σ ρ => ∃ c' cp', v = none ∧ σ = [(a, c'), (p, cp')] ∧ ρ = [] ∧ RenC Z c' (.ref p) (.int (n + 1).toInt32) ∧ ArrC Z cp' (.object "java/lang/String") (vs.set n (.ref y)) ∧ Ovr Z cp'.cls "java/lang/String") := by
  refine Met.walk G.2.1 pn_12 #[.val (.ref a), .val (.ref y)] (fun m => by first | (simp [entryFrame, mkF, argsToLocals, Value.category]; done) | rfl) ?_
  intro X T0 W0
  refine Go.aloadN (pc' := 1) W0 d_prog_7_method_3_code_0 rfl rfl rfl ?_
  refine Go.getfield (pc' := 4) W0 (Or.inl (List.mem_of_getElem? (i := 0) rfl)) (w_68 G) Via.refl M.2.2 d_prog_7_method_3_code_1 rfl (fun T1 W2 => ?_)
  refine Go.aloadN (pc' := 5) W2 d_prog_7_method_3_code_4 rfl rfl rfl ?_
  refine Go.getfield (pc' := 8) W2 (Or.inl (List.mem_of_getElem? (i := 0) rfl)) (w_46 G) Via.refl M.2.1 d_prog_7_method_3_code_5 rfl (fun T3 W4 => ?_)
  refine Go.arrlen (pc' := 9) W4 (Or.inl (List.mem_of_getElem? (i := 1) rfl)) A (64 : Int32) (by rw [hv]; rfl) d_prog_7_method_3_code_8 rfl ?_
  refine Go.icmp_ne (pc' := 12) W4 16 d_prog_7_method_3_code_9 (by decide) rfl (fun _ => ?_) (fun q => absurd q (fun h => by have := (i32_inj (n := 64) (by omega) (by decide)).mp h; omega))
  refine Go.aloadN (pc' := 17) W4 d_prog_7_method_3_code_16 rfl rfl rfl ?_
  refine Go.getfield (pc' := 20) W4 (Or.inl (List.mem_of_getElem? (i := 0) rfl)) (w_46 G) Via.refl M.2.1 d_prog_7_method_3_code_17 rfl (fun T5 W6 => ?_)
  refine Go.aloadN (pc' := 21) W6 d_prog_7_method_3_code_20 rfl rfl rfl ?_
  refine Go.dup (pc' := 22) W6 d_prog_7_method_3_code_21 rfl rfl ?_
  refine Go.getfield (pc' := 25) W6 (Or.inl (List.mem_of_getElem? (i := 0) rfl)) (w_68 G) Via.refl M.2.2 d_prog_7_method_3_code_22 rfl (fun T7 W8 => ?_)
  refine Go.dupX1 (pc' := 26) W8 d_prog_7_method_3_code_25 rfl rfl rfl ?_
  refine Go.iconst (pc' := 27) W8 (1 : Int32) d_prog_7_method_3_code_26 (by decide) rfl ?_
  refine Go.iadd (pc' := 28) W8 d_prog_7_method_3_code_27 rfl ?_
  refine Go.putfield (pc' := 31) W8 0 rfl (w_68 G) Via.refl M.2.2 M.1 (Or.inl (w_69 G)) (w_36 G) (ty := .int) (v' := .int (n.toInt32 + (1 : Int32))) (by decide) rfl rfl d_prog_7_method_3_code_28 rfl (fun T9 c11 q12 W10 => ?_)
  replace W10 : Wk l Z EL1 ({ frames := 0, cells := 0, slots := 0, locals := 0 } : Room) "com/example/maswali/maswali/Renderer" prog_7_method_3_code 2 none "append" X [(a, c11), (p, cp)] [(y, cy)] T9 0 (0) := W10
  have O13 := M.1.put' q12
  have F14 := M.2.1.keep' q12 (slot_ne (Or.inl (w_47 G)) (Or.inl (w_69 G)) (by decide) (t := (.array (.object "java/lang/String"))) (t' := .int) (by decide) (by decide))
  have F15 := M.2.2.put' q12
  refine Go.aloadN (pc' := 32) W10 d_prog_7_method_3_code_31 rfl rfl rfl ?_
  refine Go.aastoreObj (pc' := 33) W10 1 rfl A O (Or.inr (Or.inl (List.mem_of_getElem? (i := 0) rfl))) Sy.1 n (i32_nn (by omega)) (i32_clamp (by omega)) (by omega) d_prog_7_method_3_code_32 rfl (fun T16 c18 W17 A19 O20 => ?_)
  replace W17 : Wk l Z EL1 ({ frames := 0, cells := 0, slots := 0, locals := 0 } : Room) "com/example/maswali/maswali/Renderer" prog_7_method_3_code 2 none "append" X [(a, c11), (p, c18)] [(y, cy)] T16 0 (0) := W17
  have W21 := W17.perm (pick_perm [0, 0] _ [(a, c11), (p, c18)] [] rfl)
  replace W21 : Wk l Z EL1 ({ frames := 0, cells := 0, slots := 0, locals := 0 } : Room) "com/example/maswali/maswali/Renderer" prog_7_method_3_code 2 none "append" X [(a, c11), (p, c18)] [(y, cy)] T16 0 (0) := W21
  have W22 := W21.keepRo [] (ρ' := []) rfl
  replace W22 : Wk l Z EL1 ({ frames := 0, cells := 0, slots := 0, locals := 0 } : Room) "com/example/maswali/maswali/Renderer" prog_7_method_3_code 2 none "append" X [(a, c11), (p, c18)] [] T16 0 (0) := W22
  refine Go.retV W22 d_prog_7_method_3_code_33 (by first | exact Nat.le_of_ble_eq_true rfl | (simp; done) | (simp; omega) | omega) (by first | exact Nat.le_of_ble_eq_true rfl | (simp; done) | (simp; omega) | omega) ?_
  exact ⟨_, _, rfl, rfl, rfl, ⟨O13, F14, by have q := F15; rwa [i32_succ (by omega)] at q⟩, A19, O20⟩
theorem d_prog_7_method_15_code_0 : decode prog_7_method_15_code 0 = .ok (.aload_n 1, 1) := by decide +kernel
theorem d_prog_7_method_15_code_1 : decode prog_7_method_15_code 1 = .ok (.arraylength, 1) := by decide +kernel
theorem d_prog_7_method_15_code_2 : decode prog_7_method_15_code 2 = .ok (.aload_n 0, 1) := by decide +kernel
theorem d_prog_7_method_15_code_3 : decode prog_7_method_15_code 3 = .ok (.getfield 26, 3) := by decide +kernel
theorem d_prog_7_method_15_code_6 : decode prog_7_method_15_code 6 = .ok (.if_icmp .eq 5, 3) := by decide +kernel
theorem d_prog_7_method_15_code_9 : decode prog_7_method_15_code 9 = .ok (.iconst 0, 1) := by decide +kernel
theorem d_prog_7_method_15_code_10 : decode prog_7_method_15_code 10 = .ok (.ireturn, 1) := by decide +kernel
set_option maxRecDepth 65536 in
set_option maxHeartbeats 40000000 in
theorem rm_winN {l : Launch} {Z : State} {a0 : Array Value} (G : Cl Z a0) (a o : Addr) (c co : Cell) (k m : Int32) (vs : List Value) (pv : Value) (hm : vs.length.toInt32 = m) (hne : ¬ m = k) (M : RenC Z c pv (.int k)) (A : ArrC Z co (.object "java/lang/String") vs) :
    Met l Z EL1 (⟨"com/example/maswali/maswali/Renderer", "writtenIn", "([Ljava/lang/String;)Z"⟩ : MethodName) prog_7_method_15_code 3 (some .boolean) ({ frames := 0, cells := 0, slots := 0, locals := 0 } : Room) #[.ref a, .ref o] [(a, c), (o, co)] [] (fun v σ ρ => v = some (.int 0) ∧ σ = [(a, c), (o, co)] ∧ ρ = []) := by
  refine Met.walk G.2.1 pn_12 #[.val (.ref a), .val (.ref o), .unset] (fun m => by first | (simp [entryFrame, mkF, argsToLocals, Value.category]; done) | rfl) ?_
  intro X T0 W0
  refine Go.aloadN (pc' := 1) W0 d_prog_7_method_15_code_0 rfl rfl rfl ?_
  refine Go.arrlen (pc' := 2) W0 (Or.inl (List.mem_of_getElem? (i := 1) rfl)) A m hm d_prog_7_method_15_code_1 rfl ?_
  refine Go.aloadN (pc' := 3) W0 d_prog_7_method_15_code_2 rfl rfl rfl ?_
  refine Go.getfield (pc' := 6) W0 (Or.inl (List.mem_of_getElem? (i := 0) rfl)) (w_68 G) Via.refl M.2.2 d_prog_7_method_15_code_3 rfl (fun T1 W2 => ?_)
  refine Go.icmp_eq (pc' := 9) W2 11 d_prog_7_method_15_code_6 (by decide) rfl (fun q => absurd q hne) (fun _ => ?_)
  refine Go.iconst (pc' := 10) W2 (0 : Int32) d_prog_7_method_15_code_9 (by decide) rfl ?_
  refine Go.nret (z' := (0 : Int32)) W2 (by simp) (by decide) d_prog_7_method_15_code_10 (by first | exact Nat.le_of_ble_eq_true rfl | (simp; done) | (simp; omega) | omega) (by first | exact Nat.le_of_ble_eq_true rfl | (simp; done) | (simp; omega) | omega) ?_
  exact ⟨rfl, rfl, rfl⟩
theorem d_prog_7_method_15_code_11 : decode prog_7_method_15_code 11 = .ok (.iconst 0, 1) := by decide +kernel
theorem d_prog_7_method_15_code_12 : decode prog_7_method_15_code 12 = .ok (.istore_n 2, 1) := by decide +kernel
theorem d_prog_7_method_15_code_13 : decode prog_7_method_15_code 13 = .ok (.iload_n 2, 1) := by decide +kernel
theorem d_prog_7_method_15_code_14 : decode prog_7_method_15_code 14 = .ok (.aload_n 0, 1) := by decide +kernel
theorem d_prog_7_method_15_code_15 : decode prog_7_method_15_code 15 = .ok (.getfield 26, 3) := by decide +kernel
theorem d_prog_7_method_15_code_18 : decode prog_7_method_15_code 18 = .ok (.if_icmp .ge 38, 3) := by decide +kernel
theorem d_prog_7_method_15_code_56 : decode prog_7_method_15_code 56 = .ok (.iconst 1, 1) := by decide +kernel
theorem d_prog_7_method_15_code_57 : decode prog_7_method_15_code 57 = .ok (.ireturn, 1) := by decide +kernel
set_option maxRecDepth 65536 in
set_option maxHeartbeats 40000000 in
theorem rm_win0 {l : Launch} {Z : State} {a0 : Array Value} (G : Cl Z a0) (a p o : Addr) (c cp co : Cell) (vs : List Value) (M : RenC Z c (.ref p) (.int 0)) (A : ArrC Z cp (.object "java/lang/String") vs) (B : ArrC Z co (.object "java/lang/String") []) :
    Met l Z EL1 (⟨"com/example/maswali/maswali/Renderer", "writtenIn", "([Ljava/lang/String;)Z"⟩ : MethodName) prog_7_method_15_code 3 (some .boolean) ({ frames := 2, cells := 0, slots := 0, locals := 28 } : Room) #[.ref a, .ref o] [(a, c), (p, cp), (o, co)] [] (fun v σ ρ => v = some (.int (if True then 1 else 0)) ∧ σ = [(a, c), (p, cp), (o, co)] ∧ ρ = []) := by
  refine Met.walk G.2.1 pn_12 #[.val (.ref a), .val (.ref o), .unset] (fun m => by first | (simp [entryFrame, mkF, argsToLocals, Value.category]; done) | rfl) ?_
  intro X T0 W0
  refine Go.aloadN (pc' := 1) W0 d_prog_7_method_15_code_0 rfl rfl rfl ?_
  refine Go.arrlen (pc' := 2) W0 (Or.inl (List.mem_of_getElem? (i := 2) rfl)) B (0 : Int32) rfl d_prog_7_method_15_code_1 rfl ?_
  refine Go.aloadN (pc' := 3) W0 d_prog_7_method_15_code_2 rfl rfl rfl ?_
  refine Go.getfield (pc' := 6) W0 (Or.inl (List.mem_of_getElem? (i := 0) rfl)) (w_68 G) Via.refl M.2.2 d_prog_7_method_15_code_3 rfl (fun T1 W2 => ?_)
  refine Go.icmp_eq (pc' := 9) W2 11 d_prog_7_method_15_code_6 (by decide) rfl (fun _ => ?_) (fun q => absurd (by decide) q)
  refine Go.iconst (pc' := 12) W2 (0 : Int32) d_prog_7_method_15_code_11 (by decide) rfl ?_
  refine Go.istoreN (pc' := 13) W2 #[.val (.ref a), .val (.ref o), .val (.int (0 : Int32))] d_prog_7_method_15_code_12 rfl rfl ?_
  refine Go.iloadN (pc' := 14) W2 d_prog_7_method_15_code_13 rfl rfl ?_
  refine Go.aloadN (pc' := 15) W2 d_prog_7_method_15_code_14 rfl rfl rfl ?_
  refine Go.getfield (pc' := 18) W2 (Or.inl (List.mem_of_getElem? (i := 0) rfl)) (w_68 G) Via.refl M.2.2 d_prog_7_method_15_code_15 rfl (fun T3 W4 => ?_)
  refine Go.icmp_ge (pc' := 21) W4 56 d_prog_7_method_15_code_18 (by decide) rfl (fun _ => ?_) (fun q => absurd q (by decide))
  refine Go.iconst (pc' := 57) W4 (1 : Int32) d_prog_7_method_15_code_56 (by decide) rfl ?_
  have W5 := W4.perm (pick_perm [0, 0, 0] _ [(a, c), (p, cp), (o, co)] [] rfl)
  replace W5 : Wk l Z EL1 ({ frames := 2, cells := 0, slots := 0, locals := 28 } : Room) "com/example/maswali/maswali/Renderer" prog_7_method_15_code 3 (some .boolean) "writtenIn" X [(a, c), (p, cp), (o, co)] [] T3 0 (0) := W5
  have W6 := W5.keepRo [] (ρ' := []) rfl
  replace W6 : Wk l Z EL1 ({ frames := 2, cells := 0, slots := 0, locals := 28 } : Room) "com/example/maswali/maswali/Renderer" prog_7_method_15_code 3 (some .boolean) "writtenIn" X [(a, c), (p, cp), (o, co)] [] T3 0 (0) := W6
  refine Go.nret (z' := (1 : Int32)) W6 (by simp) (by decide) d_prog_7_method_15_code_57 (by first | exact Nat.le_of_ble_eq_true rfl | (simp; done) | (simp; omega) | omega) (by first | exact Nat.le_of_ble_eq_true rfl | (simp; done) | (simp; omega) | omega) ?_
  exact ⟨by simp_all, rfl, rfl⟩
theorem d_prog_7_method_15_code_21 : decode prog_7_method_15_code 21 = .ok (.aload_n 0, 1) := by decide +kernel
theorem d_prog_7_method_15_code_22 : decode prog_7_method_15_code 22 = .ok (.getfield 9, 3) := by decide +kernel
theorem d_prog_7_method_15_code_25 : decode prog_7_method_15_code 25 = .ok (.iload_n 2, 1) := by decide +kernel
theorem d_prog_7_method_15_code_26 : decode prog_7_method_15_code 26 = .ok (.aaload, 1) := by decide +kernel
theorem d_prog_7_method_15_code_27 : decode prog_7_method_15_code 27 = .ok (.aload_n 1, 1) := by decide +kernel
theorem d_prog_7_method_15_code_28 : decode prog_7_method_15_code 28 = .ok (.iload_n 2, 1) := by decide +kernel
theorem d_prog_7_method_15_code_29 : decode prog_7_method_15_code 29 = .ok (.aaload, 1) := by decide +kernel
theorem d_prog_7_method_15_code_30 : decode prog_7_method_15_code 30 = .ok (.if_acmp .eq 20, 3) := by decide +kernel
theorem d_prog_7_method_15_code_50 : decode prog_7_method_15_code 50 = .ok (.iinc 2 1, 3) := by decide +kernel
theorem d_prog_7_method_15_code_53 : decode prog_7_method_15_code 53 = .ok (.goto (-40), 3) := by decide +kernel
theorem d_prog_7_method_15_code_33 : decode prog_7_method_15_code 33 = .ok (.aload_n 0, 1) := by decide +kernel
theorem d_prog_7_method_15_code_34 : decode prog_7_method_15_code 34 = .ok (.getfield 9, 3) := by decide +kernel
theorem d_prog_7_method_15_code_37 : decode prog_7_method_15_code 37 = .ok (.iload_n 2, 1) := by decide +kernel
theorem d_prog_7_method_15_code_38 : decode prog_7_method_15_code 38 = .ok (.aaload, 1) := by decide +kernel
theorem d_prog_7_method_15_code_39 : decode prog_7_method_15_code 39 = .ok (.aload_n 1, 1) := by decide +kernel
theorem d_prog_7_method_15_code_40 : decode prog_7_method_15_code 40 = .ok (.iload_n 2, 1) := by decide +kernel
theorem d_prog_7_method_15_code_41 : decode prog_7_method_15_code 41 = .ok (.aaload, 1) := by decide +kernel
theorem d_prog_7_method_15_code_42 : decode prog_7_method_15_code 42 = .ok (.invokevirtual 109, 3) := by decide +kernel
theorem w_81 {Z : State} {a0 : Array Value} (G : Cl Z a0) : (Jvm.Cond.methodLink "com/example/maswali/maswali/Renderer" 109 (⟨"java/lang/String", "equals", "(Ljava/lang/Object;)Z"⟩ : MethodName)).before a0 Z = true := G.1 _ (List.mem_of_getElem? (l := tables_1) (i := 81) rfl)
theorem w_85 {Z : State} {a0 : Array Value} (G : Cl Z a0) : (Jvm.Cond.code (⟨"java/lang/String", "equals", "(Ljava/lang/Object;)Z"⟩ : MethodName) jdk_42_method_66_code 3 (some .boolean)).before a0 Z = true := G.1 _ (List.mem_of_getElem? (l := tables_1) (i := 85) rfl)
theorem pd_14 : parseMethodDescriptor "(Ljava/lang/Object;)Z" = some ⟨[(.object "java/lang/Object")], some .boolean⟩ := by decide +kernel
theorem w_82 {Z : State} {a0 : Array Value} (G : Cl Z a0) : (Jvm.Cond.declares (⟨"java/lang/String", "equals", "(Ljava/lang/Object;)Z"⟩ : MethodName)).before a0 Z = true := G.1 _ (List.mem_of_getElem? (l := tables_1) (i := 82) rfl)
theorem w_84 {Z : State} {a0 : Array Value} (G : Cl Z a0) : (Jvm.Cond.selects "java/lang/String" (⟨"java/lang/String", "equals", "(Ljava/lang/Object;)Z"⟩ : MethodName) (⟨"java/lang/String", "equals", "(Ljava/lang/Object;)Z"⟩ : MethodName)).before a0 Z = true := G.1 _ (List.mem_of_getElem? (l := tables_1) (i := 84) rfl)
theorem w_83 {Z : State} {a0 : Array Value} (G : Cl Z a0) : (Jvm.Cond.instanceMethod (⟨"java/lang/String", "equals", "(Ljava/lang/Object;)Z"⟩ : MethodName)).before a0 Z = true := G.1 _ (List.mem_of_getElem? (l := tables_1) (i := 83) rfl)
theorem d_prog_7_method_15_code_45 : decode prog_7_method_15_code 45 = .ok (.ifCond .ne 5, 3) := by decide +kernel
theorem d_prog_7_method_15_code_48 : decode prog_7_method_15_code 48 = .ok (.iconst 0, 1) := by decide +kernel
theorem d_prog_7_method_15_code_49 : decode prog_7_method_15_code 49 = .ok (.ireturn, 1) := by decide +kernel
set_option maxRecDepth 65536 in
set_option maxHeartbeats 40000000 in
theorem rm_win1 {l : Launch} {Z : State} {a0 : Array Value} (G : Cl Z a0) (a p o : Addr) (c cp co : Cell) (vs : List Value) (y0 by0 u0 bu0 : Addr) (cy0 cby0 cu0 cbu0 : Cell) (xs0 us0 : List Int32) (Sy0 : StrL Z cy0 by0 cby0 xs0) (Su0 : StrL Z cu0 bu0 cbu0 us0) (hv0 : vs[0]? = some (.ref y0)) (M : RenC Z c (.ref p) (.int 1)) (A : ArrC Z cp (.object "java/lang/String") vs) (B : ArrC Z co (.object "java/lang/String") [.ref u0]) :
    Met l Z EL1 (⟨"com/example/maswali/maswali/Renderer", "writtenIn", "([Ljava/lang/String;)Z"⟩ : MethodName) prog_7_method_15_code 3 (some .boolean) ({ frames := 2, cells := 0, slots := 0, locals := 28 } : Room) #[.ref a, .ref o] [(a, c), (p, cp), (o, co)] [(y0, cy0), (by0, cby0), (u0, cu0), (bu0, cbu0)] (fun v σ ρ => v = some (.int (if xs0 = us0 then 1 else 0)) ∧ σ = [(a, c), (p, cp), (o, co)] ∧ ρ = []) := by
  refine Met.walk G.2.1 pn_12 #[.val (.ref a), .val (.ref o), .unset] (fun m => by first | (simp [entryFrame, mkF, argsToLocals, Value.category]; done) | rfl) ?_
  intro X T0 W0
  refine Go.aloadN (pc' := 1) W0 d_prog_7_method_15_code_0 rfl rfl rfl ?_
  refine Go.arrlen (pc' := 2) W0 (Or.inl (List.mem_of_getElem? (i := 2) rfl)) B (1 : Int32) rfl d_prog_7_method_15_code_1 rfl ?_
  refine Go.aloadN (pc' := 3) W0 d_prog_7_method_15_code_2 rfl rfl rfl ?_
  refine Go.getfield (pc' := 6) W0 (Or.inl (List.mem_of_getElem? (i := 0) rfl)) (w_68 G) Via.refl M.2.2 d_prog_7_method_15_code_3 rfl (fun T1 W2 => ?_)
  refine Go.icmp_eq (pc' := 9) W2 11 d_prog_7_method_15_code_6 (by decide) rfl (fun _ => ?_) (fun q => absurd (by decide) q)
  refine Go.iconst (pc' := 12) W2 (0 : Int32) d_prog_7_method_15_code_11 (by decide) rfl ?_
  refine Go.istoreN (pc' := 13) W2 #[.val (.ref a), .val (.ref o), .val (.int (0 : Int32))] d_prog_7_method_15_code_12 rfl rfl ?_
  refine Go.iloadN (pc' := 14) W2 d_prog_7_method_15_code_13 rfl rfl ?_
  refine Go.aloadN (pc' := 15) W2 d_prog_7_method_15_code_14 rfl rfl rfl ?_
  refine Go.getfield (pc' := 18) W2 (Or.inl (List.mem_of_getElem? (i := 0) rfl)) (w_68 G) Via.refl M.2.2 d_prog_7_method_15_code_15 rfl (fun T3 W4 => ?_)
  refine Go.icmp_ge (pc' := 21) W4 56 d_prog_7_method_15_code_18 (by decide) rfl (fun q => absurd (by decide) q) (fun _ => ?_)
  refine Go.aloadN (pc' := 22) W4 d_prog_7_method_15_code_21 rfl rfl rfl ?_
  refine Go.getfield (pc' := 25) W4 (Or.inl (List.mem_of_getElem? (i := 0) rfl)) (w_46 G) Via.refl M.2.1 d_prog_7_method_15_code_22 rfl (fun T5 W6 => ?_)
  refine Go.iloadN (pc' := 26) W6 d_prog_7_method_15_code_25 rfl rfl ?_
  refine Go.aaload (pc' := 27) W6 (Or.inl (List.mem_of_getElem? (i := 1) rfl)) A rfl 0 (by decide) (by decide) hv0 d_prog_7_method_15_code_26 rfl ?_
  refine Go.aloadN (pc' := 28) W6 d_prog_7_method_15_code_27 rfl rfl rfl ?_
  refine Go.iloadN (pc' := 29) W6 d_prog_7_method_15_code_28 rfl rfl ?_
  refine Go.aaload (pc' := 30) W6 (Or.inl (List.mem_of_getElem? (i := 2) rfl)) B rfl 0 (by decide) (by decide) rfl d_prog_7_method_15_code_29 rfl ?_
  refine Go.acmp_eq (pc' := 33) W6 50 rfl rfl d_prog_7_method_15_code_30 (by decide) rfl (fun hq => ?_) (fun _ => ?_)
  · have c7 : xs0 = us0 := StrL.uniq Sy0 Su0 (W6.cell (q := (y0, cy0)) (Or.inr (Or.inl (List.mem_of_getElem? (i := 0) rfl)))) (by have e := Value.ref.inj hq; rw [e]; exact W6.cell (q := (u0, cu0)) (Or.inr (Or.inl (List.mem_of_getElem? (i := 2) rfl)))) (W6.cell (q := (by0, cby0)) (Or.inr (Or.inl (List.mem_of_getElem? (i := 1) rfl)))) (W6.cell (q := (bu0, cbu0)) (Or.inr (Or.inl (List.mem_of_getElem? (i := 3) rfl))))
    refine Go.iinc (pc' := 53) W6 (1 : Int32) #[.val (.ref a), .val (.ref o), .val (.int ((0 : Int32) + (1 : Int32)))] d_prog_7_method_15_code_50 rfl (by decide) rfl rfl ?_
    rw [show ((0 : Int32) + (1 : Int32) : Int32) = (1 : Int32) from by decide]
    refine Go.goto W6 13 d_prog_7_method_15_code_53 (by decide) ?_
    refine Go.iloadN (pc' := 14) W6 d_prog_7_method_15_code_13 rfl rfl ?_
    refine Go.aloadN (pc' := 15) W6 d_prog_7_method_15_code_14 rfl rfl rfl ?_
    refine Go.getfield (pc' := 18) W6 (Or.inl (List.mem_of_getElem? (i := 0) rfl)) (w_68 G) Via.refl M.2.2 d_prog_7_method_15_code_15 rfl (fun T8 W9 => ?_)
    refine Go.icmp_ge (pc' := 21) W9 56 d_prog_7_method_15_code_18 (by decide) rfl (fun _ => ?_) (fun q => absurd q (by decide))
    refine Go.iconst (pc' := 57) W9 (1 : Int32) d_prog_7_method_15_code_56 (by decide) rfl ?_
    have W10 := W9.perm (pick_perm [0, 0, 0] _ [(a, c), (p, cp), (o, co)] [] rfl)
    replace W10 : Wk l Z EL1 ({ frames := 2, cells := 0, slots := 0, locals := 28 } : Room) "com/example/maswali/maswali/Renderer" prog_7_method_15_code 3 (some .boolean) "writtenIn" X [(a, c), (p, cp), (o, co)] [(y0, cy0), (by0, cby0), (u0, cu0), (bu0, cbu0)] T8 0 (0) := W10
    have W11 := W10.keepRo [] (ρ' := []) rfl
    replace W11 : Wk l Z EL1 ({ frames := 2, cells := 0, slots := 0, locals := 28 } : Room) "com/example/maswali/maswali/Renderer" prog_7_method_15_code 3 (some .boolean) "writtenIn" X [(a, c), (p, cp), (o, co)] [] T8 0 (0) := W11
    refine Go.nret (z' := (1 : Int32)) W11 (by simp) (by decide) d_prog_7_method_15_code_57 (by first | exact Nat.le_of_ble_eq_true rfl | (simp; done) | (simp; omega) | omega) (by first | exact Nat.le_of_ble_eq_true rfl | (simp; done) | (simp; omega) | omega) ?_
    exact ⟨by simp_all, rfl, rfl⟩
  · refine Go.aloadN (pc' := 34) W6 d_prog_7_method_15_code_33 rfl rfl rfl ?_
    refine Go.getfield (pc' := 37) W6 (Or.inl (List.mem_of_getElem? (i := 0) rfl)) (w_46 G) Via.refl M.2.1 d_prog_7_method_15_code_34 rfl (fun T12 W13 => ?_)
    refine Go.iloadN (pc' := 38) W13 d_prog_7_method_15_code_37 rfl rfl ?_
    refine Go.aaload (pc' := 39) W13 (Or.inl (List.mem_of_getElem? (i := 1) rfl)) A rfl 0 (by decide) (by decide) hv0 d_prog_7_method_15_code_38 rfl ?_
    refine Go.aloadN (pc' := 40) W13 d_prog_7_method_15_code_39 rfl rfl rfl ?_
    refine Go.iloadN (pc' := 41) W13 d_prog_7_method_15_code_40 rfl rfl ?_
    refine Go.aaload (pc' := 42) W13 (Or.inl (List.mem_of_getElem? (i := 2) rfl)) B rfl 0 (by decide) (by decide) rfl d_prog_7_method_15_code_41 rfl ?_
    refine Go.virtual (pc' := 45) W13 (rm_eqs G y0 u0 by0 bu0 cy0 cu0 cby0 cbu0 _ _ Sy0 Su0) (Or.inr (Or.inl (List.mem_of_getElem? (i := 0) rfl))) Sy0.1 (w_81 G) (w_82 G) (w_84 G) (w_83 G) (w_6 G) (w_85 G) (by decide) [] [0, 1, 2, 3] (σf := [(a, c), (p, cp), (o, co)]) rfl rfl [(.ref u0)] [] rfl (lenOf pd_14 rfl) rfl rfl d_prog_7_method_15_code_42 rfl (by first | exact Nat.le_of_ble_eq_true rfl | (simp; done) | (simp; omega) | omega) (by first | exact Nat.le_of_ble_eq_true rfl | (simp; done) | (simp; omega) | omega) (by first | exact Nat.le_of_ble_eq_true rfl | (simp; done) | (simp; omega) | omega) (by first | exact Nat.le_of_ble_eq_true rfl | (simp; done) | (simp; omega) | omega) ?_
    rintro _ _ _ T14 ⟨rfl, rfl, rfl⟩ W15
    replace W15 : Wk l Z EL1 ({ frames := 2, cells := 0, slots := 0, locals := 28 } : Room) "com/example/maswali/maswali/Renderer" prog_7_method_15_code 3 (some .boolean) "writtenIn" X [(a, c), (p, cp), (o, co)] [(y0, cy0), (by0, cby0), (u0, cu0), (bu0, cbu0)] T14 0 (0) := W15
    show Go Z EL1 _ _ _ X T14 45 #[.val (.ref a), .val (.ref o), .val (.int (0 : Int32))] [(.int (if xs0 = us0 then 1 else 0))]
    refine Go.if_ne (pc' := 48) W15 50 d_prog_7_method_15_code_45 (by decide) rfl (fun (c16 : ¬ ((if xs0 = us0 then 1 else 0) = 0)) => ?_) (fun (c16 : (if xs0 = us0 then 1 else 0) = 0) => ?_)
    · refine Go.iinc (pc' := 53) W15 (1 : Int32) #[.val (.ref a), .val (.ref o), .val (.int ((0 : Int32) + (1 : Int32)))] d_prog_7_method_15_code_50 rfl (by decide) rfl rfl ?_
      rw [show ((0 : Int32) + (1 : Int32) : Int32) = (1 : Int32) from by decide]
      refine Go.goto W15 13 d_prog_7_method_15_code_53 (by decide) ?_
      refine Go.iloadN (pc' := 14) W15 d_prog_7_method_15_code_13 rfl rfl ?_
      refine Go.aloadN (pc' := 15) W15 d_prog_7_method_15_code_14 rfl rfl rfl ?_
      refine Go.getfield (pc' := 18) W15 (Or.inl (List.mem_of_getElem? (i := 0) rfl)) (w_68 G) Via.refl M.2.2 d_prog_7_method_15_code_15 rfl (fun T17 W18 => ?_)
      refine Go.icmp_ge (pc' := 21) W18 56 d_prog_7_method_15_code_18 (by decide) rfl (fun _ => ?_) (fun q => absurd q (by decide))
      refine Go.iconst (pc' := 57) W18 (1 : Int32) d_prog_7_method_15_code_56 (by decide) rfl ?_
      have W19 := W18.perm (pick_perm [0, 0, 0] _ [(a, c), (p, cp), (o, co)] [] rfl)
      replace W19 : Wk l Z EL1 ({ frames := 2, cells := 0, slots := 0, locals := 28 } : Room) "com/example/maswali/maswali/Renderer" prog_7_method_15_code 3 (some .boolean) "writtenIn" X [(a, c), (p, cp), (o, co)] [(y0, cy0), (by0, cby0), (u0, cu0), (bu0, cbu0)] T17 0 (0) := W19
      have W20 := W19.keepRo [] (ρ' := []) rfl
      replace W20 : Wk l Z EL1 ({ frames := 2, cells := 0, slots := 0, locals := 28 } : Room) "com/example/maswali/maswali/Renderer" prog_7_method_15_code 3 (some .boolean) "writtenIn" X [(a, c), (p, cp), (o, co)] [] T17 0 (0) := W20
      refine Go.nret (z' := (1 : Int32)) W20 (by simp) (by decide) d_prog_7_method_15_code_57 (by first | exact Nat.le_of_ble_eq_true rfl | (simp; done) | (simp; omega) | omega) (by first | exact Nat.le_of_ble_eq_true rfl | (simp; done) | (simp; omega) | omega) ?_
      exact ⟨by simp_all, rfl, rfl⟩
    · refine Go.iconst (pc' := 49) W15 (0 : Int32) d_prog_7_method_15_code_48 (by decide) rfl ?_
      have W21 := W15.perm (pick_perm [0, 0, 0] _ [(a, c), (p, cp), (o, co)] [] rfl)
      replace W21 : Wk l Z EL1 ({ frames := 2, cells := 0, slots := 0, locals := 28 } : Room) "com/example/maswali/maswali/Renderer" prog_7_method_15_code 3 (some .boolean) "writtenIn" X [(a, c), (p, cp), (o, co)] [(y0, cy0), (by0, cby0), (u0, cu0), (bu0, cbu0)] T14 0 (0) := W21
      have W22 := W21.keepRo [] (ρ' := []) rfl
      replace W22 : Wk l Z EL1 ({ frames := 2, cells := 0, slots := 0, locals := 28 } : Room) "com/example/maswali/maswali/Renderer" prog_7_method_15_code 3 (some .boolean) "writtenIn" X [(a, c), (p, cp), (o, co)] [] T14 0 (0) := W22
      refine Go.nret (z' := (0 : Int32)) W22 (by simp) (by decide) d_prog_7_method_15_code_49 (by first | exact Nat.le_of_ble_eq_true rfl | (simp; done) | (simp; omega) | omega) (by first | exact Nat.le_of_ble_eq_true rfl | (simp; done) | (simp; omega) | omega) ?_
      exact ⟨by simp_all, rfl, rfl⟩
set_option maxRecDepth 65536 in
set_option maxHeartbeats 40000000 in
theorem rm_win2 {l : Launch} {Z : State} {a0 : Array Value} (G : Cl Z a0) (a p o : Addr) (c cp co : Cell) (vs : List Value) (y0 by0 u0 bu0 : Addr) (cy0 cby0 cu0 cbu0 : Cell) (xs0 us0 : List Int32) (Sy0 : StrL Z cy0 by0 cby0 xs0) (Su0 : StrL Z cu0 bu0 cbu0 us0) (hv0 : vs[0]? = some (.ref y0)) (y1 by1 u1 bu1 : Addr) (cy1 cby1 cu1 cbu1 : Cell) (xs1 us1 : List Int32) (Sy1 : StrL Z cy1 by1 cby1 xs1) (Su1 : StrL Z cu1 bu1 cbu1 us1) (hv1 : vs[1]? = some (.ref y1)) (M : RenC Z c (.ref p) (.int 2)) (A : ArrC Z cp (.object "java/lang/String") vs) (B : ArrC Z co (.object "java/lang/String") [.ref u0, .ref u1]) :
    Met l Z EL1 (⟨"com/example/maswali/maswali/Renderer", "writtenIn", "([Ljava/lang/String;)Z"⟩ : MethodName) prog_7_method_15_code 3 (some .boolean) ({ frames := 2, cells := 0, slots := 0, locals := 28 } : Room) #[.ref a, .ref o] [(a, c), (p, cp), (o, co)] [(y0, cy0), (by0, cby0), (u0, cu0), (bu0, cbu0), (y1, cy1), (by1, cby1), (u1, cu1), (bu1, cbu1)] (fun v σ ρ => v = some (.int (if xs0 = us0 ∧ xs1 = us1 then 1 else 0)) ∧ σ = [(a, c), (p, cp), (o, co)] ∧ ρ = []) := by
  refine Met.walk G.2.1 pn_12 #[.val (.ref a), .val (.ref o), .unset] (fun m => by first | (simp [entryFrame, mkF, argsToLocals, Value.category]; done) | rfl) ?_
  intro X T0 W0
  refine Go.aloadN (pc' := 1) W0 d_prog_7_method_15_code_0 rfl rfl rfl ?_
  refine Go.arrlen (pc' := 2) W0 (Or.inl (List.mem_of_getElem? (i := 2) rfl)) B (2 : Int32) rfl d_prog_7_method_15_code_1 rfl ?_
  refine Go.aloadN (pc' := 3) W0 d_prog_7_method_15_code_2 rfl rfl rfl ?_
  refine Go.getfield (pc' := 6) W0 (Or.inl (List.mem_of_getElem? (i := 0) rfl)) (w_68 G) Via.refl M.2.2 d_prog_7_method_15_code_3 rfl (fun T1 W2 => ?_)
  refine Go.icmp_eq (pc' := 9) W2 11 d_prog_7_method_15_code_6 (by decide) rfl (fun _ => ?_) (fun q => absurd (by decide) q)
  refine Go.iconst (pc' := 12) W2 (0 : Int32) d_prog_7_method_15_code_11 (by decide) rfl ?_
  refine Go.istoreN (pc' := 13) W2 #[.val (.ref a), .val (.ref o), .val (.int (0 : Int32))] d_prog_7_method_15_code_12 rfl rfl ?_
  refine Go.iloadN (pc' := 14) W2 d_prog_7_method_15_code_13 rfl rfl ?_
  refine Go.aloadN (pc' := 15) W2 d_prog_7_method_15_code_14 rfl rfl rfl ?_
  refine Go.getfield (pc' := 18) W2 (Or.inl (List.mem_of_getElem? (i := 0) rfl)) (w_68 G) Via.refl M.2.2 d_prog_7_method_15_code_15 rfl (fun T3 W4 => ?_)
  refine Go.icmp_ge (pc' := 21) W4 56 d_prog_7_method_15_code_18 (by decide) rfl (fun q => absurd (by decide) q) (fun _ => ?_)
  refine Go.aloadN (pc' := 22) W4 d_prog_7_method_15_code_21 rfl rfl rfl ?_
  refine Go.getfield (pc' := 25) W4 (Or.inl (List.mem_of_getElem? (i := 0) rfl)) (w_46 G) Via.refl M.2.1 d_prog_7_method_15_code_22 rfl (fun T5 W6 => ?_)
  refine Go.iloadN (pc' := 26) W6 d_prog_7_method_15_code_25 rfl rfl ?_
  refine Go.aaload (pc' := 27) W6 (Or.inl (List.mem_of_getElem? (i := 1) rfl)) A rfl 0 (by decide) (by decide) hv0 d_prog_7_method_15_code_26 rfl ?_
  refine Go.aloadN (pc' := 28) W6 d_prog_7_method_15_code_27 rfl rfl rfl ?_
  refine Go.iloadN (pc' := 29) W6 d_prog_7_method_15_code_28 rfl rfl ?_
  refine Go.aaload (pc' := 30) W6 (Or.inl (List.mem_of_getElem? (i := 2) rfl)) B rfl 0 (by decide) (by decide) rfl d_prog_7_method_15_code_29 rfl ?_
  refine Go.acmp_eq (pc' := 33) W6 50 rfl rfl d_prog_7_method_15_code_30 (by decide) rfl (fun hq => ?_) (fun _ => ?_)
  · have c7 : xs0 = us0 := StrL.uniq Sy0 Su0 (W6.cell (q := (y0, cy0)) (Or.inr (Or.inl (List.mem_of_getElem? (i := 0) rfl)))) (by have e := Value.ref.inj hq; rw [e]; exact W6.cell (q := (u0, cu0)) (Or.inr (Or.inl (List.mem_of_getElem? (i := 2) rfl)))) (W6.cell (q := (by0, cby0)) (Or.inr (Or.inl (List.mem_of_getElem? (i := 1) rfl)))) (W6.cell (q := (bu0, cbu0)) (Or.inr (Or.inl (List.mem_of_getElem? (i := 3) rfl))))
    refine Go.iinc (pc' := 53) W6 (1 : Int32) #[.val (.ref a), .val (.ref o), .val (.int ((0 : Int32) + (1 : Int32)))] d_prog_7_method_15_code_50 rfl (by decide) rfl rfl ?_
    rw [show ((0 : Int32) + (1 : Int32) : Int32) = (1 : Int32) from by decide]
    refine Go.goto W6 13 d_prog_7_method_15_code_53 (by decide) ?_
    refine Go.iloadN (pc' := 14) W6 d_prog_7_method_15_code_13 rfl rfl ?_
    refine Go.aloadN (pc' := 15) W6 d_prog_7_method_15_code_14 rfl rfl rfl ?_
    refine Go.getfield (pc' := 18) W6 (Or.inl (List.mem_of_getElem? (i := 0) rfl)) (w_68 G) Via.refl M.2.2 d_prog_7_method_15_code_15 rfl (fun T8 W9 => ?_)
    refine Go.icmp_ge (pc' := 21) W9 56 d_prog_7_method_15_code_18 (by decide) rfl (fun q => absurd (by decide) q) (fun _ => ?_)
    refine Go.aloadN (pc' := 22) W9 d_prog_7_method_15_code_21 rfl rfl rfl ?_
    refine Go.getfield (pc' := 25) W9 (Or.inl (List.mem_of_getElem? (i := 0) rfl)) (w_46 G) Via.refl M.2.1 d_prog_7_method_15_code_22 rfl (fun T10 W11 => ?_)
    refine Go.iloadN (pc' := 26) W11 d_prog_7_method_15_code_25 rfl rfl ?_
    refine Go.aaload (pc' := 27) W11 (Or.inl (List.mem_of_getElem? (i := 1) rfl)) A rfl 1 (by decide) (by decide) hv1 d_prog_7_method_15_code_26 rfl ?_
    refine Go.aloadN (pc' := 28) W11 d_prog_7_method_15_code_27 rfl rfl rfl ?_
    refine Go.iloadN (pc' := 29) W11 d_prog_7_method_15_code_28 rfl rfl ?_
    refine Go.aaload (pc' := 30) W11 (Or.inl (List.mem_of_getElem? (i := 2) rfl)) B rfl 1 (by decide) (by decide) rfl d_prog_7_method_15_code_29 rfl ?_
    refine Go.acmp_eq (pc' := 33) W11 50 rfl rfl d_prog_7_method_15_code_30 (by decide) rfl (fun hq => ?_) (fun _ => ?_)
    · have c12 : xs1 = us1 := StrL.uniq Sy1 Su1 (W11.cell (q := (y1, cy1)) (Or.inr (Or.inl (List.mem_of_getElem? (i := 4) rfl)))) (by have e := Value.ref.inj hq; rw [e]; exact W11.cell (q := (u1, cu1)) (Or.inr (Or.inl (List.mem_of_getElem? (i := 6) rfl)))) (W11.cell (q := (by1, cby1)) (Or.inr (Or.inl (List.mem_of_getElem? (i := 5) rfl)))) (W11.cell (q := (bu1, cbu1)) (Or.inr (Or.inl (List.mem_of_getElem? (i := 7) rfl))))
      refine Go.iinc (pc' := 53) W11 (1 : Int32) #[.val (.ref a), .val (.ref o), .val (.int ((1 : Int32) + (1 : Int32)))] d_prog_7_method_15_code_50 rfl (by decide) rfl rfl ?_
      rw [show ((1 : Int32) + (1 : Int32) : Int32) = (2 : Int32) from by decide]
      refine Go.goto W11 13 d_prog_7_method_15_code_53 (by decide) ?_
      refine Go.iloadN (pc' := 14) W11 d_prog_7_method_15_code_13 rfl rfl ?_
      refine Go.aloadN (pc' := 15) W11 d_prog_7_method_15_code_14 rfl rfl rfl ?_
      refine Go.getfield (pc' := 18) W11 (Or.inl (List.mem_of_getElem? (i := 0) rfl)) (w_68 G) Via.refl M.2.2 d_prog_7_method_15_code_15 rfl (fun T13 W14 => ?_)
      refine Go.icmp_ge (pc' := 21) W14 56 d_prog_7_method_15_code_18 (by decide) rfl (fun _ => ?_) (fun q => absurd q (by decide))
      refine Go.iconst (pc' := 57) W14 (1 : Int32) d_prog_7_method_15_code_56 (by decide) rfl ?_
      have W15 := W14.perm (pick_perm [0, 0, 0] _ [(a, c), (p, cp), (o, co)] [] rfl)
      replace W15 : Wk l Z EL1 ({ frames := 2, cells := 0, slots := 0, locals := 28 } : Room) "com/example/maswali/maswali/Renderer" prog_7_method_15_code 3 (some .boolean) "writtenIn" X [(a, c), (p, cp), (o, co)] [(y0, cy0), (by0, cby0), (u0, cu0), (bu0, cbu0), (y1, cy1), (by1, cby1), (u1, cu1), (bu1, cbu1)] T13 0 (0) := W15
      have W16 := W15.keepRo [] (ρ' := []) rfl
      replace W16 : Wk l Z EL1 ({ frames := 2, cells := 0, slots := 0, locals := 28 } : Room) "com/example/maswali/maswali/Renderer" prog_7_method_15_code 3 (some .boolean) "writtenIn" X [(a, c), (p, cp), (o, co)] [] T13 0 (0) := W16
      refine Go.nret (z' := (1 : Int32)) W16 (by simp) (by decide) d_prog_7_method_15_code_57 (by first | exact Nat.le_of_ble_eq_true rfl | (simp; done) | (simp; omega) | omega) (by first | exact Nat.le_of_ble_eq_true rfl | (simp; done) | (simp; omega) | omega) ?_
      exact ⟨by simp_all, rfl, rfl⟩
    · refine Go.aloadN (pc' := 34) W11 d_prog_7_method_15_code_33 rfl rfl rfl ?_
      refine Go.getfield (pc' := 37) W11 (Or.inl (List.mem_of_getElem? (i := 0) rfl)) (w_46 G) Via.refl M.2.1 d_prog_7_method_15_code_34 rfl (fun T17 W18 => ?_)
      refine Go.iloadN (pc' := 38) W18 d_prog_7_method_15_code_37 rfl rfl ?_
      refine Go.aaload (pc' := 39) W18 (Or.inl (List.mem_of_getElem? (i := 1) rfl)) A rfl 1 (by decide) (by decide) hv1 d_prog_7_method_15_code_38 rfl ?_
      refine Go.aloadN (pc' := 40) W18 d_prog_7_method_15_code_39 rfl rfl rfl ?_
      refine Go.iloadN (pc' := 41) W18 d_prog_7_method_15_code_40 rfl rfl ?_
      refine Go.aaload (pc' := 42) W18 (Or.inl (List.mem_of_getElem? (i := 2) rfl)) B rfl 1 (by decide) (by decide) rfl d_prog_7_method_15_code_41 rfl ?_
      refine Go.virtual (pc' := 45) W18 (rm_eqs G y1 u1 by1 bu1 cy1 cu1 cby1 cbu1 _ _ Sy1 Su1) (Or.inr (Or.inl (List.mem_of_getElem? (i := 4) rfl))) Sy1.1 (w_81 G) (w_82 G) (w_84 G) (w_83 G) (w_6 G) (w_85 G) (by decide) [] [4, 5, 6, 7] (σf := [(a, c), (p, cp), (o, co)]) rfl rfl [(.ref u1)] [] rfl (lenOf pd_14 rfl) rfl rfl d_prog_7_method_15_code_42 rfl (by first | exact Nat.le_of_ble_eq_true rfl | (simp; done) | (simp; omega) | omega) (by first | exact Nat.le_of_ble_eq_true rfl | (simp; done) | (simp; omega) | omega) (by first | exact Nat.le_of_ble_eq_true rfl | (simp; done) | (simp; omega) | omega) (by first | exact Nat.le_of_ble_eq_true rfl | (simp; done) | (simp; omega) | omega) ?_
      rintro _ _ _ T19 ⟨rfl, rfl, rfl⟩ W20
      replace W20 : Wk l Z EL1 ({ frames := 2, cells := 0, slots := 0, locals := 28 } : Room) "com/example/maswali/maswali/Renderer" prog_7_method_15_code 3 (some .boolean) "writtenIn" X [(a, c), (p, cp), (o, co)] [(y0, cy0), (by0, cby0), (u0, cu0), (bu0, cbu0), (y1, cy1), (by1, cby1), (u1, cu1), (bu1, cbu1)] T19 0 (0) := W20
      show Go Z EL1 _ _ _ X T19 45 #[.val (.ref a), .val (.ref o), .val (.int (1 : Int32))] [(.int (if xs1 = us1 then 1 else 0))]
      refine Go.if_ne (pc' := 48) W20 50 d_prog_7_method_15_code_45 (by decide) rfl (fun (c21 : ¬ ((if xs1 = us1 then 1 else 0) = 0)) => ?_) (fun (c21 : (if xs1 = us1 then 1 else 0) = 0) => ?_)
      · refine Go.iinc (pc' := 53) W20 (1 : Int32) #[.val (.ref a), .val (.ref o), .val (.int ((1 : Int32) + (1 : Int32)))] d_prog_7_method_15_code_50 rfl (by decide) rfl rfl ?_
        rw [show ((1 : Int32) + (1 : Int32) : Int32) = (2 : Int32) from by decide]
        refine Go.goto W20 13 d_prog_7_method_15_code_53 (by decide) ?_
        refine Go.iloadN (pc' := 14) W20 d_prog_7_method_15_code_13 rfl rfl ?_
        refine Go.aloadN (pc' := 15) W20 d_prog_7_method_15_code_14 rfl rfl rfl ?_
        refine Go.getfield (pc' := 18) W20 (Or.inl (List.mem_of_getElem? (i := 0) rfl)) (w_68 G) Via.refl M.2.2 d_prog_7_method_15_code_15 rfl (fun T22 W23 => ?_)
        refine Go.icmp_ge (pc' := 21) W23 56 d_prog_7_method_15_code_18 (by decide) rfl (fun _ => ?_) (fun q => absurd q (by decide))
        refine Go.iconst (pc' := 57) W23 (1 : Int32) d_prog_7_method_15_code_56 (by decide) rfl ?_
        have W24 := W23.perm (pick_perm [0, 0, 0] _ [(a, c), (p, cp), (o, co)] [] rfl)
        replace W24 : Wk l Z EL1 ({ frames := 2, cells := 0, slots := 0, locals := 28 } : Room) "com/example/maswali/maswali/Renderer" prog_7_method_15_code 3 (some .boolean) "writtenIn" X [(a, c), (p, cp), (o, co)] [(y0, cy0), (by0, cby0), (u0, cu0), (bu0, cbu0), (y1, cy1), (by1, cby1), (u1, cu1), (bu1, cbu1)] T22 0 (0) := W24
        have W25 := W24.keepRo [] (ρ' := []) rfl
        replace W25 : Wk l Z EL1 ({ frames := 2, cells := 0, slots := 0, locals := 28 } : Room) "com/example/maswali/maswali/Renderer" prog_7_method_15_code 3 (some .boolean) "writtenIn" X [(a, c), (p, cp), (o, co)] [] T22 0 (0) := W25
        refine Go.nret (z' := (1 : Int32)) W25 (by simp) (by decide) d_prog_7_method_15_code_57 (by first | exact Nat.le_of_ble_eq_true rfl | (simp; done) | (simp; omega) | omega) (by first | exact Nat.le_of_ble_eq_true rfl | (simp; done) | (simp; omega) | omega) ?_
        exact ⟨by simp_all, rfl, rfl⟩
      · refine Go.iconst (pc' := 49) W20 (0 : Int32) d_prog_7_method_15_code_48 (by decide) rfl ?_
        have W26 := W20.perm (pick_perm [0, 0, 0] _ [(a, c), (p, cp), (o, co)] [] rfl)
        replace W26 : Wk l Z EL1 ({ frames := 2, cells := 0, slots := 0, locals := 28 } : Room) "com/example/maswali/maswali/Renderer" prog_7_method_15_code 3 (some .boolean) "writtenIn" X [(a, c), (p, cp), (o, co)] [(y0, cy0), (by0, cby0), (u0, cu0), (bu0, cbu0), (y1, cy1), (by1, cby1), (u1, cu1), (bu1, cbu1)] T19 0 (0) := W26
        have W27 := W26.keepRo [] (ρ' := []) rfl
        replace W27 : Wk l Z EL1 ({ frames := 2, cells := 0, slots := 0, locals := 28 } : Room) "com/example/maswali/maswali/Renderer" prog_7_method_15_code 3 (some .boolean) "writtenIn" X [(a, c), (p, cp), (o, co)] [] T19 0 (0) := W27
        refine Go.nret (z' := (0 : Int32)) W27 (by simp) (by decide) d_prog_7_method_15_code_49 (by first | exact Nat.le_of_ble_eq_true rfl | (simp; done) | (simp; omega) | omega) (by first | exact Nat.le_of_ble_eq_true rfl | (simp; done) | (simp; omega) | omega) ?_
        exact ⟨by simp_all, rfl, rfl⟩
  · refine Go.aloadN (pc' := 34) W6 d_prog_7_method_15_code_33 rfl rfl rfl ?_
    refine Go.getfield (pc' := 37) W6 (Or.inl (List.mem_of_getElem? (i := 0) rfl)) (w_46 G) Via.refl M.2.1 d_prog_7_method_15_code_34 rfl (fun T28 W29 => ?_)
    refine Go.iloadN (pc' := 38) W29 d_prog_7_method_15_code_37 rfl rfl ?_
    refine Go.aaload (pc' := 39) W29 (Or.inl (List.mem_of_getElem? (i := 1) rfl)) A rfl 0 (by decide) (by decide) hv0 d_prog_7_method_15_code_38 rfl ?_
    refine Go.aloadN (pc' := 40) W29 d_prog_7_method_15_code_39 rfl rfl rfl ?_
    refine Go.iloadN (pc' := 41) W29 d_prog_7_method_15_code_40 rfl rfl ?_
    refine Go.aaload (pc' := 42) W29 (Or.inl (List.mem_of_getElem? (i := 2) rfl)) B rfl 0 (by decide) (by decide) rfl d_prog_7_method_15_code_41 rfl ?_
    refine Go.virtual (pc' := 45) W29 (rm_eqs G y0 u0 by0 bu0 cy0 cu0 cby0 cbu0 _ _ Sy0 Su0) (Or.inr (Or.inl (List.mem_of_getElem? (i := 0) rfl))) Sy0.1 (w_81 G) (w_82 G) (w_84 G) (w_83 G) (w_6 G) (w_85 G) (by decide) [] [0, 1, 2, 3] (σf := [(a, c), (p, cp), (o, co)]) rfl rfl [(.ref u0)] [] rfl (lenOf pd_14 rfl) rfl rfl d_prog_7_method_15_code_42 rfl (by first | exact Nat.le_of_ble_eq_true rfl | (simp; done) | (simp; omega) | omega) (by first | exact Nat.le_of_ble_eq_true rfl | (simp; done) | (simp; omega) | omega) (by first | exact Nat.le_of_ble_eq_true rfl | (simp; done) | (simp; omega) | omega) (by first | exact Nat.le_of_ble_eq_true rfl | (simp; done) | (simp; omega) | omega) ?_
    rintro _ _ _ T30 ⟨rfl, rfl, rfl⟩ W31
    replace W31 : Wk l Z EL1 ({ frames := 2, cells := 0, slots := 0, locals := 28 } : Room) "com/example/maswali/maswali/Renderer" prog_7_method_15_code 3 (some .boolean) "writtenIn" X [(a, c), (p, cp), (o, co)] [(y0, cy0), (by0, cby0), (u0, cu0), (bu0, cbu0), (y1, cy1), (by1, cby1), (u1, cu1), (bu1, cbu1)] T30 0 (0) := W31
    show Go Z EL1 _ _ _ X T30 45 #[.val (.ref a), .val (.ref o), .val (.int (0 : Int32))] [(.int (if xs0 = us0 then 1 else 0))]
    refine Go.if_ne (pc' := 48) W31 50 d_prog_7_method_15_code_45 (by decide) rfl (fun (c32 : ¬ ((if xs0 = us0 then 1 else 0) = 0)) => ?_) (fun (c32 : (if xs0 = us0 then 1 else 0) = 0) => ?_)
    · refine Go.iinc (pc' := 53) W31 (1 : Int32) #[.val (.ref a), .val (.ref o), .val (.int ((0 : Int32) + (1 : Int32)))] d_prog_7_method_15_code_50 rfl (by decide) rfl rfl ?_
      rw [show ((0 : Int32) + (1 : Int32) : Int32) = (1 : Int32) from by decide]
      refine Go.goto W31 13 d_prog_7_method_15_code_53 (by decide) ?_
      refine Go.iloadN (pc' := 14) W31 d_prog_7_method_15_code_13 rfl rfl ?_
      refine Go.aloadN (pc' := 15) W31 d_prog_7_method_15_code_14 rfl rfl rfl ?_
      refine Go.getfield (pc' := 18) W31 (Or.inl (List.mem_of_getElem? (i := 0) rfl)) (w_68 G) Via.refl M.2.2 d_prog_7_method_15_code_15 rfl (fun T33 W34 => ?_)
      refine Go.icmp_ge (pc' := 21) W34 56 d_prog_7_method_15_code_18 (by decide) rfl (fun q => absurd (by decide) q) (fun _ => ?_)
      refine Go.aloadN (pc' := 22) W34 d_prog_7_method_15_code_21 rfl rfl rfl ?_
      refine Go.getfield (pc' := 25) W34 (Or.inl (List.mem_of_getElem? (i := 0) rfl)) (w_46 G) Via.refl M.2.1 d_prog_7_method_15_code_22 rfl (fun T35 W36 => ?_)
      refine Go.iloadN (pc' := 26) W36 d_prog_7_method_15_code_25 rfl rfl ?_
      refine Go.aaload (pc' := 27) W36 (Or.inl (List.mem_of_getElem? (i := 1) rfl)) A rfl 1 (by decide) (by decide) hv1 d_prog_7_method_15_code_26 rfl ?_
      refine Go.aloadN (pc' := 28) W36 d_prog_7_method_15_code_27 rfl rfl rfl ?_
      refine Go.iloadN (pc' := 29) W36 d_prog_7_method_15_code_28 rfl rfl ?_
      refine Go.aaload (pc' := 30) W36 (Or.inl (List.mem_of_getElem? (i := 2) rfl)) B rfl 1 (by decide) (by decide) rfl d_prog_7_method_15_code_29 rfl ?_
      refine Go.acmp_eq (pc' := 33) W36 50 rfl rfl d_prog_7_method_15_code_30 (by decide) rfl (fun hq => ?_) (fun _ => ?_)
      · have c37 : xs1 = us1 := StrL.uniq Sy1 Su1 (W36.cell (q := (y1, cy1)) (Or.inr (Or.inl (List.mem_of_getElem? (i := 4) rfl)))) (by have e := Value.ref.inj hq; rw [e]; exact W36.cell (q := (u1, cu1)) (Or.inr (Or.inl (List.mem_of_getElem? (i := 6) rfl)))) (W36.cell (q := (by1, cby1)) (Or.inr (Or.inl (List.mem_of_getElem? (i := 5) rfl)))) (W36.cell (q := (bu1, cbu1)) (Or.inr (Or.inl (List.mem_of_getElem? (i := 7) rfl))))
        refine Go.iinc (pc' := 53) W36 (1 : Int32) #[.val (.ref a), .val (.ref o), .val (.int ((1 : Int32) + (1 : Int32)))] d_prog_7_method_15_code_50 rfl (by decide) rfl rfl ?_
        rw [show ((1 : Int32) + (1 : Int32) : Int32) = (2 : Int32) from by decide]
        refine Go.goto W36 13 d_prog_7_method_15_code_53 (by decide) ?_
        refine Go.iloadN (pc' := 14) W36 d_prog_7_method_15_code_13 rfl rfl ?_
        refine Go.aloadN (pc' := 15) W36 d_prog_7_method_15_code_14 rfl rfl rfl ?_
        refine Go.getfield (pc' := 18) W36 (Or.inl (List.mem_of_getElem? (i := 0) rfl)) (w_68 G) Via.refl M.2.2 d_prog_7_method_15_code_15 rfl (fun T38 W39 => ?_)
        refine Go.icmp_ge (pc' := 21) W39 56 d_prog_7_method_15_code_18 (by decide) rfl (fun _ => ?_) (fun q => absurd q (by decide))
        refine Go.iconst (pc' := 57) W39 (1 : Int32) d_prog_7_method_15_code_56 (by decide) rfl ?_
        have W40 := W39.perm (pick_perm [0, 0, 0] _ [(a, c), (p, cp), (o, co)] [] rfl)
        replace W40 : Wk l Z EL1 ({ frames := 2, cells := 0, slots := 0, locals := 28 } : Room) "com/example/maswali/maswali/Renderer" prog_7_method_15_code 3 (some .boolean) "writtenIn" X [(a, c), (p, cp), (o, co)] [(y0, cy0), (by0, cby0), (u0, cu0), (bu0, cbu0), (y1, cy1), (by1, cby1), (u1, cu1), (bu1, cbu1)] T38 0 (0) := W40
        have W41 := W40.keepRo [] (ρ' := []) rfl
        replace W41 : Wk l Z EL1 ({ frames := 2, cells := 0, slots := 0, locals := 28 } : Room) "com/example/maswali/maswali/Renderer" prog_7_method_15_code 3 (some .boolean) "writtenIn" X [(a, c), (p, cp), (o, co)] [] T38 0 (0) := W41
        refine Go.nret (z' := (1 : Int32)) W41 (by simp) (by decide) d_prog_7_method_15_code_57 (by first | exact Nat.le_of_ble_eq_true rfl | (simp; done) | (simp; omega) | omega) (by first | exact Nat.le_of_ble_eq_true rfl | (simp; done) | (simp; omega) | omega) ?_
        exact ⟨by simp_all, rfl, rfl⟩
      · refine Go.aloadN (pc' := 34) W36 d_prog_7_method_15_code_33 rfl rfl rfl ?_
        refine Go.getfield (pc' := 37) W36 (Or.inl (List.mem_of_getElem? (i := 0) rfl)) (w_46 G) Via.refl M.2.1 d_prog_7_method_15_code_34 rfl (fun T42 W43 => ?_)
        refine Go.iloadN (pc' := 38) W43 d_prog_7_method_15_code_37 rfl rfl ?_
        refine Go.aaload (pc' := 39) W43 (Or.inl (List.mem_of_getElem? (i := 1) rfl)) A rfl 1 (by decide) (by decide) hv1 d_prog_7_method_15_code_38 rfl ?_
        refine Go.aloadN (pc' := 40) W43 d_prog_7_method_15_code_39 rfl rfl rfl ?_
        refine Go.iloadN (pc' := 41) W43 d_prog_7_method_15_code_40 rfl rfl ?_
        refine Go.aaload (pc' := 42) W43 (Or.inl (List.mem_of_getElem? (i := 2) rfl)) B rfl 1 (by decide) (by decide) rfl d_prog_7_method_15_code_41 rfl ?_
        refine Go.virtual (pc' := 45) W43 (rm_eqs G y1 u1 by1 bu1 cy1 cu1 cby1 cbu1 _ _ Sy1 Su1) (Or.inr (Or.inl (List.mem_of_getElem? (i := 4) rfl))) Sy1.1 (w_81 G) (w_82 G) (w_84 G) (w_83 G) (w_6 G) (w_85 G) (by decide) [] [4, 5, 6, 7] (σf := [(a, c), (p, cp), (o, co)]) rfl rfl [(.ref u1)] [] rfl (lenOf pd_14 rfl) rfl rfl d_prog_7_method_15_code_42 rfl (by first | exact Nat.le_of_ble_eq_true rfl | (simp; done) | (simp; omega) | omega) (by first | exact Nat.le_of_ble_eq_true rfl | (simp; done) | (simp; omega) | omega) (by first | exact Nat.le_of_ble_eq_true rfl | (simp; done) | (simp; omega) | omega) (by first | exact Nat.le_of_ble_eq_true rfl | (simp; done) | (simp; omega) | omega) ?_
        rintro _ _ _ T44 ⟨rfl, rfl, rfl⟩ W45
        replace W45 : Wk l Z EL1 ({ frames := 2, cells := 0, slots := 0, locals := 28 } : Room) "com/example/maswali/maswali/Renderer" prog_7_method_15_code 3 (some .boolean) "writtenIn" X [(a, c), (p, cp), (o, co)] [(y0, cy0), (by0, cby0), (u0, cu0), (bu0, cbu0), (y1, cy1), (by1, cby1), (u1, cu1), (bu1, cbu1)] T44 0 (0) := W45
        show Go Z EL1 _ _ _ X T44 45 #[.val (.ref a), .val (.ref o), .val (.int (1 : Int32))] [(.int (if xs1 = us1 then 1 else 0))]
        refine Go.if_ne (pc' := 48) W45 50 d_prog_7_method_15_code_45 (by decide) rfl (fun (c46 : ¬ ((if xs1 = us1 then 1 else 0) = 0)) => ?_) (fun (c46 : (if xs1 = us1 then 1 else 0) = 0) => ?_)
        · refine Go.iinc (pc' := 53) W45 (1 : Int32) #[.val (.ref a), .val (.ref o), .val (.int ((1 : Int32) + (1 : Int32)))] d_prog_7_method_15_code_50 rfl (by decide) rfl rfl ?_
          rw [show ((1 : Int32) + (1 : Int32) : Int32) = (2 : Int32) from by decide]
          refine Go.goto W45 13 d_prog_7_method_15_code_53 (by decide) ?_
          refine Go.iloadN (pc' := 14) W45 d_prog_7_method_15_code_13 rfl rfl ?_
          refine Go.aloadN (pc' := 15) W45 d_prog_7_method_15_code_14 rfl rfl rfl ?_
          refine Go.getfield (pc' := 18) W45 (Or.inl (List.mem_of_getElem? (i := 0) rfl)) (w_68 G) Via.refl M.2.2 d_prog_7_method_15_code_15 rfl (fun T47 W48 => ?_)
          refine Go.icmp_ge (pc' := 21) W48 56 d_prog_7_method_15_code_18 (by decide) rfl (fun _ => ?_) (fun q => absurd q (by decide))
          refine Go.iconst (pc' := 57) W48 (1 : Int32) d_prog_7_method_15_code_56 (by decide) rfl ?_
          have W49 := W48.perm (pick_perm [0, 0, 0] _ [(a, c), (p, cp), (o, co)] [] rfl)
          replace W49 : Wk l Z EL1 ({ frames := 2, cells := 0, slots := 0, locals := 28 } : Room) "com/example/maswali/maswali/Renderer" prog_7_method_15_code 3 (some .boolean) "writtenIn" X [(a, c), (p, cp), (o, co)] [(y0, cy0), (by0, cby0), (u0, cu0), (bu0, cbu0), (y1, cy1), (by1, cby1), (u1, cu1), (bu1, cbu1)] T47 0 (0) := W49
          have W50 := W49.keepRo [] (ρ' := []) rfl
          replace W50 : Wk l Z EL1 ({ frames := 2, cells := 0, slots := 0, locals := 28 } : Room) "com/example/maswali/maswali/Renderer" prog_7_method_15_code 3 (some .boolean) "writtenIn" X [(a, c), (p, cp), (o, co)] [] T47 0 (0) := W50
          refine Go.nret (z' := (1 : Int32)) W50 (by simp) (by decide) d_prog_7_method_15_code_57 (by first | exact Nat.le_of_ble_eq_true rfl | (simp; done) | (simp; omega) | omega) (by first | exact Nat.le_of_ble_eq_true rfl | (simp; done) | (simp; omega) | omega) ?_
          exact ⟨by simp_all, rfl, rfl⟩
        · refine Go.iconst (pc' := 49) W45 (0 : Int32) d_prog_7_method_15_code_48 (by decide) rfl ?_
          have W51 := W45.perm (pick_perm [0, 0, 0] _ [(a, c), (p, cp), (o, co)] [] rfl)
          replace W51 : Wk l Z EL1 ({ frames := 2, cells := 0, slots := 0, locals := 28 } : Room) "com/example/maswali/maswali/Renderer" prog_7_method_15_code 3 (some .boolean) "writtenIn" X [(a, c), (p, cp), (o, co)] [(y0, cy0), (by0, cby0), (u0, cu0), (bu0, cbu0), (y1, cy1), (by1, cby1), (u1, cu1), (bu1, cbu1)] T44 0 (0) := W51
          have W52 := W51.keepRo [] (ρ' := []) rfl
          replace W52 : Wk l Z EL1 ({ frames := 2, cells := 0, slots := 0, locals := 28 } : Room) "com/example/maswali/maswali/Renderer" prog_7_method_15_code 3 (some .boolean) "writtenIn" X [(a, c), (p, cp), (o, co)] [] T44 0 (0) := W52
          refine Go.nret (z' := (0 : Int32)) W52 (by simp) (by decide) d_prog_7_method_15_code_49 (by first | exact Nat.le_of_ble_eq_true rfl | (simp; done) | (simp; omega) | omega) (by first | exact Nat.le_of_ble_eq_true rfl | (simp; done) | (simp; omega) | omega) ?_
          exact ⟨by simp_all, rfl, rfl⟩
    · refine Go.iconst (pc' := 49) W31 (0 : Int32) d_prog_7_method_15_code_48 (by decide) rfl ?_
      have W53 := W31.perm (pick_perm [0, 0, 0] _ [(a, c), (p, cp), (o, co)] [] rfl)
      replace W53 : Wk l Z EL1 ({ frames := 2, cells := 0, slots := 0, locals := 28 } : Room) "com/example/maswali/maswali/Renderer" prog_7_method_15_code 3 (some .boolean) "writtenIn" X [(a, c), (p, cp), (o, co)] [(y0, cy0), (by0, cby0), (u0, cu0), (bu0, cbu0), (y1, cy1), (by1, cby1), (u1, cu1), (bu1, cbu1)] T30 0 (0) := W53
      have W54 := W53.keepRo [] (ρ' := []) rfl
      replace W54 : Wk l Z EL1 ({ frames := 2, cells := 0, slots := 0, locals := 28 } : Room) "com/example/maswali/maswali/Renderer" prog_7_method_15_code 3 (some .boolean) "writtenIn" X [(a, c), (p, cp), (o, co)] [] T30 0 (0) := W54
      refine Go.nret (z' := (0 : Int32)) W54 (by simp) (by decide) d_prog_7_method_15_code_49 (by first | exact Nat.le_of_ble_eq_true rfl | (simp; done) | (simp; omega) | omega) (by first | exact Nat.le_of_ble_eq_true rfl | (simp; done) | (simp; omega) | omega) ?_
      exact ⟨by simp_all, rfl, rfl⟩
set_option maxRecDepth 65536 in
set_option maxHeartbeats 40000000 in
theorem rm_win3 {l : Launch} {Z : State} {a0 : Array Value} (G : Cl Z a0) (a p o : Addr) (c cp co : Cell) (vs : List Value) (y0 by0 u0 bu0 : Addr) (cy0 cby0 cu0 cbu0 : Cell) (xs0 us0 : List Int32) (Sy0 : StrL Z cy0 by0 cby0 xs0) (Su0 : StrL Z cu0 bu0 cbu0 us0) (hv0 : vs[0]? = some (.ref y0)) (y1 by1 u1 bu1 : Addr) (cy1 cby1 cu1 cbu1 : Cell) (xs1 us1 : List Int32) (Sy1 : StrL Z cy1 by1 cby1 xs1) (Su1 : StrL Z cu1 bu1 cbu1 us1) (hv1 : vs[1]? = some (.ref y1)) (y2 by2 u2 bu2 : Addr) (cy2 cby2 cu2 cbu2 : Cell) (xs2 us2 : List Int32) (Sy2 : StrL Z cy2 by2 cby2 xs2) (Su2 : StrL Z cu2 bu2 cbu2 us2) (hv2 : vs[2]? = some (.ref y2)) (M : RenC Z c (.ref p) (.int 3)) (A : ArrC Z cp (.object "java/lang/String") vs) (B : ArrC Z co (.object "java/lang/String") [.ref u0, .ref u1, .ref u2]) :
    Met l Z EL1 (⟨"com/example/maswali/maswali/Renderer", "writtenIn", "([Ljava/lang/String;)Z"⟩ : MethodName) prog_7_method_15_code 3 (some .boolean) ({ frames := 2, cells := 0, slots := 0, locals := 28 } : Room) #[.ref a, .ref o] [(a, c), (p, cp), (o, co)] [(y0, cy0), (by0, cby0), (u0, cu0), (bu0, cbu0), (y1, cy1), (by1, cby1), (u1, cu1), (bu1, cbu1), (y2, cy2), (by2, cby2), (u2, cu2), (bu2, cbu2)] (fun v σ ρ => v = some (.int (if xs0 = us0 ∧ xs1 = us1 ∧ xs2 = us2 then 1 else 0)) ∧ σ = [(a, c), (p, cp), (o, co)] ∧ ρ = []) := by
  refine Met.walk G.2.1 pn_12 #[.val (.ref a), .val (.ref o), .unset] (fun m => by first | (simp [entryFrame, mkF, argsToLocals, Value.category]; done) | rfl) ?_
  intro X T0 W0
  refine Go.aloadN (pc' := 1) W0 d_prog_7_method_15_code_0 rfl rfl rfl ?_
  refine Go.arrlen (pc' := 2) W0 (Or.inl (List.mem_of_getElem? (i := 2) rfl)) B (3 : Int32) rfl d_prog_7_method_15_code_1 rfl ?_
  refine Go.aloadN (pc' := 3) W0 d_prog_7_method_15_code_2 rfl rfl rfl ?_
  refine Go.getfield (pc' := 6) W0 (Or.inl (List.mem_of_getElem? (i := 0) rfl)) (w_68 G) Via.refl M.2.2 d_prog_7_method_15_code_3 rfl (fun T1 W2 => ?_)
  refine Go.icmp_eq (pc' := 9) W2 11 d_prog_7_method_15_code_6 (by decide) rfl (fun _ => ?_) (fun q => absurd (by decide) q)
  refine Go.iconst (pc' := 12) W2 (0 : Int32) d_prog_7_method_15_code_11 (by decide) rfl ?_
  refine Go.istoreN (pc' := 13) W2 #[.val (.ref a), .val (.ref o), .val (.int (0 : Int32))] d_prog_7_method_15_code_12 rfl rfl ?_
  refine Go.iloadN (pc' := 14) W2 d_prog_7_method_15_code_13 rfl rfl ?_
  refine Go.aloadN (pc' := 15) W2 d_prog_7_method_15_code_14 rfl rfl rfl ?_
  refine Go.getfield (pc' := 18) W2 (Or.inl (List.mem_of_getElem? (i := 0) rfl)) (w_68 G) Via.refl M.2.2 d_prog_7_method_15_code_15 rfl (fun T3 W4 => ?_)
  refine Go.icmp_ge (pc' := 21) W4 56 d_prog_7_method_15_code_18 (by decide) rfl (fun q => absurd (by decide) q) (fun _ => ?_)
  refine Go.aloadN (pc' := 22) W4 d_prog_7_method_15_code_21 rfl rfl rfl ?_
  refine Go.getfield (pc' := 25) W4 (Or.inl (List.mem_of_getElem? (i := 0) rfl)) (w_46 G) Via.refl M.2.1 d_prog_7_method_15_code_22 rfl (fun T5 W6 => ?_)
  refine Go.iloadN (pc' := 26) W6 d_prog_7_method_15_code_25 rfl rfl ?_
  refine Go.aaload (pc' := 27) W6 (Or.inl (List.mem_of_getElem? (i := 1) rfl)) A rfl 0 (by decide) (by decide) hv0 d_prog_7_method_15_code_26 rfl ?_
  refine Go.aloadN (pc' := 28) W6 d_prog_7_method_15_code_27 rfl rfl rfl ?_
  refine Go.iloadN (pc' := 29) W6 d_prog_7_method_15_code_28 rfl rfl ?_
  refine Go.aaload (pc' := 30) W6 (Or.inl (List.mem_of_getElem? (i := 2) rfl)) B rfl 0 (by decide) (by decide) rfl d_prog_7_method_15_code_29 rfl ?_
  refine Go.acmp_eq (pc' := 33) W6 50 rfl rfl d_prog_7_method_15_code_30 (by decide) rfl (fun hq => ?_) (fun _ => ?_)
  · have c7 : xs0 = us0 := StrL.uniq Sy0 Su0 (W6.cell (q := (y0, cy0)) (Or.inr (Or.inl (List.mem_of_getElem? (i := 0) rfl)))) (by have e := Value.ref.inj hq; rw [e]; exact W6.cell (q := (u0, cu0)) (Or.inr (Or.inl (List.mem_of_getElem? (i := 2) rfl)))) (W6.cell (q := (by0, cby0)) (Or.inr (Or.inl (List.mem_of_getElem? (i := 1) rfl)))) (W6.cell (q := (bu0, cbu0)) (Or.inr (Or.inl (List.mem_of_getElem? (i := 3) rfl))))
    refine Go.iinc (pc' := 53) W6 (1 : Int32) #[.val (.ref a), .val (.ref o), .val (.int ((0 : Int32) + (1 : Int32)))] d_prog_7_method_15_code_50 rfl (by decide) rfl rfl ?_
    rw [show ((0 : Int32) + (1 : Int32) : Int32) = (1 : Int32) from by decide]
    refine Go.goto W6 13 d_prog_7_method_15_code_53 (by decide) ?_
    refine Go.iloadN (pc' := 14) W6 d_prog_7_method_15_code_13 rfl rfl ?_
    refine Go.aloadN (pc' := 15) W6 d_prog_7_method_15_code_14 rfl rfl rfl ?_
    refine Go.getfield (pc' := 18) W6 (Or.inl (List.mem_of_getElem? (i := 0) rfl)) (w_68 G) Via.refl M.2.2 d_prog_7_method_15_code_15 rfl (fun T8 W9 => ?_)
    refine Go.icmp_ge (pc' := 21) W9 56 d_prog_7_method_15_code_18 (by decide) rfl (fun q => absurd (by decide) q) (fun _ => ?_)
    refine Go.aloadN (pc' := 22) W9 d_prog_7_method_15_code_21 rfl rfl rfl ?_
    refine Go.getfield (pc' := 25) W9 (Or.inl (List.mem_of_getElem? (i := 0) rfl)) (w_46 G) Via.refl M.2.1 d_prog_7_method_15_code_22 rfl (fun T10 W11 => ?_)
    refine Go.iloadN (pc' := 26) W11 d_prog_7_method_15_code_25 rfl rfl ?_
    refine Go.aaload (pc' := 27) W11 (Or.inl (List.mem_of_getElem? (i := 1) rfl)) A rfl 1 (by decide) (by decide) hv1 d_prog_7_method_15_code_26 rfl ?_
    refine Go.aloadN (pc' := 28) W11 d_prog_7_method_15_code_27 rfl rfl rfl ?_
    refine Go.iloadN (pc' := 29) W11 d_prog_7_method_15_code_28 rfl rfl ?_
    refine Go.aaload (pc' := 30) W11 (Or.inl (List.mem_of_getElem? (i := 2) rfl)) B rfl 1 (by decide) (by decide) rfl d_prog_7_method_15_code_29 rfl ?_
    refine Go.acmp_eq (pc' := 33) W11 50 rfl rfl d_prog_7_method_15_code_30 (by decide) rfl (fun hq => ?_) (fun _ => ?_)
    · have c12 : xs1 = us1 := StrL.uniq Sy1 Su1 (W11.cell (q := (y1, cy1)) (Or.inr (Or.inl (List.mem_of_getElem? (i := 4) rfl)))) (by have e := Value.ref.inj hq; rw [e]; exact W11.cell (q := (u1, cu1)) (Or.inr (Or.inl (List.mem_of_getElem? (i := 6) rfl)))) (W11.cell (q := (by1, cby1)) (Or.inr (Or.inl (List.mem_of_getElem? (i := 5) rfl)))) (W11.cell (q := (bu1, cbu1)) (Or.inr (Or.inl (List.mem_of_getElem? (i := 7) rfl))))
      refine Go.iinc (pc' := 53) W11 (1 : Int32) #[.val (.ref a), .val (.ref o), .val (.int ((1 : Int32) + (1 : Int32)))] d_prog_7_method_15_code_50 rfl (by decide) rfl rfl ?_
      rw [show ((1 : Int32) + (1 : Int32) : Int32) = (2 : Int32) from by decide]
      refine Go.goto W11 13 d_prog_7_method_15_code_53 (by decide) ?_
      refine Go.iloadN (pc' := 14) W11 d_prog_7_method_15_code_13 rfl rfl ?_
      refine Go.aloadN (pc' := 15) W11 d_prog_7_method_15_code_14 rfl rfl rfl ?_
      refine Go.getfield (pc' := 18) W11 (Or.inl (List.mem_of_getElem? (i := 0) rfl)) (w_68 G) Via.refl M.2.2 d_prog_7_method_15_code_15 rfl (fun T13 W14 => ?_)
      refine Go.icmp_ge (pc' := 21) W14 56 d_prog_7_method_15_code_18 (by decide) rfl (fun q => absurd (by decide) q) (fun _ => ?_)
      refine Go.aloadN (pc' := 22) W14 d_prog_7_method_15_code_21 rfl rfl rfl ?_
      refine Go.getfield (pc' := 25) W14 (Or.inl (List.mem_of_getElem? (i := 0) rfl)) (w_46 G) Via.refl M.2.1 d_prog_7_method_15_code_22 rfl (fun T15 W16 => ?_)
      refine Go.iloadN (pc' := 26) W16 d_prog_7_method_15_code_25 rfl rfl ?_
      refine Go.aaload (pc' := 27) W16 (Or.inl (List.mem_of_getElem? (i := 1) rfl)) A rfl 2 (by decide) (by decide) hv2 d_prog_7_method_15_code_26 rfl ?_
      refine Go.aloadN (pc' := 28) W16 d_prog_7_method_15_code_27 rfl rfl rfl ?_
      refine Go.iloadN (pc' := 29) W16 d_prog_7_method_15_code_28 rfl rfl ?_
      refine Go.aaload (pc' := 30) W16 (Or.inl (List.mem_of_getElem? (i := 2) rfl)) B rfl 2 (by decide) (by decide) rfl d_prog_7_method_15_code_29 rfl ?_
      refine Go.acmp_eq (pc' := 33) W16 50 rfl rfl d_prog_7_method_15_code_30 (by decide) rfl (fun hq => ?_) (fun _ => ?_)
      · have c17 : xs2 = us2 := StrL.uniq Sy2 Su2 (W16.cell (q := (y2, cy2)) (Or.inr (Or.inl (List.mem_of_getElem? (i := 8) rfl)))) (by have e := Value.ref.inj hq; rw [e]; exact W16.cell (q := (u2, cu2)) (Or.inr (Or.inl (List.mem_of_getElem? (i := 10) rfl)))) (W16.cell (q := (by2, cby2)) (Or.inr (Or.inl (List.mem_of_getElem? (i := 9) rfl)))) (W16.cell (q := (bu2, cbu2)) (Or.inr (Or.inl (List.mem_of_getElem? (i := 11) rfl))))
        refine Go.iinc (pc' := 53) W16 (1 : Int32) #[.val (.ref a), .val (.ref o), .val (.int ((2 : Int32) + (1 : Int32)))] d_prog_7_method_15_code_50 rfl (by decide) rfl rfl ?_
        rw [show ((2 : Int32) + (1 : Int32) : Int32) = (3 : Int32) from by decide]
        refine Go.goto W16 13 d_prog_7_method_15_code_53 (by decide) ?_
        refine Go.iloadN (pc' := 14) W16 d_prog_7_method_15_code_13 rfl rfl ?_
        refine Go.aloadN (pc' := 15) W16 d_prog_7_method_15_code_14 rfl rfl rfl ?_
        refine Go.getfield (pc' := 18) W16 (Or.inl (List.mem_of_getElem? (i := 0) rfl)) (w_68 G) Via.refl M.2.2 d_prog_7_method_15_code_15 rfl (fun T18 W19 => ?_)
        refine Go.icmp_ge (pc' := 21) W19 56 d_prog_7_method_15_code_18 (by decide) rfl (fun _ => ?_) (fun q => absurd q (by decide))
        refine Go.iconst (pc' := 57) W19 (1 : Int32) d_prog_7_method_15_code_56 (by decide) rfl ?_
        have W20 := W19.perm (pick_perm [0, 0, 0] _ [(a, c), (p, cp), (o, co)] [] rfl)
        replace W20 : Wk l Z EL1 ({ frames := 2, cells := 0, slots := 0, locals := 28 } : Room) "com/example/maswali/maswali/Renderer" prog_7_method_15_code 3 (some .boolean) "writtenIn" X [(a, c), (p, cp), (o, co)] [(y0, cy0), (by0, cby0), (u0, cu0), (bu0, cbu0), (y1, cy1), (by1, cby1), (u1, cu1), (bu1, cbu1), (y2, cy2), (by2, cby2), (u2, cu2), (bu2, cbu2)] T18 0 (0) := W20
        have W21 := W20.keepRo [] (ρ' := []) rfl
        replace W21 : Wk l Z EL1 ({ frames := 2, cells := 0, slots := 0, locals := 28 } : Room) "com/example/maswali/maswali/Renderer" prog_7_method_15_code 3 (some .boolean) "writtenIn" X [(a, c), (p, cp), (o, co)] [] T18 0 (0) := W21
        refine Go.nret (z' := (1 : Int32)) W21 (by simp) (by decide) d_prog_7_method_15_code_57 (by first | exact Nat.le_of_ble_eq_true rfl | (simp; done) | (simp; omega) | omega) (by first | exact Nat.le_of_ble_eq_true rfl | (simp; done) | (simp; omega) | omega) ?_
        exact ⟨by simp_all, rfl, rfl⟩
      · refine Go.aloadN (pc' := 34) W16 d_prog_7_method_15_code_33 rfl rfl rfl ?_
        refine Go.getfield (pc' := 37) W16 (Or.inl (List.mem_of_getElem? (i := 0) rfl)) (w_46 G) Via.refl M.2.1 d_prog_7_method_15_code_34 rfl (fun T22 W23 => ?_)
        refine Go.iloadN (pc' := 38) W23 d_prog_7_method_15_code_37 rfl rfl ?_
        refine Go.aaload (pc' := 39) W23 (Or.inl (List.mem_of_getElem? (i := 1) rfl)) A rfl 2 (by decide) (by decide) hv2 d_prog_7_method_15_code_38 rfl ?_
        refine Go.aloadN (pc' := 40) W23 d_prog_7_method_15_code_39 rfl rfl rfl ?_
        refine Go.iloadN (pc' := 41) W23 d_prog_7_method_15_code_40 rfl rfl ?_
        refine Go.aaload (pc' := 42) W23 (Or.inl (List.mem_of_getElem? (i := 2) rfl)) B rfl 2 (by decide) (by decide) rfl d_prog_7_method_15_code_41 rfl ?_
        refine Go.virtual (pc' := 45) W23 (rm_eqs G y2 u2 by2 bu2 cy2 cu2 cby2 cbu2 _ _ Sy2 Su2) (Or.inr (Or.inl (List.mem_of_getElem? (i := 8) rfl))) Sy2.1 (w_81 G) (w_82 G) (w_84 G) (w_83 G) (w_6 G) (w_85 G) (by decide) [] [8, 9, 10, 11] (σf := [(a, c), (p, cp), (o, co)]) rfl rfl [(.ref u2)] [] rfl (lenOf pd_14 rfl) rfl rfl d_prog_7_method_15_code_42 rfl (by first | exact Nat.le_of_ble_eq_true rfl | (simp; done) | (simp; omega) | omega) (by first | exact Nat.le_of_ble_eq_true rfl | (simp; done) | (simp; omega) | omega) (by first | exact Nat.le_of_ble_eq_true rfl | (simp; done) | (simp; omega) | omega) (by first | exact Nat.le_of_ble_eq_true rfl | (simp; done) | (simp; omega) | omega) ?_
        rintro _ _ _ T24 ⟨rfl, rfl, rfl⟩ W25
        replace W25 : Wk l Z EL1 ({ frames := 2, cells := 0, slots := 0, locals := 28 } : Room) "com/example/maswali/maswali/Renderer" prog_7_method_15_code 3 (some .boolean) "writtenIn" X [(a, c), (p, cp), (o, co)] [(y0, cy0), (by0, cby0), (u0, cu0), (bu0, cbu0), (y1, cy1), (by1, cby1), (u1, cu1), (bu1, cbu1), (y2, cy2), (by2, cby2), (u2, cu2), (bu2, cbu2)] T24 0 (0) := W25
        show Go Z EL1 _ _ _ X T24 45 #[.val (.ref a), .val (.ref o), .val (.int (2 : Int32))] [(.int (if xs2 = us2 then 1 else 0))]
        refine Go.if_ne (pc' := 48) W25 50 d_prog_7_method_15_code_45 (by decide) rfl (fun (c26 : ¬ ((if xs2 = us2 then 1 else 0) = 0)) => ?_) (fun (c26 : (if xs2 = us2 then 1 else 0) = 0) => ?_)
        · refine Go.iinc (pc' := 53) W25 (1 : Int32) #[.val (.ref a), .val (.ref o), .val (.int ((2 : Int32) + (1 : Int32)))] d_prog_7_method_15_code_50 rfl (by decide) rfl rfl ?_
          rw [show ((2 : Int32) + (1 : Int32) : Int32) = (3 : Int32) from by decide]
          refine Go.goto W25 13 d_prog_7_method_15_code_53 (by decide) ?_
          refine Go.iloadN (pc' := 14) W25 d_prog_7_method_15_code_13 rfl rfl ?_
          refine Go.aloadN (pc' := 15) W25 d_prog_7_method_15_code_14 rfl rfl rfl ?_
          refine Go.getfield (pc' := 18) W25 (Or.inl (List.mem_of_getElem? (i := 0) rfl)) (w_68 G) Via.refl M.2.2 d_prog_7_method_15_code_15 rfl (fun T27 W28 => ?_)
          refine Go.icmp_ge (pc' := 21) W28 56 d_prog_7_method_15_code_18 (by decide) rfl (fun _ => ?_) (fun q => absurd q (by decide))
          refine Go.iconst (pc' := 57) W28 (1 : Int32) d_prog_7_method_15_code_56 (by decide) rfl ?_
          have W29 := W28.perm (pick_perm [0, 0, 0] _ [(a, c), (p, cp), (o, co)] [] rfl)
          replace W29 : Wk l Z EL1 ({ frames := 2, cells := 0, slots := 0, locals := 28 } : Room) "com/example/maswali/maswali/Renderer" prog_7_method_15_code 3 (some .boolean) "writtenIn" X [(a, c), (p, cp), (o, co)] [(y0, cy0), (by0, cby0), (u0, cu0), (bu0, cbu0), (y1, cy1), (by1, cby1), (u1, cu1), (bu1, cbu1), (y2, cy2), (by2, cby2), (u2, cu2), (bu2, cbu2)] T27 0 (0) := W29
          have W30 := W29.keepRo [] (ρ' := []) rfl
          replace W30 : Wk l Z EL1 ({ frames := 2, cells := 0, slots := 0, locals := 28 } : Room) "com/example/maswali/maswali/Renderer" prog_7_method_15_code 3 (some .boolean) "writtenIn" X [(a, c), (p, cp), (o, co)] [] T27 0 (0) := W30
          refine Go.nret (z' := (1 : Int32)) W30 (by simp) (by decide) d_prog_7_method_15_code_57 (by first | exact Nat.le_of_ble_eq_true rfl | (simp; done) | (simp; omega) | omega) (by first | exact Nat.le_of_ble_eq_true rfl | (simp; done) | (simp; omega) | omega) ?_
          exact ⟨by simp_all, rfl, rfl⟩
        · refine Go.iconst (pc' := 49) W25 (0 : Int32) d_prog_7_method_15_code_48 (by decide) rfl ?_
          have W31 := W25.perm (pick_perm [0, 0, 0] _ [(a, c), (p, cp), (o, co)] [] rfl)
          replace W31 : Wk l Z EL1 ({ frames := 2, cells := 0, slots := 0, locals := 28 } : Room) "com/example/maswali/maswali/Renderer" prog_7_method_15_code 3 (some .boolean) "writtenIn" X [(a, c), (p, cp), (o, co)] [(y0, cy0), (by0, cby0), (u0, cu0), (bu0, cbu0), (y1, cy1), (by1, cby1), (u1, cu1), (bu1, cbu1), (y2, cy2), (by2, cby2), (u2, cu2), (bu2, cbu2)] T24 0 (0) := W31
          have W32 := W31.keepRo [] (ρ' := []) rfl
          replace W32 : Wk l Z EL1 ({ frames := 2, cells := 0, slots := 0, locals := 28 } : Room) "com/example/maswali/maswali/Renderer" prog_7_method_15_code 3 (some .boolean) "writtenIn" X [(a, c), (p, cp), (o, co)] [] T24 0 (0) := W32
          refine Go.nret (z' := (0 : Int32)) W32 (by simp) (by decide) d_prog_7_method_15_code_49 (by first | exact Nat.le_of_ble_eq_true rfl | (simp; done) | (simp; omega) | omega) (by first | exact Nat.le_of_ble_eq_true rfl | (simp; done) | (simp; omega) | omega) ?_
          exact ⟨by simp_all, rfl, rfl⟩
    · refine Go.aloadN (pc' := 34) W11 d_prog_7_method_15_code_33 rfl rfl rfl ?_
      refine Go.getfield (pc' := 37) W11 (Or.inl (List.mem_of_getElem? (i := 0) rfl)) (w_46 G) Via.refl M.2.1 d_prog_7_method_15_code_34 rfl (fun T33 W34 => ?_)
      refine Go.iloadN (pc' := 38) W34 d_prog_7_method_15_code_37 rfl rfl ?_
      refine Go.aaload (pc' := 39) W34 (Or.inl (List.mem_of_getElem? (i := 1) rfl)) A rfl 1 (by decide) (by decide) hv1 d_prog_7_method_15_code_38 rfl ?_
      refine Go.aloadN (pc' := 40) W34 d_prog_7_method_15_code_39 rfl rfl rfl ?_
      refine Go.iloadN (pc' := 41) W34 d_prog_7_method_15_code_40 rfl rfl ?_
      refine Go.aaload (pc' := 42) W34 (Or.inl (List.mem_of_getElem? (i := 2) rfl)) B rfl 1 (by decide) (by decide) rfl d_prog_7_method_15_code_41 rfl ?_
      refine Go.virtual (pc' := 45) W34 (rm_eqs G y1 u1 by1 bu1 cy1 cu1 cby1 cbu1 _ _ Sy1 Su1) (Or.inr (Or.inl (List.mem_of_getElem? (i := 4) rfl))) Sy1.1 (w_81 G) (w_82 G) (w_84 G) (w_83 G) (w_6 G) (w_85 G) (by decide) [] [4, 5, 6, 7] (σf := [(a, c), (p, cp), (o, co)]) rfl rfl [(.ref u1)] [] rfl (lenOf pd_14 rfl) rfl rfl d_prog_7_method_15_code_42 rfl (by first | exact Nat.le_of_ble_eq_true rfl | (simp; done) | (simp; omega) | omega) (by first | exact Nat.le_of_ble_eq_true rfl | (simp; done) | (simp; omega) | omega) (by first | exact Nat.le_of_ble_eq_true rfl | (simp; done) | (simp; omega) | omega) (by first | exact Nat.le_of_ble_eq_true rfl | (simp; done) | (simp; omega) | omega) ?_
      rintro _ _ _ T35 ⟨rfl, rfl, rfl⟩ W36
      replace W36 : Wk l Z EL1 ({ frames := 2, cells := 0, slots := 0, locals := 28 } : Room) "com/example/maswali/maswali/Renderer" prog_7_method_15_code 3 (some .boolean) "writtenIn" X [(a, c), (p, cp), (o, co)] [(y0, cy0), (by0, cby0), (u0, cu0), (bu0, cbu0), (y1, cy1), (by1, cby1), (u1, cu1), (bu1, cbu1), (y2, cy2), (by2, cby2), (u2, cu2), (bu2, cbu2)] T35 0 (0) := W36
      show Go Z EL1 _ _ _ X T35 45 #[.val (.ref a), .val (.ref o), .val (.int (1 : Int32))] [(.int (if xs1 = us1 then 1 else 0))]
      refine Go.if_ne (pc' := 48) W36 50 d_prog_7_method_15_code_45 (by decide) rfl (fun (c37 : ¬ ((if xs1 = us1 then 1 else 0) = 0)) => ?_) (fun (c37 : (if xs1 = us1 then 1 else 0) = 0) => ?_)
      · refine Go.iinc (pc' := 53) W36 (1 : Int32) #[.val (.ref a), .val (.ref o), .val (.int ((1 : Int32) + (1 : Int32)))] d_prog_7_method_15_code_50 rfl (by decide) rfl rfl ?_
        rw [show ((1 : Int32) + (1 : Int32) : Int32) = (2 : Int32) from by decide]
        refine Go.goto W36 13 d_prog_7_method_15_code_53 (by decide) ?_
        refine Go.iloadN (pc' := 14) W36 d_prog_7_method_15_code_13 rfl rfl ?_
        refine Go.aloadN (pc' := 15) W36 d_prog_7_method_15_code_14 rfl rfl rfl ?_
        refine Go.getfield (pc' := 18) W36 (Or.inl (List.mem_of_getElem? (i := 0) rfl)) (w_68 G) Via.refl M.2.2 d_prog_7_method_15_code_15 rfl (fun T38 W39 => ?_)
        refine Go.icmp_ge (pc' := 21) W39 56 d_prog_7_method_15_code_18 (by decide) rfl (fun q => absurd (by decide) q) (fun _ => ?_)
        refine Go.aloadN (pc' := 22) W39 d_prog_7_method_15_code_21 rfl rfl rfl ?_
        refine Go.getfield (pc' := 25) W39 (Or.inl (List.mem_of_getElem? (i := 0) rfl)) (w_46 G) Via.refl M.2.1 d_prog_7_method_15_code_22 rfl (fun T40 W41 => ?_)
        refine Go.iloadN (pc' := 26) W41 d_prog_7_method_15_code_25 rfl rfl ?_
        refine Go.aaload (pc' := 27) W41 (Or.inl (List.mem_of_getElem? (i := 1) rfl)) A rfl 2 (by decide) (by decide) hv2 d_prog_7_method_15_code_26 rfl ?_
        refine Go.aloadN (pc' := 28) W41 d_prog_7_method_15_code_27 rfl rfl rfl ?_
        refine Go.iloadN (pc' := 29) W41 d_prog_7_method_15_code_28 rfl rfl ?_
        refine Go.aaload (pc' := 30) W41 (Or.inl (List.mem_of_getElem? (i := 2) rfl)) B rfl 2 (by decide) (by decide) rfl d_prog_7_method_15_code_29 rfl ?_
        refine Go.acmp_eq (pc' := 33) W41 50 rfl rfl d_prog_7_method_15_code_30 (by decide) rfl (fun hq => ?_) (fun _ => ?_)
        · have c42 : xs2 = us2 := StrL.uniq Sy2 Su2 (W41.cell (q := (y2, cy2)) (Or.inr (Or.inl (List.mem_of_getElem? (i := 8) rfl)))) (by have e := Value.ref.inj hq; rw [e]; exact W41.cell (q := (u2, cu2)) (Or.inr (Or.inl (List.mem_of_getElem? (i := 10) rfl)))) (W41.cell (q := (by2, cby2)) (Or.inr (Or.inl (List.mem_of_getElem? (i := 9) rfl)))) (W41.cell (q := (bu2, cbu2)) (Or.inr (Or.inl (List.mem_of_getElem? (i := 11) rfl))))
          refine Go.iinc (pc' := 53) W41 (1 : Int32) #[.val (.ref a), .val (.ref o), .val (.int ((2 : Int32) + (1 : Int32)))] d_prog_7_method_15_code_50 rfl (by decide) rfl rfl ?_
          rw [show ((2 : Int32) + (1 : Int32) : Int32) = (3 : Int32) from by decide]
          refine Go.goto W41 13 d_prog_7_method_15_code_53 (by decide) ?_
          refine Go.iloadN (pc' := 14) W41 d_prog_7_method_15_code_13 rfl rfl ?_
          refine Go.aloadN (pc' := 15) W41 d_prog_7_method_15_code_14 rfl rfl rfl ?_
          refine Go.getfield (pc' := 18) W41 (Or.inl (List.mem_of_getElem? (i := 0) rfl)) (w_68 G) Via.refl M.2.2 d_prog_7_method_15_code_15 rfl (fun T43 W44 => ?_)
          refine Go.icmp_ge (pc' := 21) W44 56 d_prog_7_method_15_code_18 (by decide) rfl (fun _ => ?_) (fun q => absurd q (by decide))
          refine Go.iconst (pc' := 57) W44 (1 : Int32) d_prog_7_method_15_code_56 (by decide) rfl ?_
          have W45 := W44.perm (pick_perm [0, 0, 0] _ [(a, c), (p, cp), (o, co)] [] rfl)
          replace W45 : Wk l Z EL1 ({ frames := 2, cells := 0, slots := 0, locals := 28 } : Room) "com/example/maswali/maswali/Renderer" prog_7_method_15_code 3 (some .boolean) "writtenIn" X [(a, c), (p, cp), (o, co)] [(y0, cy0), (by0, cby0), (u0, cu0), (bu0, cbu0), (y1, cy1), (by1, cby1), (u1, cu1), (bu1, cbu1), (y2, cy2), (by2, cby2), (u2, cu2), (bu2, cbu2)] T43 0 (0) := W45
          have W46 := W45.keepRo [] (ρ' := []) rfl
          replace W46 : Wk l Z EL1 ({ frames := 2, cells := 0, slots := 0, locals := 28 } : Room) "com/example/maswali/maswali/Renderer" prog_7_method_15_code 3 (some .boolean) "writtenIn" X [(a, c), (p, cp), (o, co)] [] T43 0 (0) := W46
          refine Go.nret (z' := (1 : Int32)) W46 (by simp) (by decide) d_prog_7_method_15_code_57 (by first | exact Nat.le_of_ble_eq_true rfl | (simp; done) | (simp; omega) | omega) (by first | exact Nat.le_of_ble_eq_true rfl | (simp; done) | (simp; omega) | omega) ?_
          exact ⟨by simp_all, rfl, rfl⟩
        · refine Go.aloadN (pc' := 34) W41 d_prog_7_method_15_code_33 rfl rfl rfl ?_
          refine Go.getfield (pc' := 37) W41 (Or.inl (List.mem_of_getElem? (i := 0) rfl)) (w_46 G) Via.refl M.2.1 d_prog_7_method_15_code_34 rfl (fun T47 W48 => ?_)
          refine Go.iloadN (pc' := 38) W48 d_prog_7_method_15_code_37 rfl rfl ?_
          refine Go.aaload (pc' := 39) W48 (Or.inl (List.mem_of_getElem? (i := 1) rfl)) A rfl 2 (by decide) (by decide) hv2 d_prog_7_method_15_code_38 rfl ?_
          refine Go.aloadN (pc' := 40) W48 d_prog_7_method_15_code_39 rfl rfl rfl ?_
          refine Go.iloadN (pc' := 41) W48 d_prog_7_method_15_code_40 rfl rfl ?_
          refine Go.aaload (pc' := 42) W48 (Or.inl (List.mem_of_getElem? (i := 2) rfl)) B rfl 2 (by decide) (by decide) rfl d_prog_7_method_15_code_41 rfl ?_
          refine Go.virtual (pc' := 45) W48 (rm_eqs G y2 u2 by2 bu2 cy2 cu2 cby2 cbu2 _ _ Sy2 Su2) (Or.inr (Or.inl (List.mem_of_getElem? (i := 8) rfl))) Sy2.1 (w_81 G) (w_82 G) (w_84 G) (w_83 G) (w_6 G) (w_85 G) (by decide) [] [8, 9, 10, 11] (σf := [(a, c), (p, cp), (o, co)]) rfl rfl [(.ref u2)] [] rfl (lenOf pd_14 rfl) rfl rfl d_prog_7_method_15_code_42 rfl (by first | exact Nat.le_of_ble_eq_true rfl | (simp; done) | (simp; omega) | omega) (by first | exact Nat.le_of_ble_eq_true rfl | (simp; done) | (simp; omega) | omega) (by first | exact Nat.le_of_ble_eq_true rfl | (simp; done) | (simp; omega) | omega) (by first | exact Nat.le_of_ble_eq_true rfl | (simp; done) | (simp; omega) | omega) ?_
          rintro _ _ _ T49 ⟨rfl, rfl, rfl⟩ W50
          replace W50 : Wk l Z EL1 ({ frames := 2, cells := 0, slots := 0, locals := 28 } : Room) "com/example/maswali/maswali/Renderer" prog_7_method_15_code 3 (some .boolean) "writtenIn" X [(a, c), (p, cp), (o, co)] [(y0, cy0), (by0, cby0), (u0, cu0), (bu0, cbu0), (y1, cy1), (by1, cby1), (u1, cu1), (bu1, cbu1), (y2, cy2), (by2, cby2), (u2, cu2), (bu2, cbu2)] T49 0 (0) := W50
          show Go Z EL1 _ _ _ X T49 45 #[.val (.ref a), .val (.ref o), .val (.int (2 : Int32))] [(.int (if xs2 = us2 then 1 else 0))]
          refine Go.if_ne (pc' := 48) W50 50 d_prog_7_method_15_code_45 (by decide) rfl (fun (c51 : ¬ ((if xs2 = us2 then 1 else 0) = 0)) => ?_) (fun (c51 : (if xs2 = us2 then 1 else 0) = 0) => ?_)
          · refine Go.iinc (pc' := 53) W50 (1 : Int32) #[.val (.ref a), .val (.ref o), .val (.int ((2 : Int32) + (1 : Int32)))] d_prog_7_method_15_code_50 rfl (by decide) rfl rfl ?_
            rw [show ((2 : Int32) + (1 : Int32) : Int32) = (3 : Int32) from by decide]
            refine Go.goto W50 13 d_prog_7_method_15_code_53 (by decide) ?_
            refine Go.iloadN (pc' := 14) W50 d_prog_7_method_15_code_13 rfl rfl ?_
            refine Go.aloadN (pc' := 15) W50 d_prog_7_method_15_code_14 rfl rfl rfl ?_
            refine Go.getfield (pc' := 18) W50 (Or.inl (List.mem_of_getElem? (i := 0) rfl)) (w_68 G) Via.refl M.2.2 d_prog_7_method_15_code_15 rfl (fun T52 W53 => ?_)
            refine Go.icmp_ge (pc' := 21) W53 56 d_prog_7_method_15_code_18 (by decide) rfl (fun _ => ?_) (fun q => absurd q (by decide))
            refine Go.iconst (pc' := 57) W53 (1 : Int32) d_prog_7_method_15_code_56 (by decide) rfl ?_
            have W54 := W53.perm (pick_perm [0, 0, 0] _ [(a, c), (p, cp), (o, co)] [] rfl)
            replace W54 : Wk l Z EL1 ({ frames := 2, cells := 0, slots := 0, locals := 28 } : Room) "com/example/maswali/maswali/Renderer" prog_7_method_15_code 3 (some .boolean) "writtenIn" X [(a, c), (p, cp), (o, co)] [(y0, cy0), (by0, cby0), (u0, cu0), (bu0, cbu0), (y1, cy1), (by1, cby1), (u1, cu1), (bu1, cbu1), (y2, cy2), (by2, cby2), (u2, cu2), (bu2, cbu2)] T52 0 (0) := W54
            have W55 := W54.keepRo [] (ρ' := []) rfl
            replace W55 : Wk l Z EL1 ({ frames := 2, cells := 0, slots := 0, locals := 28 } : Room) "com/example/maswali/maswali/Renderer" prog_7_method_15_code 3 (some .boolean) "writtenIn" X [(a, c), (p, cp), (o, co)] [] T52 0 (0) := W55
            refine Go.nret (z' := (1 : Int32)) W55 (by simp) (by decide) d_prog_7_method_15_code_57 (by first | exact Nat.le_of_ble_eq_true rfl | (simp; done) | (simp; omega) | omega) (by first | exact Nat.le_of_ble_eq_true rfl | (simp; done) | (simp; omega) | omega) ?_
            exact ⟨by simp_all, rfl, rfl⟩
          · refine Go.iconst (pc' := 49) W50 (0 : Int32) d_prog_7_method_15_code_48 (by decide) rfl ?_
            have W56 := W50.perm (pick_perm [0, 0, 0] _ [(a, c), (p, cp), (o, co)] [] rfl)
            replace W56 : Wk l Z EL1 ({ frames := 2, cells := 0, slots := 0, locals := 28 } : Room) "com/example/maswali/maswali/Renderer" prog_7_method_15_code 3 (some .boolean) "writtenIn" X [(a, c), (p, cp), (o, co)] [(y0, cy0), (by0, cby0), (u0, cu0), (bu0, cbu0), (y1, cy1), (by1, cby1), (u1, cu1), (bu1, cbu1), (y2, cy2), (by2, cby2), (u2, cu2), (bu2, cbu2)] T49 0 (0) := W56
            have W57 := W56.keepRo [] (ρ' := []) rfl
            replace W57 : Wk l Z EL1 ({ frames := 2, cells := 0, slots := 0, locals := 28 } : Room) "com/example/maswali/maswali/Renderer" prog_7_method_15_code 3 (some .boolean) "writtenIn" X [(a, c), (p, cp), (o, co)] [] T49 0 (0) := W57
            refine Go.nret (z' := (0 : Int32)) W57 (by simp) (by decide) d_prog_7_method_15_code_49 (by first | exact Nat.le_of_ble_eq_true rfl | (simp; done) | (simp; omega) | omega) (by first | exact Nat.le_of_ble_eq_true rfl | (simp; done) | (simp; omega) | omega) ?_
            exact ⟨by simp_all, rfl, rfl⟩
      · refine Go.iconst (pc' := 49) W36 (0 : Int32) d_prog_7_method_15_code_48 (by decide) rfl ?_
        have W58 := W36.perm (pick_perm [0, 0, 0] _ [(a, c), (p, cp), (o, co)] [] rfl)
        replace W58 : Wk l Z EL1 ({ frames := 2, cells := 0, slots := 0, locals := 28 } : Room) "com/example/maswali/maswali/Renderer" prog_7_method_15_code 3 (some .boolean) "writtenIn" X [(a, c), (p, cp), (o, co)] [(y0, cy0), (by0, cby0), (u0, cu0), (bu0, cbu0), (y1, cy1), (by1, cby1), (u1, cu1), (bu1, cbu1), (y2, cy2), (by2, cby2), (u2, cu2), (bu2, cbu2)] T35 0 (0) := W58
        have W59 := W58.keepRo [] (ρ' := []) rfl
        replace W59 : Wk l Z EL1 ({ frames := 2, cells := 0, slots := 0, locals := 28 } : Room) "com/example/maswali/maswali/Renderer" prog_7_method_15_code 3 (some .boolean) "writtenIn" X [(a, c), (p, cp), (o, co)] [] T35 0 (0) := W59
        refine Go.nret (z' := (0 : Int32)) W59 (by simp) (by decide) d_prog_7_method_15_code_49 (by first | exact Nat.le_of_ble_eq_true rfl | (simp; done) | (simp; omega) | omega) (by first | exact Nat.le_of_ble_eq_true rfl | (simp; done) | (simp; omega) | omega) ?_
        exact ⟨by simp_all, rfl, rfl⟩
  · refine Go.aloadN (pc' := 34) W6 d_prog_7_method_15_code_33 rfl rfl rfl ?_
    refine Go.getfield (pc' := 37) W6 (Or.inl (List.mem_of_getElem? (i := 0) rfl)) (w_46 G) Via.refl M.2.1 d_prog_7_method_15_code_34 rfl (fun T60 W61 => ?_)
    refine Go.iloadN (pc' := 38) W61 d_prog_7_method_15_code_37 rfl rfl ?_
    refine Go.aaload (pc' := 39) W61 (Or.inl (List.mem_of_getElem? (i := 1) rfl)) A rfl 0 (by decide) (by decide) hv0 d_prog_7_method_15_code_38 rfl ?_
    refine Go.aloadN (pc' := 40) W61 d_prog_7_method_15_code_39 rfl rfl rfl ?_
    refine Go.iloadN (pc' := 41) W61 d_prog_7_method_15_code_40 rfl rfl ?_
    refine Go.aaload (pc' := 42) W61 (Or.inl (List.mem_of_getElem? (i := 2) rfl)) B rfl 0 (by decide) (by decide) rfl d_prog_7_method_15_code_41 rfl ?_
    refine Go.virtual (pc' := 45) W61 (rm_eqs G y0 u0 by0 bu0 cy0 cu0 cby0 cbu0 _ _ Sy0 Su0) (Or.inr (Or.inl (List.mem_of_getElem? (i := 0) rfl))) Sy0.1 (w_81 G) (w_82 G) (w_84 G) (w_83 G) (w_6 G) (w_85 G) (by decide) [] [0, 1, 2, 3] (σf := [(a, c), (p, cp), (o, co)]) rfl rfl [(.ref u0)] [] rfl (lenOf pd_14 rfl) rfl rfl d_prog_7_method_15_code_42 rfl (by first | exact Nat.le_of_ble_eq_true rfl | (simp; done) | (simp; omega) | omega) (by first | exact Nat.le_of_ble_eq_true rfl | (simp; done) | (simp; omega) | omega) (by first | exact Nat.le_of_ble_eq_true rfl | (simp; done) | (simp; omega) | omega) (by first | exact Nat.le_of_ble_eq_true rfl | (simp; done) | (simp; omega) | omega) ?_
    rintro _ _ _ T62 ⟨rfl, rfl, rfl⟩ W63
    replace W63 : Wk l Z EL1 ({ frames := 2, cells := 0, slots := 0, locals := 28 } : Room) "com/example/maswali/maswali/Renderer" prog_7_method_15_code 3 (some .boolean) "writtenIn" X [(a, c), (p, cp), (o, co)] [(y0, cy0), (by0, cby0), (u0, cu0), (bu0, cbu0), (y1, cy1), (by1, cby1), (u1, cu1), (bu1, cbu1), (y2, cy2), (by2, cby2), (u2, cu2), (bu2, cbu2)] T62 0 (0) := W63
    show Go Z EL1 _ _ _ X T62 45 #[.val (.ref a), .val (.ref o), .val (.int (0 : Int32))] [(.int (if xs0 = us0 then 1 else 0))]
    refine Go.if_ne (pc' := 48) W63 50 d_prog_7_method_15_code_45 (by decide) rfl (fun (c64 : ¬ ((if xs0 = us0 then 1 else 0) = 0)) => ?_) (fun (c64 : (if xs0 = us0 then 1 else 0) = 0) => ?_)
    · refine Go.iinc (pc' := 53) W63 (1 : Int32) #[.val (.ref a), .val (.ref o), .val (.int ((0 : Int32) + (1 : Int32)))] d_prog_7_method_15_code_50 rfl (by decide) rfl rfl ?_
      rw [show ((0 : Int32) + (1 : Int32) : Int32) = (1 : Int32) from by decide]
      refine Go.goto W63 13 d_prog_7_method_15_code_53 (by decide) ?_
      refine Go.iloadN (pc' := 14) W63 d_prog_7_method_15_code_13 rfl rfl ?_
      refine Go.aloadN (pc' := 15) W63 d_prog_7_method_15_code_14 rfl rfl rfl ?_
      refine Go.getfield (pc' := 18) W63 (Or.inl (List.mem_of_getElem? (i := 0) rfl)) (w_68 G) Via.refl M.2.2 d_prog_7_method_15_code_15 rfl (fun T65 W66 => ?_)
      refine Go.icmp_ge (pc' := 21) W66 56 d_prog_7_method_15_code_18 (by decide) rfl (fun q => absurd (by decide) q) (fun _ => ?_)
      refine Go.aloadN (pc' := 22) W66 d_prog_7_method_15_code_21 rfl rfl rfl ?_
      refine Go.getfield (pc' := 25) W66 (Or.inl (List.mem_of_getElem? (i := 0) rfl)) (w_46 G) Via.refl M.2.1 d_prog_7_method_15_code_22 rfl (fun T67 W68 => ?_)
      refine Go.iloadN (pc' := 26) W68 d_prog_7_method_15_code_25 rfl rfl ?_
      refine Go.aaload (pc' := 27) W68 (Or.inl (List.mem_of_getElem? (i := 1) rfl)) A rfl 1 (by decide) (by decide) hv1 d_prog_7_method_15_code_26 rfl ?_
      refine Go.aloadN (pc' := 28) W68 d_prog_7_method_15_code_27 rfl rfl rfl ?_
      refine Go.iloadN (pc' := 29) W68 d_prog_7_method_15_code_28 rfl rfl ?_
      refine Go.aaload (pc' := 30) W68 (Or.inl (List.mem_of_getElem? (i := 2) rfl)) B rfl 1 (by decide) (by decide) rfl d_prog_7_method_15_code_29 rfl ?_
      refine Go.acmp_eq (pc' := 33) W68 50 rfl rfl d_prog_7_method_15_code_30 (by decide) rfl (fun hq => ?_) (fun _ => ?_)
      · have c69 : xs1 = us1 := StrL.uniq Sy1 Su1 (W68.cell (q := (y1, cy1)) (Or.inr (Or.inl (List.mem_of_getElem? (i := 4) rfl)))) (by have e := Value.ref.inj hq; rw [e]; exact W68.cell (q := (u1, cu1)) (Or.inr (Or.inl (List.mem_of_getElem? (i := 6) rfl)))) (W68.cell (q := (by1, cby1)) (Or.inr (Or.inl (List.mem_of_getElem? (i := 5) rfl)))) (W68.cell (q := (bu1, cbu1)) (Or.inr (Or.inl (List.mem_of_getElem? (i := 7) rfl))))
        refine Go.iinc (pc' := 53) W68 (1 : Int32) #[.val (.ref a), .val (.ref o), .val (.int ((1 : Int32) + (1 : Int32)))] d_prog_7_method_15_code_50 rfl (by decide) rfl rfl ?_
        rw [show ((1 : Int32) + (1 : Int32) : Int32) = (2 : Int32) from by decide]
        refine Go.goto W68 13 d_prog_7_method_15_code_53 (by decide) ?_
        refine Go.iloadN (pc' := 14) W68 d_prog_7_method_15_code_13 rfl rfl ?_
        refine Go.aloadN (pc' := 15) W68 d_prog_7_method_15_code_14 rfl rfl rfl ?_
        refine Go.getfield (pc' := 18) W68 (Or.inl (List.mem_of_getElem? (i := 0) rfl)) (w_68 G) Via.refl M.2.2 d_prog_7_method_15_code_15 rfl (fun T70 W71 => ?_)
        refine Go.icmp_ge (pc' := 21) W71 56 d_prog_7_method_15_code_18 (by decide) rfl (fun q => absurd (by decide) q) (fun _ => ?_)
        refine Go.aloadN (pc' := 22) W71 d_prog_7_method_15_code_21 rfl rfl rfl ?_
        refine Go.getfield (pc' := 25) W71 (Or.inl (List.mem_of_getElem? (i := 0) rfl)) (w_46 G) Via.refl M.2.1 d_prog_7_method_15_code_22 rfl (fun T72 W73 => ?_)
        refine Go.iloadN (pc' := 26) W73 d_prog_7_method_15_code_25 rfl rfl ?_
        refine Go.aaload (pc' := 27) W73 (Or.inl (List.mem_of_getElem? (i := 1) rfl)) A rfl 2 (by decide) (by decide) hv2 d_prog_7_method_15_code_26 rfl ?_
        refine Go.aloadN (pc' := 28) W73 d_prog_7_method_15_code_27 rfl rfl rfl ?_
        refine Go.iloadN (pc' := 29) W73 d_prog_7_method_15_code_28 rfl rfl ?_
        refine Go.aaload (pc' := 30) W73 (Or.inl (List.mem_of_getElem? (i := 2) rfl)) B rfl 2 (by decide) (by decide) rfl d_prog_7_method_15_code_29 rfl ?_
        refine Go.acmp_eq (pc' := 33) W73 50 rfl rfl d_prog_7_method_15_code_30 (by decide) rfl (fun hq => ?_) (fun _ => ?_)
        · have c74 : xs2 = us2 := StrL.uniq Sy2 Su2 (W73.cell (q := (y2, cy2)) (Or.inr (Or.inl (List.mem_of_getElem? (i := 8) rfl)))) (by have e := Value.ref.inj hq; rw [e]; exact W73.cell (q := (u2, cu2)) (Or.inr (Or.inl (List.mem_of_getElem? (i := 10) rfl)))) (W73.cell (q := (by2, cby2)) (Or.inr (Or.inl (List.mem_of_getElem? (i := 9) rfl)))) (W73.cell (q := (bu2, cbu2)) (Or.inr (Or.inl (List.mem_of_getElem? (i := 11) rfl))))
          refine Go.iinc (pc' := 53) W73 (1 : Int32) #[.val (.ref a), .val (.ref o), .val (.int ((2 : Int32) + (1 : Int32)))] d_prog_7_method_15_code_50 rfl (by decide) rfl rfl ?_
          rw [show ((2 : Int32) + (1 : Int32) : Int32) = (3 : Int32) from by decide]
          refine Go.goto W73 13 d_prog_7_method_15_code_53 (by decide) ?_
          refine Go.iloadN (pc' := 14) W73 d_prog_7_method_15_code_13 rfl rfl ?_
          refine Go.aloadN (pc' := 15) W73 d_prog_7_method_15_code_14 rfl rfl rfl ?_
          refine Go.getfield (pc' := 18) W73 (Or.inl (List.mem_of_getElem? (i := 0) rfl)) (w_68 G) Via.refl M.2.2 d_prog_7_method_15_code_15 rfl (fun T75 W76 => ?_)
          refine Go.icmp_ge (pc' := 21) W76 56 d_prog_7_method_15_code_18 (by decide) rfl (fun _ => ?_) (fun q => absurd q (by decide))
          refine Go.iconst (pc' := 57) W76 (1 : Int32) d_prog_7_method_15_code_56 (by decide) rfl ?_
          have W77 := W76.perm (pick_perm [0, 0, 0] _ [(a, c), (p, cp), (o, co)] [] rfl)
          replace W77 : Wk l Z EL1 ({ frames := 2, cells := 0, slots := 0, locals := 28 } : Room) "com/example/maswali/maswali/Renderer" prog_7_method_15_code 3 (some .boolean) "writtenIn" X [(a, c), (p, cp), (o, co)] [(y0, cy0), (by0, cby0), (u0, cu0), (bu0, cbu0), (y1, cy1), (by1, cby1), (u1, cu1), (bu1, cbu1), (y2, cy2), (by2, cby2), (u2, cu2), (bu2, cbu2)] T75 0 (0) := W77
          have W78 := W77.keepRo [] (ρ' := []) rfl
          replace W78 : Wk l Z EL1 ({ frames := 2, cells := 0, slots := 0, locals := 28 } : Room) "com/example/maswali/maswali/Renderer" prog_7_method_15_code 3 (some .boolean) "writtenIn" X [(a, c), (p, cp), (o, co)] [] T75 0 (0) := W78
          refine Go.nret (z' := (1 : Int32)) W78 (by simp) (by decide) d_prog_7_method_15_code_57 (by first | exact Nat.le_of_ble_eq_true rfl | (simp; done) | (simp; omega) | omega) (by first | exact Nat.le_of_ble_eq_true rfl | (simp; done) | (simp; omega) | omega) ?_
          exact ⟨by simp_all, rfl, rfl⟩
        · refine Go.aloadN (pc' := 34) W73 d_prog_7_method_15_code_33 rfl rfl rfl ?_
          refine Go.getfield (pc' := 37) W73 (Or.inl (List.mem_of_getElem? (i := 0) rfl)) (w_46 G) Via.refl M.2.1 d_prog_7_method_15_code_34 rfl (fun T79 W80 => ?_)
          refine Go.iloadN (pc' := 38) W80 d_prog_7_method_15_code_37 rfl rfl ?_
          refine Go.aaload (pc' := 39) W80 (Or.inl (List.mem_of_getElem? (i := 1) rfl)) A rfl 2 (by decide) (by decide) hv2 d_prog_7_method_15_code_38 rfl ?_
          refine Go.aloadN (pc' := 40) W80 d_prog_7_method_15_code_39 rfl rfl rfl ?_
          refine Go.iloadN (pc' := 41) W80 d_prog_7_method_15_code_40 rfl rfl ?_
          refine Go.aaload (pc' := 42) W80 (Or.inl (List.mem_of_getElem? (i := 2) rfl)) B rfl 2 (by decide) (by decide) rfl d_prog_7_method_15_code_41 rfl ?_
          refine Go.virtual (pc' := 45) W80 (rm_eqs G y2 u2 by2 bu2 cy2 cu2 cby2 cbu2 _ _ Sy2 Su2) (Or.inr (Or.inl (List.mem_of_getElem? (i := 8) rfl))) Sy2.1 (w_81 G) (w_82 G) (w_84 G) (w_83 G) (w_6 G) (w_85 G) (by decide) [] [8, 9, 10, 11] (σf := [(a, c), (p, cp), (o, co)]) rfl rfl [(.ref u2)] [] rfl (lenOf pd_14 rfl) rfl rfl d_prog_7_method_15_code_42 rfl (by first | exact Nat.le_of_ble_eq_true rfl | (simp; done) | (simp; omega) | omega) (by first | exact Nat.le_of_ble_eq_true rfl | (simp; done) | (simp; omega) | omega) (by first | exact Nat.le_of_ble_eq_true rfl | (simp; done) | (simp; omega) | omega) (by first | exact Nat.le_of_ble_eq_true rfl | (simp; done) | (simp; omega) | omega) ?_
          rintro _ _ _ T81 ⟨rfl, rfl, rfl⟩ W82
          replace W82 : Wk l Z EL1 ({ frames := 2, cells := 0, slots := 0, locals := 28 } : Room) "com/example/maswali/maswali/Renderer" prog_7_method_15_code 3 (some .boolean) "writtenIn" X [(a, c), (p, cp), (o, co)] [(y0, cy0), (by0, cby0), (u0, cu0), (bu0, cbu0), (y1, cy1), (by1, cby1), (u1, cu1), (bu1, cbu1), (y2, cy2), (by2, cby2), (u2, cu2), (bu2, cbu2)] T81 0 (0) := W82
          show Go Z EL1 _ _ _ X T81 45 #[.val (.ref a), .val (.ref o), .val (.int (2 : Int32))] [(.int (if xs2 = us2 then 1 else 0))]
          refine Go.if_ne (pc' := 48) W82 50 d_prog_7_method_15_code_45 (by decide) rfl (fun (c83 : ¬ ((if xs2 = us2 then 1 else 0) = 0)) => ?_) (fun (c83 : (if xs2 = us2 then 1 else 0) = 0) => ?_)
          · refine Go.iinc (pc' := 53) W82 (1 : Int32) #[.val (.ref a), .val (.ref o), .val (.int ((2 : Int32) + (1 : Int32)))] d_prog_7_method_15_code_50 rfl (by decide) rfl rfl ?_
            rw [show ((2 : Int32) + (1 : Int32) : Int32) = (3 : Int32) from by decide]
            refine Go.goto W82 13 d_prog_7_method_15_code_53 (by decide) ?_
            refine Go.iloadN (pc' := 14) W82 d_prog_7_method_15_code_13 rfl rfl ?_
            refine Go.aloadN (pc' := 15) W82 d_prog_7_method_15_code_14 rfl rfl rfl ?_
            refine Go.getfield (pc' := 18) W82 (Or.inl (List.mem_of_getElem? (i := 0) rfl)) (w_68 G) Via.refl M.2.2 d_prog_7_method_15_code_15 rfl (fun T84 W85 => ?_)
            refine Go.icmp_ge (pc' := 21) W85 56 d_prog_7_method_15_code_18 (by decide) rfl (fun _ => ?_) (fun q => absurd q (by decide))
            refine Go.iconst (pc' := 57) W85 (1 : Int32) d_prog_7_method_15_code_56 (by decide) rfl ?_
            have W86 := W85.perm (pick_perm [0, 0, 0] _ [(a, c), (p, cp), (o, co)] [] rfl)
            replace W86 : Wk l Z EL1 ({ frames := 2, cells := 0, slots := 0, locals := 28 } : Room) "com/example/maswali/maswali/Renderer" prog_7_method_15_code 3 (some .boolean) "writtenIn" X [(a, c), (p, cp), (o, co)] [(y0, cy0), (by0, cby0), (u0, cu0), (bu0, cbu0), (y1, cy1), (by1, cby1), (u1, cu1), (bu1, cbu1), (y2, cy2), (by2, cby2), (u2, cu2), (bu2, cbu2)] T84 0 (0) := W86
            have W87 := W86.keepRo [] (ρ' := []) rfl
            replace W87 : Wk l Z EL1 ({ frames := 2, cells := 0, slots := 0, locals := 28 } : Room) "com/example/maswali/maswali/Renderer" prog_7_method_15_code 3 (some .boolean) "writtenIn" X [(a, c), (p, cp), (o, co)] [] T84 0 (0) := W87
            refine Go.nret (z' := (1 : Int32)) W87 (by simp) (by decide) d_prog_7_method_15_code_57 (by first | exact Nat.le_of_ble_eq_true rfl | (simp; done) | (simp; omega) | omega) (by first | exact Nat.le_of_ble_eq_true rfl | (simp; done) | (simp; omega) | omega) ?_
            exact ⟨by simp_all, rfl, rfl⟩
          · refine Go.iconst (pc' := 49) W82 (0 : Int32) d_prog_7_method_15_code_48 (by decide) rfl ?_
            have W88 := W82.perm (pick_perm [0, 0, 0] _ [(a, c), (p, cp), (o, co)] [] rfl)
            replace W88 : Wk l Z EL1 ({ frames := 2, cells := 0, slots := 0, locals := 28 } : Room) "com/example/maswali/maswali/Renderer" prog_7_method_15_code 3 (some .boolean) "writtenIn" X [(a, c), (p, cp), (o, co)] [(y0, cy0), (by0, cby0), (u0, cu0), (bu0, cbu0), (y1, cy1), (by1, cby1), (u1, cu1), (bu1, cbu1), (y2, cy2), (by2, cby2), (u2, cu2), (bu2, cbu2)] T81 0 (0) := W88
            have W89 := W88.keepRo [] (ρ' := []) rfl
            replace W89 : Wk l Z EL1 ({ frames := 2, cells := 0, slots := 0, locals := 28 } : Room) "com/example/maswali/maswali/Renderer" prog_7_method_15_code 3 (some .boolean) "writtenIn" X [(a, c), (p, cp), (o, co)] [] T81 0 (0) := W89
            refine Go.nret (z' := (0 : Int32)) W89 (by simp) (by decide) d_prog_7_method_15_code_49 (by first | exact Nat.le_of_ble_eq_true rfl | (simp; done) | (simp; omega) | omega) (by first | exact Nat.le_of_ble_eq_true rfl | (simp; done) | (simp; omega) | omega) ?_
            exact ⟨by simp_all, rfl, rfl⟩
      · refine Go.aloadN (pc' := 34) W68 d_prog_7_method_15_code_33 rfl rfl rfl ?_
        refine Go.getfield (pc' := 37) W68 (Or.inl (List.mem_of_getElem? (i := 0) rfl)) (w_46 G) Via.refl M.2.1 d_prog_7_method_15_code_34 rfl (fun T90 W91 => ?_)
        refine Go.iloadN (pc' := 38) W91 d_prog_7_method_15_code_37 rfl rfl ?_
        refine Go.aaload (pc' := 39) W91 (Or.inl (List.mem_of_getElem? (i := 1) rfl)) A rfl 1 (by decide) (by decide) hv1 d_prog_7_method_15_code_38 rfl ?_
        refine Go.aloadN (pc' := 40) W91 d_prog_7_method_15_code_39 rfl rfl rfl ?_
        refine Go.iloadN (pc' := 41) W91 d_prog_7_method_15_code_40 rfl rfl ?_
        refine Go.aaload (pc' := 42) W91 (Or.inl (List.mem_of_getElem? (i := 2) rfl)) B rfl 1 (by decide) (by decide) rfl d_prog_7_method_15_code_41 rfl ?_
        refine Go.virtual (pc' := 45) W91 (rm_eqs G y1 u1 by1 bu1 cy1 cu1 cby1 cbu1 _ _ Sy1 Su1) (Or.inr (Or.inl (List.mem_of_getElem? (i := 4) rfl))) Sy1.1 (w_81 G) (w_82 G) (w_84 G) (w_83 G) (w_6 G) (w_85 G) (by decide) [] [4, 5, 6, 7] (σf := [(a, c), (p, cp), (o, co)]) rfl rfl [(.ref u1)] [] rfl (lenOf pd_14 rfl) rfl rfl d_prog_7_method_15_code_42 rfl (by first | exact Nat.le_of_ble_eq_true rfl | (simp; done) | (simp; omega) | omega) (by first | exact Nat.le_of_ble_eq_true rfl | (simp; done) | (simp; omega) | omega) (by first | exact Nat.le_of_ble_eq_true rfl | (simp; done) | (simp; omega) | omega) (by first | exact Nat.le_of_ble_eq_true rfl | (simp; done) | (simp; omega) | omega) ?_
        rintro _ _ _ T92 ⟨rfl, rfl, rfl⟩ W93
        replace W93 : Wk l Z EL1 ({ frames := 2, cells := 0, slots := 0, locals := 28 } : Room) "com/example/maswali/maswali/Renderer" prog_7_method_15_code 3 (some .boolean) "writtenIn" X [(a, c), (p, cp), (o, co)] [(y0, cy0), (by0, cby0), (u0, cu0), (bu0, cbu0), (y1, cy1), (by1, cby1), (u1, cu1), (bu1, cbu1), (y2, cy2), (by2, cby2), (u2, cu2), (bu2, cbu2)] T92 0 (0) := W93
        show Go Z EL1 _ _ _ X T92 45 #[.val (.ref a), .val (.ref o), .val (.int (1 : Int32))] [(.int (if xs1 = us1 then 1 else 0))]
        refine Go.if_ne (pc' := 48) W93 50 d_prog_7_method_15_code_45 (by decide) rfl (fun (c94 : ¬ ((if xs1 = us1 then 1 else 0) = 0)) => ?_) (fun (c94 : (if xs1 = us1 then 1 else 0) = 0) => ?_)
        · refine Go.iinc (pc' := 53) W93 (1 : Int32) #[.val (.ref a), .val (.ref o), .val (.int ((1 : Int32) + (1 : Int32)))] d_prog_7_method_15_code_50 rfl (by decide) rfl rfl ?_
          rw [show ((1 : Int32) + (1 : Int32) : Int32) = (2 : Int32) from by decide]
          refine Go.goto W93 13 d_prog_7_method_15_code_53 (by decide) ?_
          refine Go.iloadN (pc' := 14) W93 d_prog_7_method_15_code_13 rfl rfl ?_
          refine Go.aloadN (pc' := 15) W93 d_prog_7_method_15_code_14 rfl rfl rfl ?_
          refine Go.getfield (pc' := 18) W93 (Or.inl (List.mem_of_getElem? (i := 0) rfl)) (w_68 G) Via.refl M.2.2 d_prog_7_method_15_code_15 rfl (fun T95 W96 => ?_)
          refine Go.icmp_ge (pc' := 21) W96 56 d_prog_7_method_15_code_18 (by decide) rfl (fun q => absurd (by decide) q) (fun _ => ?_)
          refine Go.aloadN (pc' := 22) W96 d_prog_7_method_15_code_21 rfl rfl rfl ?_
          refine Go.getfield (pc' := 25) W96 (Or.inl (List.mem_of_getElem? (i := 0) rfl)) (w_46 G) Via.refl M.2.1 d_prog_7_method_15_code_22 rfl (fun T97 W98 => ?_)
          refine Go.iloadN (pc' := 26) W98 d_prog_7_method_15_code_25 rfl rfl ?_
          refine Go.aaload (pc' := 27) W98 (Or.inl (List.mem_of_getElem? (i := 1) rfl)) A rfl 2 (by decide) (by decide) hv2 d_prog_7_method_15_code_26 rfl ?_
          refine Go.aloadN (pc' := 28) W98 d_prog_7_method_15_code_27 rfl rfl rfl ?_
          refine Go.iloadN (pc' := 29) W98 d_prog_7_method_15_code_28 rfl rfl ?_
          refine Go.aaload (pc' := 30) W98 (Or.inl (List.mem_of_getElem? (i := 2) rfl)) B rfl 2 (by decide) (by decide) rfl d_prog_7_method_15_code_29 rfl ?_
          refine Go.acmp_eq (pc' := 33) W98 50 rfl rfl d_prog_7_method_15_code_30 (by decide) rfl (fun hq => ?_) (fun _ => ?_)
          · have c99 : xs2 = us2 := StrL.uniq Sy2 Su2 (W98.cell (q := (y2, cy2)) (Or.inr (Or.inl (List.mem_of_getElem? (i := 8) rfl)))) (by have e := Value.ref.inj hq; rw [e]; exact W98.cell (q := (u2, cu2)) (Or.inr (Or.inl (List.mem_of_getElem? (i := 10) rfl)))) (W98.cell (q := (by2, cby2)) (Or.inr (Or.inl (List.mem_of_getElem? (i := 9) rfl)))) (W98.cell (q := (bu2, cbu2)) (Or.inr (Or.inl (List.mem_of_getElem? (i := 11) rfl))))
            refine Go.iinc (pc' := 53) W98 (1 : Int32) #[.val (.ref a), .val (.ref o), .val (.int ((2 : Int32) + (1 : Int32)))] d_prog_7_method_15_code_50 rfl (by decide) rfl rfl ?_
            rw [show ((2 : Int32) + (1 : Int32) : Int32) = (3 : Int32) from by decide]
            refine Go.goto W98 13 d_prog_7_method_15_code_53 (by decide) ?_
            refine Go.iloadN (pc' := 14) W98 d_prog_7_method_15_code_13 rfl rfl ?_
            refine Go.aloadN (pc' := 15) W98 d_prog_7_method_15_code_14 rfl rfl rfl ?_
            refine Go.getfield (pc' := 18) W98 (Or.inl (List.mem_of_getElem? (i := 0) rfl)) (w_68 G) Via.refl M.2.2 d_prog_7_method_15_code_15 rfl (fun T100 W101 => ?_)
            refine Go.icmp_ge (pc' := 21) W101 56 d_prog_7_method_15_code_18 (by decide) rfl (fun _ => ?_) (fun q => absurd q (by decide))
            refine Go.iconst (pc' := 57) W101 (1 : Int32) d_prog_7_method_15_code_56 (by decide) rfl ?_
            have W102 := W101.perm (pick_perm [0, 0, 0] _ [(a, c), (p, cp), (o, co)] [] rfl)
            replace W102 : Wk l Z EL1 ({ frames := 2, cells := 0, slots := 0, locals := 28 } : Room) "com/example/maswali/maswali/Renderer" prog_7_method_15_code 3 (some .boolean) "writtenIn" X [(a, c), (p, cp), (o, co)] [(y0, cy0), (by0, cby0), (u0, cu0), (bu0, cbu0), (y1, cy1), (by1, cby1), (u1, cu1), (bu1, cbu1), (y2, cy2), (by2, cby2), (u2, cu2), (bu2, cbu2)] T100 0 (0) := W102
            have W103 := W102.keepRo [] (ρ' := []) rfl
            replace W103 : Wk l Z EL1 ({ frames := 2, cells := 0, slots := 0, locals := 28 } : Room) "com/example/maswali/maswali/Renderer" prog_7_method_15_code 3 (some .boolean) "writtenIn" X [(a, c), (p, cp), (o, co)] [] T100 0 (0) := W103
            refine Go.nret (z' := (1 : Int32)) W103 (by simp) (by decide) d_prog_7_method_15_code_57 (by first | exact Nat.le_of_ble_eq_true rfl | (simp; done) | (simp; omega) | omega) (by first | exact Nat.le_of_ble_eq_true rfl | (simp; done) | (simp; omega) | omega) ?_
            exact ⟨by simp_all, rfl, rfl⟩
          · refine Go.aloadN (pc' := 34) W98 d_prog_7_method_15_code_33 rfl rfl rfl ?_
            refine Go.getfield (pc' := 37) W98 (Or.inl (List.mem_of_getElem? (i := 0) rfl)) (w_46 G) Via.refl M.2.1 d_prog_7_method_15_code_34 rfl (fun T104 W105 => ?_)
            refine Go.iloadN (pc' := 38) W105 d_prog_7_method_15_code_37 rfl rfl ?_
            refine Go.aaload (pc' := 39) W105 (Or.inl (List.mem_of_getElem? (i := 1) rfl)) A rfl 2 (by decide) (by decide) hv2 d_prog_7_method_15_code_38 rfl ?_
            refine Go.aloadN (pc' := 40) W105 d_prog_7_method_15_code_39 rfl rfl rfl ?_
            refine Go.iloadN (pc' := 41) W105 d_prog_7_method_15_code_40 rfl rfl ?_
            refine Go.aaload (pc' := 42) W105 (Or.inl (List.mem_of_getElem? (i := 2) rfl)) B rfl 2 (by decide) (by decide) rfl d_prog_7_method_15_code_41 rfl ?_
            refine Go.virtual (pc' := 45) W105 (rm_eqs G y2 u2 by2 bu2 cy2 cu2 cby2 cbu2 _ _ Sy2 Su2) (Or.inr (Or.inl (List.mem_of_getElem? (i := 8) rfl))) Sy2.1 (w_81 G) (w_82 G) (w_84 G) (w_83 G) (w_6 G) (w_85 G) (by decide) [] [8, 9, 10, 11] (σf := [(a, c), (p, cp), (o, co)]) rfl rfl [(.ref u2)] [] rfl (lenOf pd_14 rfl) rfl rfl d_prog_7_method_15_code_42 rfl (by first | exact Nat.le_of_ble_eq_true rfl | (simp; done) | (simp; omega) | omega) (by first | exact Nat.le_of_ble_eq_true rfl | (simp; done) | (simp; omega) | omega) (by first | exact Nat.le_of_ble_eq_true rfl | (simp; done) | (simp; omega) | omega) (by first | exact Nat.le_of_ble_eq_true rfl | (simp; done) | (simp; omega) | omega) ?_
            rintro _ _ _ T106 ⟨rfl, rfl, rfl⟩ W107
            replace W107 : Wk l Z EL1 ({ frames := 2, cells := 0, slots := 0, locals := 28 } : Room) "com/example/maswali/maswali/Renderer" prog_7_method_15_code 3 (some .boolean) "writtenIn" X [(a, c), (p, cp), (o, co)] [(y0, cy0), (by0, cby0), (u0, cu0), (bu0, cbu0), (y1, cy1), (by1, cby1), (u1, cu1), (bu1, cbu1), (y2, cy2), (by2, cby2), (u2, cu2), (bu2, cbu2)] T106 0 (0) := W107
            show Go Z EL1 _ _ _ X T106 45 #[.val (.ref a), .val (.ref o), .val (.int (2 : Int32))] [(.int (if xs2 = us2 then 1 else 0))]
            refine Go.if_ne (pc' := 48) W107 50 d_prog_7_method_15_code_45 (by decide) rfl (fun (c108 : ¬ ((if xs2 = us2 then 1 else 0) = 0)) => ?_) (fun (c108 : (if xs2 = us2 then 1 else 0) = 0) => ?_)
            · refine Go.iinc (pc' := 53) W107 (1 : Int32) #[.val (.ref a), .val (.ref o), .val (.int ((2 : Int32) + (1 : Int32)))] d_prog_7_method_15_code_50 rfl (by decide) rfl rfl ?_
              rw [show ((2 : Int32) + (1 : Int32) : Int32) = (3 : Int32) from by decide]
              refine Go.goto W107 13 d_prog_7_method_15_code_53 (by decide) ?_
              refine Go.iloadN (pc' := 14) W107 d_prog_7_method_15_code_13 rfl rfl ?_
              refine Go.aloadN (pc' := 15) W107 d_prog_7_method_15_code_14 rfl rfl rfl ?_
              refine Go.getfield (pc' := 18) W107 (Or.inl (List.mem_of_getElem? (i := 0) rfl)) (w_68 G) Via.refl M.2.2 d_prog_7_method_15_code_15 rfl (fun T109 W110 => ?_)
              refine Go.icmp_ge (pc' := 21) W110 56 d_prog_7_method_15_code_18 (by decide) rfl (fun _ => ?_) (fun q => absurd q (by decide))
              refine Go.iconst (pc' := 57) W110 (1 : Int32) d_prog_7_method_15_code_56 (by decide) rfl ?_
              have W111 := W110.perm (pick_perm [0, 0, 0] _ [(a, c), (p, cp), (o, co)] [] rfl)
              replace W111 : Wk l Z EL1 ({ frames := 2, cells := 0, slots := 0, locals := 28 } : Room) "com/example/maswali/maswali/Renderer" prog_7_method_15_code 3 (some .boolean) "writtenIn" X [(a, c), (p, cp), (o, co)] [(y0, cy0), (by0, cby0), (u0, cu0), (bu0, cbu0), (y1, cy1), (by1, cby1), (u1, cu1), (bu1, cbu1), (y2, cy2), (by2, cby2), (u2, cu2), (bu2, cbu2)] T109 0 (0) := W111
              have W112 := W111.keepRo [] (ρ' := []) rfl
              replace W112 : Wk l Z EL1 ({ frames := 2, cells := 0, slots := 0, locals := 28 } : Room) "com/example/maswali/maswali/Renderer" prog_7_method_15_code 3 (some .boolean) "writtenIn" X [(a, c), (p, cp), (o, co)] [] T109 0 (0) := W112
              refine Go.nret (z' := (1 : Int32)) W112 (by simp) (by decide) d_prog_7_method_15_code_57 (by first | exact Nat.le_of_ble_eq_true rfl | (simp; done) | (simp; omega) | omega) (by first | exact Nat.le_of_ble_eq_true rfl | (simp; done) | (simp; omega) | omega) ?_
              exact ⟨by simp_all, rfl, rfl⟩
            · refine Go.iconst (pc' := 49) W107 (0 : Int32) d_prog_7_method_15_code_48 (by decide) rfl ?_
              have W113 := W107.perm (pick_perm [0, 0, 0] _ [(a, c), (p, cp), (o, co)] [] rfl)
              replace W113 : Wk l Z EL1 ({ frames := 2, cells := 0, slots := 0, locals := 28 } : Room) "com/example/maswali/maswali/Renderer" prog_7_method_15_code 3 (some .boolean) "writtenIn" X [(a, c), (p, cp), (o, co)] [(y0, cy0), (by0, cby0), (u0, cu0), (bu0, cbu0), (y1, cy1), (by1, cby1), (u1, cu1), (bu1, cbu1), (y2, cy2), (by2, cby2), (u2, cu2), (bu2, cbu2)] T106 0 (0) := W113
              have W114 := W113.keepRo [] (ρ' := []) rfl
              replace W114 : Wk l Z EL1 ({ frames := 2, cells := 0, slots := 0, locals := 28 } : Room) "com/example/maswali/maswali/Renderer" prog_7_method_15_code 3 (some .boolean) "writtenIn" X [(a, c), (p, cp), (o, co)] [] T106 0 (0) := W114
              refine Go.nret (z' := (0 : Int32)) W114 (by simp) (by decide) d_prog_7_method_15_code_49 (by first | exact Nat.le_of_ble_eq_true rfl | (simp; done) | (simp; omega) | omega) (by first | exact Nat.le_of_ble_eq_true rfl | (simp; done) | (simp; omega) | omega) ?_
              exact ⟨by simp_all, rfl, rfl⟩
        · refine Go.iconst (pc' := 49) W93 (0 : Int32) d_prog_7_method_15_code_48 (by decide) rfl ?_
          have W115 := W93.perm (pick_perm [0, 0, 0] _ [(a, c), (p, cp), (o, co)] [] rfl)
          replace W115 : Wk l Z EL1 ({ frames := 2, cells := 0, slots := 0, locals := 28 } : Room) "com/example/maswali/maswali/Renderer" prog_7_method_15_code 3 (some .boolean) "writtenIn" X [(a, c), (p, cp), (o, co)] [(y0, cy0), (by0, cby0), (u0, cu0), (bu0, cbu0), (y1, cy1), (by1, cby1), (u1, cu1), (bu1, cbu1), (y2, cy2), (by2, cby2), (u2, cu2), (bu2, cbu2)] T92 0 (0) := W115
          have W116 := W115.keepRo [] (ρ' := []) rfl
          replace W116 : Wk l Z EL1 ({ frames := 2, cells := 0, slots := 0, locals := 28 } : Room) "com/example/maswali/maswali/Renderer" prog_7_method_15_code 3 (some .boolean) "writtenIn" X [(a, c), (p, cp), (o, co)] [] T92 0 (0) := W116
          refine Go.nret (z' := (0 : Int32)) W116 (by simp) (by decide) d_prog_7_method_15_code_49 (by first | exact Nat.le_of_ble_eq_true rfl | (simp; done) | (simp; omega) | omega) (by first | exact Nat.le_of_ble_eq_true rfl | (simp; done) | (simp; omega) | omega) ?_
          exact ⟨by simp_all, rfl, rfl⟩
    · refine Go.iconst (pc' := 49) W63 (0 : Int32) d_prog_7_method_15_code_48 (by decide) rfl ?_
      have W117 := W63.perm (pick_perm [0, 0, 0] _ [(a, c), (p, cp), (o, co)] [] rfl)
      replace W117 : Wk l Z EL1 ({ frames := 2, cells := 0, slots := 0, locals := 28 } : Room) "com/example/maswali/maswali/Renderer" prog_7_method_15_code 3 (some .boolean) "writtenIn" X [(a, c), (p, cp), (o, co)] [(y0, cy0), (by0, cby0), (u0, cu0), (bu0, cbu0), (y1, cy1), (by1, cby1), (u1, cu1), (bu1, cbu1), (y2, cy2), (by2, cby2), (u2, cu2), (bu2, cbu2)] T62 0 (0) := W117
      have W118 := W117.keepRo [] (ρ' := []) rfl
      replace W118 : Wk l Z EL1 ({ frames := 2, cells := 0, slots := 0, locals := 28 } : Room) "com/example/maswali/maswali/Renderer" prog_7_method_15_code 3 (some .boolean) "writtenIn" X [(a, c), (p, cp), (o, co)] [] T62 0 (0) := W118
      refine Go.nret (z' := (0 : Int32)) W118 (by simp) (by decide) d_prog_7_method_15_code_49 (by first | exact Nat.le_of_ble_eq_true rfl | (simp; done) | (simp; omega) | omega) (by first | exact Nat.le_of_ble_eq_true rfl | (simp; done) | (simp; omega) | omega) ?_
      exact ⟨by simp_all, rfl, rfl⟩
theorem d_code_43 : decode code 43 = .ok (.iload 10, 2) := by decide +kernel
theorem d_code_45 : decode code 45 = .ok (.anewarray 7, 3) := by decide +kernel
theorem d_code_48 : decode code 48 = .ok (.astore 11, 2) := by decide +kernel
theorem d_code_50 : decode code 50 = .ok (.iload 10, 2) := by decide +kernel
theorem d_code_52 : decode code 52 = .ok (.ifCond .le 34, 3) := by decide +kernel
theorem d_code_86 : decode code 86 = .ok (.iload 10, 2) := by decide +kernel
theorem d_code_88 : decode code 88 = .ok (.iconst 1, 1) := by decide +kernel
theorem d_code_89 : decode code 89 = .ok (.if_icmp .le 41, 3) := by decide +kernel
theorem d_code_130 : decode code 130 = .ok (.iload 10, 2) := by decide +kernel
theorem d_code_132 : decode code 132 = .ok (.iconst 2, 1) := by decide +kernel
theorem d_code_133 : decode code 133 = .ok (.if_icmp .le 43, 3) := by decide +kernel
theorem d_code_176 : decode code 176 = .ok (.new 22, 3) := by decide +kernel
theorem w_35 {Z : State} {a0 : Array Value} (G : Cl Z a0) : (Jvm.Cond.classLink "com/example/maswali/maswali/RendererWrittenInPinLaw" 22 "com/example/maswali/maswali/Renderer").before a0 Z = true := G.1 _ (List.mem_of_getElem? (l := tables_1) (i := 35) rfl)
theorem w_37 {Z : State} {a0 : Array Value} (G : Cl Z a0) : (Jvm.Cond.initialized "com/example/maswali/maswali/Renderer").before a0 Z = true := G.1 _ (List.mem_of_getElem? (l := tables_1) (i := 37) rfl)
theorem d_code_179 : decode code 179 = .ok (.dup, 1) := by decide +kernel
theorem d_code_180 : decode code 180 = .ok (.getstatic 24, 3) := by decide +kernel
theorem w_38 {Z : State} {a0 : Array Value} (G : Cl Z a0) : (Jvm.Cond.fieldLink "com/example/maswali/maswali/RendererWrittenInPinLaw" 24 "com/example/maswali/maswali/Dialect" "POSTGRES" "Lcom/example/maswali/maswali/Dialect;").before a0 Z = true := G.1 _ (List.mem_of_getElem? (l := tables_1) (i := 38) rfl)
theorem d_code_183 : decode code 183 = .ok (.invokespecial 30, 3) := by decide +kernel
theorem w_41 {Z : State} {a0 : Array Value} (G : Cl Z a0) : (Jvm.Cond.methodLink "com/example/maswali/maswali/RendererWrittenInPinLaw" 30 (⟨"com/example/maswali/maswali/Renderer", "<init>", "(Lcom/example/maswali/maswali/Dialect;)V"⟩ : MethodName)).before a0 Z = true := G.1 _ (List.mem_of_getElem? (l := tables_1) (i := 41) rfl)
theorem w_43 {Z : State} {a0 : Array Value} (G : Cl Z a0) : (Jvm.Cond.code (⟨"com/example/maswali/maswali/Renderer", "<init>", "(Lcom/example/maswali/maswali/Dialect;)V"⟩ : MethodName) prog_7_method_1_code 2 none).before a0 Z = true := G.1 _ (List.mem_of_getElem? (l := tables_1) (i := 43) rfl)
theorem pd_15 : parseMethodDescriptor "(Lcom/example/maswali/maswali/Dialect;)V" = some ⟨[(.object "com/example/maswali/maswali/Dialect")], none⟩ := by decide +kernel
theorem w_42 {Z : State} {a0 : Array Value} (G : Cl Z a0) : (Jvm.Cond.instanceMethod (⟨"com/example/maswali/maswali/Renderer", "<init>", "(Lcom/example/maswali/maswali/Dialect;)V"⟩ : MethodName)).before a0 Z = true := G.1 _ (List.mem_of_getElem? (l := tables_1) (i := 42) rfl)
theorem d_code_186 : decode code 186 = .ok (.astore 12, 2) := by decide +kernel
theorem d_code_188 : decode code 188 = .ok (.iload 9, 2) := by decide +kernel
theorem d_code_190 : decode code 190 = .ok (.ifCond .le 10, 3) := by decide +kernel
theorem d_code_200 : decode code 200 = .ok (.iload 9, 2) := by decide +kernel
theorem d_code_202 : decode code 202 = .ok (.iconst 1, 1) := by decide +kernel
theorem d_code_203 : decode code 203 = .ok (.if_icmp .le 10, 3) := by decide +kernel
theorem d_code_213 : decode code 213 = .ok (.iload 9, 2) := by decide +kernel
theorem d_code_215 : decode code 215 = .ok (.iconst 2, 1) := by decide +kernel
theorem d_code_216 : decode code 216 = .ok (.if_icmp .le 10, 3) := by decide +kernel
theorem d_code_226 : decode code 226 = .ok (.aload 12, 2) := by decide +kernel
theorem d_code_228 : decode code 228 = .ok (.aload 11, 2) := by decide +kernel
theorem d_code_230 : decode code 230 = .ok (.invokevirtual 37, 3) := by decide +kernel
theorem w_63 {Z : State} {a0 : Array Value} (G : Cl Z a0) : (Jvm.Cond.methodLink "com/example/maswali/maswali/RendererWrittenInPinLaw" 37 (⟨"com/example/maswali/maswali/Renderer", "writtenIn", "([Ljava/lang/String;)Z"⟩ : MethodName)).before a0 Z = true := G.1 _ (List.mem_of_getElem? (l := tables_1) (i := 63) rfl)
theorem w_67 {Z : State} {a0 : Array Value} (G : Cl Z a0) : (Jvm.Cond.code (⟨"com/example/maswali/maswali/Renderer", "writtenIn", "([Ljava/lang/String;)Z"⟩ : MethodName) prog_7_method_15_code 3 (some .boolean)).before a0 Z = true := G.1 _ (List.mem_of_getElem? (l := tables_1) (i := 67) rfl)
theorem pd_16 : parseMethodDescriptor "([Ljava/lang/String;)Z" = some ⟨[(.array (.object "java/lang/String"))], some .boolean⟩ := by decide +kernel
theorem w_64 {Z : State} {a0 : Array Value} (G : Cl Z a0) : (Jvm.Cond.declares (⟨"com/example/maswali/maswali/Renderer", "writtenIn", "([Ljava/lang/String;)Z"⟩ : MethodName)).before a0 Z = true := G.1 _ (List.mem_of_getElem? (l := tables_1) (i := 64) rfl)
theorem w_66 {Z : State} {a0 : Array Value} (G : Cl Z a0) : (Jvm.Cond.selects "com/example/maswali/maswali/Renderer" (⟨"com/example/maswali/maswali/Renderer", "writtenIn", "([Ljava/lang/String;)Z"⟩ : MethodName) (⟨"com/example/maswali/maswali/Renderer", "writtenIn", "([Ljava/lang/String;)Z"⟩ : MethodName)).before a0 Z = true := G.1 _ (List.mem_of_getElem? (l := tables_1) (i := 66) rfl)
theorem w_65 {Z : State} {a0 : Array Value} (G : Cl Z a0) : (Jvm.Cond.instanceMethod (⟨"com/example/maswali/maswali/Renderer", "writtenIn", "([Ljava/lang/String;)Z"⟩ : MethodName)).before a0 Z = true := G.1 _ (List.mem_of_getElem? (l := tables_1) (i := 65) rfl)
theorem d_code_233 : decode code 233 = .ok (.istore 13, 2) := by decide +kernel
theorem d_code_235 : decode code 235 = .ok (.iload 10, 2) := by decide +kernel
theorem d_code_237 : decode code 237 = .ok (.iload 9, 2) := by decide +kernel
theorem d_code_239 : decode code 239 = .ok (.if_icmp .ne 61, 3) := by decide +kernel
theorem d_code_242 : decode code 242 = .ok (.iload 9, 2) := by decide +kernel
theorem d_code_244 : decode code 244 = .ok (.iconst 1, 1) := by decide +kernel
theorem d_code_245 : decode code 245 = .ok (.if_icmp .lt 15, 3) := by decide +kernel
theorem d_code_260 : decode code 260 = .ok (.iload 9, 2) := by decide +kernel
theorem d_code_262 : decode code 262 = .ok (.iconst 2, 1) := by decide +kernel
theorem d_code_263 : decode code 263 = .ok (.if_icmp .lt 15, 3) := by decide +kernel
theorem d_code_278 : decode code 278 = .ok (.iload 9, 2) := by decide +kernel
theorem d_code_280 : decode code 280 = .ok (.iconst 3, 1) := by decide +kernel
theorem d_code_281 : decode code 281 = .ok (.if_icmp .lt 15, 3) := by decide +kernel
theorem d_code_296 : decode code 296 = .ok (.iconst 1, 1) := by decide +kernel
theorem d_code_297 : decode code 297 = .ok (.goto 4, 3) := by decide +kernel
theorem d_code_301 : decode code 301 = .ok (.istore 14, 2) := by decide +kernel
theorem d_code_303 : decode code 303 = .ok (.iload 13, 2) := by decide +kernel
theorem d_code_305 : decode code 305 = .ok (.iload 14, 2) := by decide +kernel
theorem d_code_307 : decode code 307 = .ok (.if_icmp .ne 7, 3) := by decide +kernel
theorem d_code_314 : decode code 314 = .ok (.iconst 0, 1) := by decide +kernel
theorem d_code_315 : decode code 315 = .ok (.ireturn, 1) := by decide +kernel
theorem d_code_310 : decode code 310 = .ok (.iconst 1, 1) := by decide +kernel
theorem d_code_311 : decode code 311 = .ok (.goto 4, 3) := by decide +kernel
set_option maxRecDepth 65536 in
set_option maxHeartbeats 40000000 in
theorem rm_t00 {l : Launch} {Z : State} {a0 : Array Value} (G : Cl Z a0) (counts ka kb kc modes x : Int32) (nv : Value) (hnv : nv.isRef = true) (Sn : Sta Z Z.heap "com/example/maswali/maswali/BindValues" "NONE" "[Ljava/lang/Object;" nv) (da : Addr) (Sd : Sta Z Z.heap "com/example/maswali/maswali/Dialect" "POSTGRES" "Lcom/example/maswali/maswali/Dialect;" (.ref da)) (p0 b0 p1 b1 p2 b2 : Addr) (d0 e0 d1 e1 d2 e2 : Cell) (S0 : StrL Z d0 b0 e0 (strF ka)) (S1 : StrL Z d1 b1 e1 (strF kb)) (S2 : StrL Z d2 b2 e2 (strF kc)) {X : Ctx} {T0 : State} (W0 : Wk l Z EL1 ({ frames := 9, cells := 56, slots := 1344, locals := 208 } : Room) "com/example/maswali/maswali/RendererWrittenInPinLaw" code 15 (some .boolean) "law" X [] [(p0, d0), (b0, e0), (p1, d1), (b1, e1), (p2, d2), (b2, e2)] T0 18 (36)) :
    Go Z EL1 56 1344 (fun v _ _ => v = some (.int 1)) X T0 43 #[.val (.int counts), .val (.int ka), .val (.int kb), .val (.int kc), .val (.int modes), .val (.int x), .val (.ref p0), .val (.ref p1), .val (.ref p2), .val (.int (0 : Int32)), .val (.int (0 : Int32)), .unset, .unset, .unset, .unset] [] := by
  refine Go.iload (pc' := 45) W0 d_code_43 rfl rfl ?_
  refine Go.anewarr (pc' := 48) W0 0 (w_4 G) (w_34 G) d_code_45 rfl (by decide) (by decide) (by decide) (by first | exact Nat.le_of_ble_eq_true rfl | (simp; done) | (simp; omega) | omega) (by first | exact Nat.le_of_ble_eq_true rfl | (simp; done) | (simp; omega) | omega) (fun T1 a3 c4 W2 A5 O6 => ?_)
  replace W2 : Wk l Z EL1 ({ frames := 9, cells := 56, slots := 1344, locals := 208 } : Room) "com/example/maswali/maswali/RendererWrittenInPinLaw" code 15 (some .boolean) "law" X [(a3, c4)] [(p0, d0), (b0, e0), (p1, d1), (b1, e1), (p2, d2), (b2, e2)] T1 19 (36) := W2
  refine Go.astore (pc' := 50) W2 #[.val (.int counts), .val (.int ka), .val (.int kb), .val (.int kc), .val (.int modes), .val (.int x), .val (.ref p0), .val (.ref p1), .val (.ref p2), .val (.int (0 : Int32)), .val (.int (0 : Int32)), .val (.ref a3), .unset, .unset, .unset] d_code_48 rfl rfl rfl ?_
  refine Go.iload (pc' := 52) W2 d_code_50 rfl rfl ?_
  refine Go.if_le (pc' := 55) W2 86 d_code_52 (by decide) rfl (fun _ => ?_) (fun q => absurd q (by decide))
  refine Go.iload (pc' := 88) W2 d_code_86 rfl rfl ?_
  refine Go.iconst (pc' := 89) W2 (1 : Int32) d_code_88 (by decide) rfl ?_
  refine Go.icmp_le (pc' := 92) W2 130 d_code_89 (by decide) rfl (fun _ => ?_) (fun q => absurd q (by decide))
  refine Go.iload (pc' := 132) W2 d_code_130 rfl rfl ?_
  refine Go.iconst (pc' := 133) W2 (2 : Int32) d_code_132 (by decide) rfl ?_
  refine Go.icmp_le (pc' := 136) W2 176 d_code_133 (by decide) rfl (fun _ => ?_) (fun q => absurd q (by decide))
  refine Go.new (pc' := 179) W2 (w_35 G) (w_36 G) (w_37 G) d_code_176 rfl (by first | exact Nat.le_of_ble_eq_true rfl | (simp; done) | (simp; omega) | omega) (by first | exact Nat.le_of_ble_eq_true rfl | (simp; done) | (simp; omega) | omega) (fun T7 a9 c10 W8 O11 D12 => ?_)
  replace W8 : Wk l Z EL1 ({ frames := 9, cells := 56, slots := 1344, locals := 208 } : Room) "com/example/maswali/maswali/RendererWrittenInPinLaw" code 15 (some .boolean) "law" X [(a9, c10), (a3, c4)] [(p0, d0), (b0, e0), (p1, d1), (b1, e1), (p2, d2), (b2, e2)] T7 20 (40) := W8
  have F13 : FldC Z c10 "com/example/maswali/maswali/Renderer" "pieces" "[Ljava/lang/String;" (.null) := D12 (Or.inl (w_47 G)) (ty := (.array (.object "java/lang/String"))) (by decide)
  have F14 : FldC Z c10 "com/example/maswali/maswali/Renderer" "bindValues" "Lcom/example/maswali/maswali/BindValues;" (.null) := D12 (Or.inr (w_60 G)) (ty := (.object "com/example/maswali/maswali/BindValues")) (by decide)
  have F15 : FldC Z c10 "com/example/maswali/maswali/Renderer" "dialect" "Lcom/example/maswali/maswali/Dialect;" (.null) := D12 (Or.inr (w_62 G)) (ty := (.object "com/example/maswali/maswali/Dialect")) (by decide)
  have F16 : FldC Z c10 "com/example/maswali/maswali/Renderer" "pieceCount" "I" (.int (0 : Int32)) := D12 (Or.inl (w_69 G)) (ty := .int) (by decide)
  refine Go.dup (pc' := 180) W8 d_code_179 rfl rfl ?_
  refine Go.getstatic (pc' := 183) W8 (w_38 G) Via.refl Sd d_code_180 rfl (fun T17 W18 => ?_)
  refine Go.special (pc' := 186) W18 (a := a9) (rm_ren G a9 c10 nv (.ref da) hnv Sn rfl O11 F13 F16 F15 F14) rfl (w_41 G) (w_42 G) (w_37 G) (w_43 G) (by decide) [0] [] (σf := [(a3, c4)]) rfl rfl [(.ref da)] [(.ref a9)] rfl (lenOf pd_15 rfl) rfl rfl d_code_183 rfl (by first | exact Nat.le_of_ble_eq_true rfl | (simp; done) | (simp; omega) | omega) (by first | exact Nat.le_of_ble_eq_true rfl | (simp; done) | (simp; omega) | omega) (by first | exact Nat.le_of_ble_eq_true rfl | (simp; done) | (simp; omega) | omega) (by first | exact Nat.le_of_ble_eq_true rfl | (simp; done) | (simp; omega) | omega) ?_
  rintro _ _ _ T25 ⟨c19, p20, c21, rfl, rfl, rfl, M22, A23, O24⟩ W26
  replace W26 : Wk l Z EL1 ({ frames := 9, cells := 56, slots := 1344, locals := 208 } : Room) "com/example/maswali/maswali/RendererWrittenInPinLaw" code 15 (some .boolean) "law" X [(a9, c19), (p20, c21), (a3, c4)] [(p0, d0), (b0, e0), (p1, d1), (b1, e1), (p2, d2), (b2, e2)] T25 22 (106) := W26
  show Go Z EL1 _ _ _ X T25 186 #[.val (.int counts), .val (.int ka), .val (.int kb), .val (.int kc), .val (.int modes), .val (.int x), .val (.ref p0), .val (.ref p1), .val (.ref p2), .val (.int (0 : Int32)), .val (.int (0 : Int32)), .val (.ref a3), .unset, .unset, .unset] [(.ref a9)]
  refine Go.astore (pc' := 188) W26 #[.val (.int counts), .val (.int ka), .val (.int kb), .val (.int kc), .val (.int modes), .val (.int x), .val (.ref p0), .val (.ref p1), .val (.ref p2), .val (.int (0 : Int32)), .val (.int (0 : Int32)), .val (.ref a3), .val (.ref a9), .unset, .unset] d_code_186 rfl rfl rfl ?_
  refine Go.iload (pc' := 190) W26 d_code_188 rfl rfl ?_
  refine Go.if_le (pc' := 193) W26 200 d_code_190 (by decide) rfl (fun _ => ?_) (fun q => absurd q (by decide))
  refine Go.iload (pc' := 202) W26 d_code_200 rfl rfl ?_
  refine Go.iconst (pc' := 203) W26 (1 : Int32) d_code_202 (by decide) rfl ?_
  refine Go.icmp_le (pc' := 206) W26 213 d_code_203 (by decide) rfl (fun _ => ?_) (fun q => absurd q (by decide))
  refine Go.iload (pc' := 215) W26 d_code_213 rfl rfl ?_
  refine Go.iconst (pc' := 216) W26 (2 : Int32) d_code_215 (by decide) rfl ?_
  refine Go.icmp_le (pc' := 219) W26 226 d_code_216 (by decide) rfl (fun _ => ?_) (fun q => absurd q (by decide))
  refine Go.aload (pc' := 228) W26 d_code_226 rfl rfl rfl ?_
  refine Go.aload (pc' := 230) W26 d_code_228 rfl rfl rfl ?_
  refine Go.virtual (pc' := 233) W26 (rm_win0 G a9 p20 a3 c19 c21 c4 _ M22 A23 A5) (Or.inl (List.mem_of_getElem? (i := 0) rfl)) M22.1 (w_63 G) (w_64 G) (w_66 G) (w_65 G) (w_37 G) (w_67 G) (by decide) [0, 0, 0] [] (σf := []) rfl rfl [(.ref a3)] [] rfl (lenOf pd_16 rfl) rfl rfl d_code_230 rfl (by first | exact Nat.le_of_ble_eq_true rfl | (simp; done) | (simp; omega) | omega) (by first | exact Nat.le_of_ble_eq_true rfl | (simp; done) | (simp; omega) | omega) (by first | exact Nat.le_of_ble_eq_true rfl | (simp; done) | (simp; omega) | omega) (by first | exact Nat.le_of_ble_eq_true rfl | (simp; done) | (simp; omega) | omega) ?_
  rintro _ _ _ T27 ⟨rfl, rfl, rfl⟩ W28
  replace W28 : Wk l Z EL1 ({ frames := 9, cells := 56, slots := 1344, locals := 208 } : Room) "com/example/maswali/maswali/RendererWrittenInPinLaw" code 15 (some .boolean) "law" X [(a9, c19), (p20, c21), (a3, c4)] [(p0, d0), (b0, e0), (p1, d1), (b1, e1), (p2, d2), (b2, e2)] T27 22 (106) := W28
  show Go Z EL1 _ _ _ X T27 233 #[.val (.int counts), .val (.int ka), .val (.int kb), .val (.int kc), .val (.int modes), .val (.int x), .val (.ref p0), .val (.ref p1), .val (.ref p2), .val (.int (0 : Int32)), .val (.int (0 : Int32)), .val (.ref a3), .val (.ref a9), .unset, .unset] [(.int (if True then 1 else 0))]
  refine Go.istore (pc' := 235) W28 #[.val (.int counts), .val (.int ka), .val (.int kb), .val (.int kc), .val (.int modes), .val (.int x), .val (.ref p0), .val (.ref p1), .val (.ref p2), .val (.int (0 : Int32)), .val (.int (0 : Int32)), .val (.ref a3), .val (.ref a9), .val (.int (if True then 1 else 0)), .unset] d_code_233 rfl rfl ?_
  refine Go.iload (pc' := 237) W28 d_code_235 rfl rfl ?_
  refine Go.iload (pc' := 239) W28 d_code_237 rfl rfl ?_
  refine Go.icmp_ne (pc' := 242) W28 300 d_code_239 (by decide) rfl (fun q => absurd (by decide) q) (fun _ => ?_)
  refine Go.iload (pc' := 244) W28 d_code_242 rfl rfl ?_
  refine Go.iconst (pc' := 245) W28 (1 : Int32) d_code_244 (by decide) rfl ?_
  refine Go.icmp_lt (pc' := 248) W28 260 d_code_245 (by decide) rfl (fun _ => ?_) (fun q => absurd (by decide) q)
  refine Go.iload (pc' := 262) W28 d_code_260 rfl rfl ?_
  refine Go.iconst (pc' := 263) W28 (2 : Int32) d_code_262 (by decide) rfl ?_
  refine Go.icmp_lt (pc' := 266) W28 278 d_code_263 (by decide) rfl (fun _ => ?_) (fun q => absurd (by decide) q)
  refine Go.iload (pc' := 280) W28 d_code_278 rfl rfl ?_
  refine Go.iconst (pc' := 281) W28 (3 : Int32) d_code_280 (by decide) rfl ?_
  refine Go.icmp_lt (pc' := 284) W28 296 d_code_281 (by decide) rfl (fun _ => ?_) (fun q => absurd (by decide) q)
  refine Go.iconst (pc' := 297) W28 (1 : Int32) d_code_296 (by decide) rfl ?_
  refine Go.goto W28 301 d_code_297 (by decide) ?_
  refine Go.istore (pc' := 303) W28 #[.val (.int counts), .val (.int ka), .val (.int kb), .val (.int kc), .val (.int modes), .val (.int x), .val (.ref p0), .val (.ref p1), .val (.ref p2), .val (.int (0 : Int32)), .val (.int (0 : Int32)), .val (.ref a3), .val (.ref a9), .val (.int (if True then 1 else 0)), .val (.int (1 : Int32))] d_code_301 rfl rfl ?_
  refine Go.iload (pc' := 305) W28 d_code_303 rfl rfl ?_
  refine Go.iload (pc' := 307) W28 d_code_305 rfl rfl ?_
  refine Go.icmp_ne (pc' := 310) W28 314 d_code_307 (by decide) rfl (fun (c29 : ¬ ((if True then 1 else 0) = (1 : Int32))) => ?_) (fun (c29 : (if True then 1 else 0) = (1 : Int32)) => ?_)
  · refine Go.iconst (pc' := 315) W28 (0 : Int32) d_code_314 (by decide) rfl ?_
    refine Go.nret (z' := (0 : Int32)) W28 (by simp) (by decide) d_code_315 (by first | exact Nat.le_of_ble_eq_true rfl | (simp; done) | (simp; omega) | omega) (by first | exact Nat.le_of_ble_eq_true rfl | (simp; done) | (simp; omega) | omega) ?_
    exfalso
    simp only [ite10_z, ite10_o, Classical.not_not] at c29
    first | exact c29 trivial
  · refine Go.iconst (pc' := 311) W28 (1 : Int32) d_code_310 (by decide) rfl ?_
    refine Go.goto W28 315 d_code_311 (by decide) ?_
    refine Go.nret (z' := (1 : Int32)) W28 (by simp) (by decide) d_code_315 (by first | exact Nat.le_of_ble_eq_true rfl | (simp; done) | (simp; omega) | omega) (by first | exact Nat.le_of_ble_eq_true rfl | (simp; done) | (simp; omega) | omega) ?_
    rfl
theorem d_code_55 : decode code 55 = .ok (.aload 11, 2) := by decide +kernel
theorem d_code_57 : decode code 57 = .ok (.iconst 0, 1) := by decide +kernel
theorem d_code_58 : decode code 58 = .ok (.iload 9, 2) := by decide +kernel
theorem d_code_60 : decode code 60 = .ok (.ifCond .le 20, 3) := by decide +kernel
theorem d_code_80 : decode code 80 = .ok (.iload 5, 2) := by decide +kernel
theorem d_code_82 : decode code 82 = .ok (.invokestatic 12, 3) := by decide +kernel
theorem d_code_85 : decode code 85 = .ok (.aastore, 1) := by decide +kernel
theorem d_code_300 : decode code 300 = .ok (.iconst 0, 1) := by decide +kernel
set_option maxRecDepth 65536 in
set_option maxHeartbeats 40000000 in
theorem rm_t01 {l : Launch} {Z : State} {a0 : Array Value} (G : Cl Z a0) (counts ka kb kc modes x : Int32) (nv : Value) (hnv : nv.isRef = true) (Sn : Sta Z Z.heap "com/example/maswali/maswali/BindValues" "NONE" "[Ljava/lang/Object;" nv) (da : Addr) (Sd : Sta Z Z.heap "com/example/maswali/maswali/Dialect" "POSTGRES" "Lcom/example/maswali/maswali/Dialect;" (.ref da)) (p0 b0 p1 b1 p2 b2 : Addr) (d0 e0 d1 e1 d2 e2 : Cell) (S0 : StrL Z d0 b0 e0 (strF ka)) (S1 : StrL Z d1 b1 e1 (strF kb)) (S2 : StrL Z d2 b2 e2 (strF kc)) {X : Ctx} {T0 : State} (W0 : Wk l Z EL1 ({ frames := 9, cells := 56, slots := 1344, locals := 208 } : Room) "com/example/maswali/maswali/RendererWrittenInPinLaw" code 15 (some .boolean) "law" X [] [(p0, d0), (b0, e0), (p1, d1), (b1, e1), (p2, d2), (b2, e2)] T0 18 (36)) :
    Go Z EL1 56 1344 (fun v _ _ => v = some (.int 1)) X T0 43 #[.val (.int counts), .val (.int ka), .val (.int kb), .val (.int kc), .val (.int modes), .val (.int x), .val (.ref p0), .val (.ref p1), .val (.ref p2), .val (.int (0 : Int32)), .val (.int (1 : Int32)), .unset, .unset, .unset, .unset] [] := by
  refine Go.iload (pc' := 45) W0 d_code_43 rfl rfl ?_
  refine Go.anewarr (pc' := 48) W0 1 (w_4 G) (w_34 G) d_code_45 rfl (by decide) (by decide) (by decide) (by first | exact Nat.le_of_ble_eq_true rfl | (simp; done) | (simp; omega) | omega) (by first | exact Nat.le_of_ble_eq_true rfl | (simp; done) | (simp; omega) | omega) (fun T1 a3 c4 W2 A5 O6 => ?_)
  replace W2 : Wk l Z EL1 ({ frames := 9, cells := 56, slots := 1344, locals := 208 } : Room) "com/example/maswali/maswali/RendererWrittenInPinLaw" code 15 (some .boolean) "law" X [(a3, c4)] [(p0, d0), (b0, e0), (p1, d1), (b1, e1), (p2, d2), (b2, e2)] T1 19 (37) := W2
  refine Go.astore (pc' := 50) W2 #[.val (.int counts), .val (.int ka), .val (.int kb), .val (.int kc), .val (.int modes), .val (.int x), .val (.ref p0), .val (.ref p1), .val (.ref p2), .val (.int (0 : Int32)), .val (.int (1 : Int32)), .val (.ref a3), .unset, .unset, .unset] d_code_48 rfl rfl rfl ?_
  refine Go.iload (pc' := 52) W2 d_code_50 rfl rfl ?_
  refine Go.if_le (pc' := 55) W2 86 d_code_52 (by decide) rfl (fun q => absurd (by decide) q) (fun _ => ?_)
  refine Go.aload (pc' := 57) W2 d_code_55 rfl rfl rfl ?_
  refine Go.iconst (pc' := 58) W2 (0 : Int32) d_code_57 (by decide) rfl ?_
  refine Go.iload (pc' := 60) W2 d_code_58 rfl rfl ?_
  refine Go.if_le (pc' := 63) W2 80 d_code_60 (by decide) rfl (fun _ => ?_) (fun q => absurd q (by decide))
  refine Go.iload (pc' := 82) W2 d_code_80 rfl rfl ?_
  refine Go.static (pc' := 85) W2 (rm_str G x) (w_0 G) (w_1 G) (w_2 G) (w_3 G) (by decide) [] [] (σf := [(a3, c4)]) rfl rfl [(.int x)] [(.int (0 : Int32)), (.ref a3)] rfl (lenOf pd_10 rfl) rfl rfl d_code_82 rfl (by first | exact Nat.le_of_ble_eq_true rfl | (simp; done) | (simp; omega) | omega) (by first | exact Nat.le_of_ble_eq_true rfl | (simp; done) | (simp; omega) | omega) (by first | exact Nat.le_of_ble_eq_true rfl | (simp; done) | (simp; omega) | omega) (by first | exact Nat.le_of_ble_eq_true rfl | (simp; done) | (simp; omega) | omega) ?_
  rintro _ _ _ T12 ⟨a7, c8, b9, c10, rfl, rfl, rfl, S11⟩ W13
  replace W13 : Wk l Z EL1 ({ frames := 9, cells := 56, slots := 1344, locals := 208 } : Room) "com/example/maswali/maswali/RendererWrittenInPinLaw" code 15 (some .boolean) "law" X [(a3, c4)] [(a7, c8), (b9, c10), (p0, d0), (b0, e0), (p1, d1), (b1, e1), (p2, d2), (b2, e2)] T12 25 (49) := W13
  show Go Z EL1 _ _ _ X T12 85 #[.val (.int counts), .val (.int ka), .val (.int kb), .val (.int kc), .val (.int modes), .val (.int x), .val (.ref p0), .val (.ref p1), .val (.ref p2), .val (.int (0 : Int32)), .val (.int (1 : Int32)), .val (.ref a3), .unset, .unset, .unset] [(.ref a7), (.int (0 : Int32)), (.ref a3)]
  refine Go.aastoreObj (pc' := 86) W13 0 rfl A5 O6 (Or.inr (Or.inl (List.mem_of_getElem? (i := 0) rfl))) S11.1 0 (by decide) (by decide) (by simp) d_code_85 rfl (fun T18 c20 W19 A21 O22 => ?_)
  replace W19 : Wk l Z EL1 ({ frames := 9, cells := 56, slots := 1344, locals := 208 } : Room) "com/example/maswali/maswali/RendererWrittenInPinLaw" code 15 (some .boolean) "law" X [(a3, c20)] [(a7, c8), (b9, c10), (p0, d0), (b0, e0), (p1, d1), (b1, e1), (p2, d2), (b2, e2)] T18 25 (49) := W19
  replace A21 : ArrC Z c20 (.object "java/lang/String") [(.ref a7)] := A21
  refine Go.iload (pc' := 88) W19 d_code_86 rfl rfl ?_
  refine Go.iconst (pc' := 89) W19 (1 : Int32) d_code_88 (by decide) rfl ?_
  refine Go.icmp_le (pc' := 92) W19 130 d_code_89 (by decide) rfl (fun _ => ?_) (fun q => absurd q (by decide))
  refine Go.iload (pc' := 132) W19 d_code_130 rfl rfl ?_
  refine Go.iconst (pc' := 133) W19 (2 : Int32) d_code_132 (by decide) rfl ?_
  refine Go.icmp_le (pc' := 136) W19 176 d_code_133 (by decide) rfl (fun _ => ?_) (fun q => absurd q (by decide))
  refine Go.new (pc' := 179) W19 (w_35 G) (w_36 G) (w_37 G) d_code_176 rfl (by first | exact Nat.le_of_ble_eq_true rfl | (simp; done) | (simp; omega) | omega) (by first | exact Nat.le_of_ble_eq_true rfl | (simp; done) | (simp; omega) | omega) (fun T23 a25 c26 W24 O27 D28 => ?_)
  replace W24 : Wk l Z EL1 ({ frames := 9, cells := 56, slots := 1344, locals := 208 } : Room) "com/example/maswali/maswali/RendererWrittenInPinLaw" code 15 (some .boolean) "law" X [(a25, c26), (a3, c20)] [(a7, c8), (b9, c10), (p0, d0), (b0, e0), (p1, d1), (b1, e1), (p2, d2), (b2, e2)] T23 26 (53) := W24
  have F29 : FldC Z c26 "com/example/maswali/maswali/Renderer" "pieces" "[Ljava/lang/String;" (.null) := D28 (Or.inl (w_47 G)) (ty := (.array (.object "java/lang/String"))) (by decide)
  have F30 : FldC Z c26 "com/example/maswali/maswali/Renderer" "bindValues" "Lcom/example/maswali/maswali/BindValues;" (.null) := D28 (Or.inr (w_60 G)) (ty := (.object "com/example/maswali/maswali/BindValues")) (by decide)
  have F31 : FldC Z c26 "com/example/maswali/maswali/Renderer" "dialect" "Lcom/example/maswali/maswali/Dialect;" (.null) := D28 (Or.inr (w_62 G)) (ty := (.object "com/example/maswali/maswali/Dialect")) (by decide)
  have F32 : FldC Z c26 "com/example/maswali/maswali/Renderer" "pieceCount" "I" (.int (0 : Int32)) := D28 (Or.inl (w_69 G)) (ty := .int) (by decide)
  refine Go.dup (pc' := 180) W24 d_code_179 rfl rfl ?_
  refine Go.getstatic (pc' := 183) W24 (w_38 G) Via.refl Sd d_code_180 rfl (fun T33 W34 => ?_)
  refine Go.special (pc' := 186) W34 (a := a25) (rm_ren G a25 c26 nv (.ref da) hnv Sn rfl O27 F29 F32 F31 F30) rfl (w_41 G) (w_42 G) (w_37 G) (w_43 G) (by decide) [0] [] (σf := [(a3, c20)]) rfl rfl [(.ref da)] [(.ref a25)] rfl (lenOf pd_15 rfl) rfl rfl d_code_183 rfl (by first | exact Nat.le_of_ble_eq_true rfl | (simp; done) | (simp; omega) | omega) (by first | exact Nat.le_of_ble_eq_true rfl | (simp; done) | (simp; omega) | omega) (by first | exact Nat.le_of_ble_eq_true rfl | (simp; done) | (simp; omega) | omega) (by first | exact Nat.le_of_ble_eq_true rfl | (simp; done) | (simp; omega) | omega) ?_
  rintro _ _ _ T41 ⟨c35, p36, c37, rfl, rfl, rfl, M38, A39, O40⟩ W42
  replace W42 : Wk l Z EL1 ({ frames := 9, cells := 56, slots := 1344, locals := 208 } : Room) "com/example/maswali/maswali/RendererWrittenInPinLaw" code 15 (some .boolean) "law" X [(a25, c35), (p36, c37), (a3, c20)] [(a7, c8), (b9, c10), (p0, d0), (b0, e0), (p1, d1), (b1, e1), (p2, d2), (b2, e2)] T41 28 (119) := W42
  show Go Z EL1 _ _ _ X T41 186 #[.val (.int counts), .val (.int ka), .val (.int kb), .val (.int kc), .val (.int modes), .val (.int x), .val (.ref p0), .val (.ref p1), .val (.ref p2), .val (.int (0 : Int32)), .val (.int (1 : Int32)), .val (.ref a3), .unset, .unset, .unset] [(.ref a25)]
  refine Go.astore (pc' := 188) W42 #[.val (.int counts), .val (.int ka), .val (.int kb), .val (.int kc), .val (.int modes), .val (.int x), .val (.ref p0), .val (.ref p1), .val (.ref p2), .val (.int (0 : Int32)), .val (.int (1 : Int32)), .val (.ref a3), .val (.ref a25), .unset, .unset] d_code_186 rfl rfl rfl ?_
  refine Go.iload (pc' := 190) W42 d_code_188 rfl rfl ?_
  refine Go.if_le (pc' := 193) W42 200 d_code_190 (by decide) rfl (fun _ => ?_) (fun q => absurd q (by decide))
  refine Go.iload (pc' := 202) W42 d_code_200 rfl rfl ?_
  refine Go.iconst (pc' := 203) W42 (1 : Int32) d_code_202 (by decide) rfl ?_
  refine Go.icmp_le (pc' := 206) W42 213 d_code_203 (by decide) rfl (fun _ => ?_) (fun q => absurd q (by decide))
  refine Go.iload (pc' := 215) W42 d_code_213 rfl rfl ?_
  refine Go.iconst (pc' := 216) W42 (2 : Int32) d_code_215 (by decide) rfl ?_
  refine Go.icmp_le (pc' := 219) W42 226 d_code_216 (by decide) rfl (fun _ => ?_) (fun q => absurd q (by decide))
  refine Go.aload (pc' := 228) W42 d_code_226 rfl rfl rfl ?_
  refine Go.aload (pc' := 230) W42 d_code_228 rfl rfl rfl ?_
  refine Go.virtual (pc' := 233) W42 (rm_winN G a25 a3 c35 c20 0 1 _ _ rfl (by decide) M38 A21) (Or.inl (List.mem_of_getElem? (i := 0) rfl)) M38.1 (w_63 G) (w_64 G) (w_66 G) (w_65 G) (w_37 G) (w_67 G) (by decide) [0, 1] [] (σf := [(p36, c37)]) rfl rfl [(.ref a3)] [] rfl (lenOf pd_16 rfl) rfl rfl d_code_230 rfl (by first | exact Nat.le_of_ble_eq_true rfl | (simp; done) | (simp; omega) | omega) (by first | exact Nat.le_of_ble_eq_true rfl | (simp; done) | (simp; omega) | omega) (by first | exact Nat.le_of_ble_eq_true rfl | (simp; done) | (simp; omega) | omega) (by first | exact Nat.le_of_ble_eq_true rfl | (simp; done) | (simp; omega) | omega) ?_
  rintro _ _ _ T43 ⟨rfl, rfl, rfl⟩ W44
  replace W44 : Wk l Z EL1 ({ frames := 9, cells := 56, slots := 1344, locals := 208 } : Room) "com/example/maswali/maswali/RendererWrittenInPinLaw" code 15 (some .boolean) "law" X [(a25, c35), (a3, c20), (p36, c37)] [(a7, c8), (b9, c10), (p0, d0), (b0, e0), (p1, d1), (b1, e1), (p2, d2), (b2, e2)] T43 28 (119) := W44
  show Go Z EL1 _ _ _ X T43 233 #[.val (.int counts), .val (.int ka), .val (.int kb), .val (.int kc), .val (.int modes), .val (.int x), .val (.ref p0), .val (.ref p1), .val (.ref p2), .val (.int (0 : Int32)), .val (.int (1 : Int32)), .val (.ref a3), .val (.ref a25), .unset, .unset] [(.int (0 : Int32))]
  refine Go.istore (pc' := 235) W44 #[.val (.int counts), .val (.int ka), .val (.int kb), .val (.int kc), .val (.int modes), .val (.int x), .val (.ref p0), .val (.ref p1), .val (.ref p2), .val (.int (0 : Int32)), .val (.int (1 : Int32)), .val (.ref a3), .val (.ref a25), .val (.int (0 : Int32)), .unset] d_code_233 rfl rfl ?_
  refine Go.iload (pc' := 237) W44 d_code_235 rfl rfl ?_
  refine Go.iload (pc' := 239) W44 d_code_237 rfl rfl ?_
  refine Go.icmp_ne (pc' := 242) W44 300 d_code_239 (by decide) rfl (fun _ => ?_) (fun q => absurd q (by decide))
  refine Go.iconst (pc' := 301) W44 (0 : Int32) d_code_300 (by decide) rfl ?_
  refine Go.istore (pc' := 303) W44 #[.val (.int counts), .val (.int ka), .val (.int kb), .val (.int kc), .val (.int modes), .val (.int x), .val (.ref p0), .val (.ref p1), .val (.ref p2), .val (.int (0 : Int32)), .val (.int (1 : Int32)), .val (.ref a3), .val (.ref a25), .val (.int (0 : Int32)), .val (.int (0 : Int32))] d_code_301 rfl rfl ?_
  refine Go.iload (pc' := 305) W44 d_code_303 rfl rfl ?_
  refine Go.iload (pc' := 307) W44 d_code_305 rfl rfl ?_
  refine Go.icmp_ne (pc' := 310) W44 314 d_code_307 (by decide) rfl (fun q => absurd (by decide) q) (fun _ => ?_)
  refine Go.iconst (pc' := 311) W44 (1 : Int32) d_code_310 (by decide) rfl ?_
  refine Go.goto W44 315 d_code_311 (by decide) ?_
  refine Go.nret (z' := (1 : Int32)) W44 (by simp) (by decide) d_code_315 (by first | exact Nat.le_of_ble_eq_true rfl | (simp; done) | (simp; omega) | omega) (by first | exact Nat.le_of_ble_eq_true rfl | (simp; done) | (simp; omega) | omega) ?_
  rfl
theorem d_code_92 : decode code 92 = .ok (.aload 11, 2) := by decide +kernel
theorem d_code_94 : decode code 94 = .ok (.iconst 1, 1) := by decide +kernel
theorem d_code_95 : decode code 95 = .ok (.iload 9, 2) := by decide +kernel
theorem d_code_97 : decode code 97 = .ok (.iconst 1, 1) := by decide +kernel
theorem d_code_98 : decode code 98 = .ok (.if_icmp .le 24, 3) := by decide +kernel
theorem d_code_122 : decode code 122 = .ok (.iload 5, 2) := by decide +kernel
theorem d_code_124 : decode code 124 = .ok (.iconst 3, 1) := by decide +kernel
theorem d_code_125 : decode code 125 = .ok (.iushr, 1) := by decide +kernel
theorem d_code_126 : decode code 126 = .ok (.invokestatic 12, 3) := by decide +kernel
theorem d_code_129 : decode code 129 = .ok (.aastore, 1) := by decide +kernel
set_option maxRecDepth 65536 in
set_option maxHeartbeats 40000000 in
theorem rm_t02 {l : Launch} {Z : State} {a0 : Array Value} (G : Cl Z a0) (counts ka kb kc modes x : Int32) (nv : Value) (hnv : nv.isRef = true) (Sn : Sta Z Z.heap "com/example/maswali/maswali/BindValues" "NONE" "[Ljava/lang/Object;" nv) (da : Addr) (Sd : Sta Z Z.heap "com/example/maswali/maswali/Dialect" "POSTGRES" "Lcom/example/maswali/maswali/Dialect;" (.ref da)) (p0 b0 p1 b1 p2 b2 : Addr) (d0 e0 d1 e1 d2 e2 : Cell) (S0 : StrL Z d0 b0 e0 (strF ka)) (S1 : StrL Z d1 b1 e1 (strF kb)) (S2 : StrL Z d2 b2 e2 (strF kc)) {X : Ctx} {T0 : State} (W0 : Wk l Z EL1 ({ frames := 9, cells := 56, slots := 1344, locals := 208 } : Room) "com/example/maswali/maswali/RendererWrittenInPinLaw" code 15 (some .boolean) "law" X [] [(p0, d0), (b0, e0), (p1, d1), (b1, e1), (p2, d2), (b2, e2)] T0 18 (36)) :
    Go Z EL1 56 1344 (fun v _ _ => v = some (.int 1)) X T0 43 #[.val (.int counts), .val (.int ka), .val (.int kb), .val (.int kc), .val (.int modes), .val (.int x), .val (.ref p0), .val (.ref p1), .val (.ref p2), .val (.int (0 : Int32)), .val (.int (2 : Int32)), .unset, .unset, .unset, .unset] [] := by
  refine Go.iload (pc' := 45) W0 d_code_43 rfl rfl ?_
  refine Go.anewarr (pc' := 48) W0 2 (w_4 G) (w_34 G) d_code_45 rfl (by decide) (by decide) (by decide) (by first | exact Nat.le_of_ble_eq_true rfl | (simp; done) | (simp; omega) | omega) (by first | exact Nat.le_of_ble_eq_true rfl | (simp; done) | (simp; omega) | omega) (fun T1 a3 c4 W2 A5 O6 => ?_)
  replace W2 : Wk l Z EL1 ({ frames := 9, cells := 56, slots := 1344, locals := 208 } : Room) "com/example/maswali/maswali/RendererWrittenInPinLaw" code 15 (some .boolean) "law" X [(a3, c4)] [(p0, d0), (b0, e0), (p1, d1), (b1, e1), (p2, d2), (b2, e2)] T1 19 (38) := W2
  refine Go.astore (pc' := 50) W2 #[.val (.int counts), .val (.int ka), .val (.int kb), .val (.int kc), .val (.int modes), .val (.int x), .val (.ref p0), .val (.ref p1), .val (.ref p2), .val (.int (0 : Int32)), .val (.int (2 : Int32)), .val (.ref a3), .unset, .unset, .unset] d_code_48 rfl rfl rfl ?_
  refine Go.iload (pc' := 52) W2 d_code_50 rfl rfl ?_
  refine Go.if_le (pc' := 55) W2 86 d_code_52 (by decide) rfl (fun q => absurd (by decide) q) (fun _ => ?_)
  refine Go.aload (pc' := 57) W2 d_code_55 rfl rfl rfl ?_
  refine Go.iconst (pc' := 58) W2 (0 : Int32) d_code_57 (by decide) rfl ?_
  refine Go.iload (pc' := 60) W2 d_code_58 rfl rfl ?_
  refine Go.if_le (pc' := 63) W2 80 d_code_60 (by decide) rfl (fun _ => ?_) (fun q => absurd q (by decide))
  refine Go.iload (pc' := 82) W2 d_code_80 rfl rfl ?_
  refine Go.static (pc' := 85) W2 (rm_str G x) (w_0 G) (w_1 G) (w_2 G) (w_3 G) (by decide) [] [] (σf := [(a3, c4)]) rfl rfl [(.int x)] [(.int (0 : Int32)), (.ref a3)] rfl (lenOf pd_10 rfl) rfl rfl d_code_82 rfl (by first | exact Nat.le_of_ble_eq_true rfl | (simp; done) | (simp; omega) | omega) (by first | exact Nat.le_of_ble_eq_true rfl | (simp; done) | (simp; omega) | omega) (by first | exact Nat.le_of_ble_eq_true rfl | (simp; done) | (simp; omega) | omega) (by first | exact Nat.le_of_ble_eq_true rfl | (simp; done) | (simp; omega) | omega) ?_
  rintro _ _ _ T12 ⟨a7, c8, b9, c10, rfl, rfl, rfl, S11⟩ W13
  replace W13 : Wk l Z EL1 ({ frames := 9, cells := 56, slots := 1344, locals := 208 } : Room) "com/example/maswali/maswali/RendererWrittenInPinLaw" code 15 (some .boolean) "law" X [(a3, c4)] [(a7, c8), (b9, c10), (p0, d0), (b0, e0), (p1, d1), (b1, e1), (p2, d2), (b2, e2)] T12 25 (50) := W13
  show Go Z EL1 _ _ _ X T12 85 #[.val (.int counts), .val (.int ka), .val (.int kb), .val (.int kc), .val (.int modes), .val (.int x), .val (.ref p0), .val (.ref p1), .val (.ref p2), .val (.int (0 : Int32)), .val (.int (2 : Int32)), .val (.ref a3), .unset, .unset, .unset] [(.ref a7), (.int (0 : Int32)), (.ref a3)]
  refine Go.aastoreObj (pc' := 86) W13 0 rfl A5 O6 (Or.inr (Or.inl (List.mem_of_getElem? (i := 0) rfl))) S11.1 0 (by decide) (by decide) (by simp) d_code_85 rfl (fun T18 c20 W19 A21 O22 => ?_)
  replace W19 : Wk l Z EL1 ({ frames := 9, cells := 56, slots := 1344, locals := 208 } : Room) "com/example/maswali/maswali/RendererWrittenInPinLaw" code 15 (some .boolean) "law" X [(a3, c20)] [(a7, c8), (b9, c10), (p0, d0), (b0, e0), (p1, d1), (b1, e1), (p2, d2), (b2, e2)] T18 25 (50) := W19
  replace A21 : ArrC Z c20 (.object "java/lang/String") [(.ref a7), (.null)] := A21
  refine Go.iload (pc' := 88) W19 d_code_86 rfl rfl ?_
  refine Go.iconst (pc' := 89) W19 (1 : Int32) d_code_88 (by decide) rfl ?_
  refine Go.icmp_le (pc' := 92) W19 130 d_code_89 (by decide) rfl (fun q => absurd (by decide) q) (fun _ => ?_)
  refine Go.aload (pc' := 94) W19 d_code_92 rfl rfl rfl ?_
  refine Go.iconst (pc' := 95) W19 (1 : Int32) d_code_94 (by decide) rfl ?_
  refine Go.iload (pc' := 97) W19 d_code_95 rfl rfl ?_
  refine Go.iconst (pc' := 98) W19 (1 : Int32) d_code_97 (by decide) rfl ?_
  refine Go.icmp_le (pc' := 101) W19 122 d_code_98 (by decide) rfl (fun _ => ?_) (fun q => absurd q (by decide))
  refine Go.iload (pc' := 124) W19 d_code_122 rfl rfl ?_
  refine Go.iconst (pc' := 125) W19 (3 : Int32) d_code_124 (by decide) rfl ?_
  refine Go.iushr (pc' := 126) W19 d_code_125 rfl ?_
  refine Go.static (pc' := 129) W19 (rm_str G ((x.toUInt32 >>> ((3 : Int32) &&& 31).toUInt32).toInt32)) (w_0 G) (w_1 G) (w_2 G) (w_3 G) (by decide) [] [] (σf := [(a3, c20)]) rfl rfl [(.int ((x.toUInt32 >>> ((3 : Int32) &&& 31).toUInt32).toInt32))] [(.int (1 : Int32)), (.ref a3)] rfl (lenOf pd_10 rfl) rfl rfl d_code_126 rfl (by first | exact Nat.le_of_ble_eq_true rfl | (simp; done) | (simp; omega) | omega) (by first | exact Nat.le_of_ble_eq_true rfl | (simp; done) | (simp; omega) | omega) (by first | exact Nat.le_of_ble_eq_true rfl | (simp; done) | (simp; omega) | omega) (by first | exact Nat.le_of_ble_eq_true rfl | (simp; done) | (simp; omega) | omega) ?_
  rintro _ _ _ T28 ⟨a23, c24, b25, c26, rfl, rfl, rfl, S27⟩ W29
  replace W29 : Wk l Z EL1 ({ frames := 9, cells := 56, slots := 1344, locals := 208 } : Room) "com/example/maswali/maswali/RendererWrittenInPinLaw" code 15 (some .boolean) "law" X [(a3, c20)] [(a23, c24), (b25, c26), (a7, c8), (b9, c10), (p0, d0), (b0, e0), (p1, d1), (b1, e1), (p2, d2), (b2, e2)] T28 31 (62) := W29
  show Go Z EL1 _ _ _ X T28 129 #[.val (.int counts), .val (.int ka), .val (.int kb), .val (.int kc), .val (.int modes), .val (.int x), .val (.ref p0), .val (.ref p1), .val (.ref p2), .val (.int (0 : Int32)), .val (.int (2 : Int32)), .val (.ref a3), .unset, .unset, .unset] [(.ref a23), (.int (1 : Int32)), (.ref a3)]
  refine Go.aastoreObj (pc' := 130) W29 0 rfl A21 O22 (Or.inr (Or.inl (List.mem_of_getElem? (i := 0) rfl))) S27.1 1 (by decide) (by decide) (by simp) d_code_129 rfl (fun T34 c36 W35 A37 O38 => ?_)
  replace W35 : Wk l Z EL1 ({ frames := 9, cells := 56, slots := 1344, locals := 208 } : Room) "com/example/maswali/maswali/RendererWrittenInPinLaw" code 15 (some .boolean) "law" X [(a3, c36)] [(a23, c24), (b25, c26), (a7, c8), (b9, c10), (p0, d0), (b0, e0), (p1, d1), (b1, e1), (p2, d2), (b2, e2)] T34 31 (62) := W35
  replace A37 : ArrC Z c36 (.object "java/lang/String") [(.ref a7), (.ref a23)] := A37
  refine Go.iload (pc' := 132) W35 d_code_130 rfl rfl ?_
  refine Go.iconst (pc' := 133) W35 (2 : Int32) d_code_132 (by decide) rfl ?_
  refine Go.icmp_le (pc' := 136) W35 176 d_code_133 (by decide) rfl (fun _ => ?_) (fun q => absurd q (by decide))
  refine Go.new (pc' := 179) W35 (w_35 G) (w_36 G) (w_37 G) d_code_176 rfl (by first | exact Nat.le_of_ble_eq_true rfl | (simp; done) | (simp; omega) | omega) (by first | exact Nat.le_of_ble_eq_true rfl | (simp; done) | (simp; omega) | omega) (fun T39 a41 c42 W40 O43 D44 => ?_)
  replace W40 : Wk l Z EL1 ({ frames := 9, cells := 56, slots := 1344, locals := 208 } : Room) "com/example/maswali/maswali/RendererWrittenInPinLaw" code 15 (some .boolean) "law" X [(a41, c42), (a3, c36)] [(a23, c24), (b25, c26), (a7, c8), (b9, c10), (p0, d0), (b0, e0), (p1, d1), (b1, e1), (p2, d2), (b2, e2)] T39 32 (66) := W40
  have F45 : FldC Z c42 "com/example/maswali/maswali/Renderer" "pieces" "[Ljava/lang/String;" (.null) := D44 (Or.inl (w_47 G)) (ty := (.array (.object "java/lang/String"))) (by decide)
  have F46 : FldC Z c42 "com/example/maswali/maswali/Renderer" "bindValues" "Lcom/example/maswali/maswali/BindValues;" (.null) := D44 (Or.inr (w_60 G)) (ty := (.object "com/example/maswali/maswali/BindValues")) (by decide)
  have F47 : FldC Z c42 "com/example/maswali/maswali/Renderer" "dialect" "Lcom/example/maswali/maswali/Dialect;" (.null) := D44 (Or.inr (w_62 G)) (ty := (.object "com/example/maswali/maswali/Dialect")) (by decide)
  have F48 : FldC Z c42 "com/example/maswali/maswali/Renderer" "pieceCount" "I" (.int (0 : Int32)) := D44 (Or.inl (w_69 G)) (ty := .int) (by decide)
  refine Go.dup (pc' := 180) W40 d_code_179 rfl rfl ?_
  refine Go.getstatic (pc' := 183) W40 (w_38 G) Via.refl Sd d_code_180 rfl (fun T49 W50 => ?_)
  refine Go.special (pc' := 186) W50 (a := a41) (rm_ren G a41 c42 nv (.ref da) hnv Sn rfl O43 F45 F48 F47 F46) rfl (w_41 G) (w_42 G) (w_37 G) (w_43 G) (by decide) [0] [] (σf := [(a3, c36)]) rfl rfl [(.ref da)] [(.ref a41)] rfl (lenOf pd_15 rfl) rfl rfl d_code_183 rfl (by first | exact Nat.le_of_ble_eq_true rfl | (simp; done) | (simp; omega) | omega) (by first | exact Nat.le_of_ble_eq_true rfl | (simp; done) | (simp; omega) | omega) (by first | exact Nat.le_of_ble_eq_true rfl | (simp; done) | (simp; omega) | omega) (by first | exact Nat.le_of_ble_eq_true rfl | (simp; done) | (simp; omega) | omega) ?_
  rintro _ _ _ T57 ⟨c51, p52, c53, rfl, rfl, rfl, M54, A55, O56⟩ W58
  replace W58 : Wk l Z EL1 ({ frames := 9, cells := 56, slots := 1344, locals := 208 } : Room) "com/example/maswali/maswali/RendererWrittenInPinLaw" code 15 (some .boolean) "law" X [(a41, c51), (p52, c53), (a3, c36)] [(a23, c24), (b25, c26), (a7, c8), (b9, c10), (p0, d0), (b0, e0), (p1, d1), (b1, e1), (p2, d2), (b2, e2)] T57 34 (132) := W58
  show Go Z EL1 _ _ _ X T57 186 #[.val (.int counts), .val (.int ka), .val (.int kb), .val (.int kc), .val (.int modes), .val (.int x), .val (.ref p0), .val (.ref p1), .val (.ref p2), .val (.int (0 : Int32)), .val (.int (2 : Int32)), .val (.ref a3), .unset, .unset, .unset] [(.ref a41)]
  refine Go.astore (pc' := 188) W58 #[.val (.int counts), .val (.int ka), .val (.int kb), .val (.int kc), .val (.int modes), .val (.int x), .val (.ref p0), .val (.ref p1), .val (.ref p2), .val (.int (0 : Int32)), .val (.int (2 : Int32)), .val (.ref a3), .val (.ref a41), .unset, .unset] d_code_186 rfl rfl rfl ?_
  refine Go.iload (pc' := 190) W58 d_code_188 rfl rfl ?_
  refine Go.if_le (pc' := 193) W58 200 d_code_190 (by decide) rfl (fun _ => ?_) (fun q => absurd q (by decide))
  refine Go.iload (pc' := 202) W58 d_code_200 rfl rfl ?_
  refine Go.iconst (pc' := 203) W58 (1 : Int32) d_code_202 (by decide) rfl ?_
  refine Go.icmp_le (pc' := 206) W58 213 d_code_203 (by decide) rfl (fun _ => ?_) (fun q => absurd q (by decide))
  refine Go.iload (pc' := 215) W58 d_code_213 rfl rfl ?_
  refine Go.iconst (pc' := 216) W58 (2 : Int32) d_code_215 (by decide) rfl ?_
  refine Go.icmp_le (pc' := 219) W58 226 d_code_216 (by decide) rfl (fun _ => ?_) (fun q => absurd q (by decide))
  refine Go.aload (pc' := 228) W58 d_code_226 rfl rfl rfl ?_
  refine Go.aload (pc' := 230) W58 d_code_228 rfl rfl rfl ?_
  refine Go.virtual (pc' := 233) W58 (rm_winN G a41 a3 c51 c36 0 2 _ _ rfl (by decide) M54 A37) (Or.inl (List.mem_of_getElem? (i := 0) rfl)) M54.1 (w_63 G) (w_64 G) (w_66 G) (w_65 G) (w_37 G) (w_67 G) (by decide) [0, 1] [] (σf := [(p52, c53)]) rfl rfl [(.ref a3)] [] rfl (lenOf pd_16 rfl) rfl rfl d_code_230 rfl (by first | exact Nat.le_of_ble_eq_true rfl | (simp; done) | (simp; omega) | omega) (by first | exact Nat.le_of_ble_eq_true rfl | (simp; done) | (simp; omega) | omega) (by first | exact Nat.le_of_ble_eq_true rfl | (simp; done) | (simp; omega) | omega) (by first | exact Nat.le_of_ble_eq_true rfl | (simp; done) | (simp; omega) | omega) ?_
  rintro _ _ _ T59 ⟨rfl, rfl, rfl⟩ W60
  replace W60 : Wk l Z EL1 ({ frames := 9, cells := 56, slots := 1344, locals := 208 } : Room) "com/example/maswali/maswali/RendererWrittenInPinLaw" code 15 (some .boolean) "law" X [(a41, c51), (a3, c36), (p52, c53)] [(a23, c24), (b25, c26), (a7, c8), (b9, c10), (p0, d0), (b0, e0), (p1, d1), (b1, e1), (p2, d2), (b2, e2)] T59 34 (132) := W60
  show Go Z EL1 _ _ _ X T59 233 #[.val (.int counts), .val (.int ka), .val (.int kb), .val (.int kc), .val (.int modes), .val (.int x), .val (.ref p0), .val (.ref p1), .val (.ref p2), .val (.int (0 : Int32)), .val (.int (2 : Int32)), .val (.ref a3), .val (.ref a41), .unset, .unset] [(.int (0 : Int32))]
  refine Go.istore (pc' := 235) W60 #[.val (.int counts), .val (.int ka), .val (.int kb), .val (.int kc), .val (.int modes), .val (.int x), .val (.ref p0), .val (.ref p1), .val (.ref p2), .val (.int (0 : Int32)), .val (.int (2 : Int32)), .val (.ref a3), .val (.ref a41), .val (.int (0 : Int32)), .unset] d_code_233 rfl rfl ?_
  refine Go.iload (pc' := 237) W60 d_code_235 rfl rfl ?_
  refine Go.iload (pc' := 239) W60 d_code_237 rfl rfl ?_
  refine Go.icmp_ne (pc' := 242) W60 300 d_code_239 (by decide) rfl (fun _ => ?_) (fun q => absurd q (by decide))
  refine Go.iconst (pc' := 301) W60 (0 : Int32) d_code_300 (by decide) rfl ?_
  refine Go.istore (pc' := 303) W60 #[.val (.int counts), .val (.int ka), .val (.int kb), .val (.int kc), .val (.int modes), .val (.int x), .val (.ref p0), .val (.ref p1), .val (.ref p2), .val (.int (0 : Int32)), .val (.int (2 : Int32)), .val (.ref a3), .val (.ref a41), .val (.int (0 : Int32)), .val (.int (0 : Int32))] d_code_301 rfl rfl ?_
  refine Go.iload (pc' := 305) W60 d_code_303 rfl rfl ?_
  refine Go.iload (pc' := 307) W60 d_code_305 rfl rfl ?_
  refine Go.icmp_ne (pc' := 310) W60 314 d_code_307 (by decide) rfl (fun q => absurd (by decide) q) (fun _ => ?_)
  refine Go.iconst (pc' := 311) W60 (1 : Int32) d_code_310 (by decide) rfl ?_
  refine Go.goto W60 315 d_code_311 (by decide) ?_
  refine Go.nret (z' := (1 : Int32)) W60 (by simp) (by decide) d_code_315 (by first | exact Nat.le_of_ble_eq_true rfl | (simp; done) | (simp; omega) | omega) (by first | exact Nat.le_of_ble_eq_true rfl | (simp; done) | (simp; omega) | omega) ?_
  rfl
theorem d_code_136 : decode code 136 = .ok (.aload 11, 2) := by decide +kernel
theorem d_code_138 : decode code 138 = .ok (.iconst 2, 1) := by decide +kernel
theorem d_code_139 : decode code 139 = .ok (.iload 9, 2) := by decide +kernel
theorem d_code_141 : decode code 141 = .ok (.iconst 2, 1) := by decide +kernel
theorem d_code_142 : decode code 142 = .ok (.if_icmp .le 25, 3) := by decide +kernel
theorem d_code_167 : decode code 167 = .ok (.iload 5, 2) := by decide +kernel
theorem d_code_169 : decode code 169 = .ok (.bipush 6, 2) := by decide +kernel
theorem d_code_171 : decode code 171 = .ok (.iushr, 1) := by decide +kernel
theorem d_code_172 : decode code 172 = .ok (.invokestatic 12, 3) := by decide +kernel
theorem d_code_175 : decode code 175 = .ok (.aastore, 1) := by decide +kernel
set_option maxRecDepth 65536 in
set_option maxHeartbeats 40000000 in
theorem rm_t03 {l : Launch} {Z : State} {a0 : Array Value} (G : Cl Z a0) (counts ka kb kc modes x : Int32) (nv : Value) (hnv : nv.isRef = true) (Sn : Sta Z Z.heap "com/example/maswali/maswali/BindValues" "NONE" "[Ljava/lang/Object;" nv) (da : Addr) (Sd : Sta Z Z.heap "com/example/maswali/maswali/Dialect" "POSTGRES" "Lcom/example/maswali/maswali/Dialect;" (.ref da)) (p0 b0 p1 b1 p2 b2 : Addr) (d0 e0 d1 e1 d2 e2 : Cell) (S0 : StrL Z d0 b0 e0 (strF ka)) (S1 : StrL Z d1 b1 e1 (strF kb)) (S2 : StrL Z d2 b2 e2 (strF kc)) {X : Ctx} {T0 : State} (W0 : Wk l Z EL1 ({ frames := 9, cells := 56, slots := 1344, locals := 208 } : Room) "com/example/maswali/maswali/RendererWrittenInPinLaw" code 15 (some .boolean) "law" X [] [(p0, d0), (b0, e0), (p1, d1), (b1, e1), (p2, d2), (b2, e2)] T0 18 (36)) :
    Go Z EL1 56 1344 (fun v _ _ => v = some (.int 1)) X T0 43 #[.val (.int counts), .val (.int ka), .val (.int kb), .val (.int kc), .val (.int modes), .val (.int x), .val (.ref p0), .val (.ref p1), .val (.ref p2), .val (.int (0 : Int32)), .val (.int (3 : Int32)), .unset, .unset, .unset, .unset] [] := by
  refine Go.iload (pc' := 45) W0 d_code_43 rfl rfl ?_
  refine Go.anewarr (pc' := 48) W0 3 (w_4 G) (w_34 G) d_code_45 rfl (by decide) (by decide) (by decide) (by first | exact Nat.le_of_ble_eq_true rfl | (simp; done) | (simp; omega) | omega) (by first | exact Nat.le_of_ble_eq_true rfl | (simp; done) | (simp; omega) | omega) (fun T1 a3 c4 W2 A5 O6 => ?_)
  replace W2 : Wk l Z EL1 ({ frames := 9, cells := 56, slots := 1344, locals := 208 } : Room) "com/example/maswali/maswali/RendererWrittenInPinLaw" code 15 (some .boolean) "law" X [(a3, c4)] [(p0, d0), (b0, e0), (p1, d1), (b1, e1), (p2, d2), (b2, e2)] T1 19 (39) := W2
  refine Go.astore (pc' := 50) W2 #[.val (.int counts), .val (.int ka), .val (.int kb), .val (.int kc), .val (.int modes), .val (.int x), .val (.ref p0), .val (.ref p1), .val (.ref p2), .val (.int (0 : Int32)), .val (.int (3 : Int32)), .val (.ref a3), .unset, .unset, .unset] d_code_48 rfl rfl rfl ?_
  refine Go.iload (pc' := 52) W2 d_code_50 rfl rfl ?_
  refine Go.if_le (pc' := 55) W2 86 d_code_52 (by decide) rfl (fun q => absurd (by decide) q) (fun _ => ?_)
  refine Go.aload (pc' := 57) W2 d_code_55 rfl rfl rfl ?_
  refine Go.iconst (pc' := 58) W2 (0 : Int32) d_code_57 (by decide) rfl ?_
  refine Go.iload (pc' := 60) W2 d_code_58 rfl rfl ?_
  refine Go.if_le (pc' := 63) W2 80 d_code_60 (by decide) rfl (fun _ => ?_) (fun q => absurd q (by decide))
  refine Go.iload (pc' := 82) W2 d_code_80 rfl rfl ?_
  refine Go.static (pc' := 85) W2 (rm_str G x) (w_0 G) (w_1 G) (w_2 G) (w_3 G) (by decide) [] [] (σf := [(a3, c4)]) rfl rfl [(.int x)] [(.int (0 : Int32)), (.ref a3)] rfl (lenOf pd_10 rfl) rfl rfl d_code_82 rfl (by first | exact Nat.le_of_ble_eq_true rfl | (simp; done) | (simp; omega) | omega) (by first | exact Nat.le_of_ble_eq_true rfl | (simp; done) | (simp; omega) | omega) (by first | exact Nat.le_of_ble_eq_true rfl | (simp; done) | (simp; omega) | omega) (by first | exact Nat.le_of_ble_eq_true rfl | (simp; done) | (simp; omega) | omega) ?_
  rintro _ _ _ T12 ⟨a7, c8, b9, c10, rfl, rfl, rfl, S11⟩ W13
  replace W13 : Wk l Z EL1 ({ frames := 9, cells := 56, slots := 1344, locals := 208 } : Room) "com/example/maswali/maswali/RendererWrittenInPinLaw" code 15 (some .boolean) "law" X [(a3, c4)] [(a7, c8), (b9, c10), (p0, d0), (b0, e0), (p1, d1), (b1, e1), (p2, d2), (b2, e2)] T12 25 (51) := W13
  show Go Z EL1 _ _ _ X T12 85 #[.val (.int counts), .val (.int ka), .val (.int kb), .val (.int kc), .val (.int modes), .val (.int x), .val (.ref p0), .val (.ref p1), .val (.ref p2), .val (.int (0 : Int32)), .val (.int (3 : Int32)), .val (.ref a3), .unset, .unset, .unset] [(.ref a7), (.int (0 : Int32)), (.ref a3)]
  refine Go.aastoreObj (pc' := 86) W13 0 rfl A5 O6 (Or.inr (Or.inl (List.mem_of_getElem? (i := 0) rfl))) S11.1 0 (by decide) (by decide) (by simp) d_code_85 rfl (fun T18 c20 W19 A21 O22 => ?_)
  replace W19 : Wk l Z EL1 ({ frames := 9, cells := 56, slots := 1344, locals := 208 } : Room) "com/example/maswali/maswali/RendererWrittenInPinLaw" code 15 (some .boolean) "law" X [(a3, c20)] [(a7, c8), (b9, c10), (p0, d0), (b0, e0), (p1, d1), (b1, e1), (p2, d2), (b2, e2)] T18 25 (51) := W19
  replace A21 : ArrC Z c20 (.object "java/lang/String") [(.ref a7), (.null), (.null)] := A21
  refine Go.iload (pc' := 88) W19 d_code_86 rfl rfl ?_
  refine Go.iconst (pc' := 89) W19 (1 : Int32) d_code_88 (by decide) rfl ?_
  refine Go.icmp_le (pc' := 92) W19 130 d_code_89 (by decide) rfl (fun q => absurd (by decide) q) (fun _ => ?_)
  refine Go.aload (pc' := 94) W19 d_code_92 rfl rfl rfl ?_
  refine Go.iconst (pc' := 95) W19 (1 : Int32) d_code_94 (by decide) rfl ?_
  refine Go.iload (pc' := 97) W19 d_code_95 rfl rfl ?_
  refine Go.iconst (pc' := 98) W19 (1 : Int32) d_code_97 (by decide) rfl ?_
  refine Go.icmp_le (pc' := 101) W19 122 d_code_98 (by decide) rfl (fun _ => ?_) (fun q => absurd q (by decide))
  refine Go.iload (pc' := 124) W19 d_code_122 rfl rfl ?_
  refine Go.iconst (pc' := 125) W19 (3 : Int32) d_code_124 (by decide) rfl ?_
  refine Go.iushr (pc' := 126) W19 d_code_125 rfl ?_
  refine Go.static (pc' := 129) W19 (rm_str G ((x.toUInt32 >>> ((3 : Int32) &&& 31).toUInt32).toInt32)) (w_0 G) (w_1 G) (w_2 G) (w_3 G) (by decide) [] [] (σf := [(a3, c20)]) rfl rfl [(.int ((x.toUInt32 >>> ((3 : Int32) &&& 31).toUInt32).toInt32))] [(.int (1 : Int32)), (.ref a3)] rfl (lenOf pd_10 rfl) rfl rfl d_code_126 rfl (by first | exact Nat.le_of_ble_eq_true rfl | (simp; done) | (simp; omega) | omega) (by first | exact Nat.le_of_ble_eq_true rfl | (simp; done) | (simp; omega) | omega) (by first | exact Nat.le_of_ble_eq_true rfl | (simp; done) | (simp; omega) | omega) (by first | exact Nat.le_of_ble_eq_true rfl | (simp; done) | (simp; omega) | omega) ?_
  rintro _ _ _ T28 ⟨a23, c24, b25, c26, rfl, rfl, rfl, S27⟩ W29
  replace W29 : Wk l Z EL1 ({ frames := 9, cells := 56, slots := 1344, locals := 208 } : Room) "com/example/maswali/maswali/RendererWrittenInPinLaw" code 15 (some .boolean) "law" X [(a3, c20)] [(a23, c24), (b25, c26), (a7, c8), (b9, c10), (p0, d0), (b0, e0), (p1, d1), (b1, e1), (p2, d2), (b2, e2)] T28 31 (63) := W29
  show Go Z EL1 _ _ _ X T28 129 #[.val (.int counts), .val (.int ka), .val (.int kb), .val (.int kc), .val (.int modes), .val (.int x), .val (.ref p0), .val (.ref p1), .val (.ref p2), .val (.int (0 : Int32)), .val (.int (3 : Int32)), .val (.ref a3), .unset, .unset, .unset] [(.ref a23), (.int (1 : Int32)), (.ref a3)]
  refine Go.aastoreObj (pc' := 130) W29 0 rfl A21 O22 (Or.inr (Or.inl (List.mem_of_getElem? (i := 0) rfl))) S27.1 1 (by decide) (by decide) (by simp) d_code_129 rfl (fun T34 c36 W35 A37 O38 => ?_)
  replace W35 : Wk l Z EL1 ({ frames := 9, cells := 56, slots := 1344, locals := 208 } : Room) "com/example/maswali/maswali/RendererWrittenInPinLaw" code 15 (some .boolean) "law" X [(a3, c36)] [(a23, c24), (b25, c26), (a7, c8), (b9, c10), (p0, d0), (b0, e0), (p1, d1), (b1, e1), (p2, d2), (b2, e2)] T34 31 (63) := W35
  replace A37 : ArrC Z c36 (.object "java/lang/String") [(.ref a7), (.ref a23), (.null)] := A37
  refine Go.iload (pc' := 132) W35 d_code_130 rfl rfl ?_
  refine Go.iconst (pc' := 133) W35 (2 : Int32) d_code_132 (by decide) rfl ?_
  refine Go.icmp_le (pc' := 136) W35 176 d_code_133 (by decide) rfl (fun q => absurd (by decide) q) (fun _ => ?_)
  refine Go.aload (pc' := 138) W35 d_code_136 rfl rfl rfl ?_
  refine Go.iconst (pc' := 139) W35 (2 : Int32) d_code_138 (by decide) rfl ?_
  refine Go.iload (pc' := 141) W35 d_code_139 rfl rfl ?_
  refine Go.iconst (pc' := 142) W35 (2 : Int32) d_code_141 (by decide) rfl ?_
  refine Go.icmp_le (pc' := 145) W35 167 d_code_142 (by decide) rfl (fun _ => ?_) (fun q => absurd q (by decide))
  refine Go.iload (pc' := 169) W35 d_code_167 rfl rfl ?_
  refine Go.bipush (pc' := 171) W35 (6 : Int32) d_code_169 (by decide) rfl ?_
  refine Go.iushr (pc' := 172) W35 d_code_171 rfl ?_
  refine Go.static (pc' := 175) W35 (rm_str G ((x.toUInt32 >>> ((6 : Int32) &&& 31).toUInt32).toInt32)) (w_0 G) (w_1 G) (w_2 G) (w_3 G) (by decide) [] [] (σf := [(a3, c36)]) rfl rfl [(.int ((x.toUInt32 >>> ((6 : Int32) &&& 31).toUInt32).toInt32))] [(.int (2 : Int32)), (.ref a3)] rfl (lenOf pd_10 rfl) rfl rfl d_code_172 rfl (by first | exact Nat.le_of_ble_eq_true rfl | (simp; done) | (simp; omega) | omega) (by first | exact Nat.le_of_ble_eq_true rfl | (simp; done) | (simp; omega) | omega) (by first | exact Nat.le_of_ble_eq_true rfl | (simp; done) | (simp; omega) | omega) (by first | exact Nat.le_of_ble_eq_true rfl | (simp; done) | (simp; omega) | omega) ?_
  rintro _ _ _ T44 ⟨a39, c40, b41, c42, rfl, rfl, rfl, S43⟩ W45
  replace W45 : Wk l Z EL1 ({ frames := 9, cells := 56, slots := 1344, locals := 208 } : Room) "com/example/maswali/maswali/RendererWrittenInPinLaw" code 15 (some .boolean) "law" X [(a3, c36)] [(a39, c40), (b41, c42), (a23, c24), (b25, c26), (a7, c8), (b9, c10), (p0, d0), (b0, e0), (p1, d1), (b1, e1), (p2, d2), (b2, e2)] T44 37 (75) := W45
  show Go Z EL1 _ _ _ X T44 175 #[.val (.int counts), .val (.int ka), .val (.int kb), .val (.int kc), .val (.int modes), .val (.int x), .val (.ref p0), .val (.ref p1), .val (.ref p2), .val (.int (0 : Int32)), .val (.int (3 : Int32)), .val (.ref a3), .unset, .unset, .unset] [(.ref a39), (.int (2 : Int32)), (.ref a3)]
  refine Go.aastoreObj (pc' := 176) W45 0 rfl A37 O38 (Or.inr (Or.inl (List.mem_of_getElem? (i := 0) rfl))) S43.1 2 (by decide) (by decide) (by simp) d_code_175 rfl (fun T50 c52 W51 A53 O54 => ?_)
  replace W51 : Wk l Z EL1 ({ frames := 9, cells := 56, slots := 1344, locals := 208 } : Room) "com/example/maswali/maswali/RendererWrittenInPinLaw" code 15 (some .boolean) "law" X [(a3, c52)] [(a39, c40), (b41, c42), (a23, c24), (b25, c26), (a7, c8), (b9, c10), (p0, d0), (b0, e0), (p1, d1), (b1, e1), (p2, d2), (b2, e2)] T50 37 (75) := W51
  replace A53 : ArrC Z c52 (.object "java/lang/String") [(.ref a7), (.ref a23), (.ref a39)] := A53
  refine Go.new (pc' := 179) W51 (w_35 G) (w_36 G) (w_37 G) d_code_176 rfl (by first | exact Nat.le_of_ble_eq_true rfl | (simp; done) | (simp; omega) | omega) (by first | exact Nat.le_of_ble_eq_true rfl | (simp; done) | (simp; omega) | omega) (fun T55 a57 c58 W56 O59 D60 => ?_)
  replace W56 : Wk l Z EL1 ({ frames := 9, cells := 56, slots := 1344, locals := 208 } : Room) "com/example/maswali/maswali/RendererWrittenInPinLaw" code 15 (some .boolean) "law" X [(a57, c58), (a3, c52)] [(a39, c40), (b41, c42), (a23, c24), (b25, c26), (a7, c8), (b9, c10), (p0, d0), (b0, e0), (p1, d1), (b1, e1), (p2, d2), (b2, e2)] T55 38 (79) := W56
  have F61 : FldC Z c58 "com/example/maswali/maswali/Renderer" "pieces" "[Ljava/lang/String;" (.null) := D60 (Or.inl (w_47 G)) (ty := (.array (.object "java/lang/String"))) (by decide)
  have F62 : FldC Z c58 "com/example/maswali/maswali/Renderer" "bindValues" "Lcom/example/maswali/maswali/BindValues;" (.null) := D60 (Or.inr (w_60 G)) (ty := (.object "com/example/maswali/maswali/BindValues")) (by decide)
  have F63 : FldC Z c58 "com/example/maswali/maswali/Renderer" "dialect" "Lcom/example/maswali/maswali/Dialect;" (.null) := D60 (Or.inr (w_62 G)) (ty := (.object "com/example/maswali/maswali/Dialect")) (by decide)
  have F64 : FldC Z c58 "com/example/maswali/maswali/Renderer" "pieceCount" "I" (.int (0 : Int32)) := D60 (Or.inl (w_69 G)) (ty := .int) (by decide)
  refine Go.dup (pc' := 180) W56 d_code_179 rfl rfl ?_
  refine Go.getstatic (pc' := 183) W56 (w_38 G) Via.refl Sd d_code_180 rfl (fun T65 W66 => ?_)
  refine Go.special (pc' := 186) W66 (a := a57) (rm_ren G a57 c58 nv (.ref da) hnv Sn rfl O59 F61 F64 F63 F62) rfl (w_41 G) (w_42 G) (w_37 G) (w_43 G) (by decide) [0] [] (σf := [(a3, c52)]) rfl rfl [(.ref da)] [(.ref a57)] rfl (lenOf pd_15 rfl) rfl rfl d_code_183 rfl (by first | exact Nat.le_of_ble_eq_true rfl | (simp; done) | (simp; omega) | omega) (by first | exact Nat.le_of_ble_eq_true rfl | (simp; done) | (simp; omega) | omega) (by first | exact Nat.le_of_ble_eq_true rfl | (simp; done) | (simp; omega) | omega) (by first | exact Nat.le_of_ble_eq_true rfl | (simp; done) | (simp; omega) | omega) ?_
  rintro _ _ _ T73 ⟨c67, p68, c69, rfl, rfl, rfl, M70, A71, O72⟩ W74
  replace W74 : Wk l Z EL1 ({ frames := 9, cells := 56, slots := 1344, locals := 208 } : Room) "com/example/maswali/maswali/RendererWrittenInPinLaw" code 15 (some .boolean) "law" X [(a57, c67), (p68, c69), (a3, c52)] [(a39, c40), (b41, c42), (a23, c24), (b25, c26), (a7, c8), (b9, c10), (p0, d0), (b0, e0), (p1, d1), (b1, e1), (p2, d2), (b2, e2)] T73 40 (145) := W74
  show Go Z EL1 _ _ _ X T73 186 #[.val (.int counts), .val (.int ka), .val (.int kb), .val (.int kc), .val (.int modes), .val (.int x), .val (.ref p0), .val (.ref p1), .val (.ref p2), .val (.int (0 : Int32)), .val (.int (3 : Int32)), .val (.ref a3), .unset, .unset, .unset] [(.ref a57)]
  refine Go.astore (pc' := 188) W74 #[.val (.int counts), .val (.int ka), .val (.int kb), .val (.int kc), .val (.int modes), .val (.int x), .val (.ref p0), .val (.ref p1), .val (.ref p2), .val (.int (0 : Int32)), .val (.int (3 : Int32)), .val (.ref a3), .val (.ref a57), .unset, .unset] d_code_186 rfl rfl rfl ?_
  refine Go.iload (pc' := 190) W74 d_code_188 rfl rfl ?_
  refine Go.if_le (pc' := 193) W74 200 d_code_190 (by decide) rfl (fun _ => ?_) (fun q => absurd q (by decide))
  refine Go.iload (pc' := 202) W74 d_code_200 rfl rfl ?_
  refine Go.iconst (pc' := 203) W74 (1 : Int32) d_code_202 (by decide) rfl ?_
  refine Go.icmp_le (pc' := 206) W74 213 d_code_203 (by decide) rfl (fun _ => ?_) (fun q => absurd q (by decide))
  refine Go.iload (pc' := 215) W74 d_code_213 rfl rfl ?_
  refine Go.iconst (pc' := 216) W74 (2 : Int32) d_code_215 (by decide) rfl ?_
  refine Go.icmp_le (pc' := 219) W74 226 d_code_216 (by decide) rfl (fun _ => ?_) (fun q => absurd q (by decide))
  refine Go.aload (pc' := 228) W74 d_code_226 rfl rfl rfl ?_
  refine Go.aload (pc' := 230) W74 d_code_228 rfl rfl rfl ?_
  refine Go.virtual (pc' := 233) W74 (rm_winN G a57 a3 c67 c52 0 3 _ _ rfl (by decide) M70 A53) (Or.inl (List.mem_of_getElem? (i := 0) rfl)) M70.1 (w_63 G) (w_64 G) (w_66 G) (w_65 G) (w_37 G) (w_67 G) (by decide) [0, 1] [] (σf := [(p68, c69)]) rfl rfl [(.ref a3)] [] rfl (lenOf pd_16 rfl) rfl rfl d_code_230 rfl (by first | exact Nat.le_of_ble_eq_true rfl | (simp; done) | (simp; omega) | omega) (by first | exact Nat.le_of_ble_eq_true rfl | (simp; done) | (simp; omega) | omega) (by first | exact Nat.le_of_ble_eq_true rfl | (simp; done) | (simp; omega) | omega) (by first | exact Nat.le_of_ble_eq_true rfl | (simp; done) | (simp; omega) | omega) ?_
  rintro _ _ _ T75 ⟨rfl, rfl, rfl⟩ W76
  replace W76 : Wk l Z EL1 ({ frames := 9, cells := 56, slots := 1344, locals := 208 } : Room) "com/example/maswali/maswali/RendererWrittenInPinLaw" code 15 (some .boolean) "law" X [(a57, c67), (a3, c52), (p68, c69)] [(a39, c40), (b41, c42), (a23, c24), (b25, c26), (a7, c8), (b9, c10), (p0, d0), (b0, e0), (p1, d1), (b1, e1), (p2, d2), (b2, e2)] T75 40 (145) := W76
  show Go Z EL1 _ _ _ X T75 233 #[.val (.int counts), .val (.int ka), .val (.int kb), .val (.int kc), .val (.int modes), .val (.int x), .val (.ref p0), .val (.ref p1), .val (.ref p2), .val (.int (0 : Int32)), .val (.int (3 : Int32)), .val (.ref a3), .val (.ref a57), .unset, .unset] [(.int (0 : Int32))]
  refine Go.istore (pc' := 235) W76 #[.val (.int counts), .val (.int ka), .val (.int kb), .val (.int kc), .val (.int modes), .val (.int x), .val (.ref p0), .val (.ref p1), .val (.ref p2), .val (.int (0 : Int32)), .val (.int (3 : Int32)), .val (.ref a3), .val (.ref a57), .val (.int (0 : Int32)), .unset] d_code_233 rfl rfl ?_
  refine Go.iload (pc' := 237) W76 d_code_235 rfl rfl ?_
  refine Go.iload (pc' := 239) W76 d_code_237 rfl rfl ?_
  refine Go.icmp_ne (pc' := 242) W76 300 d_code_239 (by decide) rfl (fun _ => ?_) (fun q => absurd q (by decide))
  refine Go.iconst (pc' := 301) W76 (0 : Int32) d_code_300 (by decide) rfl ?_
  refine Go.istore (pc' := 303) W76 #[.val (.int counts), .val (.int ka), .val (.int kb), .val (.int kc), .val (.int modes), .val (.int x), .val (.ref p0), .val (.ref p1), .val (.ref p2), .val (.int (0 : Int32)), .val (.int (3 : Int32)), .val (.ref a3), .val (.ref a57), .val (.int (0 : Int32)), .val (.int (0 : Int32))] d_code_301 rfl rfl ?_
  refine Go.iload (pc' := 305) W76 d_code_303 rfl rfl ?_
  refine Go.iload (pc' := 307) W76 d_code_305 rfl rfl ?_
  refine Go.icmp_ne (pc' := 310) W76 314 d_code_307 (by decide) rfl (fun q => absurd (by decide) q) (fun _ => ?_)
  refine Go.iconst (pc' := 311) W76 (1 : Int32) d_code_310 (by decide) rfl ?_
  refine Go.goto W76 315 d_code_311 (by decide) ?_
  refine Go.nret (z' := (1 : Int32)) W76 (by simp) (by decide) d_code_315 (by first | exact Nat.le_of_ble_eq_true rfl | (simp; done) | (simp; omega) | omega) (by first | exact Nat.le_of_ble_eq_true rfl | (simp; done) | (simp; omega) | omega) ?_
  rfl
theorem d_code_193 : decode code 193 = .ok (.aload 12, 2) := by decide +kernel
theorem d_code_195 : decode code 195 = .ok (.aload 6, 2) := by decide +kernel
theorem d_code_197 : decode code 197 = .ok (.invokevirtual 33, 3) := by decide +kernel
theorem w_73 {Z : State} {a0 : Array Value} (G : Cl Z a0) : (Jvm.Cond.methodLink "com/example/maswali/maswali/RendererWrittenInPinLaw" 33 (⟨"com/example/maswali/maswali/Renderer", "append", "(Ljava/lang/String;)V"⟩ : MethodName)).before a0 Z = true := G.1 _ (List.mem_of_getElem? (l := tables_1) (i := 73) rfl)
theorem w_77 {Z : State} {a0 : Array Value} (G : Cl Z a0) : (Jvm.Cond.code (⟨"com/example/maswali/maswali/Renderer", "append", "(Ljava/lang/String;)V"⟩ : MethodName) prog_7_method_3_code 2 none).before a0 Z = true := G.1 _ (List.mem_of_getElem? (l := tables_1) (i := 77) rfl)
theorem pd_17 : parseMethodDescriptor "(Ljava/lang/String;)V" = some ⟨[(.object "java/lang/String")], none⟩ := by decide +kernel
theorem w_74 {Z : State} {a0 : Array Value} (G : Cl Z a0) : (Jvm.Cond.declares (⟨"com/example/maswali/maswali/Renderer", "append", "(Ljava/lang/String;)V"⟩ : MethodName)).before a0 Z = true := G.1 _ (List.mem_of_getElem? (l := tables_1) (i := 74) rfl)
theorem w_76 {Z : State} {a0 : Array Value} (G : Cl Z a0) : (Jvm.Cond.selects "com/example/maswali/maswali/Renderer" (⟨"com/example/maswali/maswali/Renderer", "append", "(Ljava/lang/String;)V"⟩ : MethodName) (⟨"com/example/maswali/maswali/Renderer", "append", "(Ljava/lang/String;)V"⟩ : MethodName)).before a0 Z = true := G.1 _ (List.mem_of_getElem? (l := tables_1) (i := 76) rfl)
theorem w_75 {Z : State} {a0 : Array Value} (G : Cl Z a0) : (Jvm.Cond.instanceMethod (⟨"com/example/maswali/maswali/Renderer", "append", "(Ljava/lang/String;)V"⟩ : MethodName)).before a0 Z = true := G.1 _ (List.mem_of_getElem? (l := tables_1) (i := 75) rfl)
set_option maxRecDepth 65536 in
set_option maxHeartbeats 40000000 in
theorem rm_t10 {l : Launch} {Z : State} {a0 : Array Value} (G : Cl Z a0) (counts ka kb kc modes x : Int32) (nv : Value) (hnv : nv.isRef = true) (Sn : Sta Z Z.heap "com/example/maswali/maswali/BindValues" "NONE" "[Ljava/lang/Object;" nv) (da : Addr) (Sd : Sta Z Z.heap "com/example/maswali/maswali/Dialect" "POSTGRES" "Lcom/example/maswali/maswali/Dialect;" (.ref da)) (p0 b0 p1 b1 p2 b2 : Addr) (d0 e0 d1 e1 d2 e2 : Cell) (S0 : StrL Z d0 b0 e0 (strF ka)) (S1 : StrL Z d1 b1 e1 (strF kb)) (S2 : StrL Z d2 b2 e2 (strF kc)) {X : Ctx} {T0 : State} (W0 : Wk l Z EL1 ({ frames := 9, cells := 56, slots := 1344, locals := 208 } : Room) "com/example/maswali/maswali/RendererWrittenInPinLaw" code 15 (some .boolean) "law" X [] [(p0, d0), (b0, e0), (p1, d1), (b1, e1), (p2, d2), (b2, e2)] T0 18 (36)) :
    Go Z EL1 56 1344 (fun v _ _ => v = some (.int 1)) X T0 43 #[.val (.int counts), .val (.int ka), .val (.int kb), .val (.int kc), .val (.int modes), .val (.int x), .val (.ref p0), .val (.ref p1), .val (.ref p2), .val (.int (1 : Int32)), .val (.int (0 : Int32)), .unset, .unset, .unset, .unset] [] := by
  refine Go.iload (pc' := 45) W0 d_code_43 rfl rfl ?_
  refine Go.anewarr (pc' := 48) W0 0 (w_4 G) (w_34 G) d_code_45 rfl (by decide) (by decide) (by decide) (by first | exact Nat.le_of_ble_eq_true rfl | (simp; done) | (simp; omega) | omega) (by first | exact Nat.le_of_ble_eq_true rfl | (simp; done) | (simp; omega) | omega) (fun T1 a3 c4 W2 A5 O6 => ?_)
  replace W2 : Wk l Z EL1 ({ frames := 9, cells := 56, slots := 1344, locals := 208 } : Room) "com/example/maswali/maswali/RendererWrittenInPinLaw" code 15 (some .boolean) "law" X [(a3, c4)] [(p0, d0), (b0, e0), (p1, d1), (b1, e1), (p2, d2), (b2, e2)] T1 19 (36) := W2
  refine Go.astore (pc' := 50) W2 #[.val (.int counts), .val (.int ka), .val (.int kb), .val (.int kc), .val (.int modes), .val (.int x), .val (.ref p0), .val (.ref p1), .val (.ref p2), .val (.int (1 : Int32)), .val (.int (0 : Int32)), .val (.ref a3), .unset, .unset, .unset] d_code_48 rfl rfl rfl ?_
  refine Go.iload (pc' := 52) W2 d_code_50 rfl rfl ?_
  refine Go.if_le (pc' := 55) W2 86 d_code_52 (by decide) rfl (fun _ => ?_) (fun q => absurd q (by decide))
  refine Go.iload (pc' := 88) W2 d_code_86 rfl rfl ?_
  refine Go.iconst (pc' := 89) W2 (1 : Int32) d_code_88 (by decide) rfl ?_
  refine Go.icmp_le (pc' := 92) W2 130 d_code_89 (by decide) rfl (fun _ => ?_) (fun q => absurd q (by decide))
  refine Go.iload (pc' := 132) W2 d_code_130 rfl rfl ?_
  refine Go.iconst (pc' := 133) W2 (2 : Int32) d_code_132 (by decide) rfl ?_
  refine Go.icmp_le (pc' := 136) W2 176 d_code_133 (by decide) rfl (fun _ => ?_) (fun q => absurd q (by decide))
  refine Go.new (pc' := 179) W2 (w_35 G) (w_36 G) (w_37 G) d_code_176 rfl (by first | exact Nat.le_of_ble_eq_true rfl | (simp; done) | (simp; omega) | omega) (by first | exact Nat.le_of_ble_eq_true rfl | (simp; done) | (simp; omega) | omega) (fun T7 a9 c10 W8 O11 D12 => ?_)
  replace W8 : Wk l Z EL1 ({ frames := 9, cells := 56, slots := 1344, locals := 208 } : Room) "com/example/maswali/maswali/RendererWrittenInPinLaw" code 15 (some .boolean) "law" X [(a9, c10), (a3, c4)] [(p0, d0), (b0, e0), (p1, d1), (b1, e1), (p2, d2), (b2, e2)] T7 20 (40) := W8
  have F13 : FldC Z c10 "com/example/maswali/maswali/Renderer" "pieces" "[Ljava/lang/String;" (.null) := D12 (Or.inl (w_47 G)) (ty := (.array (.object "java/lang/String"))) (by decide)
  have F14 : FldC Z c10 "com/example/maswali/maswali/Renderer" "bindValues" "Lcom/example/maswali/maswali/BindValues;" (.null) := D12 (Or.inr (w_60 G)) (ty := (.object "com/example/maswali/maswali/BindValues")) (by decide)
  have F15 : FldC Z c10 "com/example/maswali/maswali/Renderer" "dialect" "Lcom/example/maswali/maswali/Dialect;" (.null) := D12 (Or.inr (w_62 G)) (ty := (.object "com/example/maswali/maswali/Dialect")) (by decide)
  have F16 : FldC Z c10 "com/example/maswali/maswali/Renderer" "pieceCount" "I" (.int (0 : Int32)) := D12 (Or.inl (w_69 G)) (ty := .int) (by decide)
  refine Go.dup (pc' := 180) W8 d_code_179 rfl rfl ?_
  refine Go.getstatic (pc' := 183) W8 (w_38 G) Via.refl Sd d_code_180 rfl (fun T17 W18 => ?_)
  refine Go.special (pc' := 186) W18 (a := a9) (rm_ren G a9 c10 nv (.ref da) hnv Sn rfl O11 F13 F16 F15 F14) rfl (w_41 G) (w_42 G) (w_37 G) (w_43 G) (by decide) [0] [] (σf := [(a3, c4)]) rfl rfl [(.ref da)] [(.ref a9)] rfl (lenOf pd_15 rfl) rfl rfl d_code_183 rfl (by first | exact Nat.le_of_ble_eq_true rfl | (simp; done) | (simp; omega) | omega) (by first | exact Nat.le_of_ble_eq_true rfl | (simp; done) | (simp; omega) | omega) (by first | exact Nat.le_of_ble_eq_true rfl | (simp; done) | (simp; omega) | omega) (by first | exact Nat.le_of_ble_eq_true rfl | (simp; done) | (simp; omega) | omega) ?_
  rintro _ _ _ T25 ⟨c19, p20, c21, rfl, rfl, rfl, M22, A23, O24⟩ W26
  replace W26 : Wk l Z EL1 ({ frames := 9, cells := 56, slots := 1344, locals := 208 } : Room) "com/example/maswali/maswali/RendererWrittenInPinLaw" code 15 (some .boolean) "law" X [(a9, c19), (p20, c21), (a3, c4)] [(p0, d0), (b0, e0), (p1, d1), (b1, e1), (p2, d2), (b2, e2)] T25 22 (106) := W26
  show Go Z EL1 _ _ _ X T25 186 #[.val (.int counts), .val (.int ka), .val (.int kb), .val (.int kc), .val (.int modes), .val (.int x), .val (.ref p0), .val (.ref p1), .val (.ref p2), .val (.int (1 : Int32)), .val (.int (0 : Int32)), .val (.ref a3), .unset, .unset, .unset] [(.ref a9)]
  refine Go.astore (pc' := 188) W26 #[.val (.int counts), .val (.int ka), .val (.int kb), .val (.int kc), .val (.int modes), .val (.int x), .val (.ref p0), .val (.ref p1), .val (.ref p2), .val (.int (1 : Int32)), .val (.int (0 : Int32)), .val (.ref a3), .val (.ref a9), .unset, .unset] d_code_186 rfl rfl rfl ?_
  refine Go.iload (pc' := 190) W26 d_code_188 rfl rfl ?_
  refine Go.if_le (pc' := 193) W26 200 d_code_190 (by decide) rfl (fun q => absurd (by decide) q) (fun _ => ?_)
  refine Go.aload (pc' := 195) W26 d_code_193 rfl rfl rfl ?_
  refine Go.aload (pc' := 197) W26 d_code_195 rfl rfl rfl ?_
  refine Go.virtual (pc' := 200) W26 (rm_app G a9 p20 p0 b0 c19 c21 d0 e0 0 _ _ (by decide) (by simp) S0 M22 A23 O24) (Or.inl (List.mem_of_getElem? (i := 0) rfl)) M22.1 (w_73 G) (w_74 G) (w_76 G) (w_75 G) (w_37 G) (w_77 G) (by decide) [0, 0] [0] (σf := [(a3, c4)]) rfl rfl [(.ref p0)] [] rfl (lenOf pd_17 rfl) rfl rfl d_code_197 rfl (by first | exact Nat.le_of_ble_eq_true rfl | (simp; done) | (simp; omega) | omega) (by first | exact Nat.le_of_ble_eq_true rfl | (simp; done) | (simp; omega) | omega) (by first | exact Nat.le_of_ble_eq_true rfl | (simp; done) | (simp; omega) | omega) (by first | exact Nat.le_of_ble_eq_true rfl | (simp; done) | (simp; omega) | omega) ?_
  rintro _ _ _ T32 ⟨c27, c28, rfl, rfl, rfl, M29, A30, O31⟩ W33
  replace W33 : Wk l Z EL1 ({ frames := 9, cells := 56, slots := 1344, locals := 208 } : Room) "com/example/maswali/maswali/RendererWrittenInPinLaw" code 15 (some .boolean) "law" X [(a9, c27), (p20, c28), (a3, c4)] [(p0, d0), (b0, e0), (p1, d1), (b1, e1), (p2, d2), (b2, e2)] T32 22 (106) := W33
  show Go Z EL1 _ _ _ X T32 200 #[.val (.int counts), .val (.int ka), .val (.int kb), .val (.int kc), .val (.int modes), .val (.int x), .val (.ref p0), .val (.ref p1), .val (.ref p2), .val (.int (1 : Int32)), .val (.int (0 : Int32)), .val (.ref a3), .val (.ref a9), .unset, .unset] []
  refine Go.iload (pc' := 202) W33 d_code_200 rfl rfl ?_
  refine Go.iconst (pc' := 203) W33 (1 : Int32) d_code_202 (by decide) rfl ?_
  refine Go.icmp_le (pc' := 206) W33 213 d_code_203 (by decide) rfl (fun _ => ?_) (fun q => absurd q (by decide))
  refine Go.iload (pc' := 215) W33 d_code_213 rfl rfl ?_
  refine Go.iconst (pc' := 216) W33 (2 : Int32) d_code_215 (by decide) rfl ?_
  refine Go.icmp_le (pc' := 219) W33 226 d_code_216 (by decide) rfl (fun _ => ?_) (fun q => absurd q (by decide))
  refine Go.aload (pc' := 228) W33 d_code_226 rfl rfl rfl ?_
  refine Go.aload (pc' := 230) W33 d_code_228 rfl rfl rfl ?_
  refine Go.virtual (pc' := 233) W33 (rm_winN G a9 a3 c27 c4 1 0 _ _ rfl (by decide) M29 A5) (Or.inl (List.mem_of_getElem? (i := 0) rfl)) M29.1 (w_63 G) (w_64 G) (w_66 G) (w_65 G) (w_37 G) (w_67 G) (by decide) [0, 1] [] (σf := [(p20, c28)]) rfl rfl [(.ref a3)] [] rfl (lenOf pd_16 rfl) rfl rfl d_code_230 rfl (by first | exact Nat.le_of_ble_eq_true rfl | (simp; done) | (simp; omega) | omega) (by first | exact Nat.le_of_ble_eq_true rfl | (simp; done) | (simp; omega) | omega) (by first | exact Nat.le_of_ble_eq_true rfl | (simp; done) | (simp; omega) | omega) (by first | exact Nat.le_of_ble_eq_true rfl | (simp; done) | (simp; omega) | omega) ?_
  rintro _ _ _ T34 ⟨rfl, rfl, rfl⟩ W35
  replace W35 : Wk l Z EL1 ({ frames := 9, cells := 56, slots := 1344, locals := 208 } : Room) "com/example/maswali/maswali/RendererWrittenInPinLaw" code 15 (some .boolean) "law" X [(a9, c27), (a3, c4), (p20, c28)] [(p0, d0), (b0, e0), (p1, d1), (b1, e1), (p2, d2), (b2, e2)] T34 22 (106) := W35
  show Go Z EL1 _ _ _ X T34 233 #[.val (.int counts), .val (.int ka), .val (.int kb), .val (.int kc), .val (.int modes), .val (.int x), .val (.ref p0), .val (.ref p1), .val (.ref p2), .val (.int (1 : Int32)), .val (.int (0 : Int32)), .val (.ref a3), .val (.ref a9), .unset, .unset] [(.int (0 : Int32))]
  refine Go.istore (pc' := 235) W35 #[.val (.int counts), .val (.int ka), .val (.int kb), .val (.int kc), .val (.int modes), .val (.int x), .val (.ref p0), .val (.ref p1), .val (.ref p2), .val (.int (1 : Int32)), .val (.int (0 : Int32)), .val (.ref a3), .val (.ref a9), .val (.int (0 : Int32)), .unset] d_code_233 rfl rfl ?_
  refine Go.iload (pc' := 237) W35 d_code_235 rfl rfl ?_
  refine Go.iload (pc' := 239) W35 d_code_237 rfl rfl ?_
  refine Go.icmp_ne (pc' := 242) W35 300 d_code_239 (by decide) rfl (fun _ => ?_) (fun q => absurd q (by decide))
  refine Go.iconst (pc' := 301) W35 (0 : Int32) d_code_300 (by decide) rfl ?_
  refine Go.istore (pc' := 303) W35 #[.val (.int counts), .val (.int ka), .val (.int kb), .val (.int kc), .val (.int modes), .val (.int x), .val (.ref p0), .val (.ref p1), .val (.ref p2), .val (.int (1 : Int32)), .val (.int (0 : Int32)), .val (.ref a3), .val (.ref a9), .val (.int (0 : Int32)), .val (.int (0 : Int32))] d_code_301 rfl rfl ?_
  refine Go.iload (pc' := 305) W35 d_code_303 rfl rfl ?_
  refine Go.iload (pc' := 307) W35 d_code_305 rfl rfl ?_
  refine Go.icmp_ne (pc' := 310) W35 314 d_code_307 (by decide) rfl (fun q => absurd (by decide) q) (fun _ => ?_)
  refine Go.iconst (pc' := 311) W35 (1 : Int32) d_code_310 (by decide) rfl ?_
  refine Go.goto W35 315 d_code_311 (by decide) ?_
  refine Go.nret (z' := (1 : Int32)) W35 (by simp) (by decide) d_code_315 (by first | exact Nat.le_of_ble_eq_true rfl | (simp; done) | (simp; omega) | omega) (by first | exact Nat.le_of_ble_eq_true rfl | (simp; done) | (simp; omega) | omega) ?_
  rfl
theorem d_code_63 : decode code 63 = .ok (.aload 6, 2) := by decide +kernel
theorem d_code_65 : decode code 65 = .ok (.iload_n 1, 1) := by decide +kernel
theorem d_code_66 : decode code 66 = .ok (.iload 4, 2) := by decide +kernel
theorem d_code_68 : decode code 68 = .ok (.iconst 3, 1) := by decide +kernel
theorem d_code_69 : decode code 69 = .ok (.iand, 1) := by decide +kernel
theorem d_code_70 : decode code 70 = .ok (.iload 5, 2) := by decide +kernel
theorem d_code_72 : decode code 72 = .ok (.aload 7, 2) := by decide +kernel
theorem d_code_74 : decode code 74 = .ok (.invokestatic 18, 3) := by decide +kernel
theorem w_70 {Z : State} {a0 : Array Value} (G : Cl Z a0) : (Jvm.Cond.methodLink "com/example/maswali/maswali/RendererWrittenInPinLaw" 18 (⟨"com/example/maswali/maswali/RendererWrittenInPinLaw", "other", "(Ljava/lang/String;IIILjava/lang/String;)Ljava/lang/String;"⟩ : MethodName)).before a0 Z = true := G.1 _ (List.mem_of_getElem? (l := tables_1) (i := 70) rfl)
theorem w_72 {Z : State} {a0 : Array Value} (G : Cl Z a0) : (Jvm.Cond.code (⟨"com/example/maswali/maswali/RendererWrittenInPinLaw", "other", "(Ljava/lang/String;IIILjava/lang/String;)Ljava/lang/String;"⟩ : MethodName) method_3_code 5 (some (.object "java/lang/String"))).before a0 Z = true := G.1 _ (List.mem_of_getElem? (l := tables_1) (i := 72) rfl)
theorem pd_18 : parseMethodDescriptor "(Ljava/lang/String;IIILjava/lang/String;)Ljava/lang/String;" = some ⟨[(.object "java/lang/String"), .int, .int, .int, (.object "java/lang/String")], some (.object "java/lang/String")⟩ := by decide +kernel
theorem w_71 {Z : State} {a0 : Array Value} (G : Cl Z a0) : (Jvm.Cond.static (⟨"com/example/maswali/maswali/RendererWrittenInPinLaw", "other", "(Ljava/lang/String;IIILjava/lang/String;)Ljava/lang/String;"⟩ : MethodName)).before a0 Z = true := G.1 _ (List.mem_of_getElem? (l := tables_1) (i := 71) rfl)
theorem d_code_77 : decode code 77 = .ok (.goto 8, 3) := by decide +kernel
theorem d_code_248 : decode code 248 = .ok (.aload 6, 2) := by decide +kernel
theorem d_code_250 : decode code 250 = .ok (.aload 11, 2) := by decide +kernel
theorem d_code_252 : decode code 252 = .ok (.iconst 0, 1) := by decide +kernel
theorem d_code_253 : decode code 253 = .ok (.aaload, 1) := by decide +kernel
theorem d_code_254 : decode code 254 = .ok (.invokevirtual 41, 3) := by decide +kernel
theorem w_91 {Z : State} {a0 : Array Value} (G : Cl Z a0) : (Jvm.Cond.methodLink "com/example/maswali/maswali/RendererWrittenInPinLaw" 41 (⟨"java/lang/String", "equals", "(Ljava/lang/Object;)Z"⟩ : MethodName)).before a0 Z = true := G.1 _ (List.mem_of_getElem? (l := tables_1) (i := 91) rfl)
theorem d_code_257 : decode code 257 = .ok (.ifCond .eq 43, 3) := by decide +kernel
set_option maxRecDepth 65536 in
set_option maxHeartbeats 40000000 in
theorem rm_t11 {l : Launch} {Z : State} {a0 : Array Value} (G : Cl Z a0) (counts ka kb kc modes x : Int32) (nv : Value) (hnv : nv.isRef = true) (Sn : Sta Z Z.heap "com/example/maswali/maswali/BindValues" "NONE" "[Ljava/lang/Object;" nv) (da : Addr) (Sd : Sta Z Z.heap "com/example/maswali/maswali/Dialect" "POSTGRES" "Lcom/example/maswali/maswali/Dialect;" (.ref da)) (p0 b0 p1 b1 p2 b2 : Addr) (d0 e0 d1 e1 d2 e2 : Cell) (S0 : StrL Z d0 b0 e0 (strF ka)) (S1 : StrL Z d1 b1 e1 (strF kb)) (S2 : StrL Z d2 b2 e2 (strF kc)) {X : Ctx} {T0 : State} (W0 : Wk l Z EL1 ({ frames := 9, cells := 56, slots := 1344, locals := 208 } : Room) "com/example/maswali/maswali/RendererWrittenInPinLaw" code 15 (some .boolean) "law" X [] [(p0, d0), (b0, e0), (p1, d1), (b1, e1), (p2, d2), (b2, e2)] T0 18 (36)) :
    Go Z EL1 56 1344 (fun v _ _ => v = some (.int 1)) X T0 43 #[.val (.int counts), .val (.int ka), .val (.int kb), .val (.int kc), .val (.int modes), .val (.int x), .val (.ref p0), .val (.ref p1), .val (.ref p2), .val (.int (1 : Int32)), .val (.int (1 : Int32)), .unset, .unset, .unset, .unset] [] := by
  refine Go.iload (pc' := 45) W0 d_code_43 rfl rfl ?_
  refine Go.anewarr (pc' := 48) W0 1 (w_4 G) (w_34 G) d_code_45 rfl (by decide) (by decide) (by decide) (by first | exact Nat.le_of_ble_eq_true rfl | (simp; done) | (simp; omega) | omega) (by first | exact Nat.le_of_ble_eq_true rfl | (simp; done) | (simp; omega) | omega) (fun T1 a3 c4 W2 A5 O6 => ?_)
  replace W2 : Wk l Z EL1 ({ frames := 9, cells := 56, slots := 1344, locals := 208 } : Room) "com/example/maswali/maswali/RendererWrittenInPinLaw" code 15 (some .boolean) "law" X [(a3, c4)] [(p0, d0), (b0, e0), (p1, d1), (b1, e1), (p2, d2), (b2, e2)] T1 19 (37) := W2
  refine Go.astore (pc' := 50) W2 #[.val (.int counts), .val (.int ka), .val (.int kb), .val (.int kc), .val (.int modes), .val (.int x), .val (.ref p0), .val (.ref p1), .val (.ref p2), .val (.int (1 : Int32)), .val (.int (1 : Int32)), .val (.ref a3), .unset, .unset, .unset] d_code_48 rfl rfl rfl ?_
  refine Go.iload (pc' := 52) W2 d_code_50 rfl rfl ?_
  refine Go.if_le (pc' := 55) W2 86 d_code_52 (by decide) rfl (fun q => absurd (by decide) q) (fun _ => ?_)
  refine Go.aload (pc' := 57) W2 d_code_55 rfl rfl rfl ?_
  refine Go.iconst (pc' := 58) W2 (0 : Int32) d_code_57 (by decide) rfl ?_
  refine Go.iload (pc' := 60) W2 d_code_58 rfl rfl ?_
  refine Go.if_le (pc' := 63) W2 80 d_code_60 (by decide) rfl (fun q => absurd (by decide) q) (fun _ => ?_)
  refine Go.aload (pc' := 65) W2 d_code_63 rfl rfl rfl ?_
  refine Go.iloadN (pc' := 66) W2 d_code_65 rfl rfl ?_
  refine Go.iload (pc' := 68) W2 d_code_66 rfl rfl ?_
  refine Go.iconst (pc' := 69) W2 (3 : Int32) d_code_68 (by decide) rfl ?_
  refine Go.iand (pc' := 70) W2 d_code_69 rfl ?_
  refine Go.iload (pc' := 72) W2 d_code_70 rfl rfl ?_
  refine Go.aload (pc' := 74) W2 d_code_72 rfl rfl rfl ?_
  refine Go.static (pc' := 77) W2 (rm_oth G p0 b0 p1 b1 d0 e0 d1 e1 _ _ ka (modes &&& (3 : Int32)) x S0 S1) (w_70 G) (w_71 G) (w_2 G) (w_72 G) (by decide) [] [0, 1, 2, 3] (σf := [(a3, c4)]) rfl rfl [(.ref p0), (.int ka), (.int (modes &&& (3 : Int32))), (.int x), (.ref p1)] [(.int (0 : Int32)), (.ref a3)] rfl (lenOf pd_18 rfl) rfl rfl d_code_74 rfl (by first | exact Nat.le_of_ble_eq_true rfl | (simp; done) | (simp; omega) | omega) (by first | exact Nat.le_of_ble_eq_true rfl | (simp; done) | (simp; omega) | omega) (by first | exact Nat.le_of_ble_eq_true rfl | (simp; done) | (simp; omega) | omega) (by first | exact Nat.le_of_ble_eq_true rfl | (simp; done) | (simp; omega) | omega) ?_
  rintro _ _ _ T12 ⟨a7, c8, b9, c10, rfl, rfl, rfl, S11⟩ W13
  replace W13 : Wk l Z EL1 ({ frames := 9, cells := 56, slots := 1344, locals := 208 } : Room) "com/example/maswali/maswali/RendererWrittenInPinLaw" code 15 (some .boolean) "law" X [(a3, c4)] [(a7, c8), (b9, c10), (p0, d0), (b0, e0), (p1, d1), (b1, e1), (p2, d2), (b2, e2)] T12 25 (49) := W13
  show Go Z EL1 _ _ _ X T12 77 #[.val (.int counts), .val (.int ka), .val (.int kb), .val (.int kc), .val (.int modes), .val (.int x), .val (.ref p0), .val (.ref p1), .val (.ref p2), .val (.int (1 : Int32)), .val (.int (1 : Int32)), .val (.ref a3), .unset, .unset, .unset] [(.ref a7), (.int (0 : Int32)), (.ref a3)]
  refine Go.goto W13 85 d_code_77 (by decide) ?_
  refine Go.aastoreObj (pc' := 86) W13 0 rfl A5 O6 (Or.inr (Or.inl (List.mem_of_getElem? (i := 0) rfl))) S11.1 0 (by decide) (by decide) (by simp) d_code_85 rfl (fun T18 c20 W19 A21 O22 => ?_)
  replace W19 : Wk l Z EL1 ({ frames := 9, cells := 56, slots := 1344, locals := 208 } : Room) "com/example/maswali/maswali/RendererWrittenInPinLaw" code 15 (some .boolean) "law" X [(a3, c20)] [(a7, c8), (b9, c10), (p0, d0), (b0, e0), (p1, d1), (b1, e1), (p2, d2), (b2, e2)] T18 25 (49) := W19
  replace A21 : ArrC Z c20 (.object "java/lang/String") [(.ref a7)] := A21
  refine Go.iload (pc' := 88) W19 d_code_86 rfl rfl ?_
  refine Go.iconst (pc' := 89) W19 (1 : Int32) d_code_88 (by decide) rfl ?_
  refine Go.icmp_le (pc' := 92) W19 130 d_code_89 (by decide) rfl (fun _ => ?_) (fun q => absurd q (by decide))
  refine Go.iload (pc' := 132) W19 d_code_130 rfl rfl ?_
  refine Go.iconst (pc' := 133) W19 (2 : Int32) d_code_132 (by decide) rfl ?_
  refine Go.icmp_le (pc' := 136) W19 176 d_code_133 (by decide) rfl (fun _ => ?_) (fun q => absurd q (by decide))
  refine Go.new (pc' := 179) W19 (w_35 G) (w_36 G) (w_37 G) d_code_176 rfl (by first | exact Nat.le_of_ble_eq_true rfl | (simp; done) | (simp; omega) | omega) (by first | exact Nat.le_of_ble_eq_true rfl | (simp; done) | (simp; omega) | omega) (fun T23 a25 c26 W24 O27 D28 => ?_)
  replace W24 : Wk l Z EL1 ({ frames := 9, cells := 56, slots := 1344, locals := 208 } : Room) "com/example/maswali/maswali/RendererWrittenInPinLaw" code 15 (some .boolean) "law" X [(a25, c26), (a3, c20)] [(a7, c8), (b9, c10), (p0, d0), (b0, e0), (p1, d1), (b1, e1), (p2, d2), (b2, e2)] T23 26 (53) := W24
  have F29 : FldC Z c26 "com/example/maswali/maswali/Renderer" "pieces" "[Ljava/lang/String;" (.null) := D28 (Or.inl (w_47 G)) (ty := (.array (.object "java/lang/String"))) (by decide)
  have F30 : FldC Z c26 "com/example/maswali/maswali/Renderer" "bindValues" "Lcom/example/maswali/maswali/BindValues;" (.null) := D28 (Or.inr (w_60 G)) (ty := (.object "com/example/maswali/maswali/BindValues")) (by decide)
  have F31 : FldC Z c26 "com/example/maswali/maswali/Renderer" "dialect" "Lcom/example/maswali/maswali/Dialect;" (.null) := D28 (Or.inr (w_62 G)) (ty := (.object "com/example/maswali/maswali/Dialect")) (by decide)
  have F32 : FldC Z c26 "com/example/maswali/maswali/Renderer" "pieceCount" "I" (.int (0 : Int32)) := D28 (Or.inl (w_69 G)) (ty := .int) (by decide)
  refine Go.dup (pc' := 180) W24 d_code_179 rfl rfl ?_
  refine Go.getstatic (pc' := 183) W24 (w_38 G) Via.refl Sd d_code_180 rfl (fun T33 W34 => ?_)
  refine Go.special (pc' := 186) W34 (a := a25) (rm_ren G a25 c26 nv (.ref da) hnv Sn rfl O27 F29 F32 F31 F30) rfl (w_41 G) (w_42 G) (w_37 G) (w_43 G) (by decide) [0] [] (σf := [(a3, c20)]) rfl rfl [(.ref da)] [(.ref a25)] rfl (lenOf pd_15 rfl) rfl rfl d_code_183 rfl (by first | exact Nat.le_of_ble_eq_true rfl | (simp; done) | (simp; omega) | omega) (by first | exact Nat.le_of_ble_eq_true rfl | (simp; done) | (simp; omega) | omega) (by first | exact Nat.le_of_ble_eq_true rfl | (simp; done) | (simp; omega) | omega) (by first | exact Nat.le_of_ble_eq_true rfl | (simp; done) | (simp; omega) | omega) ?_
  rintro _ _ _ T41 ⟨c35, p36, c37, rfl, rfl, rfl, M38, A39, O40⟩ W42
  replace W42 : Wk l Z EL1 ({ frames := 9, cells := 56, slots := 1344, locals := 208 } : Room) "com/example/maswali/maswali/RendererWrittenInPinLaw" code 15 (some .boolean) "law" X [(a25, c35), (p36, c37), (a3, c20)] [(a7, c8), (b9, c10), (p0, d0), (b0, e0), (p1, d1), (b1, e1), (p2, d2), (b2, e2)] T41 28 (119) := W42
  show Go Z EL1 _ _ _ X T41 186 #[.val (.int counts), .val (.int ka), .val (.int kb), .val (.int kc), .val (.int modes), .val (.int x), .val (.ref p0), .val (.ref p1), .val (.ref p2), .val (.int (1 : Int32)), .val (.int (1 : Int32)), .val (.ref a3), .unset, .unset, .unset] [(.ref a25)]
  refine Go.astore (pc' := 188) W42 #[.val (.int counts), .val (.int ka), .val (.int kb), .val (.int kc), .val (.int modes), .val (.int x), .val (.ref p0), .val (.ref p1), .val (.ref p2), .val (.int (1 : Int32)), .val (.int (1 : Int32)), .val (.ref a3), .val (.ref a25), .unset, .unset] d_code_186 rfl rfl rfl ?_
  refine Go.iload (pc' := 190) W42 d_code_188 rfl rfl ?_
  refine Go.if_le (pc' := 193) W42 200 d_code_190 (by decide) rfl (fun q => absurd (by decide) q) (fun _ => ?_)
  refine Go.aload (pc' := 195) W42 d_code_193 rfl rfl rfl ?_
  refine Go.aload (pc' := 197) W42 d_code_195 rfl rfl rfl ?_
  refine Go.virtual (pc' := 200) W42 (rm_app G a25 p36 p0 b0 c35 c37 d0 e0 0 _ _ (by decide) (by simp) S0 M38 A39 O40) (Or.inl (List.mem_of_getElem? (i := 0) rfl)) M38.1 (w_73 G) (w_74 G) (w_76 G) (w_75 G) (w_37 G) (w_77 G) (by decide) [0, 0] [2] (σf := [(a3, c20)]) rfl rfl [(.ref p0)] [] rfl (lenOf pd_17 rfl) rfl rfl d_code_197 rfl (by first | exact Nat.le_of_ble_eq_true rfl | (simp; done) | (simp; omega) | omega) (by first | exact Nat.le_of_ble_eq_true rfl | (simp; done) | (simp; omega) | omega) (by first | exact Nat.le_of_ble_eq_true rfl | (simp; done) | (simp; omega) | omega) (by first | exact Nat.le_of_ble_eq_true rfl | (simp; done) | (simp; omega) | omega) ?_
  rintro _ _ _ T48 ⟨c43, c44, rfl, rfl, rfl, M45, A46, O47⟩ W49
  replace W49 : Wk l Z EL1 ({ frames := 9, cells := 56, slots := 1344, locals := 208 } : Room) "com/example/maswali/maswali/RendererWrittenInPinLaw" code 15 (some .boolean) "law" X [(a25, c43), (p36, c44), (a3, c20)] [(a7, c8), (b9, c10), (p0, d0), (b0, e0), (p1, d1), (b1, e1), (p2, d2), (b2, e2)] T48 28 (119) := W49
  show Go Z EL1 _ _ _ X T48 200 #[.val (.int counts), .val (.int ka), .val (.int kb), .val (.int kc), .val (.int modes), .val (.int x), .val (.ref p0), .val (.ref p1), .val (.ref p2), .val (.int (1 : Int32)), .val (.int (1 : Int32)), .val (.ref a3), .val (.ref a25), .unset, .unset] []
  refine Go.iload (pc' := 202) W49 d_code_200 rfl rfl ?_
  refine Go.iconst (pc' := 203) W49 (1 : Int32) d_code_202 (by decide) rfl ?_
  refine Go.icmp_le (pc' := 206) W49 213 d_code_203 (by decide) rfl (fun _ => ?_) (fun q => absurd q (by decide))
  refine Go.iload (pc' := 215) W49 d_code_213 rfl rfl ?_
  refine Go.iconst (pc' := 216) W49 (2 : Int32) d_code_215 (by decide) rfl ?_
  refine Go.icmp_le (pc' := 219) W49 226 d_code_216 (by decide) rfl (fun _ => ?_) (fun q => absurd q (by decide))
  refine Go.aload (pc' := 228) W49 d_code_226 rfl rfl rfl ?_
  refine Go.aload (pc' := 230) W49 d_code_228 rfl rfl rfl ?_
  refine Go.virtual (pc' := 233) W49 (rm_win1 G a25 p36 a3 c43 c44 c20 _ p0 b0 a7 b9 d0 e0 c8 c10 _ _ S0 S11 (by simp) M45 A46 A21) (Or.inl (List.mem_of_getElem? (i := 0) rfl)) M45.1 (w_63 G) (w_64 G) (w_66 G) (w_65 G) (w_37 G) (w_67 G) (by decide) [0, 0, 0] [2, 3, 0, 1] (σf := []) rfl rfl [(.ref a3)] [] rfl (lenOf pd_16 rfl) rfl rfl d_code_230 rfl (by first | exact Nat.le_of_ble_eq_true rfl | (simp; done) | (simp; omega) | omega) (by first | exact Nat.le_of_ble_eq_true rfl | (simp; done) | (simp; omega) | omega) (by first | exact Nat.le_of_ble_eq_true rfl | (simp; done) | (simp; omega) | omega) (by first | exact Nat.le_of_ble_eq_true rfl | (simp; done) | (simp; omega) | omega) ?_
  rintro _ _ _ T50 ⟨rfl, rfl, rfl⟩ W51
  replace W51 : Wk l Z EL1 ({ frames := 9, cells := 56, slots := 1344, locals := 208 } : Room) "com/example/maswali/maswali/RendererWrittenInPinLaw" code 15 (some .boolean) "law" X [(a25, c43), (p36, c44), (a3, c20)] [(a7, c8), (b9, c10), (p0, d0), (b0, e0), (p1, d1), (b1, e1), (p2, d2), (b2, e2)] T50 28 (119) := W51
  show Go Z EL1 _ _ _ X T50 233 #[.val (.int counts), .val (.int ka), .val (.int kb), .val (.int kc), .val (.int modes), .val (.int x), .val (.ref p0), .val (.ref p1), .val (.ref p2), .val (.int (1 : Int32)), .val (.int (1 : Int32)), .val (.ref a3), .val (.ref a25), .unset, .unset] [(.int (if (strF ka) = (othF (strF ka) ka (modes &&& (3 : Int32)) x (strF kb)) then 1 else 0))]
  refine Go.istore (pc' := 235) W51 #[.val (.int counts), .val (.int ka), .val (.int kb), .val (.int kc), .val (.int modes), .val (.int x), .val (.ref p0), .val (.ref p1), .val (.ref p2), .val (.int (1 : Int32)), .val (.int (1 : Int32)), .val (.ref a3), .val (.ref a25), .val (.int (if (strF ka) = (othF (strF ka) ka (modes &&& (3 : Int32)) x (strF kb)) then 1 else 0)), .unset] d_code_233 rfl rfl ?_
  refine Go.iload (pc' := 237) W51 d_code_235 rfl rfl ?_
  refine Go.iload (pc' := 239) W51 d_code_237 rfl rfl ?_
  refine Go.icmp_ne (pc' := 242) W51 300 d_code_239 (by decide) rfl (fun q => absurd (by decide) q) (fun _ => ?_)
  refine Go.iload (pc' := 244) W51 d_code_242 rfl rfl ?_
  refine Go.iconst (pc' := 245) W51 (1 : Int32) d_code_244 (by decide) rfl ?_
  refine Go.icmp_lt (pc' := 248) W51 260 d_code_245 (by decide) rfl (fun q => absurd q (by decide)) (fun _ => ?_)
  refine Go.aload (pc' := 250) W51 d_code_248 rfl rfl rfl ?_
  refine Go.aload (pc' := 252) W51 d_code_250 rfl rfl rfl ?_
  refine Go.iconst (pc' := 253) W51 (0 : Int32) d_code_252 (by decide) rfl ?_
  refine Go.aaload (pc' := 254) W51 (Or.inl (List.mem_of_getElem? (i := 2) rfl)) A21 rfl 0 (by decide) (by decide) rfl d_code_253 rfl ?_
  refine Go.virtual (pc' := 257) W51 (rm_eqs G p0 a7 b0 b9 d0 c8 e0 c10 _ _ S0 S11) (Or.inr (Or.inl (List.mem_of_getElem? (i := 2) rfl))) S0.1 (w_91 G) (w_82 G) (w_84 G) (w_83 G) (w_6 G) (w_85 G) (by decide) [] [2, 3, 0, 1] (σf := [(a25, c43), (p36, c44), (a3, c20)]) rfl rfl [(.ref a7)] [] rfl (lenOf pd_14 rfl) rfl rfl d_code_254 rfl (by first | exact Nat.le_of_ble_eq_true rfl | (simp; done) | (simp; omega) | omega) (by first | exact Nat.le_of_ble_eq_true rfl | (simp; done) | (simp; omega) | omega) (by first | exact Nat.le_of_ble_eq_true rfl | (simp; done) | (simp; omega) | omega) (by first | exact Nat.le_of_ble_eq_true rfl | (simp; done) | (simp; omega) | omega) ?_
  rintro _ _ _ T52 ⟨rfl, rfl, rfl⟩ W53
  replace W53 : Wk l Z EL1 ({ frames := 9, cells := 56, slots := 1344, locals := 208 } : Room) "com/example/maswali/maswali/RendererWrittenInPinLaw" code 15 (some .boolean) "law" X [(a25, c43), (p36, c44), (a3, c20)] [(a7, c8), (b9, c10), (p0, d0), (b0, e0), (p1, d1), (b1, e1), (p2, d2), (b2, e2)] T52 28 (119) := W53
  show Go Z EL1 _ _ _ X T52 257 #[.val (.int counts), .val (.int ka), .val (.int kb), .val (.int kc), .val (.int modes), .val (.int x), .val (.ref p0), .val (.ref p1), .val (.ref p2), .val (.int (1 : Int32)), .val (.int (1 : Int32)), .val (.ref a3), .val (.ref a25), .val (.int (if (strF ka) = (othF (strF ka) ka (modes &&& (3 : Int32)) x (strF kb)) then 1 else 0)), .unset] [(.int (if strF ka = othF (strF ka) ka (modes &&& (3 : Int32)) x (strF kb) then 1 else 0))]
  refine Go.if_eq (pc' := 260) W53 300 d_code_257 (by decide) rfl (fun (c54 : (if strF ka = othF (strF ka) ka (modes &&& (3 : Int32)) x (strF kb) then 1 else 0) = 0) => ?_) (fun (c54 : ¬ ((if strF ka = othF (strF ka) ka (modes &&& (3 : Int32)) x (strF kb) then 1 else 0) = 0)) => ?_)
  · refine Go.iconst (pc' := 301) W53 (0 : Int32) d_code_300 (by decide) rfl ?_
    refine Go.istore (pc' := 303) W53 #[.val (.int counts), .val (.int ka), .val (.int kb), .val (.int kc), .val (.int modes), .val (.int x), .val (.ref p0), .val (.ref p1), .val (.ref p2), .val (.int (1 : Int32)), .val (.int (1 : Int32)), .val (.ref a3), .val (.ref a25), .val (.int (if (strF ka) = (othF (strF ka) ka (modes &&& (3 : Int32)) x (strF kb)) then 1 else 0)), .val (.int (0 : Int32))] d_code_301 rfl rfl ?_
    refine Go.iload (pc' := 305) W53 d_code_303 rfl rfl ?_
    refine Go.iload (pc' := 307) W53 d_code_305 rfl rfl ?_
    refine Go.icmp_ne (pc' := 310) W53 314 d_code_307 (by decide) rfl (fun (c55 : ¬ ((if (strF ka) = (othF (strF ka) ka (modes &&& (3 : Int32)) x (strF kb)) then 1 else 0) = (0 : Int32))) => ?_) (fun (c55 : (if (strF ka) = (othF (strF ka) ka (modes &&& (3 : Int32)) x (strF kb)) then 1 else 0) = (0 : Int32)) => ?_)
    · refine Go.iconst (pc' := 315) W53 (0 : Int32) d_code_314 (by decide) rfl ?_
      refine Go.nret (z' := (0 : Int32)) W53 (by simp) (by decide) d_code_315 (by first | exact Nat.le_of_ble_eq_true rfl | (simp; done) | (simp; omega) | omega) (by first | exact Nat.le_of_ble_eq_true rfl | (simp; done) | (simp; omega) | omega) ?_
      exfalso
      simp only [ite10_z, ite10_o, Classical.not_not] at c54 c55
      first | exact c55 c54 | exact c54 c55
    · refine Go.iconst (pc' := 311) W53 (1 : Int32) d_code_310 (by decide) rfl ?_
      refine Go.goto W53 315 d_code_311 (by decide) ?_
      refine Go.nret (z' := (1 : Int32)) W53 (by simp) (by decide) d_code_315 (by first | exact Nat.le_of_ble_eq_true rfl | (simp; done) | (simp; omega) | omega) (by first | exact Nat.le_of_ble_eq_true rfl | (simp; done) | (simp; omega) | omega) ?_
      rfl
  · refine Go.iload (pc' := 262) W53 d_code_260 rfl rfl ?_
    refine Go.iconst (pc' := 263) W53 (2 : Int32) d_code_262 (by decide) rfl ?_
    refine Go.icmp_lt (pc' := 266) W53 278 d_code_263 (by decide) rfl (fun _ => ?_) (fun q => absurd (by decide) q)
    refine Go.iload (pc' := 280) W53 d_code_278 rfl rfl ?_
    refine Go.iconst (pc' := 281) W53 (3 : Int32) d_code_280 (by decide) rfl ?_
    refine Go.icmp_lt (pc' := 284) W53 296 d_code_281 (by decide) rfl (fun _ => ?_) (fun q => absurd (by decide) q)
    refine Go.iconst (pc' := 297) W53 (1 : Int32) d_code_296 (by decide) rfl ?_
    refine Go.goto W53 301 d_code_297 (by decide) ?_
    refine Go.istore (pc' := 303) W53 #[.val (.int counts), .val (.int ka), .val (.int kb), .val (.int kc), .val (.int modes), .val (.int x), .val (.ref p0), .val (.ref p1), .val (.ref p2), .val (.int (1 : Int32)), .val (.int (1 : Int32)), .val (.ref a3), .val (.ref a25), .val (.int (if (strF ka) = (othF (strF ka) ka (modes &&& (3 : Int32)) x (strF kb)) then 1 else 0)), .val (.int (1 : Int32))] d_code_301 rfl rfl ?_
    refine Go.iload (pc' := 305) W53 d_code_303 rfl rfl ?_
    refine Go.iload (pc' := 307) W53 d_code_305 rfl rfl ?_
    refine Go.icmp_ne (pc' := 310) W53 314 d_code_307 (by decide) rfl (fun (c56 : ¬ ((if (strF ka) = (othF (strF ka) ka (modes &&& (3 : Int32)) x (strF kb)) then 1 else 0) = (1 : Int32))) => ?_) (fun (c56 : (if (strF ka) = (othF (strF ka) ka (modes &&& (3 : Int32)) x (strF kb)) then 1 else 0) = (1 : Int32)) => ?_)
    · refine Go.iconst (pc' := 315) W53 (0 : Int32) d_code_314 (by decide) rfl ?_
      refine Go.nret (z' := (0 : Int32)) W53 (by simp) (by decide) d_code_315 (by first | exact Nat.le_of_ble_eq_true rfl | (simp; done) | (simp; omega) | omega) (by first | exact Nat.le_of_ble_eq_true rfl | (simp; done) | (simp; omega) | omega) ?_
      exfalso
      simp only [ite10_z, ite10_o, Classical.not_not] at c54 c56
      first | exact c56 c54 | exact c54 c56
    · refine Go.iconst (pc' := 311) W53 (1 : Int32) d_code_310 (by decide) rfl ?_
      refine Go.goto W53 315 d_code_311 (by decide) ?_
      refine Go.nret (z' := (1 : Int32)) W53 (by simp) (by decide) d_code_315 (by first | exact Nat.le_of_ble_eq_true rfl | (simp; done) | (simp; omega) | omega) (by first | exact Nat.le_of_ble_eq_true rfl | (simp; done) | (simp; omega) | omega) ?_
      rfl
set_option maxRecDepth 65536 in
set_option maxHeartbeats 40000000 in
theorem rm_t12 {l : Launch} {Z : State} {a0 : Array Value} (G : Cl Z a0) (counts ka kb kc modes x : Int32) (nv : Value) (hnv : nv.isRef = true) (Sn : Sta Z Z.heap "com/example/maswali/maswali/BindValues" "NONE" "[Ljava/lang/Object;" nv) (da : Addr) (Sd : Sta Z Z.heap "com/example/maswali/maswali/Dialect" "POSTGRES" "Lcom/example/maswali/maswali/Dialect;" (.ref da)) (p0 b0 p1 b1 p2 b2 : Addr) (d0 e0 d1 e1 d2 e2 : Cell) (S0 : StrL Z d0 b0 e0 (strF ka)) (S1 : StrL Z d1 b1 e1 (strF kb)) (S2 : StrL Z d2 b2 e2 (strF kc)) {X : Ctx} {T0 : State} (W0 : Wk l Z EL1 ({ frames := 9, cells := 56, slots := 1344, locals := 208 } : Room) "com/example/maswali/maswali/RendererWrittenInPinLaw" code 15 (some .boolean) "law" X [] [(p0, d0), (b0, e0), (p1, d1), (b1, e1), (p2, d2), (b2, e2)] T0 18 (36)) :
    Go Z EL1 56 1344 (fun v _ _ => v = some (.int 1)) X T0 43 #[.val (.int counts), .val (.int ka), .val (.int kb), .val (.int kc), .val (.int modes), .val (.int x), .val (.ref p0), .val (.ref p1), .val (.ref p2), .val (.int (1 : Int32)), .val (.int (2 : Int32)), .unset, .unset, .unset, .unset] [] := by
  refine Go.iload (pc' := 45) W0 d_code_43 rfl rfl ?_
  refine Go.anewarr (pc' := 48) W0 2 (w_4 G) (w_34 G) d_code_45 rfl (by decide) (by decide) (by decide) (by first | exact Nat.le_of_ble_eq_true rfl | (simp; done) | (simp; omega) | omega) (by first | exact Nat.le_of_ble_eq_true rfl | (simp; done) | (simp; omega) | omega) (fun T1 a3 c4 W2 A5 O6 => ?_)
  replace W2 : Wk l Z EL1 ({ frames := 9, cells := 56, slots := 1344, locals := 208 } : Room) "com/example/maswali/maswali/RendererWrittenInPinLaw" code 15 (some .boolean) "law" X [(a3, c4)] [(p0, d0), (b0, e0), (p1, d1), (b1, e1), (p2, d2), (b2, e2)] T1 19 (38) := W2
  refine Go.astore (pc' := 50) W2 #[.val (.int counts), .val (.int ka), .val (.int kb), .val (.int kc), .val (.int modes), .val (.int x), .val (.ref p0), .val (.ref p1), .val (.ref p2), .val (.int (1 : Int32)), .val (.int (2 : Int32)), .val (.ref a3), .unset, .unset, .unset] d_code_48 rfl rfl rfl ?_
  refine Go.iload (pc' := 52) W2 d_code_50 rfl rfl ?_
  refine Go.if_le (pc' := 55) W2 86 d_code_52 (by decide) rfl (fun q => absurd (by decide) q) (fun _ => ?_)
  refine Go.aload (pc' := 57) W2 d_code_55 rfl rfl rfl ?_
  refine Go.iconst (pc' := 58) W2 (0 : Int32) d_code_57 (by decide) rfl ?_
  refine Go.iload (pc' := 60) W2 d_code_58 rfl rfl ?_
  refine Go.if_le (pc' := 63) W2 80 d_code_60 (by decide) rfl (fun q => absurd (by decide) q) (fun _ => ?_)
  refine Go.aload (pc' := 65) W2 d_code_63 rfl rfl rfl ?_
  refine Go.iloadN (pc' := 66) W2 d_code_65 rfl rfl ?_
  refine Go.iload (pc' := 68) W2 d_code_66 rfl rfl ?_
  refine Go.iconst (pc' := 69) W2 (3 : Int32) d_code_68 (by decide) rfl ?_
  refine Go.iand (pc' := 70) W2 d_code_69 rfl ?_
  refine Go.iload (pc' := 72) W2 d_code_70 rfl rfl ?_
  refine Go.aload (pc' := 74) W2 d_code_72 rfl rfl rfl ?_
  refine Go.static (pc' := 77) W2 (rm_oth G p0 b0 p1 b1 d0 e0 d1 e1 _ _ ka (modes &&& (3 : Int32)) x S0 S1) (w_70 G) (w_71 G) (w_2 G) (w_72 G) (by decide) [] [0, 1, 2, 3] (σf := [(a3, c4)]) rfl rfl [(.ref p0), (.int ka), (.int (modes &&& (3 : Int32))), (.int x), (.ref p1)] [(.int (0 : Int32)), (.ref a3)] rfl (lenOf pd_18 rfl) rfl rfl d_code_74 rfl (by first | exact Nat.le_of_ble_eq_true rfl | (simp; done) | (simp; omega) | omega) (by first | exact Nat.le_of_ble_eq_true rfl | (simp; done) | (simp; omega) | omega) (by first | exact Nat.le_of_ble_eq_true rfl | (simp; done) | (simp; omega) | omega) (by first | exact Nat.le_of_ble_eq_true rfl | (simp; done) | (simp; omega) | omega) ?_
  rintro _ _ _ T12 ⟨a7, c8, b9, c10, rfl, rfl, rfl, S11⟩ W13
  replace W13 : Wk l Z EL1 ({ frames := 9, cells := 56, slots := 1344, locals := 208 } : Room) "com/example/maswali/maswali/RendererWrittenInPinLaw" code 15 (some .boolean) "law" X [(a3, c4)] [(a7, c8), (b9, c10), (p0, d0), (b0, e0), (p1, d1), (b1, e1), (p2, d2), (b2, e2)] T12 25 (50) := W13
  show Go Z EL1 _ _ _ X T12 77 #[.val (.int counts), .val (.int ka), .val (.int kb), .val (.int kc), .val (.int modes), .val (.int x), .val (.ref p0), .val (.ref p1), .val (.ref p2), .val (.int (1 : Int32)), .val (.int (2 : Int32)), .val (.ref a3), .unset, .unset, .unset] [(.ref a7), (.int (0 : Int32)), (.ref a3)]
  refine Go.goto W13 85 d_code_77 (by decide) ?_
  refine Go.aastoreObj (pc' := 86) W13 0 rfl A5 O6 (Or.inr (Or.inl (List.mem_of_getElem? (i := 0) rfl))) S11.1 0 (by decide) (by decide) (by simp) d_code_85 rfl (fun T18 c20 W19 A21 O22 => ?_)
  replace W19 : Wk l Z EL1 ({ frames := 9, cells := 56, slots := 1344, locals := 208 } : Room) "com/example/maswali/maswali/RendererWrittenInPinLaw" code 15 (some .boolean) "law" X [(a3, c20)] [(a7, c8), (b9, c10), (p0, d0), (b0, e0), (p1, d1), (b1, e1), (p2, d2), (b2, e2)] T18 25 (50) := W19
  replace A21 : ArrC Z c20 (.object "java/lang/String") [(.ref a7), (.null)] := A21
  refine Go.iload (pc' := 88) W19 d_code_86 rfl rfl ?_
  refine Go.iconst (pc' := 89) W19 (1 : Int32) d_code_88 (by decide) rfl ?_
  refine Go.icmp_le (pc' := 92) W19 130 d_code_89 (by decide) rfl (fun q => absurd (by decide) q) (fun _ => ?_)
  refine Go.aload (pc' := 94) W19 d_code_92 rfl rfl rfl ?_
  refine Go.iconst (pc' := 95) W19 (1 : Int32) d_code_94 (by decide) rfl ?_
  refine Go.iload (pc' := 97) W19 d_code_95 rfl rfl ?_
  refine Go.iconst (pc' := 98) W19 (1 : Int32) d_code_97 (by decide) rfl ?_
  refine Go.icmp_le (pc' := 101) W19 122 d_code_98 (by decide) rfl (fun _ => ?_) (fun q => absurd q (by decide))
  refine Go.iload (pc' := 124) W19 d_code_122 rfl rfl ?_
  refine Go.iconst (pc' := 125) W19 (3 : Int32) d_code_124 (by decide) rfl ?_
  refine Go.iushr (pc' := 126) W19 d_code_125 rfl ?_
  refine Go.static (pc' := 129) W19 (rm_str G ((x.toUInt32 >>> ((3 : Int32) &&& 31).toUInt32).toInt32)) (w_0 G) (w_1 G) (w_2 G) (w_3 G) (by decide) [] [] (σf := [(a3, c20)]) rfl rfl [(.int ((x.toUInt32 >>> ((3 : Int32) &&& 31).toUInt32).toInt32))] [(.int (1 : Int32)), (.ref a3)] rfl (lenOf pd_10 rfl) rfl rfl d_code_126 rfl (by first | exact Nat.le_of_ble_eq_true rfl | (simp; done) | (simp; omega) | omega) (by first | exact Nat.le_of_ble_eq_true rfl | (simp; done) | (simp; omega) | omega) (by first | exact Nat.le_of_ble_eq_true rfl | (simp; done) | (simp; omega) | omega) (by first | exact Nat.le_of_ble_eq_true rfl | (simp; done) | (simp; omega) | omega) ?_
  rintro _ _ _ T28 ⟨a23, c24, b25, c26, rfl, rfl, rfl, S27⟩ W29
  replace W29 : Wk l Z EL1 ({ frames := 9, cells := 56, slots := 1344, locals := 208 } : Room) "com/example/maswali/maswali/RendererWrittenInPinLaw" code 15 (some .boolean) "law" X [(a3, c20)] [(a23, c24), (b25, c26), (a7, c8), (b9, c10), (p0, d0), (b0, e0), (p1, d1), (b1, e1), (p2, d2), (b2, e2)] T28 31 (62) := W29
  show Go Z EL1 _ _ _ X T28 129 #[.val (.int counts), .val (.int ka), .val (.int kb), .val (.int kc), .val (.int modes), .val (.int x), .val (.ref p0), .val (.ref p1), .val (.ref p2), .val (.int (1 : Int32)), .val (.int (2 : Int32)), .val (.ref a3), .unset, .unset, .unset] [(.ref a23), (.int (1 : Int32)), (.ref a3)]
  refine Go.aastoreObj (pc' := 130) W29 0 rfl A21 O22 (Or.inr (Or.inl (List.mem_of_getElem? (i := 0) rfl))) S27.1 1 (by decide) (by decide) (by simp) d_code_129 rfl (fun T34 c36 W35 A37 O38 => ?_)
  replace W35 : Wk l Z EL1 ({ frames := 9, cells := 56, slots := 1344, locals := 208 } : Room) "com/example/maswali/maswali/RendererWrittenInPinLaw" code 15 (some .boolean) "law" X [(a3, c36)] [(a23, c24), (b25, c26), (a7, c8), (b9, c10), (p0, d0), (b0, e0), (p1, d1), (b1, e1), (p2, d2), (b2, e2)] T34 31 (62) := W35
  replace A37 : ArrC Z c36 (.object "java/lang/String") [(.ref a7), (.ref a23)] := A37
  refine Go.iload (pc' := 132) W35 d_code_130 rfl rfl ?_
  refine Go.iconst (pc' := 133) W35 (2 : Int32) d_code_132 (by decide) rfl ?_
  refine Go.icmp_le (pc' := 136) W35 176 d_code_133 (by decide) rfl (fun _ => ?_) (fun q => absurd q (by decide))
  refine Go.new (pc' := 179) W35 (w_35 G) (w_36 G) (w_37 G) d_code_176 rfl (by first | exact Nat.le_of_ble_eq_true rfl | (simp; done) | (simp; omega) | omega) (by first | exact Nat.le_of_ble_eq_true rfl | (simp; done) | (simp; omega) | omega) (fun T39 a41 c42 W40 O43 D44 => ?_)
  replace W40 : Wk l Z EL1 ({ frames := 9, cells := 56, slots := 1344, locals := 208 } : Room) "com/example/maswali/maswali/RendererWrittenInPinLaw" code 15 (some .boolean) "law" X [(a41, c42), (a3, c36)] [(a23, c24), (b25, c26), (a7, c8), (b9, c10), (p0, d0), (b0, e0), (p1, d1), (b1, e1), (p2, d2), (b2, e2)] T39 32 (66) := W40
  have F45 : FldC Z c42 "com/example/maswali/maswali/Renderer" "pieces" "[Ljava/lang/String;" (.null) := D44 (Or.inl (w_47 G)) (ty := (.array (.object "java/lang/String"))) (by decide)
  have F46 : FldC Z c42 "com/example/maswali/maswali/Renderer" "bindValues" "Lcom/example/maswali/maswali/BindValues;" (.null) := D44 (Or.inr (w_60 G)) (ty := (.object "com/example/maswali/maswali/BindValues")) (by decide)
  have F47 : FldC Z c42 "com/example/maswali/maswali/Renderer" "dialect" "Lcom/example/maswali/maswali/Dialect;" (.null) := D44 (Or.inr (w_62 G)) (ty := (.object "com/example/maswali/maswali/Dialect")) (by decide)
  have F48 : FldC Z c42 "com/example/maswali/maswali/Renderer" "pieceCount" "I" (.int (0 : Int32)) := D44 (Or.inl (w_69 G)) (ty := .int) (by decide)
  refine Go.dup (pc' := 180) W40 d_code_179 rfl rfl ?_
  refine Go.getstatic (pc' := 183) W40 (w_38 G) Via.refl Sd d_code_180 rfl (fun T49 W50 => ?_)
  refine Go.special (pc' := 186) W50 (a := a41) (rm_ren G a41 c42 nv (.ref da) hnv Sn rfl O43 F45 F48 F47 F46) rfl (w_41 G) (w_42 G) (w_37 G) (w_43 G) (by decide) [0] [] (σf := [(a3, c36)]) rfl rfl [(.ref da)] [(.ref a41)] rfl (lenOf pd_15 rfl) rfl rfl d_code_183 rfl (by first | exact Nat.le_of_ble_eq_true rfl | (simp; done) | (simp; omega) | omega) (by first | exact Nat.le_of_ble_eq_true rfl | (simp; done) | (simp; omega) | omega) (by first | exact Nat.le_of_ble_eq_true rfl | (simp; done) | (simp; omega) | omega) (by first | exact Nat.le_of_ble_eq_true rfl | (simp; done) | (simp; omega) | omega) ?_
  rintro _ _ _ T57 ⟨c51, p52, c53, rfl, rfl, rfl, M54, A55, O56⟩ W58
  replace W58 : Wk l Z EL1 ({ frames := 9, cells := 56, slots := 1344, locals := 208 } : Room) "com/example/maswali/maswali/RendererWrittenInPinLaw" code 15 (some .boolean) "law" X [(a41, c51), (p52, c53), (a3, c36)] [(a23, c24), (b25, c26), (a7, c8), (b9, c10), (p0, d0), (b0, e0), (p1, d1), (b1, e1), (p2, d2), (b2, e2)] T57 34 (132) := W58
  show Go Z EL1 _ _ _ X T57 186 #[.val (.int counts), .val (.int ka), .val (.int kb), .val (.int kc), .val (.int modes), .val (.int x), .val (.ref p0), .val (.ref p1), .val (.ref p2), .val (.int (1 : Int32)), .val (.int (2 : Int32)), .val (.ref a3), .unset, .unset, .unset] [(.ref a41)]
  refine Go.astore (pc' := 188) W58 #[.val (.int counts), .val (.int ka), .val (.int kb), .val (.int kc), .val (.int modes), .val (.int x), .val (.ref p0), .val (.ref p1), .val (.ref p2), .val (.int (1 : Int32)), .val (.int (2 : Int32)), .val (.ref a3), .val (.ref a41), .unset, .unset] d_code_186 rfl rfl rfl ?_
  refine Go.iload (pc' := 190) W58 d_code_188 rfl rfl ?_
  refine Go.if_le (pc' := 193) W58 200 d_code_190 (by decide) rfl (fun q => absurd (by decide) q) (fun _ => ?_)
  refine Go.aload (pc' := 195) W58 d_code_193 rfl rfl rfl ?_
  refine Go.aload (pc' := 197) W58 d_code_195 rfl rfl rfl ?_
  refine Go.virtual (pc' := 200) W58 (rm_app G a41 p52 p0 b0 c51 c53 d0 e0 0 _ _ (by decide) (by simp) S0 M54 A55 O56) (Or.inl (List.mem_of_getElem? (i := 0) rfl)) M54.1 (w_73 G) (w_74 G) (w_76 G) (w_75 G) (w_37 G) (w_77 G) (by decide) [0, 0] [4] (σf := [(a3, c36)]) rfl rfl [(.ref p0)] [] rfl (lenOf pd_17 rfl) rfl rfl d_code_197 rfl (by first | exact Nat.le_of_ble_eq_true rfl | (simp; done) | (simp; omega) | omega) (by first | exact Nat.le_of_ble_eq_true rfl | (simp; done) | (simp; omega) | omega) (by first | exact Nat.le_of_ble_eq_true rfl | (simp; done) | (simp; omega) | omega) (by first | exact Nat.le_of_ble_eq_true rfl | (simp; done) | (simp; omega) | omega) ?_
  rintro _ _ _ T64 ⟨c59, c60, rfl, rfl, rfl, M61, A62, O63⟩ W65
  replace W65 : Wk l Z EL1 ({ frames := 9, cells := 56, slots := 1344, locals := 208 } : Room) "com/example/maswali/maswali/RendererWrittenInPinLaw" code 15 (some .boolean) "law" X [(a41, c59), (p52, c60), (a3, c36)] [(a23, c24), (b25, c26), (a7, c8), (b9, c10), (p0, d0), (b0, e0), (p1, d1), (b1, e1), (p2, d2), (b2, e2)] T64 34 (132) := W65
  show Go Z EL1 _ _ _ X T64 200 #[.val (.int counts), .val (.int ka), .val (.int kb), .val (.int kc), .val (.int modes), .val (.int x), .val (.ref p0), .val (.ref p1), .val (.ref p2), .val (.int (1 : Int32)), .val (.int (2 : Int32)), .val (.ref a3), .val (.ref a41), .unset, .unset] []
  refine Go.iload (pc' := 202) W65 d_code_200 rfl rfl ?_
  refine Go.iconst (pc' := 203) W65 (1 : Int32) d_code_202 (by decide) rfl ?_
  refine Go.icmp_le (pc' := 206) W65 213 d_code_203 (by decide) rfl (fun _ => ?_) (fun q => absurd q (by decide))
  refine Go.iload (pc' := 215) W65 d_code_213 rfl rfl ?_
  refine Go.iconst (pc' := 216) W65 (2 : Int32) d_code_215 (by decide) rfl ?_
  refine Go.icmp_le (pc' := 219) W65 226 d_code_216 (by decide) rfl (fun _ => ?_) (fun q => absurd q (by decide))
  refine Go.aload (pc' := 228) W65 d_code_226 rfl rfl rfl ?_
  refine Go.aload (pc' := 230) W65 d_code_228 rfl rfl rfl ?_
  refine Go.virtual (pc' := 233) W65 (rm_winN G a41 a3 c59 c36 1 2 _ _ rfl (by decide) M61 A37) (Or.inl (List.mem_of_getElem? (i := 0) rfl)) M61.1 (w_63 G) (w_64 G) (w_66 G) (w_65 G) (w_37 G) (w_67 G) (by decide) [0, 1] [] (σf := [(p52, c60)]) rfl rfl [(.ref a3)] [] rfl (lenOf pd_16 rfl) rfl rfl d_code_230 rfl (by first | exact Nat.le_of_ble_eq_true rfl | (simp; done) | (simp; omega) | omega) (by first | exact Nat.le_of_ble_eq_true rfl | (simp; done) | (simp; omega) | omega) (by first | exact Nat.le_of_ble_eq_true rfl | (simp; done) | (simp; omega) | omega) (by first | exact Nat.le_of_ble_eq_true rfl | (simp; done) | (simp; omega) | omega) ?_
  rintro _ _ _ T66 ⟨rfl, rfl, rfl⟩ W67
  replace W67 : Wk l Z EL1 ({ frames := 9, cells := 56, slots := 1344, locals := 208 } : Room) "com/example/maswali/maswali/RendererWrittenInPinLaw" code 15 (some .boolean) "law" X [(a41, c59), (a3, c36), (p52, c60)] [(a23, c24), (b25, c26), (a7, c8), (b9, c10), (p0, d0), (b0, e0), (p1, d1), (b1, e1), (p2, d2), (b2, e2)] T66 34 (132) := W67
  show Go Z EL1 _ _ _ X T66 233 #[.val (.int counts), .val (.int ka), .val (.int kb), .val (.int kc), .val (.int modes), .val (.int x), .val (.ref p0), .val (.ref p1), .val (.ref p2), .val (.int (1 : Int32)), .val (.int (2 : Int32)), .val (.ref a3), .val (.ref a41), .unset, .unset] [(.int (0 : Int32))]
  refine Go.istore (pc' := 235) W67 #[.val (.int counts), .val (.int ka), .val (.int kb), .val (.int kc), .val (.int modes), .val (.int x), .val (.ref p0), .val (.ref p1), .val (.ref p2), .val (.int (1 : Int32)), .val (.int (2 : Int32)), .val (.ref a3), .val (.ref a41), .val (.int (0 : Int32)), .unset] d_code_233 rfl rfl ?_
  refine Go.iload (pc' := 237) W67 d_code_235 rfl rfl ?_
  refine Go.iload (pc' := 239) W67 d_code_237 rfl rfl ?_
  refine Go.icmp_ne (pc' := 242) W67 300 d_code_239 (by decide) rfl (fun _ => ?_) (fun q => absurd q (by decide))
  refine Go.iconst (pc' := 301) W67 (0 : Int32) d_code_300 (by decide) rfl ?_
  refine Go.istore (pc' := 303) W67 #[.val (.int counts), .val (.int ka), .val (.int kb), .val (.int kc), .val (.int modes), .val (.int x), .val (.ref p0), .val (.ref p1), .val (.ref p2), .val (.int (1 : Int32)), .val (.int (2 : Int32)), .val (.ref a3), .val (.ref a41), .val (.int (0 : Int32)), .val (.int (0 : Int32))] d_code_301 rfl rfl ?_
  refine Go.iload (pc' := 305) W67 d_code_303 rfl rfl ?_
  refine Go.iload (pc' := 307) W67 d_code_305 rfl rfl ?_
  refine Go.icmp_ne (pc' := 310) W67 314 d_code_307 (by decide) rfl (fun q => absurd (by decide) q) (fun _ => ?_)
  refine Go.iconst (pc' := 311) W67 (1 : Int32) d_code_310 (by decide) rfl ?_
  refine Go.goto W67 315 d_code_311 (by decide) ?_
  refine Go.nret (z' := (1 : Int32)) W67 (by simp) (by decide) d_code_315 (by first | exact Nat.le_of_ble_eq_true rfl | (simp; done) | (simp; omega) | omega) (by first | exact Nat.le_of_ble_eq_true rfl | (simp; done) | (simp; omega) | omega) ?_
  rfl
set_option maxRecDepth 65536 in
set_option maxHeartbeats 40000000 in
theorem rm_t13 {l : Launch} {Z : State} {a0 : Array Value} (G : Cl Z a0) (counts ka kb kc modes x : Int32) (nv : Value) (hnv : nv.isRef = true) (Sn : Sta Z Z.heap "com/example/maswali/maswali/BindValues" "NONE" "[Ljava/lang/Object;" nv) (da : Addr) (Sd : Sta Z Z.heap "com/example/maswali/maswali/Dialect" "POSTGRES" "Lcom/example/maswali/maswali/Dialect;" (.ref da)) (p0 b0 p1 b1 p2 b2 : Addr) (d0 e0 d1 e1 d2 e2 : Cell) (S0 : StrL Z d0 b0 e0 (strF ka)) (S1 : StrL Z d1 b1 e1 (strF kb)) (S2 : StrL Z d2 b2 e2 (strF kc)) {X : Ctx} {T0 : State} (W0 : Wk l Z EL1 ({ frames := 9, cells := 56, slots := 1344, locals := 208 } : Room) "com/example/maswali/maswali/RendererWrittenInPinLaw" code 15 (some .boolean) "law" X [] [(p0, d0), (b0, e0), (p1, d1), (b1, e1), (p2, d2), (b2, e2)] T0 18 (36)) :
    Go Z EL1 56 1344 (fun v _ _ => v = some (.int 1)) X T0 43 #[.val (.int counts), .val (.int ka), .val (.int kb), .val (.int kc), .val (.int modes), .val (.int x), .val (.ref p0), .val (.ref p1), .val (.ref p2), .val (.int (1 : Int32)), .val (.int (3 : Int32)), .unset, .unset, .unset, .unset] [] := by
  refine Go.iload (pc' := 45) W0 d_code_43 rfl rfl ?_
  refine Go.anewarr (pc' := 48) W0 3 (w_4 G) (w_34 G) d_code_45 rfl (by decide) (by decide) (by decide) (by first | exact Nat.le_of_ble_eq_true rfl | (simp; done) | (simp; omega) | omega) (by first | exact Nat.le_of_ble_eq_true rfl | (simp; done) | (simp; omega) | omega) (fun T1 a3 c4 W2 A5 O6 => ?_)
  replace W2 : Wk l Z EL1 ({ frames := 9, cells := 56, slots := 1344, locals := 208 } : Room) "com/example/maswali/maswali/RendererWrittenInPinLaw" code 15 (some .boolean) "law" X [(a3, c4)] [(p0, d0), (b0, e0), (p1, d1), (b1, e1), (p2, d2), (b2, e2)] T1 19 (39) := W2
  refine Go.astore (pc' := 50) W2 #[.val (.int counts), .val (.int ka), .val (.int kb), .val (.int kc), .val (.int modes), .val (.int x), .val (.ref p0), .val (.ref p1), .val (.ref p2), .val (.int (1 : Int32)), .val (.int (3 : Int32)), .val (.ref a3), .unset, .unset, .unset] d_code_48 rfl rfl rfl ?_
  refine Go.iload (pc' := 52) W2 d_code_50 rfl rfl ?_
  refine Go.if_le (pc' := 55) W2 86 d_code_52 (by decide) rfl (fun q => absurd (by decide) q) (fun _ => ?_)
  refine Go.aload (pc' := 57) W2 d_code_55 rfl rfl rfl ?_
  refine Go.iconst (pc' := 58) W2 (0 : Int32) d_code_57 (by decide) rfl ?_
  refine Go.iload (pc' := 60) W2 d_code_58 rfl rfl ?_
  refine Go.if_le (pc' := 63) W2 80 d_code_60 (by decide) rfl (fun q => absurd (by decide) q) (fun _ => ?_)
  refine Go.aload (pc' := 65) W2 d_code_63 rfl rfl rfl ?_
  refine Go.iloadN (pc' := 66) W2 d_code_65 rfl rfl ?_
  refine Go.iload (pc' := 68) W2 d_code_66 rfl rfl ?_
  refine Go.iconst (pc' := 69) W2 (3 : Int32) d_code_68 (by decide) rfl ?_
  refine Go.iand (pc' := 70) W2 d_code_69 rfl ?_
  refine Go.iload (pc' := 72) W2 d_code_70 rfl rfl ?_
  refine Go.aload (pc' := 74) W2 d_code_72 rfl rfl rfl ?_
  refine Go.static (pc' := 77) W2 (rm_oth G p0 b0 p1 b1 d0 e0 d1 e1 _ _ ka (modes &&& (3 : Int32)) x S0 S1) (w_70 G) (w_71 G) (w_2 G) (w_72 G) (by decide) [] [0, 1, 2, 3] (σf := [(a3, c4)]) rfl rfl [(.ref p0), (.int ka), (.int (modes &&& (3 : Int32))), (.int x), (.ref p1)] [(.int (0 : Int32)), (.ref a3)] rfl (lenOf pd_18 rfl) rfl rfl d_code_74 rfl (by first | exact Nat.le_of_ble_eq_true rfl | (simp; done) | (simp; omega) | omega) (by first | exact Nat.le_of_ble_eq_true rfl | (simp; done) | (simp; omega) | omega) (by first | exact Nat.le_of_ble_eq_true rfl | (simp; done) | (simp; omega) | omega) (by first | exact Nat.le_of_ble_eq_true rfl | (simp; done) | (simp; omega) | omega) ?_
  rintro _ _ _ T12 ⟨a7, c8, b9, c10, rfl, rfl, rfl, S11⟩ W13
  replace W13 : Wk l Z EL1 ({ frames := 9, cells := 56, slots := 1344, locals := 208 } : Room) "com/example/maswali/maswali/RendererWrittenInPinLaw" code 15 (some .boolean) "law" X [(a3, c4)] [(a7, c8), (b9, c10), (p0, d0), (b0, e0), (p1, d1), (b1, e1), (p2, d2), (b2, e2)] T12 25 (51) := W13
  show Go Z EL1 _ _ _ X T12 77 #[.val (.int counts), .val (.int ka), .val (.int kb), .val (.int kc), .val (.int modes), .val (.int x), .val (.ref p0), .val (.ref p1), .val (.ref p2), .val (.int (1 : Int32)), .val (.int (3 : Int32)), .val (.ref a3), .unset, .unset, .unset] [(.ref a7), (.int (0 : Int32)), (.ref a3)]
  refine Go.goto W13 85 d_code_77 (by decide) ?_
  refine Go.aastoreObj (pc' := 86) W13 0 rfl A5 O6 (Or.inr (Or.inl (List.mem_of_getElem? (i := 0) rfl))) S11.1 0 (by decide) (by decide) (by simp) d_code_85 rfl (fun T18 c20 W19 A21 O22 => ?_)
  replace W19 : Wk l Z EL1 ({ frames := 9, cells := 56, slots := 1344, locals := 208 } : Room) "com/example/maswali/maswali/RendererWrittenInPinLaw" code 15 (some .boolean) "law" X [(a3, c20)] [(a7, c8), (b9, c10), (p0, d0), (b0, e0), (p1, d1), (b1, e1), (p2, d2), (b2, e2)] T18 25 (51) := W19
  replace A21 : ArrC Z c20 (.object "java/lang/String") [(.ref a7), (.null), (.null)] := A21
  refine Go.iload (pc' := 88) W19 d_code_86 rfl rfl ?_
  refine Go.iconst (pc' := 89) W19 (1 : Int32) d_code_88 (by decide) rfl ?_
  refine Go.icmp_le (pc' := 92) W19 130 d_code_89 (by decide) rfl (fun q => absurd (by decide) q) (fun _ => ?_)
  refine Go.aload (pc' := 94) W19 d_code_92 rfl rfl rfl ?_
  refine Go.iconst (pc' := 95) W19 (1 : Int32) d_code_94 (by decide) rfl ?_
  refine Go.iload (pc' := 97) W19 d_code_95 rfl rfl ?_
  refine Go.iconst (pc' := 98) W19 (1 : Int32) d_code_97 (by decide) rfl ?_
  refine Go.icmp_le (pc' := 101) W19 122 d_code_98 (by decide) rfl (fun _ => ?_) (fun q => absurd q (by decide))
  refine Go.iload (pc' := 124) W19 d_code_122 rfl rfl ?_
  refine Go.iconst (pc' := 125) W19 (3 : Int32) d_code_124 (by decide) rfl ?_
  refine Go.iushr (pc' := 126) W19 d_code_125 rfl ?_
  refine Go.static (pc' := 129) W19 (rm_str G ((x.toUInt32 >>> ((3 : Int32) &&& 31).toUInt32).toInt32)) (w_0 G) (w_1 G) (w_2 G) (w_3 G) (by decide) [] [] (σf := [(a3, c20)]) rfl rfl [(.int ((x.toUInt32 >>> ((3 : Int32) &&& 31).toUInt32).toInt32))] [(.int (1 : Int32)), (.ref a3)] rfl (lenOf pd_10 rfl) rfl rfl d_code_126 rfl (by first | exact Nat.le_of_ble_eq_true rfl | (simp; done) | (simp; omega) | omega) (by first | exact Nat.le_of_ble_eq_true rfl | (simp; done) | (simp; omega) | omega) (by first | exact Nat.le_of_ble_eq_true rfl | (simp; done) | (simp; omega) | omega) (by first | exact Nat.le_of_ble_eq_true rfl | (simp; done) | (simp; omega) | omega) ?_
  rintro _ _ _ T28 ⟨a23, c24, b25, c26, rfl, rfl, rfl, S27⟩ W29
  replace W29 : Wk l Z EL1 ({ frames := 9, cells := 56, slots := 1344, locals := 208 } : Room) "com/example/maswali/maswali/RendererWrittenInPinLaw" code 15 (some .boolean) "law" X [(a3, c20)] [(a23, c24), (b25, c26), (a7, c8), (b9, c10), (p0, d0), (b0, e0), (p1, d1), (b1, e1), (p2, d2), (b2, e2)] T28 31 (63) := W29
  show Go Z EL1 _ _ _ X T28 129 #[.val (.int counts), .val (.int ka), .val (.int kb), .val (.int kc), .val (.int modes), .val (.int x), .val (.ref p0), .val (.ref p1), .val (.ref p2), .val (.int (1 : Int32)), .val (.int (3 : Int32)), .val (.ref a3), .unset, .unset, .unset] [(.ref a23), (.int (1 : Int32)), (.ref a3)]
  refine Go.aastoreObj (pc' := 130) W29 0 rfl A21 O22 (Or.inr (Or.inl (List.mem_of_getElem? (i := 0) rfl))) S27.1 1 (by decide) (by decide) (by simp) d_code_129 rfl (fun T34 c36 W35 A37 O38 => ?_)
  replace W35 : Wk l Z EL1 ({ frames := 9, cells := 56, slots := 1344, locals := 208 } : Room) "com/example/maswali/maswali/RendererWrittenInPinLaw" code 15 (some .boolean) "law" X [(a3, c36)] [(a23, c24), (b25, c26), (a7, c8), (b9, c10), (p0, d0), (b0, e0), (p1, d1), (b1, e1), (p2, d2), (b2, e2)] T34 31 (63) := W35
  replace A37 : ArrC Z c36 (.object "java/lang/String") [(.ref a7), (.ref a23), (.null)] := A37
  refine Go.iload (pc' := 132) W35 d_code_130 rfl rfl ?_
  refine Go.iconst (pc' := 133) W35 (2 : Int32) d_code_132 (by decide) rfl ?_
  refine Go.icmp_le (pc' := 136) W35 176 d_code_133 (by decide) rfl (fun q => absurd (by decide) q) (fun _ => ?_)
  refine Go.aload (pc' := 138) W35 d_code_136 rfl rfl rfl ?_
  refine Go.iconst (pc' := 139) W35 (2 : Int32) d_code_138 (by decide) rfl ?_
  refine Go.iload (pc' := 141) W35 d_code_139 rfl rfl ?_
  refine Go.iconst (pc' := 142) W35 (2 : Int32) d_code_141 (by decide) rfl ?_
  refine Go.icmp_le (pc' := 145) W35 167 d_code_142 (by decide) rfl (fun _ => ?_) (fun q => absurd q (by decide))
  refine Go.iload (pc' := 169) W35 d_code_167 rfl rfl ?_
  refine Go.bipush (pc' := 171) W35 (6 : Int32) d_code_169 (by decide) rfl ?_
  refine Go.iushr (pc' := 172) W35 d_code_171 rfl ?_
  refine Go.static (pc' := 175) W35 (rm_str G ((x.toUInt32 >>> ((6 : Int32) &&& 31).toUInt32).toInt32)) (w_0 G) (w_1 G) (w_2 G) (w_3 G) (by decide) [] [] (σf := [(a3, c36)]) rfl rfl [(.int ((x.toUInt32 >>> ((6 : Int32) &&& 31).toUInt32).toInt32))] [(.int (2 : Int32)), (.ref a3)] rfl (lenOf pd_10 rfl) rfl rfl d_code_172 rfl (by first | exact Nat.le_of_ble_eq_true rfl | (simp; done) | (simp; omega) | omega) (by first | exact Nat.le_of_ble_eq_true rfl | (simp; done) | (simp; omega) | omega) (by first | exact Nat.le_of_ble_eq_true rfl | (simp; done) | (simp; omega) | omega) (by first | exact Nat.le_of_ble_eq_true rfl | (simp; done) | (simp; omega) | omega) ?_
  rintro _ _ _ T44 ⟨a39, c40, b41, c42, rfl, rfl, rfl, S43⟩ W45
  replace W45 : Wk l Z EL1 ({ frames := 9, cells := 56, slots := 1344, locals := 208 } : Room) "com/example/maswali/maswali/RendererWrittenInPinLaw" code 15 (some .boolean) "law" X [(a3, c36)] [(a39, c40), (b41, c42), (a23, c24), (b25, c26), (a7, c8), (b9, c10), (p0, d0), (b0, e0), (p1, d1), (b1, e1), (p2, d2), (b2, e2)] T44 37 (75) := W45
  show Go Z EL1 _ _ _ X T44 175 #[.val (.int counts), .val (.int ka), .val (.int kb), .val (.int kc), .val (.int modes), .val (.int x), .val (.ref p0), .val (.ref p1), .val (.ref p2), .val (.int (1 : Int32)), .val (.int (3 : Int32)), .val (.ref a3), .unset, .unset, .unset] [(.ref a39), (.int (2 : Int32)), (.ref a3)]
  refine Go.aastoreObj (pc' := 176) W45 0 rfl A37 O38 (Or.inr (Or.inl (List.mem_of_getElem? (i := 0) rfl))) S43.1 2 (by decide) (by decide) (by simp) d_code_175 rfl (fun T50 c52 W51 A53 O54 => ?_)
  replace W51 : Wk l Z EL1 ({ frames := 9, cells := 56, slots := 1344, locals := 208 } : Room) "com/example/maswali/maswali/RendererWrittenInPinLaw" code 15 (some .boolean) "law" X [(a3, c52)] [(a39, c40), (b41, c42), (a23, c24), (b25, c26), (a7, c8), (b9, c10), (p0, d0), (b0, e0), (p1, d1), (b1, e1), (p2, d2), (b2, e2)] T50 37 (75) := W51
  replace A53 : ArrC Z c52 (.object "java/lang/String") [(.ref a7), (.ref a23), (.ref a39)] := A53
  refine Go.new (pc' := 179) W51 (w_35 G) (w_36 G) (w_37 G) d_code_176 rfl (by first | exact Nat.le_of_ble_eq_true rfl | (simp; done) | (simp; omega) | omega) (by first | exact Nat.le_of_ble_eq_true rfl | (simp; done) | (simp; omega) | omega) (fun T55 a57 c58 W56 O59 D60 => ?_)
  replace W56 : Wk l Z EL1 ({ frames := 9, cells := 56, slots := 1344, locals := 208 } : Room) "com/example/maswali/maswali/RendererWrittenInPinLaw" code 15 (some .boolean) "law" X [(a57, c58), (a3, c52)] [(a39, c40), (b41, c42), (a23, c24), (b25, c26), (a7, c8), (b9, c10), (p0, d0), (b0, e0), (p1, d1), (b1, e1), (p2, d2), (b2, e2)] T55 38 (79) := W56
  have F61 : FldC Z c58 "com/example/maswali/maswali/Renderer" "pieces" "[Ljava/lang/String;" (.null) := D60 (Or.inl (w_47 G)) (ty := (.array (.object "java/lang/String"))) (by decide)
  have F62 : FldC Z c58 "com/example/maswali/maswali/Renderer" "bindValues" "Lcom/example/maswali/maswali/BindValues;" (.null) := D60 (Or.inr (w_60 G)) (ty := (.object "com/example/maswali/maswali/BindValues")) (by decide)
  have F63 : FldC Z c58 "com/example/maswali/maswali/Renderer" "dialect" "Lcom/example/maswali/maswali/Dialect;" (.null) := D60 (Or.inr (w_62 G)) (ty := (.object "com/example/maswali/maswali/Dialect")) (by decide)
  have F64 : FldC Z c58 "com/example/maswali/maswali/Renderer" "pieceCount" "I" (.int (0 : Int32)) := D60 (Or.inl (w_69 G)) (ty := .int) (by decide)
  refine Go.dup (pc' := 180) W56 d_code_179 rfl rfl ?_
  refine Go.getstatic (pc' := 183) W56 (w_38 G) Via.refl Sd d_code_180 rfl (fun T65 W66 => ?_)
  refine Go.special (pc' := 186) W66 (a := a57) (rm_ren G a57 c58 nv (.ref da) hnv Sn rfl O59 F61 F64 F63 F62) rfl (w_41 G) (w_42 G) (w_37 G) (w_43 G) (by decide) [0] [] (σf := [(a3, c52)]) rfl rfl [(.ref da)] [(.ref a57)] rfl (lenOf pd_15 rfl) rfl rfl d_code_183 rfl (by first | exact Nat.le_of_ble_eq_true rfl | (simp; done) | (simp; omega) | omega) (by first | exact Nat.le_of_ble_eq_true rfl | (simp; done) | (simp; omega) | omega) (by first | exact Nat.le_of_ble_eq_true rfl | (simp; done) | (simp; omega) | omega) (by first | exact Nat.le_of_ble_eq_true rfl | (simp; done) | (simp; omega) | omega) ?_
  rintro _ _ _ T73 ⟨c67, p68, c69, rfl, rfl, rfl, M70, A71, O72⟩ W74
  replace W74 : Wk l Z EL1 ({ frames := 9, cells := 56, slots := 1344, locals := 208 } : Room) "com/example/maswali/maswali/RendererWrittenInPinLaw" code 15 (some .boolean) "law" X [(a57, c67), (p68, c69), (a3, c52)] [(a39, c40), (b41, c42), (a23, c24), (b25, c26), (a7, c8), (b9, c10), (p0, d0), (b0, e0), (p1, d1), (b1, e1), (p2, d2), (b2, e2)] T73 40 (145) := W74
  show Go Z EL1 _ _ _ X T73 186 #[.val (.int counts), .val (.int ka), .val (.int kb), .val (.int kc), .val (.int modes), .val (.int x), .val (.ref p0), .val (.ref p1), .val (.ref p2), .val (.int (1 : Int32)), .val (.int (3 : Int32)), .val (.ref a3), .unset, .unset, .unset] [(.ref a57)]
  refine Go.astore (pc' := 188) W74 #[.val (.int counts), .val (.int ka), .val (.int kb), .val (.int kc), .val (.int modes), .val (.int x), .val (.ref p0), .val (.ref p1), .val (.ref p2), .val (.int (1 : Int32)), .val (.int (3 : Int32)), .val (.ref a3), .val (.ref a57), .unset, .unset] d_code_186 rfl rfl rfl ?_
  refine Go.iload (pc' := 190) W74 d_code_188 rfl rfl ?_
  refine Go.if_le (pc' := 193) W74 200 d_code_190 (by decide) rfl (fun q => absurd (by decide) q) (fun _ => ?_)
  refine Go.aload (pc' := 195) W74 d_code_193 rfl rfl rfl ?_
  refine Go.aload (pc' := 197) W74 d_code_195 rfl rfl rfl ?_
  refine Go.virtual (pc' := 200) W74 (rm_app G a57 p68 p0 b0 c67 c69 d0 e0 0 _ _ (by decide) (by simp) S0 M70 A71 O72) (Or.inl (List.mem_of_getElem? (i := 0) rfl)) M70.1 (w_73 G) (w_74 G) (w_76 G) (w_75 G) (w_37 G) (w_77 G) (by decide) [0, 0] [6] (σf := [(a3, c52)]) rfl rfl [(.ref p0)] [] rfl (lenOf pd_17 rfl) rfl rfl d_code_197 rfl (by first | exact Nat.le_of_ble_eq_true rfl | (simp; done) | (simp; omega) | omega) (by first | exact Nat.le_of_ble_eq_true rfl | (simp; done) | (simp; omega) | omega) (by first | exact Nat.le_of_ble_eq_true rfl | (simp; done) | (simp; omega) | omega) (by first | exact Nat.le_of_ble_eq_true rfl | (simp; done) | (simp; omega) | omega) ?_
  rintro _ _ _ T80 ⟨c75, c76, rfl, rfl, rfl, M77, A78, O79⟩ W81
  replace W81 : Wk l Z EL1 ({ frames := 9, cells := 56, slots := 1344, locals := 208 } : Room) "com/example/maswali/maswali/RendererWrittenInPinLaw" code 15 (some .boolean) "law" X [(a57, c75), (p68, c76), (a3, c52)] [(a39, c40), (b41, c42), (a23, c24), (b25, c26), (a7, c8), (b9, c10), (p0, d0), (b0, e0), (p1, d1), (b1, e1), (p2, d2), (b2, e2)] T80 40 (145) := W81
  show Go Z EL1 _ _ _ X T80 200 #[.val (.int counts), .val (.int ka), .val (.int kb), .val (.int kc), .val (.int modes), .val (.int x), .val (.ref p0), .val (.ref p1), .val (.ref p2), .val (.int (1 : Int32)), .val (.int (3 : Int32)), .val (.ref a3), .val (.ref a57), .unset, .unset] []
  refine Go.iload (pc' := 202) W81 d_code_200 rfl rfl ?_
  refine Go.iconst (pc' := 203) W81 (1 : Int32) d_code_202 (by decide) rfl ?_
  refine Go.icmp_le (pc' := 206) W81 213 d_code_203 (by decide) rfl (fun _ => ?_) (fun q => absurd q (by decide))
  refine Go.iload (pc' := 215) W81 d_code_213 rfl rfl ?_
  refine Go.iconst (pc' := 216) W81 (2 : Int32) d_code_215 (by decide) rfl ?_
  refine Go.icmp_le (pc' := 219) W81 226 d_code_216 (by decide) rfl (fun _ => ?_) (fun q => absurd q (by decide))
  refine Go.aload (pc' := 228) W81 d_code_226 rfl rfl rfl ?_
  refine Go.aload (pc' := 230) W81 d_code_228 rfl rfl rfl ?_
  refine Go.virtual (pc' := 233) W81 (rm_winN G a57 a3 c75 c52 1 3 _ _ rfl (by decide) M77 A53) (Or.inl (List.mem_of_getElem? (i := 0) rfl)) M77.1 (w_63 G) (w_64 G) (w_66 G) (w_65 G) (w_37 G) (w_67 G) (by decide) [0, 1] [] (σf := [(p68, c76)]) rfl rfl [(.ref a3)] [] rfl (lenOf pd_16 rfl) rfl rfl d_code_230 rfl (by first | exact Nat.le_of_ble_eq_true rfl | (simp; done) | (simp; omega) | omega) (by first | exact Nat.le_of_ble_eq_true rfl | (simp; done) | (simp; omega) | omega) (by first | exact Nat.le_of_ble_eq_true rfl | (simp; done) | (simp; omega) | omega) (by first | exact Nat.le_of_ble_eq_true rfl | (simp; done) | (simp; omega) | omega) ?_
  rintro _ _ _ T82 ⟨rfl, rfl, rfl⟩ W83
  replace W83 : Wk l Z EL1 ({ frames := 9, cells := 56, slots := 1344, locals := 208 } : Room) "com/example/maswali/maswali/RendererWrittenInPinLaw" code 15 (some .boolean) "law" X [(a57, c75), (a3, c52), (p68, c76)] [(a39, c40), (b41, c42), (a23, c24), (b25, c26), (a7, c8), (b9, c10), (p0, d0), (b0, e0), (p1, d1), (b1, e1), (p2, d2), (b2, e2)] T82 40 (145) := W83
  show Go Z EL1 _ _ _ X T82 233 #[.val (.int counts), .val (.int ka), .val (.int kb), .val (.int kc), .val (.int modes), .val (.int x), .val (.ref p0), .val (.ref p1), .val (.ref p2), .val (.int (1 : Int32)), .val (.int (3 : Int32)), .val (.ref a3), .val (.ref a57), .unset, .unset] [(.int (0 : Int32))]
  refine Go.istore (pc' := 235) W83 #[.val (.int counts), .val (.int ka), .val (.int kb), .val (.int kc), .val (.int modes), .val (.int x), .val (.ref p0), .val (.ref p1), .val (.ref p2), .val (.int (1 : Int32)), .val (.int (3 : Int32)), .val (.ref a3), .val (.ref a57), .val (.int (0 : Int32)), .unset] d_code_233 rfl rfl ?_
  refine Go.iload (pc' := 237) W83 d_code_235 rfl rfl ?_
  refine Go.iload (pc' := 239) W83 d_code_237 rfl rfl ?_
  refine Go.icmp_ne (pc' := 242) W83 300 d_code_239 (by decide) rfl (fun _ => ?_) (fun q => absurd q (by decide))
  refine Go.iconst (pc' := 301) W83 (0 : Int32) d_code_300 (by decide) rfl ?_
  refine Go.istore (pc' := 303) W83 #[.val (.int counts), .val (.int ka), .val (.int kb), .val (.int kc), .val (.int modes), .val (.int x), .val (.ref p0), .val (.ref p1), .val (.ref p2), .val (.int (1 : Int32)), .val (.int (3 : Int32)), .val (.ref a3), .val (.ref a57), .val (.int (0 : Int32)), .val (.int (0 : Int32))] d_code_301 rfl rfl ?_
  refine Go.iload (pc' := 305) W83 d_code_303 rfl rfl ?_
  refine Go.iload (pc' := 307) W83 d_code_305 rfl rfl ?_
  refine Go.icmp_ne (pc' := 310) W83 314 d_code_307 (by decide) rfl (fun q => absurd (by decide) q) (fun _ => ?_)
  refine Go.iconst (pc' := 311) W83 (1 : Int32) d_code_310 (by decide) rfl ?_
  refine Go.goto W83 315 d_code_311 (by decide) ?_
  refine Go.nret (z' := (1 : Int32)) W83 (by simp) (by decide) d_code_315 (by first | exact Nat.le_of_ble_eq_true rfl | (simp; done) | (simp; omega) | omega) (by first | exact Nat.le_of_ble_eq_true rfl | (simp; done) | (simp; omega) | omega) ?_
  rfl
theorem d_code_206 : decode code 206 = .ok (.aload 12, 2) := by decide +kernel
theorem d_code_208 : decode code 208 = .ok (.aload 7, 2) := by decide +kernel
theorem d_code_210 : decode code 210 = .ok (.invokevirtual 33, 3) := by decide +kernel
set_option maxRecDepth 65536 in
set_option maxHeartbeats 40000000 in
theorem rm_t20 {l : Launch} {Z : State} {a0 : Array Value} (G : Cl Z a0) (counts ka kb kc modes x : Int32) (nv : Value) (hnv : nv.isRef = true) (Sn : Sta Z Z.heap "com/example/maswali/maswali/BindValues" "NONE" "[Ljava/lang/Object;" nv) (da : Addr) (Sd : Sta Z Z.heap "com/example/maswali/maswali/Dialect" "POSTGRES" "Lcom/example/maswali/maswali/Dialect;" (.ref da)) (p0 b0 p1 b1 p2 b2 : Addr) (d0 e0 d1 e1 d2 e2 : Cell) (S0 : StrL Z d0 b0 e0 (strF ka)) (S1 : StrL Z d1 b1 e1 (strF kb)) (S2 : StrL Z d2 b2 e2 (strF kc)) {X : Ctx} {T0 : State} (W0 : Wk l Z EL1 ({ frames := 9, cells := 56, slots := 1344, locals := 208 } : Room) "com/example/maswali/maswali/RendererWrittenInPinLaw" code 15 (some .boolean) "law" X [] [(p0, d0), (b0, e0), (p1, d1), (b1, e1), (p2, d2), (b2, e2)] T0 18 (36)) :
    Go Z EL1 56 1344 (fun v _ _ => v = some (.int 1)) X T0 43 #[.val (.int counts), .val (.int ka), .val (.int kb), .val (.int kc), .val (.int modes), .val (.int x), .val (.ref p0), .val (.ref p1), .val (.ref p2), .val (.int (2 : Int32)), .val (.int (0 : Int32)), .unset, .unset, .unset, .unset] [] := by
  refine Go.iload (pc' := 45) W0 d_code_43 rfl rfl ?_
  refine Go.anewarr (pc' := 48) W0 0 (w_4 G) (w_34 G) d_code_45 rfl (by decide) (by decide) (by decide) (by first | exact Nat.le_of_ble_eq_true rfl | (simp; done) | (simp; omega) | omega) (by first | exact Nat.le_of_ble_eq_true rfl | (simp; done) | (simp; omega) | omega) (fun T1 a3 c4 W2 A5 O6 => ?_)
  replace W2 : Wk l Z EL1 ({ frames := 9, cells := 56, slots := 1344, locals := 208 } : Room) "com/example/maswali/maswali/RendererWrittenInPinLaw" code 15 (some .boolean) "law" X [(a3, c4)] [(p0, d0), (b0, e0), (p1, d1), (b1, e1), (p2, d2), (b2, e2)] T1 19 (36) := W2
  refine Go.astore (pc' := 50) W2 #[.val (.int counts), .val (.int ka), .val (.int kb), .val (.int kc), .val (.int modes), .val (.int x), .val (.ref p0), .val (.ref p1), .val (.ref p2), .val (.int (2 : Int32)), .val (.int (0 : Int32)), .val (.ref a3), .unset, .unset, .unset] d_code_48 rfl rfl rfl ?_
  refine Go.iload (pc' := 52) W2 d_code_50 rfl rfl ?_
  refine Go.if_le (pc' := 55) W2 86 d_code_52 (by decide) rfl (fun _ => ?_) (fun q => absurd q (by decide))
  refine Go.iload (pc' := 88) W2 d_code_86 rfl rfl ?_
  refine Go.iconst (pc' := 89) W2 (1 : Int32) d_code_88 (by decide) rfl ?_
  refine Go.icmp_le (pc' := 92) W2 130 d_code_89 (by decide) rfl (fun _ => ?_) (fun q => absurd q (by decide))
  refine Go.iload (pc' := 132) W2 d_code_130 rfl rfl ?_
  refine Go.iconst (pc' := 133) W2 (2 : Int32) d_code_132 (by decide) rfl ?_
  refine Go.icmp_le (pc' := 136) W2 176 d_code_133 (by decide) rfl (fun _ => ?_) (fun q => absurd q (by decide))
  refine Go.new (pc' := 179) W2 (w_35 G) (w_36 G) (w_37 G) d_code_176 rfl (by first | exact Nat.le_of_ble_eq_true rfl | (simp; done) | (simp; omega) | omega) (by first | exact Nat.le_of_ble_eq_true rfl | (simp; done) | (simp; omega) | omega) (fun T7 a9 c10 W8 O11 D12 => ?_)
  replace W8 : Wk l Z EL1 ({ frames := 9, cells := 56, slots := 1344, locals := 208 } : Room) "com/example/maswali/maswali/RendererWrittenInPinLaw" code 15 (some .boolean) "law" X [(a9, c10), (a3, c4)] [(p0, d0), (b0, e0), (p1, d1), (b1, e1), (p2, d2), (b2, e2)] T7 20 (40) := W8
  have F13 : FldC Z c10 "com/example/maswali/maswali/Renderer" "pieces" "[Ljava/lang/String;" (.null) := D12 (Or.inl (w_47 G)) (ty := (.array (.object "java/lang/String"))) (by decide)
  have F14 : FldC Z c10 "com/example/maswali/maswali/Renderer" "bindValues" "Lcom/example/maswali/maswali/BindValues;" (.null) := D12 (Or.inr (w_60 G)) (ty := (.object "com/example/maswali/maswali/BindValues")) (by decide)
  have F15 : FldC Z c10 "com/example/maswali/maswali/Renderer" "dialect" "Lcom/example/maswali/maswali/Dialect;" (.null) := D12 (Or.inr (w_62 G)) (ty := (.object "com/example/maswali/maswali/Dialect")) (by decide)
  have F16 : FldC Z c10 "com/example/maswali/maswali/Renderer" "pieceCount" "I" (.int (0 : Int32)) := D12 (Or.inl (w_69 G)) (ty := .int) (by decide)
  refine Go.dup (pc' := 180) W8 d_code_179 rfl rfl ?_
  refine Go.getstatic (pc' := 183) W8 (w_38 G) Via.refl Sd d_code_180 rfl (fun T17 W18 => ?_)
  refine Go.special (pc' := 186) W18 (a := a9) (rm_ren G a9 c10 nv (.ref da) hnv Sn rfl O11 F13 F16 F15 F14) rfl (w_41 G) (w_42 G) (w_37 G) (w_43 G) (by decide) [0] [] (σf := [(a3, c4)]) rfl rfl [(.ref da)] [(.ref a9)] rfl (lenOf pd_15 rfl) rfl rfl d_code_183 rfl (by first | exact Nat.le_of_ble_eq_true rfl | (simp; done) | (simp; omega) | omega) (by first | exact Nat.le_of_ble_eq_true rfl | (simp; done) | (simp; omega) | omega) (by first | exact Nat.le_of_ble_eq_true rfl | (simp; done) | (simp; omega) | omega) (by first | exact Nat.le_of_ble_eq_true rfl | (simp; done) | (simp; omega) | omega) ?_
  rintro _ _ _ T25 ⟨c19, p20, c21, rfl, rfl, rfl, M22, A23, O24⟩ W26
  replace W26 : Wk l Z EL1 ({ frames := 9, cells := 56, slots := 1344, locals := 208 } : Room) "com/example/maswali/maswali/RendererWrittenInPinLaw" code 15 (some .boolean) "law" X [(a9, c19), (p20, c21), (a3, c4)] [(p0, d0), (b0, e0), (p1, d1), (b1, e1), (p2, d2), (b2, e2)] T25 22 (106) := W26
  show Go Z EL1 _ _ _ X T25 186 #[.val (.int counts), .val (.int ka), .val (.int kb), .val (.int kc), .val (.int modes), .val (.int x), .val (.ref p0), .val (.ref p1), .val (.ref p2), .val (.int (2 : Int32)), .val (.int (0 : Int32)), .val (.ref a3), .unset, .unset, .unset] [(.ref a9)]
  refine Go.astore (pc' := 188) W26 #[.val (.int counts), .val (.int ka), .val (.int kb), .val (.int kc), .val (.int modes), .val (.int x), .val (.ref p0), .val (.ref p1), .val (.ref p2), .val (.int (2 : Int32)), .val (.int (0 : Int32)), .val (.ref a3), .val (.ref a9), .unset, .unset] d_code_186 rfl rfl rfl ?_
  refine Go.iload (pc' := 190) W26 d_code_188 rfl rfl ?_
  refine Go.if_le (pc' := 193) W26 200 d_code_190 (by decide) rfl (fun q => absurd (by decide) q) (fun _ => ?_)
  refine Go.aload (pc' := 195) W26 d_code_193 rfl rfl rfl ?_
  refine Go.aload (pc' := 197) W26 d_code_195 rfl rfl rfl ?_
  refine Go.virtual (pc' := 200) W26 (rm_app G a9 p20 p0 b0 c19 c21 d0 e0 0 _ _ (by decide) (by simp) S0 M22 A23 O24) (Or.inl (List.mem_of_getElem? (i := 0) rfl)) M22.1 (w_73 G) (w_74 G) (w_76 G) (w_75 G) (w_37 G) (w_77 G) (by decide) [0, 0] [0] (σf := [(a3, c4)]) rfl rfl [(.ref p0)] [] rfl (lenOf pd_17 rfl) rfl rfl d_code_197 rfl (by first | exact Nat.le_of_ble_eq_true rfl | (simp; done) | (simp; omega) | omega) (by first | exact Nat.le_of_ble_eq_true rfl | (simp; done) | (simp; omega) | omega) (by first | exact Nat.le_of_ble_eq_true rfl | (simp; done) | (simp; omega) | omega) (by first | exact Nat.le_of_ble_eq_true rfl | (simp; done) | (simp; omega) | omega) ?_
  rintro _ _ _ T32 ⟨c27, c28, rfl, rfl, rfl, M29, A30, O31⟩ W33
  replace W33 : Wk l Z EL1 ({ frames := 9, cells := 56, slots := 1344, locals := 208 } : Room) "com/example/maswali/maswali/RendererWrittenInPinLaw" code 15 (some .boolean) "law" X [(a9, c27), (p20, c28), (a3, c4)] [(p0, d0), (b0, e0), (p1, d1), (b1, e1), (p2, d2), (b2, e2)] T32 22 (106) := W33
  show Go Z EL1 _ _ _ X T32 200 #[.val (.int counts), .val (.int ka), .val (.int kb), .val (.int kc), .val (.int modes), .val (.int x), .val (.ref p0), .val (.ref p1), .val (.ref p2), .val (.int (2 : Int32)), .val (.int (0 : Int32)), .val (.ref a3), .val (.ref a9), .unset, .unset] []
  refine Go.iload (pc' := 202) W33 d_code_200 rfl rfl ?_
  refine Go.iconst (pc' := 203) W33 (1 : Int32) d_code_202 (by decide) rfl ?_
  refine Go.icmp_le (pc' := 206) W33 213 d_code_203 (by decide) rfl (fun q => absurd (by decide) q) (fun _ => ?_)
  refine Go.aload (pc' := 208) W33 d_code_206 rfl rfl rfl ?_
  refine Go.aload (pc' := 210) W33 d_code_208 rfl rfl rfl ?_
  refine Go.virtual (pc' := 213) W33 (rm_app G a9 p20 p1 b1 c27 c28 d1 e1 1 _ _ (by decide) (by simp) S1 M29 A30 O31) (Or.inl (List.mem_of_getElem? (i := 0) rfl)) M29.1 (w_73 G) (w_74 G) (w_76 G) (w_75 G) (w_37 G) (w_77 G) (by decide) [0, 0] [2] (σf := [(a3, c4)]) rfl rfl [(.ref p1)] [] rfl (lenOf pd_17 rfl) rfl rfl d_code_210 rfl (by first | exact Nat.le_of_ble_eq_true rfl | (simp; done) | (simp; omega) | omega) (by first | exact Nat.le_of_ble_eq_true rfl | (simp; done) | (simp; omega) | omega) (by first | exact Nat.le_of_ble_eq_true rfl | (simp; done) | (simp; omega) | omega) (by first | exact Nat.le_of_ble_eq_true rfl | (simp; done) | (simp; omega) | omega) ?_
  rintro _ _ _ T39 ⟨c34, c35, rfl, rfl, rfl, M36, A37, O38⟩ W40
  replace W40 : Wk l Z EL1 ({ frames := 9, cells := 56, slots := 1344, locals := 208 } : Room) "com/example/maswali/maswali/RendererWrittenInPinLaw" code 15 (some .boolean) "law" X [(a9, c34), (p20, c35), (a3, c4)] [(p0, d0), (b0, e0), (p1, d1), (b1, e1), (p2, d2), (b2, e2)] T39 22 (106) := W40
  show Go Z EL1 _ _ _ X T39 213 #[.val (.int counts), .val (.int ka), .val (.int kb), .val (.int kc), .val (.int modes), .val (.int x), .val (.ref p0), .val (.ref p1), .val (.ref p2), .val (.int (2 : Int32)), .val (.int (0 : Int32)), .val (.ref a3), .val (.ref a9), .unset, .unset] []
  refine Go.iload (pc' := 215) W40 d_code_213 rfl rfl ?_
  refine Go.iconst (pc' := 216) W40 (2 : Int32) d_code_215 (by decide) rfl ?_
  refine Go.icmp_le (pc' := 219) W40 226 d_code_216 (by decide) rfl (fun _ => ?_) (fun q => absurd q (by decide))
  refine Go.aload (pc' := 228) W40 d_code_226 rfl rfl rfl ?_
  refine Go.aload (pc' := 230) W40 d_code_228 rfl rfl rfl ?_
  refine Go.virtual (pc' := 233) W40 (rm_winN G a9 a3 c34 c4 2 0 _ _ rfl (by decide) M36 A5) (Or.inl (List.mem_of_getElem? (i := 0) rfl)) M36.1 (w_63 G) (w_64 G) (w_66 G) (w_65 G) (w_37 G) (w_67 G) (by decide) [0, 1] [] (σf := [(p20, c35)]) rfl rfl [(.ref a3)] [] rfl (lenOf pd_16 rfl) rfl rfl d_code_230 rfl (by first | exact Nat.le_of_ble_eq_true rfl | (simp; done) | (simp; omega) | omega) (by first | exact Nat.le_of_ble_eq_true rfl | (simp; done) | (simp; omega) | omega) (by first | exact Nat.le_of_ble_eq_true rfl | (simp; done) | (simp; omega) | omega) (by first | exact Nat.le_of_ble_eq_true rfl | (simp; done) | (simp; omega) | omega) ?_
  rintro _ _ _ T41 ⟨rfl, rfl, rfl⟩ W42
  replace W42 : Wk l Z EL1 ({ frames := 9, cells := 56, slots := 1344, locals := 208 } : Room) "com/example/maswali/maswali/RendererWrittenInPinLaw" code 15 (some .boolean) "law" X [(a9, c34), (a3, c4), (p20, c35)] [(p0, d0), (b0, e0), (p1, d1), (b1, e1), (p2, d2), (b2, e2)] T41 22 (106) := W42
  show Go Z EL1 _ _ _ X T41 233 #[.val (.int counts), .val (.int ka), .val (.int kb), .val (.int kc), .val (.int modes), .val (.int x), .val (.ref p0), .val (.ref p1), .val (.ref p2), .val (.int (2 : Int32)), .val (.int (0 : Int32)), .val (.ref a3), .val (.ref a9), .unset, .unset] [(.int (0 : Int32))]
  refine Go.istore (pc' := 235) W42 #[.val (.int counts), .val (.int ka), .val (.int kb), .val (.int kc), .val (.int modes), .val (.int x), .val (.ref p0), .val (.ref p1), .val (.ref p2), .val (.int (2 : Int32)), .val (.int (0 : Int32)), .val (.ref a3), .val (.ref a9), .val (.int (0 : Int32)), .unset] d_code_233 rfl rfl ?_
  refine Go.iload (pc' := 237) W42 d_code_235 rfl rfl ?_
  refine Go.iload (pc' := 239) W42 d_code_237 rfl rfl ?_
  refine Go.icmp_ne (pc' := 242) W42 300 d_code_239 (by decide) rfl (fun _ => ?_) (fun q => absurd q (by decide))
  refine Go.iconst (pc' := 301) W42 (0 : Int32) d_code_300 (by decide) rfl ?_
  refine Go.istore (pc' := 303) W42 #[.val (.int counts), .val (.int ka), .val (.int kb), .val (.int kc), .val (.int modes), .val (.int x), .val (.ref p0), .val (.ref p1), .val (.ref p2), .val (.int (2 : Int32)), .val (.int (0 : Int32)), .val (.ref a3), .val (.ref a9), .val (.int (0 : Int32)), .val (.int (0 : Int32))] d_code_301 rfl rfl ?_
  refine Go.iload (pc' := 305) W42 d_code_303 rfl rfl ?_
  refine Go.iload (pc' := 307) W42 d_code_305 rfl rfl ?_
  refine Go.icmp_ne (pc' := 310) W42 314 d_code_307 (by decide) rfl (fun q => absurd (by decide) q) (fun _ => ?_)
  refine Go.iconst (pc' := 311) W42 (1 : Int32) d_code_310 (by decide) rfl ?_
  refine Go.goto W42 315 d_code_311 (by decide) ?_
  refine Go.nret (z' := (1 : Int32)) W42 (by simp) (by decide) d_code_315 (by first | exact Nat.le_of_ble_eq_true rfl | (simp; done) | (simp; omega) | omega) (by first | exact Nat.le_of_ble_eq_true rfl | (simp; done) | (simp; omega) | omega) ?_
  rfl
set_option maxRecDepth 65536 in
set_option maxHeartbeats 40000000 in
theorem rm_t21 {l : Launch} {Z : State} {a0 : Array Value} (G : Cl Z a0) (counts ka kb kc modes x : Int32) (nv : Value) (hnv : nv.isRef = true) (Sn : Sta Z Z.heap "com/example/maswali/maswali/BindValues" "NONE" "[Ljava/lang/Object;" nv) (da : Addr) (Sd : Sta Z Z.heap "com/example/maswali/maswali/Dialect" "POSTGRES" "Lcom/example/maswali/maswali/Dialect;" (.ref da)) (p0 b0 p1 b1 p2 b2 : Addr) (d0 e0 d1 e1 d2 e2 : Cell) (S0 : StrL Z d0 b0 e0 (strF ka)) (S1 : StrL Z d1 b1 e1 (strF kb)) (S2 : StrL Z d2 b2 e2 (strF kc)) {X : Ctx} {T0 : State} (W0 : Wk l Z EL1 ({ frames := 9, cells := 56, slots := 1344, locals := 208 } : Room) "com/example/maswali/maswali/RendererWrittenInPinLaw" code 15 (some .boolean) "law" X [] [(p0, d0), (b0, e0), (p1, d1), (b1, e1), (p2, d2), (b2, e2)] T0 18 (36)) :
    Go Z EL1 56 1344 (fun v _ _ => v = some (.int 1)) X T0 43 #[.val (.int counts), .val (.int ka), .val (.int kb), .val (.int kc), .val (.int modes), .val (.int x), .val (.ref p0), .val (.ref p1), .val (.ref p2), .val (.int (2 : Int32)), .val (.int (1 : Int32)), .unset, .unset, .unset, .unset] [] := by
  refine Go.iload (pc' := 45) W0 d_code_43 rfl rfl ?_
  refine Go.anewarr (pc' := 48) W0 1 (w_4 G) (w_34 G) d_code_45 rfl (by decide) (by decide) (by decide) (by first | exact Nat.le_of_ble_eq_true rfl | (simp; done) | (simp; omega) | omega) (by first | exact Nat.le_of_ble_eq_true rfl | (simp; done) | (simp; omega) | omega) (fun T1 a3 c4 W2 A5 O6 => ?_)
  replace W2 : Wk l Z EL1 ({ frames := 9, cells := 56, slots := 1344, locals := 208 } : Room) "com/example/maswali/maswali/RendererWrittenInPinLaw" code 15 (some .boolean) "law" X [(a3, c4)] [(p0, d0), (b0, e0), (p1, d1), (b1, e1), (p2, d2), (b2, e2)] T1 19 (37) := W2
  refine Go.astore (pc' := 50) W2 #[.val (.int counts), .val (.int ka), .val (.int kb), .val (.int kc), .val (.int modes), .val (.int x), .val (.ref p0), .val (.ref p1), .val (.ref p2), .val (.int (2 : Int32)), .val (.int (1 : Int32)), .val (.ref a3), .unset, .unset, .unset] d_code_48 rfl rfl rfl ?_
  refine Go.iload (pc' := 52) W2 d_code_50 rfl rfl ?_
  refine Go.if_le (pc' := 55) W2 86 d_code_52 (by decide) rfl (fun q => absurd (by decide) q) (fun _ => ?_)
  refine Go.aload (pc' := 57) W2 d_code_55 rfl rfl rfl ?_
  refine Go.iconst (pc' := 58) W2 (0 : Int32) d_code_57 (by decide) rfl ?_
  refine Go.iload (pc' := 60) W2 d_code_58 rfl rfl ?_
  refine Go.if_le (pc' := 63) W2 80 d_code_60 (by decide) rfl (fun q => absurd (by decide) q) (fun _ => ?_)
  refine Go.aload (pc' := 65) W2 d_code_63 rfl rfl rfl ?_
  refine Go.iloadN (pc' := 66) W2 d_code_65 rfl rfl ?_
  refine Go.iload (pc' := 68) W2 d_code_66 rfl rfl ?_
  refine Go.iconst (pc' := 69) W2 (3 : Int32) d_code_68 (by decide) rfl ?_
  refine Go.iand (pc' := 70) W2 d_code_69 rfl ?_
  refine Go.iload (pc' := 72) W2 d_code_70 rfl rfl ?_
  refine Go.aload (pc' := 74) W2 d_code_72 rfl rfl rfl ?_
  refine Go.static (pc' := 77) W2 (rm_oth G p0 b0 p1 b1 d0 e0 d1 e1 _ _ ka (modes &&& (3 : Int32)) x S0 S1) (w_70 G) (w_71 G) (w_2 G) (w_72 G) (by decide) [] [0, 1, 2, 3] (σf := [(a3, c4)]) rfl rfl [(.ref p0), (.int ka), (.int (modes &&& (3 : Int32))), (.int x), (.ref p1)] [(.int (0 : Int32)), (.ref a3)] rfl (lenOf pd_18 rfl) rfl rfl d_code_74 rfl (by first | exact Nat.le_of_ble_eq_true rfl | (simp; done) | (simp; omega) | omega) (by first | exact Nat.le_of_ble_eq_true rfl | (simp; done) | (simp; omega) | omega) (by first | exact Nat.le_of_ble_eq_true rfl | (simp; done) | (simp; omega) | omega) (by first | exact Nat.le_of_ble_eq_true rfl | (simp; done) | (simp; omega) | omega) ?_
  rintro _ _ _ T12 ⟨a7, c8, b9, c10, rfl, rfl, rfl, S11⟩ W13
  replace W13 : Wk l Z EL1 ({ frames := 9, cells := 56, slots := 1344, locals := 208 } : Room) "com/example/maswali/maswali/RendererWrittenInPinLaw" code 15 (some .boolean) "law" X [(a3, c4)] [(a7, c8), (b9, c10), (p0, d0), (b0, e0), (p1, d1), (b1, e1), (p2, d2), (b2, e2)] T12 25 (49) := W13
  show Go Z EL1 _ _ _ X T12 77 #[.val (.int counts), .val (.int ka), .val (.int kb), .val (.int kc), .val (.int modes), .val (.int x), .val (.ref p0), .val (.ref p1), .val (.ref p2), .val (.int (2 : Int32)), .val (.int (1 : Int32)), .val (.ref a3), .unset, .unset, .unset] [(.ref a7), (.int (0 : Int32)), (.ref a3)]
  refine Go.goto W13 85 d_code_77 (by decide) ?_
  refine Go.aastoreObj (pc' := 86) W13 0 rfl A5 O6 (Or.inr (Or.inl (List.mem_of_getElem? (i := 0) rfl))) S11.1 0 (by decide) (by decide) (by simp) d_code_85 rfl (fun T18 c20 W19 A21 O22 => ?_)
  replace W19 : Wk l Z EL1 ({ frames := 9, cells := 56, slots := 1344, locals := 208 } : Room) "com/example/maswali/maswali/RendererWrittenInPinLaw" code 15 (some .boolean) "law" X [(a3, c20)] [(a7, c8), (b9, c10), (p0, d0), (b0, e0), (p1, d1), (b1, e1), (p2, d2), (b2, e2)] T18 25 (49) := W19
  replace A21 : ArrC Z c20 (.object "java/lang/String") [(.ref a7)] := A21
  refine Go.iload (pc' := 88) W19 d_code_86 rfl rfl ?_
  refine Go.iconst (pc' := 89) W19 (1 : Int32) d_code_88 (by decide) rfl ?_
  refine Go.icmp_le (pc' := 92) W19 130 d_code_89 (by decide) rfl (fun _ => ?_) (fun q => absurd q (by decide))
  refine Go.iload (pc' := 132) W19 d_code_130 rfl rfl ?_
  refine Go.iconst (pc' := 133) W19 (2 : Int32) d_code_132 (by decide) rfl ?_
  refine Go.icmp_le (pc' := 136) W19 176 d_code_133 (by decide) rfl (fun _ => ?_) (fun q => absurd q (by decide))
  refine Go.new (pc' := 179) W19 (w_35 G) (w_36 G) (w_37 G) d_code_176 rfl (by first | exact Nat.le_of_ble_eq_true rfl | (simp; done) | (simp; omega) | omega) (by first | exact Nat.le_of_ble_eq_true rfl | (simp; done) | (simp; omega) | omega) (fun T23 a25 c26 W24 O27 D28 => ?_)
  replace W24 : Wk l Z EL1 ({ frames := 9, cells := 56, slots := 1344, locals := 208 } : Room) "com/example/maswali/maswali/RendererWrittenInPinLaw" code 15 (some .boolean) "law" X [(a25, c26), (a3, c20)] [(a7, c8), (b9, c10), (p0, d0), (b0, e0), (p1, d1), (b1, e1), (p2, d2), (b2, e2)] T23 26 (53) := W24
  have F29 : FldC Z c26 "com/example/maswali/maswali/Renderer" "pieces" "[Ljava/lang/String;" (.null) := D28 (Or.inl (w_47 G)) (ty := (.array (.object "java/lang/String"))) (by decide)
  have F30 : FldC Z c26 "com/example/maswali/maswali/Renderer" "bindValues" "Lcom/example/maswali/maswali/BindValues;" (.null) := D28 (Or.inr (w_60 G)) (ty := (.object "com/example/maswali/maswali/BindValues")) (by decide)
  have F31 : FldC Z c26 "com/example/maswali/maswali/Renderer" "dialect" "Lcom/example/maswali/maswali/Dialect;" (.null) := D28 (Or.inr (w_62 G)) (ty := (.object "com/example/maswali/maswali/Dialect")) (by decide)
  have F32 : FldC Z c26 "com/example/maswali/maswali/Renderer" "pieceCount" "I" (.int (0 : Int32)) := D28 (Or.inl (w_69 G)) (ty := .int) (by decide)
  refine Go.dup (pc' := 180) W24 d_code_179 rfl rfl ?_
  refine Go.getstatic (pc' := 183) W24 (w_38 G) Via.refl Sd d_code_180 rfl (fun T33 W34 => ?_)
  refine Go.special (pc' := 186) W34 (a := a25) (rm_ren G a25 c26 nv (.ref da) hnv Sn rfl O27 F29 F32 F31 F30) rfl (w_41 G) (w_42 G) (w_37 G) (w_43 G) (by decide) [0] [] (σf := [(a3, c20)]) rfl rfl [(.ref da)] [(.ref a25)] rfl (lenOf pd_15 rfl) rfl rfl d_code_183 rfl (by first | exact Nat.le_of_ble_eq_true rfl | (simp; done) | (simp; omega) | omega) (by first | exact Nat.le_of_ble_eq_true rfl | (simp; done) | (simp; omega) | omega) (by first | exact Nat.le_of_ble_eq_true rfl | (simp; done) | (simp; omega) | omega) (by first | exact Nat.le_of_ble_eq_true rfl | (simp; done) | (simp; omega) | omega) ?_
  rintro _ _ _ T41 ⟨c35, p36, c37, rfl, rfl, rfl, M38, A39, O40⟩ W42
  replace W42 : Wk l Z EL1 ({ frames := 9, cells := 56, slots := 1344, locals := 208 } : Room) "com/example/maswali/maswali/RendererWrittenInPinLaw" code 15 (some .boolean) "law" X [(a25, c35), (p36, c37), (a3, c20)] [(a7, c8), (b9, c10), (p0, d0), (b0, e0), (p1, d1), (b1, e1), (p2, d2), (b2, e2)] T41 28 (119) := W42
  show Go Z EL1 _ _ _ X T41 186 #[.val (.int counts), .val (.int ka), .val (.int kb), .val (.int kc), .val (.int modes), .val (.int x), .val (.ref p0), .val (.ref p1), .val (.ref p2), .val (.int (2 : Int32)), .val (.int (1 : Int32)), .val (.ref a3), .unset, .unset, .unset] [(.ref a25)]
  refine Go.astore (pc' := 188) W42 #[.val (.int counts), .val (.int ka), .val (.int kb), .val (.int kc), .val (.int modes), .val (.int x), .val (.ref p0), .val (.ref p1), .val (.ref p2), .val (.int (2 : Int32)), .val (.int (1 : Int32)), .val (.ref a3), .val (.ref a25), .unset, .unset] d_code_186 rfl rfl rfl ?_
  refine Go.iload (pc' := 190) W42 d_code_188 rfl rfl ?_
  refine Go.if_le (pc' := 193) W42 200 d_code_190 (by decide) rfl (fun q => absurd (by decide) q) (fun _ => ?_)
  refine Go.aload (pc' := 195) W42 d_code_193 rfl rfl rfl ?_
  refine Go.aload (pc' := 197) W42 d_code_195 rfl rfl rfl ?_
  refine Go.virtual (pc' := 200) W42 (rm_app G a25 p36 p0 b0 c35 c37 d0 e0 0 _ _ (by decide) (by simp) S0 M38 A39 O40) (Or.inl (List.mem_of_getElem? (i := 0) rfl)) M38.1 (w_73 G) (w_74 G) (w_76 G) (w_75 G) (w_37 G) (w_77 G) (by decide) [0, 0] [2] (σf := [(a3, c20)]) rfl rfl [(.ref p0)] [] rfl (lenOf pd_17 rfl) rfl rfl d_code_197 rfl (by first | exact Nat.le_of_ble_eq_true rfl | (simp; done) | (simp; omega) | omega) (by first | exact Nat.le_of_ble_eq_true rfl | (simp; done) | (simp; omega) | omega) (by first | exact Nat.le_of_ble_eq_true rfl | (simp; done) | (simp; omega) | omega) (by first | exact Nat.le_of_ble_eq_true rfl | (simp; done) | (simp; omega) | omega) ?_
  rintro _ _ _ T48 ⟨c43, c44, rfl, rfl, rfl, M45, A46, O47⟩ W49
  replace W49 : Wk l Z EL1 ({ frames := 9, cells := 56, slots := 1344, locals := 208 } : Room) "com/example/maswali/maswali/RendererWrittenInPinLaw" code 15 (some .boolean) "law" X [(a25, c43), (p36, c44), (a3, c20)] [(a7, c8), (b9, c10), (p0, d0), (b0, e0), (p1, d1), (b1, e1), (p2, d2), (b2, e2)] T48 28 (119) := W49
  show Go Z EL1 _ _ _ X T48 200 #[.val (.int counts), .val (.int ka), .val (.int kb), .val (.int kc), .val (.int modes), .val (.int x), .val (.ref p0), .val (.ref p1), .val (.ref p2), .val (.int (2 : Int32)), .val (.int (1 : Int32)), .val (.ref a3), .val (.ref a25), .unset, .unset] []
  refine Go.iload (pc' := 202) W49 d_code_200 rfl rfl ?_
  refine Go.iconst (pc' := 203) W49 (1 : Int32) d_code_202 (by decide) rfl ?_
  refine Go.icmp_le (pc' := 206) W49 213 d_code_203 (by decide) rfl (fun q => absurd (by decide) q) (fun _ => ?_)
  refine Go.aload (pc' := 208) W49 d_code_206 rfl rfl rfl ?_
  refine Go.aload (pc' := 210) W49 d_code_208 rfl rfl rfl ?_
  refine Go.virtual (pc' := 213) W49 (rm_app G a25 p36 p1 b1 c43 c44 d1 e1 1 _ _ (by decide) (by simp) S1 M45 A46 O47) (Or.inl (List.mem_of_getElem? (i := 0) rfl)) M45.1 (w_73 G) (w_74 G) (w_76 G) (w_75 G) (w_37 G) (w_77 G) (by decide) [0, 0] [4] (σf := [(a3, c20)]) rfl rfl [(.ref p1)] [] rfl (lenOf pd_17 rfl) rfl rfl d_code_210 rfl (by first | exact Nat.le_of_ble_eq_true rfl | (simp; done) | (simp; omega) | omega) (by first | exact Nat.le_of_ble_eq_true rfl | (simp; done) | (simp; omega) | omega) (by first | exact Nat.le_of_ble_eq_true rfl | (simp; done) | (simp; omega) | omega) (by first | exact Nat.le_of_ble_eq_true rfl | (simp; done) | (simp; omega) | omega) ?_
  rintro _ _ _ T55 ⟨c50, c51, rfl, rfl, rfl, M52, A53, O54⟩ W56
  replace W56 : Wk l Z EL1 ({ frames := 9, cells := 56, slots := 1344, locals := 208 } : Room) "com/example/maswali/maswali/RendererWrittenInPinLaw" code 15 (some .boolean) "law" X [(a25, c50), (p36, c51), (a3, c20)] [(a7, c8), (b9, c10), (p0, d0), (b0, e0), (p1, d1), (b1, e1), (p2, d2), (b2, e2)] T55 28 (119) := W56
  show Go Z EL1 _ _ _ X T55 213 #[.val (.int counts), .val (.int ka), .val (.int kb), .val (.int kc), .val (.int modes), .val (.int x), .val (.ref p0), .val (.ref p1), .val (.ref p2), .val (.int (2 : Int32)), .val (.int (1 : Int32)), .val (.ref a3), .val (.ref a25), .unset, .unset] []
  refine Go.iload (pc' := 215) W56 d_code_213 rfl rfl ?_
  refine Go.iconst (pc' := 216) W56 (2 : Int32) d_code_215 (by decide) rfl ?_
  refine Go.icmp_le (pc' := 219) W56 226 d_code_216 (by decide) rfl (fun _ => ?_) (fun q => absurd q (by decide))
  refine Go.aload (pc' := 228) W56 d_code_226 rfl rfl rfl ?_
  refine Go.aload (pc' := 230) W56 d_code_228 rfl rfl rfl ?_
  refine Go.virtual (pc' := 233) W56 (rm_winN G a25 a3 c50 c20 2 1 _ _ rfl (by decide) M52 A21) (Or.inl (List.mem_of_getElem? (i := 0) rfl)) M52.1 (w_63 G) (w_64 G) (w_66 G) (w_65 G) (w_37 G) (w_67 G) (by decide) [0, 1] [] (σf := [(p36, c51)]) rfl rfl [(.ref a3)] [] rfl (lenOf pd_16 rfl) rfl rfl d_code_230 rfl (by first | exact Nat.le_of_ble_eq_true rfl | (simp; done) | (simp; omega) | omega) (by first | exact Nat.le_of_ble_eq_true rfl | (simp; done) | (simp; omega) | omega) (by first | exact Nat.le_of_ble_eq_true rfl | (simp; done) | (simp; omega) | omega) (by first | exact Nat.le_of_ble_eq_true rfl | (simp; done) | (simp; omega) | omega) ?_
  rintro _ _ _ T57 ⟨rfl, rfl, rfl⟩ W58
  replace W58 : Wk l Z EL1 ({ frames := 9, cells := 56, slots := 1344, locals := 208 } : Room) "com/example/maswali/maswali/RendererWrittenInPinLaw" code 15 (some .boolean) "law" X [(a25, c50), (a3, c20), (p36, c51)] [(a7, c8), (b9, c10), (p0, d0), (b0, e0), (p1, d1), (b1, e1), (p2, d2), (b2, e2)] T57 28 (119) := W58
  show Go Z EL1 _ _ _ X T57 233 #[.val (.int counts), .val (.int ka), .val (.int kb), .val (.int kc), .val (.int modes), .val (.int x), .val (.ref p0), .val (.ref p1), .val (.ref p2), .val (.int (2 : Int32)), .val (.int (1 : Int32)), .val (.ref a3), .val (.ref a25), .unset, .unset] [(.int (0 : Int32))]
  refine Go.istore (pc' := 235) W58 #[.val (.int counts), .val (.int ka), .val (.int kb), .val (.int kc), .val (.int modes), .val (.int x), .val (.ref p0), .val (.ref p1), .val (.ref p2), .val (.int (2 : Int32)), .val (.int (1 : Int32)), .val (.ref a3), .val (.ref a25), .val (.int (0 : Int32)), .unset] d_code_233 rfl rfl ?_
  refine Go.iload (pc' := 237) W58 d_code_235 rfl rfl ?_
  refine Go.iload (pc' := 239) W58 d_code_237 rfl rfl ?_
  refine Go.icmp_ne (pc' := 242) W58 300 d_code_239 (by decide) rfl (fun _ => ?_) (fun q => absurd q (by decide))
  refine Go.iconst (pc' := 301) W58 (0 : Int32) d_code_300 (by decide) rfl ?_
  refine Go.istore (pc' := 303) W58 #[.val (.int counts), .val (.int ka), .val (.int kb), .val (.int kc), .val (.int modes), .val (.int x), .val (.ref p0), .val (.ref p1), .val (.ref p2), .val (.int (2 : Int32)), .val (.int (1 : Int32)), .val (.ref a3), .val (.ref a25), .val (.int (0 : Int32)), .val (.int (0 : Int32))] d_code_301 rfl rfl ?_
  refine Go.iload (pc' := 305) W58 d_code_303 rfl rfl ?_
  refine Go.iload (pc' := 307) W58 d_code_305 rfl rfl ?_
  refine Go.icmp_ne (pc' := 310) W58 314 d_code_307 (by decide) rfl (fun q => absurd (by decide) q) (fun _ => ?_)
  refine Go.iconst (pc' := 311) W58 (1 : Int32) d_code_310 (by decide) rfl ?_
  refine Go.goto W58 315 d_code_311 (by decide) ?_
  refine Go.nret (z' := (1 : Int32)) W58 (by simp) (by decide) d_code_315 (by first | exact Nat.le_of_ble_eq_true rfl | (simp; done) | (simp; omega) | omega) (by first | exact Nat.le_of_ble_eq_true rfl | (simp; done) | (simp; omega) | omega) ?_
  rfl
theorem d_code_101 : decode code 101 = .ok (.aload 7, 2) := by decide +kernel
theorem d_code_103 : decode code 103 = .ok (.iload_n 2, 1) := by decide +kernel
theorem d_code_104 : decode code 104 = .ok (.iload 4, 2) := by decide +kernel
theorem d_code_106 : decode code 106 = .ok (.iconst 2, 1) := by decide +kernel
theorem d_code_107 : decode code 107 = .ok (.iushr, 1) := by decide +kernel
theorem d_code_108 : decode code 108 = .ok (.iconst 3, 1) := by decide +kernel
theorem d_code_109 : decode code 109 = .ok (.iand, 1) := by decide +kernel
theorem d_code_110 : decode code 110 = .ok (.iload 5, 2) := by decide +kernel
theorem d_code_112 : decode code 112 = .ok (.iconst 3, 1) := by decide +kernel
theorem d_code_113 : decode code 113 = .ok (.iushr, 1) := by decide +kernel
theorem d_code_114 : decode code 114 = .ok (.aload 8, 2) := by decide +kernel
theorem d_code_116 : decode code 116 = .ok (.invokestatic 18, 3) := by decide +kernel
theorem d_code_119 : decode code 119 = .ok (.goto 10, 3) := by decide +kernel
theorem d_code_266 : decode code 266 = .ok (.aload 7, 2) := by decide +kernel
theorem d_code_268 : decode code 268 = .ok (.aload 11, 2) := by decide +kernel
theorem d_code_270 : decode code 270 = .ok (.iconst 1, 1) := by decide +kernel
theorem d_code_271 : decode code 271 = .ok (.aaload, 1) := by decide +kernel
theorem d_code_272 : decode code 272 = .ok (.invokevirtual 41, 3) := by decide +kernel
theorem d_code_275 : decode code 275 = .ok (.ifCond .eq 25, 3) := by decide +kernel
set_option maxRecDepth 65536 in
set_option maxHeartbeats 40000000 in
theorem rm_t22 {l : Launch} {Z : State} {a0 : Array Value} (G : Cl Z a0) (counts ka kb kc modes x : Int32) (nv : Value) (hnv : nv.isRef = true) (Sn : Sta Z Z.heap "com/example/maswali/maswali/BindValues" "NONE" "[Ljava/lang/Object;" nv) (da : Addr) (Sd : Sta Z Z.heap "com/example/maswali/maswali/Dialect" "POSTGRES" "Lcom/example/maswali/maswali/Dialect;" (.ref da)) (p0 b0 p1 b1 p2 b2 : Addr) (d0 e0 d1 e1 d2 e2 : Cell) (S0 : StrL Z d0 b0 e0 (strF ka)) (S1 : StrL Z d1 b1 e1 (strF kb)) (S2 : StrL Z d2 b2 e2 (strF kc)) {X : Ctx} {T0 : State} (W0 : Wk l Z EL1 ({ frames := 9, cells := 56, slots := 1344, locals := 208 } : Room) "com/example/maswali/maswali/RendererWrittenInPinLaw" code 15 (some .boolean) "law" X [] [(p0, d0), (b0, e0), (p1, d1), (b1, e1), (p2, d2), (b2, e2)] T0 18 (36)) :
    Go Z EL1 56 1344 (fun v _ _ => v = some (.int 1)) X T0 43 #[.val (.int counts), .val (.int ka), .val (.int kb), .val (.int kc), .val (.int modes), .val (.int x), .val (.ref p0), .val (.ref p1), .val (.ref p2), .val (.int (2 : Int32)), .val (.int (2 : Int32)), .unset, .unset, .unset, .unset] [] := by
  refine Go.iload (pc' := 45) W0 d_code_43 rfl rfl ?_
  refine Go.anewarr (pc' := 48) W0 2 (w_4 G) (w_34 G) d_code_45 rfl (by decide) (by decide) (by decide) (by first | exact Nat.le_of_ble_eq_true rfl | (simp; done) | (simp; omega) | omega) (by first | exact Nat.le_of_ble_eq_true rfl | (simp; done) | (simp; omega) | omega) (fun T1 a3 c4 W2 A5 O6 => ?_)
  replace W2 : Wk l Z EL1 ({ frames := 9, cells := 56, slots := 1344, locals := 208 } : Room) "com/example/maswali/maswali/RendererWrittenInPinLaw" code 15 (some .boolean) "law" X [(a3, c4)] [(p0, d0), (b0, e0), (p1, d1), (b1, e1), (p2, d2), (b2, e2)] T1 19 (38) := W2
  refine Go.astore (pc' := 50) W2 #[.val (.int counts), .val (.int ka), .val (.int kb), .val (.int kc), .val (.int modes), .val (.int x), .val (.ref p0), .val (.ref p1), .val (.ref p2), .val (.int (2 : Int32)), .val (.int (2 : Int32)), .val (.ref a3), .unset, .unset, .unset] d_code_48 rfl rfl rfl ?_
  refine Go.iload (pc' := 52) W2 d_code_50 rfl rfl ?_
  refine Go.if_le (pc' := 55) W2 86 d_code_52 (by decide) rfl (fun q => absurd (by decide) q) (fun _ => ?_)
  refine Go.aload (pc' := 57) W2 d_code_55 rfl rfl rfl ?_
  refine Go.iconst (pc' := 58) W2 (0 : Int32) d_code_57 (by decide) rfl ?_
  refine Go.iload (pc' := 60) W2 d_code_58 rfl rfl ?_
  refine Go.if_le (pc' := 63) W2 80 d_code_60 (by decide) rfl (fun q => absurd (by decide) q) (fun _ => ?_)
  refine Go.aload (pc' := 65) W2 d_code_63 rfl rfl rfl ?_
  refine Go.iloadN (pc' := 66) W2 d_code_65 rfl rfl ?_
  refine Go.iload (pc' := 68) W2 d_code_66 rfl rfl ?_
  refine Go.iconst (pc' := 69) W2 (3 : Int32) d_code_68 (by decide) rfl ?_
  refine Go.iand (pc' := 70) W2 d_code_69 rfl ?_
  refine Go.iload (pc' := 72) W2 d_code_70 rfl rfl ?_
  refine Go.aload (pc' := 74) W2 d_code_72 rfl rfl rfl ?_
  refine Go.static (pc' := 77) W2 (rm_oth G p0 b0 p1 b1 d0 e0 d1 e1 _ _ ka (modes &&& (3 : Int32)) x S0 S1) (w_70 G) (w_71 G) (w_2 G) (w_72 G) (by decide) [] [0, 1, 2, 3] (σf := [(a3, c4)]) rfl rfl [(.ref p0), (.int ka), (.int (modes &&& (3 : Int32))), (.int x), (.ref p1)] [(.int (0 : Int32)), (.ref a3)] rfl (lenOf pd_18 rfl) rfl rfl d_code_74 rfl (by first | exact Nat.le_of_ble_eq_true rfl | (simp; done) | (simp; omega) | omega) (by first | exact Nat.le_of_ble_eq_true rfl | (simp; done) | (simp; omega) | omega) (by first | exact Nat.le_of_ble_eq_true rfl | (simp; done) | (simp; omega) | omega) (by first | exact Nat.le_of_ble_eq_true rfl | (simp; done) | (simp; omega) | omega) ?_
  rintro _ _ _ T12 ⟨a7, c8, b9, c10, rfl, rfl, rfl, S11⟩ W13
  replace W13 : Wk l Z EL1 ({ frames := 9, cells := 56, slots := 1344, locals := 208 } : Room) "com/example/maswali/maswali/RendererWrittenInPinLaw" code 15 (some .boolean) "law" X [(a3, c4)] [(a7, c8), (b9, c10), (p0, d0), (b0, e0), (p1, d1), (b1, e1), (p2, d2), (b2, e2)] T12 25 (50) := W13
  show Go Z EL1 _ _ _ X T12 77 #[.val (.int counts), .val (.int ka), .val (.int kb), .val (.int kc), .val (.int modes), .val (.int x), .val (.ref p0), .val (.ref p1), .val (.ref p2), .val (.int (2 : Int32)), .val (.int (2 : Int32)), .val (.ref a3), .unset, .unset, .unset] [(.ref a7), (.int (0 : Int32)), (.ref a3)]
  refine Go.goto W13 85 d_code_77 (by decide) ?_
  refine Go.aastoreObj (pc' := 86) W13 0 rfl A5 O6 (Or.inr (Or.inl (List.mem_of_getElem? (i := 0) rfl))) S11.1 0 (by decide) (by decide) (by simp) d_code_85 rfl (fun T18 c20 W19 A21 O22 => ?_)
  replace W19 : Wk l Z EL1 ({ frames := 9, cells := 56, slots := 1344, locals := 208 } : Room) "com/example/maswali/maswali/RendererWrittenInPinLaw" code 15 (some .boolean) "law" X [(a3, c20)] [(a7, c8), (b9, c10), (p0, d0), (b0, e0), (p1, d1), (b1, e1), (p2, d2), (b2, e2)] T18 25 (50) := W19
  replace A21 : ArrC Z c20 (.object "java/lang/String") [(.ref a7), (.null)] := A21
  refine Go.iload (pc' := 88) W19 d_code_86 rfl rfl ?_
  refine Go.iconst (pc' := 89) W19 (1 : Int32) d_code_88 (by decide) rfl ?_
  refine Go.icmp_le (pc' := 92) W19 130 d_code_89 (by decide) rfl (fun q => absurd (by decide) q) (fun _ => ?_)
  refine Go.aload (pc' := 94) W19 d_code_92 rfl rfl rfl ?_
  refine Go.iconst (pc' := 95) W19 (1 : Int32) d_code_94 (by decide) rfl ?_
  refine Go.iload (pc' := 97) W19 d_code_95 rfl rfl ?_
  refine Go.iconst (pc' := 98) W19 (1 : Int32) d_code_97 (by decide) rfl ?_
  refine Go.icmp_le (pc' := 101) W19 122 d_code_98 (by decide) rfl (fun q => absurd (by decide) q) (fun _ => ?_)
  refine Go.aload (pc' := 103) W19 d_code_101 rfl rfl rfl ?_
  refine Go.iloadN (pc' := 104) W19 d_code_103 rfl rfl ?_
  refine Go.iload (pc' := 106) W19 d_code_104 rfl rfl ?_
  refine Go.iconst (pc' := 107) W19 (2 : Int32) d_code_106 (by decide) rfl ?_
  refine Go.iushr (pc' := 108) W19 d_code_107 rfl ?_
  refine Go.iconst (pc' := 109) W19 (3 : Int32) d_code_108 (by decide) rfl ?_
  refine Go.iand (pc' := 110) W19 d_code_109 rfl ?_
  refine Go.iload (pc' := 112) W19 d_code_110 rfl rfl ?_
  refine Go.iconst (pc' := 113) W19 (3 : Int32) d_code_112 (by decide) rfl ?_
  refine Go.iushr (pc' := 114) W19 d_code_113 rfl ?_
  refine Go.aload (pc' := 116) W19 d_code_114 rfl rfl rfl ?_
  refine Go.static (pc' := 119) W19 (rm_oth G p1 b1 p2 b2 d1 e1 d2 e2 _ _ kb (((modes.toUInt32 >>> ((2 : Int32) &&& 31).toUInt32).toInt32) &&& (3 : Int32)) ((x.toUInt32 >>> ((3 : Int32) &&& 31).toUInt32).toInt32) S1 S2) (w_70 G) (w_71 G) (w_2 G) (w_72 G) (by decide) [] [4, 5, 6, 7] (σf := [(a3, c20)]) rfl rfl [(.ref p1), (.int kb), (.int (((modes.toUInt32 >>> ((2 : Int32) &&& 31).toUInt32).toInt32) &&& (3 : Int32))), (.int ((x.toUInt32 >>> ((3 : Int32) &&& 31).toUInt32).toInt32)), (.ref p2)] [(.int (1 : Int32)), (.ref a3)] rfl (lenOf pd_18 rfl) rfl rfl d_code_116 rfl (by first | exact Nat.le_of_ble_eq_true rfl | (simp; done) | (simp; omega) | omega) (by first | exact Nat.le_of_ble_eq_true rfl | (simp; done) | (simp; omega) | omega) (by first | exact Nat.le_of_ble_eq_true rfl | (simp; done) | (simp; omega) | omega) (by first | exact Nat.le_of_ble_eq_true rfl | (simp; done) | (simp; omega) | omega) ?_
  rintro _ _ _ T28 ⟨a23, c24, b25, c26, rfl, rfl, rfl, S27⟩ W29
  replace W29 : Wk l Z EL1 ({ frames := 9, cells := 56, slots := 1344, locals := 208 } : Room) "com/example/maswali/maswali/RendererWrittenInPinLaw" code 15 (some .boolean) "law" X [(a3, c20)] [(a23, c24), (b25, c26), (a7, c8), (b9, c10), (p0, d0), (b0, e0), (p1, d1), (b1, e1), (p2, d2), (b2, e2)] T28 31 (62) := W29
  show Go Z EL1 _ _ _ X T28 119 #[.val (.int counts), .val (.int ka), .val (.int kb), .val (.int kc), .val (.int modes), .val (.int x), .val (.ref p0), .val (.ref p1), .val (.ref p2), .val (.int (2 : Int32)), .val (.int (2 : Int32)), .val (.ref a3), .unset, .unset, .unset] [(.ref a23), (.int (1 : Int32)), (.ref a3)]
  refine Go.goto W29 129 d_code_119 (by decide) ?_
  refine Go.aastoreObj (pc' := 130) W29 0 rfl A21 O22 (Or.inr (Or.inl (List.mem_of_getElem? (i := 0) rfl))) S27.1 1 (by decide) (by decide) (by simp) d_code_129 rfl (fun T34 c36 W35 A37 O38 => ?_)
  replace W35 : Wk l Z EL1 ({ frames := 9, cells := 56, slots := 1344, locals := 208 } : Room) "com/example/maswali/maswali/RendererWrittenInPinLaw" code 15 (some .boolean) "law" X [(a3, c36)] [(a23, c24), (b25, c26), (a7, c8), (b9, c10), (p0, d0), (b0, e0), (p1, d1), (b1, e1), (p2, d2), (b2, e2)] T34 31 (62) := W35
  replace A37 : ArrC Z c36 (.object "java/lang/String") [(.ref a7), (.ref a23)] := A37
  refine Go.iload (pc' := 132) W35 d_code_130 rfl rfl ?_
  refine Go.iconst (pc' := 133) W35 (2 : Int32) d_code_132 (by decide) rfl ?_
  refine Go.icmp_le (pc' := 136) W35 176 d_code_133 (by decide) rfl (fun _ => ?_) (fun q => absurd q (by decide))
  refine Go.new (pc' := 179) W35 (w_35 G) (w_36 G) (w_37 G) d_code_176 rfl (by first | exact Nat.le_of_ble_eq_true rfl | (simp; done) | (simp; omega) | omega) (by first | exact Nat.le_of_ble_eq_true rfl | (simp; done) | (simp; omega) | omega) (fun T39 a41 c42 W40 O43 D44 => ?_)
  replace W40 : Wk l Z EL1 ({ frames := 9, cells := 56, slots := 1344, locals := 208 } : Room) "com/example/maswali/maswali/RendererWrittenInPinLaw" code 15 (some .boolean) "law" X [(a41, c42), (a3, c36)] [(a23, c24), (b25, c26), (a7, c8), (b9, c10), (p0, d0), (b0, e0), (p1, d1), (b1, e1), (p2, d2), (b2, e2)] T39 32 (66) := W40
  have F45 : FldC Z c42 "com/example/maswali/maswali/Renderer" "pieces" "[Ljava/lang/String;" (.null) := D44 (Or.inl (w_47 G)) (ty := (.array (.object "java/lang/String"))) (by decide)
  have F46 : FldC Z c42 "com/example/maswali/maswali/Renderer" "bindValues" "Lcom/example/maswali/maswali/BindValues;" (.null) := D44 (Or.inr (w_60 G)) (ty := (.object "com/example/maswali/maswali/BindValues")) (by decide)
  have F47 : FldC Z c42 "com/example/maswali/maswali/Renderer" "dialect" "Lcom/example/maswali/maswali/Dialect;" (.null) := D44 (Or.inr (w_62 G)) (ty := (.object "com/example/maswali/maswali/Dialect")) (by decide)
  have F48 : FldC Z c42 "com/example/maswali/maswali/Renderer" "pieceCount" "I" (.int (0 : Int32)) := D44 (Or.inl (w_69 G)) (ty := .int) (by decide)
  refine Go.dup (pc' := 180) W40 d_code_179 rfl rfl ?_
  refine Go.getstatic (pc' := 183) W40 (w_38 G) Via.refl Sd d_code_180 rfl (fun T49 W50 => ?_)
  refine Go.special (pc' := 186) W50 (a := a41) (rm_ren G a41 c42 nv (.ref da) hnv Sn rfl O43 F45 F48 F47 F46) rfl (w_41 G) (w_42 G) (w_37 G) (w_43 G) (by decide) [0] [] (σf := [(a3, c36)]) rfl rfl [(.ref da)] [(.ref a41)] rfl (lenOf pd_15 rfl) rfl rfl d_code_183 rfl (by first | exact Nat.le_of_ble_eq_true rfl | (simp; done) | (simp; omega) | omega) (by first | exact Nat.le_of_ble_eq_true rfl | (simp; done) | (simp; omega) | omega) (by first | exact Nat.le_of_ble_eq_true rfl | (simp; done) | (simp; omega) | omega) (by first | exact Nat.le_of_ble_eq_true rfl | (simp; done) | (simp; omega) | omega) ?_
  rintro _ _ _ T57 ⟨c51, p52, c53, rfl, rfl, rfl, M54, A55, O56⟩ W58
  replace W58 : Wk l Z EL1 ({ frames := 9, cells := 56, slots := 1344, locals := 208 } : Room) "com/example/maswali/maswali/RendererWrittenInPinLaw" code 15 (some .boolean) "law" X [(a41, c51), (p52, c53), (a3, c36)] [(a23, c24), (b25, c26), (a7, c8), (b9, c10), (p0, d0), (b0, e0), (p1, d1), (b1, e1), (p2, d2), (b2, e2)] T57 34 (132) := W58
  show Go Z EL1 _ _ _ X T57 186 #[.val (.int counts), .val (.int ka), .val (.int kb), .val (.int kc), .val (.int modes), .val (.int x), .val (.ref p0), .val (.ref p1), .val (.ref p2), .val (.int (2 : Int32)), .val (.int (2 : Int32)), .val (.ref a3), .unset, .unset, .unset] [(.ref a41)]
  refine Go.astore (pc' := 188) W58 #[.val (.int counts), .val (.int ka), .val (.int kb), .val (.int kc), .val (.int modes), .val (.int x), .val (.ref p0), .val (.ref p1), .val (.ref p2), .val (.int (2 : Int32)), .val (.int (2 : Int32)), .val (.ref a3), .val (.ref a41), .unset, .unset] d_code_186 rfl rfl rfl ?_
  refine Go.iload (pc' := 190) W58 d_code_188 rfl rfl ?_
  refine Go.if_le (pc' := 193) W58 200 d_code_190 (by decide) rfl (fun q => absurd (by decide) q) (fun _ => ?_)
  refine Go.aload (pc' := 195) W58 d_code_193 rfl rfl rfl ?_
  refine Go.aload (pc' := 197) W58 d_code_195 rfl rfl rfl ?_
  refine Go.virtual (pc' := 200) W58 (rm_app G a41 p52 p0 b0 c51 c53 d0 e0 0 _ _ (by decide) (by simp) S0 M54 A55 O56) (Or.inl (List.mem_of_getElem? (i := 0) rfl)) M54.1 (w_73 G) (w_74 G) (w_76 G) (w_75 G) (w_37 G) (w_77 G) (by decide) [0, 0] [4] (σf := [(a3, c36)]) rfl rfl [(.ref p0)] [] rfl (lenOf pd_17 rfl) rfl rfl d_code_197 rfl (by first | exact Nat.le_of_ble_eq_true rfl | (simp; done) | (simp; omega) | omega) (by first | exact Nat.le_of_ble_eq_true rfl | (simp; done) | (simp; omega) | omega) (by first | exact Nat.le_of_ble_eq_true rfl | (simp; done) | (simp; omega) | omega) (by first | exact Nat.le_of_ble_eq_true rfl | (simp; done) | (simp; omega) | omega) ?_
  rintro _ _ _ T64 ⟨c59, c60, rfl, rfl, rfl, M61, A62, O63⟩ W65
  replace W65 : Wk l Z EL1 ({ frames := 9, cells := 56, slots := 1344, locals := 208 } : Room) "com/example/maswali/maswali/RendererWrittenInPinLaw" code 15 (some .boolean) "law" X [(a41, c59), (p52, c60), (a3, c36)] [(a23, c24), (b25, c26), (a7, c8), (b9, c10), (p0, d0), (b0, e0), (p1, d1), (b1, e1), (p2, d2), (b2, e2)] T64 34 (132) := W65
  show Go Z EL1 _ _ _ X T64 200 #[.val (.int counts), .val (.int ka), .val (.int kb), .val (.int kc), .val (.int modes), .val (.int x), .val (.ref p0), .val (.ref p1), .val (.ref p2), .val (.int (2 : Int32)), .val (.int (2 : Int32)), .val (.ref a3), .val (.ref a41), .unset, .unset] []
  refine Go.iload (pc' := 202) W65 d_code_200 rfl rfl ?_
  refine Go.iconst (pc' := 203) W65 (1 : Int32) d_code_202 (by decide) rfl ?_
  refine Go.icmp_le (pc' := 206) W65 213 d_code_203 (by decide) rfl (fun q => absurd (by decide) q) (fun _ => ?_)
  refine Go.aload (pc' := 208) W65 d_code_206 rfl rfl rfl ?_
  refine Go.aload (pc' := 210) W65 d_code_208 rfl rfl rfl ?_
  refine Go.virtual (pc' := 213) W65 (rm_app G a41 p52 p1 b1 c59 c60 d1 e1 1 _ _ (by decide) (by simp) S1 M61 A62 O63) (Or.inl (List.mem_of_getElem? (i := 0) rfl)) M61.1 (w_73 G) (w_74 G) (w_76 G) (w_75 G) (w_37 G) (w_77 G) (by decide) [0, 0] [6] (σf := [(a3, c36)]) rfl rfl [(.ref p1)] [] rfl (lenOf pd_17 rfl) rfl rfl d_code_210 rfl (by first | exact Nat.le_of_ble_eq_true rfl | (simp; done) | (simp; omega) | omega) (by first | exact Nat.le_of_ble_eq_true rfl | (simp; done) | (simp; omega) | omega) (by first | exact Nat.le_of_ble_eq_true rfl | (simp; done) | (simp; omega) | omega) (by first | exact Nat.le_of_ble_eq_true rfl | (simp; done) | (simp; omega) | omega) ?_
  rintro _ _ _ T71 ⟨c66, c67, rfl, rfl, rfl, M68, A69, O70⟩ W72
  replace W72 : Wk l Z EL1 ({ frames := 9, cells := 56, slots := 1344, locals := 208 } : Room) "com/example/maswali/maswali/RendererWrittenInPinLaw" code 15 (some .boolean) "law" X [(a41, c66), (p52, c67), (a3, c36)] [(a23, c24), (b25, c26), (a7, c8), (b9, c10), (p0, d0), (b0, e0), (p1, d1), (b1, e1), (p2, d2), (b2, e2)] T71 34 (132) := W72
  show Go Z EL1 _ _ _ X T71 213 #[.val (.int counts), .val (.int ka), .val (.int kb), .val (.int kc), .val (.int modes), .val (.int x), .val (.ref p0), .val (.ref p1), .val (.ref p2), .val (.int (2 : Int32)), .val (.int (2 : Int32)), .val (.ref a3), .val (.ref a41), .unset, .unset] []
  refine Go.iload (pc' := 215) W72 d_code_213 rfl rfl ?_
  refine Go.iconst (pc' := 216) W72 (2 : Int32) d_code_215 (by decide) rfl ?_
  refine Go.icmp_le (pc' := 219) W72 226 d_code_216 (by decide) rfl (fun _ => ?_) (fun q => absurd q (by decide))
  refine Go.aload (pc' := 228) W72 d_code_226 rfl rfl rfl ?_
  refine Go.aload (pc' := 230) W72 d_code_228 rfl rfl rfl ?_
  refine Go.virtual (pc' := 233) W72 (rm_win2 G a41 p52 a3 c66 c67 c36 _ p0 b0 a7 b9 d0 e0 c8 c10 _ _ S0 S11 (by simp) p1 b1 a23 b25 d1 e1 c24 c26 _ _ S1 S27 (by simp) M68 A69 A37) (Or.inl (List.mem_of_getElem? (i := 0) rfl)) M68.1 (w_63 G) (w_64 G) (w_66 G) (w_65 G) (w_37 G) (w_67 G) (by decide) [0, 0, 0] [4, 5, 2, 3, 6, 7, 0, 1] (σf := []) rfl rfl [(.ref a3)] [] rfl (lenOf pd_16 rfl) rfl rfl d_code_230 rfl (by first | exact Nat.le_of_ble_eq_true rfl | (simp; done) | (simp; omega) | omega) (by first | exact Nat.le_of_ble_eq_true rfl | (simp; done) | (simp; omega) | omega) (by first | exact Nat.le_of_ble_eq_true rfl | (simp; done) | (simp; omega) | omega) (by first | exact Nat.le_of_ble_eq_true rfl | (simp; done) | (simp; omega) | omega) ?_
  rintro _ _ _ T73 ⟨rfl, rfl, rfl⟩ W74
  replace W74 : Wk l Z EL1 ({ frames := 9, cells := 56, slots := 1344, locals := 208 } : Room) "com/example/maswali/maswali/RendererWrittenInPinLaw" code 15 (some .boolean) "law" X [(a41, c66), (p52, c67), (a3, c36)] [(a23, c24), (b25, c26), (a7, c8), (b9, c10), (p0, d0), (b0, e0), (p1, d1), (b1, e1), (p2, d2), (b2, e2)] T73 34 (132) := W74
  show Go Z EL1 _ _ _ X T73 233 #[.val (.int counts), .val (.int ka), .val (.int kb), .val (.int kc), .val (.int modes), .val (.int x), .val (.ref p0), .val (.ref p1), .val (.ref p2), .val (.int (2 : Int32)), .val (.int (2 : Int32)), .val (.ref a3), .val (.ref a41), .unset, .unset] [(.int (if (strF ka) = (othF (strF ka) ka (modes &&& (3 : Int32)) x (strF kb)) ∧ (strF kb) = (othF (strF kb) kb (((modes.toUInt32 >>> ((2 : Int32) &&& 31).toUInt32).toInt32) &&& (3 : Int32)) ((x.toUInt32 >>> ((3 : Int32) &&& 31).toUInt32).toInt32) (strF kc)) then 1 else 0))]
  refine Go.istore (pc' := 235) W74 #[.val (.int counts), .val (.int ka), .val (.int kb), .val (.int kc), .val (.int modes), .val (.int x), .val (.ref p0), .val (.ref p1), .val (.ref p2), .val (.int (2 : Int32)), .val (.int (2 : Int32)), .val (.ref a3), .val (.ref a41), .val (.int (if (strF ka) = (othF (strF ka) ka (modes &&& (3 : Int32)) x (strF kb)) ∧ (strF kb) = (othF (strF kb) kb (((modes.toUInt32 >>> ((2 : Int32) &&& 31).toUInt32).toInt32) &&& (3 : Int32)) ((x.toUInt32 >>> ((3 : Int32) &&& 31).toUInt32).toInt32) (strF kc)) then 1 else 0)), .unset] d_code_233 rfl rfl ?_
  refine Go.iload (pc' := 237) W74 d_code_235 rfl rfl ?_
  refine Go.iload (pc' := 239) W74 d_code_237 rfl rfl ?_
  refine Go.icmp_ne (pc' := 242) W74 300 d_code_239 (by decide) rfl (fun q => absurd (by decide) q) (fun _ => ?_)
  refine Go.iload (pc' := 244) W74 d_code_242 rfl rfl ?_
  refine Go.iconst (pc' := 245) W74 (1 : Int32) d_code_244 (by decide) rfl ?_
  refine Go.icmp_lt (pc' := 248) W74 260 d_code_245 (by decide) rfl (fun q => absurd q (by decide)) (fun _ => ?_)
  refine Go.aload (pc' := 250) W74 d_code_248 rfl rfl rfl ?_
  refine Go.aload (pc' := 252) W74 d_code_250 rfl rfl rfl ?_
  refine Go.iconst (pc' := 253) W74 (0 : Int32) d_code_252 (by decide) rfl ?_
  refine Go.aaload (pc' := 254) W74 (Or.inl (List.mem_of_getElem? (i := 2) rfl)) A37 rfl 0 (by decide) (by decide) rfl d_code_253 rfl ?_
  refine Go.virtual (pc' := 257) W74 (rm_eqs G p0 a7 b0 b9 d0 c8 e0 c10 _ _ S0 S11) (Or.inr (Or.inl (List.mem_of_getElem? (i := 4) rfl))) S0.1 (w_91 G) (w_82 G) (w_84 G) (w_83 G) (w_6 G) (w_85 G) (by decide) [] [4, 5, 2, 3] (σf := [(a41, c66), (p52, c67), (a3, c36)]) rfl rfl [(.ref a7)] [] rfl (lenOf pd_14 rfl) rfl rfl d_code_254 rfl (by first | exact Nat.le_of_ble_eq_true rfl | (simp; done) | (simp; omega) | omega) (by first | exact Nat.le_of_ble_eq_true rfl | (simp; done) | (simp; omega) | omega) (by first | exact Nat.le_of_ble_eq_true rfl | (simp; done) | (simp; omega) | omega) (by first | exact Nat.le_of_ble_eq_true rfl | (simp; done) | (simp; omega) | omega) ?_
  rintro _ _ _ T75 ⟨rfl, rfl, rfl⟩ W76
  replace W76 : Wk l Z EL1 ({ frames := 9, cells := 56, slots := 1344, locals := 208 } : Room) "com/example/maswali/maswali/RendererWrittenInPinLaw" code 15 (some .boolean) "law" X [(a41, c66), (p52, c67), (a3, c36)] [(a23, c24), (b25, c26), (a7, c8), (b9, c10), (p0, d0), (b0, e0), (p1, d1), (b1, e1), (p2, d2), (b2, e2)] T75 34 (132) := W76
  show Go Z EL1 _ _ _ X T75 257 #[.val (.int counts), .val (.int ka), .val (.int kb), .val (.int kc), .val (.int modes), .val (.int x), .val (.ref p0), .val (.ref p1), .val (.ref p2), .val (.int (2 : Int32)), .val (.int (2 : Int32)), .val (.ref a3), .val (.ref a41), .val (.int (if (strF ka) = (othF (strF ka) ka (modes &&& (3 : Int32)) x (strF kb)) ∧ (strF kb) = (othF (strF kb) kb (((modes.toUInt32 >>> ((2 : Int32) &&& 31).toUInt32).toInt32) &&& (3 : Int32)) ((x.toUInt32 >>> ((3 : Int32) &&& 31).toUInt32).toInt32) (strF kc)) then 1 else 0)), .unset] [(.int (if strF ka = othF (strF ka) ka (modes &&& (3 : Int32)) x (strF kb) then 1 else 0))]
  refine Go.if_eq (pc' := 260) W76 300 d_code_257 (by decide) rfl (fun (c77 : (if strF ka = othF (strF ka) ka (modes &&& (3 : Int32)) x (strF kb) then 1 else 0) = 0) => ?_) (fun (c77 : ¬ ((if strF ka = othF (strF ka) ka (modes &&& (3 : Int32)) x (strF kb) then 1 else 0) = 0)) => ?_)
  · refine Go.iconst (pc' := 301) W76 (0 : Int32) d_code_300 (by decide) rfl ?_
    refine Go.istore (pc' := 303) W76 #[.val (.int counts), .val (.int ka), .val (.int kb), .val (.int kc), .val (.int modes), .val (.int x), .val (.ref p0), .val (.ref p1), .val (.ref p2), .val (.int (2 : Int32)), .val (.int (2 : Int32)), .val (.ref a3), .val (.ref a41), .val (.int (if (strF ka) = (othF (strF ka) ka (modes &&& (3 : Int32)) x (strF kb)) ∧ (strF kb) = (othF (strF kb) kb (((modes.toUInt32 >>> ((2 : Int32) &&& 31).toUInt32).toInt32) &&& (3 : Int32)) ((x.toUInt32 >>> ((3 : Int32) &&& 31).toUInt32).toInt32) (strF kc)) then 1 else 0)), .val (.int (0 : Int32))] d_code_301 rfl rfl ?_
    refine Go.iload (pc' := 305) W76 d_code_303 rfl rfl ?_
    refine Go.iload (pc' := 307) W76 d_code_305 rfl rfl ?_
    refine Go.icmp_ne (pc' := 310) W76 314 d_code_307 (by decide) rfl (fun (c78 : ¬ ((if (strF ka) = (othF (strF ka) ka (modes &&& (3 : Int32)) x (strF kb)) ∧ (strF kb) = (othF (strF kb) kb (((modes.toUInt32 >>> ((2 : Int32) &&& 31).toUInt32).toInt32) &&& (3 : Int32)) ((x.toUInt32 >>> ((3 : Int32) &&& 31).toUInt32).toInt32) (strF kc)) then 1 else 0) = (0 : Int32))) => ?_) (fun (c78 : (if (strF ka) = (othF (strF ka) ka (modes &&& (3 : Int32)) x (strF kb)) ∧ (strF kb) = (othF (strF kb) kb (((modes.toUInt32 >>> ((2 : Int32) &&& 31).toUInt32).toInt32) &&& (3 : Int32)) ((x.toUInt32 >>> ((3 : Int32) &&& 31).toUInt32).toInt32) (strF kc)) then 1 else 0) = (0 : Int32)) => ?_)
    · refine Go.iconst (pc' := 315) W76 (0 : Int32) d_code_314 (by decide) rfl ?_
      refine Go.nret (z' := (0 : Int32)) W76 (by simp) (by decide) d_code_315 (by first | exact Nat.le_of_ble_eq_true rfl | (simp; done) | (simp; omega) | omega) (by first | exact Nat.le_of_ble_eq_true rfl | (simp; done) | (simp; omega) | omega) ?_
      exfalso
      simp only [ite10_z, ite10_o, Classical.not_not] at c77 c78
      first | exact c78 c77 | exact c77 c78.1
    · refine Go.iconst (pc' := 311) W76 (1 : Int32) d_code_310 (by decide) rfl ?_
      refine Go.goto W76 315 d_code_311 (by decide) ?_
      refine Go.nret (z' := (1 : Int32)) W76 (by simp) (by decide) d_code_315 (by first | exact Nat.le_of_ble_eq_true rfl | (simp; done) | (simp; omega) | omega) (by first | exact Nat.le_of_ble_eq_true rfl | (simp; done) | (simp; omega) | omega) ?_
      rfl
  · refine Go.iload (pc' := 262) W76 d_code_260 rfl rfl ?_
    refine Go.iconst (pc' := 263) W76 (2 : Int32) d_code_262 (by decide) rfl ?_
    refine Go.icmp_lt (pc' := 266) W76 278 d_code_263 (by decide) rfl (fun q => absurd q (by decide)) (fun _ => ?_)
    refine Go.aload (pc' := 268) W76 d_code_266 rfl rfl rfl ?_
    refine Go.aload (pc' := 270) W76 d_code_268 rfl rfl rfl ?_
    refine Go.iconst (pc' := 271) W76 (1 : Int32) d_code_270 (by decide) rfl ?_
    refine Go.aaload (pc' := 272) W76 (Or.inl (List.mem_of_getElem? (i := 2) rfl)) A37 rfl 1 (by decide) (by decide) rfl d_code_271 rfl ?_
    refine Go.virtual (pc' := 275) W76 (rm_eqs G p1 a23 b1 b25 d1 c24 e1 c26 _ _ S1 S27) (Or.inr (Or.inl (List.mem_of_getElem? (i := 6) rfl))) S1.1 (w_91 G) (w_82 G) (w_84 G) (w_83 G) (w_6 G) (w_85 G) (by decide) [] [6, 7, 0, 1] (σf := [(a41, c66), (p52, c67), (a3, c36)]) rfl rfl [(.ref a23)] [] rfl (lenOf pd_14 rfl) rfl rfl d_code_272 rfl (by first | exact Nat.le_of_ble_eq_true rfl | (simp; done) | (simp; omega) | omega) (by first | exact Nat.le_of_ble_eq_true rfl | (simp; done) | (simp; omega) | omega) (by first | exact Nat.le_of_ble_eq_true rfl | (simp; done) | (simp; omega) | omega) (by first | exact Nat.le_of_ble_eq_true rfl | (simp; done) | (simp; omega) | omega) ?_
    rintro _ _ _ T79 ⟨rfl, rfl, rfl⟩ W80
    replace W80 : Wk l Z EL1 ({ frames := 9, cells := 56, slots := 1344, locals := 208 } : Room) "com/example/maswali/maswali/RendererWrittenInPinLaw" code 15 (some .boolean) "law" X [(a41, c66), (p52, c67), (a3, c36)] [(a23, c24), (b25, c26), (a7, c8), (b9, c10), (p0, d0), (b0, e0), (p1, d1), (b1, e1), (p2, d2), (b2, e2)] T79 34 (132) := W80
    show Go Z EL1 _ _ _ X T79 275 #[.val (.int counts), .val (.int ka), .val (.int kb), .val (.int kc), .val (.int modes), .val (.int x), .val (.ref p0), .val (.ref p1), .val (.ref p2), .val (.int (2 : Int32)), .val (.int (2 : Int32)), .val (.ref a3), .val (.ref a41), .val (.int (if (strF ka) = (othF (strF ka) ka (modes &&& (3 : Int32)) x (strF kb)) ∧ (strF kb) = (othF (strF kb) kb (((modes.toUInt32 >>> ((2 : Int32) &&& 31).toUInt32).toInt32) &&& (3 : Int32)) ((x.toUInt32 >>> ((3 : Int32) &&& 31).toUInt32).toInt32) (strF kc)) then 1 else 0)), .unset] [(.int (if strF kb = othF (strF kb) kb (((modes.toUInt32 >>> ((2 : Int32) &&& 31).toUInt32).toInt32) &&& (3 : Int32)) ((x.toUInt32 >>> ((3 : Int32) &&& 31).toUInt32).toInt32) (strF kc) then 1 else 0))]
    refine Go.if_eq (pc' := 278) W80 300 d_code_275 (by decide) rfl (fun (c81 : (if strF kb = othF (strF kb) kb (((modes.toUInt32 >>> ((2 : Int32) &&& 31).toUInt32).toInt32) &&& (3 : Int32)) ((x.toUInt32 >>> ((3 : Int32) &&& 31).toUInt32).toInt32) (strF kc) then 1 else 0) = 0) => ?_) (fun (c81 : ¬ ((if strF kb = othF (strF kb) kb (((modes.toUInt32 >>> ((2 : Int32) &&& 31).toUInt32).toInt32) &&& (3 : Int32)) ((x.toUInt32 >>> ((3 : Int32) &&& 31).toUInt32).toInt32) (strF kc) then 1 else 0) = 0)) => ?_)
    · refine Go.iconst (pc' := 301) W80 (0 : Int32) d_code_300 (by decide) rfl ?_
      refine Go.istore (pc' := 303) W80 #[.val (.int counts), .val (.int ka), .val (.int kb), .val (.int kc), .val (.int modes), .val (.int x), .val (.ref p0), .val (.ref p1), .val (.ref p2), .val (.int (2 : Int32)), .val (.int (2 : Int32)), .val (.ref a3), .val (.ref a41), .val (.int (if (strF ka) = (othF (strF ka) ka (modes &&& (3 : Int32)) x (strF kb)) ∧ (strF kb) = (othF (strF kb) kb (((modes.toUInt32 >>> ((2 : Int32) &&& 31).toUInt32).toInt32) &&& (3 : Int32)) ((x.toUInt32 >>> ((3 : Int32) &&& 31).toUInt32).toInt32) (strF kc)) then 1 else 0)), .val (.int (0 : Int32))] d_code_301 rfl rfl ?_
      refine Go.iload (pc' := 305) W80 d_code_303 rfl rfl ?_
      refine Go.iload (pc' := 307) W80 d_code_305 rfl rfl ?_
      refine Go.icmp_ne (pc' := 310) W80 314 d_code_307 (by decide) rfl (fun (c82 : ¬ ((if (strF ka) = (othF (strF ka) ka (modes &&& (3 : Int32)) x (strF kb)) ∧ (strF kb) = (othF (strF kb) kb (((modes.toUInt32 >>> ((2 : Int32) &&& 31).toUInt32).toInt32) &&& (3 : Int32)) ((x.toUInt32 >>> ((3 : Int32) &&& 31).toUInt32).toInt32) (strF kc)) then 1 else 0) = (0 : Int32))) => ?_) (fun (c82 : (if (strF ka) = (othF (strF ka) ka (modes &&& (3 : Int32)) x (strF kb)) ∧ (strF kb) = (othF (strF kb) kb (((modes.toUInt32 >>> ((2 : Int32) &&& 31).toUInt32).toInt32) &&& (3 : Int32)) ((x.toUInt32 >>> ((3 : Int32) &&& 31).toUInt32).toInt32) (strF kc)) then 1 else 0) = (0 : Int32)) => ?_)
      · refine Go.iconst (pc' := 315) W80 (0 : Int32) d_code_314 (by decide) rfl ?_
        refine Go.nret (z' := (0 : Int32)) W80 (by simp) (by decide) d_code_315 (by first | exact Nat.le_of_ble_eq_true rfl | (simp; done) | (simp; omega) | omega) (by first | exact Nat.le_of_ble_eq_true rfl | (simp; done) | (simp; omega) | omega) ?_
        exfalso
        simp only [ite10_z, ite10_o, Classical.not_not] at c77 c81 c82
        first | exact c82 ⟨c77, c81⟩ | exact c77 c82.1 | exact c81 c82.2
      · refine Go.iconst (pc' := 311) W80 (1 : Int32) d_code_310 (by decide) rfl ?_
        refine Go.goto W80 315 d_code_311 (by decide) ?_
        refine Go.nret (z' := (1 : Int32)) W80 (by simp) (by decide) d_code_315 (by first | exact Nat.le_of_ble_eq_true rfl | (simp; done) | (simp; omega) | omega) (by first | exact Nat.le_of_ble_eq_true rfl | (simp; done) | (simp; omega) | omega) ?_
        rfl
    · refine Go.iload (pc' := 280) W80 d_code_278 rfl rfl ?_
      refine Go.iconst (pc' := 281) W80 (3 : Int32) d_code_280 (by decide) rfl ?_
      refine Go.icmp_lt (pc' := 284) W80 296 d_code_281 (by decide) rfl (fun _ => ?_) (fun q => absurd (by decide) q)
      refine Go.iconst (pc' := 297) W80 (1 : Int32) d_code_296 (by decide) rfl ?_
      refine Go.goto W80 301 d_code_297 (by decide) ?_
      refine Go.istore (pc' := 303) W80 #[.val (.int counts), .val (.int ka), .val (.int kb), .val (.int kc), .val (.int modes), .val (.int x), .val (.ref p0), .val (.ref p1), .val (.ref p2), .val (.int (2 : Int32)), .val (.int (2 : Int32)), .val (.ref a3), .val (.ref a41), .val (.int (if (strF ka) = (othF (strF ka) ka (modes &&& (3 : Int32)) x (strF kb)) ∧ (strF kb) = (othF (strF kb) kb (((modes.toUInt32 >>> ((2 : Int32) &&& 31).toUInt32).toInt32) &&& (3 : Int32)) ((x.toUInt32 >>> ((3 : Int32) &&& 31).toUInt32).toInt32) (strF kc)) then 1 else 0)), .val (.int (1 : Int32))] d_code_301 rfl rfl ?_
      refine Go.iload (pc' := 305) W80 d_code_303 rfl rfl ?_
      refine Go.iload (pc' := 307) W80 d_code_305 rfl rfl ?_
      refine Go.icmp_ne (pc' := 310) W80 314 d_code_307 (by decide) rfl (fun (c83 : ¬ ((if (strF ka) = (othF (strF ka) ka (modes &&& (3 : Int32)) x (strF kb)) ∧ (strF kb) = (othF (strF kb) kb (((modes.toUInt32 >>> ((2 : Int32) &&& 31).toUInt32).toInt32) &&& (3 : Int32)) ((x.toUInt32 >>> ((3 : Int32) &&& 31).toUInt32).toInt32) (strF kc)) then 1 else 0) = (1 : Int32))) => ?_) (fun (c83 : (if (strF ka) = (othF (strF ka) ka (modes &&& (3 : Int32)) x (strF kb)) ∧ (strF kb) = (othF (strF kb) kb (((modes.toUInt32 >>> ((2 : Int32) &&& 31).toUInt32).toInt32) &&& (3 : Int32)) ((x.toUInt32 >>> ((3 : Int32) &&& 31).toUInt32).toInt32) (strF kc)) then 1 else 0) = (1 : Int32)) => ?_)
      · refine Go.iconst (pc' := 315) W80 (0 : Int32) d_code_314 (by decide) rfl ?_
        refine Go.nret (z' := (0 : Int32)) W80 (by simp) (by decide) d_code_315 (by first | exact Nat.le_of_ble_eq_true rfl | (simp; done) | (simp; omega) | omega) (by first | exact Nat.le_of_ble_eq_true rfl | (simp; done) | (simp; omega) | omega) ?_
        exfalso
        simp only [ite10_z, ite10_o, Classical.not_not] at c77 c81 c83
        first | exact c83 ⟨c77, c81⟩ | exact c77 c83.1 | exact c81 c83.2
      · refine Go.iconst (pc' := 311) W80 (1 : Int32) d_code_310 (by decide) rfl ?_
        refine Go.goto W80 315 d_code_311 (by decide) ?_
        refine Go.nret (z' := (1 : Int32)) W80 (by simp) (by decide) d_code_315 (by first | exact Nat.le_of_ble_eq_true rfl | (simp; done) | (simp; omega) | omega) (by first | exact Nat.le_of_ble_eq_true rfl | (simp; done) | (simp; omega) | omega) ?_
        rfl
set_option maxRecDepth 65536 in
set_option maxHeartbeats 40000000 in
theorem rm_t23 {l : Launch} {Z : State} {a0 : Array Value} (G : Cl Z a0) (counts ka kb kc modes x : Int32) (nv : Value) (hnv : nv.isRef = true) (Sn : Sta Z Z.heap "com/example/maswali/maswali/BindValues" "NONE" "[Ljava/lang/Object;" nv) (da : Addr) (Sd : Sta Z Z.heap "com/example/maswali/maswali/Dialect" "POSTGRES" "Lcom/example/maswali/maswali/Dialect;" (.ref da)) (p0 b0 p1 b1 p2 b2 : Addr) (d0 e0 d1 e1 d2 e2 : Cell) (S0 : StrL Z d0 b0 e0 (strF ka)) (S1 : StrL Z d1 b1 e1 (strF kb)) (S2 : StrL Z d2 b2 e2 (strF kc)) {X : Ctx} {T0 : State} (W0 : Wk l Z EL1 ({ frames := 9, cells := 56, slots := 1344, locals := 208 } : Room) "com/example/maswali/maswali/RendererWrittenInPinLaw" code 15 (some .boolean) "law" X [] [(p0, d0), (b0, e0), (p1, d1), (b1, e1), (p2, d2), (b2, e2)] T0 18 (36)) :
    Go Z EL1 56 1344 (fun v _ _ => v = some (.int 1)) X T0 43 #[.val (.int counts), .val (.int ka), .val (.int kb), .val (.int kc), .val (.int modes), .val (.int x), .val (.ref p0), .val (.ref p1), .val (.ref p2), .val (.int (2 : Int32)), .val (.int (3 : Int32)), .unset, .unset, .unset, .unset] [] := by
  refine Go.iload (pc' := 45) W0 d_code_43 rfl rfl ?_
  refine Go.anewarr (pc' := 48) W0 3 (w_4 G) (w_34 G) d_code_45 rfl (by decide) (by decide) (by decide) (by first | exact Nat.le_of_ble_eq_true rfl | (simp; done) | (simp; omega) | omega) (by first | exact Nat.le_of_ble_eq_true rfl | (simp; done) | (simp; omega) | omega) (fun T1 a3 c4 W2 A5 O6 => ?_)
  replace W2 : Wk l Z EL1 ({ frames := 9, cells := 56, slots := 1344, locals := 208 } : Room) "com/example/maswali/maswali/RendererWrittenInPinLaw" code 15 (some .boolean) "law" X [(a3, c4)] [(p0, d0), (b0, e0), (p1, d1), (b1, e1), (p2, d2), (b2, e2)] T1 19 (39) := W2
  refine Go.astore (pc' := 50) W2 #[.val (.int counts), .val (.int ka), .val (.int kb), .val (.int kc), .val (.int modes), .val (.int x), .val (.ref p0), .val (.ref p1), .val (.ref p2), .val (.int (2 : Int32)), .val (.int (3 : Int32)), .val (.ref a3), .unset, .unset, .unset] d_code_48 rfl rfl rfl ?_
  refine Go.iload (pc' := 52) W2 d_code_50 rfl rfl ?_
  refine Go.if_le (pc' := 55) W2 86 d_code_52 (by decide) rfl (fun q => absurd (by decide) q) (fun _ => ?_)
  refine Go.aload (pc' := 57) W2 d_code_55 rfl rfl rfl ?_
  refine Go.iconst (pc' := 58) W2 (0 : Int32) d_code_57 (by decide) rfl ?_
  refine Go.iload (pc' := 60) W2 d_code_58 rfl rfl ?_
  refine Go.if_le (pc' := 63) W2 80 d_code_60 (by decide) rfl (fun q => absurd (by decide) q) (fun _ => ?_)
  refine Go.aload (pc' := 65) W2 d_code_63 rfl rfl rfl ?_
  refine Go.iloadN (pc' := 66) W2 d_code_65 rfl rfl ?_
  refine Go.iload (pc' := 68) W2 d_code_66 rfl rfl ?_
  refine Go.iconst (pc' := 69) W2 (3 : Int32) d_code_68 (by decide) rfl ?_
  refine Go.iand (pc' := 70) W2 d_code_69 rfl ?_
  refine Go.iload (pc' := 72) W2 d_code_70 rfl rfl ?_
  refine Go.aload (pc' := 74) W2 d_code_72 rfl rfl rfl ?_
  refine Go.static (pc' := 77) W2 (rm_oth G p0 b0 p1 b1 d0 e0 d1 e1 _ _ ka (modes &&& (3 : Int32)) x S0 S1) (w_70 G) (w_71 G) (w_2 G) (w_72 G) (by decide) [] [0, 1, 2, 3] (σf := [(a3, c4)]) rfl rfl [(.ref p0), (.int ka), (.int (modes &&& (3 : Int32))), (.int x), (.ref p1)] [(.int (0 : Int32)), (.ref a3)] rfl (lenOf pd_18 rfl) rfl rfl d_code_74 rfl (by first | exact Nat.le_of_ble_eq_true rfl | (simp; done) | (simp; omega) | omega) (by first | exact Nat.le_of_ble_eq_true rfl | (simp; done) | (simp; omega) | omega) (by first | exact Nat.le_of_ble_eq_true rfl | (simp; done) | (simp; omega) | omega) (by first | exact Nat.le_of_ble_eq_true rfl | (simp; done) | (simp; omega) | omega) ?_
  rintro _ _ _ T12 ⟨a7, c8, b9, c10, rfl, rfl, rfl, S11⟩ W13
  replace W13 : Wk l Z EL1 ({ frames := 9, cells := 56, slots := 1344, locals := 208 } : Room) "com/example/maswali/maswali/RendererWrittenInPinLaw" code 15 (some .boolean) "law" X [(a3, c4)] [(a7, c8), (b9, c10), (p0, d0), (b0, e0), (p1, d1), (b1, e1), (p2, d2), (b2, e2)] T12 25 (51) := W13
  show Go Z EL1 _ _ _ X T12 77 #[.val (.int counts), .val (.int ka), .val (.int kb), .val (.int kc), .val (.int modes), .val (.int x), .val (.ref p0), .val (.ref p1), .val (.ref p2), .val (.int (2 : Int32)), .val (.int (3 : Int32)), .val (.ref a3), .unset, .unset, .unset] [(.ref a7), (.int (0 : Int32)), (.ref a3)]
  refine Go.goto W13 85 d_code_77 (by decide) ?_
  refine Go.aastoreObj (pc' := 86) W13 0 rfl A5 O6 (Or.inr (Or.inl (List.mem_of_getElem? (i := 0) rfl))) S11.1 0 (by decide) (by decide) (by simp) d_code_85 rfl (fun T18 c20 W19 A21 O22 => ?_)
  replace W19 : Wk l Z EL1 ({ frames := 9, cells := 56, slots := 1344, locals := 208 } : Room) "com/example/maswali/maswali/RendererWrittenInPinLaw" code 15 (some .boolean) "law" X [(a3, c20)] [(a7, c8), (b9, c10), (p0, d0), (b0, e0), (p1, d1), (b1, e1), (p2, d2), (b2, e2)] T18 25 (51) := W19
  replace A21 : ArrC Z c20 (.object "java/lang/String") [(.ref a7), (.null), (.null)] := A21
  refine Go.iload (pc' := 88) W19 d_code_86 rfl rfl ?_
  refine Go.iconst (pc' := 89) W19 (1 : Int32) d_code_88 (by decide) rfl ?_
  refine Go.icmp_le (pc' := 92) W19 130 d_code_89 (by decide) rfl (fun q => absurd (by decide) q) (fun _ => ?_)
  refine Go.aload (pc' := 94) W19 d_code_92 rfl rfl rfl ?_
  refine Go.iconst (pc' := 95) W19 (1 : Int32) d_code_94 (by decide) rfl ?_
  refine Go.iload (pc' := 97) W19 d_code_95 rfl rfl ?_
  refine Go.iconst (pc' := 98) W19 (1 : Int32) d_code_97 (by decide) rfl ?_
  refine Go.icmp_le (pc' := 101) W19 122 d_code_98 (by decide) rfl (fun q => absurd (by decide) q) (fun _ => ?_)
  refine Go.aload (pc' := 103) W19 d_code_101 rfl rfl rfl ?_
  refine Go.iloadN (pc' := 104) W19 d_code_103 rfl rfl ?_
  refine Go.iload (pc' := 106) W19 d_code_104 rfl rfl ?_
  refine Go.iconst (pc' := 107) W19 (2 : Int32) d_code_106 (by decide) rfl ?_
  refine Go.iushr (pc' := 108) W19 d_code_107 rfl ?_
  refine Go.iconst (pc' := 109) W19 (3 : Int32) d_code_108 (by decide) rfl ?_
  refine Go.iand (pc' := 110) W19 d_code_109 rfl ?_
  refine Go.iload (pc' := 112) W19 d_code_110 rfl rfl ?_
  refine Go.iconst (pc' := 113) W19 (3 : Int32) d_code_112 (by decide) rfl ?_
  refine Go.iushr (pc' := 114) W19 d_code_113 rfl ?_
  refine Go.aload (pc' := 116) W19 d_code_114 rfl rfl rfl ?_
  refine Go.static (pc' := 119) W19 (rm_oth G p1 b1 p2 b2 d1 e1 d2 e2 _ _ kb (((modes.toUInt32 >>> ((2 : Int32) &&& 31).toUInt32).toInt32) &&& (3 : Int32)) ((x.toUInt32 >>> ((3 : Int32) &&& 31).toUInt32).toInt32) S1 S2) (w_70 G) (w_71 G) (w_2 G) (w_72 G) (by decide) [] [4, 5, 6, 7] (σf := [(a3, c20)]) rfl rfl [(.ref p1), (.int kb), (.int (((modes.toUInt32 >>> ((2 : Int32) &&& 31).toUInt32).toInt32) &&& (3 : Int32))), (.int ((x.toUInt32 >>> ((3 : Int32) &&& 31).toUInt32).toInt32)), (.ref p2)] [(.int (1 : Int32)), (.ref a3)] rfl (lenOf pd_18 rfl) rfl rfl d_code_116 rfl (by first | exact Nat.le_of_ble_eq_true rfl | (simp; done) | (simp; omega) | omega) (by first | exact Nat.le_of_ble_eq_true rfl | (simp; done) | (simp; omega) | omega) (by first | exact Nat.le_of_ble_eq_true rfl | (simp; done) | (simp; omega) | omega) (by first | exact Nat.le_of_ble_eq_true rfl | (simp; done) | (simp; omega) | omega) ?_
  rintro _ _ _ T28 ⟨a23, c24, b25, c26, rfl, rfl, rfl, S27⟩ W29
  replace W29 : Wk l Z EL1 ({ frames := 9, cells := 56, slots := 1344, locals := 208 } : Room) "com/example/maswali/maswali/RendererWrittenInPinLaw" code 15 (some .boolean) "law" X [(a3, c20)] [(a23, c24), (b25, c26), (a7, c8), (b9, c10), (p0, d0), (b0, e0), (p1, d1), (b1, e1), (p2, d2), (b2, e2)] T28 31 (63) := W29
  show Go Z EL1 _ _ _ X T28 119 #[.val (.int counts), .val (.int ka), .val (.int kb), .val (.int kc), .val (.int modes), .val (.int x), .val (.ref p0), .val (.ref p1), .val (.ref p2), .val (.int (2 : Int32)), .val (.int (3 : Int32)), .val (.ref a3), .unset, .unset, .unset] [(.ref a23), (.int (1 : Int32)), (.ref a3)]
  refine Go.goto W29 129 d_code_119 (by decide) ?_
  refine Go.aastoreObj (pc' := 130) W29 0 rfl A21 O22 (Or.inr (Or.inl (List.mem_of_getElem? (i := 0) rfl))) S27.1 1 (by decide) (by decide) (by simp) d_code_129 rfl (fun T34 c36 W35 A37 O38 => ?_)
  replace W35 : Wk l Z EL1 ({ frames := 9, cells := 56, slots := 1344, locals := 208 } : Room) "com/example/maswali/maswali/RendererWrittenInPinLaw" code 15 (some .boolean) "law" X [(a3, c36)] [(a23, c24), (b25, c26), (a7, c8), (b9, c10), (p0, d0), (b0, e0), (p1, d1), (b1, e1), (p2, d2), (b2, e2)] T34 31 (63) := W35
  replace A37 : ArrC Z c36 (.object "java/lang/String") [(.ref a7), (.ref a23), (.null)] := A37
  refine Go.iload (pc' := 132) W35 d_code_130 rfl rfl ?_
  refine Go.iconst (pc' := 133) W35 (2 : Int32) d_code_132 (by decide) rfl ?_
  refine Go.icmp_le (pc' := 136) W35 176 d_code_133 (by decide) rfl (fun q => absurd (by decide) q) (fun _ => ?_)
  refine Go.aload (pc' := 138) W35 d_code_136 rfl rfl rfl ?_
  refine Go.iconst (pc' := 139) W35 (2 : Int32) d_code_138 (by decide) rfl ?_
  refine Go.iload (pc' := 141) W35 d_code_139 rfl rfl ?_
  refine Go.iconst (pc' := 142) W35 (2 : Int32) d_code_141 (by decide) rfl ?_
  refine Go.icmp_le (pc' := 145) W35 167 d_code_142 (by decide) rfl (fun _ => ?_) (fun q => absurd q (by decide))
  refine Go.iload (pc' := 169) W35 d_code_167 rfl rfl ?_
  refine Go.bipush (pc' := 171) W35 (6 : Int32) d_code_169 (by decide) rfl ?_
  refine Go.iushr (pc' := 172) W35 d_code_171 rfl ?_
  refine Go.static (pc' := 175) W35 (rm_str G ((x.toUInt32 >>> ((6 : Int32) &&& 31).toUInt32).toInt32)) (w_0 G) (w_1 G) (w_2 G) (w_3 G) (by decide) [] [] (σf := [(a3, c36)]) rfl rfl [(.int ((x.toUInt32 >>> ((6 : Int32) &&& 31).toUInt32).toInt32))] [(.int (2 : Int32)), (.ref a3)] rfl (lenOf pd_10 rfl) rfl rfl d_code_172 rfl (by first | exact Nat.le_of_ble_eq_true rfl | (simp; done) | (simp; omega) | omega) (by first | exact Nat.le_of_ble_eq_true rfl | (simp; done) | (simp; omega) | omega) (by first | exact Nat.le_of_ble_eq_true rfl | (simp; done) | (simp; omega) | omega) (by first | exact Nat.le_of_ble_eq_true rfl | (simp; done) | (simp; omega) | omega) ?_
  rintro _ _ _ T44 ⟨a39, c40, b41, c42, rfl, rfl, rfl, S43⟩ W45
  replace W45 : Wk l Z EL1 ({ frames := 9, cells := 56, slots := 1344, locals := 208 } : Room) "com/example/maswali/maswali/RendererWrittenInPinLaw" code 15 (some .boolean) "law" X [(a3, c36)] [(a39, c40), (b41, c42), (a23, c24), (b25, c26), (a7, c8), (b9, c10), (p0, d0), (b0, e0), (p1, d1), (b1, e1), (p2, d2), (b2, e2)] T44 37 (75) := W45
  show Go Z EL1 _ _ _ X T44 175 #[.val (.int counts), .val (.int ka), .val (.int kb), .val (.int kc), .val (.int modes), .val (.int x), .val (.ref p0), .val (.ref p1), .val (.ref p2), .val (.int (2 : Int32)), .val (.int (3 : Int32)), .val (.ref a3), .unset, .unset, .unset] [(.ref a39), (.int (2 : Int32)), (.ref a3)]
  refine Go.aastoreObj (pc' := 176) W45 0 rfl A37 O38 (Or.inr (Or.inl (List.mem_of_getElem? (i := 0) rfl))) S43.1 2 (by decide) (by decide) (by simp) d_code_175 rfl (fun T50 c52 W51 A53 O54 => ?_)
  replace W51 : Wk l Z EL1 ({ frames := 9, cells := 56, slots := 1344, locals := 208 } : Room) "com/example/maswali/maswali/RendererWrittenInPinLaw" code 15 (some .boolean) "law" X [(a3, c52)] [(a39, c40), (b41, c42), (a23, c24), (b25, c26), (a7, c8), (b9, c10), (p0, d0), (b0, e0), (p1, d1), (b1, e1), (p2, d2), (b2, e2)] T50 37 (75) := W51
  replace A53 : ArrC Z c52 (.object "java/lang/String") [(.ref a7), (.ref a23), (.ref a39)] := A53
  refine Go.new (pc' := 179) W51 (w_35 G) (w_36 G) (w_37 G) d_code_176 rfl (by first | exact Nat.le_of_ble_eq_true rfl | (simp; done) | (simp; omega) | omega) (by first | exact Nat.le_of_ble_eq_true rfl | (simp; done) | (simp; omega) | omega) (fun T55 a57 c58 W56 O59 D60 => ?_)
  replace W56 : Wk l Z EL1 ({ frames := 9, cells := 56, slots := 1344, locals := 208 } : Room) "com/example/maswali/maswali/RendererWrittenInPinLaw" code 15 (some .boolean) "law" X [(a57, c58), (a3, c52)] [(a39, c40), (b41, c42), (a23, c24), (b25, c26), (a7, c8), (b9, c10), (p0, d0), (b0, e0), (p1, d1), (b1, e1), (p2, d2), (b2, e2)] T55 38 (79) := W56
  have F61 : FldC Z c58 "com/example/maswali/maswali/Renderer" "pieces" "[Ljava/lang/String;" (.null) := D60 (Or.inl (w_47 G)) (ty := (.array (.object "java/lang/String"))) (by decide)
  have F62 : FldC Z c58 "com/example/maswali/maswali/Renderer" "bindValues" "Lcom/example/maswali/maswali/BindValues;" (.null) := D60 (Or.inr (w_60 G)) (ty := (.object "com/example/maswali/maswali/BindValues")) (by decide)
  have F63 : FldC Z c58 "com/example/maswali/maswali/Renderer" "dialect" "Lcom/example/maswali/maswali/Dialect;" (.null) := D60 (Or.inr (w_62 G)) (ty := (.object "com/example/maswali/maswali/Dialect")) (by decide)
  have F64 : FldC Z c58 "com/example/maswali/maswali/Renderer" "pieceCount" "I" (.int (0 : Int32)) := D60 (Or.inl (w_69 G)) (ty := .int) (by decide)
  refine Go.dup (pc' := 180) W56 d_code_179 rfl rfl ?_
  refine Go.getstatic (pc' := 183) W56 (w_38 G) Via.refl Sd d_code_180 rfl (fun T65 W66 => ?_)
  refine Go.special (pc' := 186) W66 (a := a57) (rm_ren G a57 c58 nv (.ref da) hnv Sn rfl O59 F61 F64 F63 F62) rfl (w_41 G) (w_42 G) (w_37 G) (w_43 G) (by decide) [0] [] (σf := [(a3, c52)]) rfl rfl [(.ref da)] [(.ref a57)] rfl (lenOf pd_15 rfl) rfl rfl d_code_183 rfl (by first | exact Nat.le_of_ble_eq_true rfl | (simp; done) | (simp; omega) | omega) (by first | exact Nat.le_of_ble_eq_true rfl | (simp; done) | (simp; omega) | omega) (by first | exact Nat.le_of_ble_eq_true rfl | (simp; done) | (simp; omega) | omega) (by first | exact Nat.le_of_ble_eq_true rfl | (simp; done) | (simp; omega) | omega) ?_
  rintro _ _ _ T73 ⟨c67, p68, c69, rfl, rfl, rfl, M70, A71, O72⟩ W74
  replace W74 : Wk l Z EL1 ({ frames := 9, cells := 56, slots := 1344, locals := 208 } : Room) "com/example/maswali/maswali/RendererWrittenInPinLaw" code 15 (some .boolean) "law" X [(a57, c67), (p68, c69), (a3, c52)] [(a39, c40), (b41, c42), (a23, c24), (b25, c26), (a7, c8), (b9, c10), (p0, d0), (b0, e0), (p1, d1), (b1, e1), (p2, d2), (b2, e2)] T73 40 (145) := W74
  show Go Z EL1 _ _ _ X T73 186 #[.val (.int counts), .val (.int ka), .val (.int kb), .val (.int kc), .val (.int modes), .val (.int x), .val (.ref p0), .val (.ref p1), .val (.ref p2), .val (.int (2 : Int32)), .val (.int (3 : Int32)), .val (.ref a3), .unset, .unset, .unset] [(.ref a57)]
  refine Go.astore (pc' := 188) W74 #[.val (.int counts), .val (.int ka), .val (.int kb), .val (.int kc), .val (.int modes), .val (.int x), .val (.ref p0), .val (.ref p1), .val (.ref p2), .val (.int (2 : Int32)), .val (.int (3 : Int32)), .val (.ref a3), .val (.ref a57), .unset, .unset] d_code_186 rfl rfl rfl ?_
  refine Go.iload (pc' := 190) W74 d_code_188 rfl rfl ?_
  refine Go.if_le (pc' := 193) W74 200 d_code_190 (by decide) rfl (fun q => absurd (by decide) q) (fun _ => ?_)
  refine Go.aload (pc' := 195) W74 d_code_193 rfl rfl rfl ?_
  refine Go.aload (pc' := 197) W74 d_code_195 rfl rfl rfl ?_
  refine Go.virtual (pc' := 200) W74 (rm_app G a57 p68 p0 b0 c67 c69 d0 e0 0 _ _ (by decide) (by simp) S0 M70 A71 O72) (Or.inl (List.mem_of_getElem? (i := 0) rfl)) M70.1 (w_73 G) (w_74 G) (w_76 G) (w_75 G) (w_37 G) (w_77 G) (by decide) [0, 0] [6] (σf := [(a3, c52)]) rfl rfl [(.ref p0)] [] rfl (lenOf pd_17 rfl) rfl rfl d_code_197 rfl (by first | exact Nat.le_of_ble_eq_true rfl | (simp; done) | (simp; omega) | omega) (by first | exact Nat.le_of_ble_eq_true rfl | (simp; done) | (simp; omega) | omega) (by first | exact Nat.le_of_ble_eq_true rfl | (simp; done) | (simp; omega) | omega) (by first | exact Nat.le_of_ble_eq_true rfl | (simp; done) | (simp; omega) | omega) ?_
  rintro _ _ _ T80 ⟨c75, c76, rfl, rfl, rfl, M77, A78, O79⟩ W81
  replace W81 : Wk l Z EL1 ({ frames := 9, cells := 56, slots := 1344, locals := 208 } : Room) "com/example/maswali/maswali/RendererWrittenInPinLaw" code 15 (some .boolean) "law" X [(a57, c75), (p68, c76), (a3, c52)] [(a39, c40), (b41, c42), (a23, c24), (b25, c26), (a7, c8), (b9, c10), (p0, d0), (b0, e0), (p1, d1), (b1, e1), (p2, d2), (b2, e2)] T80 40 (145) := W81
  show Go Z EL1 _ _ _ X T80 200 #[.val (.int counts), .val (.int ka), .val (.int kb), .val (.int kc), .val (.int modes), .val (.int x), .val (.ref p0), .val (.ref p1), .val (.ref p2), .val (.int (2 : Int32)), .val (.int (3 : Int32)), .val (.ref a3), .val (.ref a57), .unset, .unset] []
  refine Go.iload (pc' := 202) W81 d_code_200 rfl rfl ?_
  refine Go.iconst (pc' := 203) W81 (1 : Int32) d_code_202 (by decide) rfl ?_
  refine Go.icmp_le (pc' := 206) W81 213 d_code_203 (by decide) rfl (fun q => absurd (by decide) q) (fun _ => ?_)
  refine Go.aload (pc' := 208) W81 d_code_206 rfl rfl rfl ?_
  refine Go.aload (pc' := 210) W81 d_code_208 rfl rfl rfl ?_
  refine Go.virtual (pc' := 213) W81 (rm_app G a57 p68 p1 b1 c75 c76 d1 e1 1 _ _ (by decide) (by simp) S1 M77 A78 O79) (Or.inl (List.mem_of_getElem? (i := 0) rfl)) M77.1 (w_73 G) (w_74 G) (w_76 G) (w_75 G) (w_37 G) (w_77 G) (by decide) [0, 0] [8] (σf := [(a3, c52)]) rfl rfl [(.ref p1)] [] rfl (lenOf pd_17 rfl) rfl rfl d_code_210 rfl (by first | exact Nat.le_of_ble_eq_true rfl | (simp; done) | (simp; omega) | omega) (by first | exact Nat.le_of_ble_eq_true rfl | (simp; done) | (simp; omega) | omega) (by first | exact Nat.le_of_ble_eq_true rfl | (simp; done) | (simp; omega) | omega) (by first | exact Nat.le_of_ble_eq_true rfl | (simp; done) | (simp; omega) | omega) ?_
  rintro _ _ _ T87 ⟨c82, c83, rfl, rfl, rfl, M84, A85, O86⟩ W88
  replace W88 : Wk l Z EL1 ({ frames := 9, cells := 56, slots := 1344, locals := 208 } : Room) "com/example/maswali/maswali/RendererWrittenInPinLaw" code 15 (some .boolean) "law" X [(a57, c82), (p68, c83), (a3, c52)] [(a39, c40), (b41, c42), (a23, c24), (b25, c26), (a7, c8), (b9, c10), (p0, d0), (b0, e0), (p1, d1), (b1, e1), (p2, d2), (b2, e2)] T87 40 (145) := W88
  show Go Z EL1 _ _ _ X T87 213 #[.val (.int counts), .val (.int ka), .val (.int kb), .val (.int kc), .val (.int modes), .val (.int x), .val (.ref p0), .val (.ref p1), .val (.ref p2), .val (.int (2 : Int32)), .val (.int (3 : Int32)), .val (.ref a3), .val (.ref a57), .unset, .unset] []
  refine Go.iload (pc' := 215) W88 d_code_213 rfl rfl ?_
  refine Go.iconst (pc' := 216) W88 (2 : Int32) d_code_215 (by decide) rfl ?_
  refine Go.icmp_le (pc' := 219) W88 226 d_code_216 (by decide) rfl (fun _ => ?_) (fun q => absurd q (by decide))
  refine Go.aload (pc' := 228) W88 d_code_226 rfl rfl rfl ?_
  refine Go.aload (pc' := 230) W88 d_code_228 rfl rfl rfl ?_
  refine Go.virtual (pc' := 233) W88 (rm_winN G a57 a3 c82 c52 2 3 _ _ rfl (by decide) M84 A53) (Or.inl (List.mem_of_getElem? (i := 0) rfl)) M84.1 (w_63 G) (w_64 G) (w_66 G) (w_65 G) (w_37 G) (w_67 G) (by decide) [0, 1] [] (σf := [(p68, c83)]) rfl rfl [(.ref a3)] [] rfl (lenOf pd_16 rfl) rfl rfl d_code_230 rfl (by first | exact Nat.le_of_ble_eq_true rfl | (simp; done) | (simp; omega) | omega) (by first | exact Nat.le_of_ble_eq_true rfl | (simp; done) | (simp; omega) | omega) (by first | exact Nat.le_of_ble_eq_true rfl | (simp; done) | (simp; omega) | omega) (by first | exact Nat.le_of_ble_eq_true rfl | (simp; done) | (simp; omega) | omega) ?_
  rintro _ _ _ T89 ⟨rfl, rfl, rfl⟩ W90
  replace W90 : Wk l Z EL1 ({ frames := 9, cells := 56, slots := 1344, locals := 208 } : Room) "com/example/maswali/maswali/RendererWrittenInPinLaw" code 15 (some .boolean) "law" X [(a57, c82), (a3, c52), (p68, c83)] [(a39, c40), (b41, c42), (a23, c24), (b25, c26), (a7, c8), (b9, c10), (p0, d0), (b0, e0), (p1, d1), (b1, e1), (p2, d2), (b2, e2)] T89 40 (145) := W90
  show Go Z EL1 _ _ _ X T89 233 #[.val (.int counts), .val (.int ka), .val (.int kb), .val (.int kc), .val (.int modes), .val (.int x), .val (.ref p0), .val (.ref p1), .val (.ref p2), .val (.int (2 : Int32)), .val (.int (3 : Int32)), .val (.ref a3), .val (.ref a57), .unset, .unset] [(.int (0 : Int32))]
  refine Go.istore (pc' := 235) W90 #[.val (.int counts), .val (.int ka), .val (.int kb), .val (.int kc), .val (.int modes), .val (.int x), .val (.ref p0), .val (.ref p1), .val (.ref p2), .val (.int (2 : Int32)), .val (.int (3 : Int32)), .val (.ref a3), .val (.ref a57), .val (.int (0 : Int32)), .unset] d_code_233 rfl rfl ?_
  refine Go.iload (pc' := 237) W90 d_code_235 rfl rfl ?_
  refine Go.iload (pc' := 239) W90 d_code_237 rfl rfl ?_
  refine Go.icmp_ne (pc' := 242) W90 300 d_code_239 (by decide) rfl (fun _ => ?_) (fun q => absurd q (by decide))
  refine Go.iconst (pc' := 301) W90 (0 : Int32) d_code_300 (by decide) rfl ?_
  refine Go.istore (pc' := 303) W90 #[.val (.int counts), .val (.int ka), .val (.int kb), .val (.int kc), .val (.int modes), .val (.int x), .val (.ref p0), .val (.ref p1), .val (.ref p2), .val (.int (2 : Int32)), .val (.int (3 : Int32)), .val (.ref a3), .val (.ref a57), .val (.int (0 : Int32)), .val (.int (0 : Int32))] d_code_301 rfl rfl ?_
  refine Go.iload (pc' := 305) W90 d_code_303 rfl rfl ?_
  refine Go.iload (pc' := 307) W90 d_code_305 rfl rfl ?_
  refine Go.icmp_ne (pc' := 310) W90 314 d_code_307 (by decide) rfl (fun q => absurd (by decide) q) (fun _ => ?_)
  refine Go.iconst (pc' := 311) W90 (1 : Int32) d_code_310 (by decide) rfl ?_
  refine Go.goto W90 315 d_code_311 (by decide) ?_
  refine Go.nret (z' := (1 : Int32)) W90 (by simp) (by decide) d_code_315 (by first | exact Nat.le_of_ble_eq_true rfl | (simp; done) | (simp; omega) | omega) (by first | exact Nat.le_of_ble_eq_true rfl | (simp; done) | (simp; omega) | omega) ?_
  rfl
theorem d_code_219 : decode code 219 = .ok (.aload 12, 2) := by decide +kernel
theorem d_code_221 : decode code 221 = .ok (.aload 8, 2) := by decide +kernel
theorem d_code_223 : decode code 223 = .ok (.invokevirtual 33, 3) := by decide +kernel
set_option maxRecDepth 65536 in
set_option maxHeartbeats 40000000 in
theorem rm_t30 {l : Launch} {Z : State} {a0 : Array Value} (G : Cl Z a0) (counts ka kb kc modes x : Int32) (nv : Value) (hnv : nv.isRef = true) (Sn : Sta Z Z.heap "com/example/maswali/maswali/BindValues" "NONE" "[Ljava/lang/Object;" nv) (da : Addr) (Sd : Sta Z Z.heap "com/example/maswali/maswali/Dialect" "POSTGRES" "Lcom/example/maswali/maswali/Dialect;" (.ref da)) (p0 b0 p1 b1 p2 b2 : Addr) (d0 e0 d1 e1 d2 e2 : Cell) (S0 : StrL Z d0 b0 e0 (strF ka)) (S1 : StrL Z d1 b1 e1 (strF kb)) (S2 : StrL Z d2 b2 e2 (strF kc)) {X : Ctx} {T0 : State} (W0 : Wk l Z EL1 ({ frames := 9, cells := 56, slots := 1344, locals := 208 } : Room) "com/example/maswali/maswali/RendererWrittenInPinLaw" code 15 (some .boolean) "law" X [] [(p0, d0), (b0, e0), (p1, d1), (b1, e1), (p2, d2), (b2, e2)] T0 18 (36)) :
    Go Z EL1 56 1344 (fun v _ _ => v = some (.int 1)) X T0 43 #[.val (.int counts), .val (.int ka), .val (.int kb), .val (.int kc), .val (.int modes), .val (.int x), .val (.ref p0), .val (.ref p1), .val (.ref p2), .val (.int (3 : Int32)), .val (.int (0 : Int32)), .unset, .unset, .unset, .unset] [] := by
  refine Go.iload (pc' := 45) W0 d_code_43 rfl rfl ?_
  refine Go.anewarr (pc' := 48) W0 0 (w_4 G) (w_34 G) d_code_45 rfl (by decide) (by decide) (by decide) (by first | exact Nat.le_of_ble_eq_true rfl | (simp; done) | (simp; omega) | omega) (by first | exact Nat.le_of_ble_eq_true rfl | (simp; done) | (simp; omega) | omega) (fun T1 a3 c4 W2 A5 O6 => ?_)
  replace W2 : Wk l Z EL1 ({ frames := 9, cells := 56, slots := 1344, locals := 208 } : Room) "com/example/maswali/maswali/RendererWrittenInPinLaw" code 15 (some .boolean) "law" X [(a3, c4)] [(p0, d0), (b0, e0), (p1, d1), (b1, e1), (p2, d2), (b2, e2)] T1 19 (36) := W2
  refine Go.astore (pc' := 50) W2 #[.val (.int counts), .val (.int ka), .val (.int kb), .val (.int kc), .val (.int modes), .val (.int x), .val (.ref p0), .val (.ref p1), .val (.ref p2), .val (.int (3 : Int32)), .val (.int (0 : Int32)), .val (.ref a3), .unset, .unset, .unset] d_code_48 rfl rfl rfl ?_
  refine Go.iload (pc' := 52) W2 d_code_50 rfl rfl ?_
  refine Go.if_le (pc' := 55) W2 86 d_code_52 (by decide) rfl (fun _ => ?_) (fun q => absurd q (by decide))
  refine Go.iload (pc' := 88) W2 d_code_86 rfl rfl ?_
  refine Go.iconst (pc' := 89) W2 (1 : Int32) d_code_88 (by decide) rfl ?_
  refine Go.icmp_le (pc' := 92) W2 130 d_code_89 (by decide) rfl (fun _ => ?_) (fun q => absurd q (by decide))
  refine Go.iload (pc' := 132) W2 d_code_130 rfl rfl ?_
  refine Go.iconst (pc' := 133) W2 (2 : Int32) d_code_132 (by decide) rfl ?_
  refine Go.icmp_le (pc' := 136) W2 176 d_code_133 (by decide) rfl (fun _ => ?_) (fun q => absurd q (by decide))
  refine Go.new (pc' := 179) W2 (w_35 G) (w_36 G) (w_37 G) d_code_176 rfl (by first | exact Nat.le_of_ble_eq_true rfl | (simp; done) | (simp; omega) | omega) (by first | exact Nat.le_of_ble_eq_true rfl | (simp; done) | (simp; omega) | omega) (fun T7 a9 c10 W8 O11 D12 => ?_)
  replace W8 : Wk l Z EL1 ({ frames := 9, cells := 56, slots := 1344, locals := 208 } : Room) "com/example/maswali/maswali/RendererWrittenInPinLaw" code 15 (some .boolean) "law" X [(a9, c10), (a3, c4)] [(p0, d0), (b0, e0), (p1, d1), (b1, e1), (p2, d2), (b2, e2)] T7 20 (40) := W8
  have F13 : FldC Z c10 "com/example/maswali/maswali/Renderer" "pieces" "[Ljava/lang/String;" (.null) := D12 (Or.inl (w_47 G)) (ty := (.array (.object "java/lang/String"))) (by decide)
  have F14 : FldC Z c10 "com/example/maswali/maswali/Renderer" "bindValues" "Lcom/example/maswali/maswali/BindValues;" (.null) := D12 (Or.inr (w_60 G)) (ty := (.object "com/example/maswali/maswali/BindValues")) (by decide)
  have F15 : FldC Z c10 "com/example/maswali/maswali/Renderer" "dialect" "Lcom/example/maswali/maswali/Dialect;" (.null) := D12 (Or.inr (w_62 G)) (ty := (.object "com/example/maswali/maswali/Dialect")) (by decide)
  have F16 : FldC Z c10 "com/example/maswali/maswali/Renderer" "pieceCount" "I" (.int (0 : Int32)) := D12 (Or.inl (w_69 G)) (ty := .int) (by decide)
  refine Go.dup (pc' := 180) W8 d_code_179 rfl rfl ?_
  refine Go.getstatic (pc' := 183) W8 (w_38 G) Via.refl Sd d_code_180 rfl (fun T17 W18 => ?_)
  refine Go.special (pc' := 186) W18 (a := a9) (rm_ren G a9 c10 nv (.ref da) hnv Sn rfl O11 F13 F16 F15 F14) rfl (w_41 G) (w_42 G) (w_37 G) (w_43 G) (by decide) [0] [] (σf := [(a3, c4)]) rfl rfl [(.ref da)] [(.ref a9)] rfl (lenOf pd_15 rfl) rfl rfl d_code_183 rfl (by first | exact Nat.le_of_ble_eq_true rfl | (simp; done) | (simp; omega) | omega) (by first | exact Nat.le_of_ble_eq_true rfl | (simp; done) | (simp; omega) | omega) (by first | exact Nat.le_of_ble_eq_true rfl | (simp; done) | (simp; omega) | omega) (by first | exact Nat.le_of_ble_eq_true rfl | (simp; done) | (simp; omega) | omega) ?_
  rintro _ _ _ T25 ⟨c19, p20, c21, rfl, rfl, rfl, M22, A23, O24⟩ W26
  replace W26 : Wk l Z EL1 ({ frames := 9, cells := 56, slots := 1344, locals := 208 } : Room) "com/example/maswali/maswali/RendererWrittenInPinLaw" code 15 (some .boolean) "law" X [(a9, c19), (p20, c21), (a3, c4)] [(p0, d0), (b0, e0), (p1, d1), (b1, e1), (p2, d2), (b2, e2)] T25 22 (106) := W26
  show Go Z EL1 _ _ _ X T25 186 #[.val (.int counts), .val (.int ka), .val (.int kb), .val (.int kc), .val (.int modes), .val (.int x), .val (.ref p0), .val (.ref p1), .val (.ref p2), .val (.int (3 : Int32)), .val (.int (0 : Int32)), .val (.ref a3), .unset, .unset, .unset] [(.ref a9)]
  refine Go.astore (pc' := 188) W26 #[.val (.int counts), .val (.int ka), .val (.int kb), .val (.int kc), .val (.int modes), .val (.int x), .val (.ref p0), .val (.ref p1), .val (.ref p2), .val (.int (3 : Int32)), .val (.int (0 : Int32)), .val (.ref a3), .val (.ref a9), .unset, .unset] d_code_186 rfl rfl rfl ?_
  refine Go.iload (pc' := 190) W26 d_code_188 rfl rfl ?_
  refine Go.if_le (pc' := 193) W26 200 d_code_190 (by decide) rfl (fun q => absurd (by decide) q) (fun _ => ?_)
  refine Go.aload (pc' := 195) W26 d_code_193 rfl rfl rfl ?_
  refine Go.aload (pc' := 197) W26 d_code_195 rfl rfl rfl ?_
  refine Go.virtual (pc' := 200) W26 (rm_app G a9 p20 p0 b0 c19 c21 d0 e0 0 _ _ (by decide) (by simp) S0 M22 A23 O24) (Or.inl (List.mem_of_getElem? (i := 0) rfl)) M22.1 (w_73 G) (w_74 G) (w_76 G) (w_75 G) (w_37 G) (w_77 G) (by decide) [0, 0] [0] (σf := [(a3, c4)]) rfl rfl [(.ref p0)] [] rfl (lenOf pd_17 rfl) rfl rfl d_code_197 rfl (by first | exact Nat.le_of_ble_eq_true rfl | (simp; done) | (simp; omega) | omega) (by first | exact Nat.le_of_ble_eq_true rfl | (simp; done) | (simp; omega) | omega) (by first | exact Nat.le_of_ble_eq_true rfl | (simp; done) | (simp; omega) | omega) (by first | exact Nat.le_of_ble_eq_true rfl | (simp; done) | (simp; omega) | omega) ?_
  rintro _ _ _ T32 ⟨c27, c28, rfl, rfl, rfl, M29, A30, O31⟩ W33
  replace W33 : Wk l Z EL1 ({ frames := 9, cells := 56, slots := 1344, locals := 208 } : Room) "com/example/maswali/maswali/RendererWrittenInPinLaw" code 15 (some .boolean) "law" X [(a9, c27), (p20, c28), (a3, c4)] [(p0, d0), (b0, e0), (p1, d1), (b1, e1), (p2, d2), (b2, e2)] T32 22 (106) := W33
  show Go Z EL1 _ _ _ X T32 200 #[.val (.int counts), .val (.int ka), .val (.int kb), .val (.int kc), .val (.int modes), .val (.int x), .val (.ref p0), .val (.ref p1), .val (.ref p2), .val (.int (3 : Int32)), .val (.int (0 : Int32)), .val (.ref a3), .val (.ref a9), .unset, .unset] []
  refine Go.iload (pc' := 202) W33 d_code_200 rfl rfl ?_
  refine Go.iconst (pc' := 203) W33 (1 : Int32) d_code_202 (by decide) rfl ?_
  refine Go.icmp_le (pc' := 206) W33 213 d_code_203 (by decide) rfl (fun q => absurd (by decide) q) (fun _ => ?_)
  refine Go.aload (pc' := 208) W33 d_code_206 rfl rfl rfl ?_
  refine Go.aload (pc' := 210) W33 d_code_208 rfl rfl rfl ?_
  refine Go.virtual (pc' := 213) W33 (rm_app G a9 p20 p1 b1 c27 c28 d1 e1 1 _ _ (by decide) (by simp) S1 M29 A30 O31) (Or.inl (List.mem_of_getElem? (i := 0) rfl)) M29.1 (w_73 G) (w_74 G) (w_76 G) (w_75 G) (w_37 G) (w_77 G) (by decide) [0, 0] [2] (σf := [(a3, c4)]) rfl rfl [(.ref p1)] [] rfl (lenOf pd_17 rfl) rfl rfl d_code_210 rfl (by first | exact Nat.le_of_ble_eq_true rfl | (simp; done) | (simp; omega) | omega) (by first | exact Nat.le_of_ble_eq_true rfl | (simp; done) | (simp; omega) | omega) (by first | exact Nat.le_of_ble_eq_true rfl | (simp; done) | (simp; omega) | omega) (by first | exact Nat.le_of_ble_eq_true rfl | (simp; done) | (simp; omega) | omega) ?_
  rintro _ _ _ T39 ⟨c34, c35, rfl, rfl, rfl, M36, A37, O38⟩ W40
  replace W40 : Wk l Z EL1 ({ frames := 9, cells := 56, slots := 1344, locals := 208 } : Room) "com/example/maswali/maswali/RendererWrittenInPinLaw" code 15 (some .boolean) "law" X [(a9, c34), (p20, c35), (a3, c4)] [(p0, d0), (b0, e0), (p1, d1), (b1, e1), (p2, d2), (b2, e2)] T39 22 (106) := W40
  show Go Z EL1 _ _ _ X T39 213 #[.val (.int counts), .val (.int ka), .val (.int kb), .val (.int kc), .val (.int modes), .val (.int x), .val (.ref p0), .val (.ref p1), .val (.ref p2), .val (.int (3 : Int32)), .val (.int (0 : Int32)), .val (.ref a3), .val (.ref a9), .unset, .unset] []
  refine Go.iload (pc' := 215) W40 d_code_213 rfl rfl ?_
  refine Go.iconst (pc' := 216) W40 (2 : Int32) d_code_215 (by decide) rfl ?_
  refine Go.icmp_le (pc' := 219) W40 226 d_code_216 (by decide) rfl (fun q => absurd (by decide) q) (fun _ => ?_)
  refine Go.aload (pc' := 221) W40 d_code_219 rfl rfl rfl ?_
  refine Go.aload (pc' := 223) W40 d_code_221 rfl rfl rfl ?_
  refine Go.virtual (pc' := 226) W40 (rm_app G a9 p20 p2 b2 c34 c35 d2 e2 2 _ _ (by decide) (by simp) S2 M36 A37 O38) (Or.inl (List.mem_of_getElem? (i := 0) rfl)) M36.1 (w_73 G) (w_74 G) (w_76 G) (w_75 G) (w_37 G) (w_77 G) (by decide) [0, 0] [4] (σf := [(a3, c4)]) rfl rfl [(.ref p2)] [] rfl (lenOf pd_17 rfl) rfl rfl d_code_223 rfl (by first | exact Nat.le_of_ble_eq_true rfl | (simp; done) | (simp; omega) | omega) (by first | exact Nat.le_of_ble_eq_true rfl | (simp; done) | (simp; omega) | omega) (by first | exact Nat.le_of_ble_eq_true rfl | (simp; done) | (simp; omega) | omega) (by first | exact Nat.le_of_ble_eq_true rfl | (simp; done) | (simp; omega) | omega) ?_
  rintro _ _ _ T46 ⟨c41, c42, rfl, rfl, rfl, M43, A44, O45⟩ W47
  replace W47 : Wk l Z EL1 ({ frames := 9, cells := 56, slots := 1344, locals := 208 } : Room) "com/example/maswali/maswali/RendererWrittenInPinLaw" code 15 (some .boolean) "law" X [(a9, c41), (p20, c42), (a3, c4)] [(p0, d0), (b0, e0), (p1, d1), (b1, e1), (p2, d2), (b2, e2)] T46 22 (106) := W47
  show Go Z EL1 _ _ _ X T46 226 #[.val (.int counts), .val (.int ka), .val (.int kb), .val (.int kc), .val (.int modes), .val (.int x), .val (.ref p0), .val (.ref p1), .val (.ref p2), .val (.int (3 : Int32)), .val (.int (0 : Int32)), .val (.ref a3), .val (.ref a9), .unset, .unset] []
  refine Go.aload (pc' := 228) W47 d_code_226 rfl rfl rfl ?_
  refine Go.aload (pc' := 230) W47 d_code_228 rfl rfl rfl ?_
  refine Go.virtual (pc' := 233) W47 (rm_winN G a9 a3 c41 c4 3 0 _ _ rfl (by decide) M43 A5) (Or.inl (List.mem_of_getElem? (i := 0) rfl)) M43.1 (w_63 G) (w_64 G) (w_66 G) (w_65 G) (w_37 G) (w_67 G) (by decide) [0, 1] [] (σf := [(p20, c42)]) rfl rfl [(.ref a3)] [] rfl (lenOf pd_16 rfl) rfl rfl d_code_230 rfl (by first | exact Nat.le_of_ble_eq_true rfl | (simp; done) | (simp; omega) | omega) (by first | exact Nat.le_of_ble_eq_true rfl | (simp; done) | (simp; omega) | omega) (by first | exact Nat.le_of_ble_eq_true rfl | (simp; done) | (simp; omega) | omega) (by first | exact Nat.le_of_ble_eq_true rfl | (simp; done) | (simp; omega) | omega) ?_
  rintro _ _ _ T48 ⟨rfl, rfl, rfl⟩ W49
  replace W49 : Wk l Z EL1 ({ frames := 9, cells := 56, slots := 1344, locals := 208 } : Room) "com/example/maswali/maswali/RendererWrittenInPinLaw" code 15 (some .boolean) "law" X [(a9, c41), (a3, c4), (p20, c42)] [(p0, d0), (b0, e0), (p1, d1), (b1, e1), (p2, d2), (b2, e2)] T48 22 (106) := W49
  show Go Z EL1 _ _ _ X T48 233 #[.val (.int counts), .val (.int ka), .val (.int kb), .val (.int kc), .val (.int modes), .val (.int x), .val (.ref p0), .val (.ref p1), .val (.ref p2), .val (.int (3 : Int32)), .val (.int (0 : Int32)), .val (.ref a3), .val (.ref a9), .unset, .unset] [(.int (0 : Int32))]
  refine Go.istore (pc' := 235) W49 #[.val (.int counts), .val (.int ka), .val (.int kb), .val (.int kc), .val (.int modes), .val (.int x), .val (.ref p0), .val (.ref p1), .val (.ref p2), .val (.int (3 : Int32)), .val (.int (0 : Int32)), .val (.ref a3), .val (.ref a9), .val (.int (0 : Int32)), .unset] d_code_233 rfl rfl ?_
  refine Go.iload (pc' := 237) W49 d_code_235 rfl rfl ?_
  refine Go.iload (pc' := 239) W49 d_code_237 rfl rfl ?_
  refine Go.icmp_ne (pc' := 242) W49 300 d_code_239 (by decide) rfl (fun _ => ?_) (fun q => absurd q (by decide))
  refine Go.iconst (pc' := 301) W49 (0 : Int32) d_code_300 (by decide) rfl ?_
  refine Go.istore (pc' := 303) W49 #[.val (.int counts), .val (.int ka), .val (.int kb), .val (.int kc), .val (.int modes), .val (.int x), .val (.ref p0), .val (.ref p1), .val (.ref p2), .val (.int (3 : Int32)), .val (.int (0 : Int32)), .val (.ref a3), .val (.ref a9), .val (.int (0 : Int32)), .val (.int (0 : Int32))] d_code_301 rfl rfl ?_
  refine Go.iload (pc' := 305) W49 d_code_303 rfl rfl ?_
  refine Go.iload (pc' := 307) W49 d_code_305 rfl rfl ?_
  refine Go.icmp_ne (pc' := 310) W49 314 d_code_307 (by decide) rfl (fun q => absurd (by decide) q) (fun _ => ?_)
  refine Go.iconst (pc' := 311) W49 (1 : Int32) d_code_310 (by decide) rfl ?_
  refine Go.goto W49 315 d_code_311 (by decide) ?_
  refine Go.nret (z' := (1 : Int32)) W49 (by simp) (by decide) d_code_315 (by first | exact Nat.le_of_ble_eq_true rfl | (simp; done) | (simp; omega) | omega) (by first | exact Nat.le_of_ble_eq_true rfl | (simp; done) | (simp; omega) | omega) ?_
  rfl
set_option maxRecDepth 65536 in
set_option maxHeartbeats 40000000 in
theorem rm_t31 {l : Launch} {Z : State} {a0 : Array Value} (G : Cl Z a0) (counts ka kb kc modes x : Int32) (nv : Value) (hnv : nv.isRef = true) (Sn : Sta Z Z.heap "com/example/maswali/maswali/BindValues" "NONE" "[Ljava/lang/Object;" nv) (da : Addr) (Sd : Sta Z Z.heap "com/example/maswali/maswali/Dialect" "POSTGRES" "Lcom/example/maswali/maswali/Dialect;" (.ref da)) (p0 b0 p1 b1 p2 b2 : Addr) (d0 e0 d1 e1 d2 e2 : Cell) (S0 : StrL Z d0 b0 e0 (strF ka)) (S1 : StrL Z d1 b1 e1 (strF kb)) (S2 : StrL Z d2 b2 e2 (strF kc)) {X : Ctx} {T0 : State} (W0 : Wk l Z EL1 ({ frames := 9, cells := 56, slots := 1344, locals := 208 } : Room) "com/example/maswali/maswali/RendererWrittenInPinLaw" code 15 (some .boolean) "law" X [] [(p0, d0), (b0, e0), (p1, d1), (b1, e1), (p2, d2), (b2, e2)] T0 18 (36)) :
    Go Z EL1 56 1344 (fun v _ _ => v = some (.int 1)) X T0 43 #[.val (.int counts), .val (.int ka), .val (.int kb), .val (.int kc), .val (.int modes), .val (.int x), .val (.ref p0), .val (.ref p1), .val (.ref p2), .val (.int (3 : Int32)), .val (.int (1 : Int32)), .unset, .unset, .unset, .unset] [] := by
  refine Go.iload (pc' := 45) W0 d_code_43 rfl rfl ?_
  refine Go.anewarr (pc' := 48) W0 1 (w_4 G) (w_34 G) d_code_45 rfl (by decide) (by decide) (by decide) (by first | exact Nat.le_of_ble_eq_true rfl | (simp; done) | (simp; omega) | omega) (by first | exact Nat.le_of_ble_eq_true rfl | (simp; done) | (simp; omega) | omega) (fun T1 a3 c4 W2 A5 O6 => ?_)
  replace W2 : Wk l Z EL1 ({ frames := 9, cells := 56, slots := 1344, locals := 208 } : Room) "com/example/maswali/maswali/RendererWrittenInPinLaw" code 15 (some .boolean) "law" X [(a3, c4)] [(p0, d0), (b0, e0), (p1, d1), (b1, e1), (p2, d2), (b2, e2)] T1 19 (37) := W2
  refine Go.astore (pc' := 50) W2 #[.val (.int counts), .val (.int ka), .val (.int kb), .val (.int kc), .val (.int modes), .val (.int x), .val (.ref p0), .val (.ref p1), .val (.ref p2), .val (.int (3 : Int32)), .val (.int (1 : Int32)), .val (.ref a3), .unset, .unset, .unset] d_code_48 rfl rfl rfl ?_
  refine Go.iload (pc' := 52) W2 d_code_50 rfl rfl ?_
  refine Go.if_le (pc' := 55) W2 86 d_code_52 (by decide) rfl (fun q => absurd (by decide) q) (fun _ => ?_)
  refine Go.aload (pc' := 57) W2 d_code_55 rfl rfl rfl ?_
  refine Go.iconst (pc' := 58) W2 (0 : Int32) d_code_57 (by decide) rfl ?_
  refine Go.iload (pc' := 60) W2 d_code_58 rfl rfl ?_
  refine Go.if_le (pc' := 63) W2 80 d_code_60 (by decide) rfl (fun q => absurd (by decide) q) (fun _ => ?_)
  refine Go.aload (pc' := 65) W2 d_code_63 rfl rfl rfl ?_
  refine Go.iloadN (pc' := 66) W2 d_code_65 rfl rfl ?_
  refine Go.iload (pc' := 68) W2 d_code_66 rfl rfl ?_
  refine Go.iconst (pc' := 69) W2 (3 : Int32) d_code_68 (by decide) rfl ?_
  refine Go.iand (pc' := 70) W2 d_code_69 rfl ?_
  refine Go.iload (pc' := 72) W2 d_code_70 rfl rfl ?_
  refine Go.aload (pc' := 74) W2 d_code_72 rfl rfl rfl ?_
  refine Go.static (pc' := 77) W2 (rm_oth G p0 b0 p1 b1 d0 e0 d1 e1 _ _ ka (modes &&& (3 : Int32)) x S0 S1) (w_70 G) (w_71 G) (w_2 G) (w_72 G) (by decide) [] [0, 1, 2, 3] (σf := [(a3, c4)]) rfl rfl [(.ref p0), (.int ka), (.int (modes &&& (3 : Int32))), (.int x), (.ref p1)] [(.int (0 : Int32)), (.ref a3)] rfl (lenOf pd_18 rfl) rfl rfl d_code_74 rfl (by first | exact Nat.le_of_ble_eq_true rfl | (simp; done) | (simp; omega) | omega) (by first | exact Nat.le_of_ble_eq_true rfl | (simp; done) | (simp; omega) | omega) (by first | exact Nat.le_of_ble_eq_true rfl | (simp; done) | (simp; omega) | omega) (by first | exact Nat.le_of_ble_eq_true rfl | (simp; done) | (simp; omega) | omega) ?_
  rintro _ _ _ T12 ⟨a7, c8, b9, c10, rfl, rfl, rfl, S11⟩ W13
  replace W13 : Wk l Z EL1 ({ frames := 9, cells := 56, slots := 1344, locals := 208 } : Room) "com/example/maswali/maswali/RendererWrittenInPinLaw" code 15 (some .boolean) "law" X [(a3, c4)] [(a7, c8), (b9, c10), (p0, d0), (b0, e0), (p1, d1), (b1, e1), (p2, d2), (b2, e2)] T12 25 (49) := W13
  show Go Z EL1 _ _ _ X T12 77 #[.val (.int counts), .val (.int ka), .val (.int kb), .val (.int kc), .val (.int modes), .val (.int x), .val (.ref p0), .val (.ref p1), .val (.ref p2), .val (.int (3 : Int32)), .val (.int (1 : Int32)), .val (.ref a3), .unset, .unset, .unset] [(.ref a7), (.int (0 : Int32)), (.ref a3)]
  refine Go.goto W13 85 d_code_77 (by decide) ?_
  refine Go.aastoreObj (pc' := 86) W13 0 rfl A5 O6 (Or.inr (Or.inl (List.mem_of_getElem? (i := 0) rfl))) S11.1 0 (by decide) (by decide) (by simp) d_code_85 rfl (fun T18 c20 W19 A21 O22 => ?_)
  replace W19 : Wk l Z EL1 ({ frames := 9, cells := 56, slots := 1344, locals := 208 } : Room) "com/example/maswali/maswali/RendererWrittenInPinLaw" code 15 (some .boolean) "law" X [(a3, c20)] [(a7, c8), (b9, c10), (p0, d0), (b0, e0), (p1, d1), (b1, e1), (p2, d2), (b2, e2)] T18 25 (49) := W19
  replace A21 : ArrC Z c20 (.object "java/lang/String") [(.ref a7)] := A21
  refine Go.iload (pc' := 88) W19 d_code_86 rfl rfl ?_
  refine Go.iconst (pc' := 89) W19 (1 : Int32) d_code_88 (by decide) rfl ?_
  refine Go.icmp_le (pc' := 92) W19 130 d_code_89 (by decide) rfl (fun _ => ?_) (fun q => absurd q (by decide))
  refine Go.iload (pc' := 132) W19 d_code_130 rfl rfl ?_
  refine Go.iconst (pc' := 133) W19 (2 : Int32) d_code_132 (by decide) rfl ?_
  refine Go.icmp_le (pc' := 136) W19 176 d_code_133 (by decide) rfl (fun _ => ?_) (fun q => absurd q (by decide))
  refine Go.new (pc' := 179) W19 (w_35 G) (w_36 G) (w_37 G) d_code_176 rfl (by first | exact Nat.le_of_ble_eq_true rfl | (simp; done) | (simp; omega) | omega) (by first | exact Nat.le_of_ble_eq_true rfl | (simp; done) | (simp; omega) | omega) (fun T23 a25 c26 W24 O27 D28 => ?_)
  replace W24 : Wk l Z EL1 ({ frames := 9, cells := 56, slots := 1344, locals := 208 } : Room) "com/example/maswali/maswali/RendererWrittenInPinLaw" code 15 (some .boolean) "law" X [(a25, c26), (a3, c20)] [(a7, c8), (b9, c10), (p0, d0), (b0, e0), (p1, d1), (b1, e1), (p2, d2), (b2, e2)] T23 26 (53) := W24
  have F29 : FldC Z c26 "com/example/maswali/maswali/Renderer" "pieces" "[Ljava/lang/String;" (.null) := D28 (Or.inl (w_47 G)) (ty := (.array (.object "java/lang/String"))) (by decide)
  have F30 : FldC Z c26 "com/example/maswali/maswali/Renderer" "bindValues" "Lcom/example/maswali/maswali/BindValues;" (.null) := D28 (Or.inr (w_60 G)) (ty := (.object "com/example/maswali/maswali/BindValues")) (by decide)
  have F31 : FldC Z c26 "com/example/maswali/maswali/Renderer" "dialect" "Lcom/example/maswali/maswali/Dialect;" (.null) := D28 (Or.inr (w_62 G)) (ty := (.object "com/example/maswali/maswali/Dialect")) (by decide)
  have F32 : FldC Z c26 "com/example/maswali/maswali/Renderer" "pieceCount" "I" (.int (0 : Int32)) := D28 (Or.inl (w_69 G)) (ty := .int) (by decide)
  refine Go.dup (pc' := 180) W24 d_code_179 rfl rfl ?_
  refine Go.getstatic (pc' := 183) W24 (w_38 G) Via.refl Sd d_code_180 rfl (fun T33 W34 => ?_)
  refine Go.special (pc' := 186) W34 (a := a25) (rm_ren G a25 c26 nv (.ref da) hnv Sn rfl O27 F29 F32 F31 F30) rfl (w_41 G) (w_42 G) (w_37 G) (w_43 G) (by decide) [0] [] (σf := [(a3, c20)]) rfl rfl [(.ref da)] [(.ref a25)] rfl (lenOf pd_15 rfl) rfl rfl d_code_183 rfl (by first | exact Nat.le_of_ble_eq_true rfl | (simp; done) | (simp; omega) | omega) (by first | exact Nat.le_of_ble_eq_true rfl | (simp; done) | (simp; omega) | omega) (by first | exact Nat.le_of_ble_eq_true rfl | (simp; done) | (simp; omega) | omega) (by first | exact Nat.le_of_ble_eq_true rfl | (simp; done) | (simp; omega) | omega) ?_
  rintro _ _ _ T41 ⟨c35, p36, c37, rfl, rfl, rfl, M38, A39, O40⟩ W42
  replace W42 : Wk l Z EL1 ({ frames := 9, cells := 56, slots := 1344, locals := 208 } : Room) "com/example/maswali/maswali/RendererWrittenInPinLaw" code 15 (some .boolean) "law" X [(a25, c35), (p36, c37), (a3, c20)] [(a7, c8), (b9, c10), (p0, d0), (b0, e0), (p1, d1), (b1, e1), (p2, d2), (b2, e2)] T41 28 (119) := W42
  show Go Z EL1 _ _ _ X T41 186 #[.val (.int counts), .val (.int ka), .val (.int kb), .val (.int kc), .val (.int modes), .val (.int x), .val (.ref p0), .val (.ref p1), .val (.ref p2), .val (.int (3 : Int32)), .val (.int (1 : Int32)), .val (.ref a3), .unset, .unset, .unset] [(.ref a25)]
  refine Go.astore (pc' := 188) W42 #[.val (.int counts), .val (.int ka), .val (.int kb), .val (.int kc), .val (.int modes), .val (.int x), .val (.ref p0), .val (.ref p1), .val (.ref p2), .val (.int (3 : Int32)), .val (.int (1 : Int32)), .val (.ref a3), .val (.ref a25), .unset, .unset] d_code_186 rfl rfl rfl ?_
  refine Go.iload (pc' := 190) W42 d_code_188 rfl rfl ?_
  refine Go.if_le (pc' := 193) W42 200 d_code_190 (by decide) rfl (fun q => absurd (by decide) q) (fun _ => ?_)
  refine Go.aload (pc' := 195) W42 d_code_193 rfl rfl rfl ?_
  refine Go.aload (pc' := 197) W42 d_code_195 rfl rfl rfl ?_
  refine Go.virtual (pc' := 200) W42 (rm_app G a25 p36 p0 b0 c35 c37 d0 e0 0 _ _ (by decide) (by simp) S0 M38 A39 O40) (Or.inl (List.mem_of_getElem? (i := 0) rfl)) M38.1 (w_73 G) (w_74 G) (w_76 G) (w_75 G) (w_37 G) (w_77 G) (by decide) [0, 0] [2] (σf := [(a3, c20)]) rfl rfl [(.ref p0)] [] rfl (lenOf pd_17 rfl) rfl rfl d_code_197 rfl (by first | exact Nat.le_of_ble_eq_true rfl | (simp; done) | (simp; omega) | omega) (by first | exact Nat.le_of_ble_eq_true rfl | (simp; done) | (simp; omega) | omega) (by first | exact Nat.le_of_ble_eq_true rfl | (simp; done) | (simp; omega) | omega) (by first | exact Nat.le_of_ble_eq_true rfl | (simp; done) | (simp; omega) | omega) ?_
  rintro _ _ _ T48 ⟨c43, c44, rfl, rfl, rfl, M45, A46, O47⟩ W49
  replace W49 : Wk l Z EL1 ({ frames := 9, cells := 56, slots := 1344, locals := 208 } : Room) "com/example/maswali/maswali/RendererWrittenInPinLaw" code 15 (some .boolean) "law" X [(a25, c43), (p36, c44), (a3, c20)] [(a7, c8), (b9, c10), (p0, d0), (b0, e0), (p1, d1), (b1, e1), (p2, d2), (b2, e2)] T48 28 (119) := W49
  show Go Z EL1 _ _ _ X T48 200 #[.val (.int counts), .val (.int ka), .val (.int kb), .val (.int kc), .val (.int modes), .val (.int x), .val (.ref p0), .val (.ref p1), .val (.ref p2), .val (.int (3 : Int32)), .val (.int (1 : Int32)), .val (.ref a3), .val (.ref a25), .unset, .unset] []
  refine Go.iload (pc' := 202) W49 d_code_200 rfl rfl ?_
  refine Go.iconst (pc' := 203) W49 (1 : Int32) d_code_202 (by decide) rfl ?_
  refine Go.icmp_le (pc' := 206) W49 213 d_code_203 (by decide) rfl (fun q => absurd (by decide) q) (fun _ => ?_)
  refine Go.aload (pc' := 208) W49 d_code_206 rfl rfl rfl ?_
  refine Go.aload (pc' := 210) W49 d_code_208 rfl rfl rfl ?_
  refine Go.virtual (pc' := 213) W49 (rm_app G a25 p36 p1 b1 c43 c44 d1 e1 1 _ _ (by decide) (by simp) S1 M45 A46 O47) (Or.inl (List.mem_of_getElem? (i := 0) rfl)) M45.1 (w_73 G) (w_74 G) (w_76 G) (w_75 G) (w_37 G) (w_77 G) (by decide) [0, 0] [4] (σf := [(a3, c20)]) rfl rfl [(.ref p1)] [] rfl (lenOf pd_17 rfl) rfl rfl d_code_210 rfl (by first | exact Nat.le_of_ble_eq_true rfl | (simp; done) | (simp; omega) | omega) (by first | exact Nat.le_of_ble_eq_true rfl | (simp; done) | (simp; omega) | omega) (by first | exact Nat.le_of_ble_eq_true rfl | (simp; done) | (simp; omega) | omega) (by first | exact Nat.le_of_ble_eq_true rfl | (simp; done) | (simp; omega) | omega) ?_
  rintro _ _ _ T55 ⟨c50, c51, rfl, rfl, rfl, M52, A53, O54⟩ W56
  replace W56 : Wk l Z EL1 ({ frames := 9, cells := 56, slots := 1344, locals := 208 } : Room) "com/example/maswali/maswali/RendererWrittenInPinLaw" code 15 (some .boolean) "law" X [(a25, c50), (p36, c51), (a3, c20)] [(a7, c8), (b9, c10), (p0, d0), (b0, e0), (p1, d1), (b1, e1), (p2, d2), (b2, e2)] T55 28 (119) := W56
  show Go Z EL1 _ _ _ X T55 213 #[.val (.int counts), .val (.int ka), .val (.int kb), .val (.int kc), .val (.int modes), .val (.int x), .val (.ref p0), .val (.ref p1), .val (.ref p2), .val (.int (3 : Int32)), .val (.int (1 : Int32)), .val (.ref a3), .val (.ref a25), .unset, .unset] []
  refine Go.iload (pc' := 215) W56 d_code_213 rfl rfl ?_
  refine Go.iconst (pc' := 216) W56 (2 : Int32) d_code_215 (by decide) rfl ?_
  refine Go.icmp_le (pc' := 219) W56 226 d_code_216 (by decide) rfl (fun q => absurd (by decide) q) (fun _ => ?_)
  refine Go.aload (pc' := 221) W56 d_code_219 rfl rfl rfl ?_
  refine Go.aload (pc' := 223) W56 d_code_221 rfl rfl rfl ?_
  refine Go.virtual (pc' := 226) W56 (rm_app G a25 p36 p2 b2 c50 c51 d2 e2 2 _ _ (by decide) (by simp) S2 M52 A53 O54) (Or.inl (List.mem_of_getElem? (i := 0) rfl)) M52.1 (w_73 G) (w_74 G) (w_76 G) (w_75 G) (w_37 G) (w_77 G) (by decide) [0, 0] [6] (σf := [(a3, c20)]) rfl rfl [(.ref p2)] [] rfl (lenOf pd_17 rfl) rfl rfl d_code_223 rfl (by first | exact Nat.le_of_ble_eq_true rfl | (simp; done) | (simp; omega) | omega) (by first | exact Nat.le_of_ble_eq_true rfl | (simp; done) | (simp; omega) | omega) (by first | exact Nat.le_of_ble_eq_true rfl | (simp; done) | (simp; omega) | omega) (by first | exact Nat.le_of_ble_eq_true rfl | (simp; done) | (simp; omega) | omega) ?_
  rintro _ _ _ T62 ⟨c57, c58, rfl, rfl, rfl, M59, A60, O61⟩ W63
  replace W63 : Wk l Z EL1 ({ frames := 9, cells := 56, slots := 1344, locals := 208 } : Room) "com/example/maswali/maswali/RendererWrittenInPinLaw" code 15 (some .boolean) "law" X [(a25, c57), (p36, c58), (a3, c20)] [(a7, c8), (b9, c10), (p0, d0), (b0, e0), (p1, d1), (b1, e1), (p2, d2), (b2, e2)] T62 28 (119) := W63
  show Go Z EL1 _ _ _ X T62 226 #[.val (.int counts), .val (.int ka), .val (.int kb), .val (.int kc), .val (.int modes), .val (.int x), .val (.ref p0), .val (.ref p1), .val (.ref p2), .val (.int (3 : Int32)), .val (.int (1 : Int32)), .val (.ref a3), .val (.ref a25), .unset, .unset] []
  refine Go.aload (pc' := 228) W63 d_code_226 rfl rfl rfl ?_
  refine Go.aload (pc' := 230) W63 d_code_228 rfl rfl rfl ?_
  refine Go.virtual (pc' := 233) W63 (rm_winN G a25 a3 c57 c20 3 1 _ _ rfl (by decide) M59 A21) (Or.inl (List.mem_of_getElem? (i := 0) rfl)) M59.1 (w_63 G) (w_64 G) (w_66 G) (w_65 G) (w_37 G) (w_67 G) (by decide) [0, 1] [] (σf := [(p36, c58)]) rfl rfl [(.ref a3)] [] rfl (lenOf pd_16 rfl) rfl rfl d_code_230 rfl (by first | exact Nat.le_of_ble_eq_true rfl | (simp; done) | (simp; omega) | omega) (by first | exact Nat.le_of_ble_eq_true rfl | (simp; done) | (simp; omega) | omega) (by first | exact Nat.le_of_ble_eq_true rfl | (simp; done) | (simp; omega) | omega) (by first | exact Nat.le_of_ble_eq_true rfl | (simp; done) | (simp; omega) | omega) ?_
  rintro _ _ _ T64 ⟨rfl, rfl, rfl⟩ W65
  replace W65 : Wk l Z EL1 ({ frames := 9, cells := 56, slots := 1344, locals := 208 } : Room) "com/example/maswali/maswali/RendererWrittenInPinLaw" code 15 (some .boolean) "law" X [(a25, c57), (a3, c20), (p36, c58)] [(a7, c8), (b9, c10), (p0, d0), (b0, e0), (p1, d1), (b1, e1), (p2, d2), (b2, e2)] T64 28 (119) := W65
  show Go Z EL1 _ _ _ X T64 233 #[.val (.int counts), .val (.int ka), .val (.int kb), .val (.int kc), .val (.int modes), .val (.int x), .val (.ref p0), .val (.ref p1), .val (.ref p2), .val (.int (3 : Int32)), .val (.int (1 : Int32)), .val (.ref a3), .val (.ref a25), .unset, .unset] [(.int (0 : Int32))]
  refine Go.istore (pc' := 235) W65 #[.val (.int counts), .val (.int ka), .val (.int kb), .val (.int kc), .val (.int modes), .val (.int x), .val (.ref p0), .val (.ref p1), .val (.ref p2), .val (.int (3 : Int32)), .val (.int (1 : Int32)), .val (.ref a3), .val (.ref a25), .val (.int (0 : Int32)), .unset] d_code_233 rfl rfl ?_
  refine Go.iload (pc' := 237) W65 d_code_235 rfl rfl ?_
  refine Go.iload (pc' := 239) W65 d_code_237 rfl rfl ?_
  refine Go.icmp_ne (pc' := 242) W65 300 d_code_239 (by decide) rfl (fun _ => ?_) (fun q => absurd q (by decide))
  refine Go.iconst (pc' := 301) W65 (0 : Int32) d_code_300 (by decide) rfl ?_
  refine Go.istore (pc' := 303) W65 #[.val (.int counts), .val (.int ka), .val (.int kb), .val (.int kc), .val (.int modes), .val (.int x), .val (.ref p0), .val (.ref p1), .val (.ref p2), .val (.int (3 : Int32)), .val (.int (1 : Int32)), .val (.ref a3), .val (.ref a25), .val (.int (0 : Int32)), .val (.int (0 : Int32))] d_code_301 rfl rfl ?_
  refine Go.iload (pc' := 305) W65 d_code_303 rfl rfl ?_
  refine Go.iload (pc' := 307) W65 d_code_305 rfl rfl ?_
  refine Go.icmp_ne (pc' := 310) W65 314 d_code_307 (by decide) rfl (fun q => absurd (by decide) q) (fun _ => ?_)
  refine Go.iconst (pc' := 311) W65 (1 : Int32) d_code_310 (by decide) rfl ?_
  refine Go.goto W65 315 d_code_311 (by decide) ?_
  refine Go.nret (z' := (1 : Int32)) W65 (by simp) (by decide) d_code_315 (by first | exact Nat.le_of_ble_eq_true rfl | (simp; done) | (simp; omega) | omega) (by first | exact Nat.le_of_ble_eq_true rfl | (simp; done) | (simp; omega) | omega) ?_
  rfl
set_option maxRecDepth 65536 in
set_option maxHeartbeats 40000000 in
theorem rm_t32 {l : Launch} {Z : State} {a0 : Array Value} (G : Cl Z a0) (counts ka kb kc modes x : Int32) (nv : Value) (hnv : nv.isRef = true) (Sn : Sta Z Z.heap "com/example/maswali/maswali/BindValues" "NONE" "[Ljava/lang/Object;" nv) (da : Addr) (Sd : Sta Z Z.heap "com/example/maswali/maswali/Dialect" "POSTGRES" "Lcom/example/maswali/maswali/Dialect;" (.ref da)) (p0 b0 p1 b1 p2 b2 : Addr) (d0 e0 d1 e1 d2 e2 : Cell) (S0 : StrL Z d0 b0 e0 (strF ka)) (S1 : StrL Z d1 b1 e1 (strF kb)) (S2 : StrL Z d2 b2 e2 (strF kc)) {X : Ctx} {T0 : State} (W0 : Wk l Z EL1 ({ frames := 9, cells := 56, slots := 1344, locals := 208 } : Room) "com/example/maswali/maswali/RendererWrittenInPinLaw" code 15 (some .boolean) "law" X [] [(p0, d0), (b0, e0), (p1, d1), (b1, e1), (p2, d2), (b2, e2)] T0 18 (36)) :
    Go Z EL1 56 1344 (fun v _ _ => v = some (.int 1)) X T0 43 #[.val (.int counts), .val (.int ka), .val (.int kb), .val (.int kc), .val (.int modes), .val (.int x), .val (.ref p0), .val (.ref p1), .val (.ref p2), .val (.int (3 : Int32)), .val (.int (2 : Int32)), .unset, .unset, .unset, .unset] [] := by
  refine Go.iload (pc' := 45) W0 d_code_43 rfl rfl ?_
  refine Go.anewarr (pc' := 48) W0 2 (w_4 G) (w_34 G) d_code_45 rfl (by decide) (by decide) (by decide) (by first | exact Nat.le_of_ble_eq_true rfl | (simp; done) | (simp; omega) | omega) (by first | exact Nat.le_of_ble_eq_true rfl | (simp; done) | (simp; omega) | omega) (fun T1 a3 c4 W2 A5 O6 => ?_)
  replace W2 : Wk l Z EL1 ({ frames := 9, cells := 56, slots := 1344, locals := 208 } : Room) "com/example/maswali/maswali/RendererWrittenInPinLaw" code 15 (some .boolean) "law" X [(a3, c4)] [(p0, d0), (b0, e0), (p1, d1), (b1, e1), (p2, d2), (b2, e2)] T1 19 (38) := W2
  refine Go.astore (pc' := 50) W2 #[.val (.int counts), .val (.int ka), .val (.int kb), .val (.int kc), .val (.int modes), .val (.int x), .val (.ref p0), .val (.ref p1), .val (.ref p2), .val (.int (3 : Int32)), .val (.int (2 : Int32)), .val (.ref a3), .unset, .unset, .unset] d_code_48 rfl rfl rfl ?_
  refine Go.iload (pc' := 52) W2 d_code_50 rfl rfl ?_
  refine Go.if_le (pc' := 55) W2 86 d_code_52 (by decide) rfl (fun q => absurd (by decide) q) (fun _ => ?_)
  refine Go.aload (pc' := 57) W2 d_code_55 rfl rfl rfl ?_
  refine Go.iconst (pc' := 58) W2 (0 : Int32) d_code_57 (by decide) rfl ?_
  refine Go.iload (pc' := 60) W2 d_code_58 rfl rfl ?_
  refine Go.if_le (pc' := 63) W2 80 d_code_60 (by decide) rfl (fun q => absurd (by decide) q) (fun _ => ?_)
  refine Go.aload (pc' := 65) W2 d_code_63 rfl rfl rfl ?_
  refine Go.iloadN (pc' := 66) W2 d_code_65 rfl rfl ?_
  refine Go.iload (pc' := 68) W2 d_code_66 rfl rfl ?_
  refine Go.iconst (pc' := 69) W2 (3 : Int32) d_code_68 (by decide) rfl ?_
  refine Go.iand (pc' := 70) W2 d_code_69 rfl ?_
  refine Go.iload (pc' := 72) W2 d_code_70 rfl rfl ?_
  refine Go.aload (pc' := 74) W2 d_code_72 rfl rfl rfl ?_
  refine Go.static (pc' := 77) W2 (rm_oth G p0 b0 p1 b1 d0 e0 d1 e1 _ _ ka (modes &&& (3 : Int32)) x S0 S1) (w_70 G) (w_71 G) (w_2 G) (w_72 G) (by decide) [] [0, 1, 2, 3] (σf := [(a3, c4)]) rfl rfl [(.ref p0), (.int ka), (.int (modes &&& (3 : Int32))), (.int x), (.ref p1)] [(.int (0 : Int32)), (.ref a3)] rfl (lenOf pd_18 rfl) rfl rfl d_code_74 rfl (by first | exact Nat.le_of_ble_eq_true rfl | (simp; done) | (simp; omega) | omega) (by first | exact Nat.le_of_ble_eq_true rfl | (simp; done) | (simp; omega) | omega) (by first | exact Nat.le_of_ble_eq_true rfl | (simp; done) | (simp; omega) | omega) (by first | exact Nat.le_of_ble_eq_true rfl | (simp; done) | (simp; omega) | omega) ?_
  rintro _ _ _ T12 ⟨a7, c8, b9, c10, rfl, rfl, rfl, S11⟩ W13
  replace W13 : Wk l Z EL1 ({ frames := 9, cells := 56, slots := 1344, locals := 208 } : Room) "com/example/maswali/maswali/RendererWrittenInPinLaw" code 15 (some .boolean) "law" X [(a3, c4)] [(a7, c8), (b9, c10), (p0, d0), (b0, e0), (p1, d1), (b1, e1), (p2, d2), (b2, e2)] T12 25 (50) := W13
  show Go Z EL1 _ _ _ X T12 77 #[.val (.int counts), .val (.int ka), .val (.int kb), .val (.int kc), .val (.int modes), .val (.int x), .val (.ref p0), .val (.ref p1), .val (.ref p2), .val (.int (3 : Int32)), .val (.int (2 : Int32)), .val (.ref a3), .unset, .unset, .unset] [(.ref a7), (.int (0 : Int32)), (.ref a3)]
  refine Go.goto W13 85 d_code_77 (by decide) ?_
  refine Go.aastoreObj (pc' := 86) W13 0 rfl A5 O6 (Or.inr (Or.inl (List.mem_of_getElem? (i := 0) rfl))) S11.1 0 (by decide) (by decide) (by simp) d_code_85 rfl (fun T18 c20 W19 A21 O22 => ?_)
  replace W19 : Wk l Z EL1 ({ frames := 9, cells := 56, slots := 1344, locals := 208 } : Room) "com/example/maswali/maswali/RendererWrittenInPinLaw" code 15 (some .boolean) "law" X [(a3, c20)] [(a7, c8), (b9, c10), (p0, d0), (b0, e0), (p1, d1), (b1, e1), (p2, d2), (b2, e2)] T18 25 (50) := W19
  replace A21 : ArrC Z c20 (.object "java/lang/String") [(.ref a7), (.null)] := A21
  refine Go.iload (pc' := 88) W19 d_code_86 rfl rfl ?_
  refine Go.iconst (pc' := 89) W19 (1 : Int32) d_code_88 (by decide) rfl ?_
  refine Go.icmp_le (pc' := 92) W19 130 d_code_89 (by decide) rfl (fun q => absurd (by decide) q) (fun _ => ?_)
  refine Go.aload (pc' := 94) W19 d_code_92 rfl rfl rfl ?_
  refine Go.iconst (pc' := 95) W19 (1 : Int32) d_code_94 (by decide) rfl ?_
  refine Go.iload (pc' := 97) W19 d_code_95 rfl rfl ?_
  refine Go.iconst (pc' := 98) W19 (1 : Int32) d_code_97 (by decide) rfl ?_
  refine Go.icmp_le (pc' := 101) W19 122 d_code_98 (by decide) rfl (fun q => absurd (by decide) q) (fun _ => ?_)
  refine Go.aload (pc' := 103) W19 d_code_101 rfl rfl rfl ?_
  refine Go.iloadN (pc' := 104) W19 d_code_103 rfl rfl ?_
  refine Go.iload (pc' := 106) W19 d_code_104 rfl rfl ?_
  refine Go.iconst (pc' := 107) W19 (2 : Int32) d_code_106 (by decide) rfl ?_
  refine Go.iushr (pc' := 108) W19 d_code_107 rfl ?_
  refine Go.iconst (pc' := 109) W19 (3 : Int32) d_code_108 (by decide) rfl ?_
  refine Go.iand (pc' := 110) W19 d_code_109 rfl ?_
  refine Go.iload (pc' := 112) W19 d_code_110 rfl rfl ?_
  refine Go.iconst (pc' := 113) W19 (3 : Int32) d_code_112 (by decide) rfl ?_
  refine Go.iushr (pc' := 114) W19 d_code_113 rfl ?_
  refine Go.aload (pc' := 116) W19 d_code_114 rfl rfl rfl ?_
  refine Go.static (pc' := 119) W19 (rm_oth G p1 b1 p2 b2 d1 e1 d2 e2 _ _ kb (((modes.toUInt32 >>> ((2 : Int32) &&& 31).toUInt32).toInt32) &&& (3 : Int32)) ((x.toUInt32 >>> ((3 : Int32) &&& 31).toUInt32).toInt32) S1 S2) (w_70 G) (w_71 G) (w_2 G) (w_72 G) (by decide) [] [4, 5, 6, 7] (σf := [(a3, c20)]) rfl rfl [(.ref p1), (.int kb), (.int (((modes.toUInt32 >>> ((2 : Int32) &&& 31).toUInt32).toInt32) &&& (3 : Int32))), (.int ((x.toUInt32 >>> ((3 : Int32) &&& 31).toUInt32).toInt32)), (.ref p2)] [(.int (1 : Int32)), (.ref a3)] rfl (lenOf pd_18 rfl) rfl rfl d_code_116 rfl (by first | exact Nat.le_of_ble_eq_true rfl | (simp; done) | (simp; omega) | omega) (by first | exact Nat.le_of_ble_eq_true rfl | (simp; done) | (simp; omega) | omega) (by first | exact Nat.le_of_ble_eq_true rfl | (simp; done) | (simp; omega) | omega) (by first | exact Nat.le_of_ble_eq_true rfl | (simp; done) | (simp; omega) | omega) ?_
  rintro _ _ _ T28 ⟨a23, c24, b25, c26, rfl, rfl, rfl, S27⟩ W29
  replace W29 : Wk l Z EL1 ({ frames := 9, cells := 56, slots := 1344, locals := 208 } : Room) "com/example/maswali/maswali/RendererWrittenInPinLaw" code 15 (some .boolean) "law" X [(a3, c20)] [(a23, c24), (b25, c26), (a7, c8), (b9, c10), (p0, d0), (b0, e0), (p1, d1), (b1, e1), (p2, d2), (b2, e2)] T28 31 (62) := W29
  show Go Z EL1 _ _ _ X T28 119 #[.val (.int counts), .val (.int ka), .val (.int kb), .val (.int kc), .val (.int modes), .val (.int x), .val (.ref p0), .val (.ref p1), .val (.ref p2), .val (.int (3 : Int32)), .val (.int (2 : Int32)), .val (.ref a3), .unset, .unset, .unset] [(.ref a23), (.int (1 : Int32)), (.ref a3)]
  refine Go.goto W29 129 d_code_119 (by decide) ?_
  refine Go.aastoreObj (pc' := 130) W29 0 rfl A21 O22 (Or.inr (Or.inl (List.mem_of_getElem? (i := 0) rfl))) S27.1 1 (by decide) (by decide) (by simp) d_code_129 rfl (fun T34 c36 W35 A37 O38 => ?_)
  replace W35 : Wk l Z EL1 ({ frames := 9, cells := 56, slots := 1344, locals := 208 } : Room) "com/example/maswali/maswali/RendererWrittenInPinLaw" code 15 (some .boolean) "law" X [(a3, c36)] [(a23, c24), (b25, c26), (a7, c8), (b9, c10), (p0, d0), (b0, e0), (p1, d1), (b1, e1), (p2, d2), (b2, e2)] T34 31 (62) := W35
  replace A37 : ArrC Z c36 (.object "java/lang/String") [(.ref a7), (.ref a23)] := A37
  refine Go.iload (pc' := 132) W35 d_code_130 rfl rfl ?_
  refine Go.iconst (pc' := 133) W35 (2 : Int32) d_code_132 (by decide) rfl ?_
  refine Go.icmp_le (pc' := 136) W35 176 d_code_133 (by decide) rfl (fun _ => ?_) (fun q => absurd q (by decide))
  refine Go.new (pc' := 179) W35 (w_35 G) (w_36 G) (w_37 G) d_code_176 rfl (by first | exact Nat.le_of_ble_eq_true rfl | (simp; done) | (simp; omega) | omega) (by first | exact Nat.le_of_ble_eq_true rfl | (simp; done) | (simp; omega) | omega) (fun T39 a41 c42 W40 O43 D44 => ?_)
  replace W40 : Wk l Z EL1 ({ frames := 9, cells := 56, slots := 1344, locals := 208 } : Room) "com/example/maswali/maswali/RendererWrittenInPinLaw" code 15 (some .boolean) "law" X [(a41, c42), (a3, c36)] [(a23, c24), (b25, c26), (a7, c8), (b9, c10), (p0, d0), (b0, e0), (p1, d1), (b1, e1), (p2, d2), (b2, e2)] T39 32 (66) := W40
  have F45 : FldC Z c42 "com/example/maswali/maswali/Renderer" "pieces" "[Ljava/lang/String;" (.null) := D44 (Or.inl (w_47 G)) (ty := (.array (.object "java/lang/String"))) (by decide)
  have F46 : FldC Z c42 "com/example/maswali/maswali/Renderer" "bindValues" "Lcom/example/maswali/maswali/BindValues;" (.null) := D44 (Or.inr (w_60 G)) (ty := (.object "com/example/maswali/maswali/BindValues")) (by decide)
  have F47 : FldC Z c42 "com/example/maswali/maswali/Renderer" "dialect" "Lcom/example/maswali/maswali/Dialect;" (.null) := D44 (Or.inr (w_62 G)) (ty := (.object "com/example/maswali/maswali/Dialect")) (by decide)
  have F48 : FldC Z c42 "com/example/maswali/maswali/Renderer" "pieceCount" "I" (.int (0 : Int32)) := D44 (Or.inl (w_69 G)) (ty := .int) (by decide)
  refine Go.dup (pc' := 180) W40 d_code_179 rfl rfl ?_
  refine Go.getstatic (pc' := 183) W40 (w_38 G) Via.refl Sd d_code_180 rfl (fun T49 W50 => ?_)
  refine Go.special (pc' := 186) W50 (a := a41) (rm_ren G a41 c42 nv (.ref da) hnv Sn rfl O43 F45 F48 F47 F46) rfl (w_41 G) (w_42 G) (w_37 G) (w_43 G) (by decide) [0] [] (σf := [(a3, c36)]) rfl rfl [(.ref da)] [(.ref a41)] rfl (lenOf pd_15 rfl) rfl rfl d_code_183 rfl (by first | exact Nat.le_of_ble_eq_true rfl | (simp; done) | (simp; omega) | omega) (by first | exact Nat.le_of_ble_eq_true rfl | (simp; done) | (simp; omega) | omega) (by first | exact Nat.le_of_ble_eq_true rfl | (simp; done) | (simp; omega) | omega) (by first | exact Nat.le_of_ble_eq_true rfl | (simp; done) | (simp; omega) | omega) ?_
  rintro _ _ _ T57 ⟨c51, p52, c53, rfl, rfl, rfl, M54, A55, O56⟩ W58
  replace W58 : Wk l Z EL1 ({ frames := 9, cells := 56, slots := 1344, locals := 208 } : Room) "com/example/maswali/maswali/RendererWrittenInPinLaw" code 15 (some .boolean) "law" X [(a41, c51), (p52, c53), (a3, c36)] [(a23, c24), (b25, c26), (a7, c8), (b9, c10), (p0, d0), (b0, e0), (p1, d1), (b1, e1), (p2, d2), (b2, e2)] T57 34 (132) := W58
  show Go Z EL1 _ _ _ X T57 186 #[.val (.int counts), .val (.int ka), .val (.int kb), .val (.int kc), .val (.int modes), .val (.int x), .val (.ref p0), .val (.ref p1), .val (.ref p2), .val (.int (3 : Int32)), .val (.int (2 : Int32)), .val (.ref a3), .unset, .unset, .unset] [(.ref a41)]
  refine Go.astore (pc' := 188) W58 #[.val (.int counts), .val (.int ka), .val (.int kb), .val (.int kc), .val (.int modes), .val (.int x), .val (.ref p0), .val (.ref p1), .val (.ref p2), .val (.int (3 : Int32)), .val (.int (2 : Int32)), .val (.ref a3), .val (.ref a41), .unset, .unset] d_code_186 rfl rfl rfl ?_
  refine Go.iload (pc' := 190) W58 d_code_188 rfl rfl ?_
  refine Go.if_le (pc' := 193) W58 200 d_code_190 (by decide) rfl (fun q => absurd (by decide) q) (fun _ => ?_)
  refine Go.aload (pc' := 195) W58 d_code_193 rfl rfl rfl ?_
  refine Go.aload (pc' := 197) W58 d_code_195 rfl rfl rfl ?_
  refine Go.virtual (pc' := 200) W58 (rm_app G a41 p52 p0 b0 c51 c53 d0 e0 0 _ _ (by decide) (by simp) S0 M54 A55 O56) (Or.inl (List.mem_of_getElem? (i := 0) rfl)) M54.1 (w_73 G) (w_74 G) (w_76 G) (w_75 G) (w_37 G) (w_77 G) (by decide) [0, 0] [4] (σf := [(a3, c36)]) rfl rfl [(.ref p0)] [] rfl (lenOf pd_17 rfl) rfl rfl d_code_197 rfl (by first | exact Nat.le_of_ble_eq_true rfl | (simp; done) | (simp; omega) | omega) (by first | exact Nat.le_of_ble_eq_true rfl | (simp; done) | (simp; omega) | omega) (by first | exact Nat.le_of_ble_eq_true rfl | (simp; done) | (simp; omega) | omega) (by first | exact Nat.le_of_ble_eq_true rfl | (simp; done) | (simp; omega) | omega) ?_
  rintro _ _ _ T64 ⟨c59, c60, rfl, rfl, rfl, M61, A62, O63⟩ W65
  replace W65 : Wk l Z EL1 ({ frames := 9, cells := 56, slots := 1344, locals := 208 } : Room) "com/example/maswali/maswali/RendererWrittenInPinLaw" code 15 (some .boolean) "law" X [(a41, c59), (p52, c60), (a3, c36)] [(a23, c24), (b25, c26), (a7, c8), (b9, c10), (p0, d0), (b0, e0), (p1, d1), (b1, e1), (p2, d2), (b2, e2)] T64 34 (132) := W65
  show Go Z EL1 _ _ _ X T64 200 #[.val (.int counts), .val (.int ka), .val (.int kb), .val (.int kc), .val (.int modes), .val (.int x), .val (.ref p0), .val (.ref p1), .val (.ref p2), .val (.int (3 : Int32)), .val (.int (2 : Int32)), .val (.ref a3), .val (.ref a41), .unset, .unset] []
  refine Go.iload (pc' := 202) W65 d_code_200 rfl rfl ?_
  refine Go.iconst (pc' := 203) W65 (1 : Int32) d_code_202 (by decide) rfl ?_
  refine Go.icmp_le (pc' := 206) W65 213 d_code_203 (by decide) rfl (fun q => absurd (by decide) q) (fun _ => ?_)
  refine Go.aload (pc' := 208) W65 d_code_206 rfl rfl rfl ?_
  refine Go.aload (pc' := 210) W65 d_code_208 rfl rfl rfl ?_
  refine Go.virtual (pc' := 213) W65 (rm_app G a41 p52 p1 b1 c59 c60 d1 e1 1 _ _ (by decide) (by simp) S1 M61 A62 O63) (Or.inl (List.mem_of_getElem? (i := 0) rfl)) M61.1 (w_73 G) (w_74 G) (w_76 G) (w_75 G) (w_37 G) (w_77 G) (by decide) [0, 0] [6] (σf := [(a3, c36)]) rfl rfl [(.ref p1)] [] rfl (lenOf pd_17 rfl) rfl rfl d_code_210 rfl (by first | exact Nat.le_of_ble_eq_true rfl | (simp; done) | (simp; omega) | omega) (by first | exact Nat.le_of_ble_eq_true rfl | (simp; done) | (simp; omega) | omega) (by first | exact Nat.le_of_ble_eq_true rfl | (simp; done) | (simp; omega) | omega) (by first | exact Nat.le_of_ble_eq_true rfl | (simp; done) | (simp; omega) | omega) ?_
  rintro _ _ _ T71 ⟨c66, c67, rfl, rfl, rfl, M68, A69, O70⟩ W72
  replace W72 : Wk l Z EL1 ({ frames := 9, cells := 56, slots := 1344, locals := 208 } : Room) "com/example/maswali/maswali/RendererWrittenInPinLaw" code 15 (some .boolean) "law" X [(a41, c66), (p52, c67), (a3, c36)] [(a23, c24), (b25, c26), (a7, c8), (b9, c10), (p0, d0), (b0, e0), (p1, d1), (b1, e1), (p2, d2), (b2, e2)] T71 34 (132) := W72
  show Go Z EL1 _ _ _ X T71 213 #[.val (.int counts), .val (.int ka), .val (.int kb), .val (.int kc), .val (.int modes), .val (.int x), .val (.ref p0), .val (.ref p1), .val (.ref p2), .val (.int (3 : Int32)), .val (.int (2 : Int32)), .val (.ref a3), .val (.ref a41), .unset, .unset] []
  refine Go.iload (pc' := 215) W72 d_code_213 rfl rfl ?_
  refine Go.iconst (pc' := 216) W72 (2 : Int32) d_code_215 (by decide) rfl ?_
  refine Go.icmp_le (pc' := 219) W72 226 d_code_216 (by decide) rfl (fun q => absurd (by decide) q) (fun _ => ?_)
  refine Go.aload (pc' := 221) W72 d_code_219 rfl rfl rfl ?_
  refine Go.aload (pc' := 223) W72 d_code_221 rfl rfl rfl ?_
  refine Go.virtual (pc' := 226) W72 (rm_app G a41 p52 p2 b2 c66 c67 d2 e2 2 _ _ (by decide) (by simp) S2 M68 A69 O70) (Or.inl (List.mem_of_getElem? (i := 0) rfl)) M68.1 (w_73 G) (w_74 G) (w_76 G) (w_75 G) (w_37 G) (w_77 G) (by decide) [0, 0] [8] (σf := [(a3, c36)]) rfl rfl [(.ref p2)] [] rfl (lenOf pd_17 rfl) rfl rfl d_code_223 rfl (by first | exact Nat.le_of_ble_eq_true rfl | (simp; done) | (simp; omega) | omega) (by first | exact Nat.le_of_ble_eq_true rfl | (simp; done) | (simp; omega) | omega) (by first | exact Nat.le_of_ble_eq_true rfl | (simp; done) | (simp; omega) | omega) (by first | exact Nat.le_of_ble_eq_true rfl | (simp; done) | (simp; omega) | omega) ?_
  rintro _ _ _ T78 ⟨c73, c74, rfl, rfl, rfl, M75, A76, O77⟩ W79
  replace W79 : Wk l Z EL1 ({ frames := 9, cells := 56, slots := 1344, locals := 208 } : Room) "com/example/maswali/maswali/RendererWrittenInPinLaw" code 15 (some .boolean) "law" X [(a41, c73), (p52, c74), (a3, c36)] [(a23, c24), (b25, c26), (a7, c8), (b9, c10), (p0, d0), (b0, e0), (p1, d1), (b1, e1), (p2, d2), (b2, e2)] T78 34 (132) := W79
  show Go Z EL1 _ _ _ X T78 226 #[.val (.int counts), .val (.int ka), .val (.int kb), .val (.int kc), .val (.int modes), .val (.int x), .val (.ref p0), .val (.ref p1), .val (.ref p2), .val (.int (3 : Int32)), .val (.int (2 : Int32)), .val (.ref a3), .val (.ref a41), .unset, .unset] []
  refine Go.aload (pc' := 228) W79 d_code_226 rfl rfl rfl ?_
  refine Go.aload (pc' := 230) W79 d_code_228 rfl rfl rfl ?_
  refine Go.virtual (pc' := 233) W79 (rm_winN G a41 a3 c73 c36 3 2 _ _ rfl (by decide) M75 A37) (Or.inl (List.mem_of_getElem? (i := 0) rfl)) M75.1 (w_63 G) (w_64 G) (w_66 G) (w_65 G) (w_37 G) (w_67 G) (by decide) [0, 1] [] (σf := [(p52, c74)]) rfl rfl [(.ref a3)] [] rfl (lenOf pd_16 rfl) rfl rfl d_code_230 rfl (by first | exact Nat.le_of_ble_eq_true rfl | (simp; done) | (simp; omega) | omega) (by first | exact Nat.le_of_ble_eq_true rfl | (simp; done) | (simp; omega) | omega) (by first | exact Nat.le_of_ble_eq_true rfl | (simp; done) | (simp; omega) | omega) (by first | exact Nat.le_of_ble_eq_true rfl | (simp; done) | (simp; omega) | omega) ?_
  rintro _ _ _ T80 ⟨rfl, rfl, rfl⟩ W81
  replace W81 : Wk l Z EL1 ({ frames := 9, cells := 56, slots := 1344, locals := 208 } : Room) "com/example/maswali/maswali/RendererWrittenInPinLaw" code 15 (some .boolean) "law" X [(a41, c73), (a3, c36), (p52, c74)] [(a23, c24), (b25, c26), (a7, c8), (b9, c10), (p0, d0), (b0, e0), (p1, d1), (b1, e1), (p2, d2), (b2, e2)] T80 34 (132) := W81
  show Go Z EL1 _ _ _ X T80 233 #[.val (.int counts), .val (.int ka), .val (.int kb), .val (.int kc), .val (.int modes), .val (.int x), .val (.ref p0), .val (.ref p1), .val (.ref p2), .val (.int (3 : Int32)), .val (.int (2 : Int32)), .val (.ref a3), .val (.ref a41), .unset, .unset] [(.int (0 : Int32))]
  refine Go.istore (pc' := 235) W81 #[.val (.int counts), .val (.int ka), .val (.int kb), .val (.int kc), .val (.int modes), .val (.int x), .val (.ref p0), .val (.ref p1), .val (.ref p2), .val (.int (3 : Int32)), .val (.int (2 : Int32)), .val (.ref a3), .val (.ref a41), .val (.int (0 : Int32)), .unset] d_code_233 rfl rfl ?_
  refine Go.iload (pc' := 237) W81 d_code_235 rfl rfl ?_
  refine Go.iload (pc' := 239) W81 d_code_237 rfl rfl ?_
  refine Go.icmp_ne (pc' := 242) W81 300 d_code_239 (by decide) rfl (fun _ => ?_) (fun q => absurd q (by decide))
  refine Go.iconst (pc' := 301) W81 (0 : Int32) d_code_300 (by decide) rfl ?_
  refine Go.istore (pc' := 303) W81 #[.val (.int counts), .val (.int ka), .val (.int kb), .val (.int kc), .val (.int modes), .val (.int x), .val (.ref p0), .val (.ref p1), .val (.ref p2), .val (.int (3 : Int32)), .val (.int (2 : Int32)), .val (.ref a3), .val (.ref a41), .val (.int (0 : Int32)), .val (.int (0 : Int32))] d_code_301 rfl rfl ?_
  refine Go.iload (pc' := 305) W81 d_code_303 rfl rfl ?_
  refine Go.iload (pc' := 307) W81 d_code_305 rfl rfl ?_
  refine Go.icmp_ne (pc' := 310) W81 314 d_code_307 (by decide) rfl (fun q => absurd (by decide) q) (fun _ => ?_)
  refine Go.iconst (pc' := 311) W81 (1 : Int32) d_code_310 (by decide) rfl ?_
  refine Go.goto W81 315 d_code_311 (by decide) ?_
  refine Go.nret (z' := (1 : Int32)) W81 (by simp) (by decide) d_code_315 (by first | exact Nat.le_of_ble_eq_true rfl | (simp; done) | (simp; omega) | omega) (by first | exact Nat.le_of_ble_eq_true rfl | (simp; done) | (simp; omega) | omega) ?_
  rfl
theorem d_code_145 : decode code 145 = .ok (.aload 8, 2) := by decide +kernel
theorem d_code_147 : decode code 147 = .ok (.iload_n 3, 1) := by decide +kernel
theorem d_code_148 : decode code 148 = .ok (.iload 4, 2) := by decide +kernel
theorem d_code_150 : decode code 150 = .ok (.iconst 4, 1) := by decide +kernel
theorem d_code_151 : decode code 151 = .ok (.iushr, 1) := by decide +kernel
theorem d_code_152 : decode code 152 = .ok (.iconst 3, 1) := by decide +kernel
theorem d_code_153 : decode code 153 = .ok (.iand, 1) := by decide +kernel
theorem d_code_154 : decode code 154 = .ok (.iload 5, 2) := by decide +kernel
theorem d_code_156 : decode code 156 = .ok (.bipush 6, 2) := by decide +kernel
theorem d_code_158 : decode code 158 = .ok (.iushr, 1) := by decide +kernel
theorem d_code_159 : decode code 159 = .ok (.aload 6, 2) := by decide +kernel
theorem d_code_161 : decode code 161 = .ok (.invokestatic 18, 3) := by decide +kernel
theorem d_code_164 : decode code 164 = .ok (.goto 11, 3) := by decide +kernel
theorem d_code_284 : decode code 284 = .ok (.aload 8, 2) := by decide +kernel
theorem d_code_286 : decode code 286 = .ok (.aload 11, 2) := by decide +kernel
theorem d_code_288 : decode code 288 = .ok (.iconst 2, 1) := by decide +kernel
theorem d_code_289 : decode code 289 = .ok (.aaload, 1) := by decide +kernel
theorem d_code_290 : decode code 290 = .ok (.invokevirtual 41, 3) := by decide +kernel
theorem d_code_293 : decode code 293 = .ok (.ifCond .eq 7, 3) := by decide +kernel
set_option maxRecDepth 65536 in
set_option maxHeartbeats 40000000 in
theorem rm_t33 {l : Launch} {Z : State} {a0 : Array Value} (G : Cl Z a0) (counts ka kb kc modes x : Int32) (nv : Value) (hnv : nv.isRef = true) (Sn : Sta Z Z.heap "com/example/maswali/maswali/BindValues" "NONE" "[Ljava/lang/Object;" nv) (da : Addr) (Sd : Sta Z Z.heap "com/example/maswali/maswali/Dialect" "POSTGRES" "Lcom/example/maswali/maswali/Dialect;" (.ref da)) (p0 b0 p1 b1 p2 b2 : Addr) (d0 e0 d1 e1 d2 e2 : Cell) (S0 : StrL Z d0 b0 e0 (strF ka)) (S1 : StrL Z d1 b1 e1 (strF kb)) (S2 : StrL Z d2 b2 e2 (strF kc)) {X : Ctx} {T0 : State} (W0 : Wk l Z EL1 ({ frames := 9, cells := 56, slots := 1344, locals := 208 } : Room) "com/example/maswali/maswali/RendererWrittenInPinLaw" code 15 (some .boolean) "law" X [] [(p0, d0), (b0, e0), (p1, d1), (b1, e1), (p2, d2), (b2, e2)] T0 18 (36)) :
    Go Z EL1 56 1344 (fun v _ _ => v = some (.int 1)) X T0 43 #[.val (.int counts), .val (.int ka), .val (.int kb), .val (.int kc), .val (.int modes), .val (.int x), .val (.ref p0), .val (.ref p1), .val (.ref p2), .val (.int (3 : Int32)), .val (.int (3 : Int32)), .unset, .unset, .unset, .unset] [] := by
  refine Go.iload (pc' := 45) W0 d_code_43 rfl rfl ?_
  refine Go.anewarr (pc' := 48) W0 3 (w_4 G) (w_34 G) d_code_45 rfl (by decide) (by decide) (by decide) (by first | exact Nat.le_of_ble_eq_true rfl | (simp; done) | (simp; omega) | omega) (by first | exact Nat.le_of_ble_eq_true rfl | (simp; done) | (simp; omega) | omega) (fun T1 a3 c4 W2 A5 O6 => ?_)
  replace W2 : Wk l Z EL1 ({ frames := 9, cells := 56, slots := 1344, locals := 208 } : Room) "com/example/maswali/maswali/RendererWrittenInPinLaw" code 15 (some .boolean) "law" X [(a3, c4)] [(p0, d0), (b0, e0), (p1, d1), (b1, e1), (p2, d2), (b2, e2)] T1 19 (39) := W2
  refine Go.astore (pc' := 50) W2 #[.val (.int counts), .val (.int ka), .val (.int kb), .val (.int kc), .val (.int modes), .val (.int x), .val (.ref p0), .val (.ref p1), .val (.ref p2), .val (.int (3 : Int32)), .val (.int (3 : Int32)), .val (.ref a3), .unset, .unset, .unset] d_code_48 rfl rfl rfl ?_
  refine Go.iload (pc' := 52) W2 d_code_50 rfl rfl ?_
  refine Go.if_le (pc' := 55) W2 86 d_code_52 (by decide) rfl (fun q => absurd (by decide) q) (fun _ => ?_)
  refine Go.aload (pc' := 57) W2 d_code_55 rfl rfl rfl ?_
  refine Go.iconst (pc' := 58) W2 (0 : Int32) d_code_57 (by decide) rfl ?_
  refine Go.iload (pc' := 60) W2 d_code_58 rfl rfl ?_
  refine Go.if_le (pc' := 63) W2 80 d_code_60 (by decide) rfl (fun q => absurd (by decide) q) (fun _ => ?_)
  refine Go.aload (pc' := 65) W2 d_code_63 rfl rfl rfl ?_
  refine Go.iloadN (pc' := 66) W2 d_code_65 rfl rfl ?_
  refine Go.iload (pc' := 68) W2 d_code_66 rfl rfl ?_
  refine Go.iconst (pc' := 69) W2 (3 : Int32) d_code_68 (by decide) rfl ?_
  refine Go.iand (pc' := 70) W2 d_code_69 rfl ?_
  refine Go.iload (pc' := 72) W2 d_code_70 rfl rfl ?_
  refine Go.aload (pc' := 74) W2 d_code_72 rfl rfl rfl ?_
  refine Go.static (pc' := 77) W2 (rm_oth G p0 b0 p1 b1 d0 e0 d1 e1 _ _ ka (modes &&& (3 : Int32)) x S0 S1) (w_70 G) (w_71 G) (w_2 G) (w_72 G) (by decide) [] [0, 1, 2, 3] (σf := [(a3, c4)]) rfl rfl [(.ref p0), (.int ka), (.int (modes &&& (3 : Int32))), (.int x), (.ref p1)] [(.int (0 : Int32)), (.ref a3)] rfl (lenOf pd_18 rfl) rfl rfl d_code_74 rfl (by first | exact Nat.le_of_ble_eq_true rfl | (simp; done) | (simp; omega) | omega) (by first | exact Nat.le_of_ble_eq_true rfl | (simp; done) | (simp; omega) | omega) (by first | exact Nat.le_of_ble_eq_true rfl | (simp; done) | (simp; omega) | omega) (by first | exact Nat.le_of_ble_eq_true rfl | (simp; done) | (simp; omega) | omega) ?_
  rintro _ _ _ T12 ⟨a7, c8, b9, c10, rfl, rfl, rfl, S11⟩ W13
  replace W13 : Wk l Z EL1 ({ frames := 9, cells := 56, slots := 1344, locals := 208 } : Room) "com/example/maswali/maswali/RendererWrittenInPinLaw" code 15 (some .boolean) "law" X [(a3, c4)] [(a7, c8), (b9, c10), (p0, d0), (b0, e0), (p1, d1), (b1, e1), (p2, d2), (b2, e2)] T12 25 (51) := W13
  show Go Z EL1 _ _ _ X T12 77 #[.val (.int counts), .val (.int ka), .val (.int kb), .val (.int kc), .val (.int modes), .val (.int x), .val (.ref p0), .val (.ref p1), .val (.ref p2), .val (.int (3 : Int32)), .val (.int (3 : Int32)), .val (.ref a3), .unset, .unset, .unset] [(.ref a7), (.int (0 : Int32)), (.ref a3)]
  refine Go.goto W13 85 d_code_77 (by decide) ?_
  refine Go.aastoreObj (pc' := 86) W13 0 rfl A5 O6 (Or.inr (Or.inl (List.mem_of_getElem? (i := 0) rfl))) S11.1 0 (by decide) (by decide) (by simp) d_code_85 rfl (fun T18 c20 W19 A21 O22 => ?_)
  replace W19 : Wk l Z EL1 ({ frames := 9, cells := 56, slots := 1344, locals := 208 } : Room) "com/example/maswali/maswali/RendererWrittenInPinLaw" code 15 (some .boolean) "law" X [(a3, c20)] [(a7, c8), (b9, c10), (p0, d0), (b0, e0), (p1, d1), (b1, e1), (p2, d2), (b2, e2)] T18 25 (51) := W19
  replace A21 : ArrC Z c20 (.object "java/lang/String") [(.ref a7), (.null), (.null)] := A21
  refine Go.iload (pc' := 88) W19 d_code_86 rfl rfl ?_
  refine Go.iconst (pc' := 89) W19 (1 : Int32) d_code_88 (by decide) rfl ?_
  refine Go.icmp_le (pc' := 92) W19 130 d_code_89 (by decide) rfl (fun q => absurd (by decide) q) (fun _ => ?_)
  refine Go.aload (pc' := 94) W19 d_code_92 rfl rfl rfl ?_
  refine Go.iconst (pc' := 95) W19 (1 : Int32) d_code_94 (by decide) rfl ?_
  refine Go.iload (pc' := 97) W19 d_code_95 rfl rfl ?_
  refine Go.iconst (pc' := 98) W19 (1 : Int32) d_code_97 (by decide) rfl ?_
  refine Go.icmp_le (pc' := 101) W19 122 d_code_98 (by decide) rfl (fun q => absurd (by decide) q) (fun _ => ?_)
  refine Go.aload (pc' := 103) W19 d_code_101 rfl rfl rfl ?_
  refine Go.iloadN (pc' := 104) W19 d_code_103 rfl rfl ?_
  refine Go.iload (pc' := 106) W19 d_code_104 rfl rfl ?_
  refine Go.iconst (pc' := 107) W19 (2 : Int32) d_code_106 (by decide) rfl ?_
  refine Go.iushr (pc' := 108) W19 d_code_107 rfl ?_
  refine Go.iconst (pc' := 109) W19 (3 : Int32) d_code_108 (by decide) rfl ?_
  refine Go.iand (pc' := 110) W19 d_code_109 rfl ?_
  refine Go.iload (pc' := 112) W19 d_code_110 rfl rfl ?_
  refine Go.iconst (pc' := 113) W19 (3 : Int32) d_code_112 (by decide) rfl ?_
  refine Go.iushr (pc' := 114) W19 d_code_113 rfl ?_
  refine Go.aload (pc' := 116) W19 d_code_114 rfl rfl rfl ?_
  refine Go.static (pc' := 119) W19 (rm_oth G p1 b1 p2 b2 d1 e1 d2 e2 _ _ kb (((modes.toUInt32 >>> ((2 : Int32) &&& 31).toUInt32).toInt32) &&& (3 : Int32)) ((x.toUInt32 >>> ((3 : Int32) &&& 31).toUInt32).toInt32) S1 S2) (w_70 G) (w_71 G) (w_2 G) (w_72 G) (by decide) [] [4, 5, 6, 7] (σf := [(a3, c20)]) rfl rfl [(.ref p1), (.int kb), (.int (((modes.toUInt32 >>> ((2 : Int32) &&& 31).toUInt32).toInt32) &&& (3 : Int32))), (.int ((x.toUInt32 >>> ((3 : Int32) &&& 31).toUInt32).toInt32)), (.ref p2)] [(.int (1 : Int32)), (.ref a3)] rfl (lenOf pd_18 rfl) rfl rfl d_code_116 rfl (by first | exact Nat.le_of_ble_eq_true rfl | (simp; done) | (simp; omega) | omega) (by first | exact Nat.le_of_ble_eq_true rfl | (simp; done) | (simp; omega) | omega) (by first | exact Nat.le_of_ble_eq_true rfl | (simp; done) | (simp; omega) | omega) (by first | exact Nat.le_of_ble_eq_true rfl | (simp; done) | (simp; omega) | omega) ?_
  rintro _ _ _ T28 ⟨a23, c24, b25, c26, rfl, rfl, rfl, S27⟩ W29
  replace W29 : Wk l Z EL1 ({ frames := 9, cells := 56, slots := 1344, locals := 208 } : Room) "com/example/maswali/maswali/RendererWrittenInPinLaw" code 15 (some .boolean) "law" X [(a3, c20)] [(a23, c24), (b25, c26), (a7, c8), (b9, c10), (p0, d0), (b0, e0), (p1, d1), (b1, e1), (p2, d2), (b2, e2)] T28 31 (63) := W29
  show Go Z EL1 _ _ _ X T28 119 #[.val (.int counts), .val (.int ka), .val (.int kb), .val (.int kc), .val (.int modes), .val (.int x), .val (.ref p0), .val (.ref p1), .val (.ref p2), .val (.int (3 : Int32)), .val (.int (3 : Int32)), .val (.ref a3), .unset, .unset, .unset] [(.ref a23), (.int (1 : Int32)), (.ref a3)]
  refine Go.goto W29 129 d_code_119 (by decide) ?_
  refine Go.aastoreObj (pc' := 130) W29 0 rfl A21 O22 (Or.inr (Or.inl (List.mem_of_getElem? (i := 0) rfl))) S27.1 1 (by decide) (by decide) (by simp) d_code_129 rfl (fun T34 c36 W35 A37 O38 => ?_)
  replace W35 : Wk l Z EL1 ({ frames := 9, cells := 56, slots := 1344, locals := 208 } : Room) "com/example/maswali/maswali/RendererWrittenInPinLaw" code 15 (some .boolean) "law" X [(a3, c36)] [(a23, c24), (b25, c26), (a7, c8), (b9, c10), (p0, d0), (b0, e0), (p1, d1), (b1, e1), (p2, d2), (b2, e2)] T34 31 (63) := W35
  replace A37 : ArrC Z c36 (.object "java/lang/String") [(.ref a7), (.ref a23), (.null)] := A37
  refine Go.iload (pc' := 132) W35 d_code_130 rfl rfl ?_
  refine Go.iconst (pc' := 133) W35 (2 : Int32) d_code_132 (by decide) rfl ?_
  refine Go.icmp_le (pc' := 136) W35 176 d_code_133 (by decide) rfl (fun q => absurd (by decide) q) (fun _ => ?_)
  refine Go.aload (pc' := 138) W35 d_code_136 rfl rfl rfl ?_
  refine Go.iconst (pc' := 139) W35 (2 : Int32) d_code_138 (by decide) rfl ?_
  refine Go.iload (pc' := 141) W35 d_code_139 rfl rfl ?_
  refine Go.iconst (pc' := 142) W35 (2 : Int32) d_code_141 (by decide) rfl ?_
  refine Go.icmp_le (pc' := 145) W35 167 d_code_142 (by decide) rfl (fun q => absurd (by decide) q) (fun _ => ?_)
  refine Go.aload (pc' := 147) W35 d_code_145 rfl rfl rfl ?_
  refine Go.iloadN (pc' := 148) W35 d_code_147 rfl rfl ?_
  refine Go.iload (pc' := 150) W35 d_code_148 rfl rfl ?_
  refine Go.iconst (pc' := 151) W35 (4 : Int32) d_code_150 (by decide) rfl ?_
  refine Go.iushr (pc' := 152) W35 d_code_151 rfl ?_
  refine Go.iconst (pc' := 153) W35 (3 : Int32) d_code_152 (by decide) rfl ?_
  refine Go.iand (pc' := 154) W35 d_code_153 rfl ?_
  refine Go.iload (pc' := 156) W35 d_code_154 rfl rfl ?_
  refine Go.bipush (pc' := 158) W35 (6 : Int32) d_code_156 (by decide) rfl ?_
  refine Go.iushr (pc' := 159) W35 d_code_158 rfl ?_
  refine Go.aload (pc' := 161) W35 d_code_159 rfl rfl rfl ?_
  refine Go.static (pc' := 164) W35 (rm_oth G p2 b2 p0 b0 d2 e2 d0 e0 _ _ kc (((modes.toUInt32 >>> ((4 : Int32) &&& 31).toUInt32).toInt32) &&& (3 : Int32)) ((x.toUInt32 >>> ((6 : Int32) &&& 31).toUInt32).toInt32) S2 S0) (w_70 G) (w_71 G) (w_2 G) (w_72 G) (by decide) [] [8, 9, 4, 5] (σf := [(a3, c36)]) rfl rfl [(.ref p2), (.int kc), (.int (((modes.toUInt32 >>> ((4 : Int32) &&& 31).toUInt32).toInt32) &&& (3 : Int32))), (.int ((x.toUInt32 >>> ((6 : Int32) &&& 31).toUInt32).toInt32)), (.ref p0)] [(.int (2 : Int32)), (.ref a3)] rfl (lenOf pd_18 rfl) rfl rfl d_code_161 rfl (by first | exact Nat.le_of_ble_eq_true rfl | (simp; done) | (simp; omega) | omega) (by first | exact Nat.le_of_ble_eq_true rfl | (simp; done) | (simp; omega) | omega) (by first | exact Nat.le_of_ble_eq_true rfl | (simp; done) | (simp; omega) | omega) (by first | exact Nat.le_of_ble_eq_true rfl | (simp; done) | (simp; omega) | omega) ?_
  rintro _ _ _ T44 ⟨a39, c40, b41, c42, rfl, rfl, rfl, S43⟩ W45
  replace W45 : Wk l Z EL1 ({ frames := 9, cells := 56, slots := 1344, locals := 208 } : Room) "com/example/maswali/maswali/RendererWrittenInPinLaw" code 15 (some .boolean) "law" X [(a3, c36)] [(a39, c40), (b41, c42), (a23, c24), (b25, c26), (a7, c8), (b9, c10), (p0, d0), (b0, e0), (p1, d1), (b1, e1), (p2, d2), (b2, e2)] T44 37 (75) := W45
  show Go Z EL1 _ _ _ X T44 164 #[.val (.int counts), .val (.int ka), .val (.int kb), .val (.int kc), .val (.int modes), .val (.int x), .val (.ref p0), .val (.ref p1), .val (.ref p2), .val (.int (3 : Int32)), .val (.int (3 : Int32)), .val (.ref a3), .unset, .unset, .unset] [(.ref a39), (.int (2 : Int32)), (.ref a3)]
  refine Go.goto W45 175 d_code_164 (by decide) ?_
  refine Go.aastoreObj (pc' := 176) W45 0 rfl A37 O38 (Or.inr (Or.inl (List.mem_of_getElem? (i := 0) rfl))) S43.1 2 (by decide) (by decide) (by simp) d_code_175 rfl (fun T50 c52 W51 A53 O54 => ?_)
  replace W51 : Wk l Z EL1 ({ frames := 9, cells := 56, slots := 1344, locals := 208 } : Room) "com/example/maswali/maswali/RendererWrittenInPinLaw" code 15 (some .boolean) "law" X [(a3, c52)] [(a39, c40), (b41, c42), (a23, c24), (b25, c26), (a7, c8), (b9, c10), (p0, d0), (b0, e0), (p1, d1), (b1, e1), (p2, d2), (b2, e2)] T50 37 (75) := W51
  replace A53 : ArrC Z c52 (.object "java/lang/String") [(.ref a7), (.ref a23), (.ref a39)] := A53
  refine Go.new (pc' := 179) W51 (w_35 G) (w_36 G) (w_37 G) d_code_176 rfl (by first | exact Nat.le_of_ble_eq_true rfl | (simp; done) | (simp; omega) | omega) (by first | exact Nat.le_of_ble_eq_true rfl | (simp; done) | (simp; omega) | omega) (fun T55 a57 c58 W56 O59 D60 => ?_)
  replace W56 : Wk l Z EL1 ({ frames := 9, cells := 56, slots := 1344, locals := 208 } : Room) "com/example/maswali/maswali/RendererWrittenInPinLaw" code 15 (some .boolean) "law" X [(a57, c58), (a3, c52)] [(a39, c40), (b41, c42), (a23, c24), (b25, c26), (a7, c8), (b9, c10), (p0, d0), (b0, e0), (p1, d1), (b1, e1), (p2, d2), (b2, e2)] T55 38 (79) := W56
  have F61 : FldC Z c58 "com/example/maswali/maswali/Renderer" "pieces" "[Ljava/lang/String;" (.null) := D60 (Or.inl (w_47 G)) (ty := (.array (.object "java/lang/String"))) (by decide)
  have F62 : FldC Z c58 "com/example/maswali/maswali/Renderer" "bindValues" "Lcom/example/maswali/maswali/BindValues;" (.null) := D60 (Or.inr (w_60 G)) (ty := (.object "com/example/maswali/maswali/BindValues")) (by decide)
  have F63 : FldC Z c58 "com/example/maswali/maswali/Renderer" "dialect" "Lcom/example/maswali/maswali/Dialect;" (.null) := D60 (Or.inr (w_62 G)) (ty := (.object "com/example/maswali/maswali/Dialect")) (by decide)
  have F64 : FldC Z c58 "com/example/maswali/maswali/Renderer" "pieceCount" "I" (.int (0 : Int32)) := D60 (Or.inl (w_69 G)) (ty := .int) (by decide)
  refine Go.dup (pc' := 180) W56 d_code_179 rfl rfl ?_
  refine Go.getstatic (pc' := 183) W56 (w_38 G) Via.refl Sd d_code_180 rfl (fun T65 W66 => ?_)
  refine Go.special (pc' := 186) W66 (a := a57) (rm_ren G a57 c58 nv (.ref da) hnv Sn rfl O59 F61 F64 F63 F62) rfl (w_41 G) (w_42 G) (w_37 G) (w_43 G) (by decide) [0] [] (σf := [(a3, c52)]) rfl rfl [(.ref da)] [(.ref a57)] rfl (lenOf pd_15 rfl) rfl rfl d_code_183 rfl (by first | exact Nat.le_of_ble_eq_true rfl | (simp; done) | (simp; omega) | omega) (by first | exact Nat.le_of_ble_eq_true rfl | (simp; done) | (simp; omega) | omega) (by first | exact Nat.le_of_ble_eq_true rfl | (simp; done) | (simp; omega) | omega) (by first | exact Nat.le_of_ble_eq_true rfl | (simp; done) | (simp; omega) | omega) ?_
  rintro _ _ _ T73 ⟨c67, p68, c69, rfl, rfl, rfl, M70, A71, O72⟩ W74
  replace W74 : Wk l Z EL1 ({ frames := 9, cells := 56, slots := 1344, locals := 208 } : Room) "com/example/maswali/maswali/RendererWrittenInPinLaw" code 15 (some .boolean) "law" X [(a57, c67), (p68, c69), (a3, c52)] [(a39, c40), (b41, c42), (a23, c24), (b25, c26), (a7, c8), (b9, c10), (p0, d0), (b0, e0), (p1, d1), (b1, e1), (p2, d2), (b2, e2)] T73 40 (145) := W74
  show Go Z EL1 _ _ _ X T73 186 #[.val (.int counts), .val (.int ka), .val (.int kb), .val (.int kc), .val (.int modes), .val (.int x), .val (.ref p0), .val (.ref p1), .val (.ref p2), .val (.int (3 : Int32)), .val (.int (3 : Int32)), .val (.ref a3), .unset, .unset, .unset] [(.ref a57)]
  refine Go.astore (pc' := 188) W74 #[.val (.int counts), .val (.int ka), .val (.int kb), .val (.int kc), .val (.int modes), .val (.int x), .val (.ref p0), .val (.ref p1), .val (.ref p2), .val (.int (3 : Int32)), .val (.int (3 : Int32)), .val (.ref a3), .val (.ref a57), .unset, .unset] d_code_186 rfl rfl rfl ?_
  refine Go.iload (pc' := 190) W74 d_code_188 rfl rfl ?_
  refine Go.if_le (pc' := 193) W74 200 d_code_190 (by decide) rfl (fun q => absurd (by decide) q) (fun _ => ?_)
  refine Go.aload (pc' := 195) W74 d_code_193 rfl rfl rfl ?_
  refine Go.aload (pc' := 197) W74 d_code_195 rfl rfl rfl ?_
  refine Go.virtual (pc' := 200) W74 (rm_app G a57 p68 p0 b0 c67 c69 d0 e0 0 _ _ (by decide) (by simp) S0 M70 A71 O72) (Or.inl (List.mem_of_getElem? (i := 0) rfl)) M70.1 (w_73 G) (w_74 G) (w_76 G) (w_75 G) (w_37 G) (w_77 G) (by decide) [0, 0] [6] (σf := [(a3, c52)]) rfl rfl [(.ref p0)] [] rfl (lenOf pd_17 rfl) rfl rfl d_code_197 rfl (by first | exact Nat.le_of_ble_eq_true rfl | (simp; done) | (simp; omega) | omega) (by first | exact Nat.le_of_ble_eq_true rfl | (simp; done) | (simp; omega) | omega) (by first | exact Nat.le_of_ble_eq_true rfl | (simp; done) | (simp; omega) | omega) (by first | exact Nat.le_of_ble_eq_true rfl | (simp; done) | (simp; omega) | omega) ?_
  rintro _ _ _ T80 ⟨c75, c76, rfl, rfl, rfl, M77, A78, O79⟩ W81
  replace W81 : Wk l Z EL1 ({ frames := 9, cells := 56, slots := 1344, locals := 208 } : Room) "com/example/maswali/maswali/RendererWrittenInPinLaw" code 15 (some .boolean) "law" X [(a57, c75), (p68, c76), (a3, c52)] [(a39, c40), (b41, c42), (a23, c24), (b25, c26), (a7, c8), (b9, c10), (p0, d0), (b0, e0), (p1, d1), (b1, e1), (p2, d2), (b2, e2)] T80 40 (145) := W81
  show Go Z EL1 _ _ _ X T80 200 #[.val (.int counts), .val (.int ka), .val (.int kb), .val (.int kc), .val (.int modes), .val (.int x), .val (.ref p0), .val (.ref p1), .val (.ref p2), .val (.int (3 : Int32)), .val (.int (3 : Int32)), .val (.ref a3), .val (.ref a57), .unset, .unset] []
  refine Go.iload (pc' := 202) W81 d_code_200 rfl rfl ?_
  refine Go.iconst (pc' := 203) W81 (1 : Int32) d_code_202 (by decide) rfl ?_
  refine Go.icmp_le (pc' := 206) W81 213 d_code_203 (by decide) rfl (fun q => absurd (by decide) q) (fun _ => ?_)
  refine Go.aload (pc' := 208) W81 d_code_206 rfl rfl rfl ?_
  refine Go.aload (pc' := 210) W81 d_code_208 rfl rfl rfl ?_
  refine Go.virtual (pc' := 213) W81 (rm_app G a57 p68 p1 b1 c75 c76 d1 e1 1 _ _ (by decide) (by simp) S1 M77 A78 O79) (Or.inl (List.mem_of_getElem? (i := 0) rfl)) M77.1 (w_73 G) (w_74 G) (w_76 G) (w_75 G) (w_37 G) (w_77 G) (by decide) [0, 0] [8] (σf := [(a3, c52)]) rfl rfl [(.ref p1)] [] rfl (lenOf pd_17 rfl) rfl rfl d_code_210 rfl (by first | exact Nat.le_of_ble_eq_true rfl | (simp; done) | (simp; omega) | omega) (by first | exact Nat.le_of_ble_eq_true rfl | (simp; done) | (simp; omega) | omega) (by first | exact Nat.le_of_ble_eq_true rfl | (simp; done) | (simp; omega) | omega) (by first | exact Nat.le_of_ble_eq_true rfl | (simp; done) | (simp; omega) | omega) ?_
  rintro _ _ _ T87 ⟨c82, c83, rfl, rfl, rfl, M84, A85, O86⟩ W88
  replace W88 : Wk l Z EL1 ({ frames := 9, cells := 56, slots := 1344, locals := 208 } : Room) "com/example/maswali/maswali/RendererWrittenInPinLaw" code 15 (some .boolean) "law" X [(a57, c82), (p68, c83), (a3, c52)] [(a39, c40), (b41, c42), (a23, c24), (b25, c26), (a7, c8), (b9, c10), (p0, d0), (b0, e0), (p1, d1), (b1, e1), (p2, d2), (b2, e2)] T87 40 (145) := W88
  show Go Z EL1 _ _ _ X T87 213 #[.val (.int counts), .val (.int ka), .val (.int kb), .val (.int kc), .val (.int modes), .val (.int x), .val (.ref p0), .val (.ref p1), .val (.ref p2), .val (.int (3 : Int32)), .val (.int (3 : Int32)), .val (.ref a3), .val (.ref a57), .unset, .unset] []
  refine Go.iload (pc' := 215) W88 d_code_213 rfl rfl ?_
  refine Go.iconst (pc' := 216) W88 (2 : Int32) d_code_215 (by decide) rfl ?_
  refine Go.icmp_le (pc' := 219) W88 226 d_code_216 (by decide) rfl (fun q => absurd (by decide) q) (fun _ => ?_)
  refine Go.aload (pc' := 221) W88 d_code_219 rfl rfl rfl ?_
  refine Go.aload (pc' := 223) W88 d_code_221 rfl rfl rfl ?_
  refine Go.virtual (pc' := 226) W88 (rm_app G a57 p68 p2 b2 c82 c83 d2 e2 2 _ _ (by decide) (by simp) S2 M84 A85 O86) (Or.inl (List.mem_of_getElem? (i := 0) rfl)) M84.1 (w_73 G) (w_74 G) (w_76 G) (w_75 G) (w_37 G) (w_77 G) (by decide) [0, 0] [10] (σf := [(a3, c52)]) rfl rfl [(.ref p2)] [] rfl (lenOf pd_17 rfl) rfl rfl d_code_223 rfl (by first | exact Nat.le_of_ble_eq_true rfl | (simp; done) | (simp; omega) | omega) (by first | exact Nat.le_of_ble_eq_true rfl | (simp; done) | (simp; omega) | omega) (by first | exact Nat.le_of_ble_eq_true rfl | (simp; done) | (simp; omega) | omega) (by first | exact Nat.le_of_ble_eq_true rfl | (simp; done) | (simp; omega) | omega) ?_
  rintro _ _ _ T94 ⟨c89, c90, rfl, rfl, rfl, M91, A92, O93⟩ W95
  replace W95 : Wk l Z EL1 ({ frames := 9, cells := 56, slots := 1344, locals := 208 } : Room) "com/example/maswali/maswali/RendererWrittenInPinLaw" code 15 (some .boolean) "law" X [(a57, c89), (p68, c90), (a3, c52)] [(a39, c40), (b41, c42), (a23, c24), (b25, c26), (a7, c8), (b9, c10), (p0, d0), (b0, e0), (p1, d1), (b1, e1), (p2, d2), (b2, e2)] T94 40 (145) := W95
  show Go Z EL1 _ _ _ X T94 226 #[.val (.int counts), .val (.int ka), .val (.int kb), .val (.int kc), .val (.int modes), .val (.int x), .val (.ref p0), .val (.ref p1), .val (.ref p2), .val (.int (3 : Int32)), .val (.int (3 : Int32)), .val (.ref a3), .val (.ref a57), .unset, .unset] []
  refine Go.aload (pc' := 228) W95 d_code_226 rfl rfl rfl ?_
  refine Go.aload (pc' := 230) W95 d_code_228 rfl rfl rfl ?_
  refine Go.virtual (pc' := 233) W95 (rm_win3 G a57 p68 a3 c89 c90 c52 _ p0 b0 a7 b9 d0 e0 c8 c10 _ _ S0 S11 (by simp) p1 b1 a23 b25 d1 e1 c24 c26 _ _ S1 S27 (by simp) p2 b2 a39 b41 d2 e2 c40 c42 _ _ S2 S43 (by simp) M91 A92 A53) (Or.inl (List.mem_of_getElem? (i := 0) rfl)) M91.1 (w_63 G) (w_64 G) (w_66 G) (w_65 G) (w_37 G) (w_67 G) (by decide) [0, 0, 0] [6, 7, 4, 5, 8, 9, 2, 3, 10, 11, 0, 1] (σf := []) rfl rfl [(.ref a3)] [] rfl (lenOf pd_16 rfl) rfl rfl d_code_230 rfl (by first | exact Nat.le_of_ble_eq_true rfl | (simp; done) | (simp; omega) | omega) (by first | exact Nat.le_of_ble_eq_true rfl | (simp; done) | (simp; omega) | omega) (by first | exact Nat.le_of_ble_eq_true rfl | (simp; done) | (simp; omega) | omega) (by first | exact Nat.le_of_ble_eq_true rfl | (simp; done) | (simp; omega) | omega) ?_
  rintro _ _ _ T96 ⟨rfl, rfl, rfl⟩ W97
  replace W97 : Wk l Z EL1 ({ frames := 9, cells := 56, slots := 1344, locals := 208 } : Room) "com/example/maswali/maswali/RendererWrittenInPinLaw" code 15 (some .boolean) "law" X [(a57, c89), (p68, c90), (a3, c52)] [(a39, c40), (b41, c42), (a23, c24), (b25, c26), (a7, c8), (b9, c10), (p0, d0), (b0, e0), (p1, d1), (b1, e1), (p2, d2), (b2, e2)] T96 40 (145) := W97
  show Go Z EL1 _ _ _ X T96 233 #[.val (.int counts), .val (.int ka), .val (.int kb), .val (.int kc), .val (.int modes), .val (.int x), .val (.ref p0), .val (.ref p1), .val (.ref p2), .val (.int (3 : Int32)), .val (.int (3 : Int32)), .val (.ref a3), .val (.ref a57), .unset, .unset] [(.int (if (strF ka) = (othF (strF ka) ka (modes &&& (3 : Int32)) x (strF kb)) ∧ (strF kb) = (othF (strF kb) kb (((modes.toUInt32 >>> ((2 : Int32) &&& 31).toUInt32).toInt32) &&& (3 : Int32)) ((x.toUInt32 >>> ((3 : Int32) &&& 31).toUInt32).toInt32) (strF kc)) ∧ (strF kc) = (othF (strF kc) kc (((modes.toUInt32 >>> ((4 : Int32) &&& 31).toUInt32).toInt32) &&& (3 : Int32)) ((x.toUInt32 >>> ((6 : Int32) &&& 31).toUInt32).toInt32) (strF ka)) then 1 else 0))]
  refine Go.istore (pc' := 235) W97 #[.val (.int counts), .val (.int ka), .val (.int kb), .val (.int kc), .val (.int modes), .val (.int x), .val (.ref p0), .val (.ref p1), .val (.ref p2), .val (.int (3 : Int32)), .val (.int (3 : Int32)), .val (.ref a3), .val (.ref a57), .val (.int (if (strF ka) = (othF (strF ka) ka (modes &&& (3 : Int32)) x (strF kb)) ∧ (strF kb) = (othF (strF kb) kb (((modes.toUInt32 >>> ((2 : Int32) &&& 31).toUInt32).toInt32) &&& (3 : Int32)) ((x.toUInt32 >>> ((3 : Int32) &&& 31).toUInt32).toInt32) (strF kc)) ∧ (strF kc) = (othF (strF kc) kc (((modes.toUInt32 >>> ((4 : Int32) &&& 31).toUInt32).toInt32) &&& (3 : Int32)) ((x.toUInt32 >>> ((6 : Int32) &&& 31).toUInt32).toInt32) (strF ka)) then 1 else 0)), .unset] d_code_233 rfl rfl ?_
  refine Go.iload (pc' := 237) W97 d_code_235 rfl rfl ?_
  refine Go.iload (pc' := 239) W97 d_code_237 rfl rfl ?_
  refine Go.icmp_ne (pc' := 242) W97 300 d_code_239 (by decide) rfl (fun q => absurd (by decide) q) (fun _ => ?_)
  refine Go.iload (pc' := 244) W97 d_code_242 rfl rfl ?_
  refine Go.iconst (pc' := 245) W97 (1 : Int32) d_code_244 (by decide) rfl ?_
  refine Go.icmp_lt (pc' := 248) W97 260 d_code_245 (by decide) rfl (fun q => absurd q (by decide)) (fun _ => ?_)
  refine Go.aload (pc' := 250) W97 d_code_248 rfl rfl rfl ?_
  refine Go.aload (pc' := 252) W97 d_code_250 rfl rfl rfl ?_
  refine Go.iconst (pc' := 253) W97 (0 : Int32) d_code_252 (by decide) rfl ?_
  refine Go.aaload (pc' := 254) W97 (Or.inl (List.mem_of_getElem? (i := 2) rfl)) A53 rfl 0 (by decide) (by decide) rfl d_code_253 rfl ?_
  refine Go.virtual (pc' := 257) W97 (rm_eqs G p0 a7 b0 b9 d0 c8 e0 c10 _ _ S0 S11) (Or.inr (Or.inl (List.mem_of_getElem? (i := 6) rfl))) S0.1 (w_91 G) (w_82 G) (w_84 G) (w_83 G) (w_6 G) (w_85 G) (by decide) [] [6, 7, 4, 5] (σf := [(a57, c89), (p68, c90), (a3, c52)]) rfl rfl [(.ref a7)] [] rfl (lenOf pd_14 rfl) rfl rfl d_code_254 rfl (by first | exact Nat.le_of_ble_eq_true rfl | (simp; done) | (simp; omega) | omega) (by first | exact Nat.le_of_ble_eq_true rfl | (simp; done) | (simp; omega) | omega) (by first | exact Nat.le_of_ble_eq_true rfl | (simp; done) | (simp; omega) | omega) (by first | exact Nat.le_of_ble_eq_true rfl | (simp; done) | (simp; omega) | omega) ?_
  rintro _ _ _ T98 ⟨rfl, rfl, rfl⟩ W99
  replace W99 : Wk l Z EL1 ({ frames := 9, cells := 56, slots := 1344, locals := 208 } : Room) "com/example/maswali/maswali/RendererWrittenInPinLaw" code 15 (some .boolean) "law" X [(a57, c89), (p68, c90), (a3, c52)] [(a39, c40), (b41, c42), (a23, c24), (b25, c26), (a7, c8), (b9, c10), (p0, d0), (b0, e0), (p1, d1), (b1, e1), (p2, d2), (b2, e2)] T98 40 (145) := W99
  show Go Z EL1 _ _ _ X T98 257 #[.val (.int counts), .val (.int ka), .val (.int kb), .val (.int kc), .val (.int modes), .val (.int x), .val (.ref p0), .val (.ref p1), .val (.ref p2), .val (.int (3 : Int32)), .val (.int (3 : Int32)), .val (.ref a3), .val (.ref a57), .val (.int (if (strF ka) = (othF (strF ka) ka (modes &&& (3 : Int32)) x (strF kb)) ∧ (strF kb) = (othF (strF kb) kb (((modes.toUInt32 >>> ((2 : Int32) &&& 31).toUInt32).toInt32) &&& (3 : Int32)) ((x.toUInt32 >>> ((3 : Int32) &&& 31).toUInt32).toInt32) (strF kc)) ∧ (strF kc) = (othF (strF kc) kc (((modes.toUInt32 >>> ((4 : Int32) &&& 31).toUInt32).toInt32) &&& (3 : Int32)) ((x.toUInt32 >>> ((6 : Int32) &&& 31).toUInt32).toInt32) (strF ka)) then 1 else 0)), .unset] [(.int (if strF ka = othF (strF ka) ka (modes &&& (3 : Int32)) x (strF kb) then 1 else 0))]
  refine Go.if_eq (pc' := 260) W99 300 d_code_257 (by decide) rfl (fun (c100 : (if strF ka = othF (strF ka) ka (modes &&& (3 : Int32)) x (strF kb) then 1 else 0) = 0) => ?_) (fun (c100 : ¬ ((if strF ka = othF (strF ka) ka (modes &&& (3 : Int32)) x (strF kb) then 1 else 0) = 0)) => ?_)
  · refine Go.iconst (pc' := 301) W99 (0 : Int32) d_code_300 (by decide) rfl ?_
    refine Go.istore (pc' := 303) W99 #[.val (.int counts), .val (.int ka), .val (.int kb), .val (.int kc), .val (.int modes), .val (.int x), .val (.ref p0), .val (.ref p1), .val (.ref p2), .val (.int (3 : Int32)), .val (.int (3 : Int32)), .val (.ref a3), .val (.ref a57), .val (.int (if (strF ka) = (othF (strF ka) ka (modes &&& (3 : Int32)) x (strF kb)) ∧ (strF kb) = (othF (strF kb) kb (((modes.toUInt32 >>> ((2 : Int32) &&& 31).toUInt32).toInt32) &&& (3 : Int32)) ((x.toUInt32 >>> ((3 : Int32) &&& 31).toUInt32).toInt32) (strF kc)) ∧ (strF kc) = (othF (strF kc) kc (((modes.toUInt32 >>> ((4 : Int32) &&& 31).toUInt32).toInt32) &&& (3 : Int32)) ((x.toUInt32 >>> ((6 : Int32) &&& 31).toUInt32).toInt32) (strF ka)) then 1 else 0)), .val (.int (0 : Int32))] d_code_301 rfl rfl ?_
    refine Go.iload (pc' := 305) W99 d_code_303 rfl rfl ?_
    refine Go.iload (pc' := 307) W99 d_code_305 rfl rfl ?_
    refine Go.icmp_ne (pc' := 310) W99 314 d_code_307 (by decide) rfl (fun (c101 : ¬ ((if (strF ka) = (othF (strF ka) ka (modes &&& (3 : Int32)) x (strF kb)) ∧ (strF kb) = (othF (strF kb) kb (((modes.toUInt32 >>> ((2 : Int32) &&& 31).toUInt32).toInt32) &&& (3 : Int32)) ((x.toUInt32 >>> ((3 : Int32) &&& 31).toUInt32).toInt32) (strF kc)) ∧ (strF kc) = (othF (strF kc) kc (((modes.toUInt32 >>> ((4 : Int32) &&& 31).toUInt32).toInt32) &&& (3 : Int32)) ((x.toUInt32 >>> ((6 : Int32) &&& 31).toUInt32).toInt32) (strF ka)) then 1 else 0) = (0 : Int32))) => ?_) (fun (c101 : (if (strF ka) = (othF (strF ka) ka (modes &&& (3 : Int32)) x (strF kb)) ∧ (strF kb) = (othF (strF kb) kb (((modes.toUInt32 >>> ((2 : Int32) &&& 31).toUInt32).toInt32) &&& (3 : Int32)) ((x.toUInt32 >>> ((3 : Int32) &&& 31).toUInt32).toInt32) (strF kc)) ∧ (strF kc) = (othF (strF kc) kc (((modes.toUInt32 >>> ((4 : Int32) &&& 31).toUInt32).toInt32) &&& (3 : Int32)) ((x.toUInt32 >>> ((6 : Int32) &&& 31).toUInt32).toInt32) (strF ka)) then 1 else 0) = (0 : Int32)) => ?_)
    · refine Go.iconst (pc' := 315) W99 (0 : Int32) d_code_314 (by decide) rfl ?_
      refine Go.nret (z' := (0 : Int32)) W99 (by simp) (by decide) d_code_315 (by first | exact Nat.le_of_ble_eq_true rfl | (simp; done) | (simp; omega) | omega) (by first | exact Nat.le_of_ble_eq_true rfl | (simp; done) | (simp; omega) | omega) ?_
      exfalso
      simp only [ite10_z, ite10_o, Classical.not_not] at c100 c101
      first | exact c101 c100 | exact c100 c101.1
    · refine Go.iconst (pc' := 311) W99 (1 : Int32) d_code_310 (by decide) rfl ?_
      refine Go.goto W99 315 d_code_311 (by decide) ?_
      refine Go.nret (z' := (1 : Int32)) W99 (by simp) (by decide) d_code_315 (by first | exact Nat.le_of_ble_eq_true rfl | (simp; done) | (simp; omega) | omega) (by first | exact Nat.le_of_ble_eq_true rfl | (simp; done) | (simp; omega) | omega) ?_
      rfl
  · refine Go.iload (pc' := 262) W99 d_code_260 rfl rfl ?_
    refine Go.iconst (pc' := 263) W99 (2 : Int32) d_code_262 (by decide) rfl ?_
    refine Go.icmp_lt (pc' := 266) W99 278 d_code_263 (by decide) rfl (fun q => absurd q (by decide)) (fun _ => ?_)
    refine Go.aload (pc' := 268) W99 d_code_266 rfl rfl rfl ?_
    refine Go.aload (pc' := 270) W99 d_code_268 rfl rfl rfl ?_
    refine Go.iconst (pc' := 271) W99 (1 : Int32) d_code_270 (by decide) rfl ?_
    refine Go.aaload (pc' := 272) W99 (Or.inl (List.mem_of_getElem? (i := 2) rfl)) A53 rfl 1 (by decide) (by decide) rfl d_code_271 rfl ?_
    refine Go.virtual (pc' := 275) W99 (rm_eqs G p1 a23 b1 b25 d1 c24 e1 c26 _ _ S1 S27) (Or.inr (Or.inl (List.mem_of_getElem? (i := 8) rfl))) S1.1 (w_91 G) (w_82 G) (w_84 G) (w_83 G) (w_6 G) (w_85 G) (by decide) [] [8, 9, 2, 3] (σf := [(a57, c89), (p68, c90), (a3, c52)]) rfl rfl [(.ref a23)] [] rfl (lenOf pd_14 rfl) rfl rfl d_code_272 rfl (by first | exact Nat.le_of_ble_eq_true rfl | (simp; done) | (simp; omega) | omega) (by first | exact Nat.le_of_ble_eq_true rfl | (simp; done) | (simp; omega) | omega) (by first | exact Nat.le_of_ble_eq_true rfl | (simp; done) | (simp; omega) | omega) (by first | exact Nat.le_of_ble_eq_true rfl | (simp; done) | (simp; omega) | omega) ?_
    rintro _ _ _ T102 ⟨rfl, rfl, rfl⟩ W103
    replace W103 : Wk l Z EL1 ({ frames := 9, cells := 56, slots := 1344, locals := 208 } : Room) "com/example/maswali/maswali/RendererWrittenInPinLaw" code 15 (some .boolean) "law" X [(a57, c89), (p68, c90), (a3, c52)] [(a39, c40), (b41, c42), (a23, c24), (b25, c26), (a7, c8), (b9, c10), (p0, d0), (b0, e0), (p1, d1), (b1, e1), (p2, d2), (b2, e2)] T102 40 (145) := W103
    show Go Z EL1 _ _ _ X T102 275 #[.val (.int counts), .val (.int ka), .val (.int kb), .val (.int kc), .val (.int modes), .val (.int x), .val (.ref p0), .val (.ref p1), .val (.ref p2), .val (.int (3 : Int32)), .val (.int (3 : Int32)), .val (.ref a3), .val (.ref a57), .val (.int (if (strF ka) = (othF (strF ka) ka (modes &&& (3 : Int32)) x (strF kb)) ∧ (strF kb) = (othF (strF kb) kb (((modes.toUInt32 >>> ((2 : Int32) &&& 31).toUInt32).toInt32) &&& (3 : Int32)) ((x.toUInt32 >>> ((3 : Int32) &&& 31).toUInt32).toInt32) (strF kc)) ∧ (strF kc) = (othF (strF kc) kc (((modes.toUInt32 >>> ((4 : Int32) &&& 31).toUInt32).toInt32) &&& (3 : Int32)) ((x.toUInt32 >>> ((6 : Int32) &&& 31).toUInt32).toInt32) (strF ka)) then 1 else 0)), .unset] [(.int (if strF kb = othF (strF kb) kb (((modes.toUInt32 >>> ((2 : Int32) &&& 31).toUInt32).toInt32) &&& (3 : Int32)) ((x.toUInt32 >>> ((3 : Int32) &&& 31).toUInt32).toInt32) (strF kc) then 1 else 0))]
    refine Go.if_eq (pc' := 278) W103 300 d_code_275 (by decide) rfl (fun (c104 : (if strF kb = othF (strF kb) kb (((modes.toUInt32 >>> ((2 : Int32) &&& 31).toUInt32).toInt32) &&& (3 : Int32)) ((x.toUInt32 >>> ((3 : Int32) &&& 31).toUInt32).toInt32) (strF kc) then 1 else 0) = 0) => ?_) (fun (c104 : ¬ ((if strF kb = othF (strF kb) kb (((modes.toUInt32 >>> ((2 : Int32) &&& 31).toUInt32).toInt32) &&& (3 : Int32)) ((x.toUInt32 >>> ((3 : Int32) &&& 31).toUInt32).toInt32) (strF kc) then 1 else 0) = 0)) => ?_)
    · refine Go.iconst (pc' := 301) W103 (0 : Int32) d_code_300 (by decide) rfl ?_
      refine Go.istore (pc' := 303) W103 #[.val (.int counts), .val (.int ka), .val (.int kb), .val (.int kc), .val (.int modes), .val (.int x), .val (.ref p0), .val (.ref p1), .val (.ref p2), .val (.int (3 : Int32)), .val (.int (3 : Int32)), .val (.ref a3), .val (.ref a57), .val (.int (if (strF ka) = (othF (strF ka) ka (modes &&& (3 : Int32)) x (strF kb)) ∧ (strF kb) = (othF (strF kb) kb (((modes.toUInt32 >>> ((2 : Int32) &&& 31).toUInt32).toInt32) &&& (3 : Int32)) ((x.toUInt32 >>> ((3 : Int32) &&& 31).toUInt32).toInt32) (strF kc)) ∧ (strF kc) = (othF (strF kc) kc (((modes.toUInt32 >>> ((4 : Int32) &&& 31).toUInt32).toInt32) &&& (3 : Int32)) ((x.toUInt32 >>> ((6 : Int32) &&& 31).toUInt32).toInt32) (strF ka)) then 1 else 0)), .val (.int (0 : Int32))] d_code_301 rfl rfl ?_
      refine Go.iload (pc' := 305) W103 d_code_303 rfl rfl ?_
      refine Go.iload (pc' := 307) W103 d_code_305 rfl rfl ?_
      refine Go.icmp_ne (pc' := 310) W103 314 d_code_307 (by decide) rfl (fun (c105 : ¬ ((if (strF ka) = (othF (strF ka) ka (modes &&& (3 : Int32)) x (strF kb)) ∧ (strF kb) = (othF (strF kb) kb (((modes.toUInt32 >>> ((2 : Int32) &&& 31).toUInt32).toInt32) &&& (3 : Int32)) ((x.toUInt32 >>> ((3 : Int32) &&& 31).toUInt32).toInt32) (strF kc)) ∧ (strF kc) = (othF (strF kc) kc (((modes.toUInt32 >>> ((4 : Int32) &&& 31).toUInt32).toInt32) &&& (3 : Int32)) ((x.toUInt32 >>> ((6 : Int32) &&& 31).toUInt32).toInt32) (strF ka)) then 1 else 0) = (0 : Int32))) => ?_) (fun (c105 : (if (strF ka) = (othF (strF ka) ka (modes &&& (3 : Int32)) x (strF kb)) ∧ (strF kb) = (othF (strF kb) kb (((modes.toUInt32 >>> ((2 : Int32) &&& 31).toUInt32).toInt32) &&& (3 : Int32)) ((x.toUInt32 >>> ((3 : Int32) &&& 31).toUInt32).toInt32) (strF kc)) ∧ (strF kc) = (othF (strF kc) kc (((modes.toUInt32 >>> ((4 : Int32) &&& 31).toUInt32).toInt32) &&& (3 : Int32)) ((x.toUInt32 >>> ((6 : Int32) &&& 31).toUInt32).toInt32) (strF ka)) then 1 else 0) = (0 : Int32)) => ?_)
      · refine Go.iconst (pc' := 315) W103 (0 : Int32) d_code_314 (by decide) rfl ?_
        refine Go.nret (z' := (0 : Int32)) W103 (by simp) (by decide) d_code_315 (by first | exact Nat.le_of_ble_eq_true rfl | (simp; done) | (simp; omega) | omega) (by first | exact Nat.le_of_ble_eq_true rfl | (simp; done) | (simp; omega) | omega) ?_
        exfalso
        simp only [ite10_z, ite10_o, Classical.not_not] at c100 c104 c105
        first | exact c105 ⟨c100, c104⟩ | exact c100 c105.1 | exact c104 c105.2.1
      · refine Go.iconst (pc' := 311) W103 (1 : Int32) d_code_310 (by decide) rfl ?_
        refine Go.goto W103 315 d_code_311 (by decide) ?_
        refine Go.nret (z' := (1 : Int32)) W103 (by simp) (by decide) d_code_315 (by first | exact Nat.le_of_ble_eq_true rfl | (simp; done) | (simp; omega) | omega) (by first | exact Nat.le_of_ble_eq_true rfl | (simp; done) | (simp; omega) | omega) ?_
        rfl
    · refine Go.iload (pc' := 280) W103 d_code_278 rfl rfl ?_
      refine Go.iconst (pc' := 281) W103 (3 : Int32) d_code_280 (by decide) rfl ?_
      refine Go.icmp_lt (pc' := 284) W103 296 d_code_281 (by decide) rfl (fun q => absurd q (by decide)) (fun _ => ?_)
      refine Go.aload (pc' := 286) W103 d_code_284 rfl rfl rfl ?_
      refine Go.aload (pc' := 288) W103 d_code_286 rfl rfl rfl ?_
      refine Go.iconst (pc' := 289) W103 (2 : Int32) d_code_288 (by decide) rfl ?_
      refine Go.aaload (pc' := 290) W103 (Or.inl (List.mem_of_getElem? (i := 2) rfl)) A53 rfl 2 (by decide) (by decide) rfl d_code_289 rfl ?_
      refine Go.virtual (pc' := 293) W103 (rm_eqs G p2 a39 b2 b41 d2 c40 e2 c42 _ _ S2 S43) (Or.inr (Or.inl (List.mem_of_getElem? (i := 10) rfl))) S2.1 (w_91 G) (w_82 G) (w_84 G) (w_83 G) (w_6 G) (w_85 G) (by decide) [] [10, 11, 0, 1] (σf := [(a57, c89), (p68, c90), (a3, c52)]) rfl rfl [(.ref a39)] [] rfl (lenOf pd_14 rfl) rfl rfl d_code_290 rfl (by first | exact Nat.le_of_ble_eq_true rfl | (simp; done) | (simp; omega) | omega) (by first | exact Nat.le_of_ble_eq_true rfl | (simp; done) | (simp; omega) | omega) (by first | exact Nat.le_of_ble_eq_true rfl | (simp; done) | (simp; omega) | omega) (by first | exact Nat.le_of_ble_eq_true rfl | (simp; done) | (simp; omega) | omega) ?_
      rintro _ _ _ T106 ⟨rfl, rfl, rfl⟩ W107
      replace W107 : Wk l Z EL1 ({ frames := 9, cells := 56, slots := 1344, locals := 208 } : Room) "com/example/maswali/maswali/RendererWrittenInPinLaw" code 15 (some .boolean) "law" X [(a57, c89), (p68, c90), (a3, c52)] [(a39, c40), (b41, c42), (a23, c24), (b25, c26), (a7, c8), (b9, c10), (p0, d0), (b0, e0), (p1, d1), (b1, e1), (p2, d2), (b2, e2)] T106 40 (145) := W107
      show Go Z EL1 _ _ _ X T106 293 #[.val (.int counts), .val (.int ka), .val (.int kb), .val (.int kc), .val (.int modes), .val (.int x), .val (.ref p0), .val (.ref p1), .val (.ref p2), .val (.int (3 : Int32)), .val (.int (3 : Int32)), .val (.ref a3), .val (.ref a57), .val (.int (if (strF ka) = (othF (strF ka) ka (modes &&& (3 : Int32)) x (strF kb)) ∧ (strF kb) = (othF (strF kb) kb (((modes.toUInt32 >>> ((2 : Int32) &&& 31).toUInt32).toInt32) &&& (3 : Int32)) ((x.toUInt32 >>> ((3 : Int32) &&& 31).toUInt32).toInt32) (strF kc)) ∧ (strF kc) = (othF (strF kc) kc (((modes.toUInt32 >>> ((4 : Int32) &&& 31).toUInt32).toInt32) &&& (3 : Int32)) ((x.toUInt32 >>> ((6 : Int32) &&& 31).toUInt32).toInt32) (strF ka)) then 1 else 0)), .unset] [(.int (if strF kc = othF (strF kc) kc (((modes.toUInt32 >>> ((4 : Int32) &&& 31).toUInt32).toInt32) &&& (3 : Int32)) ((x.toUInt32 >>> ((6 : Int32) &&& 31).toUInt32).toInt32) (strF ka) then 1 else 0))]
      refine Go.if_eq (pc' := 296) W107 300 d_code_293 (by decide) rfl (fun (c108 : (if strF kc = othF (strF kc) kc (((modes.toUInt32 >>> ((4 : Int32) &&& 31).toUInt32).toInt32) &&& (3 : Int32)) ((x.toUInt32 >>> ((6 : Int32) &&& 31).toUInt32).toInt32) (strF ka) then 1 else 0) = 0) => ?_) (fun (c108 : ¬ ((if strF kc = othF (strF kc) kc (((modes.toUInt32 >>> ((4 : Int32) &&& 31).toUInt32).toInt32) &&& (3 : Int32)) ((x.toUInt32 >>> ((6 : Int32) &&& 31).toUInt32).toInt32) (strF ka) then 1 else 0) = 0)) => ?_)
      · refine Go.iconst (pc' := 301) W107 (0 : Int32) d_code_300 (by decide) rfl ?_
        refine Go.istore (pc' := 303) W107 #[.val (.int counts), .val (.int ka), .val (.int kb), .val (.int kc), .val (.int modes), .val (.int x), .val (.ref p0), .val (.ref p1), .val (.ref p2), .val (.int (3 : Int32)), .val (.int (3 : Int32)), .val (.ref a3), .val (.ref a57), .val (.int (if (strF ka) = (othF (strF ka) ka (modes &&& (3 : Int32)) x (strF kb)) ∧ (strF kb) = (othF (strF kb) kb (((modes.toUInt32 >>> ((2 : Int32) &&& 31).toUInt32).toInt32) &&& (3 : Int32)) ((x.toUInt32 >>> ((3 : Int32) &&& 31).toUInt32).toInt32) (strF kc)) ∧ (strF kc) = (othF (strF kc) kc (((modes.toUInt32 >>> ((4 : Int32) &&& 31).toUInt32).toInt32) &&& (3 : Int32)) ((x.toUInt32 >>> ((6 : Int32) &&& 31).toUInt32).toInt32) (strF ka)) then 1 else 0)), .val (.int (0 : Int32))] d_code_301 rfl rfl ?_
        refine Go.iload (pc' := 305) W107 d_code_303 rfl rfl ?_
        refine Go.iload (pc' := 307) W107 d_code_305 rfl rfl ?_
        refine Go.icmp_ne (pc' := 310) W107 314 d_code_307 (by decide) rfl (fun (c109 : ¬ ((if (strF ka) = (othF (strF ka) ka (modes &&& (3 : Int32)) x (strF kb)) ∧ (strF kb) = (othF (strF kb) kb (((modes.toUInt32 >>> ((2 : Int32) &&& 31).toUInt32).toInt32) &&& (3 : Int32)) ((x.toUInt32 >>> ((3 : Int32) &&& 31).toUInt32).toInt32) (strF kc)) ∧ (strF kc) = (othF (strF kc) kc (((modes.toUInt32 >>> ((4 : Int32) &&& 31).toUInt32).toInt32) &&& (3 : Int32)) ((x.toUInt32 >>> ((6 : Int32) &&& 31).toUInt32).toInt32) (strF ka)) then 1 else 0) = (0 : Int32))) => ?_) (fun (c109 : (if (strF ka) = (othF (strF ka) ka (modes &&& (3 : Int32)) x (strF kb)) ∧ (strF kb) = (othF (strF kb) kb (((modes.toUInt32 >>> ((2 : Int32) &&& 31).toUInt32).toInt32) &&& (3 : Int32)) ((x.toUInt32 >>> ((3 : Int32) &&& 31).toUInt32).toInt32) (strF kc)) ∧ (strF kc) = (othF (strF kc) kc (((modes.toUInt32 >>> ((4 : Int32) &&& 31).toUInt32).toInt32) &&& (3 : Int32)) ((x.toUInt32 >>> ((6 : Int32) &&& 31).toUInt32).toInt32) (strF ka)) then 1 else 0) = (0 : Int32)) => ?_)
        · refine Go.iconst (pc' := 315) W107 (0 : Int32) d_code_314 (by decide) rfl ?_
          refine Go.nret (z' := (0 : Int32)) W107 (by simp) (by decide) d_code_315 (by first | exact Nat.le_of_ble_eq_true rfl | (simp; done) | (simp; omega) | omega) (by first | exact Nat.le_of_ble_eq_true rfl | (simp; done) | (simp; omega) | omega) ?_
          exfalso
          simp only [ite10_z, ite10_o, Classical.not_not] at c100 c104 c108 c109
          first | exact c109 ⟨c100, c104, c108⟩ | exact c100 c109.1 | exact c104 c109.2.1 | exact c108 c109.2.2
        · refine Go.iconst (pc' := 311) W107 (1 : Int32) d_code_310 (by decide) rfl ?_
          refine Go.goto W107 315 d_code_311 (by decide) ?_
          refine Go.nret (z' := (1 : Int32)) W107 (by simp) (by decide) d_code_315 (by first | exact Nat.le_of_ble_eq_true rfl | (simp; done) | (simp; omega) | omega) (by first | exact Nat.le_of_ble_eq_true rfl | (simp; done) | (simp; omega) | omega) ?_
          rfl
      · refine Go.iconst (pc' := 297) W107 (1 : Int32) d_code_296 (by decide) rfl ?_
        refine Go.goto W107 301 d_code_297 (by decide) ?_
        refine Go.istore (pc' := 303) W107 #[.val (.int counts), .val (.int ka), .val (.int kb), .val (.int kc), .val (.int modes), .val (.int x), .val (.ref p0), .val (.ref p1), .val (.ref p2), .val (.int (3 : Int32)), .val (.int (3 : Int32)), .val (.ref a3), .val (.ref a57), .val (.int (if (strF ka) = (othF (strF ka) ka (modes &&& (3 : Int32)) x (strF kb)) ∧ (strF kb) = (othF (strF kb) kb (((modes.toUInt32 >>> ((2 : Int32) &&& 31).toUInt32).toInt32) &&& (3 : Int32)) ((x.toUInt32 >>> ((3 : Int32) &&& 31).toUInt32).toInt32) (strF kc)) ∧ (strF kc) = (othF (strF kc) kc (((modes.toUInt32 >>> ((4 : Int32) &&& 31).toUInt32).toInt32) &&& (3 : Int32)) ((x.toUInt32 >>> ((6 : Int32) &&& 31).toUInt32).toInt32) (strF ka)) then 1 else 0)), .val (.int (1 : Int32))] d_code_301 rfl rfl ?_
        refine Go.iload (pc' := 305) W107 d_code_303 rfl rfl ?_
        refine Go.iload (pc' := 307) W107 d_code_305 rfl rfl ?_
        refine Go.icmp_ne (pc' := 310) W107 314 d_code_307 (by decide) rfl (fun (c110 : ¬ ((if (strF ka) = (othF (strF ka) ka (modes &&& (3 : Int32)) x (strF kb)) ∧ (strF kb) = (othF (strF kb) kb (((modes.toUInt32 >>> ((2 : Int32) &&& 31).toUInt32).toInt32) &&& (3 : Int32)) ((x.toUInt32 >>> ((3 : Int32) &&& 31).toUInt32).toInt32) (strF kc)) ∧ (strF kc) = (othF (strF kc) kc (((modes.toUInt32 >>> ((4 : Int32) &&& 31).toUInt32).toInt32) &&& (3 : Int32)) ((x.toUInt32 >>> ((6 : Int32) &&& 31).toUInt32).toInt32) (strF ka)) then 1 else 0) = (1 : Int32))) => ?_) (fun (c110 : (if (strF ka) = (othF (strF ka) ka (modes &&& (3 : Int32)) x (strF kb)) ∧ (strF kb) = (othF (strF kb) kb (((modes.toUInt32 >>> ((2 : Int32) &&& 31).toUInt32).toInt32) &&& (3 : Int32)) ((x.toUInt32 >>> ((3 : Int32) &&& 31).toUInt32).toInt32) (strF kc)) ∧ (strF kc) = (othF (strF kc) kc (((modes.toUInt32 >>> ((4 : Int32) &&& 31).toUInt32).toInt32) &&& (3 : Int32)) ((x.toUInt32 >>> ((6 : Int32) &&& 31).toUInt32).toInt32) (strF ka)) then 1 else 0) = (1 : Int32)) => ?_)
        · refine Go.iconst (pc' := 315) W107 (0 : Int32) d_code_314 (by decide) rfl ?_
          refine Go.nret (z' := (0 : Int32)) W107 (by simp) (by decide) d_code_315 (by first | exact Nat.le_of_ble_eq_true rfl | (simp; done) | (simp; omega) | omega) (by first | exact Nat.le_of_ble_eq_true rfl | (simp; done) | (simp; omega) | omega) ?_
          exfalso
          simp only [ite10_z, ite10_o, Classical.not_not] at c100 c104 c108 c110
          first | exact c110 ⟨c100, c104, c108⟩ | exact c100 c110.1 | exact c104 c110.2.1 | exact c108 c110.2.2
        · refine Go.iconst (pc' := 311) W107 (1 : Int32) d_code_310 (by decide) rfl ?_
          refine Go.goto W107 315 d_code_311 (by decide) ?_
          refine Go.nret (z' := (1 : Int32)) W107 (by simp) (by decide) d_code_315 (by first | exact Nat.le_of_ble_eq_true rfl | (simp; done) | (simp; omega) | omega) (by first | exact Nat.le_of_ble_eq_true rfl | (simp; done) | (simp; omega) | omega) ?_
          rfl
theorem d_code_0 : decode code 0 = .ok (.iload_n 1, 1) := by decide +kernel
theorem d_code_1 : decode code 1 = .ok (.invokestatic 12, 3) := by decide +kernel
theorem d_code_4 : decode code 4 = .ok (.astore 6, 2) := by decide +kernel
theorem d_code_6 : decode code 6 = .ok (.iload_n 2, 1) := by decide +kernel
theorem d_code_7 : decode code 7 = .ok (.invokestatic 12, 3) := by decide +kernel
theorem d_code_10 : decode code 10 = .ok (.astore 7, 2) := by decide +kernel
theorem d_code_12 : decode code 12 = .ok (.iload_n 3, 1) := by decide +kernel
theorem d_code_13 : decode code 13 = .ok (.invokestatic 12, 3) := by decide +kernel
theorem d_code_16 : decode code 16 = .ok (.astore 8, 2) := by decide +kernel
theorem d_code_18 : decode code 18 = .ok (.iload_n 0, 1) := by decide +kernel
theorem d_code_19 : decode code 19 = .ok (.iconst 3, 1) := by decide +kernel
theorem d_code_20 : decode code 20 = .ok (.iand, 1) := by decide +kernel
theorem d_code_21 : decode code 21 = .ok (.istore 9, 2) := by decide +kernel
theorem d_code_23 : decode code 23 = .ok (.iload_n 0, 1) := by decide +kernel
theorem d_code_24 : decode code 24 = .ok (.iconst 2, 1) := by decide +kernel
theorem d_code_25 : decode code 25 = .ok (.iushr, 1) := by decide +kernel
theorem d_code_26 : decode code 26 = .ok (.iconst 1, 1) := by decide +kernel
theorem d_code_27 : decode code 27 = .ok (.iand, 1) := by decide +kernel
theorem d_code_28 : decode code 28 = .ok (.ifCond .ne 8, 3) := by decide +kernel
theorem d_code_36 : decode code 36 = .ok (.iload_n 0, 1) := by decide +kernel
theorem d_code_37 : decode code 37 = .ok (.iconst 3, 1) := by decide +kernel
theorem d_code_38 : decode code 38 = .ok (.iushr, 1) := by decide +kernel
theorem d_code_39 : decode code 39 = .ok (.iconst 3, 1) := by decide +kernel
theorem d_code_40 : decode code 40 = .ok (.iand, 1) := by decide +kernel
theorem d_code_41 : decode code 41 = .ok (.istore 10, 2) := by decide +kernel
theorem d_code_31 : decode code 31 = .ok (.iload 9, 2) := by decide +kernel
theorem d_code_33 : decode code 33 = .ok (.goto 8, 3) := by decide +kernel
set_option maxRecDepth 65536 in
set_option maxHeartbeats 40000000 in
theorem rm_law {l : Launch} {Z : State} {a0 : Array Value} (G : Cl Z a0) (counts ka kb kc modes x : Int32) (nv : Value) (hnv : nv.isRef = true) (Sn : Sta Z Z.heap "com/example/maswali/maswali/BindValues" "NONE" "[Ljava/lang/Object;" nv) (da : Addr) (Sd : Sta Z Z.heap "com/example/maswali/maswali/Dialect" "POSTGRES" "Lcom/example/maswali/maswali/Dialect;" (.ref da)) :
    Met l Z EL1 (⟨"com/example/maswali/maswali/RendererWrittenInPinLaw", "law", "(IIIIII)Z"⟩ : MethodName) code 15 (some .boolean) ({ frames := 9, cells := 56, slots := 1344, locals := 208 } : Room) #[.int counts, .int ka, .int kb, .int kc, .int modes, .int x] [] [] (fun v _ _ => v = some (.int 1)) := by
  refine Met.walk G.2.1 pn_8 #[.val (.int counts), .val (.int ka), .val (.int kb), .val (.int kc), .val (.int modes), .val (.int x), .unset, .unset, .unset, .unset, .unset, .unset, .unset, .unset, .unset] (fun m => by first | (simp [entryFrame, mkF, argsToLocals, Value.category]; done) | rfl) ?_
  intro X T0 W0
  refine Go.iloadN (pc' := 1) W0 d_code_0 rfl rfl ?_
  refine Go.static (pc' := 4) W0 (rm_str G ka) (w_0 G) (w_1 G) (w_2 G) (w_3 G) (by decide) [] [] (σf := []) rfl rfl [(.int ka)] [] rfl (lenOf pd_10 rfl) rfl rfl d_code_1 rfl (by first | exact Nat.le_of_ble_eq_true rfl | (simp; done) | (simp; omega) | omega) (by first | exact Nat.le_of_ble_eq_true rfl | (simp; done) | (simp; omega) | omega) (by first | exact Nat.le_of_ble_eq_true rfl | (simp; done) | (simp; omega) | omega) (by first | exact Nat.le_of_ble_eq_true rfl | (simp; done) | (simp; omega) | omega) ?_
  rintro _ _ _ T6 ⟨a1, c2, b3, c4, rfl, rfl, rfl, S5⟩ W7
  replace W7 : Wk l Z EL1 ({ frames := 9, cells := 56, slots := 1344, locals := 208 } : Room) "com/example/maswali/maswali/RendererWrittenInPinLaw" code 15 (some .boolean) "law" X [] [(a1, c2), (b3, c4)] T6 6 (12) := W7
  show Go Z EL1 _ _ _ X T6 4 #[.val (.int counts), .val (.int ka), .val (.int kb), .val (.int kc), .val (.int modes), .val (.int x), .unset, .unset, .unset, .unset, .unset, .unset, .unset, .unset, .unset] [(.ref a1)]
  refine Go.astore (pc' := 6) W7 #[.val (.int counts), .val (.int ka), .val (.int kb), .val (.int kc), .val (.int modes), .val (.int x), .val (.ref a1), .unset, .unset, .unset, .unset, .unset, .unset, .unset, .unset] d_code_4 rfl rfl rfl ?_
  refine Go.iloadN (pc' := 7) W7 d_code_6 rfl rfl ?_
  refine Go.static (pc' := 10) W7 (rm_str G kb) (w_0 G) (w_1 G) (w_2 G) (w_3 G) (by decide) [] [] (σf := []) rfl rfl [(.int kb)] [] rfl (lenOf pd_10 rfl) rfl rfl d_code_7 rfl (by first | exact Nat.le_of_ble_eq_true rfl | (simp; done) | (simp; omega) | omega) (by first | exact Nat.le_of_ble_eq_true rfl | (simp; done) | (simp; omega) | omega) (by first | exact Nat.le_of_ble_eq_true rfl | (simp; done) | (simp; omega) | omega) (by first | exact Nat.le_of_ble_eq_true rfl | (simp; done) | (simp; omega) | omega) ?_
  rintro _ _ _ T13 ⟨a8, c9, b10, c11, rfl, rfl, rfl, S12⟩ W14
  replace W14 : Wk l Z EL1 ({ frames := 9, cells := 56, slots := 1344, locals := 208 } : Room) "com/example/maswali/maswali/RendererWrittenInPinLaw" code 15 (some .boolean) "law" X [] [(a8, c9), (b10, c11), (a1, c2), (b3, c4)] T13 12 (24) := W14
  show Go Z EL1 _ _ _ X T13 10 #[.val (.int counts), .val (.int ka), .val (.int kb), .val (.int kc), .val (.int modes), .val (.int x), .val (.ref a1), .unset, .unset, .unset, .unset, .unset, .unset, .unset, .unset] [(.ref a8)]
  refine Go.astore (pc' := 12) W14 #[.val (.int counts), .val (.int ka), .val (.int kb), .val (.int kc), .val (.int modes), .val (.int x), .val (.ref a1), .val (.ref a8), .unset, .unset, .unset, .unset, .unset, .unset, .unset] d_code_10 rfl rfl rfl ?_
  refine Go.iloadN (pc' := 13) W14 d_code_12 rfl rfl ?_
  refine Go.static (pc' := 16) W14 (rm_str G kc) (w_0 G) (w_1 G) (w_2 G) (w_3 G) (by decide) [] [] (σf := []) rfl rfl [(.int kc)] [] rfl (lenOf pd_10 rfl) rfl rfl d_code_13 rfl (by first | exact Nat.le_of_ble_eq_true rfl | (simp; done) | (simp; omega) | omega) (by first | exact Nat.le_of_ble_eq_true rfl | (simp; done) | (simp; omega) | omega) (by first | exact Nat.le_of_ble_eq_true rfl | (simp; done) | (simp; omega) | omega) (by first | exact Nat.le_of_ble_eq_true rfl | (simp; done) | (simp; omega) | omega) ?_
  rintro _ _ _ T20 ⟨a15, c16, b17, c18, rfl, rfl, rfl, S19⟩ W21
  replace W21 : Wk l Z EL1 ({ frames := 9, cells := 56, slots := 1344, locals := 208 } : Room) "com/example/maswali/maswali/RendererWrittenInPinLaw" code 15 (some .boolean) "law" X [] [(a15, c16), (b17, c18), (a8, c9), (b10, c11), (a1, c2), (b3, c4)] T20 18 (36) := W21
  show Go Z EL1 _ _ _ X T20 16 #[.val (.int counts), .val (.int ka), .val (.int kb), .val (.int kc), .val (.int modes), .val (.int x), .val (.ref a1), .val (.ref a8), .unset, .unset, .unset, .unset, .unset, .unset, .unset] [(.ref a15)]
  refine Go.astore (pc' := 18) W21 #[.val (.int counts), .val (.int ka), .val (.int kb), .val (.int kc), .val (.int modes), .val (.int x), .val (.ref a1), .val (.ref a8), .val (.ref a15), .unset, .unset, .unset, .unset, .unset, .unset] d_code_16 rfl rfl rfl ?_
  refine Go.iloadN (pc' := 19) W21 d_code_18 rfl rfl ?_
  refine Go.iconst (pc' := 20) W21 (3 : Int32) d_code_19 (by decide) rfl ?_
  refine Go.iand (pc' := 21) W21 d_code_20 rfl ?_
  generalize e23 : counts &&& (3 : Int32) = n22
  have h24 : n22 = (0 : Int32) ∨ n22 = (1 : Int32) ∨ n22 = (2 : Int32) ∨ n22 = (3 : Int32) := by rw [← e23]; exact and3 _
  rcases h24 with rfl | rfl | rfl | rfl
  · refine Go.istore (pc' := 23) W21 #[.val (.int counts), .val (.int ka), .val (.int kb), .val (.int kc), .val (.int modes), .val (.int x), .val (.ref a1), .val (.ref a8), .val (.ref a15), .val (.int (0 : Int32)), .unset, .unset, .unset, .unset, .unset] d_code_21 rfl rfl ?_
    refine Go.iloadN (pc' := 24) W21 d_code_23 rfl rfl ?_
    refine Go.iconst (pc' := 25) W21 (2 : Int32) d_code_24 (by decide) rfl ?_
    refine Go.iushr (pc' := 26) W21 d_code_25 rfl ?_
    refine Go.iconst (pc' := 27) W21 (1 : Int32) d_code_26 (by decide) rfl ?_
    refine Go.iand (pc' := 28) W21 d_code_27 rfl ?_
    refine Go.if_ne (pc' := 31) W21 36 d_code_28 (by decide) rfl (fun (c25 : ¬ ((((counts.toUInt32 >>> ((2 : Int32) &&& 31).toUInt32).toInt32) &&& (1 : Int32)) = 0)) => ?_) (fun (c25 : (((counts.toUInt32 >>> ((2 : Int32) &&& 31).toUInt32).toInt32) &&& (1 : Int32)) = 0) => ?_)
    · refine Go.iloadN (pc' := 37) W21 d_code_36 rfl rfl ?_
      refine Go.iconst (pc' := 38) W21 (3 : Int32) d_code_37 (by decide) rfl ?_
      refine Go.iushr (pc' := 39) W21 d_code_38 rfl ?_
      refine Go.iconst (pc' := 40) W21 (3 : Int32) d_code_39 (by decide) rfl ?_
      refine Go.iand (pc' := 41) W21 d_code_40 rfl ?_
      generalize e27 : ((counts.toUInt32 >>> ((3 : Int32) &&& 31).toUInt32).toInt32) &&& (3 : Int32) = n26
      have h28 : n26 = (0 : Int32) ∨ n26 = (1 : Int32) ∨ n26 = (2 : Int32) ∨ n26 = (3 : Int32) := by rw [← e27]; exact and3 _
      rcases h28 with rfl | rfl | rfl | rfl
      · refine Go.istore (pc' := 43) W21 #[.val (.int counts), .val (.int ka), .val (.int kb), .val (.int kc), .val (.int modes), .val (.int x), .val (.ref a1), .val (.ref a8), .val (.ref a15), .val (.int (0 : Int32)), .val (.int (0 : Int32)), .unset, .unset, .unset, .unset] d_code_41 rfl rfl ?_
        have W29 := W21.keepRo [4, 5, 2, 3, 0, 1] (ρ' := [(a1, c2), (b3, c4), (a8, c9), (b10, c11), (a15, c16), (b17, c18)]) rfl
        replace W29 : Wk l Z EL1 ({ frames := 9, cells := 56, slots := 1344, locals := 208 } : Room) "com/example/maswali/maswali/RendererWrittenInPinLaw" code 15 (some .boolean) "law" X [] [(a1, c2), (b3, c4), (a8, c9), (b10, c11), (a15, c16), (b17, c18)] T20 18 (36) := W29
        exact rm_t00 G counts ka kb kc modes x nv hnv Sn da Sd a1 b3 a8 b10 a15 b17 c2 c4 c9 c11 c16 c18 S5 S12 S19 W29
      · refine Go.istore (pc' := 43) W21 #[.val (.int counts), .val (.int ka), .val (.int kb), .val (.int kc), .val (.int modes), .val (.int x), .val (.ref a1), .val (.ref a8), .val (.ref a15), .val (.int (0 : Int32)), .val (.int (1 : Int32)), .unset, .unset, .unset, .unset] d_code_41 rfl rfl ?_
        have W30 := W21.keepRo [4, 5, 2, 3, 0, 1] (ρ' := [(a1, c2), (b3, c4), (a8, c9), (b10, c11), (a15, c16), (b17, c18)]) rfl
        replace W30 : Wk l Z EL1 ({ frames := 9, cells := 56, slots := 1344, locals := 208 } : Room) "com/example/maswali/maswali/RendererWrittenInPinLaw" code 15 (some .boolean) "law" X [] [(a1, c2), (b3, c4), (a8, c9), (b10, c11), (a15, c16), (b17, c18)] T20 18 (36) := W30
        exact rm_t01 G counts ka kb kc modes x nv hnv Sn da Sd a1 b3 a8 b10 a15 b17 c2 c4 c9 c11 c16 c18 S5 S12 S19 W30
      · refine Go.istore (pc' := 43) W21 #[.val (.int counts), .val (.int ka), .val (.int kb), .val (.int kc), .val (.int modes), .val (.int x), .val (.ref a1), .val (.ref a8), .val (.ref a15), .val (.int (0 : Int32)), .val (.int (2 : Int32)), .unset, .unset, .unset, .unset] d_code_41 rfl rfl ?_
        have W31 := W21.keepRo [4, 5, 2, 3, 0, 1] (ρ' := [(a1, c2), (b3, c4), (a8, c9), (b10, c11), (a15, c16), (b17, c18)]) rfl
        replace W31 : Wk l Z EL1 ({ frames := 9, cells := 56, slots := 1344, locals := 208 } : Room) "com/example/maswali/maswali/RendererWrittenInPinLaw" code 15 (some .boolean) "law" X [] [(a1, c2), (b3, c4), (a8, c9), (b10, c11), (a15, c16), (b17, c18)] T20 18 (36) := W31
        exact rm_t02 G counts ka kb kc modes x nv hnv Sn da Sd a1 b3 a8 b10 a15 b17 c2 c4 c9 c11 c16 c18 S5 S12 S19 W31
      · refine Go.istore (pc' := 43) W21 #[.val (.int counts), .val (.int ka), .val (.int kb), .val (.int kc), .val (.int modes), .val (.int x), .val (.ref a1), .val (.ref a8), .val (.ref a15), .val (.int (0 : Int32)), .val (.int (3 : Int32)), .unset, .unset, .unset, .unset] d_code_41 rfl rfl ?_
        have W32 := W21.keepRo [4, 5, 2, 3, 0, 1] (ρ' := [(a1, c2), (b3, c4), (a8, c9), (b10, c11), (a15, c16), (b17, c18)]) rfl
        replace W32 : Wk l Z EL1 ({ frames := 9, cells := 56, slots := 1344, locals := 208 } : Room) "com/example/maswali/maswali/RendererWrittenInPinLaw" code 15 (some .boolean) "law" X [] [(a1, c2), (b3, c4), (a8, c9), (b10, c11), (a15, c16), (b17, c18)] T20 18 (36) := W32
        exact rm_t03 G counts ka kb kc modes x nv hnv Sn da Sd a1 b3 a8 b10 a15 b17 c2 c4 c9 c11 c16 c18 S5 S12 S19 W32
    · refine Go.iload (pc' := 33) W21 d_code_31 rfl rfl ?_
      refine Go.goto W21 41 d_code_33 (by decide) ?_
      refine Go.istore (pc' := 43) W21 #[.val (.int counts), .val (.int ka), .val (.int kb), .val (.int kc), .val (.int modes), .val (.int x), .val (.ref a1), .val (.ref a8), .val (.ref a15), .val (.int (0 : Int32)), .val (.int (0 : Int32)), .unset, .unset, .unset, .unset] d_code_41 rfl rfl ?_
      have W33 := W21.keepRo [4, 5, 2, 3, 0, 1] (ρ' := [(a1, c2), (b3, c4), (a8, c9), (b10, c11), (a15, c16), (b17, c18)]) rfl
      replace W33 : Wk l Z EL1 ({ frames := 9, cells := 56, slots := 1344, locals := 208 } : Room) "com/example/maswali/maswali/RendererWrittenInPinLaw" code 15 (some .boolean) "law" X [] [(a1, c2), (b3, c4), (a8, c9), (b10, c11), (a15, c16), (b17, c18)] T20 18 (36) := W33
      exact rm_t00 G counts ka kb kc modes x nv hnv Sn da Sd a1 b3 a8 b10 a15 b17 c2 c4 c9 c11 c16 c18 S5 S12 S19 W33
  · refine Go.istore (pc' := 23) W21 #[.val (.int counts), .val (.int ka), .val (.int kb), .val (.int kc), .val (.int modes), .val (.int x), .val (.ref a1), .val (.ref a8), .val (.ref a15), .val (.int (1 : Int32)), .unset, .unset, .unset, .unset, .unset] d_code_21 rfl rfl ?_
    refine Go.iloadN (pc' := 24) W21 d_code_23 rfl rfl ?_
    refine Go.iconst (pc' := 25) W21 (2 : Int32) d_code_24 (by decide) rfl ?_
    refine Go.iushr (pc' := 26) W21 d_code_25 rfl ?_
    refine Go.iconst (pc' := 27) W21 (1 : Int32) d_code_26 (by decide) rfl ?_
    refine Go.iand (pc' := 28) W21 d_code_27 rfl ?_
    refine Go.if_ne (pc' := 31) W21 36 d_code_28 (by decide) rfl (fun (c34 : ¬ ((((counts.toUInt32 >>> ((2 : Int32) &&& 31).toUInt32).toInt32) &&& (1 : Int32)) = 0)) => ?_) (fun (c34 : (((counts.toUInt32 >>> ((2 : Int32) &&& 31).toUInt32).toInt32) &&& (1 : Int32)) = 0) => ?_)
    · refine Go.iloadN (pc' := 37) W21 d_code_36 rfl rfl ?_
      refine Go.iconst (pc' := 38) W21 (3 : Int32) d_code_37 (by decide) rfl ?_
      refine Go.iushr (pc' := 39) W21 d_code_38 rfl ?_
      refine Go.iconst (pc' := 40) W21 (3 : Int32) d_code_39 (by decide) rfl ?_
      refine Go.iand (pc' := 41) W21 d_code_40 rfl ?_
      generalize e36 : ((counts.toUInt32 >>> ((3 : Int32) &&& 31).toUInt32).toInt32) &&& (3 : Int32) = n35
      have h37 : n35 = (0 : Int32) ∨ n35 = (1 : Int32) ∨ n35 = (2 : Int32) ∨ n35 = (3 : Int32) := by rw [← e36]; exact and3 _
      rcases h37 with rfl | rfl | rfl | rfl
      · refine Go.istore (pc' := 43) W21 #[.val (.int counts), .val (.int ka), .val (.int kb), .val (.int kc), .val (.int modes), .val (.int x), .val (.ref a1), .val (.ref a8), .val (.ref a15), .val (.int (1 : Int32)), .val (.int (0 : Int32)), .unset, .unset, .unset, .unset] d_code_41 rfl rfl ?_
        have W38 := W21.keepRo [4, 5, 2, 3, 0, 1] (ρ' := [(a1, c2), (b3, c4), (a8, c9), (b10, c11), (a15, c16), (b17, c18)]) rfl
        replace W38 : Wk l Z EL1 ({ frames := 9, cells := 56, slots := 1344, locals := 208 } : Room) "com/example/maswali/maswali/RendererWrittenInPinLaw" code 15 (some .boolean) "law" X [] [(a1, c2), (b3, c4), (a8, c9), (b10, c11), (a15, c16), (b17, c18)] T20 18 (36) := W38
        exact rm_t10 G counts ka kb kc modes x nv hnv Sn da Sd a1 b3 a8 b10 a15 b17 c2 c4 c9 c11 c16 c18 S5 S12 S19 W38
      · refine Go.istore (pc' := 43) W21 #[.val (.int counts), .val (.int ka), .val (.int kb), .val (.int kc), .val (.int modes), .val (.int x), .val (.ref a1), .val (.ref a8), .val (.ref a15), .val (.int (1 : Int32)), .val (.int (1 : Int32)), .unset, .unset, .unset, .unset] d_code_41 rfl rfl ?_
        have W39 := W21.keepRo [4, 5, 2, 3, 0, 1] (ρ' := [(a1, c2), (b3, c4), (a8, c9), (b10, c11), (a15, c16), (b17, c18)]) rfl
        replace W39 : Wk l Z EL1 ({ frames := 9, cells := 56, slots := 1344, locals := 208 } : Room) "com/example/maswali/maswali/RendererWrittenInPinLaw" code 15 (some .boolean) "law" X [] [(a1, c2), (b3, c4), (a8, c9), (b10, c11), (a15, c16), (b17, c18)] T20 18 (36) := W39
        exact rm_t11 G counts ka kb kc modes x nv hnv Sn da Sd a1 b3 a8 b10 a15 b17 c2 c4 c9 c11 c16 c18 S5 S12 S19 W39
      · refine Go.istore (pc' := 43) W21 #[.val (.int counts), .val (.int ka), .val (.int kb), .val (.int kc), .val (.int modes), .val (.int x), .val (.ref a1), .val (.ref a8), .val (.ref a15), .val (.int (1 : Int32)), .val (.int (2 : Int32)), .unset, .unset, .unset, .unset] d_code_41 rfl rfl ?_
        have W40 := W21.keepRo [4, 5, 2, 3, 0, 1] (ρ' := [(a1, c2), (b3, c4), (a8, c9), (b10, c11), (a15, c16), (b17, c18)]) rfl
        replace W40 : Wk l Z EL1 ({ frames := 9, cells := 56, slots := 1344, locals := 208 } : Room) "com/example/maswali/maswali/RendererWrittenInPinLaw" code 15 (some .boolean) "law" X [] [(a1, c2), (b3, c4), (a8, c9), (b10, c11), (a15, c16), (b17, c18)] T20 18 (36) := W40
        exact rm_t12 G counts ka kb kc modes x nv hnv Sn da Sd a1 b3 a8 b10 a15 b17 c2 c4 c9 c11 c16 c18 S5 S12 S19 W40
      · refine Go.istore (pc' := 43) W21 #[.val (.int counts), .val (.int ka), .val (.int kb), .val (.int kc), .val (.int modes), .val (.int x), .val (.ref a1), .val (.ref a8), .val (.ref a15), .val (.int (1 : Int32)), .val (.int (3 : Int32)), .unset, .unset, .unset, .unset] d_code_41 rfl rfl ?_
        have W41 := W21.keepRo [4, 5, 2, 3, 0, 1] (ρ' := [(a1, c2), (b3, c4), (a8, c9), (b10, c11), (a15, c16), (b17, c18)]) rfl
        replace W41 : Wk l Z EL1 ({ frames := 9, cells := 56, slots := 1344, locals := 208 } : Room) "com/example/maswali/maswali/RendererWrittenInPinLaw" code 15 (some .boolean) "law" X [] [(a1, c2), (b3, c4), (a8, c9), (b10, c11), (a15, c16), (b17, c18)] T20 18 (36) := W41
        exact rm_t13 G counts ka kb kc modes x nv hnv Sn da Sd a1 b3 a8 b10 a15 b17 c2 c4 c9 c11 c16 c18 S5 S12 S19 W41
    · refine Go.iload (pc' := 33) W21 d_code_31 rfl rfl ?_
      refine Go.goto W21 41 d_code_33 (by decide) ?_
      refine Go.istore (pc' := 43) W21 #[.val (.int counts), .val (.int ka), .val (.int kb), .val (.int kc), .val (.int modes), .val (.int x), .val (.ref a1), .val (.ref a8), .val (.ref a15), .val (.int (1 : Int32)), .val (.int (1 : Int32)), .unset, .unset, .unset, .unset] d_code_41 rfl rfl ?_
      have W42 := W21.keepRo [4, 5, 2, 3, 0, 1] (ρ' := [(a1, c2), (b3, c4), (a8, c9), (b10, c11), (a15, c16), (b17, c18)]) rfl
      replace W42 : Wk l Z EL1 ({ frames := 9, cells := 56, slots := 1344, locals := 208 } : Room) "com/example/maswali/maswali/RendererWrittenInPinLaw" code 15 (some .boolean) "law" X [] [(a1, c2), (b3, c4), (a8, c9), (b10, c11), (a15, c16), (b17, c18)] T20 18 (36) := W42
      exact rm_t11 G counts ka kb kc modes x nv hnv Sn da Sd a1 b3 a8 b10 a15 b17 c2 c4 c9 c11 c16 c18 S5 S12 S19 W42
  · refine Go.istore (pc' := 23) W21 #[.val (.int counts), .val (.int ka), .val (.int kb), .val (.int kc), .val (.int modes), .val (.int x), .val (.ref a1), .val (.ref a8), .val (.ref a15), .val (.int (2 : Int32)), .unset, .unset, .unset, .unset, .unset] d_code_21 rfl rfl ?_
    refine Go.iloadN (pc' := 24) W21 d_code_23 rfl rfl ?_
    refine Go.iconst (pc' := 25) W21 (2 : Int32) d_code_24 (by decide) rfl ?_
    refine Go.iushr (pc' := 26) W21 d_code_25 rfl ?_
    refine Go.iconst (pc' := 27) W21 (1 : Int32) d_code_26 (by decide) rfl ?_
    refine Go.iand (pc' := 28) W21 d_code_27 rfl ?_
    refine Go.if_ne (pc' := 31) W21 36 d_code_28 (by decide) rfl (fun (c43 : ¬ ((((counts.toUInt32 >>> ((2 : Int32) &&& 31).toUInt32).toInt32) &&& (1 : Int32)) = 0)) => ?_) (fun (c43 : (((counts.toUInt32 >>> ((2 : Int32) &&& 31).toUInt32).toInt32) &&& (1 : Int32)) = 0) => ?_)
    · refine Go.iloadN (pc' := 37) W21 d_code_36 rfl rfl ?_
      refine Go.iconst (pc' := 38) W21 (3 : Int32) d_code_37 (by decide) rfl ?_
      refine Go.iushr (pc' := 39) W21 d_code_38 rfl ?_
      refine Go.iconst (pc' := 40) W21 (3 : Int32) d_code_39 (by decide) rfl ?_
      refine Go.iand (pc' := 41) W21 d_code_40 rfl ?_
      generalize e45 : ((counts.toUInt32 >>> ((3 : Int32) &&& 31).toUInt32).toInt32) &&& (3 : Int32) = n44
      have h46 : n44 = (0 : Int32) ∨ n44 = (1 : Int32) ∨ n44 = (2 : Int32) ∨ n44 = (3 : Int32) := by rw [← e45]; exact and3 _
      rcases h46 with rfl | rfl | rfl | rfl
      · refine Go.istore (pc' := 43) W21 #[.val (.int counts), .val (.int ka), .val (.int kb), .val (.int kc), .val (.int modes), .val (.int x), .val (.ref a1), .val (.ref a8), .val (.ref a15), .val (.int (2 : Int32)), .val (.int (0 : Int32)), .unset, .unset, .unset, .unset] d_code_41 rfl rfl ?_
        have W47 := W21.keepRo [4, 5, 2, 3, 0, 1] (ρ' := [(a1, c2), (b3, c4), (a8, c9), (b10, c11), (a15, c16), (b17, c18)]) rfl
        replace W47 : Wk l Z EL1 ({ frames := 9, cells := 56, slots := 1344, locals := 208 } : Room) "com/example/maswali/maswali/RendererWrittenInPinLaw" code 15 (some .boolean) "law" X [] [(a1, c2), (b3, c4), (a8, c9), (b10, c11), (a15, c16), (b17, c18)] T20 18 (36) := W47
        exact rm_t20 G counts ka kb kc modes x nv hnv Sn da Sd a1 b3 a8 b10 a15 b17 c2 c4 c9 c11 c16 c18 S5 S12 S19 W47
      · refine Go.istore (pc' := 43) W21 #[.val (.int counts), .val (.int ka), .val (.int kb), .val (.int kc), .val (.int modes), .val (.int x), .val (.ref a1), .val (.ref a8), .val (.ref a15), .val (.int (2 : Int32)), .val (.int (1 : Int32)), .unset, .unset, .unset, .unset] d_code_41 rfl rfl ?_
        have W48 := W21.keepRo [4, 5, 2, 3, 0, 1] (ρ' := [(a1, c2), (b3, c4), (a8, c9), (b10, c11), (a15, c16), (b17, c18)]) rfl
        replace W48 : Wk l Z EL1 ({ frames := 9, cells := 56, slots := 1344, locals := 208 } : Room) "com/example/maswali/maswali/RendererWrittenInPinLaw" code 15 (some .boolean) "law" X [] [(a1, c2), (b3, c4), (a8, c9), (b10, c11), (a15, c16), (b17, c18)] T20 18 (36) := W48
        exact rm_t21 G counts ka kb kc modes x nv hnv Sn da Sd a1 b3 a8 b10 a15 b17 c2 c4 c9 c11 c16 c18 S5 S12 S19 W48
      · refine Go.istore (pc' := 43) W21 #[.val (.int counts), .val (.int ka), .val (.int kb), .val (.int kc), .val (.int modes), .val (.int x), .val (.ref a1), .val (.ref a8), .val (.ref a15), .val (.int (2 : Int32)), .val (.int (2 : Int32)), .unset, .unset, .unset, .unset] d_code_41 rfl rfl ?_
        have W49 := W21.keepRo [4, 5, 2, 3, 0, 1] (ρ' := [(a1, c2), (b3, c4), (a8, c9), (b10, c11), (a15, c16), (b17, c18)]) rfl
        replace W49 : Wk l Z EL1 ({ frames := 9, cells := 56, slots := 1344, locals := 208 } : Room) "com/example/maswali/maswali/RendererWrittenInPinLaw" code 15 (some .boolean) "law" X [] [(a1, c2), (b3, c4), (a8, c9), (b10, c11), (a15, c16), (b17, c18)] T20 18 (36) := W49
        exact rm_t22 G counts ka kb kc modes x nv hnv Sn da Sd a1 b3 a8 b10 a15 b17 c2 c4 c9 c11 c16 c18 S5 S12 S19 W49
      · refine Go.istore (pc' := 43) W21 #[.val (.int counts), .val (.int ka), .val (.int kb), .val (.int kc), .val (.int modes), .val (.int x), .val (.ref a1), .val (.ref a8), .val (.ref a15), .val (.int (2 : Int32)), .val (.int (3 : Int32)), .unset, .unset, .unset, .unset] d_code_41 rfl rfl ?_
        have W50 := W21.keepRo [4, 5, 2, 3, 0, 1] (ρ' := [(a1, c2), (b3, c4), (a8, c9), (b10, c11), (a15, c16), (b17, c18)]) rfl
        replace W50 : Wk l Z EL1 ({ frames := 9, cells := 56, slots := 1344, locals := 208 } : Room) "com/example/maswali/maswali/RendererWrittenInPinLaw" code 15 (some .boolean) "law" X [] [(a1, c2), (b3, c4), (a8, c9), (b10, c11), (a15, c16), (b17, c18)] T20 18 (36) := W50
        exact rm_t23 G counts ka kb kc modes x nv hnv Sn da Sd a1 b3 a8 b10 a15 b17 c2 c4 c9 c11 c16 c18 S5 S12 S19 W50
    · refine Go.iload (pc' := 33) W21 d_code_31 rfl rfl ?_
      refine Go.goto W21 41 d_code_33 (by decide) ?_
      refine Go.istore (pc' := 43) W21 #[.val (.int counts), .val (.int ka), .val (.int kb), .val (.int kc), .val (.int modes), .val (.int x), .val (.ref a1), .val (.ref a8), .val (.ref a15), .val (.int (2 : Int32)), .val (.int (2 : Int32)), .unset, .unset, .unset, .unset] d_code_41 rfl rfl ?_
      have W51 := W21.keepRo [4, 5, 2, 3, 0, 1] (ρ' := [(a1, c2), (b3, c4), (a8, c9), (b10, c11), (a15, c16), (b17, c18)]) rfl
      replace W51 : Wk l Z EL1 ({ frames := 9, cells := 56, slots := 1344, locals := 208 } : Room) "com/example/maswali/maswali/RendererWrittenInPinLaw" code 15 (some .boolean) "law" X [] [(a1, c2), (b3, c4), (a8, c9), (b10, c11), (a15, c16), (b17, c18)] T20 18 (36) := W51
      exact rm_t22 G counts ka kb kc modes x nv hnv Sn da Sd a1 b3 a8 b10 a15 b17 c2 c4 c9 c11 c16 c18 S5 S12 S19 W51
  · refine Go.istore (pc' := 23) W21 #[.val (.int counts), .val (.int ka), .val (.int kb), .val (.int kc), .val (.int modes), .val (.int x), .val (.ref a1), .val (.ref a8), .val (.ref a15), .val (.int (3 : Int32)), .unset, .unset, .unset, .unset, .unset] d_code_21 rfl rfl ?_
    refine Go.iloadN (pc' := 24) W21 d_code_23 rfl rfl ?_
    refine Go.iconst (pc' := 25) W21 (2 : Int32) d_code_24 (by decide) rfl ?_
    refine Go.iushr (pc' := 26) W21 d_code_25 rfl ?_
    refine Go.iconst (pc' := 27) W21 (1 : Int32) d_code_26 (by decide) rfl ?_
    refine Go.iand (pc' := 28) W21 d_code_27 rfl ?_
    refine Go.if_ne (pc' := 31) W21 36 d_code_28 (by decide) rfl (fun (c52 : ¬ ((((counts.toUInt32 >>> ((2 : Int32) &&& 31).toUInt32).toInt32) &&& (1 : Int32)) = 0)) => ?_) (fun (c52 : (((counts.toUInt32 >>> ((2 : Int32) &&& 31).toUInt32).toInt32) &&& (1 : Int32)) = 0) => ?_)
    · refine Go.iloadN (pc' := 37) W21 d_code_36 rfl rfl ?_
      refine Go.iconst (pc' := 38) W21 (3 : Int32) d_code_37 (by decide) rfl ?_
      refine Go.iushr (pc' := 39) W21 d_code_38 rfl ?_
      refine Go.iconst (pc' := 40) W21 (3 : Int32) d_code_39 (by decide) rfl ?_
      refine Go.iand (pc' := 41) W21 d_code_40 rfl ?_
      generalize e54 : ((counts.toUInt32 >>> ((3 : Int32) &&& 31).toUInt32).toInt32) &&& (3 : Int32) = n53
      have h55 : n53 = (0 : Int32) ∨ n53 = (1 : Int32) ∨ n53 = (2 : Int32) ∨ n53 = (3 : Int32) := by rw [← e54]; exact and3 _
      rcases h55 with rfl | rfl | rfl | rfl
      · refine Go.istore (pc' := 43) W21 #[.val (.int counts), .val (.int ka), .val (.int kb), .val (.int kc), .val (.int modes), .val (.int x), .val (.ref a1), .val (.ref a8), .val (.ref a15), .val (.int (3 : Int32)), .val (.int (0 : Int32)), .unset, .unset, .unset, .unset] d_code_41 rfl rfl ?_
        have W56 := W21.keepRo [4, 5, 2, 3, 0, 1] (ρ' := [(a1, c2), (b3, c4), (a8, c9), (b10, c11), (a15, c16), (b17, c18)]) rfl
        replace W56 : Wk l Z EL1 ({ frames := 9, cells := 56, slots := 1344, locals := 208 } : Room) "com/example/maswali/maswali/RendererWrittenInPinLaw" code 15 (some .boolean) "law" X [] [(a1, c2), (b3, c4), (a8, c9), (b10, c11), (a15, c16), (b17, c18)] T20 18 (36) := W56
        exact rm_t30 G counts ka kb kc modes x nv hnv Sn da Sd a1 b3 a8 b10 a15 b17 c2 c4 c9 c11 c16 c18 S5 S12 S19 W56
      · refine Go.istore (pc' := 43) W21 #[.val (.int counts), .val (.int ka), .val (.int kb), .val (.int kc), .val (.int modes), .val (.int x), .val (.ref a1), .val (.ref a8), .val (.ref a15), .val (.int (3 : Int32)), .val (.int (1 : Int32)), .unset, .unset, .unset, .unset] d_code_41 rfl rfl ?_
        have W57 := W21.keepRo [4, 5, 2, 3, 0, 1] (ρ' := [(a1, c2), (b3, c4), (a8, c9), (b10, c11), (a15, c16), (b17, c18)]) rfl
        replace W57 : Wk l Z EL1 ({ frames := 9, cells := 56, slots := 1344, locals := 208 } : Room) "com/example/maswali/maswali/RendererWrittenInPinLaw" code 15 (some .boolean) "law" X [] [(a1, c2), (b3, c4), (a8, c9), (b10, c11), (a15, c16), (b17, c18)] T20 18 (36) := W57
        exact rm_t31 G counts ka kb kc modes x nv hnv Sn da Sd a1 b3 a8 b10 a15 b17 c2 c4 c9 c11 c16 c18 S5 S12 S19 W57
      · refine Go.istore (pc' := 43) W21 #[.val (.int counts), .val (.int ka), .val (.int kb), .val (.int kc), .val (.int modes), .val (.int x), .val (.ref a1), .val (.ref a8), .val (.ref a15), .val (.int (3 : Int32)), .val (.int (2 : Int32)), .unset, .unset, .unset, .unset] d_code_41 rfl rfl ?_
        have W58 := W21.keepRo [4, 5, 2, 3, 0, 1] (ρ' := [(a1, c2), (b3, c4), (a8, c9), (b10, c11), (a15, c16), (b17, c18)]) rfl
        replace W58 : Wk l Z EL1 ({ frames := 9, cells := 56, slots := 1344, locals := 208 } : Room) "com/example/maswali/maswali/RendererWrittenInPinLaw" code 15 (some .boolean) "law" X [] [(a1, c2), (b3, c4), (a8, c9), (b10, c11), (a15, c16), (b17, c18)] T20 18 (36) := W58
        exact rm_t32 G counts ka kb kc modes x nv hnv Sn da Sd a1 b3 a8 b10 a15 b17 c2 c4 c9 c11 c16 c18 S5 S12 S19 W58
      · refine Go.istore (pc' := 43) W21 #[.val (.int counts), .val (.int ka), .val (.int kb), .val (.int kc), .val (.int modes), .val (.int x), .val (.ref a1), .val (.ref a8), .val (.ref a15), .val (.int (3 : Int32)), .val (.int (3 : Int32)), .unset, .unset, .unset, .unset] d_code_41 rfl rfl ?_
        have W59 := W21.keepRo [4, 5, 2, 3, 0, 1] (ρ' := [(a1, c2), (b3, c4), (a8, c9), (b10, c11), (a15, c16), (b17, c18)]) rfl
        replace W59 : Wk l Z EL1 ({ frames := 9, cells := 56, slots := 1344, locals := 208 } : Room) "com/example/maswali/maswali/RendererWrittenInPinLaw" code 15 (some .boolean) "law" X [] [(a1, c2), (b3, c4), (a8, c9), (b10, c11), (a15, c16), (b17, c18)] T20 18 (36) := W59
        exact rm_t33 G counts ka kb kc modes x nv hnv Sn da Sd a1 b3 a8 b10 a15 b17 c2 c4 c9 c11 c16 c18 S5 S12 S19 W59
    · refine Go.iload (pc' := 33) W21 d_code_31 rfl rfl ?_
      refine Go.goto W21 41 d_code_33 (by decide) ?_
      refine Go.istore (pc' := 43) W21 #[.val (.int counts), .val (.int ka), .val (.int kb), .val (.int kc), .val (.int modes), .val (.int x), .val (.ref a1), .val (.ref a8), .val (.ref a15), .val (.int (3 : Int32)), .val (.int (3 : Int32)), .unset, .unset, .unset, .unset] d_code_41 rfl rfl ?_
      have W60 := W21.keepRo [4, 5, 2, 3, 0, 1] (ρ' := [(a1, c2), (b3, c4), (a8, c9), (b10, c11), (a15, c16), (b17, c18)]) rfl
      replace W60 : Wk l Z EL1 ({ frames := 9, cells := 56, slots := 1344, locals := 208 } : Room) "com/example/maswali/maswali/RendererWrittenInPinLaw" code 15 (some .boolean) "law" X [] [(a1, c2), (b3, c4), (a8, c9), (b10, c11), (a15, c16), (b17, c18)] T20 18 (36) := W60
      exact rm_t33 G counts ka kb kc modes x nv hnv Sn da Sd a1 b3 a8 b10 a15 b17 c2 c4 c9 c11 c16 c18 S5 S12 S19 W60
set_option maxRecDepth 65536 in
set_option maxHeartbeats 40000000 in
theorem comes_1 {Post : Tables → Env → Array Value → State → Outcome → State → Prop} (hpost : ∀ tb e args s v u, (limb_1_1.after args s (.returned v) u = true ∧ limb_1_2.after args s (.returned v) u = true ∧ True) → ReturnedEndW s (.returned v) u (Jvm.fieldLocs frame_1_writes args s ++ Jvm.arrayLocs frame_1_arrays args s ++ Jvm.staticLocs frame_1_statics s) 56 1344 → Post tb e args s (.returned v) u) :
    ArmFor flags0 classFile x code maxLocals ret World_1 tables_1 room_1 Calls_1 rest_1 Pre_1 Post := by
  intro l hfl _ _ p e ha hc hk s m args below hf hA hF happ hP
  obtain ⟨hcalls, hrest, hpre⟩ := hP
  obtain ⟨-, -, -, hnamed, -, -, -, hat⟩ := (Spec.applies_iff hf).mp happ
  obtain ⟨hg, hn⟩ := and_e (Cond.before_iff.mp (show (Jvm.Cond.and given_1 narrow_1).before args s = true from hpre))
  obtain ⟨g0, h0⟩ := and_e hg
  obtain ⟨g1, h1⟩ := and_e h0
  obtain ⟨g2, h2⟩ := and_e h1
  obtain ⟨g3, h3⟩ := and_e h2
  obtain ⟨g4, h4⟩ := and_e h3
  obtain ⟨g5, h5⟩ := and_e h4
  have g6 := h5
  obtain ⟨w0, w1, w2, w3, w4, w5, rfl⟩ : ∃ w0 w1 w2 w3 w4 w5 : Value, args = #[w0, w1, w2, w3, w4, w5] := by
    have hs : args.size = 6 := by simpa [Cond.value, given_1] using g0
    obtain ⟨L⟩ := args
    match L, hs with
    | [w0, w1, w2, w3, w4, w5], _ => exact ⟨w0, w1, w2, w3, w4, w5, rfl⟩
  have hw := fun d (hd : d ∈ tables_1) => atoms_spec (ws := Jvm.Cond.code x code maxLocals ret :: tables_1) hat d (List.mem_cons_of_mem _ hd)
  obtain ⟨hsets, hown0⟩ := atoms_of _ (rest_1_c_eq ▸ (show rest_1_c.before _ s = true from hrest))
  have hfit : Fit s := fun {y c} hc i hi => by
    obtain ⟨ha, rfl⟩ := Array.getElem?_eq_some_iff.mp hc
    have q := List.all_eq_true.mp ((Array.all_eq_true_iff_forall_mem.mp hF) _ (Array.getElem_mem ha)) i (List.mem_range.mpr hi)
    simpa [Array.getElem?_eq_getElem hi] using q
  obtain ⟨i0, e0⟩ := is_v g1
  obtain rfl : w0 = (.int i0) := Option.some.inj e0
  obtain ⟨i1, e1⟩ := is_v g2
  obtain rfl : w1 = (.int i1) := Option.some.inj e1
  obtain ⟨i2, e2⟩ := is_v g3
  obtain rfl : w2 = (.int i2) := Option.some.inj e2
  obtain ⟨i3, e3⟩ := is_v g4
  obtain rfl : w3 = (.int i3) := Option.some.inj e3
  obtain ⟨i4, e4⟩ := is_v g5
  obtain rfl : w4 = (.int i4) := Option.some.inj e4
  obtain ⟨i5, e5⟩ := is_v g6
  obtain rfl : w5 = (.int i5) := Option.some.inj e5
  have n5 := not_v (Cond.before_iff.mp (hsets _ (List.mem_of_getElem? (i := 2) rfl)))
  obtain ⟨icv, ecv⟩ := is_v (Cond.before_iff.mp (hsets _ (List.mem_of_getElem? (i := 1) rfl)))
  have Scv : Sta s s.heap "java/lang/String" "COMPACT_STRINGS" "Z" (.int icv) := Sta.start ecv (Or.inl (hsets _ (List.mem_of_getElem? (i := 0) rfl)))
  have ccv : ¬ (icv = (0 : Int32)) := gotF (Cond.eq_ints ecv (Term.int_eval (0))) n5
  have hEL : EW s _ EL1 := (EW.cons (text := "") (hw _ (List.mem_of_getElem? (l := tables_1) (i := 78) rfl)) (by decide +kernel) EW.nil)
  obtain ⟨m1, m2⟩ := and_e hn
  obtain ⟨m3, m4⟩ := and_e m2
  obtain ⟨da, eda⟩ := exa_v m1
  obtain ⟨na, ena⟩ := arr_v m3
  have Sd : Sta s s.heap "com/example/maswali/maswali/Dialect" "POSTGRES" "Lcom/example/maswali/maswali/Dialect;" (.ref da) := Sta.start eda (Or.inr ⟨hw _ (List.mem_of_getElem? (l := tables_1) (i := 39) rfl), hw _ (List.mem_of_getElem? (l := tables_1) (i := 40) rfl)⟩)
  have Sn : Sta s s.heap "com/example/maswali/maswali/BindValues" "NONE" "[Ljava/lang/Object;" (.ref na) := Sta.start ena (Or.inr ⟨hw _ (List.mem_of_getElem? (l := tables_1) (i := 50) rfl), hw _ (List.mem_of_getElem? (l := tables_1) (i := 56) rfl)⟩)
  obtain ⟨vfm, efm, rfm⟩ := isR_v (Cond.before_iff.mp (hsets _ (List.mem_of_getElem? (i := 8) rfl)))
  have Sfm : Sta s s.heap "jdk/internal/util/Preconditions" "SIOOBE_FORMATTER" "Ljava/util/function/BiFunction;" vfm := Sta.start efm (Or.inl (hsets _ (List.mem_of_getElem? (i := 7) rfl)))
  have G : Cl s _ := ⟨hw, hEL, ⟨icv, Scv, ccv⟩, ⟨vfm, Sfm, rfm⟩, trivial⟩
  have hCH : CHv s EL1 s.vm s.heap := CHv.start hEL (fun p hp => hcalls.1 p hp) (hsets _ (List.mem_of_getElem? (i := 2) rfl)) (w_23 G) (w_5 G)
  have H0 : Hp s EL1 [] [] s [] [] s.vm s.heap := ⟨CHr.refl hCH, (fun _ q => nomatch q), (fun _ q => nomatch q), List.nodup_nil, (fun _ q => nomatch q), (fun _ q => nomatch q), (fun _ _ q _ => q), Nat.le_refl _, fun _ _ q => q⟩
  have happ' : (head1 [Jvm.Cond.code x code maxLocals ret] room_1).appliesLoose x e.platform s = true := by
    obtain ⟨q1, q2, q3, q4, q5, q6, q7, q8⟩ := (Spec.appliesLoose_iff hf).mp ((Spec.applies_iff_loose hf).mp happ).1
    refine (Spec.appliesLoose_iff hf).mpr ⟨q1, q2, q3, q4, q5, q6, q7, ?_⟩
    show (Jvm.Cond.and _ .tt).before _ s = true
    rw [Cond.before_and, atoms_spec (ws := Jvm.Cond.code x code maxLocals ret :: tables_1) hat _ (List.mem_cons_self ..)]; rfl
  obtain ⟨n, o, h1, h2, h3, v, σ, ρ, L, rfl, rfl, N, -, hq⟩ := rm_law G i0 i1 i2 i3 i4 i5 (.ref na) rfl Sn da Sd p e ha hc hk s m _ below hf happ' ⟨rfl, State.Warmed39.refl s, H0⟩ trivial
  refine ⟨n, _, h1, h2, h3, hpost _ _ _ _ _ _ ⟨Cond.after_iff.mpr rfl, Cond.after_iff.mpr (eq_i res_at (Term.int_eval (1)) rfl), trivial⟩ ⟨hq.1, hq.2.1, hq.2.2.1, (hq.2.2.2.sift fun y hy => Or.inr (N y hy)).mono (by decide) (by decide)⟩⟩
theorem main_1_1 : Claimed_1_1 := comes_1 fun _ _ _ _ _ _ h hF => ⟨h.1, hF⟩
theorem main_1_2 : Claimed_1_2 := comes_1 fun _ _ _ _ _ _ h hF => ⟨h.2.1, hF⟩
end Jvm.Pilot.@@N@@
namespace Jvm.Pilot.@@N@@
open Jvm Jvm.ClassFile Sem Op Lib Jvm.Free Jvm.Stand Jvm.Pilot.@@N@@.Jvm.D
/-! MADE BY PROGRAM (witnessworld.py) out of the Statement's table words and the real class files: 25 classes; the members and pool entries that the words name. The judged class is class 1, her method 3. -/
namespace start1
open Jvm.ClassFile
def u (s : String) : CpInfo := .utf8 (stringToUtf16 s)
/-- a pool by its gaps: so many unusable entries, then the entry; so many at the end -/
def gap : Nat → List CpInfo → List CpInfo
  | 0, r => r
  | n + 1, r => .unusable :: gap n r
def poolList (es : List (Nat × CpInfo)) (last : Nat) : List CpInfo := es.foldr (fun e r => gap e.1 (e.2 :: r)) (gap last [])
def pool (es : List (Nat × CpInfo)) (last : Nat) : Array CpInfo := ⟨poolList es last⟩
def fileOf (pool : Array CpInfo) (this : Nat) (attrs : Array Attribute := #[]) (ms : Array MethodInfo := #[]) (fl : Nat := 33) (sup : Nat := 0) (ifs : Array Nat := #[]) (fds : Array FieldInfo := #[]) : ClassFile where
  minorVersion := 0
  majorVersion := 65
  constantPool := pool
  accessFlags := fl
  thisClass := this
  superClass := sup
  interfaces := ifs
  fields := fds
  methods := ms
  attributes := attrs
def plain (name : String) (sup : Option ClassId) : Class where
  name := name
  kind := .ordinary
  loader := none
  accessFlags := 33
  super := sup
  interfaces := #[]
  cf := none
  fields := #[]
  methods := #[]
  instanceTypes := #[]
  staticTypes := #[]
  resolved := #[]
  callSites := []
  init := .initialized
  statics := none
  mirror := none

def pool0 : Array CpInfo := pool [(5, u "<init>"), (0, u "()V"), (1, .class_ 10), (1, u "java/lang/Object")] 113

def k0c0 : Code := { maxStack := 0, maxLocals := 1, code := object_method_1_code, exceptionTable := #[], attributes := #[] }
def k0m0 : Method := { name := "<init>", desc := "()V", sig := { parameters := [], returnType := none }, accessFlags := 1, code := some k0c0 }
/-- java/lang/Object -/
def k0 : Class := { plain "java/lang/Object" none with
  accessFlags := 33
  interfaces := #[]
  cf := some (fileOf pool0 8 #[] #[{ accessFlags := 1, nameIndex := 5, descriptorIndex := 6, attributes := #[] }] 33 0 #[] #[])
  fields := #[]
  methods := #[k0m0]
  instanceTypes := #[]
  staticTypes := #[]
  resolved := Array.replicate 124 none
  statics := none }

def pool1 : Array CpInfo := pool [(2, .class_ 4), (1, u "java/lang/Object"), (0, u "<init>"), (0, u "()V"), (0, .class_ 8), (0, u "java/lang/String"), (0, .methodref 7 10), (0, .nameAndType 5 11), (0, u "([C)V"), (0, .methodref 13 14), (0, .class_ 15), (0, .nameAndType 16 17), (0, u "com/example/maswali/maswali/RendererWrittenInPinLaw"), (0, u "str"), (0, u "(I)Ljava/lang/String;"), (0, .methodref 13 19), (0, .nameAndType 20 21), (0, u "other"), (0, u "(Ljava/lang/String;IIILjava/lang/String;)Ljava/lang/String;"), (0, .class_ 23), (0, u "com/example/maswali/maswali/Renderer"), (0, .fieldref 25 26), (0, .class_ 27), (0, .nameAndType 28 29), (0, u "com/example/maswali/maswali/Dialect"), (0, u "POSTGRES"), (0, u "Lcom/example/maswali/maswali/Dialect;"), (0, .methodref 22 31), (0, .nameAndType 5 32), (0, u "(Lcom/example/maswali/maswali/Dialect;)V"), (0, .methodref 22 34), (0, .nameAndType 35 36), (0, u "append"), (0, u "(Ljava/lang/String;)V"), (0, .methodref 22 38), (0, .nameAndType 39 40), (0, u "writtenIn"), (0, u "([Ljava/lang/String;)Z"), (0, .methodref 7 42), (0, .nameAndType 43 44), (0, u "equals"), (0, u "(Ljava/lang/Object;)Z"), (3, u "law"), (0, u "(IIIIII)Z")] 4

def k1m0 : Method := { name := "<init>", desc := "()V", sig := { parameters := [], returnType := none }, accessFlags := 1, code := none }
def k1c1 : Code := { maxStack := 7, maxLocals := 2, code := method_2_code, exceptionTable := #[], attributes := #[] }
def k1m1 : Method := { name := "str", desc := "(I)Ljava/lang/String;", sig := { parameters := [.int], returnType := some (.object "java/lang/String") }, accessFlags := 10, code := some k1c1 }
def k1c2 : Code := { maxStack := 2, maxLocals := 5, code := method_3_code, exceptionTable := #[], attributes := #[] }
def k1m2 : Method := { name := "other", desc := "(Ljava/lang/String;IIILjava/lang/String;)Ljava/lang/String;", sig := { parameters := [(.object "java/lang/String"), .int, .int, .int, (.object "java/lang/String")], returnType := some (.object "java/lang/String") }, accessFlags := 10, code := some k1c2 }
def k1c3 : Code := { maxStack := 7, maxLocals := 15, code := code, exceptionTable := #[], attributes := #[] }
def k1m3 : Method := { name := "law", desc := "(IIIIII)Z", sig := { parameters := [.int, .int, .int, .int, .int, .int], returnType := some .boolean }, accessFlags := 9, code := some k1c3 }
/-- com/example/maswali/maswali/RendererWrittenInPinLaw -/
def k1 : Class := { plain "com/example/maswali/maswali/RendererWrittenInPinLaw" (some 0) with
  accessFlags := 49
  interfaces := #[]
  cf := some (fileOf pool1 13 #[] #[{ accessFlags := 1, nameIndex := 5, descriptorIndex := 6, attributes := #[] }, { accessFlags := 10, nameIndex := 16, descriptorIndex := 17, attributes := #[] }, { accessFlags := 10, nameIndex := 20, descriptorIndex := 21, attributes := #[] }, { accessFlags := 9, nameIndex := 48, descriptorIndex := 49, attributes := #[] }] 49 2 #[] #[])
  fields := #[]
  methods := #[k1m0, k1m1, k1m2, k1m3]
  instanceTypes := #[]
  staticTypes := #[]
  resolved := Array.replicate 54 none
  statics := none }

def pool2 : Array CpInfo := pool [(1, .class_ 2), (0, u "java/io/Serializable"), (0, .class_ 4), (0, u "java/lang/Object")] 2

/-- java/io/Serializable -/
def k2 : Class := { plain "java/io/Serializable" (some 0) with
  accessFlags := 1537
  interfaces := #[]
  cf := some (fileOf pool2 1 #[] #[] 1537 3 #[] #[])
  fields := #[]
  methods := #[]
  instanceTypes := #[]
  staticTypes := #[]
  resolved := Array.replicate 7 none
  statics := none }

def pool3 : Array CpInfo := pool [(1, .class_ 2), (0, u "java/lang/Comparable"), (0, .class_ 4), (0, u "java/lang/Object")] 7

/-- java/lang/Comparable -/
def k3 : Class := { plain "java/lang/Comparable" (some 0) with
  accessFlags := 1537
  interfaces := #[]
  cf := some (fileOf pool3 1 #[] #[] 1537 3 #[] #[])
  fields := #[]
  methods := #[]
  instanceTypes := #[]
  staticTypes := #[]
  resolved := Array.replicate 12 none
  statics := none }

def pool4 : Array CpInfo := pool [(2, .class_ 4), (1, u "java/lang/CharSequence"), (42, .class_ 48), (0, u "java/lang/CharSequence$1CodePointIterator"), (10, .class_ 60), (0, u "java/lang/CharSequence$1CharIterator"), (5, .class_ 67), (0, u "java/lang/Object")] 63

/-- java/lang/CharSequence -/
def k4 : Class := { plain "java/lang/CharSequence" (some 0) with
  accessFlags := 1537
  interfaces := #[]
  cf := some (fileOf pool4 2 #[.nestMembers #[47, 59]] #[] 1537 66 #[] #[])
  fields := #[]
  methods := #[]
  instanceTypes := #[]
  staticTypes := #[]
  resolved := Array.replicate 131 none
  statics := none }

def pool5 : Array CpInfo := pool [(1, .class_ 2), (0, u "java/lang/constant/Constable"), (0, .class_ 4), (0, u "java/lang/Object")] 6

/-- java/lang/constant/Constable -/
def k5 : Class := { plain "java/lang/constant/Constable" (some 0) with
  accessFlags := 1537
  interfaces := #[]
  cf := some (fileOf pool5 1 #[] #[] 1537 3 #[] #[])
  fields := #[]
  methods := #[]
  instanceTypes := #[]
  staticTypes := #[]
  resolved := Array.replicate 11 none
  statics := none }

def pool6 : Array CpInfo := pool [(1, .class_ 2), (0, u "java/lang/constant/ConstantDesc"), (0, .class_ 4), (0, u "java/lang/Object")] 32

/-- java/lang/constant/ConstantDesc -/
def k6 : Class := { plain "java/lang/constant/ConstantDesc" (some 0) with
  accessFlags := 1537
  interfaces := #[]
  cf := some (fileOf pool6 1 #[] #[] 1537 3 #[] #[])
  fields := #[]
  methods := #[]
  instanceTypes := #[]
  staticTypes := #[]
  resolved := Array.replicate 37 none
  statics := none }

def pool7 : Array CpInfo := pool [(1, .methodref 2 3), (0, .class_ 4), (0, .nameAndType 5 6), (0, u "java/lang/Object"), (0, u "<init>"), (0, u "()V"), (0, .string 8), (0, u ""), (0, .fieldref 10 11), (0, .class_ 12), (0, .nameAndType 13 14), (0, u "java/lang/String"), (0, u "value"), (0, u "[B"), (0, .fieldref 10 16), (0, .nameAndType 17 18), (0, u "coder"), (0, u "B"), (2, u "hash"), (0, u "I"), (2, u "hashIsZero"), (0, u "Z"), (0, .methodref 10 28), (0, .nameAndType 5 29), (0, u "([CIILjava/lang/Void;)V"), (8, .fieldref 10 39), (0, .nameAndType 40 26), (0, u "COMPACT_STRINGS"), (1, .class_ 44), (1, u "java/lang/StringUTF16"), (0, u "compress"), (1, .methodref 42 48), (0, .nameAndType 49 50), (0, u "coderFromArrayLen"), (0, u "([BI)B"), (56, .class_ 109), (1, u "java/lang/StringLatin1"), (67, .methodref 42 178), (0, .nameAndType 45 179), (0, u "([CII)[B"), (361, .methodref 107 542), (0, .nameAndType 543 544), (0, u "equals"), (0, u "([B[B)Z"), (28, u "(Ljava/lang/Object;)Z"), (1, .class_ 576), (0, u "java/lang/CharSequence"), (22, u "CASE_INSENSITIVE_ORDER"), (0, u "Ljava/util/Comparator;"), (409, u "([C)V"), (90, u "serialPersistentFields"), (0, u "[Ljava/io/ObjectStreamField;"), (0, .class_ 1104), (0, u "java/lang/String$CaseInsensitiveComparator"), (1, .class_ 1107), (0, u "java/io/Serializable"), (0, .class_ 1109), (0, u "java/lang/Comparable"), (0, .class_ 1111), (0, u "java/lang/constant/Constable"), (0, .class_ 1113), (0, u "java/lang/constant/ConstantDesc"), (2, u "serialVersionUID"), (0, u "J"), (3, u "REPL"), (0, u "C"), (2, u "LATIN1"), (1, u "UTF16")] 323

def k7m0 : Method := { name := "<init>", desc := "()V", sig := { parameters := [], returnType := none }, accessFlags := 1, code := none }
def k7c1 : Code := { maxStack := 5, maxLocals := 2, code := jdk_42_method_3_code, exceptionTable := #[], attributes := #[] }
def k7m1 : Method := { name := "<init>", desc := "([C)V", sig := { parameters := [(.array .char)], returnType := none }, accessFlags := 1, code := some k7c1 }
def k7c2 : Code := { maxStack := 2, maxLocals := 3, code := jdk_42_method_66_code, exceptionTable := #[], attributes := #[] }
def k7m2 : Method := { name := "equals", desc := "(Ljava/lang/Object;)Z", sig := { parameters := [(.object "java/lang/Object")], returnType := some .boolean }, accessFlags := 1, code := some k7c2 }
def k7c3 : Code := { maxStack := 4, maxLocals := 6, code := jdk_42_method_149_code, exceptionTable := #[], attributes := #[] }
def k7m3 : Method := { name := "<init>", desc := "([CIILjava/lang/Void;)V", sig := { parameters := [(.array .char), .int, .int, (.object "java/lang/Void")], returnType := none }, accessFlags := 2, code := some k7c3 }
/-- java/lang/String -/
def k7 : Class := { plain "java/lang/String" (some 0) with
  accessFlags := 49
  interfaces := #[2, 3, 4, 5, 6]
  cf := some (fileOf pool7 10 #[.nestMembers #[1103]] #[{ accessFlags := 1, nameIndex := 5, descriptorIndex := 6, attributes := #[] }, { accessFlags := 1, nameIndex := 5, descriptorIndex := 1010, attributes := #[] }, { accessFlags := 1, nameIndex := 543, descriptorIndex := 573, attributes := #[] }, { accessFlags := 2, nameIndex := 5, descriptorIndex := 29, attributes := #[] }] 49 2 #[1106, 1108, 575, 1110, 1112] #[{ accessFlags := 18, nameIndex := 13, descriptorIndex := 14, attributes := #[] }, { accessFlags := 18, nameIndex := 17, descriptorIndex := 18, attributes := #[] }, { accessFlags := 2, nameIndex := 21, descriptorIndex := 22, attributes := #[] }, { accessFlags := 2, nameIndex := 25, descriptorIndex := 26, attributes := #[] }, { accessFlags := 26, nameIndex := 1116, descriptorIndex := 1117, attributes := #[] }, { accessFlags := 24, nameIndex := 40, descriptorIndex := 26, attributes := #[] }, { accessFlags := 26, nameIndex := 1101, descriptorIndex := 1102, attributes := #[] }, { accessFlags := 26, nameIndex := 1121, descriptorIndex := 1122, attributes := #[] }, { accessFlags := 25, nameIndex := 599, descriptorIndex := 600, attributes := #[] }, { accessFlags := 24, nameIndex := 1125, descriptorIndex := 18, attributes := #[] }, { accessFlags := 24, nameIndex := 1127, descriptorIndex := 18, attributes := #[] }])
  fields := #[{ name := "value", type := (.array .byte), accessFlags := 18, slot := 0, constantValue := 0 }, { name := "coder", type := .byte, accessFlags := 18, slot := 1, constantValue := 0 }, { name := "hash", type := .int, accessFlags := 2, slot := 2, constantValue := 0 }, { name := "hashIsZero", type := .boolean, accessFlags := 2, slot := 3, constantValue := 0 }, { name := "serialVersionUID", type := .long, accessFlags := 26, slot := 0, constantValue := 0 }, { name := "COMPACT_STRINGS", type := .boolean, accessFlags := 24, slot := 1, constantValue := 0 }, { name := "serialPersistentFields", type := (.array (.object "java/io/ObjectStreamField")), accessFlags := 26, slot := 2, constantValue := 0 }, { name := "REPL", type := .char, accessFlags := 26, slot := 3, constantValue := 0 }, { name := "CASE_INSENSITIVE_ORDER", type := (.object "java/util/Comparator"), accessFlags := 25, slot := 4, constantValue := 0 }, { name := "LATIN1", type := .byte, accessFlags := 24, slot := 5, constantValue := 0 }, { name := "UTF16", type := .byte, accessFlags := 24, slot := 6, constantValue := 0 }]
  methods := #[k7m0, k7m1, k7m2, k7m3]
  instanceTypes := #[(.array .byte), .byte, .int, .boolean]
  staticTypes := #[.long, .boolean, (.array (.object "java/io/ObjectStreamField")), .char, (.object "java/util/Comparator"), .byte, .byte]
  resolved := Array.replicate 1451 none
  statics := some 0 }

def pool8 : Array CpInfo := pool [(6, .class_ 8), (1, u "java/lang/Object"), (0, u "<init>"), (0, u "()V"), (1, .class_ 14), (1, u "java/lang/StringUTF16"), (31, u "$assertionsDisabled"), (0, u "Z"), (13, u "HI_BYTE_SHIFT"), (0, u "I"), (2, u "LO_BYTE_SHIFT"), (49, .methodref 12 116), (0, .nameAndType 117 118), (0, u "compress"), (0, u "([CI[BII)I"), (3, u "([CII)[B"), (138, u "coderFromArrayLen"), (0, u "([BI)B"), (106, .class_ 371), (1, u "java/lang/StringUTF16$LinesSpliterator"), (58, u "MAX_LENGTH"), (196, .class_ 628), (0, u "java/lang/StringUTF16$CodePointsSpliterator"), (0, .class_ 630), (0, u "java/lang/StringUTF16$CharsSpliterator")] 4

def k8m0 : Method := { name := "<init>", desc := "()V", sig := { parameters := [], returnType := none }, accessFlags := 0, code := none }
def k8c1 : Code := { maxStack := 2, maxLocals := 2, code := jdk_52_method_15_code, exceptionTable := #[], attributes := #[] }
def k8m1 : Method := { name := "coderFromArrayLen", desc := "([BI)B", sig := { parameters := [(.array .byte), .int], returnType := some .byte }, accessFlags := 8, code := some k8c1 }
def k8c2 : Code := { maxStack := 5, maxLocals := 6, code := jdk_52_method_16_code, exceptionTable := #[], attributes := #[] }
def k8m2 : Method := { name := "compress", desc := "([CII)[B", sig := { parameters := [(.array .char), .int, .int], returnType := some (.array .byte) }, accessFlags := 9, code := some k8c2 }
def k8c3 : Code := { maxStack := 3, maxLocals := 7, code := jdk_52_method_21_code, exceptionTable := #[], attributes := #[] }
def k8m3 : Method := { name := "compress", desc := "([CI[BII)I", sig := { parameters := [(.array .char), .int, (.array .byte), .int, .int], returnType := some .int }, accessFlags := 9, code := some k8c3 }
/-- java/lang/StringUTF16 -/
def k8 : Class := { plain "java/lang/StringUTF16" (some 0) with
  accessFlags := 48
  interfaces := #[]
  cf := some (fileOf pool8 12 #[.nestMembers #[627, 629, 369]] #[{ accessFlags := 0, nameIndex := 9, descriptorIndex := 10, attributes := #[] }, { accessFlags := 8, nameIndex := 261, descriptorIndex := 262, attributes := #[] }, { accessFlags := 9, nameIndex := 117, descriptorIndex := 122, attributes := #[] }, { accessFlags := 9, nameIndex := 117, descriptorIndex := 118, attributes := #[] }] 48 6 #[] #[{ accessFlags := 26, nameIndex := 61, descriptorIndex := 62, attributes := #[] }, { accessFlags := 26, nameIndex := 65, descriptorIndex := 62, attributes := #[] }, { accessFlags := 24, nameIndex := 430, descriptorIndex := 62, attributes := #[] }, { accessFlags := 4120, nameIndex := 46, descriptorIndex := 47, attributes := #[] }])
  fields := #[{ name := "HI_BYTE_SHIFT", type := .int, accessFlags := 26, slot := 0, constantValue := 0 }, { name := "LO_BYTE_SHIFT", type := .int, accessFlags := 26, slot := 1, constantValue := 0 }, { name := "MAX_LENGTH", type := .int, accessFlags := 24, slot := 2, constantValue := 0 }, { name := "$assertionsDisabled", type := .boolean, accessFlags := 4120, slot := 3, constantValue := 0 }]
  methods := #[k8m0, k8m1, k8m2, k8m3]
  instanceTypes := #[]
  staticTypes := #[.int, .int, .int, .boolean]
  resolved := Array.replicate 635 none
  statics := none }

def pool9 : Array CpInfo := pool [(1, .methodref 2 3), (0, .class_ 4), (0, .nameAndType 5 6), (0, u "java/lang/Object"), (0, u "<init>"), (0, u "()V"), (0, .class_ 8), (0, u "java/lang/String"), (0, .fieldref 10 11), (0, .class_ 12), (0, .nameAndType 13 14), (0, u "com/example/maswali/maswali/Renderer"), (0, u "pieces"), (0, u "[Ljava/lang/String;"), (0, .class_ 16), (0, u "com/example/maswali/maswali/BindValues"), (0, .methodref 15 3), (0, .fieldref 10 19), (0, .nameAndType 20 21), (0, u "bindValues"), (0, u "Lcom/example/maswali/maswali/BindValues;"), (0, .fieldref 10 23), (0, .nameAndType 24 25), (0, u "dialect"), (0, u "Lcom/example/maswali/maswali/Dialect;"), (0, .fieldref 10 27), (0, .nameAndType 28 29), (0, u "pieceCount"), (0, u "I"), (14, u "append"), (0, u "(Ljava/lang/String;)V"), (8, u "PLACEHOLDER"), (0, u "Ljava/lang/String;"), (53, .methodref 7 110), (0, .nameAndType 111 112), (0, u "equals"), (0, u "(Ljava/lang/Object;)Z"), (11, u "SPACE"), (1, u "SEPARATOR"), (0, u "(Lcom/example/maswali/maswali/Dialect;)V"), (14, u "writtenIn"), (0, u "([Ljava/lang/String;)Z")] 33

def k9c0 : Code := { maxStack := 3, maxLocals := 2, code := prog_7_method_1_code, exceptionTable := #[], attributes := #[] }
def k9m0 : Method := { name := "<init>", desc := "(Lcom/example/maswali/maswali/Dialect;)V", sig := { parameters := [(.object "com/example/maswali/maswali/Dialect")], returnType := none }, accessFlags := 0, code := some k9c0 }
def k9c1 : Code := { maxStack := 5, maxLocals := 2, code := prog_7_method_3_code, exceptionTable := #[], attributes := #[] }
def k9m1 : Method := { name := "append", desc := "(Ljava/lang/String;)V", sig := { parameters := [(.object "java/lang/String")], returnType := none }, accessFlags := 0, code := some k9c1 }
def k9c2 : Code := { maxStack := 3, maxLocals := 3, code := prog_7_method_15_code, exceptionTable := #[], attributes := #[] }
def k9m2 : Method := { name := "writtenIn", desc := "([Ljava/lang/String;)Z", sig := { parameters := [(.array (.object "java/lang/String"))], returnType := some .boolean }, accessFlags := 0, code := some k9c2 }
/-- com/example/maswali/maswali/Renderer -/
def k9 : Class := { plain "com/example/maswali/maswali/Renderer" (some 0) with
  accessFlags := 48
  interfaces := #[]
  cf := some (fileOf pool9 10 #[] #[{ accessFlags := 0, nameIndex := 5, descriptorIndex := 127, attributes := #[] }, { accessFlags := 0, nameIndex := 44, descriptorIndex := 45, attributes := #[] }, { accessFlags := 0, nameIndex := 142, descriptorIndex := 143, attributes := #[] }] 48 2 #[] #[{ accessFlags := 26, nameIndex := 124, descriptorIndex := 55, attributes := #[] }, { accessFlags := 26, nameIndex := 126, descriptorIndex := 55, attributes := #[] }, { accessFlags := 26, nameIndex := 54, descriptorIndex := 55, attributes := #[] }, { accessFlags := 18, nameIndex := 24, descriptorIndex := 25, attributes := #[] }, { accessFlags := 2, nameIndex := 13, descriptorIndex := 14, attributes := #[] }, { accessFlags := 2, nameIndex := 28, descriptorIndex := 29, attributes := #[] }, { accessFlags := 18, nameIndex := 20, descriptorIndex := 21, attributes := #[] }])
  fields := #[{ name := "SPACE", type := (.object "java/lang/String"), accessFlags := 26, slot := 0, constantValue := 0 }, { name := "SEPARATOR", type := (.object "java/lang/String"), accessFlags := 26, slot := 1, constantValue := 0 }, { name := "PLACEHOLDER", type := (.object "java/lang/String"), accessFlags := 26, slot := 2, constantValue := 0 }, { name := "dialect", type := (.object "com/example/maswali/maswali/Dialect"), accessFlags := 18, slot := 0, constantValue := 0 }, { name := "pieces", type := (.array (.object "java/lang/String")), accessFlags := 2, slot := 1, constantValue := 0 }, { name := "pieceCount", type := .int, accessFlags := 2, slot := 2, constantValue := 0 }, { name := "bindValues", type := (.object "com/example/maswali/maswali/BindValues"), accessFlags := 18, slot := 3, constantValue := 0 }]
  methods := #[k9m0, k9m1, k9m2]
  instanceTypes := #[(.object "com/example/maswali/maswali/Dialect"), (.array (.object "java/lang/String")), .int, (.object "com/example/maswali/maswali/BindValues")]
  staticTypes := #[(.object "java/lang/String"), (.object "java/lang/String"), (.object "java/lang/String")]
  resolved := Array.replicate 177 none
  statics := none }

def pool10 : Array CpInfo := pool [(2, .class_ 4), (1, u "java/lang/Enum"), (0, u "name"), (0, u "Ljava/lang/String;"), (2, u "ordinal"), (0, u "I"), (1, .class_ 14), (1, u "java/lang/Object"), (4, u "hash"), (86, .class_ 108), (1, u "java/lang/Enum$EnumDesc"), (2, .class_ 112), (0, u "java/lang/constant/Constable"), (0, .class_ 114), (0, u "java/lang/Comparable"), (0, .class_ 116), (0, u "java/io/Serializable")] 87

/-- java/lang/Enum -/
def k10 : Class := { plain "java/lang/Enum" (some 0) with
  accessFlags := 1057
  interfaces := #[5, 3, 2]
  cf := some (fileOf pool10 2 #[.nestMembers #[106]] #[] 1057 12 #[111, 113, 115] #[{ accessFlags := 18, nameIndex := 5, descriptorIndex := 6, attributes := #[] }, { accessFlags := 18, nameIndex := 9, descriptorIndex := 10, attributes := #[] }, { accessFlags := 2, nameIndex := 19, descriptorIndex := 10, attributes := #[] }])
  fields := #[{ name := "name", type := (.object "java/lang/String"), accessFlags := 18, slot := 0, constantValue := 0 }, { name := "ordinal", type := .int, accessFlags := 18, slot := 1, constantValue := 0 }, { name := "hash", type := .int, accessFlags := 2, slot := 2, constantValue := 0 }]
  methods := #[]
  instanceTypes := #[(.object "java/lang/String"), .int, .int]
  staticTypes := #[]
  resolved := Array.replicate 204 none
  statics := none }

def pool11 : Array CpInfo := pool [(1, .class_ 2), (0, u "com/example/maswali/maswali/Dialect"), (2, u "POSTGRES"), (0, u "Lcom/example/maswali/maswali/Dialect;"), (2, u "MARIADB"), (2, u "SQLITE"), (2, u "H2"), (2, u "$VALUES"), (0, u "[Lcom/example/maswali/maswali/Dialect;"), (6, .class_ 28), (1, u "java/lang/Enum"), (8, u "nameQuote"), (0, u "C"), (2, u "backslashEscapes"), (0, u "Z"), (2, u "maxBindValues"), (0, u "I"), (208, u "TIME_KEY_START"), (0, u "Ljava/lang/String;"), (3, u "TIME_KEY_END"), (2, u "NUL"), (1, u "CONCATENATION_GROUP")] 58

/-- com/example/maswali/maswali/Dialect -/
def k11 : Class := { plain "com/example/maswali/maswali/Dialect" (some 10) with
  accessFlags := 16433
  interfaces := #[]
  cf := some (fileOf pool11 1 #[] #[] 16433 26 #[] #[{ accessFlags := 16409, nameIndex := 5, descriptorIndex := 6, attributes := #[] }, { accessFlags := 16409, nameIndex := 9, descriptorIndex := 6, attributes := #[] }, { accessFlags := 16409, nameIndex := 12, descriptorIndex := 6, attributes := #[] }, { accessFlags := 16409, nameIndex := 15, descriptorIndex := 6, attributes := #[] }, { accessFlags := 24, nameIndex := 255, descriptorIndex := 256, attributes := #[] }, { accessFlags := 24, nameIndex := 260, descriptorIndex := 256, attributes := #[] }, { accessFlags := 26, nameIndex := 263, descriptorIndex := 38, attributes := #[] }, { accessFlags := 26, nameIndex := 265, descriptorIndex := 46, attributes := #[] }, { accessFlags := 18, nameIndex := 37, descriptorIndex := 38, attributes := #[] }, { accessFlags := 18, nameIndex := 41, descriptorIndex := 42, attributes := #[] }, { accessFlags := 18, nameIndex := 45, descriptorIndex := 46, attributes := #[] }, { accessFlags := 4122, nameIndex := 18, descriptorIndex := 19, attributes := #[] }])
  fields := #[{ name := "POSTGRES", type := (.object "com/example/maswali/maswali/Dialect"), accessFlags := 16409, slot := 0, constantValue := 0 }, { name := "MARIADB", type := (.object "com/example/maswali/maswali/Dialect"), accessFlags := 16409, slot := 1, constantValue := 0 }, { name := "SQLITE", type := (.object "com/example/maswali/maswali/Dialect"), accessFlags := 16409, slot := 2, constantValue := 0 }, { name := "H2", type := (.object "com/example/maswali/maswali/Dialect"), accessFlags := 16409, slot := 3, constantValue := 0 }, { name := "TIME_KEY_START", type := (.object "java/lang/String"), accessFlags := 24, slot := 4, constantValue := 0 }, { name := "TIME_KEY_END", type := (.object "java/lang/String"), accessFlags := 24, slot := 5, constantValue := 0 }, { name := "NUL", type := .char, accessFlags := 26, slot := 6, constantValue := 0 }, { name := "CONCATENATION_GROUP", type := .int, accessFlags := 26, slot := 7, constantValue := 0 }, { name := "nameQuote", type := .char, accessFlags := 18, slot := 3, constantValue := 0 }, { name := "backslashEscapes", type := .boolean, accessFlags := 18, slot := 4, constantValue := 0 }, { name := "maxBindValues", type := .int, accessFlags := 18, slot := 5, constantValue := 0 }, { name := "$VALUES", type := (.array (.object "com/example/maswali/maswali/Dialect")), accessFlags := 4122, slot := 8, constantValue := 0 }]
  methods := #[]
  instanceTypes := #[(.object "java/lang/String"), .int, .int, .char, .boolean, .int]
  staticTypes := #[(.object "com/example/maswali/maswali/Dialect"), (.object "com/example/maswali/maswali/Dialect"), (.object "com/example/maswali/maswali/Dialect"), (.object "com/example/maswali/maswali/Dialect"), (.object "java/lang/String"), (.object "java/lang/String"), .char, .int, (.array (.object "com/example/maswali/maswali/Dialect"))]
  resolved := Array.replicate 324 none
  statics := some 1 }

def pool12 : Array CpInfo := pool [(1, .methodref 2 3), (0, .class_ 4), (0, .nameAndType 5 6), (0, u "java/lang/Object"), (0, u "<init>"), (0, u "()V"), (0, .fieldref 8 9), (0, .class_ 10), (0, .nameAndType 11 12), (0, u "com/example/maswali/maswali/BindValues"), (0, u "NONE"), (0, u "[Ljava/lang/Object;"), (0, .fieldref 8 14), (0, .nameAndType 15 12), (0, u "values"), (2, u "count"), (0, u "I")] 54

def k12c0 : Code := { maxStack := 2, maxLocals := 1, code := prog_2_method_1_code, exceptionTable := #[], attributes := #[] }
def k12m0 : Method := { name := "<init>", desc := "()V", sig := { parameters := [], returnType := none }, accessFlags := 0, code := some k12c0 }
/-- com/example/maswali/maswali/BindValues -/
def k12 : Class := { plain "com/example/maswali/maswali/BindValues" (some 0) with
  accessFlags := 48
  interfaces := #[]
  cf := some (fileOf pool12 8 #[] #[{ accessFlags := 0, nameIndex := 5, descriptorIndex := 6, attributes := #[] }] 48 2 #[] #[{ accessFlags := 26, nameIndex := 11, descriptorIndex := 12, attributes := #[] }, { accessFlags := 2, nameIndex := 15, descriptorIndex := 12, attributes := #[] }, { accessFlags := 2, nameIndex := 18, descriptorIndex := 19, attributes := #[] }])
  fields := #[{ name := "NONE", type := (.array (.object "java/lang/Object")), accessFlags := 26, slot := 0, constantValue := 0 }, { name := "values", type := (.array (.object "java/lang/Object")), accessFlags := 2, slot := 0, constantValue := 0 }, { name := "count", type := .int, accessFlags := 2, slot := 1, constantValue := 0 }]
  methods := #[k12m0]
  instanceTypes := #[(.array (.object "java/lang/Object")), .int]
  staticTypes := #[(.array (.object "java/lang/Object"))]
  resolved := Array.replicate 74 none
  statics := some 2 }

def pool13 : Array CpInfo := pool [(4, .class_ 6), (1, u "java/lang/Object"), (0, u "<init>"), (0, u "()V"), (5, .class_ 16), (1, u "java/lang/StringLatin1"), (104, u "$assertionsDisabled"), (0, u "Z"), (98, .class_ 223), (1, u "java/lang/StringLatin1$LinesSpliterator"), (57, u "equals"), (0, u "([B[B)Z"), (107, .class_ 391), (0, u "java/lang/StringLatin1$CharsSpliterator")] 3

def k13m0 : Method := { name := "<init>", desc := "()V", sig := { parameters := [], returnType := none }, accessFlags := 0, code := none }
def k13c1 : Code := { maxStack := 3, maxLocals := 3, code := jdk_43_method_13_code, exceptionTable := #[], attributes := #[] }
def k13m1 : Method := { name := "equals", desc := "([B[B)Z", sig := { parameters := [(.array .byte), (.array .byte)], returnType := some .boolean }, accessFlags := 9, code := some k13c1 }
/-- java/lang/StringLatin1 -/
def k13 : Class := { plain "java/lang/StringLatin1" (some 0) with
  accessFlags := 48
  interfaces := #[]
  cf := some (fileOf pool13 14 #[.nestMembers #[390, 221]] #[{ accessFlags := 0, nameIndex := 7, descriptorIndex := 8, attributes := #[] }, { accessFlags := 9, nameIndex := 281, descriptorIndex := 282, attributes := #[] }] 48 4 #[] #[{ accessFlags := 4120, nameIndex := 121, descriptorIndex := 122, attributes := #[] }])
  fields := #[{ name := "$assertionsDisabled", type := .boolean, accessFlags := 4120, slot := 0, constantValue := 0 }]
  methods := #[k13m0, k13m1]
  instanceTypes := #[]
  staticTypes := #[.boolean]
  resolved := Array.replicate 395 none
  statics := none }

def pool14 : Array CpInfo := pool [(2, .class_ 4), (1, u "java/lang/Object"), (0, u "<init>"), (0, u "()V"), (17, .class_ 26), (1, u "jdk/internal/util/Preconditions"), (28, .class_ 56), (0, u "jdk/internal/util/Preconditions$4"), (57, .class_ 115), (0, u "jdk/internal/util/Preconditions$1"), (7, u "SIOOBE_FORMATTER"), (0, u "Ljava/util/function/BiFunction;"), (0, .class_ 126), (0, u "jdk/internal/util/Preconditions$2"), (3, u "AIOOBE_FORMATTER"), (0, .class_ 132), (0, u "jdk/internal/util/Preconditions$3"), (3, u "IOOBE_FORMATTER")] 57

def k14m0 : Method := { name := "<init>", desc := "()V", sig := { parameters := [], returnType := none }, accessFlags := 1, code := none }
/-- jdk/internal/util/Preconditions -/
def k14 : Class := { plain "jdk/internal/util/Preconditions" (some 0) with
  accessFlags := 33
  interfaces := #[]
  cf := some (fileOf pool14 24 #[.nestMembers #[55, 131, 125, 114]] #[{ accessFlags := 1, nameIndex := 5, descriptorIndex := 6, attributes := #[] }] 33 2 #[] #[{ accessFlags := 25, nameIndex := 123, descriptorIndex := 124, attributes := #[] }, { accessFlags := 25, nameIndex := 130, descriptorIndex := 124, attributes := #[] }, { accessFlags := 25, nameIndex := 136, descriptorIndex := 124, attributes := #[] }])
  fields := #[{ name := "SIOOBE_FORMATTER", type := (.object "java/util/function/BiFunction"), accessFlags := 25, slot := 0, constantValue := 0 }, { name := "AIOOBE_FORMATTER", type := (.object "java/util/function/BiFunction"), accessFlags := 25, slot := 1, constantValue := 0 }, { name := "IOOBE_FORMATTER", type := (.object "java/util/function/BiFunction"), accessFlags := 25, slot := 2, constantValue := 0 }]
  methods := #[k14m0]
  instanceTypes := #[]
  staticTypes := #[(.object "java/util/function/BiFunction"), (.object "java/util/function/BiFunction"), (.object "java/util/function/BiFunction")]
  resolved := Array.replicate 194 none
  statics := some 3 }

def pool15 : Array CpInfo := pool [(9, u "<init>"), (6, .class_ 18), (1, u "java/lang/Object"), (0, u "()V"), (1, .class_ 23), (1, u "jdk/internal/util/ArraysSupport"), (0, u "LOG2_ARRAY_LONG_INDEX_SCALE"), (0, u "I"), (2, u "U"), (0, u "Ljdk/internal/misc/Unsafe;"), (8, u "BIG_ENDIAN"), (0, u "Z"), (8, u "LOG2_BYTE_BIT_SIZE"), (4, u "LOG2_ARRAY_INT_INDEX_SCALE"), (54, u "JLA"), (0, u "Ljdk/internal/access/JavaLangAccess;"), (11, u "LOG2_ARRAY_BOOLEAN_INDEX_SCALE"), (9, u "LOG2_ARRAY_BYTE_INDEX_SCALE"), (5, u "LOG2_ARRAY_CHAR_INDEX_SCALE"), (5, u "LOG2_ARRAY_SHORT_INDEX_SCALE"), (18, u "LOG2_ARRAY_FLOAT_INDEX_SCALE"), (24, u "LOG2_ARRAY_DOUBLE_INDEX_SCALE"), (89, u "T_BOOLEAN"), (2, u "T_CHAR"), (1, u "T_FLOAT"), (1, u "T_DOUBLE"), (1, u "T_BYTE"), (1, u "T_SHORT"), (1, u "T_INT"), (1, u "T_LONG"), (1, u "SOFT_MAX_ARRAY_LENGTH")] 83

def k15m0 : Method := { name := "<init>", desc := "()V", sig := { parameters := [], returnType := none }, accessFlags := 2, code := none }
/-- jdk/internal/util/ArraysSupport -/
def k15 : Class := { plain "jdk/internal/util/ArraysSupport" (some 0) with
  accessFlags := 33
  interfaces := #[]
  cf := some (fileOf pool15 21 #[] #[{ accessFlags := 2, nameIndex := 9, descriptorIndex := 19, attributes := #[] }] 33 16 #[] #[{ accessFlags := 24, nameIndex := 28, descriptorIndex := 29, attributes := #[] }, { accessFlags := 26, nameIndex := 38, descriptorIndex := 39, attributes := #[] }, { accessFlags := 25, nameIndex := 121, descriptorIndex := 25, attributes := #[] }, { accessFlags := 25, nameIndex := 131, descriptorIndex := 25, attributes := #[] }, { accessFlags := 25, nameIndex := 137, descriptorIndex := 25, attributes := #[] }, { accessFlags := 25, nameIndex := 143, descriptorIndex := 25, attributes := #[] }, { accessFlags := 25, nameIndex := 53, descriptorIndex := 25, attributes := #[] }, { accessFlags := 25, nameIndex := 24, descriptorIndex := 25, attributes := #[] }, { accessFlags := 25, nameIndex := 162, descriptorIndex := 25, attributes := #[] }, { accessFlags := 25, nameIndex := 187, descriptorIndex := 25, attributes := #[] }, { accessFlags := 26, nameIndex := 48, descriptorIndex := 25, attributes := #[] }, { accessFlags := 25, nameIndex := 277, descriptorIndex := 25, attributes := #[] }, { accessFlags := 25, nameIndex := 280, descriptorIndex := 25, attributes := #[] }, { accessFlags := 25, nameIndex := 282, descriptorIndex := 25, attributes := #[] }, { accessFlags := 25, nameIndex := 284, descriptorIndex := 25, attributes := #[] }, { accessFlags := 25, nameIndex := 286, descriptorIndex := 25, attributes := #[] }, { accessFlags := 25, nameIndex := 288, descriptorIndex := 25, attributes := #[] }, { accessFlags := 25, nameIndex := 290, descriptorIndex := 25, attributes := #[] }, { accessFlags := 25, nameIndex := 292, descriptorIndex := 25, attributes := #[] }, { accessFlags := 26, nameIndex := 108, descriptorIndex := 109, attributes := #[] }, { accessFlags := 25, nameIndex := 294, descriptorIndex := 25, attributes := #[] }])
  fields := #[{ name := "U", type := (.object "jdk/internal/misc/Unsafe"), accessFlags := 24, slot := 0, constantValue := 0 }, { name := "BIG_ENDIAN", type := .boolean, accessFlags := 26, slot := 1, constantValue := 0 }, { name := "LOG2_ARRAY_BOOLEAN_INDEX_SCALE", type := .int, accessFlags := 25, slot := 2, constantValue := 0 }, { name := "LOG2_ARRAY_BYTE_INDEX_SCALE", type := .int, accessFlags := 25, slot := 3, constantValue := 0 }, { name := "LOG2_ARRAY_CHAR_INDEX_SCALE", type := .int, accessFlags := 25, slot := 4, constantValue := 0 }, { name := "LOG2_ARRAY_SHORT_INDEX_SCALE", type := .int, accessFlags := 25, slot := 5, constantValue := 0 }, { name := "LOG2_ARRAY_INT_INDEX_SCALE", type := .int, accessFlags := 25, slot := 6, constantValue := 0 }, { name := "LOG2_ARRAY_LONG_INDEX_SCALE", type := .int, accessFlags := 25, slot := 7, constantValue := 0 }, { name := "LOG2_ARRAY_FLOAT_INDEX_SCALE", type := .int, accessFlags := 25, slot := 8, constantValue := 0 }, { name := "LOG2_ARRAY_DOUBLE_INDEX_SCALE", type := .int, accessFlags := 25, slot := 9, constantValue := 0 }, { name := "LOG2_BYTE_BIT_SIZE", type := .int, accessFlags := 26, slot := 10, constantValue := 0 }, { name := "T_BOOLEAN", type := .int, accessFlags := 25, slot := 11, constantValue := 0 }, { name := "T_CHAR", type := .int, accessFlags := 25, slot := 12, constantValue := 0 }, { name := "T_FLOAT", type := .int, accessFlags := 25, slot := 13, constantValue := 0 }, { name := "T_DOUBLE", type := .int, accessFlags := 25, slot := 14, constantValue := 0 }, { name := "T_BYTE", type := .int, accessFlags := 25, slot := 15, constantValue := 0 }, { name := "T_SHORT", type := .int, accessFlags := 25, slot := 16, constantValue := 0 }, { name := "T_INT", type := .int, accessFlags := 25, slot := 17, constantValue := 0 }, { name := "T_LONG", type := .int, accessFlags := 25, slot := 18, constantValue := 0 }, { name := "JLA", type := (.object "jdk/internal/access/JavaLangAccess"), accessFlags := 26, slot := 19, constantValue := 0 }, { name := "SOFT_MAX_ARRAY_LENGTH", type := .int, accessFlags := 25, slot := 20, constantValue := 0 }]
  methods := #[k15m0]
  instanceTypes := #[]
  staticTypes := #[(.object "jdk/internal/misc/Unsafe"), .boolean, .int, .int, .int, .int, .int, .int, .int, .int, .int, .int, .int, .int, .int, .int, .int, .int, .int, (.object "jdk/internal/access/JavaLangAccess"), .int]
  resolved := Array.replicate 378 none
  statics := none }

def pool16 : Array CpInfo := pool [(1, u "java/lang/Cloneable"), (0, .class_ 1), (0, u "java/lang/Object"), (0, .class_ 3)] 3

/-- java/lang/Cloneable -/
def k16 : Class := { plain "java/lang/Cloneable" (some 0) with
  accessFlags := 1537
  interfaces := #[]
  cf := some (fileOf pool16 2 #[] #[] 1537 4 #[] #[])
  fields := #[]
  methods := #[]
  instanceTypes := #[]
  staticTypes := #[]
  resolved := Array.replicate 8 none
  statics := none }

/-- the primitive byte -/
def k17 : Class := { plain "byte" none with kind := .primitive 'B', accessFlags := 0x411 }
/-- [B -/
def k18 : Class := { plain "[B" (some 0) with kind := .array 17 .byte, interfaces := #[16, 2], accessFlags := 1041 }

/-- the primitive char -/
def k19 : Class := { plain "char" none with kind := .primitive 'C', accessFlags := 0x411 }
/-- [C -/
def k20 : Class := { plain "[C" (some 0) with kind := .array 19 .char, interfaces := #[16, 2], accessFlags := 1041 }

/-- the primitive int -/
def k21 : Class := { plain "int" none with kind := .primitive 'I', accessFlags := 0x411 }
/-- [I -/
def k22 : Class := { plain "[I" (some 0) with kind := .array 21 .int, interfaces := #[16, 2], accessFlags := 1041 }

/-- [Ljava/lang/Object; -/
def k23 : Class := { plain "[Ljava/lang/Object;" (some 0) with kind := .array 0 (.object "java/lang/Object"), interfaces := #[16, 2], accessFlags := 1041 }

/-- [Ljava/lang/String; -/
def k24 : Class := { plain "[Ljava/lang/String;" (some 0) with kind := .array 7 (.object "java/lang/String"), interfaces := #[16, 2], accessFlags := 1041 }

def heap : Heap := #[{ cls := 7, slots := #[.long 0, .int 1, .null, .int 0, .null, .int 0, .int 0], vm := .statics 7 },
  { cls := 11, slots := #[.ref 5, .null, .null, .null, .null, .null, .int 0, .int 0, .null], vm := .statics 11 },
  { cls := 12, slots := #[.ref 4], vm := .statics 12 },
  { cls := 14, slots := #[.null, .null, .null], vm := .statics 14 },
  { cls := 23, slots := #[], vm := .none },
  { cls := 11, slots := #[.null, .int 0, .int 0, .int 34, .int 0, .int 65535], vm := .none }]
def classes : Array Class := #[k0, k1, k2, k3, k4, k5, k6, k7, k8, k9, k10, k11, k12, k13, k14, k15, k16, k17, k18, k19, k20, k21, k22, k23, k24]
def interned : List (Array UInt16 × Addr) := []
def slotsUsed : Nat := 26
def theMethod : MethodId := ⟨1, 3⟩
def args0 : Array Value := #[.int 5, .int 5, .int 5, .int 5, .int 5, .int 5]
def aboutOver (below : List Frame) : State where
  vm := { classes := classes, interned := interned.toArray }
  heap := heap
  slotsUsed := slotsUsed
  threads := #[{ frames := .invoking theMethod args0 :: below }]
def below0 : List Frame := [.native { method := ⟨0, 0⟩, args := #[] }]
def about1 : State := aboutOver below0
def p0 : Program := .bare "" "" ""
def e0 : Env := launch0.env 0 0 0
theorem w_frames : about1.frames = Frame.invoking theMethod args0 :: below0 := rfl
set_option maxRecDepth 65536 in
theorem w_args : argsFit about1.vm theMethod args0 = true := by decide +kernel
set_option maxRecDepth 65536 in
theorem w_heap : heapFits about1 = true := by decide +kernel
set_option maxRecDepth 65536 in
theorem w_runnable : about1.curStatus? = some .runnable := by decide +kernel
set_option maxRecDepth 65536 in
theorem w_alone : about1.alone = true := by decide +kernel
set_option maxRecDepth 65536 in
theorem w_named : about1.methodNamed? x = some theMethod := by decide +kernel
set_option maxRecDepth 65536 in
theorem w_hears : about1.hears theMethod below0 = true := by decide +kernel
set_option maxRecDepth 65536 in
theorem w_ripe : about1.ripe theMethod args0 below0 = true := by decide +kernel
theorem w_running : about1.status = .running := rfl
set_option maxRecDepth 65536 in
theorem w_room : about1.hasRoom e0.platform room_1 = true :=
  launch0.hasRoom_least _ room_1 (by decide +kernel) (by decide +kernel) (by decide +kernel) (by decide +kernel) (by decide +kernel) (by decide +kernel)
theorem allAtoms_all (ts : List Jvm.Cond) (a : Array Jvm.Value) (st : Jvm.State) : (allAtoms ts).before a st = ts.all (fun c => c.before a st) := by
  induction ts with
  | nil => rfl
  | cons c t ih =>
    show (Jvm.Cond.and c (allAtoms t)).before a st = _
    rw [Jvm.Cond.before_and, ih, List.all_cons]
def words1 : List Jvm.Cond := Jvm.Cond.code x code maxLocals ret :: tables_1
/-- a 'code' word, met by the world's own term for the bytes: nothing is compared byte by byte -/
theorem code_word {y : MethodName} {bytes : ByteArray} {mx : Nat} {rt : Option FieldType} {a : Array Value} {s : State} {m : MethodId} {meth : Method} {c : Code} (h1 : s.methodNamed? y = some m) (h2 : s.vm.method? m = some meth) (h3 : meth.code = some c) (h4 : c.code = bytes)
    (h5 : (c.maxLocals == mx && c.exceptionTable.isEmpty && decide (c.maxStack ≤ mostOperands) && decide (meth.sig.returnType = rt) && !meth.locks && decide (parseMethodDescriptor y.desc = some meth.sig)) = true) : (Jvm.Cond.code y bytes mx rt).before a s = true := by
  simp only [Bool.and_eq_true, beq_iff_eq, Bool.not_eq_true', decide_eq_true_eq] at h5
  obtain ⟨⟨⟨⟨⟨g1, g2⟩, g3⟩, g4⟩, g5⟩, g6⟩ := h5
  simp [Cond.before, Cond.holds, Cond.value, h1, h2, h3, h4, g1, g2, g3, g4, g5, g6]
def isCode : Jvm.Cond → Bool
  | .code _ _ _ _ => true
  | _ => false
theorem all_split {L : List Jvm.Cond} {P : Jvm.Cond → Bool} (h1 : L.all (fun c => isCode c || P c) = true) (h2 : ∀ c ∈ L.filter isCode, P c = true) : L.all P = true := by
  refine List.all_eq_true.mpr fun c hc => ?_
  have h := List.all_eq_true.mp h1 c hc
  rcases Bool.eq_false_or_eq_true (isCode c) with hi | hi
  · exact h2 c (List.mem_filter.mpr ⟨hc, hi⟩)
  · simpa [hi] using h
set_option maxRecDepth 65536 in
theorem w_c0 : (Jvm.Cond.code x code maxLocals ret).before args0 about1 = true := code_word (m := ⟨1, 3⟩) (meth := k1m3) (c := k1c3) (by decide +kernel) rfl rfl rfl (by decide +kernel)
set_option maxRecDepth 65536 in
theorem w_c1 : (Jvm.Cond.code ({ cls := "com/example/maswali/maswali/RendererWrittenInPinLaw", name := "str", desc := "(I)Ljava/lang/String;" } : Jvm.MethodName) method_2_code (2 : Nat) (Option.some (Jvm.ClassFile.FieldType.object "java/lang/String"))).before args0 about1 = true := code_word (m := ⟨1, 1⟩) (meth := k1m1) (c := k1c1) (by decide +kernel) rfl rfl rfl (by decide +kernel)
set_option maxRecDepth 65536 in
theorem w_c2 : (Jvm.Cond.code ({ cls := "java/lang/String", name := "<init>", desc := "([C)V" } : Jvm.MethodName) jdk_42_method_3_code (2 : Nat) (Option.none : Option Jvm.ClassFile.FieldType)).before args0 about1 = true := code_word (m := ⟨7, 1⟩) (meth := k7m1) (c := k7c1) (by decide +kernel) rfl rfl rfl (by decide +kernel)
set_option maxRecDepth 65536 in
theorem w_c3 : (Jvm.Cond.code ({ cls := "java/lang/String", name := "<init>", desc := "([CIILjava/lang/Void;)V" } : Jvm.MethodName) jdk_42_method_149_code (6 : Nat) (Option.none : Option Jvm.ClassFile.FieldType)).before args0 about1 = true := code_word (m := ⟨7, 3⟩) (meth := k7m3) (c := k7c3) (by decide +kernel) rfl rfl rfl (by decide +kernel)
set_option maxRecDepth 65536 in
theorem w_c4 : (Jvm.Cond.code ({ cls := "java/lang/Object", name := "<init>", desc := "()V" } : Jvm.MethodName) object_method_1_code (1 : Nat) (Option.none : Option Jvm.ClassFile.FieldType)).before args0 about1 = true := code_word (m := ⟨0, 0⟩) (meth := k0m0) (c := k0c0) (by decide +kernel) rfl rfl rfl (by decide +kernel)
set_option maxRecDepth 65536 in
theorem w_c5 : (Jvm.Cond.code ({ cls := "java/lang/StringUTF16", name := "compress", desc := "([CII)[B" } : Jvm.MethodName) jdk_52_method_16_code (6 : Nat) (Option.some (Jvm.ClassFile.FieldType.array Jvm.ClassFile.FieldType.byte))).before args0 about1 = true := code_word (m := ⟨8, 2⟩) (meth := k8m2) (c := k8c2) (by decide +kernel) rfl rfl rfl (by decide +kernel)
set_option maxRecDepth 65536 in
theorem w_c6 : (Jvm.Cond.code ({ cls := "java/lang/StringUTF16", name := "compress", desc := "([CI[BII)I" } : Jvm.MethodName) jdk_52_method_21_code (7 : Nat) (Option.some Jvm.ClassFile.FieldType.int)).before args0 about1 = true := code_word (m := ⟨8, 3⟩) (meth := k8m3) (c := k8c3) (by decide +kernel) rfl rfl rfl (by decide +kernel)
set_option maxRecDepth 65536 in
theorem w_c7 : (Jvm.Cond.code ({ cls := "java/lang/StringUTF16", name := "coderFromArrayLen", desc := "([BI)B" } : Jvm.MethodName) jdk_52_method_15_code (2 : Nat) (Option.some Jvm.ClassFile.FieldType.byte)).before args0 about1 = true := code_word (m := ⟨8, 1⟩) (meth := k8m1) (c := k8c1) (by decide +kernel) rfl rfl rfl (by decide +kernel)
set_option maxRecDepth 65536 in
theorem w_c8 : (Jvm.Cond.code ({ cls := "com/example/maswali/maswali/Renderer", name := "<init>", desc := "(Lcom/example/maswali/maswali/Dialect;)V" } : Jvm.MethodName) prog_7_method_1_code (2 : Nat) (Option.none : Option Jvm.ClassFile.FieldType)).before args0 about1 = true := code_word (m := ⟨9, 0⟩) (meth := k9m0) (c := k9c0) (by decide +kernel) rfl rfl rfl (by decide +kernel)
set_option maxRecDepth 65536 in
theorem w_c9 : (Jvm.Cond.code ({ cls := "com/example/maswali/maswali/BindValues", name := "<init>", desc := "()V" } : Jvm.MethodName) prog_2_method_1_code (1 : Nat) (Option.none : Option Jvm.ClassFile.FieldType)).before args0 about1 = true := code_word (m := ⟨12, 0⟩) (meth := k12m0) (c := k12c0) (by decide +kernel) rfl rfl rfl (by decide +kernel)
set_option maxRecDepth 65536 in
theorem w_c10 : (Jvm.Cond.code ({ cls := "com/example/maswali/maswali/Renderer", name := "writtenIn", desc := "([Ljava/lang/String;)Z" } : Jvm.MethodName) prog_7_method_15_code (3 : Nat) (Option.some Jvm.ClassFile.FieldType.boolean)).before args0 about1 = true := code_word (m := ⟨9, 2⟩) (meth := k9m2) (c := k9c2) (by decide +kernel) rfl rfl rfl (by decide +kernel)
set_option maxRecDepth 65536 in
theorem w_c11 : (Jvm.Cond.code ({ cls := "com/example/maswali/maswali/RendererWrittenInPinLaw", name := "other", desc := "(Ljava/lang/String;IIILjava/lang/String;)Ljava/lang/String;" } : Jvm.MethodName) method_3_code (5 : Nat) (Option.some (Jvm.ClassFile.FieldType.object "java/lang/String"))).before args0 about1 = true := code_word (m := ⟨1, 2⟩) (meth := k1m2) (c := k1c2) (by decide +kernel) rfl rfl rfl (by decide +kernel)
set_option maxRecDepth 65536 in
theorem w_c12 : (Jvm.Cond.code ({ cls := "com/example/maswali/maswali/Renderer", name := "append", desc := "(Ljava/lang/String;)V" } : Jvm.MethodName) prog_7_method_3_code (2 : Nat) (Option.none : Option Jvm.ClassFile.FieldType)).before args0 about1 = true := code_word (m := ⟨9, 1⟩) (meth := k9m1) (c := k9c1) (by decide +kernel) rfl rfl rfl (by decide +kernel)
set_option maxRecDepth 65536 in
theorem w_c13 : (Jvm.Cond.code ({ cls := "java/lang/String", name := "equals", desc := "(Ljava/lang/Object;)Z" } : Jvm.MethodName) jdk_42_method_66_code (3 : Nat) (Option.some Jvm.ClassFile.FieldType.boolean)).before args0 about1 = true := code_word (m := ⟨7, 2⟩) (meth := k7m2) (c := k7c2) (by decide +kernel) rfl rfl rfl (by decide +kernel)
set_option maxRecDepth 65536 in
theorem w_c14 : (Jvm.Cond.code ({ cls := "java/lang/StringLatin1", name := "equals", desc := "([B[B)Z" } : Jvm.MethodName) jdk_43_method_13_code (3 : Nat) (Option.some Jvm.ClassFile.FieldType.boolean)).before args0 about1 = true := code_word (m := ⟨13, 1⟩) (meth := k13m1) (c := k13c1) (by decide +kernel) rfl rfl rfl (by decide +kernel)
def codes1 : List Jvm.Cond := [Jvm.Cond.code x code maxLocals ret, Jvm.Cond.code ({ cls := "com/example/maswali/maswali/RendererWrittenInPinLaw", name := "str", desc := "(I)Ljava/lang/String;" } : Jvm.MethodName) method_2_code (2 : Nat) (Option.some (Jvm.ClassFile.FieldType.object "java/lang/String")), Jvm.Cond.code ({ cls := "java/lang/String", name := "<init>", desc := "([C)V" } : Jvm.MethodName) jdk_42_method_3_code (2 : Nat) (Option.none : Option Jvm.ClassFile.FieldType), Jvm.Cond.code ({ cls := "java/lang/String", name := "<init>", desc := "([CIILjava/lang/Void;)V" } : Jvm.MethodName) jdk_42_method_149_code (6 : Nat) (Option.none : Option Jvm.ClassFile.FieldType), Jvm.Cond.code ({ cls := "java/lang/Object", name := "<init>", desc := "()V" } : Jvm.MethodName) object_method_1_code (1 : Nat) (Option.none : Option Jvm.ClassFile.FieldType), Jvm.Cond.code ({ cls := "java/lang/StringUTF16", name := "compress", desc := "([CII)[B" } : Jvm.MethodName) jdk_52_method_16_code (6 : Nat) (Option.some (Jvm.ClassFile.FieldType.array Jvm.ClassFile.FieldType.byte)), Jvm.Cond.code ({ cls := "java/lang/StringUTF16", name := "compress", desc := "([CI[BII)I" } : Jvm.MethodName) jdk_52_method_21_code (7 : Nat) (Option.some Jvm.ClassFile.FieldType.int), Jvm.Cond.code ({ cls := "java/lang/StringUTF16", name := "coderFromArrayLen", desc := "([BI)B" } : Jvm.MethodName) jdk_52_method_15_code (2 : Nat) (Option.some Jvm.ClassFile.FieldType.byte), Jvm.Cond.code ({ cls := "com/example/maswali/maswali/Renderer", name := "<init>", desc := "(Lcom/example/maswali/maswali/Dialect;)V" } : Jvm.MethodName) prog_7_method_1_code (2 : Nat) (Option.none : Option Jvm.ClassFile.FieldType), Jvm.Cond.code ({ cls := "com/example/maswali/maswali/BindValues", name := "<init>", desc := "()V" } : Jvm.MethodName) prog_2_method_1_code (1 : Nat) (Option.none : Option Jvm.ClassFile.FieldType), Jvm.Cond.code ({ cls := "com/example/maswali/maswali/Renderer", name := "writtenIn", desc := "([Ljava/lang/String;)Z" } : Jvm.MethodName) prog_7_method_15_code (3 : Nat) (Option.some Jvm.ClassFile.FieldType.boolean), Jvm.Cond.code ({ cls := "com/example/maswali/maswali/RendererWrittenInPinLaw", name := "other", desc := "(Ljava/lang/String;IIILjava/lang/String;)Ljava/lang/String;" } : Jvm.MethodName) method_3_code (5 : Nat) (Option.some (Jvm.ClassFile.FieldType.object "java/lang/String")), Jvm.Cond.code ({ cls := "com/example/maswali/maswali/Renderer", name := "append", desc := "(Ljava/lang/String;)V" } : Jvm.MethodName) prog_7_method_3_code (2 : Nat) (Option.none : Option Jvm.ClassFile.FieldType), Jvm.Cond.code ({ cls := "java/lang/String", name := "equals", desc := "(Ljava/lang/Object;)Z" } : Jvm.MethodName) jdk_42_method_66_code (3 : Nat) (Option.some Jvm.ClassFile.FieldType.boolean), Jvm.Cond.code ({ cls := "java/lang/StringLatin1", name := "equals", desc := "([B[B)Z" } : Jvm.MethodName) jdk_43_method_13_code (3 : Nat) (Option.some Jvm.ClassFile.FieldType.boolean)]
set_option maxRecDepth 65536 in
theorem codes_eq : words1.filter isCode = codes1 := rfl
theorem w_codes : ∀ c ∈ words1.filter isCode, c.before args0 about1 = true := by
  rw [codes_eq]
  intro c hc
  simp only [codes1, List.mem_cons, List.not_mem_nil, or_false] at hc
  rcases hc with rfl | rfl | rfl | rfl | rfl | rfl | rfl | rfl | rfl | rfl | rfl | rfl | rfl | rfl | rfl
  · exact w_c0
  · exact w_c1
  · exact w_c2
  · exact w_c3
  · exact w_c4
  · exact w_c5
  · exact w_c6
  · exact w_c7
  · exact w_c8
  · exact w_c9
  · exact w_c10
  · exact w_c11
  · exact w_c12
  · exact w_c13
  · exact w_c14
set_option maxRecDepth 65536 in
theorem w_t1 : (words1.take 24).all (fun c => isCode c || c.before args0 about1) = true := by decide +kernel
set_option maxRecDepth 65536 in
theorem w_t2 : ((words1.drop 24).take 24).all (fun c => isCode c || c.before args0 about1) = true := by decide +kernel
set_option maxRecDepth 65536 in
theorem w_t3 : (((words1.drop 24).drop 24).take 24).all (fun c => isCode c || c.before args0 about1) = true := by decide +kernel
set_option maxRecDepth 65536 in
theorem w_t4 : (((words1.drop 24).drop 24).drop 24).all (fun c => isCode c || c.before args0 about1) = true := by decide +kernel
theorem w_tables : (allAtoms (Jvm.Cond.code x code maxLocals ret :: tables_1)).before args0 about1 = true := by
  rw [allAtoms_all]
  show words1.all (fun c => c.before args0 about1) = true
  refine all_split ?_ w_codes
  rw [← List.take_append_drop 24 words1, List.all_append, w_t1, ← List.take_append_drop 24 (words1.drop 24), List.all_append, w_t2, ← List.take_append_drop 24 ((words1.drop 24).drop 24), List.all_append, w_t3, w_t4]
  rfl
set_option maxRecDepth 65536 in
theorem w_rest : rest_1_c.before args0 about1 = true := by decide +kernel
set_option maxRecDepth 65536 in
theorem w_case : (Jvm.Cond.and given_1 narrow_1).before args0 about1 = true := by decide +kernel
set_option maxRecDepth 65536 in
theorem w_consts : constsHeld consts_1 about1 := Jvm.Lit.constsHeldB_iff.mp (by decide +kernel)
theorem w_applies : (headSpec (Jvm.Cond.code x code maxLocals ret :: tables_1) room_1).applies x e0.platform about1 = true :=
  (Spec.applies_iff w_frames).mpr ⟨w_running, w_runnable, w_alone, w_named, w_hears, w_ripe, w_room, w_tables⟩
theorem atStart : AtStart classFile x code maxLocals ret World_1 tables_1 room_1 Calls_1 rest_1 Pre_1 launch0 p0 e0 about1 theMethod args0 below0 :=
  ⟨lists_1, trivial, launch0.admits_env _ _ _, launch0.least_env, fairChoices_fair.cas, fairChoices_fair.clock, w_frames, w_args, w_heap, w_applies, ⟨w_consts, trivial⟩, w_rest, w_case⟩
end start1
theorem witness_1 : WitnessClaimed_1 := ⟨start1.p0, start1.e0, start1.about1, start1.theMethod, start1.args0, start1.below0, start1.atStart⟩
end Jvm.Pilot.@@N@@
