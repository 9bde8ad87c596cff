import JvmDerived
import JvmDerived.Pilot.@@N@@Statement
import JvmDerived.Pilot.@@N@@Code
set_option linter.unusedVariables false
set_option linter.unusedSimpArgs false
namespace Jvm.Pilot.@@N@@
open Jvm Jvm.ClassFile Sem Op Lib Jvm.Free Jvm.Stand Jvm.LawKit Jvm.RoadKit Bundle Jvm.Pilot.@@N@@.Jvm.D
/-! ## own: a small logic of owned cells over the library's Stand -/
/-- cells by their addresses -/
abbrev HL := List (Addr × Cell)
def Own (h : Heap) (σ : HL) : Prop := ∀ q ∈ σ, h[q.1]? = some q.2
abbrev adr (σ : HL) : List Addr := σ.map Prod.fst
/-- what is known of the heap h under the tables vm, in an activation that began at s owning σ0 and reading ρ0: σ is owned, ρ is read, what stood at the law's start Z stands -/
def Hp (Z : State) (EL : List (String × Nat)) (σ0 ρ0 : HL) (s : State) (σ ρ : HL) (vm : Vm) (h : Heap) : Prop :=
  CHr Z EL s.vm s.heap vm h ∧ Own h σ ∧ Own h ρ ∧ (adr σ).Nodup ∧
  (∀ q ∈ σ, Z.heap.size ≤ q.1 ∧ (q.1 ∈ adr σ0 ∨ s.heap.size ≤ q.1) ∧ Safe Z EL vm h q.1) ∧
  (∀ q ∈ ρ, q.1 ∉ adr σ ∧ (q.1 ∈ adr ρ0 ∨ q.1 ∈ adr σ0 ∨ s.heap.size ≤ q.1 ∨ Bk Z EL s.vm s.heap q.1 ∨ q.1 < Z.heap.size)) ∧
  (∀ (x : Addr) (cl : Cell), s.heap[x]? = some cl → x ∉ adr σ0 → h[x]? = some cl) ∧ Ext Z.heap h
section HpLaws
variable {Z s : State} {EL : List (String × Nat)} {σ0 ρ0 σ ρ σ' ρ' : HL} {vm vm1 : Vm} {h h' : Heap}
theorem own_lt (O : Own h σ) {q : Addr × Cell} (hq : q ∈ σ) : q.1 < h.size := (Array.getElem?_eq_some_iff.mp (O q hq)).1
theorem adr_mem {x : Addr} (hx : x ∈ adr σ) : ∃ q ∈ σ, q.1 = x := List.mem_map.mp hx
theorem mem_adr {q : Addr × Cell} (hq : q ∈ σ) : q.1 ∈ adr σ := List.mem_map.mpr ⟨q, hq, rfl⟩
theorem Own.ext (E : Ext h h') (O : Own h σ) : Own h' σ := fun q hq => E.2 _ _ (O q hq)
theorem Own.sub (O : Own h σ) (hs : ∀ q ∈ σ', q ∈ σ) : Own h σ' := fun q hq => O q (hs q hq)
theorem own_app (O : Own h σ) (O' : Own h σ') : Own h (σ ++ σ') := fun q hq => (List.mem_append.mp hq).elim (O q) (O' q)
theorem ext_tr {h2 : Heap} (E : Ext h h') (E' : Ext h' h2) : Ext h h2 := ⟨Nat.le_trans E.1 E'.1, fun a c q => E'.2 _ _ (E.2 _ _ q)⟩
/-- tables and heap go on; nothing owned or read is touched -/
theorem Hp.later (H : Hp Z EL σ0 ρ0 s σ ρ vm h) (C : CHr Z EL vm h vm1 h') (E : Ext h h') : Hp Z EL σ0 ρ0 s σ ρ vm1 h' := by
  obtain ⟨c, o, r, nd, a, b, f, z⟩ := H
  exact ⟨c.trans C, o.ext E, r.ext E, nd, fun q hq => ⟨(a q hq).1, (a q hq).2.1, C.safe (own_lt o hq) (a q hq).2.2⟩, b, fun x cl hx hn => E.2 _ _ (f x cl hx hn), ext_tr z E⟩
theorem Hp.alloc (H : Hp Z EL σ0 ρ0 s σ ρ vm h) (E : Ext h h') {c : Cell} (hc : h'[h.size]? = some c) : Hp Z EL σ0 ρ0 s ((h.size, c) :: σ) ρ vm h' := by
  have C : CHr Z EL vm h vm h' := CHr.ext E H.1.1
  have H' := H.later C E
  obtain ⟨c1, o, r, nd, a, b, f, z⟩ := H
  obtain ⟨c1', o', r', nd', a', b', f', z'⟩ := H'
  refine ⟨c1', fun q hq => ?_, r', ?_, fun q hq => ?_, fun q hq => ⟨?_, (b q hq).2⟩, f', z'⟩
  · rcases List.mem_cons.mp hq with rfl | hq
    · exact hc
    · exact o' q hq
  · refine List.nodup_cons.mpr ⟨fun hm => ?_, nd⟩
    obtain ⟨q, hq, e⟩ := adr_mem hm
    exact absurd (e ▸ own_lt o hq) (Nat.lt_irrefl _)
  · rcases List.mem_cons.mp hq with rfl | hq
    · exact ⟨z.1, Or.inr c1.2.1, Safe.ext E c1.1 (Safe.new (Nat.le_refl _))⟩
    · exact a' q hq
  · intro hm
    rcases List.mem_cons.mp hm with e | hm
    · exact absurd (e ▸ own_lt r hq) (Nat.lt_irrefl _)
    · exact (b q hq).1 hm
/-- one owned cell is written -/
theorem Hp.write (H : Hp Z EL σ0 ρ0 s σ ρ vm h) {i : Nat} {a : Addr} {c c' : Cell} (hi : σ[i]? = some (a, c)) (hw : h' = h.setIfInBounds a c') : Hp Z EL σ0 ρ0 s (σ.set i (a, c')) ρ vm h' := by
  have hmem : (a, c) ∈ σ := List.mem_of_getElem? hi
  have hadr : adr (σ.set i (a, c')) = adr σ := by
    rw [adr, List.map_set]
    apply List.ext_getElem?
    intro j
    rw [List.getElem?_set]
    split
    · rename_i e
      subst e
      simp only [List.length_map, List.getElem?_map, hi, Option.map_some]
      split
      · rfl
      · rename_i hl
        exact absurd (List.getElem?_eq_some_iff.mp hi).1 (by simpa using hl)
    · rfl
  obtain ⟨c1, o, r, nd, al, b, f, z⟩ := H
  have ha : h[a]? = some c := o _ hmem
  have hlt : a < h.size := (Array.getElem?_eq_some_iff.mp ha).1
  have hS : Safe Z EL vm h a := (al _ hmem).2.2
  have ke : ∀ y, y ≠ a → h'[y]? = h[y]? := fun y hy => by rw [hw, Array.getElem?_setIfInBounds_ne (Ne.symm hy)]
  have hsz : h'.size = h.size := by rw [hw]; simp
  have hstep := c1.1.step (h' := h') fun y B cell q => by
    rw [ke y fun e => hS (e ▸ B)]; exact q
  have C : CHr Z EL vm h vm h' := ⟨hstep.1, by rw [hsz]; exact Nat.le_refl _, fun y q => Or.inl (hstep.2 y q)⟩
  have hin : ∀ q ∈ σ.set i (a, c'), q = (a, c') ∨ (q ∈ σ ∧ q.1 ≠ a) := fun q hq => by
    obtain ⟨j, hj⟩ := List.mem_iff_getElem?.mp hq
    rw [List.getElem?_set] at hj
    split at hj
    · split at hj
      · exact Or.inl (Option.some.inj hj).symm
      · cases hj
    · rename_i hne
      refine Or.inr ⟨List.mem_of_getElem? hj, fun e => hne ?_⟩
      have h1 : (adr σ)[j]? = some a := by rw [adr, List.getElem?_map, hj]; exact congrArg some e
      have h2 : (adr σ)[i]? = some a := by rw [adr, List.getElem?_map, hi]; rfl
      obtain ⟨l1, e1⟩ := List.getElem?_eq_some_iff.mp h1
      obtain ⟨l2, e2⟩ := List.getElem?_eq_some_iff.mp h2
      exact (List.getElem_inj nd).mp (e2.trans e1.symm)
  refine ⟨c1.trans C, fun q hq => ?_, fun q hq => ?_, by rw [hadr]; exact nd, fun q hq => ?_, fun q hq => ⟨by rw [hadr]; exact (b q hq).1, (b q hq).2⟩, fun x cl hx hn => ?_, ⟨by rw [hsz]; exact z.1, fun x cl hx => ?_⟩⟩
  · rcases hin q hq with rfl | ⟨hq, hne⟩
    · show h'[a]? = some c'
      rw [hw]; simp [hlt]
    · rw [ke _ hne]; exact o q hq
  · rw [ke q.1 fun e => (b q hq).1 (by rw [e]; exact mem_adr hmem)]; exact r q hq
  · rcases hin q hq with rfl | ⟨hq, -⟩
    · exact ⟨(al _ hmem).1, (al _ hmem).2.1, C.safe hlt hS⟩
    · exact ⟨(al q hq).1, (al q hq).2.1, C.safe (own_lt o hq) (al q hq).2.2⟩
  · have hx' := f x cl hx hn
    rw [ke x]
    · exact hx'
    · rintro rfl
      rcases (al _ hmem).2.1 with q | q
      · exact hn q
      · exact absurd (Array.getElem?_eq_some_iff.mp hx).1 (Nat.not_lt.mpr q)
  · rw [ke x]
    · exact z.2 x cl hx
    · rintro rfl
      exact absurd (Array.getElem?_eq_some_iff.mp hx).1 (Nat.not_lt.mpr (al _ hmem).1)
/-- fewer, or otherwise ordered -/
theorem Hp.sub (H : Hp Z EL σ0 ρ0 s σ ρ vm h) (hs : ∀ q ∈ σ', q ∈ σ) (nd : (adr σ').Nodup) (hr : ∀ q ∈ ρ', q ∈ ρ) : Hp Z EL σ0 ρ0 s σ' ρ' vm h := by
  obtain ⟨c, o, r, -, a, b, f⟩ := H
  refine ⟨c, o.sub hs, r.sub hr, nd, fun q hq => a q (hs q hq), fun q hq => ⟨fun hm => ?_, (b q (hr q hq)).2⟩, f⟩
  obtain ⟨q', hq', e⟩ := adr_mem hm
  exact (b q (hr q hq)).1 (e ▸ mem_adr (hs q' hq'))
/-- owned cells become read-only -/
theorem Hp.freeze (H : Hp Z EL σ0 ρ0 s (σ' ++ σ) ρ vm h) : Hp Z EL σ0 ρ0 s σ (σ' ++ ρ) vm h := by
  obtain ⟨c, o, r, nd, a, b, f⟩ := H
  have nd' := nd
  rw [adr, List.map_append, List.nodup_append] at nd'
  refine ⟨c, o.sub fun q hq => List.mem_append_right _ hq, own_app (o.sub fun q hq => List.mem_append_left _ hq) r, nd'.2.1, fun q hq => a q (List.mem_append_right _ hq), fun q hq => ?_, f⟩
  rcases List.mem_append.mp hq with hq | hq
  · refine ⟨fun hm => nd'.2.2 _ (mem_adr hq) _ hm rfl, ?_⟩
    rcases (a q (List.mem_append_left _ hq)).2.1 with z | z
    · exact Or.inr (Or.inl z)
    · exact Or.inr (Or.inr (Or.inl z))
  · refine ⟨fun hm => (b q hq).1 ?_, (b q hq).2⟩
    rw [adr, List.map_append]; exact List.mem_append_right _ hm
/-- a booked literal's cells are read-only -/
theorem Hp.lit (H : Hp Z EL σ0 ρ0 s σ ρ vm h) {a : Addr} {c : Cell} (ha : h[a]? = some c) (hb : ∀ x, Safe Z EL vm h x → x ≠ a) : Hp Z EL σ0 ρ0 s σ ((a, c) :: ρ) vm h := by
  obtain ⟨c1, o, r, nd, al, b, f⟩ := H
  refine ⟨c1, o, fun q hq => ?_, nd, al, fun q hq => ?_, f⟩
  · rcases List.mem_cons.mp hq with rfl | hq
    · exact ha
    · exact r q hq
  · rcases List.mem_cons.mp hq with rfl | hq
    · refine ⟨fun hm => ?_, ?_⟩
      · obtain ⟨q, hq, e⟩ := adr_mem hm
        exact hb _ (al q hq).2.2 e
      · have hB : Bk Z EL vm h a := Classical.byContradiction fun hn => hb a hn rfl
        rcases c1.2.2 a hB with z | z
        · exact Or.inr (Or.inr (Or.inr (Or.inl z)))
        · exact Or.inr (Or.inr (Or.inl z))
    · exact b q hq
/-- what stood at the law's start may be read -/
theorem Hp.old (H : Hp Z EL σ0 ρ0 s σ ρ vm h) {a : Addr} {c : Cell} (ha : Z.heap[a]? = some c) : Hp Z EL σ0 ρ0 s σ ((a, c) :: ρ) vm h := by
  obtain ⟨c1, o, r, nd, al, b, f, z⟩ := H
  have hlt : a < Z.heap.size := (Array.getElem?_eq_some_iff.mp ha).1
  refine ⟨c1, o, fun q hq => ?_, nd, al, fun q hq => ?_, f, z⟩
  · rcases List.mem_cons.mp hq with rfl | hq
    · exact z.2 _ _ ha
    · exact r q hq
  · rcases List.mem_cons.mp hq with rfl | hq
    · refine ⟨fun hm => ?_, Or.inr (Or.inr (Or.inr (Or.inr hlt)))⟩
      obtain ⟨q, hq, e⟩ := adr_mem hm
      exact absurd hlt (Nat.not_lt.mpr (by rw [show a = q.1 from e.symm]; exact (al q hq).1))
    · exact b q hq
/-- **THE FRAME RULE**: a callee that was handed σi and ρi gives back σ' and ρ' -/
theorem Hp.call {U : State} {σi σf ρi : HL} (H : Hp Z EL σ0 ρ0 s (σi ++ σf) ρ U.vm U.heap) (hρ : ∀ q ∈ ρi, q ∈ ρ) (Hc : Hp Z EL σi ρi U σ' ρ' vm1 h') : Hp Z EL σ0 ρ0 s (σ' ++ σf) (ρ' ++ ρ) vm1 h' := by
  obtain ⟨c, o, r, nd, a, b, f, z0⟩ := H
  obtain ⟨c', o', r', nd', a', b', f', z'⟩ := Hc
  have nd2 := nd
  rw [adr, List.map_append, List.nodup_append] at nd2
  have of : Own U.heap σf := o.sub fun q hq => List.mem_append_right _ hq
  have disj : ∀ x, x ∈ adr σi → x ∉ adr σf := fun x h1 h2 => nd2.2.2 x h1 x h2 rfl
  have inapp : ∀ x, x ∈ adr σi → x ∈ adr (σi ++ σf) := fun x hx => by rw [adr, List.map_append]; exact List.mem_append_left _ hx
  have inapp' : ∀ x, x ∈ adr σf → x ∈ adr (σi ++ σf) := fun x hx => by rw [adr, List.map_append]; exact List.mem_append_right _ hx
  have flt : ∀ x, x ∈ adr σf → x < U.heap.size := fun x hx => by obtain ⟨q, hq, rfl⟩ := adr_mem hx; exact own_lt of hq
  have orig : ∀ x, x ∈ adr σi → x ∈ adr σ0 ∨ s.heap.size ≤ x := fun x hx => by obtain ⟨q, hq, rfl⟩ := adr_mem hx; exact (a q (List.mem_append_left _ hq)).2.1
  have hs := c.2.1
  refine ⟨c.trans c', own_app o' fun q hq => f' _ _ (of q hq) fun hm => disj _ hm (mem_adr hq), own_app r' fun q hq => f' _ _ (r q hq) fun hm => (b q hq).1 (inapp _ hm), ?_, fun q hq => ?_, fun q hq => ?_, fun x cl hx hn => ?_, z'⟩
  · rw [adr, List.map_append, List.nodup_append]
    refine ⟨nd', nd2.2.1, fun x hx y hy e => ?_⟩
    subst e
    obtain ⟨q, hq, rfl⟩ := adr_mem hx
    rcases (a' q hq).2.1 with z | z
    · exact disj _ z hy
    · exact absurd (flt _ hy) (Nat.not_lt.mpr z)
  · rcases List.mem_append.mp hq with hq | hq
    · refine ⟨(a' q hq).1, ?_, (a' q hq).2.2⟩
      rcases (a' q hq).2.1 with z | z
      · exact orig _ z
      · exact Or.inr (Nat.le_trans hs z)
    · have z := a q (List.mem_append_right _ hq)
      exact ⟨z.1, z.2.1, c'.safe (own_lt of hq) z.2.2⟩
  · rcases List.mem_append.mp hq with hq | hq
    · have z := b' q hq
      refine ⟨fun hm => ?_, ?_⟩
      · rw [adr, List.map_append] at hm
        rcases List.mem_append.mp hm with hm | hm
        · exact z.1 hm
        · rcases z.2 with y | y | y | y | y
          · obtain ⟨q', hq', e⟩ := adr_mem y
            refine (b q' (hρ q' hq')).1 (inapp' _ ?_)
            rw [e]; exact hm
          · exact disj _ y hm
          · exact absurd (flt _ hm) (Nat.not_lt.mpr y)
          · obtain ⟨q', hq', e⟩ := adr_mem hm
            refine (a q' (List.mem_append_right _ hq')).2.2 ?_
            rw [e]; exact y
          · obtain ⟨q', hq', e⟩ := adr_mem hm
            exact absurd y (Nat.not_lt.mpr (e ▸ (a q' (List.mem_append_right _ hq')).1))
      · rcases z.2 with y | y | y | y | y
        · obtain ⟨q', hq', e⟩ := adr_mem y
          have := (b q' (hρ q' hq')).2
          rw [e] at this; exact this
        · rcases orig _ y with w | w
          · exact Or.inr (Or.inl w)
          · exact Or.inr (Or.inr (Or.inl w))
        · exact Or.inr (Or.inr (Or.inl (Nat.le_trans hs y)))
        · rcases c.2.2 _ y with w | w
          · exact Or.inr (Or.inr (Or.inr (Or.inl w)))
          · exact Or.inr (Or.inr (Or.inl w))
        · exact Or.inr (Or.inr (Or.inr (Or.inr y)))
    · have z := b q hq
      refine ⟨fun hm => ?_, z.2⟩
      rw [adr, List.map_append] at hm
      rcases List.mem_append.mp hm with hm | hm
      · obtain ⟨q', hq', e⟩ := adr_mem hm
        rcases (a' q' hq').2.1 with y | y
        · refine z.1 (inapp _ ?_)
          rw [← e]; exact y
        · exact absurd (own_lt r hq) (Nat.not_lt.mpr (e ▸ y))
      · exact z.1 (inapp' _ hm)
  · refine f' x cl (f x cl hx hn) fun hm => ?_
    rcases orig _ hm with z | z
    · exact hn z
    · exact absurd (Array.getElem?_eq_some_iff.mp hx).1 (Nat.not_lt.mpr z)
end HpLaws
/-! ## own: the walk's point (Wk), what is still to be reached (Go), a contract (Met) -/
abbrev Ctx := Program × Env × State × MethodId × Array Value × List Frame × Method × Code × HL × HL
abbrev Ctx.p (X : Ctx) : Program := X.1
abbrev Ctx.e (X : Ctx) : Env := X.2.1
abbrev Ctx.s (X : Ctx) : State := X.2.2.1
abbrev Ctx.m (X : Ctx) : MethodId := X.2.2.2.1
abbrev Ctx.args (X : Ctx) : Array Value := X.2.2.2.2.1
abbrev Ctx.below (X : Ctx) : List Frame := X.2.2.2.2.2.1
abbrev Ctx.meth (X : Ctx) : Method := X.2.2.2.2.2.2.1
abbrev Ctx.c (X : Ctx) : Code := X.2.2.2.2.2.2.2.1
abbrev Ctx.so (X : Ctx) : HL := X.2.2.2.2.2.2.2.2.1
abbrev Ctx.ro (X : Ctx) : HL := X.2.2.2.2.2.2.2.2.2
def Wk (l : Launch) (Z : State) (EL : List (String × Nat)) (R : Room) (own : String) (bytes : ByteArray) (maxL : Nat) (ret : Option FieldType) (nm : String) (X : Ctx) (σ ρ : HL) (T : State) (k n : Nat) : Prop :=
  (X.p.tables.exec = Jvm.exec ∧ X.c.code = bytes ∧ X.c.maxLocals = maxL ∧ X.meth.sig.returnType = ret ∧ X.meth.locks = false ∧ X.meth.name = nm ∧ ∃ a : Array Value, EW Z a EL) ∧
  ∃ (vm0 : Vm) (k0 : Nat) (locs : List Loc), Stand X.p l X.e R (X.s.setVm vm0) X.m X.args X.below X.meth X.c T locs k n ∧ X.s.Since vm0 k0 ∧ k0 ≤ T.heap.size ∧ Z.Warmed39 vm0 ∧ vm0.findClass own = some X.m.cls ∧ Fr Z.heap.size locs ∧ Hp Z EL X.so X.ro X.s σ ρ vm0 T.heap
def Go (Z : State) (EL : List (String × Nat)) (K N : Nat) (Q : Option Value → HL → HL → Prop) (X : Ctx) (T : State) (pc : Nat) (Ls : Array Slot) (st : List Value) : Prop :=
  ∃ (s₂ : State) (o : Outcome), Steps X.p.tables X.e X.below (T.setTop (mkF X.m pc Ls st)) s₂ ∧ s₂.status = .running ∧ Ended s₂ X.below o ∧
    ∃ v σ ρ L, o = .returned v ∧ Q v σ ρ ∧ Fr Z.heap.size L ∧ Hp Z EL X.so X.ro X.s σ ρ s₂.vm s₂.heap ∧ ReturnedEndW X.s o s₂ L K N
def Met (l : Launch) (Z : State) (EL : List (String × Nat)) (y : MethodName) (bytes : ByteArray) (maxL : Nat) (ret : Option FieldType) (rm : Room) (as' : Array Value) (σi ρi : HL) (Q : Option Value → HL → HL → Prop) : Prop :=
  MetFree l y (head1 [Jvm.Cond.code y bytes maxL ret] rm) (fun a U => a = as' ∧ Z.Warmed39 U.vm ∧ Hp Z EL σi ρi U σi ρi U.vm U.heap) (fun _ _ _ _ _ => True)
    (fun _ U o U' => ∃ v σ ρ L, o = .returned v ∧ Q v σ ρ ∧ Fr Z.heap.size L ∧ Hp Z EL σi ρi U σ ρ U'.vm U'.heap ∧ ReturnedEndW U o U' L rm.cells rm.slots)
section WkLaws
variable {l : Launch} {Z : State} {a0 : Array Value} {EL : List (String × Nat)} {R : Room} {own : String} {bytes : ByteArray} {maxL : Nat} {ret : Option FieldType} {nm : String} {X : Ctx} {σ ρ σ' ρ' : HL} {T T' : State} {k n K N : Nat} {Q Q' : Option Value → HL → HL → Prop} {pc pc' : Nat} {Ls Ls' : Array Slot} {st st' : List Value}
theorem Wk.here (W : Wk l Z EL R own bytes maxL ret nm X σ ρ T k n) : At T X.m X.c X.below := by obtain ⟨-, _, _, _, Y, -⟩ := W; exact Y.here
theorem Wk.hx (W : Wk l Z EL R own bytes maxL ret nm X σ ρ T k n) : X.p.tables.exec = Jvm.exec := W.1.1
theorem Wk.hb (W : Wk l Z EL R own bytes maxL ret nm X σ ρ T k n) {r : Except ClassFile.DecodeError (ClassFile.Instr × Nat)} (hd : decode bytes pc = r) : decode X.c.code pc = r := by rw [W.1.2.1]; exact hd
theorem Go.by (f : ∀ t, Steps X.p.tables X.e X.below (T'.setTop (mkF X.m pc' Ls' st')) t → Steps X.p.tables X.e X.below (T.setTop (mkF X.m pc Ls st)) t) (r : Go Z EL K N Q X T' pc' Ls' st') : Go Z EL K N Q X T pc Ls st := by
  obtain ⟨s2, o, h1, h2⟩ := r
  exact ⟨s2, o, f _ h1, h2⟩
theorem Go.mono (h : ∀ v σ ρ, Q v σ ρ → Q' v σ ρ) (r : Go Z EL K N Q X T pc Ls st) : Go Z EL K N Q' X T pc Ls st := by
  obtain ⟨s2, o, h1, h2, h3, v, a, b, L, e, q, r⟩ := r
  exact ⟨s2, o, h1, h2, h3, v, a, b, L, e, h _ _ _ q, r⟩
theorem Met.mono {y : MethodName} {rm : Room} {as' : Array Value} (h : ∀ v σ ρ, Q v σ ρ → Q' v σ ρ) (M : Met l Z EL y bytes maxL ret rm as' σ ρ Q) : Met l Z EL y bytes maxL ret rm as' σ ρ Q' :=
  fun p e ha hc hk s m args below hf happ hP hK => by
    obtain ⟨n, o, h1, h2, h3, v, s1, r1, L, e1, q, r⟩ := M p e ha hc hk s m args below hf happ hP hK
    exact ⟨n, o, h1, h2, h3, v, s1, r1, L, e1, h _ _ _ q, r⟩
theorem Hp.enter {s U : State} {σ0 ρ0 σi σf ρi : HL} (H : Hp Z EL σ0 ρ0 s (σi ++ σf) ρ U.vm U.heap) (hρ : ∀ q ∈ ρi, q ∈ ρ) : Hp Z EL σi ρi U σi ρi U.vm U.heap := by
  obtain ⟨c, o, r, nd, a, b, f, z0⟩ := H
  rw [adr, List.map_append, List.nodup_append] at nd
  refine ⟨CHr.refl c.1, o.sub fun q hq => List.mem_append_left _ hq, r.sub hρ, nd.1, fun q hq => ?_, fun q hq => ⟨fun hm => (b q (hρ q hq)).1 ?_, Or.inl (mem_adr hq)⟩, fun _ _ q _ => q, z0⟩
  · have z := a q (List.mem_append_left _ hq)
    exact ⟨z.1, Or.inl (mem_adr hq), z.2.2⟩
  · rw [adr, List.map_append]; exact List.mem_append_left _ hm
/-- a walk of the body meets the contract -/
theorem Met.walk {y : MethodName} {rm : Room} {as' : Array Value} {σi ρi : HL} (hEL : EW Z a0 EL) (hp : plainName y.cls = true) (Ls0 : Array Slot) (ent : ∀ m, entryFrame m as' maxL = mkF m 0 Ls0 [])
    (w : ∀ (X : Ctx) (T : State), Wk l Z EL rm y.cls bytes maxL ret y.name X σi ρi T 0 0 → Go Z EL rm.cells rm.slots Q X T 0 Ls0 []) : Met l Z EL y bytes maxL ret rm as' σi ρi Q := by
  refine MetFree.of_bodySF (plainFor_of_name hp) hisR ?_
  intro p e s m args below meth c s₁ Bd hml hP hK
  obtain ⟨rfl, hZ, H⟩ := hP
  have X0 : Stand p l e rm s m args below meth c s₁ [] 0 0 := Stand.of_body Bd
  have e0 : s₁.heap = s.heap := by rw [Bd.state]; rfl
  obtain ⟨s2, o, h1, h2, h3, h4⟩ := w (p, e, s, m, args, below, meth, c, σi, ρi) s₁ ⟨⟨Bd.exec, Bd.bytes, hml, Bd.returns, Bd.notSynchronized, (name_of_methodNamed Bd.named Bd.method).1, a0, hEL⟩, s.vm, s.heap.size, [], X0, (State.WarmedH.refl s).since _, by rw [e0]; exact Nat.le_refl _, hZ, findClass_of_methodNamed Bd.named, Fr.nil _, by rw [e0]; exact H⟩
  exact ⟨s2, o, castTop (ent m) h1, h2, h3, h4⟩
/-- a contract pays a call -/
theorem Met.back {p : Program} {e : Env} {below : List Frame} {s : State} {args : Array Value} {vm0 : Vm} {y : MethodName} {rm : Room} {as' : Array Value} {σi ρi σf σ0 ρ0 : HL} {len W : Nat} {h : Heap} (M : Met l Z EL y bytes maxL ret rm as' σi ρi Q)
    (hZ : Z.Warmed39 vm0) (wc : (Jvm.Cond.code y bytes maxL ret).before a0 Z = true) (wz : (Jvm.Cond.initialized y.cls).before a0 Z = true) (hf : rm.frames + 1 ≤ R.frames) (hl : W + (maxL + 11) + rm.locals ≤ R.locals) {a1 : Array Value} (hEL : EW Z a1 EL)
    (H : Hp Z EL σ0 ρ0 s (σi ++ σf) ρ vm0 h) (hρ : ∀ q ∈ ρi, q ∈ ρ) :
    BackS l R p e below (s.setVm vm0) args y len W (fun A a => a = as' ∧ A.U.heap = h ∧ A.cells + rm.cells ≤ R.cells ∧ A.slots + rm.slots ≤ R.slots)
      (fun A _ v B => ∃ σ' ρ' L, Q v σ' ρ' ∧ Fr Z.heap.size L ∧ Hp Z EL σ0 ρ0 s (σ' ++ σf) (ρ' ++ ρ) B.U.vm B.U.heap ∧ B.locs = A.locs ++ L ∧ B.cells = A.cells + rm.cells ∧ B.slots = A.slots + rm.slots) := by
  have key : ∀ m meth c (A : Pt) (g : JFrame) mk (a : Array Value), Stand p l e R (s.setVm vm0) m args below meth c A.U A.locs A.cells A.slots → A.U.heap = h → Hp Z EL σ0 ρ0 s (σi ++ σf) ρ (A.U.calling g mk a).vm (A.U.calling g mk a).heap := fun m meth c A g mk a Y hp => by
    have C := CHv.at Y hZ hEL H.1.1
    have q := H.later C ⟨Nat.le_refl _, fun _ _ z => z⟩
    show Hp Z EL σ0 ρ0 s (σi ++ σf) ρ A.U.vm A.U.heap
    rw [hp]; exact q
  refine BackS.of_freeW (bytes := bytes) (maxL := maxL) (ret := ret) (E := fun _ first o t L k n => k = rm.cells ∧ n = rm.slots ∧ ∃ v σ ρ, o = .returned v ∧ Q v σ ρ ∧ Fr Z.heap.size L ∧ Hp Z EL σi ρi first σ ρ t.vm t.heap) M hf hl
    (fun m meth c A a Y hp => have hU : Z.Warmed39 A.U.vm := wtrans (s := s.setVm vm0) hZ Y.warmed
      ⟨by show (Jvm.Cond.and _ .tt).before a A.U = true; rw [Cond.before_and, mv hU wc]; rfl, mv hU wc, mv hU wz, hp.2.2.1, hp.2.2.2⟩)
    (fun m meth c A a g mk Y hp => ⟨hp.1, wtrans (s := s.setVm vm0) hZ Y.warmed, (key m meth c A g mk a Y hp.2.1).enter hρ⟩) (fun _ _ _ _ _ _ _ _ _ => trivial)
    (fun _ _ _ _ ⟨v, s1, r1, L, h1, h2, h3, h4, h5⟩ => ⟨L, _, _, h5, rfl, rfl, v, s1, r1, h1, h2, h3, h4⟩) ?_
  intro m meth c A a g mk v t L k n Y hp _ _ ⟨e1, e2, v', s1, r1, e3, e4, e5, e6⟩
  cases e3
  subst e1 e2
  exact ⟨s1, r1, L, e4, e5, (key m meth c A g mk a Y hp.2.1).call hρ e6, rfl, rfl, rfl⟩
/-! picking out of lists -/
def takeAt {α : Type} : Nat → List α → Option (α × List α)
  | _, [] => none
  | 0, x :: l => some (x, l)
  | i + 1, x :: l => match takeAt i l with
    | none => none
    | some (y, l') => some (y, x :: l')
def pick {α : Type} : List Nat → List α → Option (List α × List α)
  | [], l => some ([], l)
  | i :: is, l => match takeAt i l with
    | none => none
    | some (x, l') => match pick is l' with
      | none => none
      | some (a, b) => some (x :: a, b)
theorem takeAt_perm {α : Type} : ∀ (i : Nat) (l : List α) (x : α) (l' : List α), takeAt i l = some (x, l') → (x :: l').Perm l
  | _, [], _, _, h => by simp [takeAt] at h
  | 0, y :: l, x, l', h => by simp [takeAt] at h; obtain ⟨rfl, rfl⟩ := h; exact List.Perm.refl _
  | i + 1, y :: l, x, l', h => by
    simp only [takeAt] at h
    cases hq : takeAt i l with
    | none => simp [hq] at h
    | some q =>
      obtain ⟨z, l2⟩ := q
      simp [hq] at h
      obtain ⟨rfl, rfl⟩ := h
      exact (List.Perm.swap _ _ _).trans ((takeAt_perm i l z l2 hq).cons y)
theorem pick_perm {α : Type} : ∀ (is : List Nat) (l a b : List α), pick is l = some (a, b) → (a ++ b).Perm l
  | [], l, a, b, h => by simp [pick] at h; obtain ⟨rfl, rfl⟩ := h; exact List.Perm.refl _
  | i :: is, l, a, b, h => by
    simp only [pick] at h
    cases hq : takeAt i l with
    | none => simp [hq] at h
    | some q =>
      obtain ⟨x, l'⟩ := q
      cases hp : pick is l' with
      | none => simp [hq, hp] at h
      | some r =>
        obtain ⟨a', b'⟩ := r
        simp [hq, hp] at h
        obtain ⟨rfl, rfl⟩ := h
        exact ((pick_perm is l' a' b' hp).cons x).trans (takeAt_perm i l x l' hq)
theorem Hp.perm {s : State} {σ0 ρ0 : HL} {vm : Vm} {h : Heap} (H : Hp Z EL σ0 ρ0 s σ ρ vm h) (hp : σ'.Perm σ) : Hp Z EL σ0 ρ0 s σ' ρ vm h :=
  H.sub (fun q hq => hp.mem_iff.mp hq) ((hp.map Prod.fst).nodup_iff.mpr H.2.2.2.1) fun _ q => q
def roOf (is : List Nat) (ρ ρi : HL) : Prop := is.map (fun i => ρ[i]?) = ρi.map some
theorem roOf.mem {is : List Nat} {ρi : HL} (h : roOf is ρ ρi) : ∀ q ∈ ρi, q ∈ ρ := fun q hq => by
  have h1 : some q ∈ ρi.map some := List.mem_map.mpr ⟨q, hq, rfl⟩
  rw [← h] at h1
  obtain ⟨i, -, e⟩ := List.mem_map.mp h1
  exact List.mem_of_getElem? e
theorem Wk.perm (W : Wk l Z EL R own bytes maxL ret nm X σ ρ T k n) (hp : σ'.Perm σ) : Wk l Z EL R own bytes maxL ret nm X σ' ρ T k n := by
  obtain ⟨w, vm0, k0, locs, a, b, c, d, e, f, H⟩ := W
  exact ⟨w, vm0, k0, locs, a, b, c, d, e, f, H.perm hp⟩
/-- owned cells become read-only -/
theorem Wk.freeze (W : Wk l Z EL R own bytes maxL ret nm X σ ρ T k n) (is : List Nat) {σi σf : HL} (hp : pick is σ = some (σi, σf)) : Wk l Z EL R own bytes maxL ret nm X σf (σi ++ ρ) T k n := by
  obtain ⟨w, vm0, k0, locs, a, b, c, d, e, f, H⟩ := W
  exact ⟨w, vm0, k0, locs, a, b, c, d, e, f, (H.perm (pick_perm _ _ _ _ hp)).freeze⟩
/-- cells forgotten -/
theorem Wk.drop (W : Wk l Z EL R own bytes maxL ret nm X σ ρ T k n) (is : List Nat) {σi σf : HL} (hp : pick is σ = some (σi, σf)) : Wk l Z EL R own bytes maxL ret nm X σf ρ T k n := by
  obtain ⟨w, vm0, k0, locs, a, b, c, d, e, f, H⟩ := W
  have H' := H.perm (pick_perm _ _ _ _ hp)
  refine ⟨w, vm0, k0, locs, a, b, c, d, e, f, H'.sub (fun q hq => List.mem_append_right _ hq) ?_ fun _ q => q⟩
  have nd := H'.2.2.2.1
  rw [adr, List.map_append, List.nodup_append] at nd
  exact nd.2.1
theorem Wk.keepRo (W : Wk l Z EL R own bytes maxL ret nm X σ ρ T k n) (is : List Nat) (hp : roOf is ρ ρ') : Wk l Z EL R own bytes maxL ret nm X σ ρ' T k n := by
  obtain ⟨w, vm0, k0, locs, a, b, c, d, e, f, H⟩ := W
  exact ⟨w, vm0, k0, locs, a, b, c, d, e, f, H.sub (fun _ q => q) H.2.2.2.1 hp.mem⟩
theorem Wk.old (W : Wk l Z EL R own bytes maxL ret nm X σ ρ T k n) {a : Addr} {c : Cell} (ha : Z.heap[a]? = some c) : Wk l Z EL R own bytes maxL ret nm X σ ((a, c) :: ρ) T k n := by
  obtain ⟨w, vm0, k0, locs, a, b, c, d, e, f, H⟩ := W
  exact ⟨w, vm0, k0, locs, a, b, c, d, e, f, H.old ha⟩
theorem Wk.more (W : Wk l Z EL R own bytes maxL ret nm X σ ρ T k n) {k' n' : Nat} (hk : k ≤ k') (hn : n ≤ n') : Wk l Z EL R own bytes maxL ret nm X σ ρ T k' n' := by
  obtain ⟨w, vm0, k0, locs, a, b⟩ := W
  exact ⟨w, vm0, k0, locs, a.more hk hn, b⟩
theorem Wk.ext (W : Wk l Z EL R own bytes maxL ret nm X σ ρ T k n) : Ext Z.heap T.heap := by
  obtain ⟨w, vm0, k0, locs, a, b, c, d, e, f, H⟩ := W
  exact H.2.2.2.2.2.2.2
theorem Wk.cell (W : Wk l Z EL R own bytes maxL ret nm X σ ρ T k n) {q : Addr × Cell} (hq : q ∈ σ ∨ q ∈ ρ ∨ Z.heap[q.1]? = some q.2) : T.heap[q.1]? = some q.2 := by
  obtain ⟨w, vm0, k0, locs, a, b, c, d, e, f, H⟩ := W
  exact hq.elim (H.2.1 q) fun z => z.elim (H.2.2.1 q) (H.2.2.2.2.2.2.2.2 _ _)
end WkLaws
/-! ## own: single steps in the Go form (printed by gen_steps.py) -/
section StepLaws
variable {l : Launch} {Z : State} {a0 : Array Value} {EL : List (String × Nat)} {R : Room} {own : String} {bytes : ByteArray} {maxL : Nat} {ret : Option FieldType} {nm : String} {X : Ctx} {σ ρ : HL} {T : State} {k n K N : Nat} {Q : Option Value → HL → HL → Prop} {pc pc' : Nat} {Ls : Array Slot} {st : List Value}
theorem Go.aload (W : Wk l Z EL R own bytes maxL ret nm X σ ρ T k n) {k' : Nat} {v : Value} (hd : decode bytes pc = .ok (.aload k', 2)) (hl : Ls[k']? = some (.val v)) (hv : v.isRef = true) (hp : pc + 2 = pc') (r : Go Z EL K N Q X T pc' Ls (v :: st)) : Go Z EL K N Q X T pc Ls st :=
  Go.by (fun t kk => XS.aload W.here W.hx rfl (W.hb hd) hl hv (by subst hp; exact kk)) r
theorem Go.aloadN (W : Wk l Z EL R own bytes maxL ret nm X σ ρ T k n) {k' : Fin 4} {v : Value} (hd : decode bytes pc = .ok (.aload_n k', 1)) (hl : Ls[k'.val]? = some (.val v)) (hv : v.isRef = true) (hp : pc + 1 = pc') (r : Go Z EL K N Q X T pc' Ls (v :: st)) : Go Z EL K N Q X T pc Ls st :=
  Go.by (fun t kk => XS.aloadN W.here W.hx rfl (W.hb hd) hl hv (by subst hp; exact kk)) r
theorem Go.iload (W : Wk l Z EL R own bytes maxL ret nm X σ ρ T k n) {k' : Nat} {v : Int32} (hd : decode bytes pc = .ok (.iload k', 2)) (hl : Ls[k']? = some (.val (.int v))) (hp : pc + 2 = pc') (r : Go Z EL K N Q X T pc' Ls (.int v :: st)) : Go Z EL K N Q X T pc Ls st :=
  Go.by (fun t kk => XS.iload W.here W.hx rfl (W.hb hd) hl (by subst hp; exact kk)) r
theorem Go.iloadN (W : Wk l Z EL R own bytes maxL ret nm X σ ρ T k n) {k' : Fin 4} {v : Int32} (hd : decode bytes pc = .ok (.iload_n k', 1)) (hl : Ls[k'.val]? = some (.val (.int v))) (hp : pc + 1 = pc') (r : Go Z EL K N Q X T pc' Ls (.int v :: st)) : Go Z EL K N Q X T pc Ls st :=
  Go.by (fun t kk => XS.iloadN W.here W.hx rfl (W.hb hd) hl (by subst hp; exact kk)) r
theorem Go.lload (W : Wk l Z EL R own bytes maxL ret nm X σ ρ T k n) {k' : Nat} {v : Int64} (hd : decode bytes pc = .ok (.lload k', 2)) (hl : Ls[k']? = some (.val (.long v))) (hp : pc + 2 = pc') (r : Go Z EL K N Q X T pc' Ls (.long v :: st)) : Go Z EL K N Q X T pc Ls st :=
  Go.by (fun t kk => XT.lload W.here W.hx rfl (W.hb hd) hl (by subst hp; exact kk)) r
theorem Go.lloadN (W : Wk l Z EL R own bytes maxL ret nm X σ ρ T k n) {k' : Fin 4} {v : Int64} (hd : decode bytes pc = .ok (.lload_n k', 1)) (hl : Ls[k'.val]? = some (.val (.long v))) (hp : pc + 1 = pc') (r : Go Z EL K N Q X T pc' Ls (.long v :: st)) : Go Z EL K N Q X T pc Ls st :=
  Go.by (fun t kk => XT.lloadN W.here W.hx rfl (W.hb hd) hl (by subst hp; exact kk)) r
theorem Go.istore (W : Wk l Z EL R own bytes maxL ret nm X σ ρ T k n) {k' : Nat} {x : Int32} (Ls' : Array Slot) (hd : decode bytes pc = .ok (.istore k', 2)) (hl : storeLocals Ls k' (.int x) = some Ls') (hp : pc + 2 = pc') (r : Go Z EL K N Q X T pc' Ls' st) : Go Z EL K N Q X T pc Ls (.int x :: st) :=
  Go.by (fun t kk => XS.istore W.here W.hx rfl (W.hb hd) rfl hl (by subst hp; exact kk)) r
theorem Go.istoreN (W : Wk l Z EL R own bytes maxL ret nm X σ ρ T k n) {k' : Fin 4} {x : Int32} (Ls' : Array Slot) (hd : decode bytes pc = .ok (.istore_n k', 1)) (hl : storeLocals Ls k'.val (.int x) = some Ls') (hp : pc + 1 = pc') (r : Go Z EL K N Q X T pc' Ls' st) : Go Z EL K N Q X T pc Ls (.int x :: st) :=
  Go.by (fun t kk => XS.istoreN W.here W.hx rfl (W.hb hd) rfl hl (by subst hp; exact kk)) r
theorem Go.astore (W : Wk l Z EL R own bytes maxL ret nm X σ ρ T k n) {k' : Nat} {x : Value} (Ls' : Array Slot) (hd : decode bytes pc = .ok (.astore k', 2)) (hv : x.isRef = true) (hl : storeLocals Ls k' x = some Ls') (hp : pc + 2 = pc') (r : Go Z EL K N Q X T pc' Ls' st) : Go Z EL K N Q X T pc Ls (x :: st) :=
  Go.by (fun t kk => XS.astore W.here W.hx rfl (W.hb hd) rfl hv hl (by subst hp; exact kk)) r
theorem Go.astoreN (W : Wk l Z EL R own bytes maxL ret nm X σ ρ T k n) {k' : Fin 4} {x : Value} (Ls' : Array Slot) (hd : decode bytes pc = .ok (.astore_n k', 1)) (hv : x.isRef = true) (hl : storeLocals Ls k'.val x = some Ls') (hp : pc + 1 = pc') (r : Go Z EL K N Q X T pc' Ls' st) : Go Z EL K N Q X T pc Ls (x :: st) :=
  Go.by (fun t kk => XS.astoreN W.here W.hx rfl (W.hb hd) rfl hv hl (by subst hp; exact kk)) r
theorem Go.lstore (W : Wk l Z EL R own bytes maxL ret nm X σ ρ T k n) {k' : Nat} {x : Int64} (Ls' : Array Slot) (hd : decode bytes pc = .ok (.lstore k', 2)) (hl : storeLocals Ls k' (.long x) = some Ls') (hp : pc + 2 = pc') (r : Go Z EL K N Q X T pc' Ls' st) : Go Z EL K N Q X T pc Ls (.long x :: st) :=
  Go.by (fun t kk => XT.lstore W.here W.hx rfl (W.hb hd) rfl hl (by subst hp; exact kk)) r
theorem Go.lstoreN (W : Wk l Z EL R own bytes maxL ret nm X σ ρ T k n) {k' : Fin 4} {x : Int64} (Ls' : Array Slot) (hd : decode bytes pc = .ok (.lstore_n k', 1)) (hl : storeLocals Ls k'.val (.long x) = some Ls') (hp : pc + 1 = pc') (r : Go Z EL K N Q X T pc' Ls' st) : Go Z EL K N Q X T pc Ls (.long x :: st) :=
  Go.by (fun t kk => XT.lstoreN W.here W.hx rfl (W.hb hd) rfl hl (by subst hp; exact kk)) r
theorem Go.iconst (W : Wk l Z EL R own bytes maxL ret nm X σ ρ T k n) {i : Int} (v : Int32) (hd : decode bytes pc = .ok (.iconst i, 1)) (hv : Int32.ofInt i = v) (hp : pc + 1 = pc') (r : Go Z EL K N Q X T pc' Ls (.int v :: st)) : Go Z EL K N Q X T pc Ls st :=
  Go.by (fun t kk => XS.iconst W.here W.hx rfl (W.hb hd)  (by subst hp; subst hv; exact kk)) r
theorem Go.bipush (W : Wk l Z EL R own bytes maxL ret nm X σ ρ T k n) {i : Int} (v : Int32) (hd : decode bytes pc = .ok (.bipush i, 2)) (hv : (Int8.ofInt i).toInt32 = v) (hp : pc + 2 = pc') (r : Go Z EL K N Q X T pc' Ls (.int v :: st)) : Go Z EL K N Q X T pc Ls st :=
  Go.by (fun t kk => XS.bipush W.here W.hx rfl (W.hb hd)  (by subst hp; subst hv; exact kk)) r
theorem Go.sipush (W : Wk l Z EL R own bytes maxL ret nm X σ ρ T k n) {i : Int} (v : Int32) (hd : decode bytes pc = .ok (.sipush i, 3)) (hv : (Int16.ofInt i).toInt32 = v) (hp : pc + 3 = pc') (r : Go Z EL K N Q X T pc' Ls (.int v :: st)) : Go Z EL K N Q X T pc Ls st :=
  Go.by (fun t kk => XS.sipush W.here W.hx rfl (W.hb hd)  (by subst hp; subst hv; exact kk)) r
theorem Go.lconst (W : Wk l Z EL R own bytes maxL ret nm X σ ρ T k n) {i : Fin 2} (v : Int64) (hd : decode bytes pc = .ok (.lconst i, 1)) (hv : Int64.ofNat i = v) (hp : pc + 1 = pc') (r : Go Z EL K N Q X T pc' Ls (.long v :: st)) : Go Z EL K N Q X T pc Ls st :=
  Go.by (fun t kk => XT.lconst W.here W.hx rfl (W.hb hd)  (by subst hp; subst hv; exact kk)) r
theorem Go.aconstNull (W : Wk l Z EL R own bytes maxL ret nm X σ ρ T k n)  (hd : decode bytes pc = .ok (.aconst_null, 1))  (hp : pc + 1 = pc') (r : Go Z EL K N Q X T pc' Ls (.null :: st)) : Go Z EL K N Q X T pc Ls st :=
  Go.by (fun t kk => XS.aconstNull W.here W.hx rfl (W.hb hd)  (by subst hp; exact kk)) r
theorem Go.iadd (W : Wk l Z EL R own bytes maxL ret nm X σ ρ T k n) {x y : Int32} (hd : decode bytes pc = .ok (.iadd, 1))  (hp : pc + 1 = pc') (r : Go Z EL K N Q X T pc' Ls (.int (x + y) :: st)) : Go Z EL K N Q X T pc Ls (.int y :: .int x :: st) :=
  Go.by (fun t kk => XS.iadd W.here W.hx rfl (W.hb hd) rfl (by subst hp; exact kk)) r
theorem Go.isub (W : Wk l Z EL R own bytes maxL ret nm X σ ρ T k n) {x y : Int32} (hd : decode bytes pc = .ok (.isub, 1))  (hp : pc + 1 = pc') (r : Go Z EL K N Q X T pc' Ls (.int (x - y) :: st)) : Go Z EL K N Q X T pc Ls (.int y :: .int x :: st) :=
  Go.by (fun t kk => XS.isub W.here W.hx rfl (W.hb hd) rfl (by subst hp; exact kk)) r
theorem Go.imul (W : Wk l Z EL R own bytes maxL ret nm X σ ρ T k n) {x y : Int32} (hd : decode bytes pc = .ok (.imul, 1))  (hp : pc + 1 = pc') (r : Go Z EL K N Q X T pc' Ls (.int (x * y) :: st)) : Go Z EL K N Q X T pc Ls (.int y :: .int x :: st) :=
  Go.by (fun t kk => XS.imul W.here W.hx rfl (W.hb hd) rfl (by subst hp; exact kk)) r
theorem Go.iand (W : Wk l Z EL R own bytes maxL ret nm X σ ρ T k n) {x y : Int32} (hd : decode bytes pc = .ok (.iand, 1))  (hp : pc + 1 = pc') (r : Go Z EL K N Q X T pc' Ls (.int (x &&& y) :: st)) : Go Z EL K N Q X T pc Ls (.int y :: .int x :: st) :=
  Go.by (fun t kk => XS.iand W.here W.hx rfl (W.hb hd) rfl (by subst hp; exact kk)) r
theorem Go.ior (W : Wk l Z EL R own bytes maxL ret nm X σ ρ T k n) {x y : Int32} (hd : decode bytes pc = .ok (.ior, 1))  (hp : pc + 1 = pc') (r : Go Z EL K N Q X T pc' Ls (.int (x ||| y) :: st)) : Go Z EL K N Q X T pc Ls (.int y :: .int x :: st) :=
  Go.by (fun t kk => XT.ior W.here W.hx rfl (W.hb hd) rfl (by subst hp; exact kk)) r
theorem Go.ixor (W : Wk l Z EL R own bytes maxL ret nm X σ ρ T k n) {x y : Int32} (hd : decode bytes pc = .ok (.ixor, 1))  (hp : pc + 1 = pc') (r : Go Z EL K N Q X T pc' Ls (.int (x ^^^ y) :: st)) : Go Z EL K N Q X T pc Ls (.int y :: .int x :: st) :=
  Go.by (fun t kk => XT.ixor W.here W.hx rfl (W.hb hd) rfl (by subst hp; exact kk)) r
theorem Go.ishl (W : Wk l Z EL R own bytes maxL ret nm X σ ρ T k n) {x y : Int32} (hd : decode bytes pc = .ok (.ishl, 1))  (hp : pc + 1 = pc') (r : Go Z EL K N Q X T pc' Ls (.int (x <<< (y &&& 31)) :: st)) : Go Z EL K N Q X T pc Ls (.int y :: .int x :: st) :=
  Go.by (fun t kk => XT.ishl W.here W.hx rfl (W.hb hd) rfl (by subst hp; exact kk)) r
theorem Go.ishr (W : Wk l Z EL R own bytes maxL ret nm X σ ρ T k n) {x y : Int32} (hd : decode bytes pc = .ok (.ishr, 1))  (hp : pc + 1 = pc') (r : Go Z EL K N Q X T pc' Ls (.int (x >>> (y &&& 31)) :: st)) : Go Z EL K N Q X T pc Ls (.int y :: .int x :: st) :=
  Go.by (fun t kk => XT.ishr W.here W.hx rfl (W.hb hd) rfl (by subst hp; exact kk)) r
theorem Go.iushr (W : Wk l Z EL R own bytes maxL ret nm X σ ρ T k n) {x y : Int32} (hd : decode bytes pc = .ok (.iushr, 1))  (hp : pc + 1 = pc') (r : Go Z EL K N Q X T pc' Ls (.int ((x.toUInt32 >>> (y &&& 31).toUInt32).toInt32) :: st)) : Go Z EL K N Q X T pc Ls (.int y :: .int x :: st) :=
  Go.by (fun t kk => XT.iushr W.here W.hx rfl (W.hb hd) rfl (by subst hp; exact kk)) r
theorem Go.idiv (W : Wk l Z EL R own bytes maxL ret nm X σ ρ T k n) {x y : Int32} (hd : decode bytes pc = .ok (.idiv, 1)) (hy : y ≠ 0) (hp : pc + 1 = pc') (r : Go Z EL K N Q X T pc' Ls (.int (x / y) :: st)) : Go Z EL K N Q X T pc Ls (.int y :: .int x :: st) :=
  Go.by (fun t kk => XS.idiv W.here W.hx rfl (W.hb hd) rfl hy (by subst hp; exact kk)) r
theorem Go.irem (W : Wk l Z EL R own bytes maxL ret nm X σ ρ T k n) {x y : Int32} (hd : decode bytes pc = .ok (.irem, 1)) (hy : y ≠ 0) (hp : pc + 1 = pc') (r : Go Z EL K N Q X T pc' Ls (.int (x % y) :: st)) : Go Z EL K N Q X T pc Ls (.int y :: .int x :: st) :=
  Go.by (fun t kk => XS.irem W.here W.hx rfl (W.hb hd) rfl hy (by subst hp; rw [irem_eq_mod x y]; exact kk)) r
theorem Go.ineg (W : Wk l Z EL R own bytes maxL ret nm X σ ρ T k n) {x : Int32} (hd : decode bytes pc = .ok (.ineg, 1))  (hp : pc + 1 = pc') (r : Go Z EL K N Q X T pc' Ls (.int (-x) :: st)) : Go Z EL K N Q X T pc Ls (.int x :: st) :=
  Go.by (fun t kk => XS.ineg W.here W.hx rfl (W.hb hd) rfl (by subst hp; exact kk)) r
theorem Go.i2b (W : Wk l Z EL R own bytes maxL ret nm X σ ρ T k n) {x : Int32} (hd : decode bytes pc = .ok (.i2b, 1))  (hp : pc + 1 = pc') (r : Go Z EL K N Q X T pc' Ls (.int x.toInt8.toInt32 :: st)) : Go Z EL K N Q X T pc Ls (.int x :: st) :=
  Go.by (fun t kk => XT.i2b W.here W.hx rfl (W.hb hd) rfl (by subst hp; exact kk)) r
theorem Go.i2c (W : Wk l Z EL R own bytes maxL ret nm X σ ρ T k n) {x : Int32} (hd : decode bytes pc = .ok (.i2c, 1))  (hp : pc + 1 = pc') (r : Go Z EL K N Q X T pc' Ls (.int x.toUInt32.toUInt16.toUInt32.toInt32 :: st)) : Go Z EL K N Q X T pc Ls (.int x :: st) :=
  Go.by (fun t kk => XT.i2c W.here W.hx rfl (W.hb hd) rfl (by subst hp; exact kk)) r
theorem Go.i2s (W : Wk l Z EL R own bytes maxL ret nm X σ ρ T k n) {x : Int32} (hd : decode bytes pc = .ok (.i2s, 1))  (hp : pc + 1 = pc') (r : Go Z EL K N Q X T pc' Ls (.int x.toInt16.toInt32 :: st)) : Go Z EL K N Q X T pc Ls (.int x :: st) :=
  Go.by (fun t kk => XT.i2s W.here W.hx rfl (W.hb hd) rfl (by subst hp; exact kk)) r
theorem Go.i2l (W : Wk l Z EL R own bytes maxL ret nm X σ ρ T k n) {x : Int32} (hd : decode bytes pc = .ok (.i2l, 1))  (hp : pc + 1 = pc') (r : Go Z EL K N Q X T pc' Ls (.long x.toInt64 :: st)) : Go Z EL K N Q X T pc Ls (.int x :: st) :=
  Go.by (fun t kk => XT.i2l W.here W.hx rfl (W.hb hd) rfl (by subst hp; exact kk)) r
theorem Go.l2i (W : Wk l Z EL R own bytes maxL ret nm X σ ρ T k n) {x : Int64} (hd : decode bytes pc = .ok (.l2i, 1))  (hp : pc + 1 = pc') (r : Go Z EL K N Q X T pc' Ls (.int x.toInt32 :: st)) : Go Z EL K N Q X T pc Ls (.long x :: st) :=
  Go.by (fun t kk => XT.l2i W.here W.hx rfl (W.hb hd) rfl (by subst hp; exact kk)) r
theorem Go.ladd (W : Wk l Z EL R own bytes maxL ret nm X σ ρ T k n) {x y : Int64} (hd : decode bytes pc = .ok (.ladd, 1))  (hp : pc + 1 = pc') (r : Go Z EL K N Q X T pc' Ls (.long (x + y) :: st)) : Go Z EL K N Q X T pc Ls (.long y :: .long x :: st) :=
  Go.by (fun t kk => XT.ladd W.here W.hx rfl (W.hb hd) rfl (by subst hp; exact kk)) r
theorem Go.lsub (W : Wk l Z EL R own bytes maxL ret nm X σ ρ T k n) {x y : Int64} (hd : decode bytes pc = .ok (.lsub, 1))  (hp : pc + 1 = pc') (r : Go Z EL K N Q X T pc' Ls (.long (x - y) :: st)) : Go Z EL K N Q X T pc Ls (.long y :: .long x :: st) :=
  Go.by (fun t kk => XT.lsub W.here W.hx rfl (W.hb hd) rfl (by subst hp; exact kk)) r
theorem Go.lmul (W : Wk l Z EL R own bytes maxL ret nm X σ ρ T k n) {x y : Int64} (hd : decode bytes pc = .ok (.lmul, 1))  (hp : pc + 1 = pc') (r : Go Z EL K N Q X T pc' Ls (.long (x * y) :: st)) : Go Z EL K N Q X T pc Ls (.long y :: .long x :: st) :=
  Go.by (fun t kk => XT.lmul W.here W.hx rfl (W.hb hd) rfl (by subst hp; exact kk)) r
theorem Go.land (W : Wk l Z EL R own bytes maxL ret nm X σ ρ T k n) {x y : Int64} (hd : decode bytes pc = .ok (.land, 1))  (hp : pc + 1 = pc') (r : Go Z EL K N Q X T pc' Ls (.long (x &&& y) :: st)) : Go Z EL K N Q X T pc Ls (.long y :: .long x :: st) :=
  Go.by (fun t kk => XT.land W.here W.hx rfl (W.hb hd) rfl (by subst hp; exact kk)) r
theorem Go.lor (W : Wk l Z EL R own bytes maxL ret nm X σ ρ T k n) {x y : Int64} (hd : decode bytes pc = .ok (.lor, 1))  (hp : pc + 1 = pc') (r : Go Z EL K N Q X T pc' Ls (.long (x ||| y) :: st)) : Go Z EL K N Q X T pc Ls (.long y :: .long x :: st) :=
  Go.by (fun t kk => XT.lor W.here W.hx rfl (W.hb hd) rfl (by subst hp; exact kk)) r
theorem Go.lxor (W : Wk l Z EL R own bytes maxL ret nm X σ ρ T k n) {x y : Int64} (hd : decode bytes pc = .ok (.lxor, 1))  (hp : pc + 1 = pc') (r : Go Z EL K N Q X T pc' Ls (.long (x ^^^ y) :: st)) : Go Z EL K N Q X T pc Ls (.long y :: .long x :: st) :=
  Go.by (fun t kk => XT.lxor W.here W.hx rfl (W.hb hd) rfl (by subst hp; exact kk)) r
theorem Go.ldiv (W : Wk l Z EL R own bytes maxL ret nm X σ ρ T k n) {x y : Int64} (hd : decode bytes pc = .ok (.ldiv, 1)) (hy : y ≠ 0) (hp : pc + 1 = pc') (r : Go Z EL K N Q X T pc' Ls (.long (x / y) :: st)) : Go Z EL K N Q X T pc Ls (.long y :: .long x :: st) :=
  Go.by (fun t kk => XT.ldiv W.here W.hx rfl (W.hb hd) rfl hy (by subst hp; exact kk)) r
theorem Go.lrem (W : Wk l Z EL R own bytes maxL ret nm X σ ρ T k n) {x y : Int64} (hd : decode bytes pc = .ok (.lrem, 1)) (hy : y ≠ 0) (hp : pc + 1 = pc') (r : Go Z EL K N Q X T pc' Ls (.long (x % y) :: st)) : Go Z EL K N Q X T pc Ls (.long y :: .long x :: st) :=
  Go.by (fun t kk => XT.lrem W.here W.hx rfl (W.hb hd) rfl hy (by subst hp; rw [lrem_mod x y]; exact kk)) r
theorem Go.lneg (W : Wk l Z EL R own bytes maxL ret nm X σ ρ T k n) {x : Int64} (hd : decode bytes pc = .ok (.lneg, 1))  (hp : pc + 1 = pc') (r : Go Z EL K N Q X T pc' Ls (.long (-x) :: st)) : Go Z EL K N Q X T pc Ls (.long x :: st) :=
  Go.by (fun t kk => XT.lneg W.here W.hx rfl (W.hb hd) rfl (by subst hp; exact kk)) r
theorem Go.lushr (W : Wk l Z EL R own bytes maxL ret nm X σ ρ T k n) {x : Int64} {y : Int32} (hd : decode bytes pc = .ok (.lushr, 1))  (hp : pc + 1 = pc') (r : Go Z EL K N Q X T pc' Ls (.long (Jvm.Free.XT.ushrL x y) :: st)) : Go Z EL K N Q X T pc Ls (.int y :: .long x :: st) :=
  Go.by (fun t kk => XT.lushr W.here W.hx rfl (W.hb hd) rfl (by subst hp; exact kk)) r
theorem Go.lcmp (W : Wk l Z EL R own bytes maxL ret nm X σ ρ T k n) {x y : Int64} (hd : decode bytes pc = .ok (.lcmp, 1))  (hp : pc + 1 = pc') (r : Go Z EL K N Q X T pc' Ls (.int (lcmpW x y) :: st)) : Go Z EL K N Q X T pc Ls (.long y :: .long x :: st) :=
  Go.by (fun t kk => XT.lcmp W.here W.hx rfl (W.hb hd) rfl (by subst hp; exact kk)) r
theorem Go.dup (W : Wk l Z EL R own bytes maxL ret nm X σ ρ T k n) {x : Value} (hd : decode bytes pc = .ok (.dup, 1)) (hc : x.category = 1) (hp : pc + 1 = pc') (r : Go Z EL K N Q X T pc' Ls (x :: x :: st)) : Go Z EL K N Q X T pc Ls (x :: st) :=
  Go.by (fun t kk => XS.dup W.here W.hx rfl (W.hb hd) rfl hc (by subst hp; exact kk)) r
theorem Go.dupX1 (W : Wk l Z EL R own bytes maxL ret nm X σ ρ T k n) {x y : Value} (hd : decode bytes pc = .ok (.dup_x1, 1)) (hc : x.category = 1) (hc' : y.category = 1) (hp : pc + 1 = pc') (r : Go Z EL K N Q X T pc' Ls (x :: y :: x :: st)) : Go Z EL K N Q X T pc Ls (x :: y :: st) :=
  Go.by (fun t kk => XT.dupX1 W.here W.hx rfl (W.hb hd) rfl hc hc' (by subst hp; exact kk)) r
theorem Go.dup2 (W : Wk l Z EL R own bytes maxL ret nm X σ ρ T k n) {x y : Value} (hd : decode bytes pc = .ok (.dup2, 1)) (hc : x.category = 1) (hc' : y.category = 1) (hp : pc + 1 = pc') (r : Go Z EL K N Q X T pc' Ls (x :: y :: x :: y :: st)) : Go Z EL K N Q X T pc Ls (x :: y :: st) :=
  Go.by (fun t kk => XT.dup2 W.here W.hx rfl (W.hb hd) rfl hc hc' (by subst hp; exact kk)) r
theorem Go.pop (W : Wk l Z EL R own bytes maxL ret nm X σ ρ T k n) {x : Value} (hd : decode bytes pc = .ok (.pop, 1)) (hc : x.category = 1) (hp : pc + 1 = pc') (r : Go Z EL K N Q X T pc' Ls st) : Go Z EL K N Q X T pc Ls (x :: st) :=
  Go.by (fun t kk => XT.pop W.here W.hx rfl (W.hb hd) rfl hc (by subst hp; exact kk)) r
theorem Go.iinc (W : Wk l Z EL R own bytes maxL ret nm X σ ρ T k n) {k' : Nat} {cst : Int} {x : Int32} (v : Int32) (Ls' : Array Slot) (hd : decode bytes pc = .ok (.iinc k' cst, 3)) (hl : Ls[k']? = some (.val (.int x))) (hv : Int32.ofInt cst = v) (hl' : storeLocals Ls k' (.int (x + v)) = some Ls') (hp : pc + 3 = pc') (r : Go Z EL K N Q X T pc' Ls' st) : Go Z EL K N Q X T pc Ls st :=
  Go.by (fun t kk => XS.iinc W.here W.hx rfl (W.hb hd) hl (by rw [hv]; exact hl') (by subst hp; exact kk)) r
theorem Go.goto (W : Wk l Z EL R own bytes maxL ret nm X σ ρ T k n) {o : Int} (pcY : Nat) (hd : decode bytes pc = .ok (.goto o, 3)) (hy : (pc : Int) + o = (pcY : Nat)) (r : Go Z EL K N Q X T pcY Ls st) : Go Z EL K N Q X T pc Ls st :=
  Go.by (fun t kk => XS.goto W.here W.hx rfl (pc0 := pc) (pc' := pcY) rfl (W.hb hd) (by omega) (by omega) kk) r
theorem Go.icmp_eq (W : Wk l Z EL R own bytes maxL ret nm X σ ρ T k n) {x y : Int32} {o : Int} (pcY : Nat) (hd : decode bytes pc = .ok (.if_icmp .eq o, 3)) (hy : (pc : Int) + o = (pcY : Nat)) (hp : pc + 3 = pc') (rY : (x = y) → Go Z EL K N Q X T pcY Ls st) (rN : (¬ x = y) → Go Z EL K N Q X T pc' Ls st) : Go Z EL K N Q X T pc Ls (.int y :: .int x :: st) := by
  by_cases q : x = y
  · exact Go.by (fun t kk => XS.icmpYes W.here W.hx rfl (pc0 := pc) (pc' := pcY) rfl (W.hb hd) rfl (teq q).1 (by omega) (by omega) kk) (rY q)
  · exact Go.by (fun t kk => XS.icmpNo W.here W.hx rfl (W.hb hd) rfl (feq q).1 (by subst hp; exact kk)) (rN q)
theorem Go.if_eq (W : Wk l Z EL R own bytes maxL ret nm X σ ρ T k n) {x : Int32} {o : Int} (pcY : Nat) (hd : decode bytes pc = .ok (.ifCond .eq o, 3)) (hy : (pc : Int) + o = (pcY : Nat)) (hp : pc + 3 = pc') (rY : (x = 0) → Go Z EL K N Q X T pcY Ls st) (rN : (¬ x = 0) → Go Z EL K N Q X T pc' Ls st) : Go Z EL K N Q X T pc Ls (.int x :: st) := by
  by_cases q : x = 0
  · exact Go.by (fun t kk => XS.ifYes W.here W.hx rfl (pc0 := pc) (pc' := pcY) rfl (W.hb hd) rfl ((if0 .eq x).trans (teq q).1) (by omega) (by omega) kk) (rY q)
  · exact Go.by (fun t kk => XS.ifNo W.here W.hx rfl (W.hb hd) rfl ((if0 .eq x).trans (feq q).1) (by subst hp; exact kk)) (rN q)
theorem Go.icmp_ne (W : Wk l Z EL R own bytes maxL ret nm X σ ρ T k n) {x y : Int32} {o : Int} (pcY : Nat) (hd : decode bytes pc = .ok (.if_icmp .ne o, 3)) (hy : (pc : Int) + o = (pcY : Nat)) (hp : pc + 3 = pc') (rY : (¬ x = y) → Go Z EL K N Q X T pcY Ls st) (rN : (x = y) → Go Z EL K N Q X T pc' Ls st) : Go Z EL K N Q X T pc Ls (.int y :: .int x :: st) := by
  by_cases q : x = y
  · exact Go.by (fun t kk => XS.icmpNo W.here W.hx rfl (W.hb hd) rfl (teq q).2 (by subst hp; exact kk)) (rN q)
  · exact Go.by (fun t kk => XS.icmpYes W.here W.hx rfl (pc0 := pc) (pc' := pcY) rfl (W.hb hd) rfl (feq q).2 (by omega) (by omega) kk) (rY q)
theorem Go.if_ne (W : Wk l Z EL R own bytes maxL ret nm X σ ρ T k n) {x : Int32} {o : Int} (pcY : Nat) (hd : decode bytes pc = .ok (.ifCond .ne o, 3)) (hy : (pc : Int) + o = (pcY : Nat)) (hp : pc + 3 = pc') (rY : (¬ x = 0) → Go Z EL K N Q X T pcY Ls st) (rN : (x = 0) → Go Z EL K N Q X T pc' Ls st) : Go Z EL K N Q X T pc Ls (.int x :: st) := by
  by_cases q : x = 0
  · exact Go.by (fun t kk => XS.ifNo W.here W.hx rfl (W.hb hd) rfl ((if0 .ne x).trans (teq q).2) (by subst hp; exact kk)) (rN q)
  · exact Go.by (fun t kk => XS.ifYes W.here W.hx rfl (pc0 := pc) (pc' := pcY) rfl (W.hb hd) rfl ((if0 .ne x).trans (feq q).2) (by omega) (by omega) kk) (rY q)
theorem Go.icmp_lt (W : Wk l Z EL R own bytes maxL ret nm X σ ρ T k n) {x y : Int32} {o : Int} (pcY : Nat) (hd : decode bytes pc = .ok (.if_icmp .lt o, 3)) (hy : (pc : Int) + o = (pcY : Nat)) (hp : pc + 3 = pc') (rY : (x < y) → Go Z EL K N Q X T pcY Ls st) (rN : (¬ x < y) → Go Z EL K N Q X T pc' Ls st) : Go Z EL K N Q X T pc Ls (.int y :: .int x :: st) := by
  by_cases q : x < y
  · exact Go.by (fun t kk => XS.icmpYes W.here W.hx rfl (pc0 := pc) (pc' := pcY) rfl (W.hb hd) rfl (tlt q).1 (by omega) (by omega) kk) (rY q)
  · exact Go.by (fun t kk => XS.icmpNo W.here W.hx rfl (W.hb hd) rfl (flt q).1 (by subst hp; exact kk)) (rN q)
theorem Go.if_lt (W : Wk l Z EL R own bytes maxL ret nm X σ ρ T k n) {x : Int32} {o : Int} (pcY : Nat) (hd : decode bytes pc = .ok (.ifCond .lt o, 3)) (hy : (pc : Int) + o = (pcY : Nat)) (hp : pc + 3 = pc') (rY : (x < 0) → Go Z EL K N Q X T pcY Ls st) (rN : (¬ x < 0) → Go Z EL K N Q X T pc' Ls st) : Go Z EL K N Q X T pc Ls (.int x :: st) := by
  by_cases q : x < 0
  · exact Go.by (fun t kk => XS.ifYes W.here W.hx rfl (pc0 := pc) (pc' := pcY) rfl (W.hb hd) rfl ((if0 .lt x).trans (tlt q).1) (by omega) (by omega) kk) (rY q)
  · exact Go.by (fun t kk => XS.ifNo W.here W.hx rfl (W.hb hd) rfl ((if0 .lt x).trans (flt q).1) (by subst hp; exact kk)) (rN q)
theorem Go.icmp_ge (W : Wk l Z EL R own bytes maxL ret nm X σ ρ T k n) {x y : Int32} {o : Int} (pcY : Nat) (hd : decode bytes pc = .ok (.if_icmp .ge o, 3)) (hy : (pc : Int) + o = (pcY : Nat)) (hp : pc + 3 = pc') (rY : (¬ x < y) → Go Z EL K N Q X T pcY Ls st) (rN : (x < y) → Go Z EL K N Q X T pc' Ls st) : Go Z EL K N Q X T pc Ls (.int y :: .int x :: st) := by
  by_cases q : x < y
  · exact Go.by (fun t kk => XS.icmpNo W.here W.hx rfl (W.hb hd) rfl (tlt q).2.1 (by subst hp; exact kk)) (rN q)
  · exact Go.by (fun t kk => XS.icmpYes W.here W.hx rfl (pc0 := pc) (pc' := pcY) rfl (W.hb hd) rfl (flt q).2.1 (by omega) (by omega) kk) (rY q)
theorem Go.if_ge (W : Wk l Z EL R own bytes maxL ret nm X σ ρ T k n) {x : Int32} {o : Int} (pcY : Nat) (hd : decode bytes pc = .ok (.ifCond .ge o, 3)) (hy : (pc : Int) + o = (pcY : Nat)) (hp : pc + 3 = pc') (rY : (¬ x < 0) → Go Z EL K N Q X T pcY Ls st) (rN : (x < 0) → Go Z EL K N Q X T pc' Ls st) : Go Z EL K N Q X T pc Ls (.int x :: st) := by
  by_cases q : x < 0
  · exact Go.by (fun t kk => XS.ifNo W.here W.hx rfl (W.hb hd) rfl ((if0 .ge x).trans (tlt q).2.1) (by subst hp; exact kk)) (rN q)
  · exact Go.by (fun t kk => XS.ifYes W.here W.hx rfl (pc0 := pc) (pc' := pcY) rfl (W.hb hd) rfl ((if0 .ge x).trans (flt q).2.1) (by omega) (by omega) kk) (rY q)
theorem Go.icmp_gt (W : Wk l Z EL R own bytes maxL ret nm X σ ρ T k n) {x y : Int32} {o : Int} (pcY : Nat) (hd : decode bytes pc = .ok (.if_icmp .gt o, 3)) (hy : (pc : Int) + o = (pcY : Nat)) (hp : pc + 3 = pc') (rY : (y < x) → Go Z EL K N Q X T pcY Ls st) (rN : (¬ y < x) → Go Z EL K N Q X T pc' Ls st) : Go Z EL K N Q X T pc Ls (.int y :: .int x :: st) := by
  by_cases q : y < x
  · exact Go.by (fun t kk => XS.icmpYes W.here W.hx rfl (pc0 := pc) (pc' := pcY) rfl (W.hb hd) rfl (tlt q).2.2.1 (by omega) (by omega) kk) (rY q)
  · exact Go.by (fun t kk => XS.icmpNo W.here W.hx rfl (W.hb hd) rfl (flt q).2.2.1 (by subst hp; exact kk)) (rN q)
theorem Go.if_gt (W : Wk l Z EL R own bytes maxL ret nm X σ ρ T k n) {x : Int32} {o : Int} (pcY : Nat) (hd : decode bytes pc = .ok (.ifCond .gt o, 3)) (hy : (pc : Int) + o = (pcY : Nat)) (hp : pc + 3 = pc') (rY : (0 < x) → Go Z EL K N Q X T pcY Ls st) (rN : (¬ 0 < x) → Go Z EL K N Q X T pc' Ls st) : Go Z EL K N Q X T pc Ls (.int x :: st) := by
  by_cases q : 0 < x
  · exact Go.by (fun t kk => XS.ifYes W.here W.hx rfl (pc0 := pc) (pc' := pcY) rfl (W.hb hd) rfl ((if0 .gt x).trans (tlt q).2.2.1) (by omega) (by omega) kk) (rY q)
  · exact Go.by (fun t kk => XS.ifNo W.here W.hx rfl (W.hb hd) rfl ((if0 .gt x).trans (flt q).2.2.1) (by subst hp; exact kk)) (rN q)
theorem Go.icmp_le (W : Wk l Z EL R own bytes maxL ret nm X σ ρ T k n) {x y : Int32} {o : Int} (pcY : Nat) (hd : decode bytes pc = .ok (.if_icmp .le o, 3)) (hy : (pc : Int) + o = (pcY : Nat)) (hp : pc + 3 = pc') (rY : (¬ y < x) → Go Z EL K N Q X T pcY Ls st) (rN : (y < x) → Go Z EL K N Q X T pc' Ls st) : Go Z EL K N Q X T pc Ls (.int y :: .int x :: st) := by
  by_cases q : y < x
  · exact Go.by (fun t kk => XS.icmpNo W.here W.hx rfl (W.hb hd) rfl (tlt q).2.2.2 (by subst hp; exact kk)) (rN q)
  · exact Go.by (fun t kk => XS.icmpYes W.here W.hx rfl (pc0 := pc) (pc' := pcY) rfl (W.hb hd) rfl (flt q).2.2.2 (by omega) (by omega) kk) (rY q)
theorem Go.if_le (W : Wk l Z EL R own bytes maxL ret nm X σ ρ T k n) {x : Int32} {o : Int} (pcY : Nat) (hd : decode bytes pc = .ok (.ifCond .le o, 3)) (hy : (pc : Int) + o = (pcY : Nat)) (hp : pc + 3 = pc') (rY : (¬ 0 < x) → Go Z EL K N Q X T pcY Ls st) (rN : (0 < x) → Go Z EL K N Q X T pc' Ls st) : Go Z EL K N Q X T pc Ls (.int x :: st) := by
  by_cases q : 0 < x
  · exact Go.by (fun t kk => XS.ifNo W.here W.hx rfl (W.hb hd) rfl ((if0 .le x).trans (tlt q).2.2.2) (by subst hp; exact kk)) (rN q)
  · exact Go.by (fun t kk => XS.ifYes W.here W.hx rfl (pc0 := pc) (pc' := pcY) rfl (W.hb hd) rfl ((if0 .le x).trans (flt q).2.2.2) (by omega) (by omega) kk) (rY q)
theorem Go.ifnull_yes (W : Wk l Z EL R own bytes maxL ret nm X σ ρ T k n) {o : Int} (pcY : Nat) (hd : decode bytes pc = .ok (.ifnull o, 3)) (hy : (pc : Int) + o = (pcY : Nat)) (r : Go Z EL K N Q X T pcY Ls st) : Go Z EL K N Q X T pc Ls (.null :: st) :=
  Go.by (fun t kk => XS.ifnullYes W.here W.hx rfl (pc0 := pc) (pc' := pcY) rfl (W.hb hd) rfl (by omega) (by omega) kk) r
theorem Go.ifnull_no (W : Wk l Z EL R own bytes maxL ret nm X σ ρ T k n) {b : Addr} {o : Int} (hd : decode bytes pc = .ok (.ifnull o, 3)) (hp : pc + 3 = pc') (r : Go Z EL K N Q X T pc' Ls st) : Go Z EL K N Q X T pc Ls (.ref b :: st) :=
  Go.by (fun t kk => XS.ifnullNo W.here W.hx rfl (W.hb hd) rfl (by subst hp; exact kk)) r
theorem Go.ifnonnull_yes (W : Wk l Z EL R own bytes maxL ret nm X σ ρ T k n) {b : Addr} {o : Int} (pcY : Nat) (hd : decode bytes pc = .ok (.ifnonnull o, 3)) (hy : (pc : Int) + o = (pcY : Nat)) (r : Go Z EL K N Q X T pcY Ls st) : Go Z EL K N Q X T pc Ls (.ref b :: st) :=
  Go.by (fun t kk => XT.ifnonnullYes W.here W.hx rfl (pc0 := pc) (pc' := pcY) rfl (W.hb hd) rfl (by omega) (by omega) kk) r
theorem Go.ifnonnull_no (W : Wk l Z EL R own bytes maxL ret nm X σ ρ T k n) {o : Int} (hd : decode bytes pc = .ok (.ifnonnull o, 3)) (hp : pc + 3 = pc') (r : Go Z EL K N Q X T pc' Ls st) : Go Z EL K N Q X T pc Ls (.null :: st) :=
  Go.by (fun t kk => XT.ifnonnullNo W.here W.hx rfl (W.hb hd) rfl (by subst hp; exact kk)) r
end StepLaws
/-! ## own: what is known of one cell -/
def ObjC (Z : State) (c : Cell) (C : String) : Prop := ∃ k : Class, Z.vm.findClass C = some c.cls ∧ Z.vm.classes[c.cls]? = some k ∧ c.vm.isStatics = false ∧ (k.kind = .ordinary → c.slots.size = k.instanceTypes.size)
def FldC (Z : State) (c : Cell) (C n d : String) (v : Value) : Prop := ∃ (cf : ClassId) (k : Class) (i : Nat) (f : Field), Z.fieldFound? C n d = some (cf, k, i, f) ∧ f.isStatic = false ∧ c.vm ≠ .unknown ∧ c.vm.isStatics = false ∧ Z.vm.assignable c.cls cf = true ∧ c.slots[f.slot]? = some v
def ArrC (Z : State) (c : Cell) (ty : FieldType) (vs : List Value) : Prop := Z.isArrayOf c ty ∧ c.vm ≠ .unknown ∧ c.slots.toList = vs ∧ (∀ v ∈ vs, fits ty v = true) ∧ vs.length < 2147483648
section CellLaws
variable {Z : State} {c c' : Cell} {C n d C' n' d' : String} {v w : Value} {h : Heap} {a : Addr} {ty : FieldType} {vs : List Value}
theorem ObjC.exa (F : ObjC Z c C) (ha : h[a]? = some c) : Exa Z h a C := by obtain ⟨k, h1, h2, h3, h4⟩ := F; exact ⟨c, k, ha, h1, h2, h3, h4⟩
theorem ObjC.of (F : Exa Z h a C) (ha : h[a]? = some c) : ObjC Z c C := by
  obtain ⟨c', k, h0, h1, h2, h3, h4⟩ := F
  cases ha.symm.trans h0
  exact ⟨k, h1, h2, h3, h4⟩
theorem FldC.fld (F : FldC Z c C n d v) (ha : h[a]? = some c) : Fld Z h a C n d v := by obtain ⟨cf, k, i, f, r⟩ := F; exact ⟨c, cf, k, i, f, ha, r⟩
theorem FldC.of (F : Fld Z h a C n d v) (ha : h[a]? = some c) : FldC Z c C n d v := by
  obtain ⟨c', cf, k, i, f, h0, r⟩ := F
  cases ha.symm.trans h0
  exact ⟨cf, k, i, f, r⟩
theorem ArrC.arr (F : ArrC Z c ty vs) (ha : h[a]? = some c) : Arr Z h a c ty := ⟨ha, F.1, F.2.1⟩
theorem ArrC.size (F : ArrC Z c ty vs) : c.slots.size = vs.length := by rw [← F.2.2.1]; simp
theorem ArrC.get (F : ArrC Z c ty vs) (i : Nat) : c.slots[i]? = vs[i]? := by rw [← F.2.2.1]; simp
theorem FldC.put {v' : Value} (F : FldC Z c C n d v) : FldC Z (c.setSlot (Jvm.RoadKit.slotOf Z C n d) v') C n d v' := by
  obtain ⟨cf, k, i, f, h1, h2, h3, h4, h5, h6⟩ := F
  have hlt := (Array.getElem?_eq_some_iff.mp h6).1
  exact ⟨cf, k, i, f, h1, h2, h3, h4, h5, by simp [Cell.setSlot, Jvm.RoadKit.slotOf, h1, hlt]⟩
theorem FldC.keep {sl : Nat} {v' : Value} (F : FldC Z c C n d v) (hne : Jvm.RoadKit.slotOf Z C n d ≠ sl) : FldC Z (c.setSlot sl v') C n d v := by
  obtain ⟨cf, k, i, f, h1, h2, h3, h4, h5, h6⟩ := F
  have e : Jvm.RoadKit.slotOf Z C n d = f.slot := by simp [Jvm.RoadKit.slotOf, h1]
  rw [e] at hne
  exact ⟨cf, k, i, f, h1, h2, h3, h4, h5, by show (c.slots.setIfInBounds sl v')[f.slot]? = _; rw [Array.getElem?_setIfInBounds_ne (Ne.symm hne)]; exact h6⟩
theorem ObjC.put {sl : Nat} {v' : Value} (F : ObjC Z c C) : ObjC Z (c.setSlot sl v') C := by
  obtain ⟨k, h1, h2, h3, h4⟩ := F
  exact ⟨k, h1, h2, h3, fun q => by rw [← h4 q]; simp [Cell.setSlot]⟩
theorem FldC.put' {v' : Value} (F : FldC Z c C n d v) (e : c' = c.setSlot (Jvm.RoadKit.slotOf Z C n d) v') : FldC Z c' C n d v' := e ▸ F.put
theorem FldC.keep' {sl : Nat} {v' : Value} (F : FldC Z c C n d v) (e : c' = c.setSlot sl v') (hne : Jvm.RoadKit.slotOf Z C n d ≠ sl) : FldC Z c' C n d v := e ▸ F.keep hne
theorem ObjC.put' {sl : Nat} {v' : Value} (F : ObjC Z c C) (e : c' = c.setSlot sl v') : ObjC Z c' C := e ▸ F.put
theorem fits_isref (ht : ty.isReference = true) (hv : v.isRef = true) : fits ty v = true := by cases ty <;> first | (cases ht; done) | (cases v <;> first | (cases hv; done) | rfl)
theorem ArrC.put {i : Nat} {v' : Value} (F : ArrC Z c ty vs) (hf : fits ty v' = true) : ArrC Z (c.setSlot i v') ty (vs.set i v') := by
  obtain ⟨h1, h2, h3, h4, h5⟩ := F
  refine ⟨h1, h2, by simp [Cell.setSlot, h3], fun v hv => ?_, by simpa using h5⟩
  rcases List.mem_or_eq_of_mem_set hv with q | q
  · exact h4 v q
  · rw [q]; exact hf
end CellLaws
/-! ## own: steps that read or make or write cells, and calls, in the Go form -/
section HeapLaws
variable {l : Launch} {Z : State} {a0 : Array Value} {EL : List (String × Nat)} {R : Room} {own : String} {bytes : ByteArray} {maxL : Nat} {ret : Option FieldType} {nm : String} {X : Ctx} {σ ρ : HL} {T : State} {k n K N : Nat} {Q : Option Value → HL → HL → Prop} {pc pc' : Nat} {Ls : Array Slot} {st : List Value} {a : Addr} {c : Cell} {vs : List Value}
theorem Go.new (W : Wk l Z EL R own bytes maxL ret nm X σ ρ T k n) {C : String} {ix cnt : Nat} (w : (Jvm.Cond.classLink own ix C).before a0 Z = true) (wi : (Jvm.Cond.instantiable C cnt).before a0 Z = true) (wz : (Jvm.Cond.initialized C).before a0 Z = true)
    (hd : decode bytes pc = .ok (.new ix, 3)) (hp : pc + 3 = pc') (hk : k + 1 ≤ R.cells) (hn : n + cnt ≤ R.slots)
    (r : ∀ (T' : State) (a : Addr) (c : Cell), Wk l Z EL R own bytes maxL ret nm X ((a, c) :: σ) ρ T' (k + 1) (n + cnt) → ObjC Z c C → (∀ {O nm d : String} {ty : FieldType}, Laid Z a0 C O nm d → parseFieldDescriptor d = some ty → FldC Z c O nm d (defaultValue ty)) → Go Z EL K N Q X T' pc' Ls (.ref a :: st)) :
    Go Z EL K N Q X T pc Ls st := by
  obtain ⟨w0, vm0, k0, locs, Y, hS, hk0, hZ, hown, hFr, H⟩ := W
  obtain ⟨T', h', Y', e', E, A, D, ⟨cl, hcl, -⟩, stp⟩ := newO Y w0.1 hZ hown w wi wz rfl (g := mkF X.m pc Ls st) rfl (by rw [w0.2.1]; exact hd) hk hn
  subst e'
  refine Go.by stp (by subst hp; exact r T' T.heap.size cl ⟨w0, vm0, k0, locs, Y', hS, Nat.le_trans hk0 E.1, hZ, hown, hFr, H.alloc E hcl⟩ (ObjC.of A hcl) fun L ht => FldC.of (D L ht) hcl)
theorem fits_default (ty : FieldType) : fits ty (defaultValue ty) = true := by cases ty <;> rfl
theorem Go.newarr (W : Wk l Z EL R own bytes maxL ret nm X σ ρ T k n) {aty : ArrayType} {z : Int32} (ty : FieldType) (hty : newarray.typeOf aty = ty) (len : Nat) (w : (Jvm.Cond.arrayClass ty).before a0 Z = true) (hd : decode bytes pc = .ok (.newarray aty, 2)) (hp : pc + 2 = pc')
    (hz : ¬ z < 0) (hl : z.toNatClampNeg = len) (hb : len * 8 ≤ 536870912) (hk : k + 1 ≤ R.cells) (hn : n + len ≤ R.slots)
    (r : ∀ (T' : State) (a : Addr) (c : Cell), Wk l Z EL R own bytes maxL ret nm X ((a, c) :: σ) ρ T' (k + 1) (n + len) → ArrC Z c ty (List.replicate len (defaultValue ty)) → Go Z EL K N Q X T' pc' Ls (.ref a :: st)) :
    Go Z EL K N Q X T pc Ls (.int z :: st) := by
  subst hty
  obtain ⟨w0, vm0, k0, locs, Y, hS, hk0, hZ, hown, hFr, H⟩ := W
  obtain ⟨T', h', cA, Y', e', E, A, stp⟩ := newP Y w0.1 hZ w rfl (g := mkF X.m pc Ls (.int z :: st)) rfl (by rw [w0.2.1]; exact hd) rfl hz (cap := len) (Nat.le_of_eq hl) hb hk hn
  subst e' hp
  have hfd : ∀ v ∈ List.replicate len (defaultValue (newarray.typeOf aty)), fits (newarray.typeOf aty) v = true := fun v hv => by rw [(List.mem_replicate.mp hv).2]; exact fits_default _
  exact Go.by stp (r T' T.heap.size _ ⟨w0, vm0, k0, locs, Y', hS, Nat.le_trans hk0 E.1, hZ, hown, hFr, H.alloc E A.1⟩ ⟨A.2.1, A.2.2, by simp [newA, hl], hfd, by simp; omega⟩)
theorem Go.arrlen (W : Wk l Z EL R own bytes maxL ret nm X σ ρ T k n) (hm : (a, c) ∈ σ ∨ (a, c) ∈ ρ ∨ Z.heap[a]? = some c) {ty : FieldType} (A : ArrC Z c ty vs) (z : Int32) (hz : vs.length.toInt32 = z) (hd : decode bytes pc = .ok (.arraylength, 1)) (hp : pc + 1 = pc')
    (r : Go Z EL K N Q X T pc' Ls (.int z :: st)) : Go Z EL K N Q X T pc Ls (.ref a :: st) := by
  have hc := W.cell hm
  obtain ⟨w0, vm0, k0, locs, Y, hS, hk0, hZ, hown, hFr, H⟩ := W
  refine Go.by (fun t kk => Y.arraylength w0.1 (cell := c) hc (State.isArrayOf_alike hZ.alike A.1) (g := mkF X.m pc Ls (.ref a :: st)) rfl rfl (by rw [w0.2.1]; exact hd) t ?_) r
  rw [A.size, hz]; subst hp; exact kk
theorem arr_in' {ty : FieldType} (A : ArrC Z c ty vs) {j : Int32} {i : Nat} (hj : ¬ j < 0) (hi : j.toNatClampNeg = i) (hl : i < vs.length) : ¬ (j < 0 ∨ c.slots.size ≤ j.toNatClampNeg) := by
  rw [A.size, hi]; rintro (q | q)
  · exact hj q
  · omega
theorem Go.caload (W : Wk l Z EL R own bytes maxL ret nm X σ ρ T k n) (hm : (a, c) ∈ σ ∨ (a, c) ∈ ρ ∨ Z.heap[a]? = some c) (A : ArrC Z c .char vs) {j : Int32} (i : Nat) {v : Value} (hj : ¬ j < 0) (hi : j.toNatClampNeg = i) (hv : vs[i]? = some v) (hd : decode bytes pc = .ok (.caload, 1)) (hp : pc + 1 = pc')
    (r : Go Z EL K N Q X T pc' Ls (v :: st)) : Go Z EL K N Q X T pc Ls (.int j :: .ref a :: st) := by
  have hc := W.cell hm
  obtain ⟨w0, vm0, k0, locs, Y, hS, hk0, hZ, hown, hFr, H⟩ := W
  exact Go.by (fun t kk => Y.caload w0.1 hc (State.isArrayOf_alike hZ.alike A.1) A.2.1 (arr_in' A hj hi (List.getElem?_eq_some_iff.mp hv).1) (by rw [hi, A.get, hv]) (g := mkF X.m pc Ls (.int j :: .ref a :: st)) rfl rfl (by rw [w0.2.1]; exact hd) t (by subst hp; exact kk)) r
theorem Go.baload (W : Wk l Z EL R own bytes maxL ret nm X σ ρ T k n) (hm : (a, c) ∈ σ ∨ (a, c) ∈ ρ ∨ Z.heap[a]? = some c) (A : ArrC Z c .byte vs) {j : Int32} (i : Nat) {v : Value} (hj : ¬ j < 0) (hi : j.toNatClampNeg = i) (hv : vs[i]? = some v) (hd : decode bytes pc = .ok (.baload, 1)) (hp : pc + 1 = pc')
    (r : Go Z EL K N Q X T pc' Ls (v :: st)) : Go Z EL K N Q X T pc Ls (.int j :: .ref a :: st) := by
  have hc := W.cell hm
  obtain ⟨w0, vm0, k0, locs, Y, hS, hk0, hZ, hown, hFr, H⟩ := W
  exact Go.by (fun t kk => Y.baloadBytes w0.1 hc (State.isArrayOf_alike hZ.alike A.1) A.2.1 (arr_in' A hj hi (List.getElem?_eq_some_iff.mp hv).1) (by rw [hi, A.get, hv]) (g := mkF X.m pc Ls (.int j :: .ref a :: st)) rfl rfl (by rw [w0.2.1]; exact hd) t (by subst hp; exact kk)) r
theorem Go.aaload (W : Wk l Z EL R own bytes maxL ret nm X σ ρ T k n) (hm : (a, c) ∈ σ ∨ (a, c) ∈ ρ ∨ Z.heap[a]? = some c) {ty : FieldType} (A : ArrC Z c ty vs) (hty : ty.isReference = true) {j : Int32} (i : Nat) {v : Value} (hj : ¬ j < 0) (hi : j.toNatClampNeg = i) (hv : vs[i]? = some v) (hd : decode bytes pc = .ok (.aaload, 1)) (hp : pc + 1 = pc')
    (r : Go Z EL K N Q X T pc' Ls (v :: st)) : Go Z EL K N Q X T pc Ls (.int j :: .ref a :: st) := by
  have hc := W.cell hm
  obtain ⟨w0, vm0, k0, locs, Y, hS, hk0, hZ, hown, hFr, H⟩ := W
  exact Go.by (fun t kk => Y.aaload w0.1 hc (State.isArrayOf_alike hZ.alike A.1) hty A.2.1 (arr_in' A hj hi (List.getElem?_eq_some_iff.mp hv).1) (by rw [hi, A.get, hv]) (g := mkF X.m pc Ls (.int j :: .ref a :: st)) rfl rfl (by rw [w0.2.1]; exact hd) t (by subst hp; exact kk)) r
/-- the step of one write: the point behind it -/
theorem Wk.wrote (W : Wk l Z EL R own bytes maxL ret nm X σ ρ T k n) {i : Nat} (hi : σ[i]? = some (a, c)) {vm0 : Vm} {k0 : Nat} {locs : List Loc} {T' : State} {sl : Nat} {v : Value}
    (hS : X.s.Since vm0 k0) (hk0 : k0 ≤ T.heap.size) (hZ : Z.Warmed39 vm0) (hown : vm0.findClass own = some X.m.cls) (hFr : Fr Z.heap.size locs) (H : Hp Z EL X.so X.ro X.s σ ρ vm0 T.heap)
    (Y' : Stand X.p l X.e R (X.s.setVm vm0) X.m X.args X.below X.meth X.c T' (locs ++ [⟨a, sl⟩]) k n) (Wr' : Wr T.heap T'.heap a sl v) : Wk l Z EL R own bytes maxL ret nm X (σ.set i (a, c.setSlot sl v)) ρ T' k n := by
  obtain ⟨cl, h1, -, -, h4⟩ := Wr'
  have hmem : (a, c) ∈ σ := List.mem_of_getElem? hi
  cases (H.2.1 _ hmem).symm.trans h1
  exact ⟨W.1, vm0, k0, _, Y', hS, by rw [h4]; simpa using hk0, hZ, hown, hFr.app fun y hy => by cases List.mem_singleton.mp hy; exact (H.2.2.2.2.1 _ hmem).1, H.write hi h4⟩
theorem Go.castore (W : Wk l Z EL R own bytes maxL ret nm X σ ρ T k n) (ix : Nat) (hm : σ[ix]? = some (a, c)) (A : ArrC Z c .char vs) {j x : Int32} (i : Nat) (x' : Int32) (hx : nar .char x = x') (hj : ¬ j < 0) (hi : j.toNatClampNeg = i) (hl : i < vs.length) (hd : decode bytes pc = .ok (.castore, 1)) (hp : pc + 1 = pc')
    (r : ∀ (T' : State) (c' : Cell), Wk l Z EL R own bytes maxL ret nm X (σ.set ix (a, c')) ρ T' k n → ArrC Z c' .char (vs.set i (.int x')) → Go Z EL K N Q X T' pc' Ls st) : Go Z EL K N Q X T pc Ls (.int x :: .int j :: .ref a :: st) := by
  have hc := W.cell (Or.inl (List.mem_of_getElem? hm))
  have W1 := W
  obtain ⟨w0, vm0, k0, locs, Y, hS, hk0, hZ, hown, hFr, H⟩ := W
  obtain ⟨T', h', Y', e', Wr', stp⟩ := stC Y w0.1 hZ rfl (A.arr hc) (arr_in' A hj hi hl) (g := mkF X.m pc Ls (.int x :: .int j :: .ref a :: st)) rfl rfl (by rw [w0.2.1]; exact hd)
  subst e' hp hi hx
  exact Go.by stp (r T' _ (W1.wrote hm hS hk0 hZ hown hFr H Y' Wr') (A.put (fits_nar_char x)))
theorem Go.bastore (W : Wk l Z EL R own bytes maxL ret nm X σ ρ T k n) (ix : Nat) (hm : σ[ix]? = some (a, c)) (A : ArrC Z c .byte vs) {j x : Int32} (i : Nat) (hj : ¬ j < 0) (hi : j.toNatClampNeg = i) (hl : i < vs.length) (hd : decode bytes pc = .ok (.bastore, 1)) (hp : pc + 1 = pc')
    (r : ∀ (T' : State) (c' : Cell), Wk l Z EL R own bytes maxL ret nm X (σ.set ix (a, c')) ρ T' k n → ArrC Z c' .byte (vs.set i (.int x.toInt8.toInt32)) → Go Z EL K N Q X T' pc' Ls st) : Go Z EL K N Q X T pc Ls (.int x :: .int j :: .ref a :: st) := by
  have hc := W.cell (Or.inl (List.mem_of_getElem? hm))
  have W1 := W
  obtain ⟨w0, vm0, k0, locs, Y, hS, hk0, hZ, hown, hFr, H⟩ := W
  obtain ⟨T', h', Y', e', Wr', stp⟩ := stB Y w0.1 hZ rfl (A.arr hc) (arr_in' A hj hi hl) (g := mkF X.m pc Ls (.int x :: .int j :: .ref a :: st)) rfl rfl (by rw [w0.2.1]; exact hd)
  subst e' hp hi
  exact Go.by stp (r T' _ (W1.wrote hm hS hk0 hZ hown hFr H Y' Wr') (A.put (fits_nar_byte x)))
theorem Go.aastore (W : Wk l Z EL R own bytes maxL ret nm X σ ρ T k n) (ix : Nat) (hm : σ[ix]? = some (a, c)) {ty : FieldType} (A : ArrC Z c ty vs) (hty : ty.isReference = true) {j : Int32} {v : Value} (i : Nat) (hj : ¬ j < 0) (hi : j.toNatClampNeg = i) (hl : i < vs.length) (hf : fits ty v = true) (F : Sto Z T.heap a v) (hd : decode bytes pc = .ok (.aastore, 1)) (hp : pc + 1 = pc')
    (r : ∀ (T' : State) (c' : Cell), Wk l Z EL R own bytes maxL ret nm X (σ.set ix (a, c')) ρ T' k n → ArrC Z c' ty (vs.set i v) → c'.cls = c.cls → Go Z EL K N Q X T' pc' Ls st) : Go Z EL K N Q X T pc Ls (v :: .int j :: .ref a :: st) := by
  have hc := W.cell (Or.inl (List.mem_of_getElem? hm))
  have W1 := W
  obtain ⟨w0, vm0, k0, locs, Y, hS, hk0, hZ, hown, hFr, H⟩ := W
  obtain ⟨T', h', Y', e', Wr', stp⟩ := stR Y w0.1 hZ rfl (A.arr hc) (arr_in' A hj hi hl) hty F (g := mkF X.m pc Ls (v :: .int j :: .ref a :: st)) rfl rfl (by rw [w0.2.1]; exact hd)
  subst e' hp hi
  exact Go.by stp (r T' _ (W1.wrote hm hS hk0 hZ hown hFr H Y' Wr') (A.put hf) rfl)
/-- a step that changes nothing of the heap -/
theorem Wk.same {vm0 : Vm} {k0 : Nat} {locs : List Loc} {T' : State} (W : Wk l Z EL R own bytes maxL ret nm X σ ρ T k n)
    (hS : X.s.Since vm0 k0) (hk0 : k0 ≤ T.heap.size) (hZ : Z.Warmed39 vm0) (hown : vm0.findClass own = some X.m.cls) (hFr : Fr Z.heap.size locs) (H : Hp Z EL X.so X.ro X.s σ ρ vm0 T.heap)
    (Y' : Stand X.p l X.e R (X.s.setVm vm0) X.m X.args X.below X.meth X.c T' locs k n) (e : T'.heap = T.heap) : Wk l Z EL R own bytes maxL ret nm X σ ρ T' k n :=
  ⟨W.1, vm0, k0, locs, Y', hS, by rw [e]; exact hk0, hZ, hown, hFr, by rw [e]; exact H⟩
theorem Go.getfield (W : Wk l Z EL R own bytes maxL ret nm X σ ρ T k n) (hm : (a, c) ∈ σ ∨ (a, c) ∈ ρ ∨ Z.heap[a]? = some c) {R0 O nF d : String} {ix : Nat} {v : Value} (w : (Jvm.Cond.fieldLink own ix R0 nF d).before a0 Z = true) (via : Via Z R0 O nF d) (F : FldC Z c O nF d v) (hd : decode bytes pc = .ok (.getfield ix, 3)) (hp : pc + 3 = pc')
    (r : ∀ T' : State, Wk l Z EL R own bytes maxL ret nm X σ ρ T' k n → Go Z EL K N Q X T' pc' Ls (v :: st)) : Go Z EL K N Q X T pc Ls (.ref a :: st) := by
  have hc := W.cell hm
  have W1 := W
  obtain ⟨w0, vm0, k0, locs, Y, hS, hk0, hZ, hown, hFr, H⟩ := W
  obtain ⟨T', Y', e', stp⟩ := getF Y w0.1 hZ hown (host := "") (Or.inl w) via rfl (F.fld hc) (g := mkF X.m pc Ls (.ref a :: st)) rfl rfl (by rw [w0.2.1]; exact hd)
  subst hp
  exact Go.by stp (r T' (W1.same hS hk0 hZ hown hFr H Y' e'))
theorem Go.getstatic (W : Wk l Z EL R own bytes maxL ret nm X σ ρ T k n) {R0 O nF d : String} {ix : Nat} {v : Value} (w : (Jvm.Cond.fieldLink own ix R0 nF d).before a0 Z = true) (via : Via Z R0 O nF d) (F : Sta Z Z.heap O nF d v) (hd : decode bytes pc = .ok (.getstatic ix, 3)) (hp : pc + 3 = pc')
    (r : ∀ T' : State, Wk l Z EL R own bytes maxL ret nm X σ ρ T' k n → Go Z EL K N Q X T' pc' Ls (v :: st)) : Go Z EL K N Q X T pc Ls st := by
  have hE := W.ext
  have W1 := W
  obtain ⟨w0, vm0, k0, locs, Y, hS, hk0, hZ, hown, hFr, H⟩ := W
  obtain ⟨T', Y', e', stp⟩ := getS Y w0.1 hZ (host := "") hown w via rfl (F.ext hE) (g := mkF X.m pc Ls st) rfl (by rw [w0.2.1]; exact hd)
  subst hp
  exact Go.by stp (r T' (W1.same hS hk0 hZ hown hFr H Y' e'))
theorem Go.putfield (W : Wk l Z EL R own bytes maxL ret nm X σ ρ T k n) (i : Nat) (hm : σ[i]? = some (a, c)) {R0 O nF d C : String} {ix kk : Nat} {ty : FieldType} {v v' old : Value} (w : (Jvm.Cond.fieldLink own ix R0 nF d).before a0 Z = true) (via : Via Z R0 O nF d) (F : FldC Z c O nF d old) (E : ObjC Z c C)
    (L : (Jvm.Cond.lays C O nF d).before a0 Z = true ∨ ((Jvm.Cond.laysFinal C O nF d).before a0 Z = true ∧ own = O ∧ nm = "<init>")) (wi : (Jvm.Cond.instantiable C kk).before a0 Z = true) (hty : parseFieldDescriptor d = some ty) (hn : narrow ty v = v') (hf : fits ty v' = true)
    (hd : decode bytes pc = .ok (.putfield ix, 3)) (hp : pc + 3 = pc')
    (r : ∀ (T' : State) (c' : Cell), c' = c.setSlot (Jvm.RoadKit.slotOf Z O nF d) v' → Wk l Z EL R own bytes maxL ret nm X (σ.set i (a, c')) ρ T' k n → Go Z EL K N Q X T' pc' Ls st) : Go Z EL K N Q X T pc Ls (v :: .ref a :: st) := by
  have hc := W.cell (Or.inl (List.mem_of_getElem? hm))
  have W1 := W
  obtain ⟨w0, vm0, k0, locs, Y, hS, hk0, hZ, hown, hFr, H⟩ := W
  obtain ⟨T', h', Y', e', Wr', stp⟩ := putFN Y w0.1 hZ hown w via rfl (F.fld hc) (E.exa hc) (L.imp id fun q => ⟨q.1, q.2.1, by rw [w0.2.2.2.2.2.1]; exact q.2.2⟩) wi hty hn hf (g := mkF X.m pc Ls (v :: .ref a :: st)) rfl rfl (by rw [w0.2.1]; exact hd)
  subst e' hp
  exact Go.by stp (r T' _ rfl (W1.wrote hm hS hk0 hZ hown hFr H Y' Wr'))
theorem Go.objInit (W : Wk l Z EL R own bytes maxL ret nm X σ ρ T k n) {ix : Nat} (w1 : (Jvm.Cond.methodLink own ix Lib.objectInit).before a0 Z = true) (w2 : (Jvm.Cond.instanceMethod Lib.objectInit).before a0 Z = true) (w3 : (Jvm.Cond.code Lib.objectInit ⟨#[0xb1]⟩ 1 none).before a0 Z = true) (hLs : Ls.size = maxL)
    (hd : decode bytes pc = .ok (.invokespecial ix, 3)) (hp : pc + 3 = pc') (hf : 1 ≤ R.frames) (hl : (st.map fun v => v.category).sum + 12 ≤ R.locals)
    (r : ∀ T' : State, Wk l Z EL R own bytes maxL ret nm X σ ρ T' k n → Go Z EL K N Q X T' pc' Ls st) : Go Z EL K N Q X T pc Ls (.ref a :: st) := by
  have W1 := W
  obtain ⟨w0, vm0, k0, locs, Y, hS, hk0, hZ, hown, hFr, H⟩ := W
  obtain ⟨T', Y', e', stp⟩ := initO Y w0.1 hZ hown w1 w2 w3 rfl (g := mkF X.m pc Ls (.ref a :: st)) rfl (by show Ls.size = _; rw [hLs, w0.2.2.1]) rfl (by rw [w0.2.1]; exact hd) hf (W := (st.map fun v => v.category).sum) (by show 2 * 0 + _ ≤ _; omega) hl
  subst hp
  exact Go.by stp (r T' (W1.same hS hk0 hZ hown hFr H Y' e'))
theorem Go.ldcInt (W : Wk l Z EL R own bytes maxL ret nm X σ ρ T k n) {ix : Nat} {v : Int32} (w : (Jvm.Cond.constant own ix v).before a0 Z = true) (hd : decode bytes pc = .ok (.ldc ix, 2)) (hp : pc + 2 = pc') (r : Go Z EL K N Q X T pc' Ls (.int v :: st)) : Go Z EL K N Q X T pc Ls st := by
  obtain ⟨w0, vm0, k0, locs, Y, hS, hk0, hZ, hown, hFr, H⟩ := W
  exact Go.by (fun t kk => Y.ldcI w0.1 hown (mvT hZ w) (g := mkF X.m pc Ls st) rfl (by rw [w0.2.1]; exact hd) (by subst hp; exact kk)) r
theorem Go.ldcwInt (W : Wk l Z EL R own bytes maxL ret nm X σ ρ T k n) {ix : Nat} {v : Int32} (w : (Jvm.Cond.constant own ix v).before a0 Z = true) (hd : decode bytes pc = .ok (.ldc_w ix, 3)) (hp : pc + 3 = pc') (r : Go Z EL K N Q X T pc' Ls (.int v :: st)) : Go Z EL K N Q X T pc Ls st := by
  obtain ⟨w0, vm0, k0, locs, Y, hS, hk0, hZ, hown, hFr, H⟩ := W
  exact Go.by (fun t kk => Y.ldcWI w0.1 hown (mvT hZ w) (g := mkF X.m pc Ls st) rfl (by rw [w0.2.1]; exact hd) (by subst hp; exact kk)) r
theorem Go.ldc2 (W : Wk l Z EL R own bytes maxL ret nm X σ ρ T k n) {ix : Nat} {v : Int64} (w : (Jvm.Cond.constantLong own ix v).before a0 Z = true) (hd : decode bytes pc = .ok (.ldc2_w ix, 3)) (hp : pc + 3 = pc') (r : Go Z EL K N Q X T pc' Ls (.long v :: st)) : Go Z EL K N Q X T pc Ls st := by
  obtain ⟨w0, vm0, k0, locs, Y, hS, hk0, hZ, hown, hFr, H⟩ := W
  exact Go.by (fun t kk => Y.ldc2J w0.1 hown (mvT hZ w) (g := mkF X.m pc Ls st) rfl (by rw [w0.2.1]; exact hd) (by subst hp; exact kk)) r
/-- a literal that may be made: what it holds -/
theorem Go.ldcStr (W : Wk l Z EL R own bytes maxL ret nm X σ ρ T k n) (hEL : EW Z a0 EL) {text : String} {ix : Nat} (w : (Jvm.Cond.stringLink own ix text).before a0 Z = true) (wS : ∀ d ∈ Bundle.stringAtoms, d.before a0 Z = true) (hmem : (own, ix) ∈ EL)
    {bs : List Value} {z : Int32} (ht : (∀ c ∈ text.toList, c.toNat < 256) ∧ text.toList.map (fun c => Value.int (Jvm.Lit.byteI c.toNat.toUInt16)) = bs) (hz : ¬ z < 0) (hl : z.toNatClampNeg = bs.length) (hbl : bs.length < 2147483648)
    (hd : decode bytes pc = .ok (.ldc ix, 2)) (hp : pc + 2 = pc') {m : Nat} (hm : 4 * text.toList.length ≤ m) (hbig : m ≤ 536870912) (hk : k + 2 ≤ R.cells) (hn : n + (m + 4) ≤ R.slots)
    (r : ∀ (T' : State) (a b : Addr) (c cb : Cell), Wk l Z EL R own bytes maxL ret nm X σ ((a, c) :: (b, cb) :: ρ) T' (k + 2) (n + (m + 4)) → ObjC Z c "java/lang/String" → FldC Z c "java/lang/String" "coder" "B" (.int 0) → FldC Z c "java/lang/String" "value" "[B" (.ref b) → ArrC Z cb .byte bs → Go Z EL K N Q X T' pc' Ls (.ref a :: st)) :
    Go Z EL K N Q X T pc Ls st := by
  obtain ⟨w0, vm0, k0, locs, Y, hS, hk0, hZ, hown, hFr, H⟩ := W
  obtain ⟨a, T', h', k1, b, kc, Y', e', E, hS', hk1, hZ', hown', A1, F1, F2, V1, la, lb, C, -, hne, stp⟩ := ldcCH Y w0.1 hZ hown w wS rfl hS hk0 hEL hmem H.1.1 ht hz hl (g := mkF X.m pc Ls st) rfl (by rw [w0.2.1]; exact hd) hm hbig hk hn
  subst e' hp
  obtain ⟨cb, Ab, -, sz, -, hh, hfit⟩ := V1
  have hcb : T'.heap[b]? = some cb := Ab.1
  obtain ⟨c, hc⟩ : ∃ c, T'.heap[a]? = some c := by obtain ⟨c, _, q, -⟩ := A1; exact ⟨c, q⟩
  have H2 := ((H.later C E).lit hcb fun x q => (hne x q).2).lit hc fun x q => (hne x q).1
  have hlen : cb.slots.size = bs.length := by rw [sz, hl]
  have hsl : cb.slots.toList = bs := by
    apply List.ext_getElem?
    intro i
    by_cases q : i < bs.length
    · have := hh i (by omega)
      rw [Array.getElem?_toList, this, List.getD_eq_getElem?_getD, List.getElem?_eq_getElem q]; rfl
    · rw [Array.getElem?_toList, Array.getElem?_eq_none (by omega), List.getElem?_eq_none (by omega)]
  refine Go.by stp (r T' a b c cb ⟨w0, T'.vm, k1, locs, Y', hS', hk1, hZ', hown', hFr, H2⟩ (ObjC.of A1 hc) (FldC.of F1 hc) (FldC.of F2 hc) ⟨Ab.2.1, Ab.2.2, hsl, fun v hv => ?_, hbl⟩)
  obtain ⟨i, hi⟩ := List.mem_iff_getElem?.mp hv
  have hlt := (List.getElem?_eq_some_iff.mp hi).1
  have q := hfit i (by omega)
  rw [List.getD_eq_getElem?_getD, hi] at q
  exact q
end HeapLaws
/-! ## own: calls and returns in the Go form -/
section CallLaws
variable {l : Launch} {Z : State} {a0 : Array Value} {EL : List (String × Nat)} {R : Room} {own : String} {bytes : ByteArray} {maxL : Nat} {ret : Option FieldType} {nm : String} {X : Ctx} {σ ρ : HL} {T : State} {k n K N : Nat} {Q Q' : Option Value → HL → HL → Prop} {pc pc' : Nat} {Ls : Array Slot} {st rest : List Value} {a : Addr} {c : Cell}
  {y y' : MethodName} {by' : ByteArray} {mL : Nat} {rt : Option FieldType} {rm : Room} {as' : Array Value} {σi σf ρi : HL}
/-- the point behind a call -/
theorem Wk.called (W : Wk l Z EL R own bytes maxL ret nm X σ ρ T k n) {vm0 : Vm} {k0 : Nat} {locs L : List Loc} (hS : X.s.Since vm0 k0) (hk0 : k0 ≤ T.heap.size) (hZ : Z.Warmed39 vm0) (hown : vm0.findClass own = some X.m.cls) (hFr : Fr Z.heap.size locs) (B : Pt) {σ' ρ' : HL}
    (Y' : Stand X.p l X.e R ((X.s.setVm vm0).setVm B.U.vm) X.m X.args X.below X.meth X.c B.U B.locs B.cells B.slots) (hS2 : (X.s.setVm vm0).Since B.U.vm B.U.heap.size) (g : T.heap.size ≤ B.U.heap.size) (hL : Fr Z.heap.size L) (H : Hp Z EL X.so X.ro X.s σ' ρ' B.U.vm B.U.heap)
    (e1 : B.locs = locs ++ L) (e2 : B.cells = k + rm.cells) (e3 : B.slots = n + rm.slots) : Wk l Z EL R own bytes maxL ret nm X σ' ρ' B.U (k + rm.cells) (n + rm.slots) := by
  obtain ⟨U, Lo, c1, s1⟩ := B
  dsimp only [Pt.U, Pt.locs, Pt.cells, Pt.slots] at *
  subst e1 e2 e3
  exact ⟨W.1, U.vm, U.heap.size, _, Y', hS.trans hS2 (Nat.le_trans hk0 g), Nat.le_refl _, State.Warmed39.trans (t := X.s.setVm vm0) hZ hS2.1, by rw [hS2.1.alike.findClass]; exact hown, hFr.app hL, H⟩
theorem Go.static (W : Wk l Z EL R own bytes maxL ret nm X σ ρ T k n) {ix : Nat} (M : Met l Z EL y by' mL rt rm as' σi ρi Q') (w1 : (Jvm.Cond.methodLink own ix y).before a0 Z = true) (w2 : (Jvm.Cond.static y).before a0 Z = true) (w3 : (Jvm.Cond.initialized y.cls).before a0 Z = true) (w4 : (Jvm.Cond.code y by' mL rt).before a0 Z = true)
    (hy : y.cls ≠ "java/lang/invoke/MethodHandle" ∧ y.cls ≠ "java/lang/invoke/VarHandle") (is js : List Nat) (hσ : pick is σ = some (σi, σf)) (hρ : roOf js ρ ρi) (argsL : List Value) (rest : List Value) (has : argsL.toArray = as') (hlen : ∀ sig, parseMethodDescriptor y.desc = some sig → argsL.length = sig.parameters.length) (hst : st = argsL.reverse ++ rest)
    (hLs : Ls.size = maxL) (hd : decode bytes pc = .ok (.invokestatic ix, 3)) (hp : pc + 3 = pc') (hf : rm.frames + 1 ≤ R.frames) (hl : (rest.map fun v => v.category).sum + (mL + 11) + rm.locals ≤ R.locals) (hk : k + rm.cells ≤ R.cells) (hn : n + rm.slots ≤ R.slots)
    (r : ∀ (v : Option Value) (σ' ρ' : HL) (T' : State), Q' v σ' ρ' → Wk l Z EL R own bytes maxL ret nm X (σ' ++ σf) (ρ' ++ ρ) T' (k + rm.cells) (n + rm.slots) → Go Z EL K N Q X T' pc' Ls (v.toList ++ rest)) : Go Z EL K N Q X T pc Ls st := by
  have W1 := W
  obtain ⟨w0, vm0, k0, locs, Y, hS, hk0, hZ, hown, hFr, H⟩ := W
  obtain ⟨ae, hEL⟩ := w0.2.2.2.2.2.2
  subst has hst
  have B1 := M.back (R := R) (p := X.p) (e := X.e) (below := X.below) (args := X.args) (len := 3) (W := (rest.map fun v => v.category).sum) hZ w4 w3 hf hl hEL (H.perm (pick_perm _ _ _ _ hσ)) hρ.mem
  obtain ⟨v, vm1, B, -, Y', hS2, g, ⟨σ', ρ', L, q, hL, H', e1, e2, e3⟩, stp⟩ := callSS Y w0.1 hown (mvT hZ w1) (mvT hZ w2) (mvT hZ w3) (mvT hZ w4) hy B1 (g := mkF X.m pc Ls (argsL.reverse ++ rest)) rfl (by show Ls.size = _; rw [hLs, w0.2.2.1]) (argsL := argsL) (rest := rest) hlen rfl (by show 2 * 0 + _ ≤ _; omega) (by rw [w0.2.1]; exact hd) (fun _ _ => ⟨rfl, rfl, hk, hn⟩)
  subst hp
  exact Go.by (fun t kk => stp.trans kk) (r v σ' ρ' B.U q (W1.called hS hk0 hZ hown hFr B Y' hS2 g hL H' e1 e2 e3))
theorem Go.special (W : Wk l Z EL R own bytes maxL ret nm X σ ρ T k n) {ix : Nat} (M : Met l Z EL y by' mL none rm as' σi ρi Q') (hy1 : y.name = "<init>") (w1 : (Jvm.Cond.methodLink own ix y).before a0 Z = true) (w2 : (Jvm.Cond.instanceMethod y).before a0 Z = true) (w3 : (Jvm.Cond.initialized y.cls).before a0 Z = true) (w4 : (Jvm.Cond.code y by' mL none).before a0 Z = true)
    (hy : y.cls ≠ "java/lang/invoke/MethodHandle" ∧ y.cls ≠ "java/lang/invoke/VarHandle") (is js : List Nat) (hσ : pick is σ = some (σi, σf)) (hρ : roOf js ρ ρi) (argsL : List Value) (rest : List Value) (has : (.ref a :: argsL).toArray = as') (hlen : ∀ sig, parseMethodDescriptor y.desc = some sig → argsL.length = sig.parameters.length) (hst : st = argsL.reverse ++ .ref a :: rest)
    (hLs : Ls.size = maxL) (hd : decode bytes pc = .ok (.invokespecial ix, 3)) (hp : pc + 3 = pc') (hf : rm.frames + 1 ≤ R.frames) (hl : (rest.map fun v => v.category).sum + (mL + 11) + rm.locals ≤ R.locals) (hk : k + rm.cells ≤ R.cells) (hn : n + rm.slots ≤ R.slots)
    (r : ∀ (v : Option Value) (σ' ρ' : HL) (T' : State), Q' v σ' ρ' → Wk l Z EL R own bytes maxL ret nm X (σ' ++ σf) (ρ' ++ ρ) T' (k + rm.cells) (n + rm.slots) → Go Z EL K N Q X T' pc' Ls (v.toList ++ rest)) : Go Z EL K N Q X T pc Ls st := by
  have W1 := W
  obtain ⟨w0, vm0, k0, locs, Y, hS, hk0, hZ, hown, hFr, H⟩ := W
  obtain ⟨ae, hEL⟩ := w0.2.2.2.2.2.2
  subst has hst
  have B1 := M.back (R := R) (p := X.p) (e := X.e) (below := X.below) (args := X.args) (len := 3) (W := (rest.map fun v => v.category).sum) hZ w4 w3 hf hl hEL (H.perm (pick_perm _ _ _ _ hσ)) hρ.mem
  obtain ⟨v, vm1, B, -, Y', hS2, g, ⟨σ', ρ', L, q, hL, H', e1, e2, e3⟩, stp⟩ := Y.specialBackS w0.1 hy1 hown (mvT hZ w1) (mvT hZ w2) (mvT hZ w4) hy B1 (g := mkF X.m pc Ls (argsL.reverse ++ .ref a :: rest)) rfl (by show Ls.size = _; rw [hLs, w0.2.2.1]) (Steps.refl _) (a := a) (argsL := argsL) (rest := rest) hlen rfl (by show 2 * 0 + _ ≤ _; omega) (by rw [w0.2.1]; exact hd) (fun _ _ => ⟨rfl, rfl, hk, hn⟩)
  subst hp
  exact Go.by (fun t kk => stp.trans kk) (r v σ' ρ' B.U q (W1.called hS hk0 hZ hown hFr B Y' hS2 g hL H' e1 e2 e3))
theorem Go.virtual (W : Wk l Z EL R own bytes maxL ret nm X σ ρ T k n) {ix : Nat} {C : String} (M : Met l Z EL y by' mL rt rm as' σi ρi Q') (hm : (a, c) ∈ σ ∨ (a, c) ∈ ρ ∨ Z.heap[a]? = some c) (O : ObjC Z c C) (w1 : (Jvm.Cond.methodLink own ix y).before a0 Z = true) (wd : (Jvm.Cond.declares y).before a0 Z = true) (ws : (Jvm.Cond.selects C y y).before a0 Z = true) (w2 : (Jvm.Cond.instanceMethod y).before a0 Z = true) (w3 : (Jvm.Cond.initialized y.cls).before a0 Z = true) (w4 : (Jvm.Cond.code y by' mL rt).before a0 Z = true)
    (hy : y.cls ≠ "java/lang/invoke/MethodHandle" ∧ y.cls ≠ "java/lang/invoke/VarHandle") (is js : List Nat) (hσ : pick is σ = some (σi, σf)) (hρ : roOf js ρ ρi) (argsL : List Value) (rest : List Value) (has : (.ref a :: argsL).toArray = as') (hlen : ∀ sig, parseMethodDescriptor y.desc = some sig → argsL.length = sig.parameters.length) (hst : st = argsL.reverse ++ .ref a :: rest)
    (hLs : Ls.size = maxL) (hd : decode bytes pc = .ok (.invokevirtual ix, 3)) (hp : pc + 3 = pc') (hf : rm.frames + 1 ≤ R.frames) (hl : (rest.map fun v => v.category).sum + (mL + 11) + rm.locals ≤ R.locals) (hk : k + rm.cells ≤ R.cells) (hn : n + rm.slots ≤ R.slots)
    (r : ∀ (v : Option Value) (σ' ρ' : HL) (T' : State), Q' v σ' ρ' → Wk l Z EL R own bytes maxL ret nm X (σ' ++ σf) (ρ' ++ ρ) T' (k + rm.cells) (n + rm.slots) → Go Z EL K N Q X T' pc' Ls (v.toList ++ rest)) : Go Z EL K N Q X T pc Ls st := by
  have W1 := W
  have hc := W.cell hm
  obtain ⟨w0, vm0, k0, locs, Y, hS, hk0, hZ, hown, hFr, H⟩ := W
  obtain ⟨ae, hEL⟩ := w0.2.2.2.2.2.2
  subst has hst
  have B1 := M.back (R := R) (p := X.p) (e := X.e) (below := X.below) (args := X.args) (len := 3) (W := (rest.map fun v => v.category).sum) hZ w4 w3 hf hl hEL (H.perm (pick_perm _ _ _ _ hσ)) hρ.mem
  obtain ⟨cq, kq, qa, qb, qc⟩ := isOf (s := X.s.setVm vm0) hZ rfl (O.exa hc)
  obtain ⟨v, vm1, B, -, Y', hS2, g, ⟨σ', ρ', L, q, hL, H', e1, e2, e3⟩, stp⟩ := Y.virtualBackS w0.1 hown (mvT hZ w1) (mvT hZ wd) (notFace_of_selects (args := #[]) (mvT hZ ws)) (mvT hZ ws) (mvT hZ w2) hy B1 qa qc (g := mkF X.m pc Ls (argsL.reverse ++ .ref a :: rest)) rfl (by show Ls.size = _; rw [hLs, w0.2.2.1]) (Steps.refl _) (argsL := argsL) (rest := rest) hlen rfl (by show 2 * 0 + _ ≤ _; omega) (by rw [w0.2.1]; exact hd) (fun _ _ => ⟨rfl, rfl, hk, hn⟩)
  subst hp
  exact Go.by (fun t kk => stp.trans kk) (r v σ' ρ' B.U q (W1.called hS hk0 hZ hown hFr B Y' hS2 g hL H' e1 e2 e3))
/-! returns -/
theorem Go.leave (W : Wk l Z EL R own bytes maxL ret nm X σ ρ T k n) (v : Option Value) (hv : ret = none → v = none) (hk : k ≤ K) (hn : n ≤ N) (q : Q v σ ρ)
    (hstep : ∀ (fs : List Frame) (vm0 : Vm) (locs : List Loc), Stand X.p l X.e R (X.s.setVm vm0) X.m X.args X.below X.meth X.c T locs K N → (∀ (f : JFrame) (acts : List Action), f.method = X.m → f.locked = none → f.entered = [] → (doReturn X.e (T.setTop f) acts v).1 = T.setFrames fs) → Steps X.p.tables X.e X.below (T.setTop (mkF X.m pc Ls st)) (T.setFrames fs)) :
    Go Z EL K N Q X T pc Ls st := by
  obtain ⟨w0, vm0, k0, locs, Y, hS, hk0, hZ, hown, hFr, H⟩ := W
  obtain ⟨ae, hEL⟩ := w0.2.2.2.2.2.2
  have Y2 := Y.more hk hn
  obtain ⟨fs, h1, h2, h3, h4⟩ := Y2.leaveW hS hk0 (v := v) (fun h => hv (by rw [← w0.2.2.2.1]; exact h)) w0.2.2.2.2.1
  have H2 : Hp Z EL X.so X.ro X.s σ ρ T.vm T.heap := H.later (CHv.at Y hZ hEL H.1.1) ⟨Nat.le_refl _, fun _ _ z => z⟩
  exact ⟨T.setFrames fs, _, hstep fs vm0 locs Y2 h1, h2, h3, v, σ, ρ, locs, rfl, q, hFr, H2, h4⟩
theorem Go.retV (W : Wk l Z EL R own bytes maxL none nm X σ ρ T k n) (hd : decode bytes pc = .ok (.return_, 1)) (hk : k ≤ K) (hn : n ≤ N) (q : Q none σ ρ) : Go Z EL K N Q X T pc Ls [] := by
  refine Go.leave W none (fun _ => rfl) hk hn q fun fs vm0 locs Y h => ?_
  exact Y.returnOut W.hx W.1.2.2.2.1 (W.hb hd) h
theorem Go.iret (W : Wk l Z EL R own bytes maxL (some .int) nm X σ ρ T k n) {z : Int32} (hd : decode bytes pc = .ok (.ireturn, 1)) (hk : k ≤ K) (hn : n ≤ N) (q : Q (some (.int z)) σ ρ) : Go Z EL K N Q X T pc Ls (.int z :: st) := by
  refine Go.leave W (some (.int z)) (fun h => nomatch h) hk hn q fun fs vm0 locs Y h => ?_
  exact retOut Y W.hx W.1.2.2.2.1 rfl (Or.inl ⟨rfl, Or.inl rfl, z, rfl⟩) (W.hb hd) h
theorem Go.nret (W : Wk l Z EL R own bytes maxL (some t) nm X σ ρ T k n) {z z' : Int32} (ht : t = .boolean ∨ t = .byte ∨ t = .char ∨ t = .short) (hz : nar t z = z') (hd : decode bytes pc = .ok (.ireturn, 1)) (hk : k ≤ K) (hn : n ≤ N) (q : Q (some (.int z')) σ ρ) : Go Z EL K N Q X T pc Ls (.int z :: st) := by
  subst hz
  refine Go.leave W (some (.int (nar t z))) (fun h => nomatch h) hk hn q fun fs vm0 locs Y h => ?_
  exact retN Y W.hx W.1.2.2.2.1 ht (W.hb hd) h
theorem Go.lret (W : Wk l Z EL R own bytes maxL (some .long) nm X σ ρ T k n) {z : Int64} (hd : decode bytes pc = .ok (.lreturn, 1)) (hk : k ≤ K) (hn : n ≤ N) (q : Q (some (.long z)) σ ρ) : Go Z EL K N Q X T pc Ls (.long z :: st) := by
  refine Go.leave W (some (.long z)) (fun h => nomatch h) hk hn q fun fs vm0 locs Y h => ?_
  exact retOut Y W.hx W.1.2.2.2.1 rfl (Or.inr (Or.inl ⟨rfl, rfl, z, rfl⟩)) (W.hb hd) h
theorem narrow_ref {t : FieldType} (ht : t.isReference = true) (w : Value) : narrow t w = w := by cases t <;> first | (cases ht; done) | rfl
theorem Go.aret (W : Wk l Z EL R own bytes maxL (some t) nm X σ ρ T k n) {w : Value} (hw : w.isRef = true) (ht : t.isReference = true) (hd : decode bytes pc = .ok (.areturn, 1)) (hk : k ≤ K) (hn : n ≤ N) (q : Q (some w) σ ρ) : Go Z EL K N Q X T pc Ls (w :: st) := by
  refine Go.leave W (some w) (fun h => nomatch h) hk hn q fun fs vm0 locs Y h => ?_
  exact retOut Y W.hx W.1.2.2.2.1 (narrow_ref ht w) (Or.inr (Or.inr (Or.inr (Or.inr ⟨rfl, ht, hw⟩)))) (W.hb hd) h
end CallLaws
/-! ## own: numbers and lists for the loops over arrays -/
theorem i32_toInt {i : Nat} (hi : i < 2147483648) : i.toInt32.toInt = (i : Int) := by
  rw [show i.toInt32 = Int32.ofNat i from rfl, Int32.toInt_ofNat_of_lt (by omega)]
theorem i32_lt {i n : Nat} (hi : i < 2147483648) (hn : n < 2147483648) : i.toInt32 < n.toInt32 ↔ i < n := by
  rw [Int32.lt_iff_toInt_lt, i32_toInt hi, i32_toInt hn]; omega
theorem i32_nn {i : Nat} (hi : i < 2147483648) : ¬ i.toInt32 < 0 := by
  rw [Int32.lt_iff_toInt_lt, i32_toInt hi]
  have : (0 : Int32).toInt = 0 := by decide
  omega
theorem i32_clamp {i : Nat} (hi : i < 2147483648) : i.toInt32.toNatClampNeg = i := by
  have h := nat_of (i32_nn hi)
  rw [i32_toInt hi] at h
  omega
theorem i32_succ {i : Nat} (hi : i + 1 < 2147483648) : i.toInt32 + 1 = (i + 1).toInt32 := by
  apply Int32.toInt_inj.mp
  have h := c_iadd i.toInt32 1
  rw [i32_toInt (by omega)] at h
  rw [i32_toInt hi]
  have h1 : (1 : Int32).toInt = 1 := by decide
  rw [h1] at h
  have r := rng32 (i.toInt32 + 1)
  omega
theorem i32_inj {i n : Nat} (hi : i < 2147483648) (hn : n < 2147483648) : i.toInt32 = n.toInt32 ↔ i = n := by
  constructor
  · intro h
    have := congrArg Int32.toInt h
    rw [i32_toInt hi, i32_toInt hn] at this
    omega
  · intro h; rw [h]
/-- a char's low byte, as a byte[] holds it -/
abbrev lo8 (x : Int32) : Value := .int x.toInt8.toInt32
abbrev latB (cs : List Int32) : List Value := cs.map lo8
abbrev chV (cs : List Int32) : List Value := cs.map Value.int
/-- each is a Latin-1 char -/
def Lat (cs : List Int32) : Prop := ∀ x ∈ cs, ¬ x < 0 ∧ ¬ (255 : Int32) < x
theorem Lat.nil : Lat [] := fun _ h => nomatch h
theorem Lat.cons {x : Int32} {cs : List Int32} (h : ¬ x < 0 ∧ ¬ (255 : Int32) < x) (r : Lat cs) : Lat (x :: cs) := fun y hy => by
  rcases List.mem_cons.mp hy with rfl | hy
  · exact h
  · exact r y hy
/-- a Latin-1 String's two cells -/
def StrL (Z : State) (c : Cell) (b : Addr) (cb : Cell) (cs : List Int32) : Prop :=
  ObjC Z c "java/lang/String" ∧ FldC Z c "java/lang/String" "coder" "B" (.int 0) ∧ FldC Z c "java/lang/String" "value" "[B" (.ref b) ∧ ArrC Z cb .byte (latB cs) ∧ Lat cs
theorem take_succ' {α : Type} {l : List α} {i : Nat} {x : α} (h : l[i]? = some x) : l.take (i + 1) = l.take i ++ [x] := by
  rw [List.take_add_one, h]; rfl
theorem set_next {cs : List Int32} {i j : Nat} {x : Int32} (hx : cs[i]? = some x) : (latB (cs.take i) ++ List.replicate (j + 1) (.int 0 : Value)).set i (lo8 x) = latB (cs.take (i + 1)) ++ List.replicate j (.int 0) := by
  have hi : i < cs.length := (List.getElem?_eq_some_iff.mp hx).1
  have hl : (latB (cs.take i)).length = i := by simp; omega
  rw [List.set_append_right _ _ (by omega), hl, Nat.sub_self, List.replicate_succ, List.set_cons_zero, take_succ' hx]
  simp [latB]
theorem and255 (x : Int32) : ¬ (x &&& 255) < 0 ∧ ¬ (255 : Int32) < (x &&& 255) := by
  have h := c_and x 255 (by decide)
  have h0 : (0 : Int32).toInt = 0 := by decide
  have h1 : (255 : Int32).toInt = 255 := by decide
  rw [Int32.lt_iff_toInt_lt, Int32.lt_iff_toInt_lt, h0]
  rw [h1] at h ⊢
  omega
/-- a char stays a char -/
theorem i2c_id {x : Int32} (h0 : ¬ x < 0) (h1 : ¬ (65535 : Int32) < x) : x.toUInt32.toUInt16.toUInt32.toInt32 = x := by
  apply Int32.toInt_inj.mp
  have h := c_i2c x
  rw [Int32.lt_iff_toInt_lt] at h0 h1
  have e0 : (0 : Int32).toInt = 0 := by decide
  have e1 : (65535 : Int32).toInt = 65535 := by decide
  rw [e0] at h0
  rw [e1] at h1
  omega
theorem lat_char {x : Int32} (h : ¬ x < 0 ∧ ¬ (255 : Int32) < x) : ¬ x < 0 ∧ ¬ (65535 : Int32) < x := by
  obtain ⟨h0, h1⟩ := h
  refine ⟨h0, ?_⟩
  rw [Int32.lt_iff_toInt_lt] at h1 ⊢
  have e0 : (255 : Int32).toInt = 255 := by decide
  have e1 : (65535 : Int32).toInt = 65535 := by decide
  rw [e0] at h1
  rw [e1]
  omega
theorem nar_char_id {x : Int32} (h : ¬ x < 0 ∧ ¬ (65535 : Int32) < x) : nar .char x = x := i2c_id h.1 h.2
/-- a byte read back with & 255 -/
theorem byte_back {x : Int32} (h : ¬ x < 0 ∧ ¬ (255 : Int32) < x) : x.toInt8.toInt32 &&& 255 = x := by
  apply Int32.toInt_inj.mp
  rw [c_mask _ 255 8 (by decide) (by decide)]
  have hb := c_i2b x
  obtain ⟨h0, h1⟩ := h
  rw [Int32.lt_iff_toInt_lt] at h0 h1
  have e0 : (0 : Int32).toInt = 0 := by decide
  have e1 : (255 : Int32).toInt = 255 := by decide
  rw [e0] at h0
  rw [e1] at h1
  omega
theorem lo8_inj {x y : Int32} (hx : ¬ x < 0 ∧ ¬ (255 : Int32) < x) (hy : ¬ y < 0 ∧ ¬ (255 : Int32) < y) (h : x.toInt8.toInt32 = y.toInt8.toInt32) : x = y := by
  rw [← byte_back hx, ← byte_back hy, h]
theorem i8_i8 (x : Int32) : x.toInt8.toInt32.toInt8.toInt32 = x.toInt8.toInt32 := by
  apply Int32.toInt_inj.mp
  have h1 := c_i2b x
  have h2 := c_i2b x.toInt8.toInt32
  omega
theorem andchr (x m : Int32) (h0 : 0 ≤ m.toInt) (h1 : m.toInt ≤ 65535) : ¬ (x &&& m) < 0 ∧ ¬ (65535 : Int32) < (x &&& m) := by
  have h := c_and x m h0
  have e0 : (0 : Int32).toInt = 0 := by decide
  have e1 : (65535 : Int32).toInt = 65535 := by decide
  rw [Int32.lt_iff_toInt_lt, Int32.lt_iff_toInt_lt, e0, e1]
  omega
theorem ite10_z {P : Prop} [Decidable P] : ((if P then (1 : Int32) else 0) = 0) ↔ ¬ P := by by_cases h : P <;> simp [h]
theorem ite10_o {P : Prop} [Decidable P] : ((if P then (1 : Int32) else 0) = 1) ↔ P := by by_cases h : P <;> simp [h]
theorem ite01_z {P : Prop} [Decidable P] : ((if P then (0 : Int32) else 1) = 0) ↔ P := by by_cases h : P <;> simp [h]
theorem ite01_o {P : Prop} [Decidable P] : ((if P then (0 : Int32) else 1) = 1) ↔ ¬ P := by by_cases h : P <;> simp [h]
/-! ## own: casts and comparisons of references in the Go form -/
section RefLaws
variable {l : Launch} {Z : State} {a0 : Array Value} {EL : List (String × Nat)} {R : Room} {own : String} {bytes : ByteArray} {maxL : Nat} {ret : Option FieldType} {nm : String} {X : Ctx} {σ ρ : HL} {T : State} {k n K N : Nat} {Q : Option Value → HL → HL → Prop} {pc pc' : Nat} {Ls : Array Slot} {st : List Value} {a : Addr} {c : Cell}
theorem Go.instY (W : Wk l Z EL R own bytes maxL ret nm X σ ρ T k n) (hm : (a, c) ∈ σ ∨ (a, c) ∈ ρ ∨ Z.heap[a]? = some c) {C : String} {ix : Nat} (O : ObjC Z c C) (w : (Jvm.Cond.classLink own ix C).before a0 Z = true) (hd : decode bytes pc = .ok (.instanceof ix, 3)) (hp : pc + 3 = pc')
    (r : ∀ T' : State, Wk l Z EL R own bytes maxL ret nm X σ ρ T' k n → Go Z EL K N Q X T' pc' Ls (.int 1 :: st)) : Go Z EL K N Q X T pc Ls (.ref a :: st) := by
  have hc := W.cell hm
  have W1 := W
  obtain ⟨w0, vm0, k0, locs, Y, hS, hk0, hZ, hown, hFr, H⟩ := W
  obtain ⟨T', Y', e', stp⟩ := Jvm.RoadKit.instY Y w0.1 hZ hown w rfl (Ins.self (O.exa hc)) (g := mkF X.m pc Ls (.ref a :: st)) rfl rfl (by rw [w0.2.1]; exact hd)
  subst hp
  exact Go.by stp (r T' (W1.same hS hk0 hZ hown hFr H Y' e'))
theorem Go.castY (W : Wk l Z EL R own bytes maxL ret nm X σ ρ T k n) (hm : (a, c) ∈ σ ∨ (a, c) ∈ ρ ∨ Z.heap[a]? = some c) {C : String} {ix : Nat} (O : ObjC Z c C) (w : (Jvm.Cond.classLink own ix C).before a0 Z = true) (hd : decode bytes pc = .ok (.checkcast ix, 3)) (hp : pc + 3 = pc')
    (r : ∀ T' : State, Wk l Z EL R own bytes maxL ret nm X σ ρ T' k n → Go Z EL K N Q X T' pc' Ls (.ref a :: st)) : Go Z EL K N Q X T pc Ls (.ref a :: st) := by
  have hc := W.cell hm
  have W1 := W
  obtain ⟨w0, vm0, k0, locs, Y, hS, hk0, hZ, hown, hFr, H⟩ := W
  obtain ⟨T', Y', e', stp⟩ := Jvm.RoadKit.castY Y w0.1 hZ hown w rfl (Ins.self (O.exa hc)) (g := mkF X.m pc Ls (.ref a :: st)) rfl rfl (by rw [w0.2.1]; exact hd)
  subst hp
  exact Go.by stp (r T' (W1.same hS hk0 hZ hown hFr H Y' e'))
theorem Go.acmp_ne (W : Wk l Z EL R own bytes maxL ret nm X σ ρ T k n) {x y : Value} {o : Int} (pcY : Nat) (h1 : x.isRef = true) (h2 : y.isRef = true) (hd : decode bytes pc = .ok (.if_acmp .ne o, 3)) (hy : (pc : Int) + o = (pcY : Nat)) (hp : pc + 3 = pc')
    (rY : ¬ x = y → Go Z EL K N Q X T pcY Ls st) (rN : x = y → Go Z EL K N Q X T pc' Ls st) : Go Z EL K N Q X T pc Ls (y :: x :: st) := by
  obtain ⟨w0, vm0, k0, locs, Y, hS, hk0, hZ, hown, hFr, H⟩ := W
  by_cases q : x = y
  · exact Go.by (fun t kk => acmp Y w0.1 (g := mkF X.m pc Ls (y :: x :: st)) rfl h1 h2 (pc0 := pc) (pc' := pc') (same := true) rfl (by rw [w0.2.1]; exact hd) rfl (by simp [q]) (by omega) (by subst hp; rfl) kk) (rN q)
  · exact Go.by (fun t kk => acmp Y w0.1 (g := mkF X.m pc Ls (y :: x :: st)) rfl h1 h2 (pc0 := pc) (pc' := pcY) (same := false) rfl (by rw [w0.2.1]; exact hd) rfl (by simp [q]) (by omega) (by simp [acV]; omega) kk) (rY q)
theorem Go.acmp_eq (W : Wk l Z EL R own bytes maxL ret nm X σ ρ T k n) {x y : Value} {o : Int} (pcY : Nat) (h1 : x.isRef = true) (h2 : y.isRef = true) (hd : decode bytes pc = .ok (.if_acmp .eq o, 3)) (hy : (pc : Int) + o = (pcY : Nat)) (hp : pc + 3 = pc')
    (rY : x = y → Go Z EL K N Q X T pcY Ls st) (rN : ¬ x = y → Go Z EL K N Q X T pc' Ls st) : Go Z EL K N Q X T pc Ls (y :: x :: st) := by
  obtain ⟨w0, vm0, k0, locs, Y, hS, hk0, hZ, hown, hFr, H⟩ := W
  by_cases q : x = y
  · exact Go.by (fun t kk => acmp Y w0.1 (g := mkF X.m pc Ls (y :: x :: st)) rfl h1 h2 (pc0 := pc) (pc' := pcY) (same := true) rfl (by rw [w0.2.1]; exact hd) rfl (by simp [q]) (by omega) (by simp [acV]; omega) kk) (rY q)
  · exact Go.by (fun t kk => acmp Y w0.1 (g := mkF X.m pc Ls (y :: x :: st)) rfl h1 h2 (pc0 := pc) (pc' := pc') (same := false) rfl (by rw [w0.2.1]; exact hd) rfl (by simp [q]) (by omega) (by subst hp; rfl) kk) (rN q)
theorem Go.instNull (W : Wk l Z EL R own bytes maxL ret nm X σ ρ T k n) {ix : Nat} (hd : decode bytes pc = .ok (.instanceof ix, 3)) (hp : pc + 3 = pc') (r : Go Z EL K N Q X T pc' Ls (.int 0 :: st)) : Go Z EL K N Q X T pc Ls (.null :: st) := by
  obtain ⟨w0, vm0, k0, locs, Y, hS, hk0, hZ, hown, hFr, H⟩ := W
  exact Go.by (fun t kk => Y.instanceofNull w0.1 (g := mkF X.m pc Ls (.null :: st)) rfl rfl (by rw [w0.2.1]; exact hd) t (by subst hp; exact kk)) r
theorem Go.castNull (W : Wk l Z EL R own bytes maxL ret nm X σ ρ T k n) {ix : Nat} (hd : decode bytes pc = .ok (.checkcast ix, 3)) (hp : pc + 3 = pc') (r : Go Z EL K N Q X T pc' Ls (.null :: st)) : Go Z EL K N Q X T pc Ls (.null :: st) := by
  obtain ⟨w0, vm0, k0, locs, Y, hS, hk0, hZ, hown, hFr, H⟩ := W
  exact Go.by (fun t kk => Y.checkcastNull w0.1 (g := mkF X.m pc Ls (.null :: st)) rfl rfl (by rw [w0.2.1]; exact hd) t (by subst hp; exact kk)) r
end RefLaws
/-! ## own: two Strings at one address -/
theorem FldC.uniq {Z : State} {c : Cell} {C n d : String} {v w : Value} (F : FldC Z c C n d v) (F' : FldC Z c C n d w) : v = w := by
  obtain ⟨cf, k, i, f, h1, -, -, -, -, h6⟩ := F
  obtain ⟨cf', k', i', f', g1, -, -, -, -, g6⟩ := F'
  cases h1.symm.trans g1
  exact Option.some.inj (h6.symm.trans g6)
theorem latB_inj {cs ds : List Int32} (hc : Lat cs) (hd : Lat ds) (h : cs.map (fun x => x.toInt8.toInt32) = ds.map (fun x => x.toInt8.toInt32)) : cs = ds := by
  induction cs generalizing ds with
  | nil => cases ds with
    | nil => rfl
    | cons y ds => simp at h
  | cons x cs ih => cases ds with
    | nil => simp at h
    | cons y ds =>
      simp only [List.map_cons, List.cons.injEq] at h
      rw [lo8_inj (hc x (by simp)) (hd y (by simp)) h.1, ih (fun z hz => hc z (by simp [hz])) (fun z hz => hd z (by simp [hz])) h.2]
theorem latB_eq (cs : List Int32) : latB cs = chV (cs.map fun x => x.toInt8.toInt32) := by simp [latB, chV, lo8]
theorem chV_inj {xs ys : List Int32} (h : chV xs = chV ys) : xs = ys := by
  induction xs generalizing ys with
  | nil => cases ys with
    | nil => rfl
    | cons y ys => simp at h
  | cons x xs ih => cases ys with
    | nil => simp at h
    | cons y ys =>
      simp only [chV, List.map_cons, List.cons.injEq, Value.int.injEq] at h
      rw [h.1, ih h.2]
theorem StrL.uniq {Z : State} {h : Heap} {a b b' : Addr} {c c' cb cb' : Cell} {cs ds : List Int32} (S : StrL Z c b cb cs) (S' : StrL Z c' b' cb' ds) (h1 : h[a]? = some c) (h2 : h[a]? = some c') (h3 : h[b]? = some cb) (h4 : h[b']? = some cb') : cs = ds := by
  cases h1.symm.trans h2
  have e : b = b' := Value.ref.inj (S.2.2.1.uniq S'.2.2.1)
  subst e
  cases h3.symm.trans h4
  have q : latB cs = latB ds := S.2.2.2.1.2.2.1.symm.trans S'.2.2.2.1.2.2.1
  rw [latB_eq, latB_eq] at q
  exact latB_inj S.2.2.2.2 S'.2.2.2.2 (chV_inj q)

theorem len0 {Z : State} {cb : Cell} {cs : List Int32} (A : ArrC Z cb .byte (latB cs)) (h : cs.length.toInt32 = 0) : cs = [] := by
  have hn : cs.length < 2147483648 := by have := A.2.2.2.2; rwa [latB, List.length_map] at this
  have := (i32_inj hn (n := 0) (by decide)).mp h
  exact List.length_eq_zero_iff.mp this
theorem shr0 (x : Int32) : x >>> ((0 : Int32) &&& 31) = x := by
  apply Int32.toInt_inj.mp
  rw [c_ishr x 0 0 (by decide)]
  simp
/-! ## own: UTF-16 Strings -/
abbrev hi8 (x : Int32) : Value := .int (x >>> ((8 : Int32) &&& 31)).toInt8.toInt32
def utfB : List Int32 → List Value
  | [] => []
  | x :: r => lo8 x :: hi8 x :: utfB r
def Chr (cs : List Int32) : Prop := ∀ x ∈ cs, ¬ x < 0 ∧ ¬ (65535 : Int32) < x
theorem Chr.nil : Chr [] := fun _ h => nomatch h
theorem Chr.cons {x : Int32} {cs : List Int32} (h : ¬ x < 0 ∧ ¬ (65535 : Int32) < x) (r : Chr cs) : Chr (x :: cs) := fun y hy => by
  rcases List.mem_cons.mp hy with rfl | hy
  · exact h
  · exact r y hy
theorem Lat.chr {cs : List Int32} (h : Lat cs) : Chr cs := fun x hx => lat_char (h x hx)
theorem utfB_len : ∀ cs : List Int32, (utfB cs).length = 2 * cs.length
  | [] => rfl
  | x :: r => by simp only [utfB, List.length_cons, utfB_len r]; omega
theorem utfB_app : ∀ a b : List Int32, utfB (a ++ b) = utfB a ++ utfB b
  | [], b => rfl
  | x :: r, b => by simp only [utfB, List.cons_append, utfB_app r b]
theorem utfB_get : ∀ {cs : List Int32} {i : Nat} {x : Int32}, cs[i]? = some x → (utfB cs)[2 * i]? = some (lo8 x) ∧ (utfB cs)[2 * i + 1]? = some (hi8 x)
  | y :: r, 0, x, h => by simp at h; subst h; exact ⟨rfl, rfl⟩
  | y :: r, i + 1, x, h => by
    have h' : r[i]? = some x := by simpa using h
    have := utfB_get h'
    rw [show 2 * (i + 1) = 2 * i + 2 by omega, show 2 * i + 2 + 1 = (2 * i + 1) + 2 by omega]
    simpa [utfB] using this
theorem set2_next {cs : List Int32} {i j : Nat} {x : Int32} (hx : cs[i]? = some x) : ((utfB (cs.take i) ++ List.replicate (2 * (j + 1)) (.int 0 : Value)).set (2 * i) (lo8 x)).set (2 * i + 1) (hi8 x) = utfB (cs.take (i + 1)) ++ List.replicate (2 * j) (.int 0) := by
  have hi : i < cs.length := (List.getElem?_eq_some_iff.mp hx).1
  have hl : (utfB (cs.take i)).length = 2 * i := by rw [utfB_len, List.length_take]; omega
  rw [List.set_append_right _ _ (by omega), hl, Nat.sub_self, show 2 * (j + 1) = (2 * j + 1) + 1 by omega, List.replicate_succ, List.set_cons_zero, List.set_append_right _ _ (by omega), hl, show 2 * i + 1 - 2 * i = 0 + 1 by omega, List.set_cons_succ, List.replicate_succ, List.set_cons_zero, take_succ' hx, utfB_app]
  simp [utfB]
theorem shl1 {i : Nat} (hi : 2 * i < 2147483648) : i.toInt32 <<< ((1 : Int32) &&& 31) = (2 * i).toInt32 := by
  apply Int32.toInt_inj.mp
  have h := c_ishl i.toInt32 1 1 (by decide)
  rw [i32_toInt (by omega)] at h
  rw [i32_toInt hi]
  have r := rng32 (i.toInt32 <<< ((1 : Int32) &&& 31))
  simp only [Nat.reducePow] at h
  omega
theorem shr1 {i : Nat} (hi : 2 * i < 2147483648) : (2 * i).toInt32 >>> ((1 : Int32) &&& 31) = i.toInt32 := by
  apply Int32.toInt_inj.mp
  rw [c_ishr _ 1 1 (by decide), i32_toInt hi, i32_toInt (by omega)]
  simp only [Nat.reducePow]
  omega
theorem shl0 (x : Int32) : x <<< ((0 : Int32) &&& 31) = x := by
  apply Int32.toInt_inj.mp
  have h := c_ishl x 0 0 (by decide)
  have r := rng32 (x <<< ((0 : Int32) &&& 31))
  have r' := rng32 x
  simp only [Nat.reducePow] at h
  omega
/-- the two bytes of a char make the char -/
theorem getch {x : Int32} (hx : ¬ x < 0 ∧ ¬ (65535 : Int32) < x) : (((x.toInt8.toInt32 &&& 255) <<< ((0 : Int32) &&& 31)) ||| (((x >>> ((8 : Int32) &&& 31)).toInt8.toInt32 &&& 255) <<< ((8 : Int32) &&& 31))) = x := by
  rw [shl0]
  apply Int32.toInt_inj.mp
  obtain ⟨h0, h1⟩ := hx
  rw [Int32.lt_iff_toInt_lt] at h0 h1
  have e0 : (0 : Int32).toInt = 0 := by decide
  have e1 : (65535 : Int32).toInt = 65535 := by decide
  rw [e0] at h0
  rw [e1] at h1
  have ha := c_mask x.toInt8.toInt32 255 8 (by decide) (by decide)
  have hb := c_mask (x >>> ((8 : Int32) &&& 31)).toInt8.toInt32 255 8 (by decide) (by decide)
  have hba := c_i2b x
  have hbb := c_i2b (x >>> ((8 : Int32) &&& 31))
  have hs := c_ishr x 8 8 (by decide)
  simp only [Nat.reducePow] at ha hb hs
  have hl := c_ishl ((x >>> ((8 : Int32) &&& 31)).toInt8.toInt32 &&& 255) 8 8 (by decide)
  have rl := rng32 (((x >>> ((8 : Int32) &&& 31)).toInt8.toInt32 &&& 255) <<< ((8 : Int32) &&& 31))
  simp only [Nat.reducePow] at hl
  have ho := c_or' (x.toInt8.toInt32 &&& 255) (((x >>> ((8 : Int32) &&& 31)).toInt8.toInt32 &&& 255) <<< ((8 : Int32) &&& 31)) 8 (by decide) 256 (by decide) (by omega) (by omega) (by omega)
  have ro := rng32 ((x.toInt8.toInt32 &&& 255) ||| (((x >>> ((8 : Int32) &&& 31)).toInt8.toInt32 &&& 255) <<< ((8 : Int32) &&& 31)))
  omega
/-- a UTF-16 String's two cells -/
def StrU (Z : State) (c : Cell) (b : Addr) (cb : Cell) (cs : List Int32) : Prop :=
  ObjC Z c "java/lang/String" ∧ FldC Z c "java/lang/String" "coder" "B" (.int 1) ∧ FldC Z c "java/lang/String" "value" "[B" (.ref b) ∧ ArrC Z cb .byte (utfB cs) ∧ Chr cs
/-- a String's two cells, of either kind -/
def StrG (Z : State) (c : Cell) (b : Addr) (cb : Cell) (cs : List Int32) : Prop := StrL Z c b cb cs ∨ StrU Z c b cb cs
theorem eqI {args : Array Value} {s : State} {t : Term} {v : Int32} (h : (Jvm.Cond.eq t (Term.int v)).value args s none s [] = some true) : t.eval args s none [] s = some (.int v) := by
  obtain ⟨x, y, h1, h2, -, h4⟩ := cmp_v (Or.inl h)
  cases (Term.int_eval v).symm.trans h2
  obtain ⟨z, rfl⟩ := h4
  rw [Cond.value, h1, Term.int_eval] at h
  simp at h
  rw [h1, h]
/-- where the first sign above 255 stands, if there is one -/
def Upto (cs : List Int32) (k : Nat) : Prop := (k = cs.length ∧ Lat cs) ∨ (k < cs.length ∧ ∃ x, cs[k]? = some x ∧ (255 : Int32) < x)
theorem coder_u {n : Nat} (h0 : 0 < n) (hn : n < 65536) : nar .byte ((n.toInt32 - (2 * n).toInt32).toUInt32 >>> ((31 : Int32) &&& 31).toUInt32).toInt32.toInt8.toInt32 = 1 := by
  have e : ((n.toInt32 - (2 * n).toInt32).toUInt32 >>> ((31 : Int32) &&& 31).toUInt32).toInt32 = 1 := by
    apply Int32.toInt_inj.mp
    rw [c_iushr _ 31 31 (by decide) (by decide)]
    have h := c_isub n.toInt32 (2 * n).toInt32
    have r := rng32 (n.toInt32 - (2 * n).toInt32)
    rw [i32_toInt (by omega), i32_toInt (by omega)] at h
    have e1 : (1 : Int32).toInt = 1 := by decide
    rw [e1]
    simp only [Nat.reducePow]
    omega
  rw [e]; decide
theorem StrG.obj {Z : State} {c : Cell} {b : Addr} {cb : Cell} {cs : List Int32} (S : StrG Z c b cb cs) : ObjC Z c "java/lang/String" := S.elim (·.1) (·.1)
theorem i32_big {n : Nat} (hn : n < 65536) : n.toInt32 < (1073741823 : Int32) := by
  have h := i32_toInt (i := n) (by omega)
  have e : (1073741823 : Int32).toInt = 1073741823 := by decide
  rw [Int32.lt_iff_toInt_lt, h, e]
  omega
/-! ## own: arrays of references, old arrays -/
section RefArr
variable {l : Launch} {Z : State} {a0 : Array Value} {EL : List (String × Nat)} {R : Room} {own : String} {bytes : ByteArray} {maxL : Nat} {ret : Option FieldType} {nm : String} {X : Ctx} {σ ρ : HL} {T : State} {k n K N : Nat} {Q : Option Value → HL → HL → Prop} {pc pc' : Nat} {Ls : Array Slot} {st : List Value} {a y : Addr} {c cy : Cell} {vs : List Value}
theorem Go.anewarr (W : Wk l Z EL R own bytes maxL ret nm X σ ρ T k n) {C : String} {ix : Nat} {z : Int32} (len : Nat) (w1 : (Jvm.Cond.classLink own ix C).before a0 Z = true) (w2 : (Jvm.Cond.arrayOver (.object C)).before a0 Z = true) (hd : decode bytes pc = .ok (.anewarray ix, 3)) (hp : pc + 3 = pc')
    (hz : ¬ z < 0) (hl : z.toNatClampNeg = len) (hb : len * 8 ≤ 536870912) (hk : k + 1 ≤ R.cells) (hn : n + len ≤ R.slots)
    (r : ∀ (T' : State) (a : Addr) (c : Cell), Wk l Z EL R own bytes maxL ret nm X ((a, c) :: σ) ρ T' (k + 1) (n + len) → ArrC Z c (.object C) (List.replicate len .null) → Ovr Z c.cls C → Go Z EL K N Q X T' pc' Ls (.ref a :: st)) :
    Go Z EL K N Q X T pc Ls (.int z :: st) := by
  obtain ⟨w0, vm0, k0, locs, Y, hS, hk0, hZ, hown, hFr, H⟩ := W
  obtain ⟨T', h', cA, Y', e', E, A, O, stp⟩ := newR Y w0.1 hZ hown w1 w2 rfl (g := mkF X.m pc Ls (.int z :: st)) rfl (by rw [w0.2.1]; exact hd) rfl hz (cap := len) (Nat.le_of_eq hl) hb hk hn
  subst e' hp
  have hfd : ∀ v ∈ List.replicate len (Value.null), fits (.object C) v = true := fun v hv => by rw [(List.mem_replicate.mp hv).2]; rfl
  exact Go.by stp (r T' T.heap.size _ ⟨w0, vm0, k0, locs, Y', hS, Nat.le_trans hk0 E.1, hZ, hown, hFr, H.alloc E A.1⟩ ⟨A.2.1, A.2.2, by simp [newA, hl, defaultValue], hfd, by simp; omega⟩ O)
theorem Go.aastoreObj (W : Wk l Z EL R own bytes maxL ret nm X σ ρ T k n) (ix : Nat) (hm : σ[ix]? = some (a, c)) {C D : String} (A : ArrC Z c (.object D) vs) (O : Ovr Z c.cls C) (hmy : (y, cy) ∈ σ ∨ (y, cy) ∈ ρ ∨ Z.heap[y]? = some cy) (Oy : ObjC Z cy C) {j : Int32} (i : Nat) (hj : ¬ j < 0) (hi : j.toNatClampNeg = i) (hl : i < vs.length) (hd : decode bytes pc = .ok (.aastore, 1)) (hp : pc + 1 = pc')
    (r : ∀ (T' : State) (c' : Cell), Wk l Z EL R own bytes maxL ret nm X (σ.set ix (a, c')) ρ T' k n → ArrC Z c' (.object D) (vs.set i (.ref y)) → Ovr Z c'.cls C → Go Z EL K N Q X T' pc' Ls st) : Go Z EL K N Q X T pc Ls (.ref y :: .int j :: .ref a :: st) := by
  have hc := W.cell (Or.inl (List.mem_of_getElem? hm))
  have hcy := W.cell hmy
  exact Go.aastore W ix hm A rfl i hj hi hl rfl (Sto.of (A.arr hc) O (Ins.self (Oy.exa hcy))) hd hp fun T' c' W' A' e' => r T' c' W' A' (e' ▸ O)
/-- an array that stood at the start, its components known -/
theorem arrC_old {cl : Cell} {ty : FieldType} (hf : Fit Z) (A : Arr Z Z.heap a cl ty) (hl : cl.slots.size = vs.length) (he : ∀ i, i < vs.length → cl.slots[i]? = vs[i]?) (hb : vs.length < 2147483648) : ArrC Z cl ty vs := by
  have e : cl.slots.toList = vs := by
    apply List.ext_getElem?
    intro i
    by_cases q : i < vs.length
    · rw [Array.getElem?_toList]; exact he i q
    · rw [Array.getElem?_toList, Array.getElem?_eq_none (by omega), List.getElem?_eq_none (by omega)]
  refine ⟨A.2.1, A.2.2, e, fun v hv => ?_, hb⟩
  obtain ⟨i, hi⟩ := List.mem_iff_getElem?.mp hv
  have hlt := (List.getElem?_eq_some_iff.mp hi).1
  refine elem_fits (j := i.toInt32) hf A ?_ ?_
  · rw [i32_clamp (by omega), hl]
    rintro (q | q)
    · exact i32_nn (by omega) q
    · omega
  · rw [i32_clamp (by omega), he i hlt, hi]
end RefArr
/-! ## own: facts on what stood at the start, out of the case's own words; the clone of an array -/
section OldFacts
variable {Z : State} {args : Array Value} {t u : Term} {a : Addr} {c : Cell} {C n d : String} {ty : FieldType} {v : Value} {vs : List Value}
theorem objC_start (hx : (Jvm.Cond.exactly t C).value args Z none Z [] = some true) : ∃ a c, t.eval args Z none [] Z = some (.ref a) ∧ Z.heap[a]? = some c ∧ ObjC Z c C := by
  obtain ⟨a, ev⟩ := exa_v hx
  have E := Exa.start ev hx
  obtain ⟨c, k, h0, h⟩ := E
  exact ⟨a, c, ev, h0, k, h⟩
theorem fldC_start (ev : t.eval args Z none [] Z = some (.ref a)) (hc : Z.heap[a]? = some c) (e : (Term.field t C n d).eval args Z none [] Z = some v) : FldC Z c C n d v :=
  FldC.of (Fld.start ((fld_at ev) ▸ e)) hc
theorem eqR (h : (Jvm.Cond.eq t u).value args Z none Z [] = some true) (hu : u.eval args Z none [] Z = some (.ref a)) : t.eval args Z none [] Z = some (.ref a) := by
  obtain ⟨x, y, h1, h2, h3, h4⟩ := cmp_v (Or.inl h)
  cases hu.symm.trans h2
  rw [Cond.value, h1, hu] at h
  cases x <;> simp at h
  rw [h1, h]
/-- the components, one by one -/
def Els (Z : State) (args : Array Value) (t : Term) : Nat → List Value → Prop
  | _, [] => True
  | k, v :: vs => (Term.elem t (Term.int k.toInt32)).eval args Z none [] Z = some v ∧ Els Z args t (k + 1) vs
theorem Els.get : ∀ (vs : List Value) (k : Nat), Els Z args t k vs → ∀ i v, vs[i]? = some v → (Term.elem t (Term.int (k + i).toInt32)).eval args Z none [] Z = some v
  | [], k, h, i, v, hv => by simp at hv
  | w :: vs, k, h, 0, v, hv => by
    obtain rfl : w = v := by simpa using hv
    exact h.1
  | w :: vs, k, h, i + 1, v, hv => by
    have := Els.get vs (k + 1) h.2 i v (by simpa using hv)
    rwa [show k + 1 + i = k + (i + 1) by omega] at this
theorem arrC_start (hf : Fit Z) (ev : t.eval args Z none [] Z = some (.ref a)) (hc : Z.heap[a]? = some c) (hx : (Jvm.Cond.arrayOf t ty).value args Z none Z [] = some true) {z : Int32} (hl : (Term.length t).eval args Z none [] Z = some (.int z)) (vs : List Value) (hz : vs.length.toInt32 = z) (hb : vs.length < 2147483648) (he : Els Z args t 0 vs) : ArrC Z c ty vs := by
  obtain ⟨c', A⟩ := Arr.start ev hx
  cases hc.symm.trans A.1
  obtain ⟨b, cell, e1, e2, e3, e4⟩ := Jvm.Lib.length_spec hl
  cases ev.symm.trans e1
  have e5 : Z.heap[a]? = some cell := (Jvm.Lib.arrayAt_spec e2).1
  cases hc.symm.trans e5
  have hs : c.slots.size = vs.length := by
    have q := Value.int.inj e4
    rw [← hz] at q
    exact ((i32_inj hb (by omega)).mp q).symm
  refine arrC_old hf A hs (fun i hi => ?_) hb
  have hv : vs[i]? = some vs[i] := List.getElem?_eq_getElem hi
  have q := (elem_in (Els.get vs 0 he i _ hv) ev (Term.int_eval _) hc).2
  rw [Nat.zero_add, i32_clamp (by omega)] at q
  rw [q, hv]
end OldFacts
section CloneLaw
variable {l : Launch} {Z : State} {a0 : Array Value} {EL : List (String × Nat)} {R : Room} {own : String} {bytes : ByteArray} {maxL : Nat} {ret : Option FieldType} {nm : String} {X : Ctx} {σ ρ : HL} {T : State} {k n K N : Nat} {Q : Option Value → HL → HL → Prop} {pc pc' : Nat} {Ls : Array Slot} {st : List Value} {a : Addr} {c : Cell} {vs : List Value}
theorem Go.clone (W : Wk l Z EL R own bytes maxL ret nm X σ ρ T k n) (hm : (a, c) ∈ σ ∨ (a, c) ∈ ρ ∨ Z.heap[a]? = some c) {ad : String} {ty : FieldType} {ix : Nat} (A : ArrC Z c ty vs) (O : ObjC Z c ad)
    (w1 : (Jvm.Cond.methodLink own ix ⟨ad, "clone", "()Ljava/lang/Object;"⟩).before a0 Z = true) (w2 : (Jvm.Cond.sameMethod ad "java/lang/Object" "clone" "()Ljava/lang/Object;").before a0 Z = true) (w3 : (Jvm.Cond.native ⟨"java/lang/Object", "clone", "()Ljava/lang/Object;"⟩).before a0 Z = true)
    (w4 : (Jvm.Cond.instanceMethod ⟨"java/lang/Object", "clone", "()Ljava/lang/Object;"⟩).before a0 Z = true) (w5 : (Jvm.Cond.selects ad ⟨ad, "clone", "()Ljava/lang/Object;"⟩ ⟨"java/lang/Object", "clone", "()Ljava/lang/Object;"⟩).before a0 Z = true) (w6 : (Jvm.Cond.castable ad "java/lang/Cloneable").before a0 Z = true)
    (hLs : Ls.size = maxL) (hd : decode bytes pc = .ok (.invokevirtual ix, 3)) (hp : pc + 3 = pc') (hf : 1 ≤ R.frames) (hl : (st.map fun v => v.category).sum + 14 ≤ R.locals) (hk : k + 1 ≤ R.cells) (hn : n + vs.length ≤ R.slots)
    (r : ∀ (T' : State) (a' : Addr) (c' : Cell), Wk l Z EL R own bytes maxL ret nm X ((a', c') :: σ) ρ T' (k + 1) (n + vs.length) → ArrC Z c' ty vs → ObjC Z c' ad → Go Z EL K N Q X T' pc' Ls (.ref a' :: st)) :
    Go Z EL K N Q X T pc Ls (.ref a :: st) := by
  have hc := W.cell hm
  obtain ⟨w0, vm0, k0, locs, Y, hS, hk0, hZ, hown, hFr, H⟩ := W
  have F : FitC Z c := fitC_of (A.arr hc) fun i hi v hv => A.2.2.2.1 v (by rw [A.get] at hv; exact List.mem_of_getElem? hv)
  obtain ⟨T', h', Y', e', E, A', O', stp⟩ := cloneA Y w0.1 hZ hown w1 w2 w3 w4 w5 w6 rfl (A.arr hc) (O.exa hc) F (g := mkF X.m pc Ls (.ref a :: st)) rfl (by show Ls.size = _; rw [hLs, w0.2.2.1]) (rest := st) rfl (by rw [w0.2.1]; exact hd) hf (W := (st.map fun v => v.category).sum) (by show 2 * 0 + _ ≤ _; omega) hl (cap := vs.length) (Nat.le_of_eq A.size) hk hn
  subst e' hp
  exact Go.by stp (r T' T.heap.size _ ⟨w0, vm0, k0, locs, Y', hS, Nat.le_trans hk0 E.1, hZ, hown, hFr, H.alloc E A'.1⟩ ⟨A'.2.1, A'.2.2, A.2.2.1, A.2.2.2.1, A.2.2.2.2⟩ (ObjC.of O' A'.1))
end CloneLaw
abbrev EL1 : List (String × Nat) := consts_1
def Cl (Z : State) (a0 : Array Value) : Prop := (∀ d ∈ tables_1, d.before a0 Z = true) ∧ EW Z a0 EL1 ∧ (∃ cv : Int32, Sta Z Z.heap "java/lang/String" "COMPACT_STRINGS" "Z" (.int cv) ∧ ¬ cv = 0) ∧ (∃ fv : Value, Sta Z Z.heap "jdk/internal/util/Preconditions" "SIOOBE_FORMATTER" "Ljava/util/function/BiFunction;" fv ∧ fv.isRef = true) ∧ True
theorem strAtoms {Z : State} {a0 : Array Value} (G : Cl Z a0) : ∀ d ∈ Bundle.stringAtoms, d.before a0 Z = true := fun d hd => G.1 d ((by decide +kernel : ∀ d ∈ Bundle.stringAtoms, d ∈ tables_1) d hd)
theorem d_jdk_52_method_21_code_0 : decode jdk_52_method_21_code 0 = .ok (.iconst 0, 1) := by decide +kernel
theorem d_jdk_52_method_21_code_1 : decode jdk_52_method_21_code 1 = .ok (.istore 5, 2) := by decide +kernel
theorem d_jdk_52_method_21_code_3 : decode jdk_52_method_21_code 3 = .ok (.iload 5, 2) := by decide +kernel
theorem d_jdk_52_method_21_code_5 : decode jdk_52_method_21_code 5 = .ok (.iload 4, 2) := by decide +kernel
theorem d_jdk_52_method_21_code_7 : decode jdk_52_method_21_code 7 = .ok (.if_icmp .ge 37, 3) := by decide +kernel
theorem d_jdk_52_method_21_code_10 : decode jdk_52_method_21_code 10 = .ok (.aload_n 0, 1) := by decide +kernel
theorem d_jdk_52_method_21_code_11 : decode jdk_52_method_21_code 11 = .ok (.iload_n 1, 1) := by decide +kernel
theorem d_jdk_52_method_21_code_12 : decode jdk_52_method_21_code 12 = .ok (.caload, 1) := by decide +kernel
theorem d_jdk_52_method_21_code_13 : decode jdk_52_method_21_code 13 = .ok (.istore 6, 2) := by decide +kernel
theorem d_jdk_52_method_21_code_15 : decode jdk_52_method_21_code 15 = .ok (.iload 6, 2) := by decide +kernel
theorem d_jdk_52_method_21_code_17 : decode jdk_52_method_21_code 17 = .ok (.sipush 255, 3) := by decide +kernel
theorem d_jdk_52_method_21_code_20 : decode jdk_52_method_21_code 20 = .ok (.if_icmp .le 6, 3) := by decide +kernel
theorem d_jdk_52_method_21_code_23 : decode jdk_52_method_21_code 23 = .ok (.iload 5, 2) := by decide +kernel
theorem d_jdk_52_method_21_code_25 : decode jdk_52_method_21_code 25 = .ok (.ireturn, 1) := by decide +kernel
theorem d_jdk_52_method_21_code_26 : decode jdk_52_method_21_code 26 = .ok (.aload_n 2, 1) := by decide +kernel
theorem d_jdk_52_method_21_code_27 : decode jdk_52_method_21_code 27 = .ok (.iload_n 3, 1) := by decide +kernel
theorem d_jdk_52_method_21_code_28 : decode jdk_52_method_21_code 28 = .ok (.iload 6, 2) := by decide +kernel
theorem d_jdk_52_method_21_code_30 : decode jdk_52_method_21_code 30 = .ok (.i2b, 1) := by decide +kernel
theorem d_jdk_52_method_21_code_31 : decode jdk_52_method_21_code 31 = .ok (.bastore, 1) := by decide +kernel
theorem d_jdk_52_method_21_code_32 : decode jdk_52_method_21_code 32 = .ok (.iinc 1 1, 3) := by decide +kernel
theorem d_jdk_52_method_21_code_35 : decode jdk_52_method_21_code 35 = .ok (.iinc 3 1, 3) := by decide +kernel
theorem d_jdk_52_method_21_code_38 : decode jdk_52_method_21_code 38 = .ok (.iinc 5 1, 3) := by decide +kernel
theorem d_jdk_52_method_21_code_41 : decode jdk_52_method_21_code 41 = .ok (.goto (-38), 3) := by decide +kernel
theorem d_jdk_52_method_21_code_44 : decode jdk_52_method_21_code 44 = .ok (.iload 4, 2) := by decide +kernel
theorem d_jdk_52_method_21_code_46 : decode jdk_52_method_21_code 46 = .ok (.ireturn, 1) := by decide +kernel
theorem lp_cmp5 {l : Launch} {Z : State} {X : Ctx} {ac b : Addr} {cc : Cell} {cs : List Int32} (A : ArrC Z cc .char (chV cs)) (hl : Lat cs) (hn : cs.length < 2147483648) :
    ∀ (j i : Nat), i + j = cs.length → ∀ (o6 : Slot), One o6 → ∀ (T : State) (cb : Cell), Wk l Z EL1 ({ frames := 0, cells := 0, slots := 0, locals := 0 } : Room) "java/lang/StringUTF16" jdk_52_method_21_code 7 (some .int) "compress" X [(ac, cc), (b, cb)] [] T 0 0 → ArrC Z cb .byte (latB (cs.take i) ++ List.replicate j (.int 0)) →
      Go Z EL1 0 0 (fun v σ ρ => ∃ cb', v = some (.int cs.length.toInt32) ∧ σ = [(ac, cc), (b, cb')] ∧ ρ = [] ∧ ArrC Z cb' .byte (latB cs)) X T 3 #[.val (.ref ac), .val (.int i.toInt32), .val (.ref b), .val (.int i.toInt32), .val (.int cs.length.toInt32), .val (.int i.toInt32), o6] []
  | 0, i, hij, o6, ho, T, cb, W, B => by
    obtain rfl : i = cs.length := by omega
    refine Go.iload (pc' := 5) W d_jdk_52_method_21_code_3 rfl rfl ?_
    refine Go.iload (pc' := 7) W d_jdk_52_method_21_code_5 rfl rfl ?_
    refine Go.icmp_ge (pc' := 10) W 44 d_jdk_52_method_21_code_7 (by decide) rfl (fun _ => ?_) (fun q => absurd q (by rw [i32_lt hn hn]; omega))
    refine Go.iload (pc' := 46) W d_jdk_52_method_21_code_44 rfl rfl ?_
    refine Go.iret W d_jdk_52_method_21_code_46 (by decide) (by decide) ⟨cb, rfl, rfl, rfl, ?_⟩
    simpa using B
  | j + 1, i, hij, o6, ho, T, cb, W, B => by
    have hi : i < cs.length := by omega
    obtain ⟨x, hx⟩ : ∃ x, cs[i]? = some x := ⟨_, List.getElem?_eq_getElem hi⟩
    have hL := hl x (List.mem_of_getElem? hx)
    have hlen : i < (latB (cs.take i) ++ List.replicate (j + 1) (.int 0 : Value)).length := by simp; omega
    refine Go.iload (pc' := 5) W d_jdk_52_method_21_code_3 rfl rfl ?_
    refine Go.iload (pc' := 7) W d_jdk_52_method_21_code_5 rfl rfl ?_
    refine Go.icmp_ge (pc' := 10) W 44 d_jdk_52_method_21_code_7 (by decide) rfl (fun q => absurd ((i32_lt (by omega) hn).mpr hi) q) (fun _ => ?_)
    refine Go.aloadN (pc' := 11) W d_jdk_52_method_21_code_10 rfl rfl rfl ?_
    refine Go.iloadN (pc' := 12) W d_jdk_52_method_21_code_11 rfl rfl ?_
    refine Go.caload (pc' := 13) W (Or.inl (List.mem_of_getElem? (i := 0) rfl)) A i (i32_nn (by omega)) (i32_clamp (by omega)) (v := .int x) (by rw [chV, List.getElem?_map, hx]; rfl) d_jdk_52_method_21_code_12 rfl ?_
    refine Go.istore (pc' := 15) W #[.val (.ref ac), .val (.int i.toInt32), .val (.ref b), .val (.int i.toInt32), .val (.int cs.length.toInt32), .val (.int i.toInt32), .val (.int x)] d_jdk_52_method_21_code_13 (XS.store1 (o := o6) rfl ho rfl) rfl ?_
    refine Go.iload (pc' := 17) W d_jdk_52_method_21_code_15 rfl rfl ?_
    refine Go.sipush (pc' := 20) W (255 : Int32) d_jdk_52_method_21_code_17 (by decide) rfl ?_
    refine Go.icmp_le (pc' := 23) W 26 d_jdk_52_method_21_code_20 (by decide) rfl (fun _ => ?_) (fun q => absurd q hL.2)
    refine Go.aloadN (pc' := 27) W d_jdk_52_method_21_code_26 rfl rfl rfl ?_
    refine Go.iloadN (pc' := 28) W d_jdk_52_method_21_code_27 rfl rfl ?_
    refine Go.iload (pc' := 30) W d_jdk_52_method_21_code_28 rfl rfl ?_
    refine Go.i2b (pc' := 31) W d_jdk_52_method_21_code_30 rfl ?_
    refine Go.bastore (pc' := 32) W 1 rfl B i (i32_nn (by omega)) (i32_clamp (by omega)) hlen d_jdk_52_method_21_code_31 rfl (fun T2 cb2 W2 B2 => ?_)
    rw [i8_i8, set_next hx] at B2
    refine Go.iinc (pc' := 35) W2 (1 : Int32) #[.val (.ref ac), .val (.int (i.toInt32 + 1)), .val (.ref b), .val (.int i.toInt32), .val (.int cs.length.toInt32), .val (.int i.toInt32), .val (.int x)] d_jdk_52_method_21_code_32 rfl (by decide) rfl rfl ?_
    refine Go.iinc (pc' := 38) W2 (1 : Int32) #[.val (.ref ac), .val (.int (i.toInt32 + 1)), .val (.ref b), .val (.int (i.toInt32 + 1)), .val (.int cs.length.toInt32), .val (.int i.toInt32), .val (.int x)] d_jdk_52_method_21_code_35 rfl (by decide) rfl rfl ?_
    refine Go.iinc (pc' := 41) W2 (1 : Int32) #[.val (.ref ac), .val (.int (i.toInt32 + 1)), .val (.ref b), .val (.int (i.toInt32 + 1)), .val (.int cs.length.toInt32), .val (.int (i.toInt32 + 1)), .val (.int x)] d_jdk_52_method_21_code_38 rfl (by decide) rfl rfl ?_
    refine Go.goto W2 3 d_jdk_52_method_21_code_41 (by decide) ?_
    rw [i32_succ (by omega)]
    exact lp_cmp5 A hl hn j (i + 1) (by omega) _ (One.val rfl) T2 cb2 W2 B2
theorem pn_0 : plainName "java/lang/StringUTF16" = true := by first | (simp [plainName, overriddenIn]; done) | decide +kernel
theorem rm_cmp5 {l : Launch} {Z : State} {a0 : Array Value} (G : Cl Z a0) (ac b : Addr) (cc cb : Cell) (cs : List Int32) (A : ArrC Z cc .char (chV cs)) (hl : Lat cs) (hn : cs.length < 2147483648) (B : ArrC Z cb .byte (List.replicate cs.length (.int 0))) :
    Met l Z EL1 (⟨"java/lang/StringUTF16", "compress", "([CI[BII)I"⟩ : MethodName) jdk_52_method_21_code 7 (some .int) ({ frames := 0, cells := 0, slots := 0, locals := 0 } : Room) #[.ref ac, .int 0, .ref b, .int 0, .int cs.length.toInt32] [(ac, cc), (b, cb)] [] (fun v σ ρ => ∃ cb', v = some (.int cs.length.toInt32) ∧ σ = [(ac, cc), (b, cb')] ∧ ρ = [] ∧ ArrC Z cb' .byte (latB cs)) := by
  refine Met.walk G.2.1 pn_0 #[.val (.ref ac), .val (.int 0), .val (.ref b), .val (.int 0), .val (.int cs.length.toInt32), .unset, .unset] (fun m => by first | (simp [entryFrame, mkF, argsToLocals, Value.category]; done) | rfl) ?_
  intro X T W
  refine Go.iconst (pc' := 1) W (0 : Int32) d_jdk_52_method_21_code_0 (by decide) rfl ?_
  refine Go.istore (pc' := 3) W #[.val (.ref ac), .val (.int 0), .val (.ref b), .val (.int 0), .val (.int cs.length.toInt32), .val (.int 0), .unset] d_jdk_52_method_21_code_1 rfl rfl ?_
  exact lp_cmp5 A hl hn cs.length 0 (by omega) .unset One.u T cb W (by simpa using B)
theorem d_jdk_52_method_16_code_0 : decode jdk_52_method_16_code 0 = .ok (.iload_n 2, 1) := by decide +kernel
theorem w_4 {Z : State} {a0 : Array Value} (G : Cl Z a0) : (Jvm.Cond.arrayClass .byte).before a0 Z = true := G.1 _ (List.mem_of_getElem? (l := tables_1) (i := 4) rfl)
theorem d_jdk_52_method_16_code_1 : decode jdk_52_method_16_code 1 = .ok (.newarray .byte, 2) := by decide +kernel
theorem d_jdk_52_method_16_code_3 : decode jdk_52_method_16_code 3 = .ok (.astore_n 3, 1) := by decide +kernel
theorem d_jdk_52_method_16_code_4 : decode jdk_52_method_16_code 4 = .ok (.aload_n 0, 1) := by decide +kernel
theorem d_jdk_52_method_16_code_5 : decode jdk_52_method_16_code 5 = .ok (.iload_n 1, 1) := by decide +kernel
theorem d_jdk_52_method_16_code_6 : decode jdk_52_method_16_code 6 = .ok (.aload_n 3, 1) := by decide +kernel
theorem d_jdk_52_method_16_code_7 : decode jdk_52_method_16_code 7 = .ok (.iconst 0, 1) := by decide +kernel
theorem d_jdk_52_method_16_code_8 : decode jdk_52_method_16_code 8 = .ok (.iload_n 2, 1) := by decide +kernel
theorem w_107 {Z : State} {a0 : Array Value} (G : Cl Z a0) : (Jvm.Cond.methodLink "java/lang/StringUTF16" 115 (⟨"java/lang/StringUTF16", "compress", "([CI[BII)I"⟩ : MethodName)).before a0 Z = true := G.1 _ (List.mem_of_getElem? (l := tables_1) (i := 107) rfl)
theorem w_108 {Z : State} {a0 : Array Value} (G : Cl Z a0) : (Jvm.Cond.static (⟨"java/lang/StringUTF16", "compress", "([CI[BII)I"⟩ : MethodName)).before a0 Z = true := G.1 _ (List.mem_of_getElem? (l := tables_1) (i := 108) rfl)
theorem w_105 {Z : State} {a0 : Array Value} (G : Cl Z a0) : (Jvm.Cond.initialized "java/lang/StringUTF16").before a0 Z = true := G.1 _ (List.mem_of_getElem? (l := tables_1) (i := 105) rfl)
theorem w_109 {Z : State} {a0 : Array Value} (G : Cl Z a0) : (Jvm.Cond.code (⟨"java/lang/StringUTF16", "compress", "([CI[BII)I"⟩ : MethodName) jdk_52_method_21_code 7 (some .int)).before a0 Z = true := G.1 _ (List.mem_of_getElem? (l := tables_1) (i := 109) rfl)
theorem pd_1 : parseMethodDescriptor "([CI[BII)I" = some ⟨[(.array .char), .int, (.array .byte), .int, .int], some .int⟩ := by decide +kernel
theorem d_jdk_52_method_16_code_9 : decode jdk_52_method_16_code 9 = .ok (.invokestatic 115, 3) := by decide +kernel
theorem d_jdk_52_method_16_code_12 : decode jdk_52_method_16_code 12 = .ok (.istore 4, 2) := by decide +kernel
theorem d_jdk_52_method_16_code_14 : decode jdk_52_method_16_code 14 = .ok (.iload 4, 2) := by decide +kernel
theorem d_jdk_52_method_16_code_16 : decode jdk_52_method_16_code 16 = .ok (.iload_n 2, 1) := by decide +kernel
theorem d_jdk_52_method_16_code_17 : decode jdk_52_method_16_code 17 = .ok (.if_icmp .eq 40, 3) := by decide +kernel
theorem d_jdk_52_method_16_code_57 : decode jdk_52_method_16_code 57 = .ok (.aload_n 3, 1) := by decide +kernel
theorem d_jdk_52_method_16_code_58 : decode jdk_52_method_16_code 58 = .ok (.areturn, 1) := by decide +kernel
theorem rm_cmp3 {l : Launch} {Z : State} {a0 : Array Value} (G : Cl Z a0) (ac : Addr) (cc : Cell) (cs : List Int32) (A : ArrC Z cc .char (chV cs)) (hl : Lat cs) (hn : cs.length < 65536) :
    Met l Z EL1 (⟨"java/lang/StringUTF16", "compress", "([CII)[B"⟩ : MethodName) jdk_52_method_16_code 6 (some (.array .byte)) ({ frames := 1, cells := 1, slots := cs.length, locals := 18 } : Room) #[.ref ac, .int 0, .int cs.length.toInt32] [(ac, cc)] [] (fun v σ ρ => ∃ b cb, v = some (.ref b) ∧ σ = [(ac, cc), (b, cb)] ∧ ρ = [] ∧ ArrC Z cb .byte (latB cs)) := by
  refine Met.walk G.2.1 pn_0 #[.val (.ref ac), .val (.int 0), .val (.int cs.length.toInt32), .unset, .unset, .unset] (fun m => by first | (simp [entryFrame, mkF, argsToLocals, Value.category]; done) | rfl) ?_
  intro X T0 W0
  refine Go.iloadN (pc' := 1) W0 d_jdk_52_method_16_code_0 rfl rfl ?_
  refine Go.newarr (pc' := 3) W0 .byte rfl cs.length (w_4 G) d_jdk_52_method_16_code_1 rfl (i32_nn (by omega)) (i32_clamp (by omega)) (by omega) (by first | exact Nat.le_of_ble_eq_true rfl | (simp; done) | (simp; omega) | omega) (by first | exact Nat.le_of_ble_eq_true rfl | (simp; done) | (simp; omega) | omega) (fun T1 b cb W1 B => ?_)
  refine Go.astoreN (pc' := 4) W1 #[.val (.ref ac), .val (.int 0), .val (.int cs.length.toInt32), .val (.ref b), .unset, .unset] d_jdk_52_method_16_code_3 rfl rfl rfl ?_
  refine Go.aloadN (pc' := 5) W1 d_jdk_52_method_16_code_4 rfl rfl rfl ?_
  refine Go.iloadN (pc' := 6) W1 d_jdk_52_method_16_code_5 rfl rfl ?_
  refine Go.aloadN (pc' := 7) W1 d_jdk_52_method_16_code_6 rfl rfl rfl ?_
  refine Go.iconst (pc' := 8) W1 (0 : Int32) d_jdk_52_method_16_code_7 (by decide) rfl ?_
  refine Go.iloadN (pc' := 9) W1 d_jdk_52_method_16_code_8 rfl rfl ?_
  refine Go.static (pc' := 12) W1 (rm_cmp5 G ac b cc cb cs A hl (by omega) B) (w_107 G) (w_108 G) (w_105 G) (w_109 G) (by decide) [1, 0] [] (σf := []) rfl rfl [.ref ac, .int 0, .ref b, .int 0, .int cs.length.toInt32] [] rfl (lenOf pd_1 rfl) rfl rfl d_jdk_52_method_16_code_9 rfl (by first | exact Nat.le_of_ble_eq_true rfl | (simp; done) | (simp; omega) | omega) (by first | exact Nat.le_of_ble_eq_true rfl | (simp; done) | (simp; omega) | omega) (by first | exact Nat.le_of_ble_eq_true rfl | (simp; done) | (simp; omega) | omega) (by first | exact Nat.le_of_ble_eq_true rfl | (simp; done) | (simp; omega) | omega) ?_
  rintro _ _ _ T2 ⟨cb2, rfl, rfl, rfl, B2⟩ W2
  refine Go.istore (pc' := 14) W2 #[.val (.ref ac), .val (.int 0), .val (.int cs.length.toInt32), .val (.ref b), .val (.int cs.length.toInt32), .unset] d_jdk_52_method_16_code_12 rfl rfl ?_
  refine Go.iload (pc' := 16) W2 d_jdk_52_method_16_code_14 rfl rfl ?_
  refine Go.iloadN (pc' := 17) W2 d_jdk_52_method_16_code_16 rfl rfl ?_
  refine Go.icmp_eq (pc' := 20) W2 57 d_jdk_52_method_16_code_17 (by decide) rfl (fun _ => ?_) (fun q => absurd rfl q)
  refine Go.aloadN (pc' := 58) W2 d_jdk_52_method_16_code_57 rfl rfl rfl ?_
  exact Go.aret W2 rfl rfl d_jdk_52_method_16_code_58 (by first | exact Nat.le_of_ble_eq_true rfl | (simp; done) | (simp; omega) | omega) (by first | exact Nat.le_of_ble_eq_true rfl | (simp; done) | (simp; omega) | omega) ⟨b, cb2, rfl, rfl, rfl, B2⟩
theorem d_jdk_52_method_15_code_0 : decode jdk_52_method_15_code 0 = .ok (.iload_n 1, 1) := by decide +kernel
theorem d_jdk_52_method_15_code_1 : decode jdk_52_method_15_code 1 = .ok (.aload_n 0, 1) := by decide +kernel
theorem d_jdk_52_method_15_code_2 : decode jdk_52_method_15_code 2 = .ok (.arraylength, 1) := by decide +kernel
theorem d_jdk_52_method_15_code_3 : decode jdk_52_method_15_code 3 = .ok (.isub, 1) := by decide +kernel
theorem d_jdk_52_method_15_code_4 : decode jdk_52_method_15_code 4 = .ok (.bipush 31, 2) := by decide +kernel
theorem d_jdk_52_method_15_code_6 : decode jdk_52_method_15_code 6 = .ok (.iushr, 1) := by decide +kernel
theorem d_jdk_52_method_15_code_7 : decode jdk_52_method_15_code 7 = .ok (.i2b, 1) := by decide +kernel
theorem d_jdk_52_method_15_code_8 : decode jdk_52_method_15_code 8 = .ok (.ireturn, 1) := by decide +kernel
theorem rm_cod {l : Launch} {Z : State} {a0 : Array Value} (G : Cl Z a0) (b : Addr) (cb : Cell) (cs : List Int32) (B : ArrC Z cb .byte (latB cs)) :
    Met l Z EL1 (⟨"java/lang/StringUTF16", "coderFromArrayLen", "([BI)B"⟩ : MethodName) jdk_52_method_15_code 2 (some .byte) ({ frames := 0, cells := 0, slots := 0, locals := 0 } : Room) #[.ref b, .int cs.length.toInt32] [(b, cb)] [] (fun v σ ρ => v = some (.int 0) ∧ σ = [(b, cb)] ∧ ρ = []) := by
  refine Met.walk G.2.1 pn_0 #[.val (.ref b), .val (.int cs.length.toInt32)] (fun m => by first | (simp [entryFrame, mkF, argsToLocals, Value.category]; done) | rfl) ?_
  intro X T0 W0
  refine Go.iloadN (pc' := 1) W0 d_jdk_52_method_15_code_0 rfl rfl ?_
  refine Go.aloadN (pc' := 2) W0 d_jdk_52_method_15_code_1 rfl rfl rfl ?_
  refine Go.arrlen (pc' := 3) W0 (Or.inl (List.mem_of_getElem? (i := 0) rfl)) B cs.length.toInt32 (by rw [latB, List.length_map]) d_jdk_52_method_15_code_2 rfl ?_
  refine Go.isub (pc' := 4) W0 d_jdk_52_method_15_code_3 rfl ?_
  rw [Int32.sub_self]
  refine Go.bipush (pc' := 6) W0 (31 : Int32) d_jdk_52_method_15_code_4 (by decide) rfl ?_
  refine Go.iushr (pc' := 7) W0 d_jdk_52_method_15_code_6 rfl ?_
  refine Go.i2b (pc' := 8) W0 d_jdk_52_method_15_code_7 rfl ?_
  exact Go.nret (z' := 0) W0 (by simp) (by decide) d_jdk_52_method_15_code_8 (by decide) (by decide) ⟨rfl, rfl, rfl⟩
theorem pn_2 : plainName "java/lang/String" = true := by first | (simp [plainName, overriddenIn]; done) | decide +kernel
theorem d_jdk_42_method_149_code_0 : decode jdk_42_method_149_code 0 = .ok (.aload_n 0, 1) := by decide +kernel
theorem d_jdk_42_method_149_code_1 : decode jdk_42_method_149_code 1 = .ok (.invokespecial 1, 3) := by decide +kernel
theorem w_63 {Z : State} {a0 : Array Value} (G : Cl Z a0) : (Jvm.Cond.methodLink "java/lang/String" 1 (⟨"java/lang/Object", "<init>", "()V"⟩ : MethodName)).before a0 Z = true := G.1 _ (List.mem_of_getElem? (l := tables_1) (i := 63) rfl)
theorem w_64 {Z : State} {a0 : Array Value} (G : Cl Z a0) : (Jvm.Cond.instanceMethod (⟨"java/lang/Object", "<init>", "()V"⟩ : MethodName)).before a0 Z = true := G.1 _ (List.mem_of_getElem? (l := tables_1) (i := 64) rfl)
theorem w_65 {Z : State} {a0 : Array Value} (G : Cl Z a0) : (Jvm.Cond.code (⟨"java/lang/Object", "<init>", "()V"⟩ : MethodName) object_method_1_code 1 none).before a0 Z = true := G.1 _ (List.mem_of_getElem? (l := tables_1) (i := 65) rfl)
theorem d_jdk_42_method_149_code_4 : decode jdk_42_method_149_code 4 = .ok (.iload_n 3, 1) := by decide +kernel
theorem d_jdk_42_method_149_code_5 : decode jdk_42_method_149_code 5 = .ok (.ifCond .ne 22, 3) := by decide +kernel
theorem d_jdk_42_method_149_code_27 : decode jdk_42_method_149_code 27 = .ok (.getstatic 38, 3) := by decide +kernel
theorem w_23 {Z : State} {a0 : Array Value} (G : Cl Z a0) : (Jvm.Cond.fieldLink "java/lang/String" 38 "java/lang/String" "COMPACT_STRINGS" "Z").before a0 Z = true := G.1 _ (List.mem_of_getElem? (l := tables_1) (i := 23) rfl)
theorem d_jdk_42_method_149_code_30 : decode jdk_42_method_149_code 30 = .ok (.ifCond .eq 28, 3) := by decide +kernel
theorem d_jdk_42_method_149_code_33 : decode jdk_42_method_149_code 33 = .ok (.aload_n 1, 1) := by decide +kernel
theorem d_jdk_42_method_149_code_34 : decode jdk_42_method_149_code 34 = .ok (.iload_n 2, 1) := by decide +kernel
theorem d_jdk_42_method_149_code_35 : decode jdk_42_method_149_code 35 = .ok (.iload_n 3, 1) := by decide +kernel
theorem d_jdk_42_method_149_code_36 : decode jdk_42_method_149_code 36 = .ok (.invokestatic 177, 3) := by decide +kernel
theorem w_103 {Z : State} {a0 : Array Value} (G : Cl Z a0) : (Jvm.Cond.methodLink "java/lang/String" 177 (⟨"java/lang/StringUTF16", "compress", "([CII)[B"⟩ : MethodName)).before a0 Z = true := G.1 _ (List.mem_of_getElem? (l := tables_1) (i := 103) rfl)
theorem w_106 {Z : State} {a0 : Array Value} (G : Cl Z a0) : (Jvm.Cond.code (⟨"java/lang/StringUTF16", "compress", "([CII)[B"⟩ : MethodName) jdk_52_method_16_code 6 (some (.array .byte))).before a0 Z = true := G.1 _ (List.mem_of_getElem? (l := tables_1) (i := 106) rfl)
theorem pd_3 : parseMethodDescriptor "([CII)[B" = some ⟨[(.array .char), .int, .int], some (.array .byte)⟩ := by decide +kernel
theorem w_104 {Z : State} {a0 : Array Value} (G : Cl Z a0) : (Jvm.Cond.static (⟨"java/lang/StringUTF16", "compress", "([CII)[B"⟩ : MethodName)).before a0 Z = true := G.1 _ (List.mem_of_getElem? (l := tables_1) (i := 104) rfl)
theorem d_jdk_42_method_149_code_39 : decode jdk_42_method_149_code 39 = .ok (.astore 5, 2) := by decide +kernel
theorem d_jdk_42_method_149_code_41 : decode jdk_42_method_149_code 41 = .ok (.aload_n 0, 1) := by decide +kernel
theorem d_jdk_42_method_149_code_42 : decode jdk_42_method_149_code 42 = .ok (.aload 5, 2) := by decide +kernel
theorem d_jdk_42_method_149_code_44 : decode jdk_42_method_149_code 44 = .ok (.iload_n 3, 1) := by decide +kernel
theorem d_jdk_42_method_149_code_45 : decode jdk_42_method_149_code 45 = .ok (.invokestatic 47, 3) := by decide +kernel
theorem w_110 {Z : State} {a0 : Array Value} (G : Cl Z a0) : (Jvm.Cond.methodLink "java/lang/String" 47 (⟨"java/lang/StringUTF16", "coderFromArrayLen", "([BI)B"⟩ : MethodName)).before a0 Z = true := G.1 _ (List.mem_of_getElem? (l := tables_1) (i := 110) rfl)
theorem w_112 {Z : State} {a0 : Array Value} (G : Cl Z a0) : (Jvm.Cond.code (⟨"java/lang/StringUTF16", "coderFromArrayLen", "([BI)B"⟩ : MethodName) jdk_52_method_15_code 2 (some .byte)).before a0 Z = true := G.1 _ (List.mem_of_getElem? (l := tables_1) (i := 112) rfl)
theorem pd_4 : parseMethodDescriptor "([BI)B" = some ⟨[(.array .byte), .int], some .byte⟩ := by decide +kernel
theorem w_111 {Z : State} {a0 : Array Value} (G : Cl Z a0) : (Jvm.Cond.static (⟨"java/lang/StringUTF16", "coderFromArrayLen", "([BI)B"⟩ : MethodName)).before a0 Z = true := G.1 _ (List.mem_of_getElem? (l := tables_1) (i := 111) rfl)
theorem d_jdk_42_method_149_code_48 : decode jdk_42_method_149_code 48 = .ok (.putfield 15, 3) := by decide +kernel
theorem w_24 {Z : State} {a0 : Array Value} (G : Cl Z a0) : (Jvm.Cond.fieldLink "java/lang/String" 15 "java/lang/String" "coder" "B").before a0 Z = true := G.1 _ (List.mem_of_getElem? (l := tables_1) (i := 24) rfl)
theorem w_6 {Z : State} {a0 : Array Value} (G : Cl Z a0) : (Jvm.Cond.laysFinal "java/lang/String" "java/lang/String" "coder" "B").before a0 Z = true := G.1 _ (List.mem_of_getElem? (l := tables_1) (i := 6) rfl)
theorem w_3 {Z : State} {a0 : Array Value} (G : Cl Z a0) : (Jvm.Cond.instantiable "java/lang/String" 4).before a0 Z = true := G.1 _ (List.mem_of_getElem? (l := tables_1) (i := 3) rfl)
theorem w_5 {Z : State} {a0 : Array Value} (G : Cl Z a0) : (Jvm.Cond.laysFinal "java/lang/String" "java/lang/String" "value" "[B").before a0 Z = true := G.1 _ (List.mem_of_getElem? (l := tables_1) (i := 5) rfl)
theorem d_jdk_42_method_149_code_51 : decode jdk_42_method_149_code 51 = .ok (.aload_n 0, 1) := by decide +kernel
theorem d_jdk_42_method_149_code_52 : decode jdk_42_method_149_code 52 = .ok (.aload 5, 2) := by decide +kernel
theorem d_jdk_42_method_149_code_54 : decode jdk_42_method_149_code 54 = .ok (.putfield 9, 3) := by decide +kernel
theorem w_17 {Z : State} {a0 : Array Value} (G : Cl Z a0) : (Jvm.Cond.fieldLink "java/lang/String" 9 "java/lang/String" "value" "[B").before a0 Z = true := G.1 _ (List.mem_of_getElem? (l := tables_1) (i := 17) rfl)
theorem d_jdk_42_method_149_code_57 : decode jdk_42_method_149_code 57 = .ok (.return_, 1) := by decide +kernel
set_option maxRecDepth 65536 in
set_option maxHeartbeats 40000000 in
theorem rm_initV {l : Launch} {Z : State} {a0 : Array Value} (G : Cl Z a0) (a ac : Addr) (c cc : Cell) (cs : List Int32) (A : ArrC Z cc .char (chV cs)) (hO : ObjC Z c "java/lang/String") (hC : FldC Z c "java/lang/String" "coder" "B" (.int 0)) (hV : FldC Z c "java/lang/String" "value" "[B" .null) (hl : Lat cs) (hn : cs.length < 65536) (h0 : ¬ cs.length.toInt32 = 0) :
    Met l Z EL1 (⟨"java/lang/String", "<init>", "([CIILjava/lang/Void;)V"⟩ : MethodName) jdk_42_method_149_code 6 none ({ frames := 2, cells := 1, slots := cs.length, locals := 35 } : Room) #[.ref a, .ref ac, .int (0 : Int32), .int cs.length.toInt32, .null] [(a, c), (ac, cc)] [] (fun v σ ρ => ∃ c' b cb, v = none ∧ σ = [(ac, cc)] ∧ ρ = [(a, c'), (b, cb)] ∧ StrL Z c' b cb cs) := by
  refine Met.walk G.2.1 pn_2 #[.val (.ref a), .val (.ref ac), .val (.int (0 : Int32)), .val (.int cs.length.toInt32), .val (.null), .unset] (fun m => by first | (simp [entryFrame, mkF, argsToLocals, Value.category]; done) | rfl) ?_
  intro X T0 W0
  obtain ⟨cv, Scv, hcv⟩ := G.2.2.1
  refine Go.aloadN (pc' := 1) W0 d_jdk_42_method_149_code_0 rfl rfl rfl ?_
  refine Go.objInit (pc' := 4) W0 (w_63 G) (w_64 G) (w_65 G) rfl d_jdk_42_method_149_code_1 rfl (by first | exact Nat.le_of_ble_eq_true rfl | (simp; done) | (simp; omega) | omega) (by first | exact Nat.le_of_ble_eq_true rfl | (simp; done) | (simp; omega) | omega) (fun T1 W2 => ?_)
  refine Go.iloadN (pc' := 5) W2 d_jdk_42_method_149_code_4 rfl rfl ?_
  refine Go.if_ne (pc' := 8) W2 27 d_jdk_42_method_149_code_5 (by decide) rfl (fun _ => ?_) (fun q => absurd q h0)
  refine Go.getstatic (pc' := 30) W2 (w_23 G) Via.refl Scv d_jdk_42_method_149_code_27 rfl (fun T3 W4 => ?_)
  refine Go.if_eq (pc' := 33) W4 58 d_jdk_42_method_149_code_30 (by decide) rfl (fun q => absurd q hcv) (fun _ => ?_)
  refine Go.aloadN (pc' := 34) W4 d_jdk_42_method_149_code_33 rfl rfl rfl ?_
  refine Go.iloadN (pc' := 35) W4 d_jdk_42_method_149_code_34 rfl rfl ?_
  refine Go.iloadN (pc' := 36) W4 d_jdk_42_method_149_code_35 rfl rfl ?_
  refine Go.static (pc' := 39) W4 (rm_cmp3 G ac cc cs A hl hn) (w_103 G) (w_104 G) (w_105 G) (w_106 G) (by decide) [1] [] (σf := [(a, c)]) rfl rfl [(.ref ac), (.int (0 : Int32)), (.int cs.length.toInt32)] [] rfl (lenOf pd_3 rfl) rfl rfl d_jdk_42_method_149_code_36 rfl (by first | exact Nat.le_of_ble_eq_true rfl | (simp; done) | (simp; omega) | omega) (by first | exact Nat.le_of_ble_eq_true rfl | (simp; done) | (simp; omega) | omega) (by first | exact Nat.le_of_ble_eq_true rfl | (simp; done) | (simp; omega) | omega) (by first | exact Nat.le_of_ble_eq_true rfl | (simp; done) | (simp; omega) | omega) ?_
  rintro _ _ _ T5 ⟨b, cb, rfl, rfl, rfl, B⟩ W6
  replace W6 : Wk l Z EL1 ({ frames := 2, cells := 1, slots := cs.length, locals := 35 } : Room) "java/lang/String" jdk_42_method_149_code 6 none "<init>" X [(ac, cc), (b, cb), (a, c)] [] T5 1 (0 + cs.length) := W6
  show Go Z EL1 _ _ _ X T5 39 #[.val (.ref a), .val (.ref ac), .val (.int (0 : Int32)), .val (.int cs.length.toInt32), .val (.null), .unset] [(.ref b)]
  refine Go.astore (pc' := 41) W6 #[.val (.ref a), .val (.ref ac), .val (.int (0 : Int32)), .val (.int cs.length.toInt32), .val (.null), .val (.ref b)] d_jdk_42_method_149_code_39 rfl rfl rfl ?_
  refine Go.aloadN (pc' := 42) W6 d_jdk_42_method_149_code_41 rfl rfl rfl ?_
  refine Go.aload (pc' := 44) W6 d_jdk_42_method_149_code_42 rfl rfl rfl ?_
  refine Go.iloadN (pc' := 45) W6 d_jdk_42_method_149_code_44 rfl rfl ?_
  refine Go.static (pc' := 48) W6 (rm_cod G b cb cs B) (w_110 G) (w_111 G) (w_105 G) (w_112 G) (by decide) [1] [] (σf := [(ac, cc), (a, c)]) rfl rfl [(.ref b), (.int cs.length.toInt32)] [(.ref a)] rfl (lenOf pd_4 rfl) rfl rfl d_jdk_42_method_149_code_45 rfl (by first | exact Nat.le_of_ble_eq_true rfl | (simp; done) | (simp; omega) | omega) (by first | exact Nat.le_of_ble_eq_true rfl | (simp; done) | (simp; omega) | omega) (by first | exact Nat.le_of_ble_eq_true rfl | (simp; done) | (simp; omega) | omega) (by first | exact Nat.le_of_ble_eq_true rfl | (simp; done) | (simp; omega) | omega) ?_
  rintro _ _ _ T7 ⟨rfl, rfl, rfl⟩ W8
  replace W8 : Wk l Z EL1 ({ frames := 2, cells := 1, slots := cs.length, locals := 35 } : Room) "java/lang/String" jdk_42_method_149_code 6 none "<init>" X [(b, cb), (ac, cc), (a, c)] [] T7 1 (0 + cs.length + 0) := W8
  show Go Z EL1 _ _ _ X T7 48 #[.val (.ref a), .val (.ref ac), .val (.int (0 : Int32)), .val (.int cs.length.toInt32), .val (.null), .val (.ref b)] [(.int (0 : Int32)), (.ref a)]
  refine Go.putfield (pc' := 51) W8 2 rfl (w_24 G) Via.refl hC hO (Or.inr ⟨(w_6 G), rfl, rfl⟩) (w_3 G) (ty := .byte) (v' := .int (0 : Int32)) (by decide) rfl rfl d_jdk_42_method_149_code_48 rfl (fun T9 c11 q12 W10 => ?_)
  replace W10 : Wk l Z EL1 ({ frames := 2, cells := 1, slots := cs.length, locals := 35 } : Room) "java/lang/String" jdk_42_method_149_code 6 none "<init>" X [(b, cb), (ac, cc), (a, c11)] [] T9 1 (0 + cs.length + 0) := W10
  have O13 := hO.put' q12
  have F14 := hC.put' q12
  have F15 := hV.keep' q12 (slot_ne (Or.inr (w_5 G)) (Or.inr (w_6 G)) (by decide) (t := (.array .byte)) (t' := .byte) (by decide) (by decide))
  refine Go.aloadN (pc' := 52) W10 d_jdk_42_method_149_code_51 rfl rfl rfl ?_
  refine Go.aload (pc' := 54) W10 d_jdk_42_method_149_code_52 rfl rfl rfl ?_
  refine Go.putfield (pc' := 57) W10 2 rfl (w_17 G) Via.refl F15 O13 (Or.inr ⟨(w_5 G), rfl, rfl⟩) (w_3 G) (ty := (.array .byte)) (v' := .ref b) (by decide) rfl rfl d_jdk_42_method_149_code_54 rfl (fun T16 c18 q19 W17 => ?_)
  replace W17 : Wk l Z EL1 ({ frames := 2, cells := 1, slots := cs.length, locals := 35 } : Room) "java/lang/String" jdk_42_method_149_code 6 none "<init>" X [(b, cb), (ac, cc), (a, c18)] [] T16 1 (0 + cs.length + 0) := W17
  have O20 := O13.put' q19
  have F21 := F14.keep' q19 (slot_ne (Or.inr (w_6 G)) (Or.inr (w_5 G)) (by decide) (t := .byte) (t' := (.array .byte)) (by decide) (by decide))
  have F22 := F15.put' q19
  have W23 := W17.freeze [2, 0] (σi := [(a, c18), (b, cb)]) (σf := [(ac, cc)]) rfl
  replace W23 : Wk l Z EL1 ({ frames := 2, cells := 1, slots := cs.length, locals := 35 } : Room) "java/lang/String" jdk_42_method_149_code 6 none "<init>" X [(ac, cc)] [(a, c18), (b, cb)] T16 1 (0 + cs.length + 0) := W23
  refine Go.retV W23 d_jdk_42_method_149_code_57 (by first | exact Nat.le_of_ble_eq_true rfl | (simp; done) | (simp; omega) | omega) (by first | exact Nat.le_of_ble_eq_true rfl | (simp; done) | (simp; omega) | omega) ?_
  exact ⟨_, b, cb, rfl, rfl, rfl, O20, F21, F22, B, hl⟩
theorem d_jdk_42_method_149_code_8 : decode jdk_42_method_149_code 8 = .ok (.aload_n 0, 1) := by decide +kernel
theorem d_jdk_42_method_149_code_9 : decode jdk_42_method_149_code 9 = .ok (.ldc 7, 2) := by decide +kernel
theorem w_66 {Z : State} {a0 : Array Value} (G : Cl Z a0) : (Jvm.Cond.stringLink "java/lang/String" 7 "").before a0 Z = true := G.1 _ (List.mem_of_getElem? (l := tables_1) (i := 66) rfl)
theorem d_jdk_42_method_149_code_11 : decode jdk_42_method_149_code 11 = .ok (.getfield 9, 3) := by decide +kernel
theorem d_jdk_42_method_149_code_14 : decode jdk_42_method_149_code 14 = .ok (.putfield 9, 3) := by decide +kernel
theorem d_jdk_42_method_149_code_17 : decode jdk_42_method_149_code 17 = .ok (.aload_n 0, 1) := by decide +kernel
theorem d_jdk_42_method_149_code_18 : decode jdk_42_method_149_code 18 = .ok (.ldc 7, 2) := by decide +kernel
theorem d_jdk_42_method_149_code_20 : decode jdk_42_method_149_code 20 = .ok (.getfield 15, 3) := by decide +kernel
theorem d_jdk_42_method_149_code_23 : decode jdk_42_method_149_code 23 = .ok (.putfield 15, 3) := by decide +kernel
theorem d_jdk_42_method_149_code_26 : decode jdk_42_method_149_code 26 = .ok (.return_, 1) := by decide +kernel
set_option maxRecDepth 65536 in
set_option maxHeartbeats 40000000 in
theorem rm_initV0 {l : Launch} {Z : State} {a0 : Array Value} (G : Cl Z a0) (a ac : Addr) (c cc : Cell) (A : ArrC Z cc .char []) (hO : ObjC Z c "java/lang/String") (hC : FldC Z c "java/lang/String" "coder" "B" (.int 0)) (hV : FldC Z c "java/lang/String" "value" "[B" .null) :
    Met l Z EL1 (⟨"java/lang/String", "<init>", "([CIILjava/lang/Void;)V"⟩ : MethodName) jdk_42_method_149_code 6 none ({ frames := 1, cells := 4, slots := 8, locals := 12 } : Room) #[.ref a, .ref ac, .int (0 : Int32), .int (0 : Int32), .null] [(a, c), (ac, cc)] [] (fun v σ ρ => ∃ c' b cb, v = none ∧ σ = [(ac, cc)] ∧ ρ = [(a, c'), (b, cb)] ∧ StrL Z c' b cb []) := by
  refine Met.walk G.2.1 pn_2 #[.val (.ref a), .val (.ref ac), .val (.int (0 : Int32)), .val (.int (0 : Int32)), .val (.null), .unset] (fun m => by first | (simp [entryFrame, mkF, argsToLocals, Value.category]; done) | rfl) ?_
  intro X T0 W0
  refine Go.aloadN (pc' := 1) W0 d_jdk_42_method_149_code_0 rfl rfl rfl ?_
  refine Go.objInit (pc' := 4) W0 (w_63 G) (w_64 G) (w_65 G) rfl d_jdk_42_method_149_code_1 rfl (by first | exact Nat.le_of_ble_eq_true rfl | (simp; done) | (simp; omega) | omega) (by first | exact Nat.le_of_ble_eq_true rfl | (simp; done) | (simp; omega) | omega) (fun T1 W2 => ?_)
  refine Go.iloadN (pc' := 5) W2 d_jdk_42_method_149_code_4 rfl rfl ?_
  refine Go.if_ne (pc' := 8) W2 27 d_jdk_42_method_149_code_5 (by decide) rfl (fun q => absurd (by decide) q) (fun _ => ?_)
  refine Go.aloadN (pc' := 9) W2 d_jdk_42_method_149_code_8 rfl rfl rfl ?_
  refine Go.ldcStr (pc' := 11) W2 G.2.1 (w_66 G) (strAtoms G) (by decide) (bs := []) (z := 0) (by decide +kernel) (by decide) (by decide) (by decide) d_jdk_42_method_149_code_9 rfl (m := 0) (by decide +kernel) (by decide) (by first | exact Nat.le_of_ble_eq_true rfl | (simp; done) | (simp; omega) | omega) (by first | exact Nat.le_of_ble_eq_true rfl | (simp; done) | (simp; omega) | omega) (fun T3 a5 b6 c7 c8 W4 O9 F10 F11 A12 => ?_)
  replace W4 : Wk l Z EL1 ({ frames := 1, cells := 4, slots := 8, locals := 12 } : Room) "java/lang/String" jdk_42_method_149_code 6 none "<init>" X [(a, c), (ac, cc)] [(a5, c7), (b6, c8)] T3 2 (4) := W4
  refine Go.getfield (pc' := 14) W4 (Or.inr (Or.inl (List.mem_of_getElem? (i := 0) rfl))) (w_17 G) Via.refl F11 d_jdk_42_method_149_code_11 rfl (fun T13 W14 => ?_)
  refine Go.putfield (pc' := 17) W14 0 rfl (w_17 G) Via.refl hV hO (Or.inr ⟨(w_5 G), rfl, rfl⟩) (w_3 G) (ty := (.array .byte)) (v' := .ref b6) (by decide) rfl rfl d_jdk_42_method_149_code_14 rfl (fun T15 c17 q18 W16 => ?_)
  replace W16 : Wk l Z EL1 ({ frames := 1, cells := 4, slots := 8, locals := 12 } : Room) "java/lang/String" jdk_42_method_149_code 6 none "<init>" X [(a, c17), (ac, cc)] [(a5, c7), (b6, c8)] T15 2 (4) := W16
  have O19 := hO.put' q18
  have F20 := hC.keep' q18 (slot_ne (Or.inr (w_6 G)) (Or.inr (w_5 G)) (by decide) (t := .byte) (t' := (.array .byte)) (by decide) (by decide))
  have F21 := hV.put' q18
  refine Go.aloadN (pc' := 18) W16 d_jdk_42_method_149_code_17 rfl rfl rfl ?_
  refine Go.ldcStr (pc' := 20) W16 G.2.1 (w_66 G) (strAtoms G) (by decide) (bs := []) (z := 0) (by decide +kernel) (by decide) (by decide) (by decide) d_jdk_42_method_149_code_18 rfl (m := 0) (by decide +kernel) (by decide) (by first | exact Nat.le_of_ble_eq_true rfl | (simp; done) | (simp; omega) | omega) (by first | exact Nat.le_of_ble_eq_true rfl | (simp; done) | (simp; omega) | omega) (fun T22 a24 b25 c26 c27 W23 O28 F29 F30 A31 => ?_)
  replace W23 : Wk l Z EL1 ({ frames := 1, cells := 4, slots := 8, locals := 12 } : Room) "java/lang/String" jdk_42_method_149_code 6 none "<init>" X [(a, c17), (ac, cc)] [(a24, c26), (b25, c27), (a5, c7), (b6, c8)] T22 4 (8) := W23
  refine Go.getfield (pc' := 23) W23 (Or.inr (Or.inl (List.mem_of_getElem? (i := 0) rfl))) (w_24 G) Via.refl F29 d_jdk_42_method_149_code_20 rfl (fun T32 W33 => ?_)
  refine Go.putfield (pc' := 26) W33 0 rfl (w_24 G) Via.refl F20 O19 (Or.inr ⟨(w_6 G), rfl, rfl⟩) (w_3 G) (ty := .byte) (v' := .int (0 : Int32)) (by decide) rfl rfl d_jdk_42_method_149_code_23 rfl (fun T34 c36 q37 W35 => ?_)
  replace W35 : Wk l Z EL1 ({ frames := 1, cells := 4, slots := 8, locals := 12 } : Room) "java/lang/String" jdk_42_method_149_code 6 none "<init>" X [(a, c36), (ac, cc)] [(a24, c26), (b25, c27), (a5, c7), (b6, c8)] T34 4 (8) := W35
  have O38 := O19.put' q37
  have F39 := F20.put' q37
  have F40 := F21.keep' q37 (slot_ne (Or.inr (w_5 G)) (Or.inr (w_6 G)) (by decide) (t := (.array .byte)) (t' := .byte) (by decide) (by decide))
  have W41 := W35.freeze [0] (σi := [(a, c36)]) (σf := [(ac, cc)]) rfl
  replace W41 : Wk l Z EL1 ({ frames := 1, cells := 4, slots := 8, locals := 12 } : Room) "java/lang/String" jdk_42_method_149_code 6 none "<init>" X [(ac, cc)] [(a, c36), (a24, c26), (b25, c27), (a5, c7), (b6, c8)] T34 4 (8) := W41
  have W42 := W41.keepRo [0, 4] (ρ' := [(a, c36), (b6, c8)]) rfl
  replace W42 : Wk l Z EL1 ({ frames := 1, cells := 4, slots := 8, locals := 12 } : Room) "java/lang/String" jdk_42_method_149_code 6 none "<init>" X [(ac, cc)] [(a, c36), (b6, c8)] T34 4 (8) := W42
  refine Go.retV W42 d_jdk_42_method_149_code_26 (by first | exact Nat.le_of_ble_eq_true rfl | (simp; done) | (simp; omega) | omega) (by first | exact Nat.le_of_ble_eq_true rfl | (simp; done) | (simp; omega) | omega) ?_
  exact ⟨_, b6, c8, rfl, rfl, rfl, O38, F39, F40, A12, Lat.nil⟩
theorem d_jdk_42_method_3_code_0 : decode jdk_42_method_3_code 0 = .ok (.aload_n 0, 1) := by decide +kernel
theorem d_jdk_42_method_3_code_1 : decode jdk_42_method_3_code 1 = .ok (.aload_n 1, 1) := by decide +kernel
theorem d_jdk_42_method_3_code_2 : decode jdk_42_method_3_code 2 = .ok (.iconst 0, 1) := by decide +kernel
theorem d_jdk_42_method_3_code_3 : decode jdk_42_method_3_code 3 = .ok (.aload_n 1, 1) := by decide +kernel
theorem d_jdk_42_method_3_code_4 : decode jdk_42_method_3_code 4 = .ok (.arraylength, 1) := by decide +kernel
theorem d_jdk_42_method_3_code_5 : decode jdk_42_method_3_code 5 = .ok (.aconst_null, 1) := by decide +kernel
theorem d_jdk_42_method_3_code_6 : decode jdk_42_method_3_code 6 = .ok (.invokespecial 27, 3) := by decide +kernel
theorem w_59 {Z : State} {a0 : Array Value} (G : Cl Z a0) : (Jvm.Cond.methodLink "java/lang/String" 27 (⟨"java/lang/String", "<init>", "([CIILjava/lang/Void;)V"⟩ : MethodName)).before a0 Z = true := G.1 _ (List.mem_of_getElem? (l := tables_1) (i := 59) rfl)
theorem w_2 {Z : State} {a0 : Array Value} (G : Cl Z a0) : (Jvm.Cond.initialized "java/lang/String").before a0 Z = true := G.1 _ (List.mem_of_getElem? (l := tables_1) (i := 2) rfl)
theorem w_62 {Z : State} {a0 : Array Value} (G : Cl Z a0) : (Jvm.Cond.code (⟨"java/lang/String", "<init>", "([CIILjava/lang/Void;)V"⟩ : MethodName) jdk_42_method_149_code 6 none).before a0 Z = true := G.1 _ (List.mem_of_getElem? (l := tables_1) (i := 62) rfl)
theorem pd_5 : parseMethodDescriptor "([CIILjava/lang/Void;)V" = some ⟨[(.array .char), .int, .int, (.object "java/lang/Void")], none⟩ := by decide +kernel
theorem w_60 {Z : State} {a0 : Array Value} (G : Cl Z a0) : (Jvm.Cond.instanceMethod (⟨"java/lang/String", "<init>", "([CIILjava/lang/Void;)V"⟩ : MethodName)).before a0 Z = true := G.1 _ (List.mem_of_getElem? (l := tables_1) (i := 60) rfl)
theorem d_jdk_42_method_3_code_9 : decode jdk_42_method_3_code 9 = .ok (.return_, 1) := by decide +kernel
set_option maxRecDepth 65536 in
set_option maxHeartbeats 40000000 in
theorem rm_initC0 {l : Launch} {Z : State} {a0 : Array Value} (G : Cl Z a0) (a ac : Addr) (c cc : Cell) (A : ArrC Z cc .char []) (hO : ObjC Z c "java/lang/String") (hC : FldC Z c "java/lang/String" "coder" "B" (.int 0)) (hV : FldC Z c "java/lang/String" "value" "[B" .null) :
    Met l Z EL1 (⟨"java/lang/String", "<init>", "([C)V"⟩ : MethodName) jdk_42_method_3_code 2 none ({ frames := 2, cells := 4, slots := 8, locals := 29 } : Room) #[.ref a, .ref ac] [(a, c), (ac, cc)] [] (fun v σ ρ => ∃ c' b cb, v = none ∧ σ = [(ac, cc)] ∧ ρ = [(a, c'), (b, cb)] ∧ StrL Z c' b cb []) := by
  refine Met.walk G.2.1 pn_2 #[.val (.ref a), .val (.ref ac)] (fun m => by first | (simp [entryFrame, mkF, argsToLocals, Value.category]; done) | rfl) ?_
  intro X T0 W0
  refine Go.aloadN (pc' := 1) W0 d_jdk_42_method_3_code_0 rfl rfl rfl ?_
  refine Go.aloadN (pc' := 2) W0 d_jdk_42_method_3_code_1 rfl rfl rfl ?_
  refine Go.iconst (pc' := 3) W0 (0 : Int32) d_jdk_42_method_3_code_2 (by decide) rfl ?_
  refine Go.aloadN (pc' := 4) W0 d_jdk_42_method_3_code_3 rfl rfl rfl ?_
  refine Go.arrlen (pc' := 5) W0 (Or.inl (List.mem_of_getElem? (i := 1) rfl)) A (0 : Int32) rfl d_jdk_42_method_3_code_4 rfl ?_
  refine Go.aconstNull (pc' := 6) W0 d_jdk_42_method_3_code_5 rfl ?_
  refine Go.special (pc' := 9) W0 (a := a) (rm_initV0 G a ac c cc A hO hC hV) rfl (w_59 G) (w_60 G) (w_2 G) (w_62 G) (by decide) [0, 0] [] (σf := []) rfl rfl [(.ref ac), (.int (0 : Int32)), (.int (0 : Int32)), (.null)] [] rfl (lenOf pd_5 rfl) rfl rfl d_jdk_42_method_3_code_6 rfl (by first | exact Nat.le_of_ble_eq_true rfl | (simp; done) | (simp; omega) | omega) (by first | exact Nat.le_of_ble_eq_true rfl | (simp; done) | (simp; omega) | omega) (by first | exact Nat.le_of_ble_eq_true rfl | (simp; done) | (simp; omega) | omega) (by first | exact Nat.le_of_ble_eq_true rfl | (simp; done) | (simp; omega) | omega) ?_
  rintro _ _ _ T1 ⟨c', b, cb, rfl, rfl, rfl, S⟩ W2
  replace W2 : Wk l Z EL1 ({ frames := 2, cells := 4, slots := 8, locals := 29 } : Room) "java/lang/String" jdk_42_method_3_code 2 none "<init>" X [(ac, cc)] [(a, c'), (b, cb)] T1 4 (8) := W2
  show Go Z EL1 _ _ _ X T1 9 #[.val (.ref a), .val (.ref ac)] []
  refine Go.retV W2 d_jdk_42_method_3_code_9 (by first | exact Nat.le_of_ble_eq_true rfl | (simp; done) | (simp; omega) | omega) (by first | exact Nat.le_of_ble_eq_true rfl | (simp; done) | (simp; omega) | omega) ?_
  exact ⟨c', b, cb, rfl, rfl, rfl, S⟩
set_option maxRecDepth 65536 in
set_option maxHeartbeats 40000000 in
theorem rm_initC {l : Launch} {Z : State} {a0 : Array Value} (G : Cl Z a0) (a ac : Addr) (c cc : Cell) (cs : List Int32) (A : ArrC Z cc .char (chV cs)) (hO : ObjC Z c "java/lang/String") (hC : FldC Z c "java/lang/String" "coder" "B" (.int 0)) (hV : FldC Z c "java/lang/String" "value" "[B" .null) (hl : Lat cs) (hn : cs.length < 65536) (h0 : ¬ cs.length.toInt32 = 0) :
    Met l Z EL1 (⟨"java/lang/String", "<init>", "([C)V"⟩ : MethodName) jdk_42_method_3_code 2 none ({ frames := 3, cells := 1, slots := cs.length, locals := 52 } : Room) #[.ref a, .ref ac] [(a, c), (ac, cc)] [] (fun v σ ρ => ∃ c' b cb, v = none ∧ σ = [(ac, cc)] ∧ ρ = [(a, c'), (b, cb)] ∧ StrL Z c' b cb cs) := by
  refine Met.walk G.2.1 pn_2 #[.val (.ref a), .val (.ref ac)] (fun m => by first | (simp [entryFrame, mkF, argsToLocals, Value.category]; done) | rfl) ?_
  intro X T0 W0
  refine Go.aloadN (pc' := 1) W0 d_jdk_42_method_3_code_0 rfl rfl rfl ?_
  refine Go.aloadN (pc' := 2) W0 d_jdk_42_method_3_code_1 rfl rfl rfl ?_
  refine Go.iconst (pc' := 3) W0 (0 : Int32) d_jdk_42_method_3_code_2 (by decide) rfl ?_
  refine Go.aloadN (pc' := 4) W0 d_jdk_42_method_3_code_3 rfl rfl rfl ?_
  refine Go.arrlen (pc' := 5) W0 (Or.inl (List.mem_of_getElem? (i := 1) rfl)) A cs.length.toInt32 (by rw [chV, List.length_map]) d_jdk_42_method_3_code_4 rfl ?_
  refine Go.aconstNull (pc' := 6) W0 d_jdk_42_method_3_code_5 rfl ?_
  refine Go.special (pc' := 9) W0 (a := a) (rm_initV G a ac c cc cs A hO hC hV hl hn h0) rfl (w_59 G) (w_60 G) (w_2 G) (w_62 G) (by decide) [0, 0] [] (σf := []) rfl rfl [(.ref ac), (.int (0 : Int32)), (.int cs.length.toInt32), (.null)] [] rfl (lenOf pd_5 rfl) rfl rfl d_jdk_42_method_3_code_6 rfl (by first | exact Nat.le_of_ble_eq_true rfl | (simp; done) | (simp; omega) | omega) (by first | exact Nat.le_of_ble_eq_true rfl | (simp; done) | (simp; omega) | omega) (by first | exact Nat.le_of_ble_eq_true rfl | (simp; done) | (simp; omega) | omega) (by first | exact Nat.le_of_ble_eq_true rfl | (simp; done) | (simp; omega) | omega) ?_
  rintro _ _ _ T1 ⟨c', b, cb, rfl, rfl, rfl, S⟩ W2
  replace W2 : Wk l Z EL1 ({ frames := 3, cells := 1, slots := cs.length, locals := 52 } : Room) "java/lang/String" jdk_42_method_3_code 2 none "<init>" X [(ac, cc)] [(a, c'), (b, cb)] T1 1 (0 + cs.length) := W2
  show Go Z EL1 _ _ _ X T1 9 #[.val (.ref a), .val (.ref ac)] []
  refine Go.retV W2 d_jdk_42_method_3_code_9 (by first | exact Nat.le_of_ble_eq_true rfl | (simp; done) | (simp; omega) | omega) (by first | exact Nat.le_of_ble_eq_true rfl | (simp; done) | (simp; omega) | omega) ?_
  exact ⟨c', b, cb, rfl, rfl, rfl, S⟩
theorem d_jdk_43_method_13_code_0 : decode jdk_43_method_13_code 0 = .ok (.aload_n 0, 1) := by decide +kernel
theorem d_jdk_43_method_13_code_1 : decode jdk_43_method_13_code 1 = .ok (.arraylength, 1) := by decide +kernel
theorem d_jdk_43_method_13_code_2 : decode jdk_43_method_13_code 2 = .ok (.aload_n 1, 1) := by decide +kernel
theorem d_jdk_43_method_13_code_3 : decode jdk_43_method_13_code 3 = .ok (.arraylength, 1) := by decide +kernel
theorem d_jdk_43_method_13_code_4 : decode jdk_43_method_13_code 4 = .ok (.if_icmp .ne 30, 3) := by decide +kernel
theorem d_jdk_43_method_13_code_7 : decode jdk_43_method_13_code 7 = .ok (.iconst 0, 1) := by decide +kernel
theorem d_jdk_43_method_13_code_8 : decode jdk_43_method_13_code 8 = .ok (.istore_n 2, 1) := by decide +kernel
theorem d_jdk_43_method_13_code_9 : decode jdk_43_method_13_code 9 = .ok (.iload_n 2, 1) := by decide +kernel
theorem d_jdk_43_method_13_code_10 : decode jdk_43_method_13_code 10 = .ok (.aload_n 0, 1) := by decide +kernel
theorem d_jdk_43_method_13_code_11 : decode jdk_43_method_13_code 11 = .ok (.arraylength, 1) := by decide +kernel
theorem d_jdk_43_method_13_code_12 : decode jdk_43_method_13_code 12 = .ok (.if_icmp .ge 20, 3) := by decide +kernel
theorem d_jdk_43_method_13_code_15 : decode jdk_43_method_13_code 15 = .ok (.aload_n 0, 1) := by decide +kernel
theorem d_jdk_43_method_13_code_16 : decode jdk_43_method_13_code 16 = .ok (.iload_n 2, 1) := by decide +kernel
theorem d_jdk_43_method_13_code_17 : decode jdk_43_method_13_code 17 = .ok (.baload, 1) := by decide +kernel
theorem d_jdk_43_method_13_code_18 : decode jdk_43_method_13_code 18 = .ok (.aload_n 1, 1) := by decide +kernel
theorem d_jdk_43_method_13_code_19 : decode jdk_43_method_13_code 19 = .ok (.iload_n 2, 1) := by decide +kernel
theorem d_jdk_43_method_13_code_20 : decode jdk_43_method_13_code 20 = .ok (.baload, 1) := by decide +kernel
theorem d_jdk_43_method_13_code_21 : decode jdk_43_method_13_code 21 = .ok (.if_icmp .eq 5, 3) := by decide +kernel
theorem d_jdk_43_method_13_code_24 : decode jdk_43_method_13_code 24 = .ok (.iconst 0, 1) := by decide +kernel
theorem d_jdk_43_method_13_code_25 : decode jdk_43_method_13_code 25 = .ok (.ireturn, 1) := by decide +kernel
theorem d_jdk_43_method_13_code_26 : decode jdk_43_method_13_code 26 = .ok (.iinc 2 1, 3) := by decide +kernel
theorem d_jdk_43_method_13_code_29 : decode jdk_43_method_13_code 29 = .ok (.goto (-20), 3) := by decide +kernel
theorem d_jdk_43_method_13_code_32 : decode jdk_43_method_13_code 32 = .ok (.iconst 1, 1) := by decide +kernel
theorem d_jdk_43_method_13_code_33 : decode jdk_43_method_13_code 33 = .ok (.ireturn, 1) := by decide +kernel
theorem d_jdk_43_method_13_code_34 : decode jdk_43_method_13_code 34 = .ok (.iconst 0, 1) := by decide +kernel
theorem d_jdk_43_method_13_code_35 : decode jdk_43_method_13_code 35 = .ok (.ireturn, 1) := by decide +kernel
theorem lp_leq {l : Launch} {Z : State} {X : Ctx} {b b' : Addr} {cb cb' : Cell} {xs ys : List Int32} (A : ArrC Z cb .byte (chV xs)) (B : ArrC Z cb' .byte (chV ys)) (hn : xs.length < 2147483648) (he : xs.length = ys.length) :
    ∀ (j i : Nat), i + j = xs.length → xs.take i = ys.take i → ∀ (T : State), Wk l Z EL1 ({ frames := 0, cells := 0, slots := 0, locals := 0 } : Room) "java/lang/StringLatin1" jdk_43_method_13_code 3 (some .boolean) "equals" X [] [(b, cb), (b', cb')] T 0 0 → Go Z EL1 0 0 (fun v σ ρ => v = some (.int (if xs = ys then 1 else 0)) ∧ σ = [] ∧ ρ = [(b, cb), (b', cb')]) X T 9 #[.val (.ref b), .val (.ref b'), .val (.int i.toInt32)] []
  | 0, i, hij, ht, T, W => by
    obtain rfl : i = xs.length := by omega
    have hxy : xs = ys := by rw [List.take_length, he, List.take_length] at ht; exact ht
    refine Go.iloadN (pc' := 10) W d_jdk_43_method_13_code_9 rfl rfl ?_
    refine Go.aloadN (pc' := 11) W d_jdk_43_method_13_code_10 rfl rfl rfl ?_
    refine Go.arrlen (pc' := 12) W (Or.inr (Or.inl (List.mem_of_getElem? (i := 0) rfl))) A xs.length.toInt32 (by rw [chV, List.length_map]) d_jdk_43_method_13_code_11 rfl ?_
    refine Go.icmp_ge (pc' := 15) W 32 d_jdk_43_method_13_code_12 (by decide) rfl (fun _ => ?_) (fun q => absurd q (by rw [i32_lt hn hn]; omega))
    refine Go.iconst (pc' := 33) W (1 : Int32) d_jdk_43_method_13_code_32 (by decide) rfl ?_
    exact Go.nret (z' := 1) W (by simp) (by decide) d_jdk_43_method_13_code_33 (by decide) (by decide) ⟨by rw [if_pos hxy], rfl, rfl⟩
  | j + 1, i, hij, ht, T, W => by
    have hi : i < xs.length := by omega
    obtain ⟨x, hx⟩ : ∃ x, xs[i]? = some x := ⟨_, List.getElem?_eq_getElem hi⟩
    obtain ⟨y, hy⟩ : ∃ y, ys[i]? = some y := ⟨_, List.getElem?_eq_getElem (by omega)⟩
    refine Go.iloadN (pc' := 10) W d_jdk_43_method_13_code_9 rfl rfl ?_
    refine Go.aloadN (pc' := 11) W d_jdk_43_method_13_code_10 rfl rfl rfl ?_
    refine Go.arrlen (pc' := 12) W (Or.inr (Or.inl (List.mem_of_getElem? (i := 0) rfl))) A xs.length.toInt32 (by rw [chV, List.length_map]) d_jdk_43_method_13_code_11 rfl ?_
    refine Go.icmp_ge (pc' := 15) W 32 d_jdk_43_method_13_code_12 (by decide) rfl (fun q => absurd ((i32_lt (by omega) hn).mpr hi) q) (fun _ => ?_)
    refine Go.aloadN (pc' := 16) W d_jdk_43_method_13_code_15 rfl rfl rfl ?_
    refine Go.iloadN (pc' := 17) W d_jdk_43_method_13_code_16 rfl rfl ?_
    refine Go.baload (pc' := 18) W (Or.inr (Or.inl (List.mem_of_getElem? (i := 0) rfl))) A i (i32_nn (by omega)) (i32_clamp (by omega)) (v := .int x) (by rw [chV, List.getElem?_map, hx]; rfl) d_jdk_43_method_13_code_17 rfl ?_
    refine Go.aloadN (pc' := 19) W d_jdk_43_method_13_code_18 rfl rfl rfl ?_
    refine Go.iloadN (pc' := 20) W d_jdk_43_method_13_code_19 rfl rfl ?_
    refine Go.baload (pc' := 21) W (Or.inr (Or.inl (List.mem_of_getElem? (i := 1) rfl))) B i (i32_nn (by omega)) (i32_clamp (by omega)) (v := .int y) (by rw [chV, List.getElem?_map, hy]; rfl) d_jdk_43_method_13_code_20 rfl ?_
    refine Go.icmp_eq (pc' := 24) W 26 d_jdk_43_method_13_code_21 (by decide) rfl (fun (c : x = y) => ?_) (fun (c : ¬ x = y) => ?_)
    · refine Go.iinc (pc' := 29) W (1 : Int32) #[.val (.ref b), .val (.ref b'), .val (.int (i.toInt32 + 1))] d_jdk_43_method_13_code_26 rfl (by decide) rfl rfl ?_
      refine Go.goto W 9 d_jdk_43_method_13_code_29 (by decide) ?_
      rw [i32_succ (by omega)]
      exact lp_leq A B hn he j (i + 1) (by omega) (by rw [take_succ' hx, take_succ' hy, ht, c]) T W
    · refine Go.iconst (pc' := 25) W (0 : Int32) d_jdk_43_method_13_code_24 (by decide) rfl ?_
      refine Go.nret (z' := 0) W (by simp) (by decide) d_jdk_43_method_13_code_25 (by decide) (by decide) ⟨?_, rfl, rfl⟩
      rw [if_neg]
      rintro rfl
      exact c (Option.some.inj (hx.symm.trans hy))
theorem pn_6 : plainName "java/lang/StringLatin1" = true := by first | (simp [plainName, overriddenIn]; done) | decide +kernel
theorem rm_leq {l : Launch} {Z : State} {a0 : Array Value} (G : Cl Z a0) (b b' : Addr) (cb cb' : Cell) (xs ys : List Int32) (A : ArrC Z cb .byte (chV xs)) (B : ArrC Z cb' .byte (chV ys)) :
    Met l Z EL1 (⟨"java/lang/StringLatin1", "equals", "([B[B)Z"⟩ : MethodName) jdk_43_method_13_code 3 (some .boolean) ({ frames := 0, cells := 0, slots := 0, locals := 0 } : Room) #[.ref b, .ref b'] [] [(b, cb), (b', cb')] (fun v σ ρ => v = some (.int (if xs = ys then 1 else 0)) ∧ σ = [] ∧ ρ = [(b, cb), (b', cb')]) := by
  have hn : xs.length < 2147483648 := by have := A.2.2.2.2; rwa [chV, List.length_map] at this
  have hn' : ys.length < 2147483648 := by have := B.2.2.2.2; rwa [chV, List.length_map] at this
  refine Met.walk G.2.1 pn_6 #[.val (.ref b), .val (.ref b'), .unset] (fun m => by first | (simp [entryFrame, mkF, argsToLocals, Value.category]; done) | rfl) ?_
  intro X T W
  refine Go.aloadN (pc' := 1) W d_jdk_43_method_13_code_0 rfl rfl rfl ?_
  refine Go.arrlen (pc' := 2) W (Or.inr (Or.inl (List.mem_of_getElem? (i := 0) rfl))) A xs.length.toInt32 (by rw [chV, List.length_map]) d_jdk_43_method_13_code_1 rfl ?_
  refine Go.aloadN (pc' := 3) W d_jdk_43_method_13_code_2 rfl rfl rfl ?_
  refine Go.arrlen (pc' := 4) W (Or.inr (Or.inl (List.mem_of_getElem? (i := 1) rfl))) B ys.length.toInt32 (by rw [chV, List.length_map]) d_jdk_43_method_13_code_3 rfl ?_
  refine Go.icmp_ne (pc' := 7) W 34 d_jdk_43_method_13_code_4 (by decide) rfl (fun (c : ¬ xs.length.toInt32 = ys.length.toInt32) => ?_) (fun (c : xs.length.toInt32 = ys.length.toInt32) => ?_)
  · refine Go.iconst (pc' := 35) W (0 : Int32) d_jdk_43_method_13_code_34 (by decide) rfl ?_
    refine Go.nret (z' := 0) W (by simp) (by decide) d_jdk_43_method_13_code_35 (by decide) (by decide) ⟨?_, rfl, rfl⟩
    rw [if_neg]
    rintro rfl
    exact c rfl
  · refine Go.iconst (pc' := 8) W (0 : Int32) d_jdk_43_method_13_code_7 (by decide) rfl ?_
    refine Go.istoreN (pc' := 9) W #[.val (.ref b), .val (.ref b'), .val (.int 0)] d_jdk_43_method_13_code_8 rfl rfl ?_
    exact lp_leq A B hn ((i32_inj hn hn').mp c) xs.length 0 (by omega) rfl T W
theorem d_jdk_42_method_66_code_0 : decode jdk_42_method_66_code 0 = .ok (.aload_n 0, 1) := by decide +kernel
theorem d_jdk_42_method_66_code_1 : decode jdk_42_method_66_code 1 = .ok (.aload_n 1, 1) := by decide +kernel
theorem d_jdk_42_method_66_code_2 : decode jdk_42_method_66_code 2 = .ok (.if_acmp .ne 5, 3) := by decide +kernel
theorem d_jdk_42_method_66_code_5 : decode jdk_42_method_66_code 5 = .ok (.iconst 1, 1) := by decide +kernel
theorem d_jdk_42_method_66_code_6 : decode jdk_42_method_66_code 6 = .ok (.ireturn, 1) := by decide +kernel
theorem d_jdk_42_method_66_code_7 : decode jdk_42_method_66_code 7 = .ok (.aload_n 1, 1) := by decide +kernel
theorem d_jdk_42_method_66_code_8 : decode jdk_42_method_66_code 8 = .ok (.instanceof 10, 3) := by decide +kernel
theorem w_67 {Z : State} {a0 : Array Value} (G : Cl Z a0) : (Jvm.Cond.classLink "java/lang/String" 10 "java/lang/String").before a0 Z = true := G.1 _ (List.mem_of_getElem? (l := tables_1) (i := 67) rfl)
theorem d_jdk_42_method_66_code_11 : decode jdk_42_method_66_code 11 = .ok (.ifCond .eq 43, 3) := by decide +kernel
theorem d_jdk_42_method_66_code_14 : decode jdk_42_method_66_code 14 = .ok (.aload_n 1, 1) := by decide +kernel
theorem d_jdk_42_method_66_code_15 : decode jdk_42_method_66_code 15 = .ok (.checkcast 10, 3) := by decide +kernel
theorem d_jdk_42_method_66_code_18 : decode jdk_42_method_66_code 18 = .ok (.astore_n 2, 1) := by decide +kernel
theorem d_jdk_42_method_66_code_19 : decode jdk_42_method_66_code 19 = .ok (.getstatic 38, 3) := by decide +kernel
theorem d_jdk_42_method_66_code_22 : decode jdk_42_method_66_code 22 = .ok (.ifCond .eq 14, 3) := by decide +kernel
theorem d_jdk_42_method_66_code_25 : decode jdk_42_method_66_code 25 = .ok (.aload_n 0, 1) := by decide +kernel
theorem d_jdk_42_method_66_code_26 : decode jdk_42_method_66_code 26 = .ok (.getfield 15, 3) := by decide +kernel
theorem d_jdk_42_method_66_code_29 : decode jdk_42_method_66_code 29 = .ok (.aload_n 2, 1) := by decide +kernel
theorem d_jdk_42_method_66_code_30 : decode jdk_42_method_66_code 30 = .ok (.getfield 15, 3) := by decide +kernel
theorem d_jdk_42_method_66_code_33 : decode jdk_42_method_66_code 33 = .ok (.if_icmp .ne 21, 3) := by decide +kernel
theorem d_jdk_42_method_66_code_36 : decode jdk_42_method_66_code 36 = .ok (.aload_n 0, 1) := by decide +kernel
theorem d_jdk_42_method_66_code_37 : decode jdk_42_method_66_code 37 = .ok (.getfield 9, 3) := by decide +kernel
theorem d_jdk_42_method_66_code_40 : decode jdk_42_method_66_code 40 = .ok (.aload_n 2, 1) := by decide +kernel
theorem d_jdk_42_method_66_code_41 : decode jdk_42_method_66_code 41 = .ok (.getfield 9, 3) := by decide +kernel
theorem d_jdk_42_method_66_code_44 : decode jdk_42_method_66_code 44 = .ok (.invokestatic 541, 3) := by decide +kernel
theorem w_68 {Z : State} {a0 : Array Value} (G : Cl Z a0) : (Jvm.Cond.methodLink "java/lang/String" 541 (⟨"java/lang/StringLatin1", "equals", "([B[B)Z"⟩ : MethodName)).before a0 Z = true := G.1 _ (List.mem_of_getElem? (l := tables_1) (i := 68) rfl)
theorem w_70 {Z : State} {a0 : Array Value} (G : Cl Z a0) : (Jvm.Cond.initialized "java/lang/StringLatin1").before a0 Z = true := G.1 _ (List.mem_of_getElem? (l := tables_1) (i := 70) rfl)
theorem w_71 {Z : State} {a0 : Array Value} (G : Cl Z a0) : (Jvm.Cond.code (⟨"java/lang/StringLatin1", "equals", "([B[B)Z"⟩ : MethodName) jdk_43_method_13_code 3 (some .boolean)).before a0 Z = true := G.1 _ (List.mem_of_getElem? (l := tables_1) (i := 71) rfl)
theorem pd_7 : parseMethodDescriptor "([B[B)Z" = some ⟨[(.array .byte), (.array .byte)], some .boolean⟩ := by decide +kernel
theorem w_69 {Z : State} {a0 : Array Value} (G : Cl Z a0) : (Jvm.Cond.static (⟨"java/lang/StringLatin1", "equals", "([B[B)Z"⟩ : MethodName)).before a0 Z = true := G.1 _ (List.mem_of_getElem? (l := tables_1) (i := 69) rfl)
theorem d_jdk_42_method_66_code_47 : decode jdk_42_method_66_code 47 = .ok (.ifCond .eq 7, 3) := by decide +kernel
theorem d_jdk_42_method_66_code_54 : decode jdk_42_method_66_code 54 = .ok (.iconst 0, 1) := by decide +kernel
theorem d_jdk_42_method_66_code_55 : decode jdk_42_method_66_code 55 = .ok (.ireturn, 1) := by decide +kernel
theorem d_jdk_42_method_66_code_50 : decode jdk_42_method_66_code 50 = .ok (.iconst 1, 1) := by decide +kernel
theorem d_jdk_42_method_66_code_51 : decode jdk_42_method_66_code 51 = .ok (.goto 4, 3) := by decide +kernel
set_option maxRecDepth 65536 in
set_option maxHeartbeats 40000000 in
theorem rm_eqs {l : Launch} {Z : State} {a0 : Array Value} (G : Cl Z a0) (a a' b b' : Addr) (c c' cb cb' : Cell) (cs ds : List Int32) (S : StrL Z c b cb cs) (S' : StrL Z c' b' cb' ds) :
    Met l Z EL1 (⟨"java/lang/String", "equals", "(Ljava/lang/Object;)Z"⟩ : MethodName) jdk_42_method_66_code 3 (some .boolean) ({ frames := 1, cells := 0, slots := 0, locals := 14 } : Room) #[.ref a, .ref a'] [] [(a, c), (b, cb), (a', c'), (b', cb')] (fun v σ ρ => v = some (.int (if cs = ds then 1 else 0)) ∧ σ = [] ∧ ρ = []) := by
  refine Met.walk G.2.1 pn_2 #[.val (.ref a), .val (.ref a'), .unset] (fun m => by first | (simp [entryFrame, mkF, argsToLocals, Value.category]; done) | rfl) ?_
  intro X T0 W0
  obtain ⟨cv, Scv, hcv⟩ := G.2.2.1
  refine Go.aloadN (pc' := 1) W0 d_jdk_42_method_66_code_0 rfl rfl rfl ?_
  refine Go.aloadN (pc' := 2) W0 d_jdk_42_method_66_code_1 rfl rfl rfl ?_
  refine Go.acmp_ne (pc' := 5) W0 7 rfl rfl d_jdk_42_method_66_code_2 (by decide) rfl (fun _ => ?_) (fun hq => ?_)
  rotate_left
  · refine Go.iconst (pc' := 6) W0 (1 : Int32) d_jdk_42_method_66_code_5 (by decide) rfl ?_
    have W1 := W0.keepRo [] (ρ' := []) rfl
    replace W1 : Wk l Z EL1 ({ frames := 1, cells := 0, slots := 0, locals := 14 } : Room) "java/lang/String" jdk_42_method_66_code 3 (some .boolean) "equals" X [] [] T0 0 (0) := W1
    refine Go.nret (z' := (1 : Int32)) W1 (by simp) (by decide) d_jdk_42_method_66_code_6 (by first | exact Nat.le_of_ble_eq_true rfl | (simp; done) | (simp; omega) | omega) (by first | exact Nat.le_of_ble_eq_true rfl | (simp; done) | (simp; omega) | omega) ?_
    exact ⟨by rw [if_pos (StrL.uniq S S' (W0.cell (q := (a, c)) (Or.inr (Or.inl (List.mem_of_getElem? (i := 0) rfl)))) (by have e := Value.ref.inj hq; rw [e]; exact W0.cell (q := (a', c')) (Or.inr (Or.inl (List.mem_of_getElem? (i := 2) rfl)))) (W0.cell (q := (b, cb)) (Or.inr (Or.inl (List.mem_of_getElem? (i := 1) rfl)))) (W0.cell (q := (b', cb')) (Or.inr (Or.inl (List.mem_of_getElem? (i := 3) rfl)))))], rfl, rfl⟩
  refine Go.aloadN (pc' := 8) W0 d_jdk_42_method_66_code_7 rfl rfl rfl ?_
  refine Go.instY (pc' := 11) W0 (Or.inr (Or.inl (List.mem_of_getElem? (i := 2) rfl))) S'.1 (w_67 G) d_jdk_42_method_66_code_8 rfl (fun T2 W3 => ?_)
  refine Go.if_eq (pc' := 14) W3 54 d_jdk_42_method_66_code_11 (by decide) rfl (fun q => absurd q (by decide)) (fun _ => ?_)
  refine Go.aloadN (pc' := 15) W3 d_jdk_42_method_66_code_14 rfl rfl rfl ?_
  refine Go.castY (pc' := 18) W3 (Or.inr (Or.inl (List.mem_of_getElem? (i := 2) rfl))) S'.1 (w_67 G) d_jdk_42_method_66_code_15 rfl (fun T4 W5 => ?_)
  refine Go.astoreN (pc' := 19) W5 #[.val (.ref a), .val (.ref a'), .val (.ref a')] d_jdk_42_method_66_code_18 rfl rfl rfl ?_
  refine Go.getstatic (pc' := 22) W5 (w_23 G) Via.refl Scv d_jdk_42_method_66_code_19 rfl (fun T6 W7 => ?_)
  refine Go.if_eq (pc' := 25) W7 36 d_jdk_42_method_66_code_22 (by decide) rfl (fun q => absurd q hcv) (fun _ => ?_)
  refine Go.aloadN (pc' := 26) W7 d_jdk_42_method_66_code_25 rfl rfl rfl ?_
  refine Go.getfield (pc' := 29) W7 (Or.inr (Or.inl (List.mem_of_getElem? (i := 0) rfl))) (w_24 G) Via.refl S.2.1 d_jdk_42_method_66_code_26 rfl (fun T8 W9 => ?_)
  refine Go.aloadN (pc' := 30) W9 d_jdk_42_method_66_code_29 rfl rfl rfl ?_
  refine Go.getfield (pc' := 33) W9 (Or.inr (Or.inl (List.mem_of_getElem? (i := 2) rfl))) (w_24 G) Via.refl S'.2.1 d_jdk_42_method_66_code_30 rfl (fun T10 W11 => ?_)
  refine Go.icmp_ne (pc' := 36) W11 54 d_jdk_42_method_66_code_33 (by decide) rfl (fun q => absurd (by decide) q) (fun _ => ?_)
  refine Go.aloadN (pc' := 37) W11 d_jdk_42_method_66_code_36 rfl rfl rfl ?_
  refine Go.getfield (pc' := 40) W11 (Or.inr (Or.inl (List.mem_of_getElem? (i := 0) rfl))) (w_17 G) Via.refl S.2.2.1 d_jdk_42_method_66_code_37 rfl (fun T12 W13 => ?_)
  refine Go.aloadN (pc' := 41) W13 d_jdk_42_method_66_code_40 rfl rfl rfl ?_
  refine Go.getfield (pc' := 44) W13 (Or.inr (Or.inl (List.mem_of_getElem? (i := 2) rfl))) (w_17 G) Via.refl S'.2.2.1 d_jdk_42_method_66_code_41 rfl (fun T14 W15 => ?_)
  refine Go.static (pc' := 47) W15 (rm_leq G b b' cb cb' (cs.map fun x => x.toInt8.toInt32) (ds.map fun x => x.toInt8.toInt32) (latB_eq cs ▸ S.2.2.2.1) (latB_eq ds ▸ S'.2.2.2.1)) (w_68 G) (w_69 G) (w_70 G) (w_71 G) (by decide) [] [1, 3] (σf := []) rfl rfl [(.ref b), (.ref b')] [] rfl (lenOf pd_7 rfl) rfl rfl d_jdk_42_method_66_code_44 rfl (by first | exact Nat.le_of_ble_eq_true rfl | (simp; done) | (simp; omega) | omega) (by first | exact Nat.le_of_ble_eq_true rfl | (simp; done) | (simp; omega) | omega) (by first | exact Nat.le_of_ble_eq_true rfl | (simp; done) | (simp; omega) | omega) (by first | exact Nat.le_of_ble_eq_true rfl | (simp; done) | (simp; omega) | omega) ?_
  rintro _ _ _ T16 ⟨rfl, rfl, rfl⟩ W17
  replace W17 : Wk l Z EL1 ({ frames := 1, cells := 0, slots := 0, locals := 14 } : Room) "java/lang/String" jdk_42_method_66_code 3 (some .boolean) "equals" X [] [(b, cb), (b', cb'), (a, c), (b, cb), (a', c'), (b', cb')] T16 0 (0) := W17
  show Go Z EL1 _ _ _ X T16 47 #[.val (.ref a), .val (.ref a'), .val (.ref a')] [(.int (if cs.map (fun x => x.toInt8.toInt32) = ds.map (fun x => x.toInt8.toInt32) then 1 else 0))]
  refine Go.if_eq (pc' := 50) W17 54 d_jdk_42_method_66_code_47 (by decide) rfl (fun (c18 : (if cs.map (fun x => x.toInt8.toInt32) = ds.map (fun x => x.toInt8.toInt32) then 1 else 0) = 0) => ?_) (fun (c18 : ¬ ((if cs.map (fun x => x.toInt8.toInt32) = ds.map (fun x => x.toInt8.toInt32) then 1 else 0) = 0)) => ?_)
  · refine Go.iconst (pc' := 55) W17 (0 : Int32) d_jdk_42_method_66_code_54 (by decide) rfl ?_
    have W19 := W17.keepRo [] (ρ' := []) rfl
    replace W19 : Wk l Z EL1 ({ frames := 1, cells := 0, slots := 0, locals := 14 } : Room) "java/lang/String" jdk_42_method_66_code 3 (some .boolean) "equals" X [] [] T16 0 (0) := W19
    refine Go.nret (z' := (0 : Int32)) W19 (by simp) (by decide) d_jdk_42_method_66_code_55 (by first | exact Nat.le_of_ble_eq_true rfl | (simp; done) | (simp; omega) | omega) (by first | exact Nat.le_of_ble_eq_true rfl | (simp; done) | (simp; omega) | omega) ?_
    refine ⟨?_, rfl, rfl⟩
    rw [if_neg]
    rintro rfl
    simp at c18
  · refine Go.iconst (pc' := 51) W17 (1 : Int32) d_jdk_42_method_66_code_50 (by decide) rfl ?_
    refine Go.goto W17 55 d_jdk_42_method_66_code_51 (by decide) ?_
    have W20 := W17.keepRo [] (ρ' := []) rfl
    replace W20 : Wk l Z EL1 ({ frames := 1, cells := 0, slots := 0, locals := 14 } : Room) "java/lang/String" jdk_42_method_66_code 3 (some .boolean) "equals" X [] [] T16 0 (0) := W20
    refine Go.nret (z' := (1 : Int32)) W20 (by simp) (by decide) d_jdk_42_method_66_code_55 (by first | exact Nat.le_of_ble_eq_true rfl | (simp; done) | (simp; omega) | omega) (by first | exact Nat.le_of_ble_eq_true rfl | (simp; done) | (simp; omega) | omega) ?_
    refine ⟨?_, rfl, rfl⟩
    rw [if_pos]
    refine latB_inj S.2.2.2.2 S'.2.2.2.2 (Classical.byContradiction fun h => c18 (if_neg h))
set_option maxRecDepth 65536 in
set_option maxHeartbeats 40000000 in
theorem rm_eqn {l : Launch} {Z : State} {a0 : Array Value} (G : Cl Z a0) (a : Addr) :
    Met l Z EL1 (⟨"java/lang/String", "equals", "(Ljava/lang/Object;)Z"⟩ : MethodName) jdk_42_method_66_code 3 (some .boolean) ({ frames := 0, cells := 0, slots := 0, locals := 0 } : Room) #[.ref a, .null] [] [] (fun v σ ρ => v = some (.int 0) ∧ σ = [] ∧ ρ = []) := by
  refine Met.walk G.2.1 pn_2 #[.val (.ref a), .val (.null), .unset] (fun m => by first | (simp [entryFrame, mkF, argsToLocals, Value.category]; done) | rfl) ?_
  intro X T0 W0
  refine Go.aloadN (pc' := 1) W0 d_jdk_42_method_66_code_0 rfl rfl rfl ?_
  refine Go.aloadN (pc' := 2) W0 d_jdk_42_method_66_code_1 rfl rfl rfl ?_
  refine Go.acmp_ne (pc' := 5) W0 7 rfl rfl d_jdk_42_method_66_code_2 (by decide) rfl (fun _ => ?_) (fun hq => nomatch hq)
  refine Go.aloadN (pc' := 8) W0 d_jdk_42_method_66_code_7 rfl rfl rfl ?_
  refine Go.instNull (pc' := 11) W0 d_jdk_42_method_66_code_8 rfl ?_
  refine Go.if_eq (pc' := 14) W0 54 d_jdk_42_method_66_code_11 (by decide) rfl (fun _ => ?_) (fun q => absurd (by decide) q)
  refine Go.iconst (pc' := 55) W0 (0 : Int32) d_jdk_42_method_66_code_54 (by decide) rfl ?_
  refine Go.nret (z' := (0 : Int32)) W0 (by simp) (by decide) d_jdk_42_method_66_code_55 (by first | exact Nat.le_of_ble_eq_true rfl | (simp; done) | (simp; omega) | omega) (by first | exact Nat.le_of_ble_eq_true rfl | (simp; done) | (simp; omega) | omega) ?_
  exact ⟨rfl, rfl, rfl⟩
theorem d_jdk_42_method_152_code_0 : decode jdk_42_method_152_code 0 = .ok (.getstatic 38, 3) := by decide +kernel
theorem d_jdk_42_method_152_code_3 : decode jdk_42_method_152_code 3 = .ok (.ifCond .eq 10, 3) := by decide +kernel
theorem d_jdk_42_method_152_code_6 : decode jdk_42_method_152_code 6 = .ok (.aload_n 0, 1) := by decide +kernel
theorem d_jdk_42_method_152_code_7 : decode jdk_42_method_152_code 7 = .ok (.getfield 15, 3) := by decide +kernel
theorem d_jdk_42_method_152_code_10 : decode jdk_42_method_152_code 10 = .ok (.goto 4, 3) := by decide +kernel
theorem d_jdk_42_method_152_code_14 : decode jdk_42_method_152_code 14 = .ok (.ireturn, 1) := by decide +kernel
set_option maxRecDepth 65536 in
set_option maxHeartbeats 40000000 in
theorem rm_coder {l : Launch} {Z : State} {a0 : Array Value} (G : Cl Z a0) (a b : Addr) (c cb : Cell) (cs : List Int32) (S : StrL Z c b cb cs) :
    Met l Z EL1 (⟨"java/lang/String", "coder", "()B"⟩ : MethodName) jdk_42_method_152_code 1 (some .byte) ({ frames := 0, cells := 0, slots := 0, locals := 0 } : Room) #[.ref a] [] [(a, c)] (fun v σ ρ => v = some (.int 0) ∧ σ = [] ∧ ρ = []) := by
  refine Met.walk G.2.1 pn_2 #[.val (.ref a)] (fun m => by first | (simp [entryFrame, mkF, argsToLocals, Value.category]; done) | rfl) ?_
  intro X T0 W0
  obtain ⟨cv, Scv, hcv⟩ := G.2.2.1
  refine Go.getstatic (pc' := 3) W0 (w_23 G) Via.refl Scv d_jdk_42_method_152_code_0 rfl (fun T1 W2 => ?_)
  refine Go.if_eq (pc' := 6) W2 13 d_jdk_42_method_152_code_3 (by decide) rfl (fun q => absurd q hcv) (fun _ => ?_)
  refine Go.aloadN (pc' := 7) W2 d_jdk_42_method_152_code_6 rfl rfl rfl ?_
  refine Go.getfield (pc' := 10) W2 (Or.inr (Or.inl (List.mem_of_getElem? (i := 0) rfl))) (w_24 G) Via.refl S.2.1 d_jdk_42_method_152_code_7 rfl (fun T3 W4 => ?_)
  refine Go.goto W4 14 d_jdk_42_method_152_code_10 (by decide) ?_
  have W5 := W4.keepRo [] (ρ' := []) rfl
  replace W5 : Wk l Z EL1 ({ frames := 0, cells := 0, slots := 0, locals := 0 } : Room) "java/lang/String" jdk_42_method_152_code 1 (some .byte) "coder" X [] [] T3 0 (0) := W5
  refine Go.nret (z' := (0 : Int32)) W5 (by simp) (by decide) d_jdk_42_method_152_code_14 (by first | exact Nat.le_of_ble_eq_true rfl | (simp; done) | (simp; omega) | omega) (by first | exact Nat.le_of_ble_eq_true rfl | (simp; done) | (simp; omega) | omega) ?_
  exact ⟨rfl, rfl, rfl⟩
theorem d_jdk_42_method_54_code_0 : decode jdk_42_method_54_code 0 = .ok (.aload_n 0, 1) := by decide +kernel
theorem d_jdk_42_method_54_code_1 : decode jdk_42_method_54_code 1 = .ok (.getfield 9, 3) := by decide +kernel
theorem d_jdk_42_method_54_code_4 : decode jdk_42_method_54_code 4 = .ok (.arraylength, 1) := by decide +kernel
theorem d_jdk_42_method_54_code_5 : decode jdk_42_method_54_code 5 = .ok (.aload_n 0, 1) := by decide +kernel
theorem d_jdk_42_method_54_code_6 : decode jdk_42_method_54_code 6 = .ok (.invokevirtual 335, 3) := by decide +kernel
theorem w_18 {Z : State} {a0 : Array Value} (G : Cl Z a0) : (Jvm.Cond.methodLink "java/lang/String" 335 (⟨"java/lang/String", "coder", "()B"⟩ : MethodName)).before a0 Z = true := G.1 _ (List.mem_of_getElem? (l := tables_1) (i := 18) rfl)
theorem w_22 {Z : State} {a0 : Array Value} (G : Cl Z a0) : (Jvm.Cond.code (⟨"java/lang/String", "coder", "()B"⟩ : MethodName) jdk_42_method_152_code 1 (some .byte)).before a0 Z = true := G.1 _ (List.mem_of_getElem? (l := tables_1) (i := 22) rfl)
theorem pd_8 : parseMethodDescriptor "()B" = some ⟨[], some .byte⟩ := by decide +kernel
theorem w_19 {Z : State} {a0 : Array Value} (G : Cl Z a0) : (Jvm.Cond.declares (⟨"java/lang/String", "coder", "()B"⟩ : MethodName)).before a0 Z = true := G.1 _ (List.mem_of_getElem? (l := tables_1) (i := 19) rfl)
theorem w_21 {Z : State} {a0 : Array Value} (G : Cl Z a0) : (Jvm.Cond.selects "java/lang/String" (⟨"java/lang/String", "coder", "()B"⟩ : MethodName) (⟨"java/lang/String", "coder", "()B"⟩ : MethodName)).before a0 Z = true := G.1 _ (List.mem_of_getElem? (l := tables_1) (i := 21) rfl)
theorem w_20 {Z : State} {a0 : Array Value} (G : Cl Z a0) : (Jvm.Cond.instanceMethod (⟨"java/lang/String", "coder", "()B"⟩ : MethodName)).before a0 Z = true := G.1 _ (List.mem_of_getElem? (l := tables_1) (i := 20) rfl)
theorem d_jdk_42_method_54_code_9 : decode jdk_42_method_54_code 9 = .ok (.ishr, 1) := by decide +kernel
theorem d_jdk_42_method_54_code_10 : decode jdk_42_method_54_code 10 = .ok (.ireturn, 1) := by decide +kernel
set_option maxRecDepth 65536 in
set_option maxHeartbeats 40000000 in
theorem rm_len {l : Launch} {Z : State} {a0 : Array Value} (G : Cl Z a0) (a b : Addr) (c cb : Cell) (cs : List Int32) (S : StrL Z c b cb cs) :
    Met l Z EL1 (⟨"java/lang/String", "length", "()I"⟩ : MethodName) jdk_42_method_54_code 1 (some .int) ({ frames := 1, cells := 0, slots := 0, locals := 13 } : Room) #[.ref a] [] [(a, c), (b, cb)] (fun v σ ρ => v = some (.int cs.length.toInt32) ∧ σ = [] ∧ ρ = []) := by
  refine Met.walk G.2.1 pn_2 #[.val (.ref a)] (fun m => by first | (simp [entryFrame, mkF, argsToLocals, Value.category]; done) | rfl) ?_
  intro X T0 W0
  refine Go.aloadN (pc' := 1) W0 d_jdk_42_method_54_code_0 rfl rfl rfl ?_
  refine Go.getfield (pc' := 4) W0 (Or.inr (Or.inl (List.mem_of_getElem? (i := 0) rfl))) (w_17 G) Via.refl S.2.2.1 d_jdk_42_method_54_code_1 rfl (fun T1 W2 => ?_)
  refine Go.arrlen (pc' := 5) W2 (Or.inr (Or.inl (List.mem_of_getElem? (i := 1) rfl))) S.2.2.2.1 cs.length.toInt32 (by rw [latB, List.length_map]) d_jdk_42_method_54_code_4 rfl ?_
  refine Go.aloadN (pc' := 6) W2 d_jdk_42_method_54_code_5 rfl rfl rfl ?_
  refine Go.virtual (pc' := 9) W2 (rm_coder G a b c cb cs S) (Or.inr (Or.inl (List.mem_of_getElem? (i := 0) rfl))) S.1 (w_18 G) (w_19 G) (w_21 G) (w_20 G) (w_2 G) (w_22 G) (by decide) [] [0] (σf := []) rfl rfl [] [(.int cs.length.toInt32)] rfl (lenOf pd_8 rfl) rfl rfl d_jdk_42_method_54_code_6 rfl (by first | exact Nat.le_of_ble_eq_true rfl | (simp; done) | (simp; omega) | omega) (by first | exact Nat.le_of_ble_eq_true rfl | (simp; done) | (simp; omega) | omega) (by first | exact Nat.le_of_ble_eq_true rfl | (simp; done) | (simp; omega) | omega) (by first | exact Nat.le_of_ble_eq_true rfl | (simp; done) | (simp; omega) | omega) ?_
  rintro _ _ _ T3 ⟨rfl, rfl, rfl⟩ W4
  replace W4 : Wk l Z EL1 ({ frames := 1, cells := 0, slots := 0, locals := 13 } : Room) "java/lang/String" jdk_42_method_54_code 1 (some .int) "length" X [] [(a, c), (b, cb)] T3 0 (0) := W4
  show Go Z EL1 _ _ _ X T3 9 #[.val (.ref a)] [(.int (0 : Int32)), (.int cs.length.toInt32)]
  refine Go.ishr (pc' := 10) W4 d_jdk_42_method_54_code_9 rfl ?_
  have W5 := W4.keepRo [] (ρ' := []) rfl
  replace W5 : Wk l Z EL1 ({ frames := 1, cells := 0, slots := 0, locals := 13 } : Room) "java/lang/String" jdk_42_method_54_code 1 (some .int) "length" X [] [] T3 0 (0) := W5
  refine Go.iret W5 d_jdk_42_method_54_code_10 (by first | exact Nat.le_of_ble_eq_true rfl | (simp; done) | (simp; omega) | omega) (by first | exact Nat.le_of_ble_eq_true rfl | (simp; done) | (simp; omega) | omega) ?_
  exact ⟨by rw [shr0], rfl, rfl⟩
theorem pn_9 : plainName "jdk/internal/util/Preconditions" = true := by first | (simp [plainName, overriddenIn]; done) | decide +kernel
theorem d_jdk_41_method_11_code_0 : decode jdk_41_method_11_code 0 = .ok (.iload_n 0, 1) := by decide +kernel
theorem d_jdk_41_method_11_code_1 : decode jdk_41_method_11_code 1 = .ok (.ifCond .lt 8, 3) := by decide +kernel
theorem d_jdk_41_method_11_code_4 : decode jdk_41_method_11_code 4 = .ok (.iload_n 0, 1) := by decide +kernel
theorem d_jdk_41_method_11_code_5 : decode jdk_41_method_11_code 5 = .ok (.iload_n 1, 1) := by decide +kernel
theorem d_jdk_41_method_11_code_6 : decode jdk_41_method_11_code 6 = .ok (.if_icmp .lt 10, 3) := by decide +kernel
theorem d_jdk_41_method_11_code_16 : decode jdk_41_method_11_code 16 = .ok (.iload_n 0, 1) := by decide +kernel
theorem d_jdk_41_method_11_code_17 : decode jdk_41_method_11_code 17 = .ok (.ireturn, 1) := by decide +kernel
set_option maxRecDepth 65536 in
set_option maxHeartbeats 40000000 in
theorem rm_pci {l : Launch} {Z : State} {a0 : Array Value} (G : Cl Z a0) (i n : Int32) (h0 : ¬ i < 0) (h1 : i < n) (fv : Value) (hf : fv.isRef = true) :
    Met l Z EL1 (⟨"jdk/internal/util/Preconditions", "checkIndex", "(IILjava/util/function/BiFunction;)I"⟩ : MethodName) jdk_41_method_11_code 3 (some .int) ({ frames := 0, cells := 0, slots := 0, locals := 0 } : Room) #[.int i, .int n, fv] [] [] (fun v σ ρ => v = some (.int i) ∧ σ = [] ∧ ρ = []) := by
  refine Met.walk G.2.1 pn_9 #[.val (.int i), .val (.int n), .val (fv)] (fun m => by rcases ref_cases hf with rfl | ⟨_, rfl⟩ <;> first | (simp [entryFrame, mkF, argsToLocals, Value.category]; done) | rfl) ?_
  intro X T0 W0
  refine Go.iloadN (pc' := 1) W0 d_jdk_41_method_11_code_0 rfl rfl ?_
  refine Go.if_lt (pc' := 4) W0 9 d_jdk_41_method_11_code_1 (by decide) rfl (fun q => absurd q h0) (fun _ => ?_)
  refine Go.iloadN (pc' := 5) W0 d_jdk_41_method_11_code_4 rfl rfl ?_
  refine Go.iloadN (pc' := 6) W0 d_jdk_41_method_11_code_5 rfl rfl ?_
  refine Go.icmp_lt (pc' := 9) W0 16 d_jdk_41_method_11_code_6 (by decide) rfl (fun _ => ?_) (fun q => absurd h1 q)
  refine Go.iloadN (pc' := 17) W0 d_jdk_41_method_11_code_16 rfl rfl ?_
  refine Go.iret W0 d_jdk_41_method_11_code_17 (by first | exact Nat.le_of_ble_eq_true rfl | (simp; done) | (simp; omega) | omega) (by first | exact Nat.le_of_ble_eq_true rfl | (simp; done) | (simp; omega) | omega) ?_
  exact ⟨rfl, rfl, rfl⟩
theorem d_jdk_42_method_155_code_0 : decode jdk_42_method_155_code 0 = .ok (.iload_n 0, 1) := by decide +kernel
theorem d_jdk_42_method_155_code_1 : decode jdk_42_method_155_code 1 = .ok (.iload_n 1, 1) := by decide +kernel
theorem d_jdk_42_method_155_code_2 : decode jdk_42_method_155_code 2 = .ok (.getstatic 1053, 3) := by decide +kernel
theorem w_98 {Z : State} {a0 : Array Value} (G : Cl Z a0) : (Jvm.Cond.fieldLink "java/lang/String" 1053 "jdk/internal/util/Preconditions" "SIOOBE_FORMATTER" "Ljava/util/function/BiFunction;").before a0 Z = true := G.1 _ (List.mem_of_getElem? (l := tables_1) (i := 98) rfl)
theorem d_jdk_42_method_155_code_5 : decode jdk_42_method_155_code 5 = .ok (.invokestatic 1059, 3) := by decide +kernel
theorem w_100 {Z : State} {a0 : Array Value} (G : Cl Z a0) : (Jvm.Cond.methodLink "java/lang/String" 1059 (⟨"jdk/internal/util/Preconditions", "checkIndex", "(IILjava/util/function/BiFunction;)I"⟩ : MethodName)).before a0 Z = true := G.1 _ (List.mem_of_getElem? (l := tables_1) (i := 100) rfl)
theorem w_99 {Z : State} {a0 : Array Value} (G : Cl Z a0) : (Jvm.Cond.initialized "jdk/internal/util/Preconditions").before a0 Z = true := G.1 _ (List.mem_of_getElem? (l := tables_1) (i := 99) rfl)
theorem w_102 {Z : State} {a0 : Array Value} (G : Cl Z a0) : (Jvm.Cond.code (⟨"jdk/internal/util/Preconditions", "checkIndex", "(IILjava/util/function/BiFunction;)I"⟩ : MethodName) jdk_41_method_11_code 3 (some .int)).before a0 Z = true := G.1 _ (List.mem_of_getElem? (l := tables_1) (i := 102) rfl)
theorem pd_10 : parseMethodDescriptor "(IILjava/util/function/BiFunction;)I" = some ⟨[.int, .int, (.object "java/util/function/BiFunction")], some .int⟩ := by decide +kernel
theorem w_101 {Z : State} {a0 : Array Value} (G : Cl Z a0) : (Jvm.Cond.static (⟨"jdk/internal/util/Preconditions", "checkIndex", "(IILjava/util/function/BiFunction;)I"⟩ : MethodName)).before a0 Z = true := G.1 _ (List.mem_of_getElem? (l := tables_1) (i := 101) rfl)
theorem d_jdk_42_method_155_code_8 : decode jdk_42_method_155_code 8 = .ok (.pop, 1) := by decide +kernel
theorem d_jdk_42_method_155_code_9 : decode jdk_42_method_155_code 9 = .ok (.return_, 1) := by decide +kernel
set_option maxRecDepth 65536 in
set_option maxHeartbeats 40000000 in
theorem rm_cki {l : Launch} {Z : State} {a0 : Array Value} (G : Cl Z a0) (i n : Int32) (h0 : ¬ i < 0) (h1 : i < n) :
    Met l Z EL1 (⟨"java/lang/String", "checkIndex", "(II)V"⟩ : MethodName) jdk_42_method_155_code 2 none ({ frames := 1, cells := 0, slots := 0, locals := 14 } : Room) #[.int i, .int n] [] [] (fun v σ ρ => v = none ∧ σ = [] ∧ ρ = []) := by
  refine Met.walk G.2.1 pn_2 #[.val (.int i), .val (.int n)] (fun m => by first | (simp [entryFrame, mkF, argsToLocals, Value.category]; done) | rfl) ?_
  intro X T0 W0
  obtain ⟨fv, Sfv, hf⟩ := G.2.2.2.1
  refine Go.iloadN (pc' := 1) W0 d_jdk_42_method_155_code_0 rfl rfl ?_
  refine Go.iloadN (pc' := 2) W0 d_jdk_42_method_155_code_1 rfl rfl ?_
  refine Go.getstatic (pc' := 5) W0 (w_98 G) Via.refl Sfv d_jdk_42_method_155_code_2 rfl (fun T1 W2 => ?_)
  refine Go.static (pc' := 8) W2 (rm_pci G i n h0 h1 fv hf) (w_100 G) (w_101 G) (w_99 G) (w_102 G) (by decide) [] [] (σf := []) rfl rfl [(.int i), (.int n), (fv)] [] rfl (lenOf pd_10 rfl) rfl rfl d_jdk_42_method_155_code_5 rfl (by first | exact Nat.le_of_ble_eq_true rfl | (simp; done) | (simp; omega) | omega) (by first | exact Nat.le_of_ble_eq_true rfl | (simp; done) | (simp; omega) | omega) (by first | exact Nat.le_of_ble_eq_true rfl | (simp; done) | (simp; omega) | omega) (by first | exact Nat.le_of_ble_eq_true rfl | (simp; done) | (simp; omega) | omega) ?_
  rintro _ _ _ T3 ⟨rfl, rfl, rfl⟩ W4
  replace W4 : Wk l Z EL1 ({ frames := 1, cells := 0, slots := 0, locals := 14 } : Room) "java/lang/String" jdk_42_method_155_code 2 none "checkIndex" X [] [] T3 0 (0) := W4
  show Go Z EL1 _ _ _ X T3 8 #[.val (.int i), .val (.int n)] [(.int i)]
  refine Go.pop (pc' := 9) W4 d_jdk_42_method_155_code_8 rfl rfl ?_
  refine Go.retV W4 d_jdk_42_method_155_code_9 (by first | exact Nat.le_of_ble_eq_true rfl | (simp; done) | (simp; omega) | omega) (by first | exact Nat.le_of_ble_eq_true rfl | (simp; done) | (simp; omega) | omega) ?_
  exact ⟨rfl, rfl, rfl⟩
theorem d_jdk_42_method_154_code_0 : decode jdk_42_method_154_code 0 = .ok (.getstatic 38, 3) := by decide +kernel
theorem d_jdk_42_method_154_code_3 : decode jdk_42_method_154_code 3 = .ok (.ifCond .eq 14, 3) := by decide +kernel
theorem d_jdk_42_method_154_code_6 : decode jdk_42_method_154_code 6 = .ok (.aload_n 0, 1) := by decide +kernel
theorem d_jdk_42_method_154_code_7 : decode jdk_42_method_154_code 7 = .ok (.getfield 15, 3) := by decide +kernel
theorem d_jdk_42_method_154_code_10 : decode jdk_42_method_154_code 10 = .ok (.ifCond .ne 7, 3) := by decide +kernel
theorem d_jdk_42_method_154_code_13 : decode jdk_42_method_154_code 13 = .ok (.iconst 1, 1) := by decide +kernel
theorem d_jdk_42_method_154_code_14 : decode jdk_42_method_154_code 14 = .ok (.goto 4, 3) := by decide +kernel
theorem d_jdk_42_method_154_code_18 : decode jdk_42_method_154_code 18 = .ok (.ireturn, 1) := by decide +kernel
set_option maxRecDepth 65536 in
set_option maxHeartbeats 40000000 in
theorem rm_isl {l : Launch} {Z : State} {a0 : Array Value} (G : Cl Z a0) (a b : Addr) (c cb : Cell) (cs : List Int32) (S : StrL Z c b cb cs) :
    Met l Z EL1 (⟨"java/lang/String", "isLatin1", "()Z"⟩ : MethodName) jdk_42_method_154_code 1 (some .boolean) ({ frames := 0, cells := 0, slots := 0, locals := 0 } : Room) #[.ref a] [] [(a, c)] (fun v σ ρ => v = some (.int 1) ∧ σ = [] ∧ ρ = []) := by
  refine Met.walk G.2.1 pn_2 #[.val (.ref a)] (fun m => by first | (simp [entryFrame, mkF, argsToLocals, Value.category]; done) | rfl) ?_
  intro X T0 W0
  obtain ⟨cv, Scv, hcv⟩ := G.2.2.1
  refine Go.getstatic (pc' := 3) W0 (w_23 G) Via.refl Scv d_jdk_42_method_154_code_0 rfl (fun T1 W2 => ?_)
  refine Go.if_eq (pc' := 6) W2 17 d_jdk_42_method_154_code_3 (by decide) rfl (fun q => absurd q hcv) (fun _ => ?_)
  refine Go.aloadN (pc' := 7) W2 d_jdk_42_method_154_code_6 rfl rfl rfl ?_
  refine Go.getfield (pc' := 10) W2 (Or.inr (Or.inl (List.mem_of_getElem? (i := 0) rfl))) (w_24 G) Via.refl S.2.1 d_jdk_42_method_154_code_7 rfl (fun T3 W4 => ?_)
  refine Go.if_ne (pc' := 13) W4 17 d_jdk_42_method_154_code_10 (by decide) rfl (fun q => absurd (by decide) q) (fun _ => ?_)
  refine Go.iconst (pc' := 14) W4 (1 : Int32) d_jdk_42_method_154_code_13 (by decide) rfl ?_
  refine Go.goto W4 18 d_jdk_42_method_154_code_14 (by decide) ?_
  have W5 := W4.keepRo [] (ρ' := []) rfl
  replace W5 : Wk l Z EL1 ({ frames := 0, cells := 0, slots := 0, locals := 0 } : Room) "java/lang/String" jdk_42_method_154_code 1 (some .boolean) "isLatin1" X [] [] T3 0 (0) := W5
  refine Go.nret (z' := (1 : Int32)) W5 (by simp) (by decide) d_jdk_42_method_154_code_18 (by first | exact Nat.le_of_ble_eq_true rfl | (simp; done) | (simp; omega) | omega) (by first | exact Nat.le_of_ble_eq_true rfl | (simp; done) | (simp; omega) | omega) ?_
  exact ⟨rfl, rfl, rfl⟩
theorem d_jdk_43_method_2_code_0 : decode jdk_43_method_2_code 0 = .ok (.iload_n 1, 1) := by decide +kernel
theorem d_jdk_43_method_2_code_1 : decode jdk_43_method_2_code 1 = .ok (.aload_n 0, 1) := by decide +kernel
theorem d_jdk_43_method_2_code_2 : decode jdk_43_method_2_code 2 = .ok (.arraylength, 1) := by decide +kernel
theorem d_jdk_43_method_2_code_3 : decode jdk_43_method_2_code 3 = .ok (.invokestatic 9, 3) := by decide +kernel
theorem w_95 {Z : State} {a0 : Array Value} (G : Cl Z a0) : (Jvm.Cond.methodLink "java/lang/StringLatin1" 9 (⟨"java/lang/String", "checkIndex", "(II)V"⟩ : MethodName)).before a0 Z = true := G.1 _ (List.mem_of_getElem? (l := tables_1) (i := 95) rfl)
theorem w_97 {Z : State} {a0 : Array Value} (G : Cl Z a0) : (Jvm.Cond.code (⟨"java/lang/String", "checkIndex", "(II)V"⟩ : MethodName) jdk_42_method_155_code 2 none).before a0 Z = true := G.1 _ (List.mem_of_getElem? (l := tables_1) (i := 97) rfl)
theorem pd_11 : parseMethodDescriptor "(II)V" = some ⟨[.int, .int], none⟩ := by decide +kernel
theorem w_96 {Z : State} {a0 : Array Value} (G : Cl Z a0) : (Jvm.Cond.static (⟨"java/lang/String", "checkIndex", "(II)V"⟩ : MethodName)).before a0 Z = true := G.1 _ (List.mem_of_getElem? (l := tables_1) (i := 96) rfl)
theorem d_jdk_43_method_2_code_6 : decode jdk_43_method_2_code 6 = .ok (.aload_n 0, 1) := by decide +kernel
theorem d_jdk_43_method_2_code_7 : decode jdk_43_method_2_code 7 = .ok (.iload_n 1, 1) := by decide +kernel
theorem d_jdk_43_method_2_code_8 : decode jdk_43_method_2_code 8 = .ok (.baload, 1) := by decide +kernel
theorem d_jdk_43_method_2_code_9 : decode jdk_43_method_2_code 9 = .ok (.sipush 255, 3) := by decide +kernel
theorem d_jdk_43_method_2_code_12 : decode jdk_43_method_2_code 12 = .ok (.iand, 1) := by decide +kernel
theorem d_jdk_43_method_2_code_13 : decode jdk_43_method_2_code 13 = .ok (.i2c, 1) := by decide +kernel
theorem d_jdk_43_method_2_code_14 : decode jdk_43_method_2_code 14 = .ok (.ireturn, 1) := by decide +kernel
set_option maxRecDepth 65536 in
set_option maxHeartbeats 40000000 in
theorem rm_lch {l : Launch} {Z : State} {a0 : Array Value} (G : Cl Z a0) (b : Addr) (cb : Cell) (cs : List Int32) (i : Nat) (x : Int32) (B : ArrC Z cb .byte (latB cs)) (hL : ¬ x < 0 ∧ ¬ (255 : Int32) < x) (hx : cs[i]? = some x) :
    Met l Z EL1 (⟨"java/lang/StringLatin1", "charAt", "([BI)C"⟩ : MethodName) jdk_43_method_2_code 2 (some .char) ({ frames := 2, cells := 0, slots := 0, locals := 27 } : Room) #[.ref b, .int i.toInt32] [] [(b, cb)] (fun v σ ρ => v = some (.int x) ∧ σ = [] ∧ ρ = []) := by
  refine Met.walk G.2.1 pn_6 #[.val (.ref b), .val (.int i.toInt32)] (fun m => by first | (simp [entryFrame, mkF, argsToLocals, Value.category]; done) | rfl) ?_
  intro X T0 W0
  have hi := (List.getElem?_eq_some_iff.mp hx).1
  have hn : cs.length < 2147483648 := by have := B.2.2.2.2; rwa [latB, List.length_map] at this
  refine Go.iloadN (pc' := 1) W0 d_jdk_43_method_2_code_0 rfl rfl ?_
  refine Go.aloadN (pc' := 2) W0 d_jdk_43_method_2_code_1 rfl rfl rfl ?_
  refine Go.arrlen (pc' := 3) W0 (Or.inr (Or.inl (List.mem_of_getElem? (i := 0) rfl))) B cs.length.toInt32 (by rw [latB, List.length_map]) d_jdk_43_method_2_code_2 rfl ?_
  refine Go.static (pc' := 6) W0 (rm_cki G i.toInt32 cs.length.toInt32 (i32_nn (by omega)) ((i32_lt (by omega) hn).mpr hi)) (w_95 G) (w_96 G) (w_2 G) (w_97 G) (by decide) [] [] (σf := []) rfl rfl [(.int i.toInt32), (.int cs.length.toInt32)] [] rfl (lenOf pd_11 rfl) rfl rfl d_jdk_43_method_2_code_3 rfl (by first | exact Nat.le_of_ble_eq_true rfl | (simp; done) | (simp; omega) | omega) (by first | exact Nat.le_of_ble_eq_true rfl | (simp; done) | (simp; omega) | omega) (by first | exact Nat.le_of_ble_eq_true rfl | (simp; done) | (simp; omega) | omega) (by first | exact Nat.le_of_ble_eq_true rfl | (simp; done) | (simp; omega) | omega) ?_
  rintro _ _ _ T1 ⟨rfl, rfl, rfl⟩ W2
  replace W2 : Wk l Z EL1 ({ frames := 2, cells := 0, slots := 0, locals := 27 } : Room) "java/lang/StringLatin1" jdk_43_method_2_code 2 (some .char) "charAt" X [] [(b, cb)] T1 0 (0) := W2
  show Go Z EL1 _ _ _ X T1 6 #[.val (.ref b), .val (.int i.toInt32)] []
  refine Go.aloadN (pc' := 7) W2 d_jdk_43_method_2_code_6 rfl rfl rfl ?_
  refine Go.iloadN (pc' := 8) W2 d_jdk_43_method_2_code_7 rfl rfl ?_
  refine Go.baload (pc' := 9) W2 (Or.inr (Or.inl (List.mem_of_getElem? (i := 0) rfl))) B i (i32_nn (by omega)) (i32_clamp (by omega)) (v := lo8 x) (by rw [latB, List.getElem?_map, hx]; rfl) d_jdk_43_method_2_code_8 rfl ?_
  refine Go.sipush (pc' := 12) W2 (255 : Int32) d_jdk_43_method_2_code_9 (by decide) rfl ?_
  refine Go.iand (pc' := 13) W2 d_jdk_43_method_2_code_12 rfl ?_
  refine Go.i2c (pc' := 14) W2 d_jdk_43_method_2_code_13 rfl ?_
  rw [i2c_id (lat_char (and255 _)).1 (lat_char (and255 _)).2]
  have W3 := W2.keepRo [] (ρ' := []) rfl
  replace W3 : Wk l Z EL1 ({ frames := 2, cells := 0, slots := 0, locals := 27 } : Room) "java/lang/StringLatin1" jdk_43_method_2_code 2 (some .char) "charAt" X [] [] T1 0 (0) := W3
  refine Go.nret (z' := x) W3 (by simp) (by rw [byte_back hL, nar_char_id (lat_char hL)]) d_jdk_43_method_2_code_14 (by first | exact Nat.le_of_ble_eq_true rfl | (simp; done) | (simp; omega) | omega) (by first | exact Nat.le_of_ble_eq_true rfl | (simp; done) | (simp; omega) | omega) ?_
  exact ⟨rfl, rfl, rfl⟩
theorem d_jdk_42_method_56_code_0 : decode jdk_42_method_56_code 0 = .ok (.aload_n 0, 1) := by decide +kernel
theorem d_jdk_42_method_56_code_1 : decode jdk_42_method_56_code 1 = .ok (.invokevirtual 492, 3) := by decide +kernel
theorem w_87 {Z : State} {a0 : Array Value} (G : Cl Z a0) : (Jvm.Cond.methodLink "java/lang/String" 492 (⟨"java/lang/String", "isLatin1", "()Z"⟩ : MethodName)).before a0 Z = true := G.1 _ (List.mem_of_getElem? (l := tables_1) (i := 87) rfl)
theorem w_91 {Z : State} {a0 : Array Value} (G : Cl Z a0) : (Jvm.Cond.code (⟨"java/lang/String", "isLatin1", "()Z"⟩ : MethodName) jdk_42_method_154_code 1 (some .boolean)).before a0 Z = true := G.1 _ (List.mem_of_getElem? (l := tables_1) (i := 91) rfl)
theorem pd_12 : parseMethodDescriptor "()Z" = some ⟨[], some .boolean⟩ := by decide +kernel
theorem w_88 {Z : State} {a0 : Array Value} (G : Cl Z a0) : (Jvm.Cond.declares (⟨"java/lang/String", "isLatin1", "()Z"⟩ : MethodName)).before a0 Z = true := G.1 _ (List.mem_of_getElem? (l := tables_1) (i := 88) rfl)
theorem w_90 {Z : State} {a0 : Array Value} (G : Cl Z a0) : (Jvm.Cond.selects "java/lang/String" (⟨"java/lang/String", "isLatin1", "()Z"⟩ : MethodName) (⟨"java/lang/String", "isLatin1", "()Z"⟩ : MethodName)).before a0 Z = true := G.1 _ (List.mem_of_getElem? (l := tables_1) (i := 90) rfl)
theorem w_89 {Z : State} {a0 : Array Value} (G : Cl Z a0) : (Jvm.Cond.instanceMethod (⟨"java/lang/String", "isLatin1", "()Z"⟩ : MethodName)).before a0 Z = true := G.1 _ (List.mem_of_getElem? (l := tables_1) (i := 89) rfl)
theorem d_jdk_42_method_56_code_4 : decode jdk_42_method_56_code 4 = .ok (.ifCond .eq 12, 3) := by decide +kernel
theorem d_jdk_42_method_56_code_7 : decode jdk_42_method_56_code 7 = .ok (.aload_n 0, 1) := by decide +kernel
theorem d_jdk_42_method_56_code_8 : decode jdk_42_method_56_code 8 = .ok (.getfield 9, 3) := by decide +kernel
theorem d_jdk_42_method_56_code_11 : decode jdk_42_method_56_code 11 = .ok (.iload_n 1, 1) := by decide +kernel
theorem d_jdk_42_method_56_code_12 : decode jdk_42_method_56_code 12 = .ok (.invokestatic 495, 3) := by decide +kernel
theorem w_92 {Z : State} {a0 : Array Value} (G : Cl Z a0) : (Jvm.Cond.methodLink "java/lang/String" 495 (⟨"java/lang/StringLatin1", "charAt", "([BI)C"⟩ : MethodName)).before a0 Z = true := G.1 _ (List.mem_of_getElem? (l := tables_1) (i := 92) rfl)
theorem w_94 {Z : State} {a0 : Array Value} (G : Cl Z a0) : (Jvm.Cond.code (⟨"java/lang/StringLatin1", "charAt", "([BI)C"⟩ : MethodName) jdk_43_method_2_code 2 (some .char)).before a0 Z = true := G.1 _ (List.mem_of_getElem? (l := tables_1) (i := 94) rfl)
theorem pd_13 : parseMethodDescriptor "([BI)C" = some ⟨[(.array .byte), .int], some .char⟩ := by decide +kernel
theorem w_93 {Z : State} {a0 : Array Value} (G : Cl Z a0) : (Jvm.Cond.static (⟨"java/lang/StringLatin1", "charAt", "([BI)C"⟩ : MethodName)).before a0 Z = true := G.1 _ (List.mem_of_getElem? (l := tables_1) (i := 93) rfl)
theorem d_jdk_42_method_56_code_15 : decode jdk_42_method_56_code 15 = .ok (.ireturn, 1) := by decide +kernel
set_option maxRecDepth 65536 in
set_option maxHeartbeats 40000000 in
theorem rm_cha {l : Launch} {Z : State} {a0 : Array Value} (G : Cl Z a0) (a b : Addr) (c cb : Cell) (cs : List Int32) (S : StrL Z c b cb cs) (i : Nat) (x : Int32) (hx : cs[i]? = some x) :
    Met l Z EL1 (⟨"java/lang/String", "charAt", "(I)C"⟩ : MethodName) jdk_42_method_56_code 2 (some .char) ({ frames := 3, cells := 0, slots := 0, locals := 40 } : Room) #[.ref a, .int i.toInt32] [] [(a, c), (b, cb)] (fun v σ ρ => v = some (.int x) ∧ σ = [] ∧ ρ = []) := by
  refine Met.walk G.2.1 pn_2 #[.val (.ref a), .val (.int i.toInt32)] (fun m => by first | (simp [entryFrame, mkF, argsToLocals, Value.category]; done) | rfl) ?_
  intro X T0 W0
  refine Go.aloadN (pc' := 1) W0 d_jdk_42_method_56_code_0 rfl rfl rfl ?_
  refine Go.virtual (pc' := 4) W0 (rm_isl G a b c cb cs S) (Or.inr (Or.inl (List.mem_of_getElem? (i := 0) rfl))) S.1 (w_87 G) (w_88 G) (w_90 G) (w_89 G) (w_2 G) (w_91 G) (by decide) [] [0] (σf := []) rfl rfl [] [] rfl (lenOf pd_12 rfl) rfl rfl d_jdk_42_method_56_code_1 rfl (by first | exact Nat.le_of_ble_eq_true rfl | (simp; done) | (simp; omega) | omega) (by first | exact Nat.le_of_ble_eq_true rfl | (simp; done) | (simp; omega) | omega) (by first | exact Nat.le_of_ble_eq_true rfl | (simp; done) | (simp; omega) | omega) (by first | exact Nat.le_of_ble_eq_true rfl | (simp; done) | (simp; omega) | omega) ?_
  rintro _ _ _ T1 ⟨rfl, rfl, rfl⟩ W2
  replace W2 : Wk l Z EL1 ({ frames := 3, cells := 0, slots := 0, locals := 40 } : Room) "java/lang/String" jdk_42_method_56_code 2 (some .char) "charAt" X [] [(a, c), (b, cb)] T1 0 (0) := W2
  show Go Z EL1 _ _ _ X T1 4 #[.val (.ref a), .val (.int i.toInt32)] [(.int (1 : Int32))]
  refine Go.if_eq (pc' := 7) W2 16 d_jdk_42_method_56_code_4 (by decide) rfl (fun q => absurd q (by decide)) (fun _ => ?_)
  refine Go.aloadN (pc' := 8) W2 d_jdk_42_method_56_code_7 rfl rfl rfl ?_
  refine Go.getfield (pc' := 11) W2 (Or.inr (Or.inl (List.mem_of_getElem? (i := 0) rfl))) (w_17 G) Via.refl S.2.2.1 d_jdk_42_method_56_code_8 rfl (fun T3 W4 => ?_)
  refine Go.iloadN (pc' := 12) W4 d_jdk_42_method_56_code_11 rfl rfl ?_
  refine Go.static (pc' := 15) W4 (rm_lch G b cb cs i x S.2.2.2.1 (S.2.2.2.2 x (List.mem_of_getElem? hx)) hx) (w_92 G) (w_93 G) (w_70 G) (w_94 G) (by decide) [] [1] (σf := []) rfl rfl [(.ref b), (.int i.toInt32)] [] rfl (lenOf pd_13 rfl) rfl rfl d_jdk_42_method_56_code_12 rfl (by first | exact Nat.le_of_ble_eq_true rfl | (simp; done) | (simp; omega) | omega) (by first | exact Nat.le_of_ble_eq_true rfl | (simp; done) | (simp; omega) | omega) (by first | exact Nat.le_of_ble_eq_true rfl | (simp; done) | (simp; omega) | omega) (by first | exact Nat.le_of_ble_eq_true rfl | (simp; done) | (simp; omega) | omega) ?_
  rintro _ _ _ T5 ⟨rfl, rfl, rfl⟩ W6
  replace W6 : Wk l Z EL1 ({ frames := 3, cells := 0, slots := 0, locals := 40 } : Room) "java/lang/String" jdk_42_method_56_code 2 (some .char) "charAt" X [] [(a, c), (b, cb)] T5 0 (0) := W6
  show Go Z EL1 _ _ _ X T5 15 #[.val (.ref a), .val (.int i.toInt32)] [(.int x)]
  have W7 := W6.keepRo [] (ρ' := []) rfl
  replace W7 : Wk l Z EL1 ({ frames := 3, cells := 0, slots := 0, locals := 40 } : Room) "java/lang/String" jdk_42_method_56_code 2 (some .char) "charAt" X [] [] T5 0 (0) := W7
  refine Go.nret (z' := x) W7 (by simp) (nar_char_id (lat_char (S.2.2.2.2 x (List.mem_of_getElem? hx)))) d_jdk_42_method_56_code_15 (by first | exact Nat.le_of_ble_eq_true rfl | (simp; done) | (simp; omega) | omega) (by first | exact Nat.le_of_ble_eq_true rfl | (simp; done) | (simp; omega) | omega) ?_
  exact ⟨rfl, rfl, rfl⟩
def fsn (pa pb pd : Addr) (cs : List Int32) : Value := if cs = [(99 : Int32), (111 : Int32), (110 : Int32), (102 : Int32), (105 : Int32), (103 : Int32), (117 : Int32), (114 : Int32), (101 : Int32)] then .ref pa else if cs = [(114 : Int32), (101 : Int32), (97 : Int32), (100 : Int32)] then .ref pb else if cs = [(119 : Int32), (114 : Int32), (105 : Int32), (116 : Int32), (101 : Int32)] then .ref pd else .null
theorem fsn_ref (pa pb pd : Addr) (cs : List Int32) : (fsn pa pb pd cs).isRef = true := by
  unfold fsn
  split
  · rfl
  · split
    · rfl
    · split <;> rfl
theorem and3 (p : Int32) : p &&& (3 : Int32) = (0 : Int32) ∨ p &&& (3 : Int32) = (1 : Int32) ∨ p &&& (3 : Int32) = (2 : Int32) ∨ p &&& (3 : Int32) = (3 : Int32) := by
  have h := c_and p 3 (by decide)
  have e : (3 : Int32).toInt = 3 := by decide
  rw [e] at h
  have k : (p &&& 3).toInt = 0 ∨ (p &&& 3).toInt = 1 ∨ (p &&& 3).toInt = 2 ∨ (p &&& 3).toInt = 3 := by omega
  rcases k with k | k | k | k
  · exact Or.inl (Int32.toInt_inj.mp k)
  · exact Or.inr (Or.inl (Int32.toInt_inj.mp k))
  · exact Or.inr (Or.inr (Or.inl (Int32.toInt_inj.mp k)))
  · exact Or.inr (Or.inr (Or.inr (Int32.toInt_inj.mp k)))
theorem rem3 (n : Int32) : (n &&& (2147483647 : Int32)) % (3 : Int32) = (0 : Int32) ∨ (n &&& (2147483647 : Int32)) % (3 : Int32) = (1 : Int32) ∨ (n &&& (2147483647 : Int32)) % (3 : Int32) = (2 : Int32) := by
  have h := c_and n 2147483647 (by decide)
  have k := (c_irem (n &&& 2147483647) 3 3 (by decide)).1 h.1
  generalize (n &&& (2147483647 : Int32)) % (3 : Int32) = z at k ⊢
  have k' : z.toInt = 0 ∨ z.toInt = 1 ∨ z.toInt = 2 := by omega
  rcases k' with q | q | q
  · exact Or.inl (Int32.toInt_inj.mp q)
  · exact Or.inr (Or.inl (Int32.toInt_inj.mp q))
  · exact Or.inr (Or.inr (Int32.toInt_inj.mp q))
theorem lat_ite {p : Prop} [Decidable p] {x y : Int32} (hx : ¬ x < 0 ∧ ¬ (255 : Int32) < x) (hy : ¬ y < 0 ∧ ¬ (255 : Int32) < y) : ¬ (if p then x else y) < 0 ∧ ¬ (255 : Int32) < (if p then x else y) := by
  split
  · exact hx
  · exact hy
theorem pj9 (n : Int32) : ∃ j : Nat, j < 9 ∧ (n &&& (2147483647 : Int32)) % (9 : Int32) = j.toInt32 := by
  have h := c_and n 2147483647 (by decide)
  have k := (c_irem (n &&& 2147483647) 9 9 (by decide)).1 h.1
  generalize (n &&& (2147483647 : Int32)) % (9 : Int32) = z at k ⊢
  exact ⟨z.toInt.toNat, by omega, Int32.toInt_inj.mp (by rw [i32_toInt (by omega)]; omega)⟩
theorem pj4 (n : Int32) : ∃ j : Nat, j < 4 ∧ (n &&& (2147483647 : Int32)) % (4 : Int32) = j.toInt32 := by
  have h := c_and n 2147483647 (by decide)
  have k := (c_irem (n &&& 2147483647) 4 4 (by decide)).1 h.1
  generalize (n &&& (2147483647 : Int32)) % (4 : Int32) = z at k ⊢
  exact ⟨z.toInt.toNat, by omega, Int32.toInt_inj.mp (by rw [i32_toInt (by omega)]; omega)⟩
theorem pj5 (n : Int32) : ∃ j : Nat, j < 5 ∧ (n &&& (2147483647 : Int32)) % (5 : Int32) = j.toInt32 := by
  have h := c_and n 2147483647 (by decide)
  have k := (c_irem (n &&& 2147483647) 5 5 (by decide)).1 h.1
  generalize (n &&& (2147483647 : Int32)) % (5 : Int32) = z at k ⊢
  exact ⟨z.toInt.toNat, by omega, Int32.toInt_inj.mp (by rw [i32_toInt (by omega)]; omega)⟩
theorem pure0_configure (pa pb pd : Addr) (j : Nat) (hj : j < 9) (ch x : Int32) (hx : ([(99 : Int32), (111 : Int32), (110 : Int32), (102 : Int32), (105 : Int32), (103 : Int32), (117 : Int32), (114 : Int32), (101 : Int32)] : List Int32)[j]? = some x) : (ch = x → fsn pa pb pd [if 0 = j then ch else (99 : Int32), if 1 = j then ch else (111 : Int32), if 2 = j then ch else (110 : Int32), if 3 = j then ch else (102 : Int32), if 4 = j then ch else (105 : Int32), if 5 = j then ch else (103 : Int32), if 6 = j then ch else (117 : Int32), if 7 = j then ch else (114 : Int32), if 8 = j then ch else (101 : Int32)] = .ref pa) ∧ (¬ ch = x → fsn pa pb pd [if 0 = j then ch else (99 : Int32), if 1 = j then ch else (111 : Int32), if 2 = j then ch else (110 : Int32), if 3 = j then ch else (102 : Int32), if 4 = j then ch else (105 : Int32), if 5 = j then ch else (103 : Int32), if 6 = j then ch else (117 : Int32), if 7 = j then ch else (114 : Int32), if 8 = j then ch else (101 : Int32)] = .null) := by
  have h : j = 0 ∨ j = 1 ∨ j = 2 ∨ j = 3 ∨ j = 4 ∨ j = 5 ∨ j = 6 ∨ j = 7 ∨ j = 8 := by omega
  rcases h with rfl | rfl | rfl | rfl | rfl | rfl | rfl | rfl | rfl <;> simp at hx <;> subst hx <;> constructor <;> intro h <;> simp [fsn, h]
theorem pure1_configure (pa pb pd : Addr) (ch : Int32) : fsn pa pb pd [(99 : Int32), (111 : Int32), (110 : Int32), (102 : Int32), (105 : Int32), (103 : Int32), (117 : Int32), (114 : Int32), (101 : Int32), ch] = .null := by simp [fsn]
theorem pure2_configure (pa pb pd : Addr) (j : Nat) (hj : j < 9) : fsn pa pb pd [if 0 < j then (99 : Int32) else (111 : Int32), if 1 < j then (111 : Int32) else (110 : Int32), if 2 < j then (110 : Int32) else (102 : Int32), if 3 < j then (102 : Int32) else (105 : Int32), if 4 < j then (105 : Int32) else (103 : Int32), if 5 < j then (103 : Int32) else (117 : Int32), if 6 < j then (117 : Int32) else (114 : Int32), if 7 < j then (114 : Int32) else (101 : Int32)] = .null := by
  have h : j = 0 ∨ j = 1 ∨ j = 2 ∨ j = 3 ∨ j = 4 ∨ j = 5 ∨ j = 6 ∨ j = 7 ∨ j = 8 := by omega
  rcases h with rfl | rfl | rfl | rfl | rfl | rfl | rfl | rfl | rfl <;> simp [fsn]
theorem pure0_read (pa pb pd : Addr) (j : Nat) (hj : j < 4) (ch x : Int32) (hx : ([(114 : Int32), (101 : Int32), (97 : Int32), (100 : Int32)] : List Int32)[j]? = some x) : (ch = x → fsn pa pb pd [if 0 = j then ch else (114 : Int32), if 1 = j then ch else (101 : Int32), if 2 = j then ch else (97 : Int32), if 3 = j then ch else (100 : Int32)] = .ref pb) ∧ (¬ ch = x → fsn pa pb pd [if 0 = j then ch else (114 : Int32), if 1 = j then ch else (101 : Int32), if 2 = j then ch else (97 : Int32), if 3 = j then ch else (100 : Int32)] = .null) := by
  have h : j = 0 ∨ j = 1 ∨ j = 2 ∨ j = 3 := by omega
  rcases h with rfl | rfl | rfl | rfl <;> simp at hx <;> subst hx <;> constructor <;> intro h <;> simp [fsn, h]
theorem pure1_read (pa pb pd : Addr) (ch : Int32) : fsn pa pb pd [(114 : Int32), (101 : Int32), (97 : Int32), (100 : Int32), ch] = .null := by simp [fsn]
theorem pure2_read (pa pb pd : Addr) (j : Nat) (hj : j < 4) : fsn pa pb pd [if 0 < j then (114 : Int32) else (101 : Int32), if 1 < j then (101 : Int32) else (97 : Int32), if 2 < j then (97 : Int32) else (100 : Int32)] = .null := by
  have h : j = 0 ∨ j = 1 ∨ j = 2 ∨ j = 3 := by omega
  rcases h with rfl | rfl | rfl | rfl <;> simp [fsn]
theorem pure0_write (pa pb pd : Addr) (j : Nat) (hj : j < 5) (ch x : Int32) (hx : ([(119 : Int32), (114 : Int32), (105 : Int32), (116 : Int32), (101 : Int32)] : List Int32)[j]? = some x) : (ch = x → fsn pa pb pd [if 0 = j then ch else (119 : Int32), if 1 = j then ch else (114 : Int32), if 2 = j then ch else (105 : Int32), if 3 = j then ch else (116 : Int32), if 4 = j then ch else (101 : Int32)] = .ref pd) ∧ (¬ ch = x → fsn pa pb pd [if 0 = j then ch else (119 : Int32), if 1 = j then ch else (114 : Int32), if 2 = j then ch else (105 : Int32), if 3 = j then ch else (116 : Int32), if 4 = j then ch else (101 : Int32)] = .null) := by
  have h : j = 0 ∨ j = 1 ∨ j = 2 ∨ j = 3 ∨ j = 4 := by omega
  rcases h with rfl | rfl | rfl | rfl | rfl <;> simp at hx <;> subst hx <;> constructor <;> intro h <;> simp [fsn, h]
theorem pure1_write (pa pb pd : Addr) (ch : Int32) : fsn pa pb pd [(119 : Int32), (114 : Int32), (105 : Int32), (116 : Int32), (101 : Int32), ch] = .null := by simp [fsn]
theorem pure2_write (pa pb pd : Addr) (j : Nat) (hj : j < 5) : fsn pa pb pd [if 0 < j then (119 : Int32) else (114 : Int32), if 1 < j then (114 : Int32) else (105 : Int32), if 2 < j then (105 : Int32) else (116 : Int32), if 3 < j then (116 : Int32) else (101 : Int32)] = .null := by
  have h : j = 0 ∨ j = 1 ∨ j = 2 ∨ j = 3 ∨ j = 4 := by omega
  rcases h with rfl | rfl | rfl | rfl | rfl <;> simp [fsn]
theorem purey (pa pb pd : Addr) (xa xb xc xd : Int32) (ha : xa = 114) (hb : xb = 101) (hc : xc = 97) (hd : xd = 100) : fsn pa pb pd [xa, xb, xc, xd] = .ref pb := by subst ha hb hc hd; simp [fsn]
theorem puren (pa pb pd : Addr) (xa xb xc xd : Int32) (h : ¬ (xa = 114 ∧ xb = 101 ∧ xc = 97 ∧ xd = 100)) : fsn pa pb pd [xa, xb, xc, xd] = .null := by
  rw [fsn, if_neg (by simp), if_neg (fun e => h (by simpa using e)), if_neg (by simp)]
theorem pn_14 : plainName "com/example/grantline/grantline/enforcer/Permission" = true := by first | (simp [plainName, overriddenIn]; done) | decide +kernel
theorem d_prog_13_method_1_code_0 : decode prog_13_method_1_code 0 = .ok (.getstatic 13, 3) := by decide +kernel
theorem w_31 {Z : State} {a0 : Array Value} (G : Cl Z a0) : (Jvm.Cond.fieldLink "com/example/grantline/grantline/enforcer/Permission" 13 "com/example/grantline/grantline/enforcer/Permission" "$VALUES" "[Lcom/example/grantline/grantline/enforcer/Permission;").before a0 Z = true := G.1 _ (List.mem_of_getElem? (l := tables_1) (i := 31) rfl)
theorem d_prog_13_method_1_code_3 : decode prog_13_method_1_code 3 = .ok (.invokevirtual 17, 3) := by decide +kernel
theorem w_33 {Z : State} {a0 : Array Value} (G : Cl Z a0) : (Jvm.Cond.methodLink "com/example/grantline/grantline/enforcer/Permission" 17 (⟨"[Lcom/example/grantline/grantline/enforcer/Permission;", "clone", "()Ljava/lang/Object;"⟩ : MethodName)).before a0 Z = true := G.1 _ (List.mem_of_getElem? (l := tables_1) (i := 33) rfl)
theorem w_34 {Z : State} {a0 : Array Value} (G : Cl Z a0) : (Jvm.Cond.sameMethod "[Lcom/example/grantline/grantline/enforcer/Permission;" "java/lang/Object" "clone" "()Ljava/lang/Object;").before a0 Z = true := G.1 _ (List.mem_of_getElem? (l := tables_1) (i := 34) rfl)
theorem w_38 {Z : State} {a0 : Array Value} (G : Cl Z a0) : (Jvm.Cond.native (⟨"java/lang/Object", "clone", "()Ljava/lang/Object;"⟩ : MethodName)).before a0 Z = true := G.1 _ (List.mem_of_getElem? (l := tables_1) (i := 38) rfl)
theorem w_36 {Z : State} {a0 : Array Value} (G : Cl Z a0) : (Jvm.Cond.instanceMethod (⟨"java/lang/Object", "clone", "()Ljava/lang/Object;"⟩ : MethodName)).before a0 Z = true := G.1 _ (List.mem_of_getElem? (l := tables_1) (i := 36) rfl)
theorem w_37 {Z : State} {a0 : Array Value} (G : Cl Z a0) : (Jvm.Cond.selects "[Lcom/example/grantline/grantline/enforcer/Permission;" (⟨"[Lcom/example/grantline/grantline/enforcer/Permission;", "clone", "()Ljava/lang/Object;"⟩ : MethodName) (⟨"java/lang/Object", "clone", "()Ljava/lang/Object;"⟩ : MethodName)).before a0 Z = true := G.1 _ (List.mem_of_getElem? (l := tables_1) (i := 37) rfl)
theorem w_39 {Z : State} {a0 : Array Value} (G : Cl Z a0) : (Jvm.Cond.castable "[Lcom/example/grantline/grantline/enforcer/Permission;" "java/lang/Cloneable").before a0 Z = true := G.1 _ (List.mem_of_getElem? (l := tables_1) (i := 39) rfl)
theorem d_prog_13_method_1_code_6 : decode prog_13_method_1_code 6 = .ok (.checkcast 18, 3) := by decide +kernel
theorem w_43 {Z : State} {a0 : Array Value} (G : Cl Z a0) : (Jvm.Cond.classLink "com/example/grantline/grantline/enforcer/Permission" 18 "[Lcom/example/grantline/grantline/enforcer/Permission;").before a0 Z = true := G.1 _ (List.mem_of_getElem? (l := tables_1) (i := 43) rfl)
theorem d_prog_13_method_1_code_9 : decode prog_13_method_1_code 9 = .ok (.areturn, 1) := by decide +kernel
set_option maxRecDepth 65536 in
set_option maxHeartbeats 40000000 in
theorem rm_vals {l : Launch} {Z : State} {a0 : Array Value} (G : Cl Z a0) (adA : Addr) (adB : Addr) (adC : Addr) (adD : Addr) (adE : Addr) (adF : Addr) (adG : Addr) (adH : Addr) (adI : Addr) (adJ : Addr) (ceA : Cell) (ceB : Cell) (ceC : Cell) (ceD : Cell) (ceE : Cell) (ceF : Cell) (ceG : Cell) (ceH : Cell) (ceI : Cell) (ceJ : Cell) (hzA : Z.heap[adA]? = some ceA) (obA : ObjC Z ceA "com/example/grantline/grantline/enforcer/Permission") (fdA : FldC Z ceA "com/example/grantline/grantline/enforcer/Permission" "scopeName" "Ljava/lang/String;" (.ref adE)) (hzB : Z.heap[adB]? = some ceB) (obB : ObjC Z ceB "[Lcom/example/grantline/grantline/enforcer/Permission;") (arA : ArrC Z ceB (.object "com/example/grantline/grantline/enforcer/Permission") [(.ref adA), (.ref adC), (.ref adD)]) (hzC : Z.heap[adC]? = some ceC) (obC : ObjC Z ceC "com/example/grantline/grantline/enforcer/Permission") (fdB : FldC Z ceC "com/example/grantline/grantline/enforcer/Permission" "scopeName" "Ljava/lang/String;" (.ref adF)) (hzD : Z.heap[adD]? = some ceD) (obD : ObjC Z ceD "com/example/grantline/grantline/enforcer/Permission") (fdC : FldC Z ceD "com/example/grantline/grantline/enforcer/Permission" "scopeName" "Ljava/lang/String;" (.ref adG)) (hzE : Z.heap[adE]? = some ceE) (slA : StrL Z ceE adH ceH [(99 : Int32), (111 : Int32), (110 : Int32), (102 : Int32), (105 : Int32), (103 : Int32), (117 : Int32), (114 : Int32), (101 : Int32)]) (hzF : Z.heap[adF]? = some ceF) (slB : StrL Z ceF adI ceI [(114 : Int32), (101 : Int32), (97 : Int32), (100 : Int32)]) (hzG : Z.heap[adG]? = some ceG) (slC : StrL Z ceG adJ ceJ [(119 : Int32), (114 : Int32), (105 : Int32), (116 : Int32), (101 : Int32)]) (hzH : Z.heap[adH]? = some ceH) (hzI : Z.heap[adI]? = some ceI) (hzJ : Z.heap[adJ]? = some ceJ) (stA : Sta Z Z.heap "com/example/grantline/grantline/enforcer/Permission" "CONFIGURE" "Lcom/example/grantline/grantline/enforcer/Permission;" (.ref adA)) (stB : Sta Z Z.heap "com/example/grantline/grantline/enforcer/Permission" "$VALUES" "[Lcom/example/grantline/grantline/enforcer/Permission;" (.ref adB)) (stC : Sta Z Z.heap "com/example/grantline/grantline/enforcer/Permission" "READ" "Lcom/example/grantline/grantline/enforcer/Permission;" (.ref adC)) (stD : Sta Z Z.heap "com/example/grantline/grantline/enforcer/Permission" "WRITE" "Lcom/example/grantline/grantline/enforcer/Permission;" (.ref adD)) :
    Met l Z EL1 (⟨"com/example/grantline/grantline/enforcer/Permission", "values", "()[Lcom/example/grantline/grantline/enforcer/Permission;"⟩ : MethodName) prog_13_method_1_code 0 (some (.array (.object "com/example/grantline/grantline/enforcer/Permission"))) ({ frames := 1, cells := 1, slots := 3, locals := 14 } : Room) #[] [] [] (fun v σ ρ => ∃ a c, v = some (.ref a) ∧ σ = [(a, c)] ∧ ρ = [] ∧ ArrC Z c (.object "com/example/grantline/grantline/enforcer/Permission") [(.ref adA), (.ref adC), (.ref adD)]) := by
  refine Met.walk G.2.1 pn_14 #[] (fun m => by first | (simp [entryFrame, mkF, argsToLocals, Value.category]; done) | rfl) ?_
  intro X T0 W0
  refine Go.getstatic (pc' := 3) W0 (w_31 G) Via.refl stB d_prog_13_method_1_code_0 rfl (fun T1 W2 => ?_)
  refine Go.clone (pc' := 6) W2 (Or.inr (Or.inr hzB)) arA obB (w_33 G) (w_34 G) (w_38 G) (w_36 G) (w_37 G) (w_39 G) rfl d_prog_13_method_1_code_3 rfl (by first | exact Nat.le_of_ble_eq_true rfl | (simp; done) | (simp; omega) | omega) (by first | exact Nat.le_of_ble_eq_true rfl | (simp; done) | (simp; omega) | omega) (by first | exact Nat.le_of_ble_eq_true rfl | (simp; done) | (simp; omega) | omega) (by first | exact Nat.le_of_ble_eq_true rfl | (simp; done) | (simp; omega) | omega) (fun T3 a5 c6 W4 A7 O8 => ?_)
  replace W4 : Wk l Z EL1 ({ frames := 1, cells := 1, slots := 3, locals := 14 } : Room) "com/example/grantline/grantline/enforcer/Permission" prog_13_method_1_code 0 (some (.array (.object "com/example/grantline/grantline/enforcer/Permission"))) "values" X [(a5, c6)] [] T3 1 (3) := W4
  refine Go.castY (pc' := 9) W4 (Or.inl (List.mem_of_getElem? (i := 0) rfl)) O8 (w_43 G) d_prog_13_method_1_code_6 rfl (fun T9 W10 => ?_)
  refine Go.aret W10 rfl rfl d_prog_13_method_1_code_9 (by first | exact Nat.le_of_ble_eq_true rfl | (simp; done) | (simp; omega) | omega) (by first | exact Nat.le_of_ble_eq_true rfl | (simp; done) | (simp; omega) | omega) ?_
  exact ⟨a5, c6, rfl, rfl, rfl, A7⟩
theorem d_prog_13_method_5_code_0 : decode prog_13_method_5_code 0 = .ok (.invokestatic 36, 3) := by decide +kernel
theorem w_28 {Z : State} {a0 : Array Value} (G : Cl Z a0) : (Jvm.Cond.methodLink "com/example/grantline/grantline/enforcer/Permission" 36 (⟨"com/example/grantline/grantline/enforcer/Permission", "values", "()[Lcom/example/grantline/grantline/enforcer/Permission;"⟩ : MethodName)).before a0 Z = true := G.1 _ (List.mem_of_getElem? (l := tables_1) (i := 28) rfl)
theorem w_10 {Z : State} {a0 : Array Value} (G : Cl Z a0) : (Jvm.Cond.initialized "com/example/grantline/grantline/enforcer/Permission").before a0 Z = true := G.1 _ (List.mem_of_getElem? (l := tables_1) (i := 10) rfl)
theorem w_30 {Z : State} {a0 : Array Value} (G : Cl Z a0) : (Jvm.Cond.code (⟨"com/example/grantline/grantline/enforcer/Permission", "values", "()[Lcom/example/grantline/grantline/enforcer/Permission;"⟩ : MethodName) prog_13_method_1_code 0 (some (.array (.object "com/example/grantline/grantline/enforcer/Permission")))).before a0 Z = true := G.1 _ (List.mem_of_getElem? (l := tables_1) (i := 30) rfl)
theorem pd_15 : parseMethodDescriptor "()[Lcom/example/grantline/grantline/enforcer/Permission;" = some ⟨[], some (.array (.object "com/example/grantline/grantline/enforcer/Permission"))⟩ := by decide +kernel
theorem w_29 {Z : State} {a0 : Array Value} (G : Cl Z a0) : (Jvm.Cond.static (⟨"com/example/grantline/grantline/enforcer/Permission", "values", "()[Lcom/example/grantline/grantline/enforcer/Permission;"⟩ : MethodName)).before a0 Z = true := G.1 _ (List.mem_of_getElem? (l := tables_1) (i := 29) rfl)
theorem d_prog_13_method_5_code_3 : decode prog_13_method_5_code 3 = .ok (.astore_n 1, 1) := by decide +kernel
theorem d_prog_13_method_5_code_4 : decode prog_13_method_5_code 4 = .ok (.aload_n 1, 1) := by decide +kernel
theorem d_prog_13_method_5_code_5 : decode prog_13_method_5_code 5 = .ok (.arraylength, 1) := by decide +kernel
theorem d_prog_13_method_5_code_6 : decode prog_13_method_5_code 6 = .ok (.istore_n 2, 1) := by decide +kernel
theorem d_prog_13_method_5_code_7 : decode prog_13_method_5_code 7 = .ok (.iconst 0, 1) := by decide +kernel
theorem d_prog_13_method_5_code_8 : decode prog_13_method_5_code 8 = .ok (.istore_n 3, 1) := by decide +kernel
theorem d_prog_13_method_5_code_9 : decode prog_13_method_5_code 9 = .ok (.iload_n 3, 1) := by decide +kernel
theorem d_prog_13_method_5_code_10 : decode prog_13_method_5_code 10 = .ok (.iload_n 2, 1) := by decide +kernel
theorem d_prog_13_method_5_code_11 : decode prog_13_method_5_code 11 = .ok (.if_icmp .ge 29, 3) := by decide +kernel
theorem d_prog_13_method_5_code_14 : decode prog_13_method_5_code 14 = .ok (.aload_n 1, 1) := by decide +kernel
theorem d_prog_13_method_5_code_15 : decode prog_13_method_5_code 15 = .ok (.iload_n 3, 1) := by decide +kernel
theorem d_prog_13_method_5_code_16 : decode prog_13_method_5_code 16 = .ok (.aaload, 1) := by decide +kernel
theorem d_prog_13_method_5_code_17 : decode prog_13_method_5_code 17 = .ok (.astore 4, 2) := by decide +kernel
theorem d_prog_13_method_5_code_19 : decode prog_13_method_5_code 19 = .ok (.aload 4, 2) := by decide +kernel
theorem d_prog_13_method_5_code_21 : decode prog_13_method_5_code 21 = .ok (.getfield 32, 3) := by decide +kernel
theorem w_45 {Z : State} {a0 : Array Value} (G : Cl Z a0) : (Jvm.Cond.fieldLink "com/example/grantline/grantline/enforcer/Permission" 32 "com/example/grantline/grantline/enforcer/Permission" "scopeName" "Ljava/lang/String;").before a0 Z = true := G.1 _ (List.mem_of_getElem? (l := tables_1) (i := 45) rfl)
theorem d_prog_13_method_5_code_24 : decode prog_13_method_5_code 24 = .ok (.aload_n 0, 1) := by decide +kernel
theorem d_prog_13_method_5_code_25 : decode prog_13_method_5_code 25 = .ok (.invokevirtual 40, 3) := by decide +kernel
theorem w_47 {Z : State} {a0 : Array Value} (G : Cl Z a0) : (Jvm.Cond.methodLink "com/example/grantline/grantline/enforcer/Permission" 40 (⟨"java/lang/String", "equals", "(Ljava/lang/Object;)Z"⟩ : MethodName)).before a0 Z = true := G.1 _ (List.mem_of_getElem? (l := tables_1) (i := 47) rfl)
theorem w_51 {Z : State} {a0 : Array Value} (G : Cl Z a0) : (Jvm.Cond.code (⟨"java/lang/String", "equals", "(Ljava/lang/Object;)Z"⟩ : MethodName) jdk_42_method_66_code 3 (some .boolean)).before a0 Z = true := G.1 _ (List.mem_of_getElem? (l := tables_1) (i := 51) rfl)
theorem pd_16 : parseMethodDescriptor "(Ljava/lang/Object;)Z" = some ⟨[(.object "java/lang/Object")], some .boolean⟩ := by decide +kernel
theorem w_48 {Z : State} {a0 : Array Value} (G : Cl Z a0) : (Jvm.Cond.declares (⟨"java/lang/String", "equals", "(Ljava/lang/Object;)Z"⟩ : MethodName)).before a0 Z = true := G.1 _ (List.mem_of_getElem? (l := tables_1) (i := 48) rfl)
theorem w_50 {Z : State} {a0 : Array Value} (G : Cl Z a0) : (Jvm.Cond.selects "java/lang/String" (⟨"java/lang/String", "equals", "(Ljava/lang/Object;)Z"⟩ : MethodName) (⟨"java/lang/String", "equals", "(Ljava/lang/Object;)Z"⟩ : MethodName)).before a0 Z = true := G.1 _ (List.mem_of_getElem? (l := tables_1) (i := 50) rfl)
theorem w_49 {Z : State} {a0 : Array Value} (G : Cl Z a0) : (Jvm.Cond.instanceMethod (⟨"java/lang/String", "equals", "(Ljava/lang/Object;)Z"⟩ : MethodName)).before a0 Z = true := G.1 _ (List.mem_of_getElem? (l := tables_1) (i := 49) rfl)
theorem d_prog_13_method_5_code_28 : decode prog_13_method_5_code 28 = .ok (.ifCond .eq 6, 3) := by decide +kernel
theorem d_prog_13_method_5_code_34 : decode prog_13_method_5_code 34 = .ok (.iinc 3 1, 3) := by decide +kernel
theorem d_prog_13_method_5_code_37 : decode prog_13_method_5_code 37 = .ok (.goto (-28), 3) := by decide +kernel
theorem d_prog_13_method_5_code_40 : decode prog_13_method_5_code 40 = .ok (.aconst_null, 1) := by decide +kernel
theorem d_prog_13_method_5_code_41 : decode prog_13_method_5_code 41 = .ok (.areturn, 1) := by decide +kernel
theorem d_prog_13_method_5_code_31 : decode prog_13_method_5_code 31 = .ok (.aload 4, 2) := by decide +kernel
theorem d_prog_13_method_5_code_33 : decode prog_13_method_5_code 33 = .ok (.areturn, 1) := by decide +kernel
set_option maxRecDepth 65536 in
set_option maxHeartbeats 40000000 in
theorem rm_fsn {l : Launch} {Z : State} {a0 : Array Value} (G : Cl Z a0) (adA : Addr) (adB : Addr) (adC : Addr) (adD : Addr) (adE : Addr) (adF : Addr) (adG : Addr) (adH : Addr) (adI : Addr) (adJ : Addr) (ceA : Cell) (ceB : Cell) (ceC : Cell) (ceD : Cell) (ceE : Cell) (ceF : Cell) (ceG : Cell) (ceH : Cell) (ceI : Cell) (ceJ : Cell) (hzA : Z.heap[adA]? = some ceA) (obA : ObjC Z ceA "com/example/grantline/grantline/enforcer/Permission") (fdA : FldC Z ceA "com/example/grantline/grantline/enforcer/Permission" "scopeName" "Ljava/lang/String;" (.ref adE)) (hzB : Z.heap[adB]? = some ceB) (obB : ObjC Z ceB "[Lcom/example/grantline/grantline/enforcer/Permission;") (arA : ArrC Z ceB (.object "com/example/grantline/grantline/enforcer/Permission") [(.ref adA), (.ref adC), (.ref adD)]) (hzC : Z.heap[adC]? = some ceC) (obC : ObjC Z ceC "com/example/grantline/grantline/enforcer/Permission") (fdB : FldC Z ceC "com/example/grantline/grantline/enforcer/Permission" "scopeName" "Ljava/lang/String;" (.ref adF)) (hzD : Z.heap[adD]? = some ceD) (obD : ObjC Z ceD "com/example/grantline/grantline/enforcer/Permission") (fdC : FldC Z ceD "com/example/grantline/grantline/enforcer/Permission" "scopeName" "Ljava/lang/String;" (.ref adG)) (hzE : Z.heap[adE]? = some ceE) (slA : StrL Z ceE adH ceH [(99 : Int32), (111 : Int32), (110 : Int32), (102 : Int32), (105 : Int32), (103 : Int32), (117 : Int32), (114 : Int32), (101 : Int32)]) (hzF : Z.heap[adF]? = some ceF) (slB : StrL Z ceF adI ceI [(114 : Int32), (101 : Int32), (97 : Int32), (100 : Int32)]) (hzG : Z.heap[adG]? = some ceG) (slC : StrL Z ceG adJ ceJ [(119 : Int32), (114 : Int32), (105 : Int32), (116 : Int32), (101 : Int32)]) (hzH : Z.heap[adH]? = some ceH) (hzI : Z.heap[adI]? = some ceI) (hzJ : Z.heap[adJ]? = some ceJ) (stA : Sta Z Z.heap "com/example/grantline/grantline/enforcer/Permission" "CONFIGURE" "Lcom/example/grantline/grantline/enforcer/Permission;" (.ref adA)) (stB : Sta Z Z.heap "com/example/grantline/grantline/enforcer/Permission" "$VALUES" "[Lcom/example/grantline/grantline/enforcer/Permission;" (.ref adB)) (stC : Sta Z Z.heap "com/example/grantline/grantline/enforcer/Permission" "READ" "Lcom/example/grantline/grantline/enforcer/Permission;" (.ref adC)) (stD : Sta Z Z.heap "com/example/grantline/grantline/enforcer/Permission" "WRITE" "Lcom/example/grantline/grantline/enforcer/Permission;" (.ref adD)) (a b : Addr) (c cb : Cell) (cs : List Int32) (S : StrL Z c b cb cs) :
    Met l Z EL1 (⟨"com/example/grantline/grantline/enforcer/Permission", "fromScopeName", "(Ljava/lang/String;)Lcom/example/grantline/grantline/enforcer/Permission;"⟩ : MethodName) prog_13_method_5_code 5 (some (.object "com/example/grantline/grantline/enforcer/Permission")) ({ frames := 2, cells := 1, slots := 3, locals := 28 } : Room) #[.ref a] [] [(a, c), (b, cb)] (fun v σ ρ => v = some (fsn adA adC adD cs) ∧ σ = [] ∧ ρ = []) := by
  refine Met.walk G.2.1 pn_14 #[.val (.ref a), .unset, .unset, .unset, .unset] (fun m => by first | (simp [entryFrame, mkF, argsToLocals, Value.category]; done) | rfl) ?_
  intro X T0 W0
  refine Go.static (pc' := 3) W0 (rm_vals G adA adB adC adD adE adF adG adH adI adJ ceA ceB ceC ceD ceE ceF ceG ceH ceI ceJ hzA obA fdA hzB obB arA hzC obC fdB hzD obD fdC hzE slA hzF slB hzG slC hzH hzI hzJ stA stB stC stD) (w_28 G) (w_29 G) (w_10 G) (w_30 G) (by decide) [] [] (σf := []) rfl rfl [] [] rfl (lenOf pd_15 rfl) rfl rfl d_prog_13_method_5_code_0 rfl (by first | exact Nat.le_of_ble_eq_true rfl | (simp; done) | (simp; omega) | omega) (by first | exact Nat.le_of_ble_eq_true rfl | (simp; done) | (simp; omega) | omega) (by first | exact Nat.le_of_ble_eq_true rfl | (simp; done) | (simp; omega) | omega) (by first | exact Nat.le_of_ble_eq_true rfl | (simp; done) | (simp; omega) | omega) ?_
  rintro _ _ _ T4 ⟨a1, c2, rfl, rfl, rfl, A3⟩ W5
  replace W5 : Wk l Z EL1 ({ frames := 2, cells := 1, slots := 3, locals := 28 } : Room) "com/example/grantline/grantline/enforcer/Permission" prog_13_method_5_code 5 (some (.object "com/example/grantline/grantline/enforcer/Permission")) "fromScopeName" X [(a1, c2)] [(a, c), (b, cb)] T4 1 (3) := W5
  show Go Z EL1 _ _ _ X T4 3 #[.val (.ref a), .unset, .unset, .unset, .unset] [(.ref a1)]
  refine Go.astoreN (pc' := 4) W5 #[.val (.ref a), .val (.ref a1), .unset, .unset, .unset] d_prog_13_method_5_code_3 rfl rfl rfl ?_
  refine Go.aloadN (pc' := 5) W5 d_prog_13_method_5_code_4 rfl rfl rfl ?_
  refine Go.arrlen (pc' := 6) W5 (Or.inl (List.mem_of_getElem? (i := 0) rfl)) A3 (3 : Int32) rfl d_prog_13_method_5_code_5 rfl ?_
  refine Go.istoreN (pc' := 7) W5 #[.val (.ref a), .val (.ref a1), .val (.int (3 : Int32)), .unset, .unset] d_prog_13_method_5_code_6 rfl rfl ?_
  refine Go.iconst (pc' := 8) W5 (0 : Int32) d_prog_13_method_5_code_7 (by decide) rfl ?_
  refine Go.istoreN (pc' := 9) W5 #[.val (.ref a), .val (.ref a1), .val (.int (3 : Int32)), .val (.int (0 : Int32)), .unset] d_prog_13_method_5_code_8 rfl rfl ?_
  refine Go.iloadN (pc' := 10) W5 d_prog_13_method_5_code_9 rfl rfl ?_
  refine Go.iloadN (pc' := 11) W5 d_prog_13_method_5_code_10 rfl rfl ?_
  refine Go.icmp_ge (pc' := 14) W5 40 d_prog_13_method_5_code_11 (by decide) rfl (fun q => absurd (by decide) q) (fun _ => ?_)
  refine Go.aloadN (pc' := 15) W5 d_prog_13_method_5_code_14 rfl rfl rfl ?_
  refine Go.iloadN (pc' := 16) W5 d_prog_13_method_5_code_15 rfl rfl ?_
  refine Go.aaload (pc' := 17) W5 (Or.inl (List.mem_of_getElem? (i := 0) rfl)) A3 rfl 0 (by decide) (by decide) rfl d_prog_13_method_5_code_16 rfl ?_
  refine Go.astore (pc' := 19) W5 #[.val (.ref a), .val (.ref a1), .val (.int (3 : Int32)), .val (.int (0 : Int32)), .val (.ref adA)] d_prog_13_method_5_code_17 rfl rfl rfl ?_
  refine Go.aload (pc' := 21) W5 d_prog_13_method_5_code_19 rfl rfl rfl ?_
  refine Go.getfield (pc' := 24) W5 (Or.inr (Or.inr hzA)) (w_45 G) Via.refl fdA d_prog_13_method_5_code_21 rfl (fun T6 W7 => ?_)
  refine Go.aloadN (pc' := 25) W7 d_prog_13_method_5_code_24 rfl rfl rfl ?_
  have W8 := W7.old hzE
  replace W8 : Wk l Z EL1 ({ frames := 2, cells := 1, slots := 3, locals := 28 } : Room) "com/example/grantline/grantline/enforcer/Permission" prog_13_method_5_code 5 (some (.object "com/example/grantline/grantline/enforcer/Permission")) "fromScopeName" X [(a1, c2)] [(adE, ceE), (a, c), (b, cb)] T6 1 (3) := W8
  have W9 := W8.old hzH
  replace W9 : Wk l Z EL1 ({ frames := 2, cells := 1, slots := 3, locals := 28 } : Room) "com/example/grantline/grantline/enforcer/Permission" prog_13_method_5_code 5 (some (.object "com/example/grantline/grantline/enforcer/Permission")) "fromScopeName" X [(a1, c2)] [(adH, ceH), (adE, ceE), (a, c), (b, cb)] T6 1 (3) := W9
  refine Go.virtual (pc' := 28) W9 (rm_eqs G adE a adH b ceE c ceH cb [(99 : Int32), (111 : Int32), (110 : Int32), (102 : Int32), (105 : Int32), (103 : Int32), (117 : Int32), (114 : Int32), (101 : Int32)] cs slA S) (Or.inr (Or.inl (List.mem_of_getElem? (i := 1) rfl))) slA.1 (w_47 G) (w_48 G) (w_50 G) (w_49 G) (w_2 G) (w_51 G) (by decide) [] [1, 0, 2, 3] (σf := [(a1, c2)]) rfl rfl [(.ref a)] [] rfl (lenOf pd_16 rfl) rfl rfl d_prog_13_method_5_code_25 rfl (by first | exact Nat.le_of_ble_eq_true rfl | (simp; done) | (simp; omega) | omega) (by first | exact Nat.le_of_ble_eq_true rfl | (simp; done) | (simp; omega) | omega) (by first | exact Nat.le_of_ble_eq_true rfl | (simp; done) | (simp; omega) | omega) (by first | exact Nat.le_of_ble_eq_true rfl | (simp; done) | (simp; omega) | omega) ?_
  rintro _ _ _ T10 ⟨rfl, rfl, rfl⟩ W11
  replace W11 : Wk l Z EL1 ({ frames := 2, cells := 1, slots := 3, locals := 28 } : Room) "com/example/grantline/grantline/enforcer/Permission" prog_13_method_5_code 5 (some (.object "com/example/grantline/grantline/enforcer/Permission")) "fromScopeName" X [(a1, c2)] [(adH, ceH), (adE, ceE), (a, c), (b, cb)] T10 1 (3) := W11
  show Go Z EL1 _ _ _ X T10 28 #[.val (.ref a), .val (.ref a1), .val (.int (3 : Int32)), .val (.int (0 : Int32)), .val (.ref adA)] [(.int (if [(99 : Int32), (111 : Int32), (110 : Int32), (102 : Int32), (105 : Int32), (103 : Int32), (117 : Int32), (114 : Int32), (101 : Int32)] = cs then 1 else 0))]
  refine Go.if_eq (pc' := 31) W11 34 d_prog_13_method_5_code_28 (by decide) rfl (fun (c12 : (if [(99 : Int32), (111 : Int32), (110 : Int32), (102 : Int32), (105 : Int32), (103 : Int32), (117 : Int32), (114 : Int32), (101 : Int32)] = cs then 1 else 0) = 0) => ?_) (fun (c12 : ¬ ((if [(99 : Int32), (111 : Int32), (110 : Int32), (102 : Int32), (105 : Int32), (103 : Int32), (117 : Int32), (114 : Int32), (101 : Int32)] = cs then 1 else 0) = 0)) => ?_)
  · refine Go.iinc (pc' := 37) W11 (1 : Int32) #[.val (.ref a), .val (.ref a1), .val (.int (3 : Int32)), .val (.int ((0 : Int32) + (1 : Int32))), .val (.ref adA)] d_prog_13_method_5_code_34 rfl (by decide) rfl rfl ?_
    rw [show ((0 : Int32) + (1 : Int32) : Int32) = (1 : Int32) from by decide]
    refine Go.goto W11 9 d_prog_13_method_5_code_37 (by decide) ?_
    refine Go.iloadN (pc' := 10) W11 d_prog_13_method_5_code_9 rfl rfl ?_
    refine Go.iloadN (pc' := 11) W11 d_prog_13_method_5_code_10 rfl rfl ?_
    refine Go.icmp_ge (pc' := 14) W11 40 d_prog_13_method_5_code_11 (by decide) rfl (fun q => absurd (by decide) q) (fun _ => ?_)
    refine Go.aloadN (pc' := 15) W11 d_prog_13_method_5_code_14 rfl rfl rfl ?_
    refine Go.iloadN (pc' := 16) W11 d_prog_13_method_5_code_15 rfl rfl ?_
    refine Go.aaload (pc' := 17) W11 (Or.inl (List.mem_of_getElem? (i := 0) rfl)) A3 rfl 1 (by decide) (by decide) rfl d_prog_13_method_5_code_16 rfl ?_
    refine Go.astore (pc' := 19) W11 #[.val (.ref a), .val (.ref a1), .val (.int (3 : Int32)), .val (.int (1 : Int32)), .val (.ref adC)] d_prog_13_method_5_code_17 rfl rfl rfl ?_
    refine Go.aload (pc' := 21) W11 d_prog_13_method_5_code_19 rfl rfl rfl ?_
    refine Go.getfield (pc' := 24) W11 (Or.inr (Or.inr hzC)) (w_45 G) Via.refl fdB d_prog_13_method_5_code_21 rfl (fun T13 W14 => ?_)
    refine Go.aloadN (pc' := 25) W14 d_prog_13_method_5_code_24 rfl rfl rfl ?_
    have W15 := W14.old hzF
    replace W15 : Wk l Z EL1 ({ frames := 2, cells := 1, slots := 3, locals := 28 } : Room) "com/example/grantline/grantline/enforcer/Permission" prog_13_method_5_code 5 (some (.object "com/example/grantline/grantline/enforcer/Permission")) "fromScopeName" X [(a1, c2)] [(adF, ceF), (adH, ceH), (adE, ceE), (a, c), (b, cb)] T13 1 (3) := W15
    have W16 := W15.old hzI
    replace W16 : Wk l Z EL1 ({ frames := 2, cells := 1, slots := 3, locals := 28 } : Room) "com/example/grantline/grantline/enforcer/Permission" prog_13_method_5_code 5 (some (.object "com/example/grantline/grantline/enforcer/Permission")) "fromScopeName" X [(a1, c2)] [(adI, ceI), (adF, ceF), (adH, ceH), (adE, ceE), (a, c), (b, cb)] T13 1 (3) := W16
    refine Go.virtual (pc' := 28) W16 (rm_eqs G adF a adI b ceF c ceI cb [(114 : Int32), (101 : Int32), (97 : Int32), (100 : Int32)] cs slB S) (Or.inr (Or.inl (List.mem_of_getElem? (i := 1) rfl))) slB.1 (w_47 G) (w_48 G) (w_50 G) (w_49 G) (w_2 G) (w_51 G) (by decide) [] [1, 0, 4, 5] (σf := [(a1, c2)]) rfl rfl [(.ref a)] [] rfl (lenOf pd_16 rfl) rfl rfl d_prog_13_method_5_code_25 rfl (by first | exact Nat.le_of_ble_eq_true rfl | (simp; done) | (simp; omega) | omega) (by first | exact Nat.le_of_ble_eq_true rfl | (simp; done) | (simp; omega) | omega) (by first | exact Nat.le_of_ble_eq_true rfl | (simp; done) | (simp; omega) | omega) (by first | exact Nat.le_of_ble_eq_true rfl | (simp; done) | (simp; omega) | omega) ?_
    rintro _ _ _ T17 ⟨rfl, rfl, rfl⟩ W18
    replace W18 : Wk l Z EL1 ({ frames := 2, cells := 1, slots := 3, locals := 28 } : Room) "com/example/grantline/grantline/enforcer/Permission" prog_13_method_5_code 5 (some (.object "com/example/grantline/grantline/enforcer/Permission")) "fromScopeName" X [(a1, c2)] [(adI, ceI), (adF, ceF), (adH, ceH), (adE, ceE), (a, c), (b, cb)] T17 1 (3) := W18
    show Go Z EL1 _ _ _ X T17 28 #[.val (.ref a), .val (.ref a1), .val (.int (3 : Int32)), .val (.int (1 : Int32)), .val (.ref adC)] [(.int (if [(114 : Int32), (101 : Int32), (97 : Int32), (100 : Int32)] = cs then 1 else 0))]
    refine Go.if_eq (pc' := 31) W18 34 d_prog_13_method_5_code_28 (by decide) rfl (fun (c19 : (if [(114 : Int32), (101 : Int32), (97 : Int32), (100 : Int32)] = cs then 1 else 0) = 0) => ?_) (fun (c19 : ¬ ((if [(114 : Int32), (101 : Int32), (97 : Int32), (100 : Int32)] = cs then 1 else 0) = 0)) => ?_)
    · refine Go.iinc (pc' := 37) W18 (1 : Int32) #[.val (.ref a), .val (.ref a1), .val (.int (3 : Int32)), .val (.int ((1 : Int32) + (1 : Int32))), .val (.ref adC)] d_prog_13_method_5_code_34 rfl (by decide) rfl rfl ?_
      rw [show ((1 : Int32) + (1 : Int32) : Int32) = (2 : Int32) from by decide]
      refine Go.goto W18 9 d_prog_13_method_5_code_37 (by decide) ?_
      refine Go.iloadN (pc' := 10) W18 d_prog_13_method_5_code_9 rfl rfl ?_
      refine Go.iloadN (pc' := 11) W18 d_prog_13_method_5_code_10 rfl rfl ?_
      refine Go.icmp_ge (pc' := 14) W18 40 d_prog_13_method_5_code_11 (by decide) rfl (fun q => absurd (by decide) q) (fun _ => ?_)
      refine Go.aloadN (pc' := 15) W18 d_prog_13_method_5_code_14 rfl rfl rfl ?_
      refine Go.iloadN (pc' := 16) W18 d_prog_13_method_5_code_15 rfl rfl ?_
      refine Go.aaload (pc' := 17) W18 (Or.inl (List.mem_of_getElem? (i := 0) rfl)) A3 rfl 2 (by decide) (by decide) rfl d_prog_13_method_5_code_16 rfl ?_
      refine Go.astore (pc' := 19) W18 #[.val (.ref a), .val (.ref a1), .val (.int (3 : Int32)), .val (.int (2 : Int32)), .val (.ref adD)] d_prog_13_method_5_code_17 rfl rfl rfl ?_
      refine Go.aload (pc' := 21) W18 d_prog_13_method_5_code_19 rfl rfl rfl ?_
      refine Go.getfield (pc' := 24) W18 (Or.inr (Or.inr hzD)) (w_45 G) Via.refl fdC d_prog_13_method_5_code_21 rfl (fun T20 W21 => ?_)
      refine Go.aloadN (pc' := 25) W21 d_prog_13_method_5_code_24 rfl rfl rfl ?_
      have W22 := W21.old hzG
      replace W22 : Wk l Z EL1 ({ frames := 2, cells := 1, slots := 3, locals := 28 } : Room) "com/example/grantline/grantline/enforcer/Permission" prog_13_method_5_code 5 (some (.object "com/example/grantline/grantline/enforcer/Permission")) "fromScopeName" X [(a1, c2)] [(adG, ceG), (adI, ceI), (adF, ceF), (adH, ceH), (adE, ceE), (a, c), (b, cb)] T20 1 (3) := W22
      have W23 := W22.old hzJ
      replace W23 : Wk l Z EL1 ({ frames := 2, cells := 1, slots := 3, locals := 28 } : Room) "com/example/grantline/grantline/enforcer/Permission" prog_13_method_5_code 5 (some (.object "com/example/grantline/grantline/enforcer/Permission")) "fromScopeName" X [(a1, c2)] [(adJ, ceJ), (adG, ceG), (adI, ceI), (adF, ceF), (adH, ceH), (adE, ceE), (a, c), (b, cb)] T20 1 (3) := W23
      refine Go.virtual (pc' := 28) W23 (rm_eqs G adG a adJ b ceG c ceJ cb [(119 : Int32), (114 : Int32), (105 : Int32), (116 : Int32), (101 : Int32)] cs slC S) (Or.inr (Or.inl (List.mem_of_getElem? (i := 1) rfl))) slC.1 (w_47 G) (w_48 G) (w_50 G) (w_49 G) (w_2 G) (w_51 G) (by decide) [] [1, 0, 6, 7] (σf := [(a1, c2)]) rfl rfl [(.ref a)] [] rfl (lenOf pd_16 rfl) rfl rfl d_prog_13_method_5_code_25 rfl (by first | exact Nat.le_of_ble_eq_true rfl | (simp; done) | (simp; omega) | omega) (by first | exact Nat.le_of_ble_eq_true rfl | (simp; done) | (simp; omega) | omega) (by first | exact Nat.le_of_ble_eq_true rfl | (simp; done) | (simp; omega) | omega) (by first | exact Nat.le_of_ble_eq_true rfl | (simp; done) | (simp; omega) | omega) ?_
      rintro _ _ _ T24 ⟨rfl, rfl, rfl⟩ W25
      replace W25 : Wk l Z EL1 ({ frames := 2, cells := 1, slots := 3, locals := 28 } : Room) "com/example/grantline/grantline/enforcer/Permission" prog_13_method_5_code 5 (some (.object "com/example/grantline/grantline/enforcer/Permission")) "fromScopeName" X [(a1, c2)] [(adJ, ceJ), (adG, ceG), (adI, ceI), (adF, ceF), (adH, ceH), (adE, ceE), (a, c), (b, cb)] T24 1 (3) := W25
      show Go Z EL1 _ _ _ X T24 28 #[.val (.ref a), .val (.ref a1), .val (.int (3 : Int32)), .val (.int (2 : Int32)), .val (.ref adD)] [(.int (if [(119 : Int32), (114 : Int32), (105 : Int32), (116 : Int32), (101 : Int32)] = cs then 1 else 0))]
      refine Go.if_eq (pc' := 31) W25 34 d_prog_13_method_5_code_28 (by decide) rfl (fun (c26 : (if [(119 : Int32), (114 : Int32), (105 : Int32), (116 : Int32), (101 : Int32)] = cs then 1 else 0) = 0) => ?_) (fun (c26 : ¬ ((if [(119 : Int32), (114 : Int32), (105 : Int32), (116 : Int32), (101 : Int32)] = cs then 1 else 0) = 0)) => ?_)
      · refine Go.iinc (pc' := 37) W25 (1 : Int32) #[.val (.ref a), .val (.ref a1), .val (.int (3 : Int32)), .val (.int ((2 : Int32) + (1 : Int32))), .val (.ref adD)] d_prog_13_method_5_code_34 rfl (by decide) rfl rfl ?_
        rw [show ((2 : Int32) + (1 : Int32) : Int32) = (3 : Int32) from by decide]
        refine Go.goto W25 9 d_prog_13_method_5_code_37 (by decide) ?_
        refine Go.iloadN (pc' := 10) W25 d_prog_13_method_5_code_9 rfl rfl ?_
        refine Go.iloadN (pc' := 11) W25 d_prog_13_method_5_code_10 rfl rfl ?_
        refine Go.icmp_ge (pc' := 14) W25 40 d_prog_13_method_5_code_11 (by decide) rfl (fun _ => ?_) (fun q => absurd q (by decide))
        refine Go.aconstNull (pc' := 41) W25 d_prog_13_method_5_code_40 rfl ?_
        have W27 := W25.drop [0] (σi := [(a1, c2)]) (σf := []) rfl
        replace W27 : Wk l Z EL1 ({ frames := 2, cells := 1, slots := 3, locals := 28 } : Room) "com/example/grantline/grantline/enforcer/Permission" prog_13_method_5_code 5 (some (.object "com/example/grantline/grantline/enforcer/Permission")) "fromScopeName" X [] [(adJ, ceJ), (adG, ceG), (adI, ceI), (adF, ceF), (adH, ceH), (adE, ceE), (a, c), (b, cb)] T24 1 (3) := W27
        have W28 := W27.keepRo [] (ρ' := []) rfl
        replace W28 : Wk l Z EL1 ({ frames := 2, cells := 1, slots := 3, locals := 28 } : Room) "com/example/grantline/grantline/enforcer/Permission" prog_13_method_5_code 5 (some (.object "com/example/grantline/grantline/enforcer/Permission")) "fromScopeName" X [] [] T24 1 (3) := W28
        refine Go.aret W28 rfl rfl d_prog_13_method_5_code_41 (by first | exact Nat.le_of_ble_eq_true rfl | (simp; done) | (simp; omega) | omega) (by first | exact Nat.le_of_ble_eq_true rfl | (simp; done) | (simp; omega) | omega) ?_
        exact ⟨by rw [fsn, if_neg (fun e => ite10_z.mp c12 e.symm), if_neg (fun e => ite10_z.mp c19 e.symm), if_neg (fun e => ite10_z.mp c26 e.symm)], rfl, rfl⟩
      · refine Go.aload (pc' := 33) W25 d_prog_13_method_5_code_31 rfl rfl rfl ?_
        have W29 := W25.drop [0] (σi := [(a1, c2)]) (σf := []) rfl
        replace W29 : Wk l Z EL1 ({ frames := 2, cells := 1, slots := 3, locals := 28 } : Room) "com/example/grantline/grantline/enforcer/Permission" prog_13_method_5_code 5 (some (.object "com/example/grantline/grantline/enforcer/Permission")) "fromScopeName" X [] [(adJ, ceJ), (adG, ceG), (adI, ceI), (adF, ceF), (adH, ceH), (adE, ceE), (a, c), (b, cb)] T24 1 (3) := W29
        have W30 := W29.keepRo [] (ρ' := []) rfl
        replace W30 : Wk l Z EL1 ({ frames := 2, cells := 1, slots := 3, locals := 28 } : Room) "com/example/grantline/grantline/enforcer/Permission" prog_13_method_5_code 5 (some (.object "com/example/grantline/grantline/enforcer/Permission")) "fromScopeName" X [] [] T24 1 (3) := W30
        refine Go.aret W30 rfl rfl d_prog_13_method_5_code_33 (by first | exact Nat.le_of_ble_eq_true rfl | (simp; done) | (simp; omega) | omega) (by first | exact Nat.le_of_ble_eq_true rfl | (simp; done) | (simp; omega) | omega) ?_
        exact ⟨by rw [fsn, if_neg (fun e => ite10_z.mp c12 e.symm), if_neg (fun e => ite10_z.mp c19 e.symm), if_pos (Classical.not_not.mp (fun e => c26 (ite10_z.mpr (fun e' => e e'.symm))))], rfl, rfl⟩
    · refine Go.aload (pc' := 33) W18 d_prog_13_method_5_code_31 rfl rfl rfl ?_
      have W31 := W18.drop [0] (σi := [(a1, c2)]) (σf := []) rfl
      replace W31 : Wk l Z EL1 ({ frames := 2, cells := 1, slots := 3, locals := 28 } : Room) "com/example/grantline/grantline/enforcer/Permission" prog_13_method_5_code 5 (some (.object "com/example/grantline/grantline/enforcer/Permission")) "fromScopeName" X [] [(adI, ceI), (adF, ceF), (adH, ceH), (adE, ceE), (a, c), (b, cb)] T17 1 (3) := W31
      have W32 := W31.keepRo [] (ρ' := []) rfl
      replace W32 : Wk l Z EL1 ({ frames := 2, cells := 1, slots := 3, locals := 28 } : Room) "com/example/grantline/grantline/enforcer/Permission" prog_13_method_5_code 5 (some (.object "com/example/grantline/grantline/enforcer/Permission")) "fromScopeName" X [] [] T17 1 (3) := W32
      refine Go.aret W32 rfl rfl d_prog_13_method_5_code_33 (by first | exact Nat.le_of_ble_eq_true rfl | (simp; done) | (simp; omega) | omega) (by first | exact Nat.le_of_ble_eq_true rfl | (simp; done) | (simp; omega) | omega) ?_
      exact ⟨by rw [fsn, if_neg (fun e => ite10_z.mp c12 e.symm), if_pos (Classical.not_not.mp (fun e => c19 (ite10_z.mpr (fun e' => e e'.symm))))], rfl, rfl⟩
  · refine Go.aload (pc' := 33) W11 d_prog_13_method_5_code_31 rfl rfl rfl ?_
    have W33 := W11.drop [0] (σi := [(a1, c2)]) (σf := []) rfl
    replace W33 : Wk l Z EL1 ({ frames := 2, cells := 1, slots := 3, locals := 28 } : Room) "com/example/grantline/grantline/enforcer/Permission" prog_13_method_5_code 5 (some (.object "com/example/grantline/grantline/enforcer/Permission")) "fromScopeName" X [] [(adH, ceH), (adE, ceE), (a, c), (b, cb)] T10 1 (3) := W33
    have W34 := W33.keepRo [] (ρ' := []) rfl
    replace W34 : Wk l Z EL1 ({ frames := 2, cells := 1, slots := 3, locals := 28 } : Room) "com/example/grantline/grantline/enforcer/Permission" prog_13_method_5_code 5 (some (.object "com/example/grantline/grantline/enforcer/Permission")) "fromScopeName" X [] [] T10 1 (3) := W34
    refine Go.aret W34 rfl rfl d_prog_13_method_5_code_33 (by first | exact Nat.le_of_ble_eq_true rfl | (simp; done) | (simp; omega) | omega) (by first | exact Nat.le_of_ble_eq_true rfl | (simp; done) | (simp; omega) | omega) ?_
    exact ⟨by rw [fsn, if_pos (Classical.not_not.mp (fun e => c12 (ite10_z.mpr (fun e' => e e'.symm))))], rfl, rfl⟩
set_option maxRecDepth 65536 in
set_option maxHeartbeats 40000000 in
theorem rm_fsnN {l : Launch} {Z : State} {a0 : Array Value} (G : Cl Z a0) (adA : Addr) (adB : Addr) (adC : Addr) (adD : Addr) (adE : Addr) (adF : Addr) (adG : Addr) (adH : Addr) (adI : Addr) (adJ : Addr) (ceA : Cell) (ceB : Cell) (ceC : Cell) (ceD : Cell) (ceE : Cell) (ceF : Cell) (ceG : Cell) (ceH : Cell) (ceI : Cell) (ceJ : Cell) (hzA : Z.heap[adA]? = some ceA) (obA : ObjC Z ceA "com/example/grantline/grantline/enforcer/Permission") (fdA : FldC Z ceA "com/example/grantline/grantline/enforcer/Permission" "scopeName" "Ljava/lang/String;" (.ref adE)) (hzB : Z.heap[adB]? = some ceB) (obB : ObjC Z ceB "[Lcom/example/grantline/grantline/enforcer/Permission;") (arA : ArrC Z ceB (.object "com/example/grantline/grantline/enforcer/Permission") [(.ref adA), (.ref adC), (.ref adD)]) (hzC : Z.heap[adC]? = some ceC) (obC : ObjC Z ceC "com/example/grantline/grantline/enforcer/Permission") (fdB : FldC Z ceC "com/example/grantline/grantline/enforcer/Permission" "scopeName" "Ljava/lang/String;" (.ref adF)) (hzD : Z.heap[adD]? = some ceD) (obD : ObjC Z ceD "com/example/grantline/grantline/enforcer/Permission") (fdC : FldC Z ceD "com/example/grantline/grantline/enforcer/Permission" "scopeName" "Ljava/lang/String;" (.ref adG)) (hzE : Z.heap[adE]? = some ceE) (slA : StrL Z ceE adH ceH [(99 : Int32), (111 : Int32), (110 : Int32), (102 : Int32), (105 : Int32), (103 : Int32), (117 : Int32), (114 : Int32), (101 : Int32)]) (hzF : Z.heap[adF]? = some ceF) (slB : StrL Z ceF adI ceI [(114 : Int32), (101 : Int32), (97 : Int32), (100 : Int32)]) (hzG : Z.heap[adG]? = some ceG) (slC : StrL Z ceG adJ ceJ [(119 : Int32), (114 : Int32), (105 : Int32), (116 : Int32), (101 : Int32)]) (hzH : Z.heap[adH]? = some ceH) (hzI : Z.heap[adI]? = some ceI) (hzJ : Z.heap[adJ]? = some ceJ) (stA : Sta Z Z.heap "com/example/grantline/grantline/enforcer/Permission" "CONFIGURE" "Lcom/example/grantline/grantline/enforcer/Permission;" (.ref adA)) (stB : Sta Z Z.heap "com/example/grantline/grantline/enforcer/Permission" "$VALUES" "[Lcom/example/grantline/grantline/enforcer/Permission;" (.ref adB)) (stC : Sta Z Z.heap "com/example/grantline/grantline/enforcer/Permission" "READ" "Lcom/example/grantline/grantline/enforcer/Permission;" (.ref adC)) (stD : Sta Z Z.heap "com/example/grantline/grantline/enforcer/Permission" "WRITE" "Lcom/example/grantline/grantline/enforcer/Permission;" (.ref adD)) :
    Met l Z EL1 (⟨"com/example/grantline/grantline/enforcer/Permission", "fromScopeName", "(Ljava/lang/String;)Lcom/example/grantline/grantline/enforcer/Permission;"⟩ : MethodName) prog_13_method_5_code 5 (some (.object "com/example/grantline/grantline/enforcer/Permission")) ({ frames := 2, cells := 1, slots := 3, locals := 28 } : Room) #[.null] [] [] (fun v σ ρ => v = some .null ∧ σ = [] ∧ ρ = []) := by
  refine Met.walk G.2.1 pn_14 #[.val (.null), .unset, .unset, .unset, .unset] (fun m => by first | (simp [entryFrame, mkF, argsToLocals, Value.category]; done) | rfl) ?_
  intro X T0 W0
  refine Go.static (pc' := 3) W0 (rm_vals G adA adB adC adD adE adF adG adH adI adJ ceA ceB ceC ceD ceE ceF ceG ceH ceI ceJ hzA obA fdA hzB obB arA hzC obC fdB hzD obD fdC hzE slA hzF slB hzG slC hzH hzI hzJ stA stB stC stD) (w_28 G) (w_29 G) (w_10 G) (w_30 G) (by decide) [] [] (σf := []) rfl rfl [] [] rfl (lenOf pd_15 rfl) rfl rfl d_prog_13_method_5_code_0 rfl (by first | exact Nat.le_of_ble_eq_true rfl | (simp; done) | (simp; omega) | omega) (by first | exact Nat.le_of_ble_eq_true rfl | (simp; done) | (simp; omega) | omega) (by first | exact Nat.le_of_ble_eq_true rfl | (simp; done) | (simp; omega) | omega) (by first | exact Nat.le_of_ble_eq_true rfl | (simp; done) | (simp; omega) | omega) ?_
  rintro _ _ _ T4 ⟨a1, c2, rfl, rfl, rfl, A3⟩ W5
  replace W5 : Wk l Z EL1 ({ frames := 2, cells := 1, slots := 3, locals := 28 } : Room) "com/example/grantline/grantline/enforcer/Permission" prog_13_method_5_code 5 (some (.object "com/example/grantline/grantline/enforcer/Permission")) "fromScopeName" X [(a1, c2)] [] T4 1 (3) := W5
  show Go Z EL1 _ _ _ X T4 3 #[.val (.null), .unset, .unset, .unset, .unset] [(.ref a1)]
  refine Go.astoreN (pc' := 4) W5 #[.val (.null), .val (.ref a1), .unset, .unset, .unset] d_prog_13_method_5_code_3 rfl rfl rfl ?_
  refine Go.aloadN (pc' := 5) W5 d_prog_13_method_5_code_4 rfl rfl rfl ?_
  refine Go.arrlen (pc' := 6) W5 (Or.inl (List.mem_of_getElem? (i := 0) rfl)) A3 (3 : Int32) rfl d_prog_13_method_5_code_5 rfl ?_
  refine Go.istoreN (pc' := 7) W5 #[.val (.null), .val (.ref a1), .val (.int (3 : Int32)), .unset, .unset] d_prog_13_method_5_code_6 rfl rfl ?_
  refine Go.iconst (pc' := 8) W5 (0 : Int32) d_prog_13_method_5_code_7 (by decide) rfl ?_
  refine Go.istoreN (pc' := 9) W5 #[.val (.null), .val (.ref a1), .val (.int (3 : Int32)), .val (.int (0 : Int32)), .unset] d_prog_13_method_5_code_8 rfl rfl ?_
  refine Go.iloadN (pc' := 10) W5 d_prog_13_method_5_code_9 rfl rfl ?_
  refine Go.iloadN (pc' := 11) W5 d_prog_13_method_5_code_10 rfl rfl ?_
  refine Go.icmp_ge (pc' := 14) W5 40 d_prog_13_method_5_code_11 (by decide) rfl (fun q => absurd (by decide) q) (fun _ => ?_)
  refine Go.aloadN (pc' := 15) W5 d_prog_13_method_5_code_14 rfl rfl rfl ?_
  refine Go.iloadN (pc' := 16) W5 d_prog_13_method_5_code_15 rfl rfl ?_
  refine Go.aaload (pc' := 17) W5 (Or.inl (List.mem_of_getElem? (i := 0) rfl)) A3 rfl 0 (by decide) (by decide) rfl d_prog_13_method_5_code_16 rfl ?_
  refine Go.astore (pc' := 19) W5 #[.val (.null), .val (.ref a1), .val (.int (3 : Int32)), .val (.int (0 : Int32)), .val (.ref adA)] d_prog_13_method_5_code_17 rfl rfl rfl ?_
  refine Go.aload (pc' := 21) W5 d_prog_13_method_5_code_19 rfl rfl rfl ?_
  refine Go.getfield (pc' := 24) W5 (Or.inr (Or.inr hzA)) (w_45 G) Via.refl fdA d_prog_13_method_5_code_21 rfl (fun T6 W7 => ?_)
  refine Go.aloadN (pc' := 25) W7 d_prog_13_method_5_code_24 rfl rfl rfl ?_
  refine Go.virtual (pc' := 28) W7 (rm_eqn G adE) (Or.inr (Or.inr hzE)) slA.1 (w_47 G) (w_48 G) (w_50 G) (w_49 G) (w_2 G) (w_51 G) (by decide) [] [] (σf := [(a1, c2)]) rfl rfl [(.null)] [] rfl (lenOf pd_16 rfl) rfl rfl d_prog_13_method_5_code_25 rfl (by first | exact Nat.le_of_ble_eq_true rfl | (simp; done) | (simp; omega) | omega) (by first | exact Nat.le_of_ble_eq_true rfl | (simp; done) | (simp; omega) | omega) (by first | exact Nat.le_of_ble_eq_true rfl | (simp; done) | (simp; omega) | omega) (by first | exact Nat.le_of_ble_eq_true rfl | (simp; done) | (simp; omega) | omega) ?_
  rintro _ _ _ T8 ⟨rfl, rfl, rfl⟩ W9
  replace W9 : Wk l Z EL1 ({ frames := 2, cells := 1, slots := 3, locals := 28 } : Room) "com/example/grantline/grantline/enforcer/Permission" prog_13_method_5_code 5 (some (.object "com/example/grantline/grantline/enforcer/Permission")) "fromScopeName" X [(a1, c2)] [] T8 1 (3) := W9
  show Go Z EL1 _ _ _ X T8 28 #[.val (.null), .val (.ref a1), .val (.int (3 : Int32)), .val (.int (0 : Int32)), .val (.ref adA)] [(.int (0 : Int32))]
  refine Go.if_eq (pc' := 31) W9 34 d_prog_13_method_5_code_28 (by decide) rfl (fun _ => ?_) (fun q => absurd (by decide) q)
  refine Go.iinc (pc' := 37) W9 (1 : Int32) #[.val (.null), .val (.ref a1), .val (.int (3 : Int32)), .val (.int ((0 : Int32) + (1 : Int32))), .val (.ref adA)] d_prog_13_method_5_code_34 rfl (by decide) rfl rfl ?_
  rw [show ((0 : Int32) + (1 : Int32) : Int32) = (1 : Int32) from by decide]
  refine Go.goto W9 9 d_prog_13_method_5_code_37 (by decide) ?_
  refine Go.iloadN (pc' := 10) W9 d_prog_13_method_5_code_9 rfl rfl ?_
  refine Go.iloadN (pc' := 11) W9 d_prog_13_method_5_code_10 rfl rfl ?_
  refine Go.icmp_ge (pc' := 14) W9 40 d_prog_13_method_5_code_11 (by decide) rfl (fun q => absurd (by decide) q) (fun _ => ?_)
  refine Go.aloadN (pc' := 15) W9 d_prog_13_method_5_code_14 rfl rfl rfl ?_
  refine Go.iloadN (pc' := 16) W9 d_prog_13_method_5_code_15 rfl rfl ?_
  refine Go.aaload (pc' := 17) W9 (Or.inl (List.mem_of_getElem? (i := 0) rfl)) A3 rfl 1 (by decide) (by decide) rfl d_prog_13_method_5_code_16 rfl ?_
  refine Go.astore (pc' := 19) W9 #[.val (.null), .val (.ref a1), .val (.int (3 : Int32)), .val (.int (1 : Int32)), .val (.ref adC)] d_prog_13_method_5_code_17 rfl rfl rfl ?_
  refine Go.aload (pc' := 21) W9 d_prog_13_method_5_code_19 rfl rfl rfl ?_
  refine Go.getfield (pc' := 24) W9 (Or.inr (Or.inr hzC)) (w_45 G) Via.refl fdB d_prog_13_method_5_code_21 rfl (fun T10 W11 => ?_)
  refine Go.aloadN (pc' := 25) W11 d_prog_13_method_5_code_24 rfl rfl rfl ?_
  refine Go.virtual (pc' := 28) W11 (rm_eqn G adF) (Or.inr (Or.inr hzF)) slB.1 (w_47 G) (w_48 G) (w_50 G) (w_49 G) (w_2 G) (w_51 G) (by decide) [] [] (σf := [(a1, c2)]) rfl rfl [(.null)] [] rfl (lenOf pd_16 rfl) rfl rfl d_prog_13_method_5_code_25 rfl (by first | exact Nat.le_of_ble_eq_true rfl | (simp; done) | (simp; omega) | omega) (by first | exact Nat.le_of_ble_eq_true rfl | (simp; done) | (simp; omega) | omega) (by first | exact Nat.le_of_ble_eq_true rfl | (simp; done) | (simp; omega) | omega) (by first | exact Nat.le_of_ble_eq_true rfl | (simp; done) | (simp; omega) | omega) ?_
  rintro _ _ _ T12 ⟨rfl, rfl, rfl⟩ W13
  replace W13 : Wk l Z EL1 ({ frames := 2, cells := 1, slots := 3, locals := 28 } : Room) "com/example/grantline/grantline/enforcer/Permission" prog_13_method_5_code 5 (some (.object "com/example/grantline/grantline/enforcer/Permission")) "fromScopeName" X [(a1, c2)] [] T12 1 (3) := W13
  show Go Z EL1 _ _ _ X T12 28 #[.val (.null), .val (.ref a1), .val (.int (3 : Int32)), .val (.int (1 : Int32)), .val (.ref adC)] [(.int (0 : Int32))]
  refine Go.if_eq (pc' := 31) W13 34 d_prog_13_method_5_code_28 (by decide) rfl (fun _ => ?_) (fun q => absurd (by decide) q)
  refine Go.iinc (pc' := 37) W13 (1 : Int32) #[.val (.null), .val (.ref a1), .val (.int (3 : Int32)), .val (.int ((1 : Int32) + (1 : Int32))), .val (.ref adC)] d_prog_13_method_5_code_34 rfl (by decide) rfl rfl ?_
  rw [show ((1 : Int32) + (1 : Int32) : Int32) = (2 : Int32) from by decide]
  refine Go.goto W13 9 d_prog_13_method_5_code_37 (by decide) ?_
  refine Go.iloadN (pc' := 10) W13 d_prog_13_method_5_code_9 rfl rfl ?_
  refine Go.iloadN (pc' := 11) W13 d_prog_13_method_5_code_10 rfl rfl ?_
  refine Go.icmp_ge (pc' := 14) W13 40 d_prog_13_method_5_code_11 (by decide) rfl (fun q => absurd (by decide) q) (fun _ => ?_)
  refine Go.aloadN (pc' := 15) W13 d_prog_13_method_5_code_14 rfl rfl rfl ?_
  refine Go.iloadN (pc' := 16) W13 d_prog_13_method_5_code_15 rfl rfl ?_
  refine Go.aaload (pc' := 17) W13 (Or.inl (List.mem_of_getElem? (i := 0) rfl)) A3 rfl 2 (by decide) (by decide) rfl d_prog_13_method_5_code_16 rfl ?_
  refine Go.astore (pc' := 19) W13 #[.val (.null), .val (.ref a1), .val (.int (3 : Int32)), .val (.int (2 : Int32)), .val (.ref adD)] d_prog_13_method_5_code_17 rfl rfl rfl ?_
  refine Go.aload (pc' := 21) W13 d_prog_13_method_5_code_19 rfl rfl rfl ?_
  refine Go.getfield (pc' := 24) W13 (Or.inr (Or.inr hzD)) (w_45 G) Via.refl fdC d_prog_13_method_5_code_21 rfl (fun T14 W15 => ?_)
  refine Go.aloadN (pc' := 25) W15 d_prog_13_method_5_code_24 rfl rfl rfl ?_
  refine Go.virtual (pc' := 28) W15 (rm_eqn G adG) (Or.inr (Or.inr hzG)) slC.1 (w_47 G) (w_48 G) (w_50 G) (w_49 G) (w_2 G) (w_51 G) (by decide) [] [] (σf := [(a1, c2)]) rfl rfl [(.null)] [] rfl (lenOf pd_16 rfl) rfl rfl d_prog_13_method_5_code_25 rfl (by first | exact Nat.le_of_ble_eq_true rfl | (simp; done) | (simp; omega) | omega) (by first | exact Nat.le_of_ble_eq_true rfl | (simp; done) | (simp; omega) | omega) (by first | exact Nat.le_of_ble_eq_true rfl | (simp; done) | (simp; omega) | omega) (by first | exact Nat.le_of_ble_eq_true rfl | (simp; done) | (simp; omega) | omega) ?_
  rintro _ _ _ T16 ⟨rfl, rfl, rfl⟩ W17
  replace W17 : Wk l Z EL1 ({ frames := 2, cells := 1, slots := 3, locals := 28 } : Room) "com/example/grantline/grantline/enforcer/Permission" prog_13_method_5_code 5 (some (.object "com/example/grantline/grantline/enforcer/Permission")) "fromScopeName" X [(a1, c2)] [] T16 1 (3) := W17
  show Go Z EL1 _ _ _ X T16 28 #[.val (.null), .val (.ref a1), .val (.int (3 : Int32)), .val (.int (2 : Int32)), .val (.ref adD)] [(.int (0 : Int32))]
  refine Go.if_eq (pc' := 31) W17 34 d_prog_13_method_5_code_28 (by decide) rfl (fun _ => ?_) (fun q => absurd (by decide) q)
  refine Go.iinc (pc' := 37) W17 (1 : Int32) #[.val (.null), .val (.ref a1), .val (.int (3 : Int32)), .val (.int ((2 : Int32) + (1 : Int32))), .val (.ref adD)] d_prog_13_method_5_code_34 rfl (by decide) rfl rfl ?_
  rw [show ((2 : Int32) + (1 : Int32) : Int32) = (3 : Int32) from by decide]
  refine Go.goto W17 9 d_prog_13_method_5_code_37 (by decide) ?_
  refine Go.iloadN (pc' := 10) W17 d_prog_13_method_5_code_9 rfl rfl ?_
  refine Go.iloadN (pc' := 11) W17 d_prog_13_method_5_code_10 rfl rfl ?_
  refine Go.icmp_ge (pc' := 14) W17 40 d_prog_13_method_5_code_11 (by decide) rfl (fun _ => ?_) (fun q => absurd q (by decide))
  refine Go.aconstNull (pc' := 41) W17 d_prog_13_method_5_code_40 rfl ?_
  have W18 := W17.drop [0] (σi := [(a1, c2)]) (σf := []) rfl
  replace W18 : Wk l Z EL1 ({ frames := 2, cells := 1, slots := 3, locals := 28 } : Room) "com/example/grantline/grantline/enforcer/Permission" prog_13_method_5_code 5 (some (.object "com/example/grantline/grantline/enforcer/Permission")) "fromScopeName" X [] [] T16 1 (3) := W18
  have W19 := W18.keepRo [] (ρ' := []) rfl
  replace W19 : Wk l Z EL1 ({ frames := 2, cells := 1, slots := 3, locals := 28 } : Room) "com/example/grantline/grantline/enforcer/Permission" prog_13_method_5_code 5 (some (.object "com/example/grantline/grantline/enforcer/Permission")) "fromScopeName" X [] [] T16 1 (3) := W19
  refine Go.aret W19 rfl rfl d_prog_13_method_5_code_41 (by first | exact Nat.le_of_ble_eq_true rfl | (simp; done) | (simp; omega) | omega) (by first | exact Nat.le_of_ble_eq_true rfl | (simp; done) | (simp; omega) | omega) ?_
  exact ⟨rfl, rfl, rfl⟩
theorem pn_17 : plainName "com/example/grantline/grantline/enforcer/PermissionFromScopeNamePinLaw" = true := by first | (simp [plainName, overriddenIn]; done) | decide +kernel
theorem d_method_3_code_0 : decode method_3_code 0 = .ok (.iload_n 0, 1) := by decide +kernel
theorem d_method_3_code_1 : decode method_3_code 1 = .ok (.iconst 3, 1) := by decide +kernel
theorem d_method_3_code_2 : decode method_3_code 2 = .ok (.if_icmp .ne 7, 3) := by decide +kernel
theorem d_method_3_code_9 : decode method_3_code 9 = .ok (.iload_n 0, 1) := by decide +kernel
theorem d_method_3_code_10 : decode method_3_code 10 = .ok (.iconst 4, 1) := by decide +kernel
theorem d_method_3_code_11 : decode method_3_code 11 = .ok (.if_icmp .ne 7, 3) := by decide +kernel
theorem d_method_3_code_18 : decode method_3_code 18 = .ok (.iload_n 0, 1) := by decide +kernel
theorem d_method_3_code_19 : decode method_3_code 19 = .ok (.iconst 5, 1) := by decide +kernel
theorem d_method_3_code_20 : decode method_3_code 20 = .ok (.if_icmp .ne 7, 3) := by decide +kernel
theorem d_method_3_code_27 : decode method_3_code 27 = .ok (.iload_n 0, 1) := by decide +kernel
theorem d_method_3_code_28 : decode method_3_code 28 = .ok (.bipush 6, 2) := by decide +kernel
theorem d_method_3_code_30 : decode method_3_code 30 = .ok (.if_icmp .ne 8, 3) := by decide +kernel
theorem d_method_3_code_38 : decode method_3_code 38 = .ok (.iload_n 0, 1) := by decide +kernel
theorem d_method_3_code_39 : decode method_3_code 39 = .ok (.bipush 8, 2) := by decide +kernel
theorem d_method_3_code_41 : decode method_3_code 41 = .ok (.if_icmp .ne 8, 3) := by decide +kernel
theorem d_method_3_code_49 : decode method_3_code 49 = .ok (.iload_n 0, 1) := by decide +kernel
theorem d_method_3_code_50 : decode method_3_code 50 = .ok (.bipush 9, 2) := by decide +kernel
theorem d_method_3_code_52 : decode method_3_code 52 = .ok (.if_icmp .ne 8, 3) := by decide +kernel
theorem d_method_3_code_55 : decode method_3_code 55 = .ok (.bipush 9, 2) := by decide +kernel
theorem d_method_3_code_57 : decode method_3_code 57 = .ok (.newarray .char, 2) := by decide +kernel
theorem w_55 {Z : State} {a0 : Array Value} (G : Cl Z a0) : (Jvm.Cond.arrayClass .char).before a0 Z = true := G.1 _ (List.mem_of_getElem? (l := tables_1) (i := 55) rfl)
theorem d_method_3_code_59 : decode method_3_code 59 = .ok (.areturn, 1) := by decide +kernel
set_option maxRecDepth 65536 in
set_option maxHeartbeats 40000000 in
theorem rm_newArr_J {l : Launch} {Z : State} {a0 : Array Value} (G : Cl Z a0)  :
    Met l Z EL1 (⟨"com/example/grantline/grantline/enforcer/PermissionFromScopeNamePinLaw", "newArr", "(I)[C"⟩ : MethodName) method_3_code 1 (some (.array .char)) ({ frames := 0, cells := 1, slots := 9, locals := 0 } : Room) #[.int (9 : Int32)] [] [] (fun v σ ρ => ∃ a c, v = some (.ref a) ∧ σ = [(a, c)] ∧ ρ = [] ∧ ArrC Z c .char [(.int (0 : Int32)), (.int (0 : Int32)), (.int (0 : Int32)), (.int (0 : Int32)), (.int (0 : Int32)), (.int (0 : Int32)), (.int (0 : Int32)), (.int (0 : Int32)), (.int (0 : Int32))]) := by
  refine Met.walk G.2.1 pn_17 #[.val (.int (9 : Int32))] (fun m => by first | (simp [entryFrame, mkF, argsToLocals, Value.category]; done) | rfl) ?_
  intro X T0 W0
  refine Go.iloadN (pc' := 1) W0 d_method_3_code_0 rfl rfl ?_
  refine Go.iconst (pc' := 2) W0 (3 : Int32) d_method_3_code_1 (by decide) rfl ?_
  refine Go.icmp_ne (pc' := 5) W0 9 d_method_3_code_2 (by decide) rfl (fun _ => ?_) (fun q => absurd q (by decide))
  refine Go.iloadN (pc' := 10) W0 d_method_3_code_9 rfl rfl ?_
  refine Go.iconst (pc' := 11) W0 (4 : Int32) d_method_3_code_10 (by decide) rfl ?_
  refine Go.icmp_ne (pc' := 14) W0 18 d_method_3_code_11 (by decide) rfl (fun _ => ?_) (fun q => absurd q (by decide))
  refine Go.iloadN (pc' := 19) W0 d_method_3_code_18 rfl rfl ?_
  refine Go.iconst (pc' := 20) W0 (5 : Int32) d_method_3_code_19 (by decide) rfl ?_
  refine Go.icmp_ne (pc' := 23) W0 27 d_method_3_code_20 (by decide) rfl (fun _ => ?_) (fun q => absurd q (by decide))
  refine Go.iloadN (pc' := 28) W0 d_method_3_code_27 rfl rfl ?_
  refine Go.bipush (pc' := 30) W0 (6 : Int32) d_method_3_code_28 (by decide) rfl ?_
  refine Go.icmp_ne (pc' := 33) W0 38 d_method_3_code_30 (by decide) rfl (fun _ => ?_) (fun q => absurd q (by decide))
  refine Go.iloadN (pc' := 39) W0 d_method_3_code_38 rfl rfl ?_
  refine Go.bipush (pc' := 41) W0 (8 : Int32) d_method_3_code_39 (by decide) rfl ?_
  refine Go.icmp_ne (pc' := 44) W0 49 d_method_3_code_41 (by decide) rfl (fun _ => ?_) (fun q => absurd q (by decide))
  refine Go.iloadN (pc' := 50) W0 d_method_3_code_49 rfl rfl ?_
  refine Go.bipush (pc' := 52) W0 (9 : Int32) d_method_3_code_50 (by decide) rfl ?_
  refine Go.icmp_ne (pc' := 55) W0 60 d_method_3_code_52 (by decide) rfl (fun q => absurd (by decide) q) (fun _ => ?_)
  refine Go.bipush (pc' := 57) W0 (9 : Int32) d_method_3_code_55 (by decide) rfl ?_
  refine Go.newarr (pc' := 59) W0 .char rfl 9 (w_55 G) d_method_3_code_57 rfl (by decide) (by decide) (by decide) (by first | exact Nat.le_of_ble_eq_true rfl | (simp; done) | (simp; omega) | omega) (by first | exact Nat.le_of_ble_eq_true rfl | (simp; done) | (simp; omega) | omega) (fun T1 a3 c4 W2 A5 => ?_)
  replace W2 : Wk l Z EL1 ({ frames := 0, cells := 1, slots := 9, locals := 0 } : Room) "com/example/grantline/grantline/enforcer/PermissionFromScopeNamePinLaw" method_3_code 1 (some (.array .char)) "newArr" X [(a3, c4)] [] T1 1 (9) := W2
  replace A5 : ArrC Z c4 .char [(.int (0 : Int32)), (.int (0 : Int32)), (.int (0 : Int32)), (.int (0 : Int32)), (.int (0 : Int32)), (.int (0 : Int32)), (.int (0 : Int32)), (.int (0 : Int32)), (.int (0 : Int32))] := A5
  refine Go.aret W2 rfl rfl d_method_3_code_59 (by first | exact Nat.le_of_ble_eq_true rfl | (simp; done) | (simp; omega) | omega) (by first | exact Nat.le_of_ble_eq_true rfl | (simp; done) | (simp; omega) | omega) ?_
  exact ⟨a3, c4, rfl, rfl, rfl, A5⟩
theorem d_method_3_code_14 : decode method_3_code 14 = .ok (.iconst 4, 1) := by decide +kernel
theorem d_method_3_code_15 : decode method_3_code 15 = .ok (.newarray .char, 2) := by decide +kernel
theorem d_method_3_code_17 : decode method_3_code 17 = .ok (.areturn, 1) := by decide +kernel
set_option maxRecDepth 65536 in
set_option maxHeartbeats 40000000 in
theorem rm_newArr_E {l : Launch} {Z : State} {a0 : Array Value} (G : Cl Z a0)  :
    Met l Z EL1 (⟨"com/example/grantline/grantline/enforcer/PermissionFromScopeNamePinLaw", "newArr", "(I)[C"⟩ : MethodName) method_3_code 1 (some (.array .char)) ({ frames := 0, cells := 1, slots := 4, locals := 0 } : Room) #[.int (4 : Int32)] [] [] (fun v σ ρ => ∃ a c, v = some (.ref a) ∧ σ = [(a, c)] ∧ ρ = [] ∧ ArrC Z c .char [(.int (0 : Int32)), (.int (0 : Int32)), (.int (0 : Int32)), (.int (0 : Int32))]) := by
  refine Met.walk G.2.1 pn_17 #[.val (.int (4 : Int32))] (fun m => by first | (simp [entryFrame, mkF, argsToLocals, Value.category]; done) | rfl) ?_
  intro X T0 W0
  refine Go.iloadN (pc' := 1) W0 d_method_3_code_0 rfl rfl ?_
  refine Go.iconst (pc' := 2) W0 (3 : Int32) d_method_3_code_1 (by decide) rfl ?_
  refine Go.icmp_ne (pc' := 5) W0 9 d_method_3_code_2 (by decide) rfl (fun _ => ?_) (fun q => absurd q (by decide))
  refine Go.iloadN (pc' := 10) W0 d_method_3_code_9 rfl rfl ?_
  refine Go.iconst (pc' := 11) W0 (4 : Int32) d_method_3_code_10 (by decide) rfl ?_
  refine Go.icmp_ne (pc' := 14) W0 18 d_method_3_code_11 (by decide) rfl (fun q => absurd (by decide) q) (fun _ => ?_)
  refine Go.iconst (pc' := 15) W0 (4 : Int32) d_method_3_code_14 (by decide) rfl ?_
  refine Go.newarr (pc' := 17) W0 .char rfl 4 (w_55 G) d_method_3_code_15 rfl (by decide) (by decide) (by decide) (by first | exact Nat.le_of_ble_eq_true rfl | (simp; done) | (simp; omega) | omega) (by first | exact Nat.le_of_ble_eq_true rfl | (simp; done) | (simp; omega) | omega) (fun T1 a3 c4 W2 A5 => ?_)
  replace W2 : Wk l Z EL1 ({ frames := 0, cells := 1, slots := 4, locals := 0 } : Room) "com/example/grantline/grantline/enforcer/PermissionFromScopeNamePinLaw" method_3_code 1 (some (.array .char)) "newArr" X [(a3, c4)] [] T1 1 (4) := W2
  replace A5 : ArrC Z c4 .char [(.int (0 : Int32)), (.int (0 : Int32)), (.int (0 : Int32)), (.int (0 : Int32))] := A5
  refine Go.aret W2 rfl rfl d_method_3_code_17 (by first | exact Nat.le_of_ble_eq_true rfl | (simp; done) | (simp; omega) | omega) (by first | exact Nat.le_of_ble_eq_true rfl | (simp; done) | (simp; omega) | omega) ?_
  exact ⟨a3, c4, rfl, rfl, rfl, A5⟩
theorem d_method_3_code_23 : decode method_3_code 23 = .ok (.iconst 5, 1) := by decide +kernel
theorem d_method_3_code_24 : decode method_3_code 24 = .ok (.newarray .char, 2) := by decide +kernel
theorem d_method_3_code_26 : decode method_3_code 26 = .ok (.areturn, 1) := by decide +kernel
set_option maxRecDepth 65536 in
set_option maxHeartbeats 40000000 in
theorem rm_newArr_F {l : Launch} {Z : State} {a0 : Array Value} (G : Cl Z a0)  :
    Met l Z EL1 (⟨"com/example/grantline/grantline/enforcer/PermissionFromScopeNamePinLaw", "newArr", "(I)[C"⟩ : MethodName) method_3_code 1 (some (.array .char)) ({ frames := 0, cells := 1, slots := 5, locals := 0 } : Room) #[.int (5 : Int32)] [] [] (fun v σ ρ => ∃ a c, v = some (.ref a) ∧ σ = [(a, c)] ∧ ρ = [] ∧ ArrC Z c .char [(.int (0 : Int32)), (.int (0 : Int32)), (.int (0 : Int32)), (.int (0 : Int32)), (.int (0 : Int32))]) := by
  refine Met.walk G.2.1 pn_17 #[.val (.int (5 : Int32))] (fun m => by first | (simp [entryFrame, mkF, argsToLocals, Value.category]; done) | rfl) ?_
  intro X T0 W0
  refine Go.iloadN (pc' := 1) W0 d_method_3_code_0 rfl rfl ?_
  refine Go.iconst (pc' := 2) W0 (3 : Int32) d_method_3_code_1 (by decide) rfl ?_
  refine Go.icmp_ne (pc' := 5) W0 9 d_method_3_code_2 (by decide) rfl (fun _ => ?_) (fun q => absurd q (by decide))
  refine Go.iloadN (pc' := 10) W0 d_method_3_code_9 rfl rfl ?_
  refine Go.iconst (pc' := 11) W0 (4 : Int32) d_method_3_code_10 (by decide) rfl ?_
  refine Go.icmp_ne (pc' := 14) W0 18 d_method_3_code_11 (by decide) rfl (fun _ => ?_) (fun q => absurd q (by decide))
  refine Go.iloadN (pc' := 19) W0 d_method_3_code_18 rfl rfl ?_
  refine Go.iconst (pc' := 20) W0 (5 : Int32) d_method_3_code_19 (by decide) rfl ?_
  refine Go.icmp_ne (pc' := 23) W0 27 d_method_3_code_20 (by decide) rfl (fun q => absurd (by decide) q) (fun _ => ?_)
  refine Go.iconst (pc' := 24) W0 (5 : Int32) d_method_3_code_23 (by decide) rfl ?_
  refine Go.newarr (pc' := 26) W0 .char rfl 5 (w_55 G) d_method_3_code_24 rfl (by decide) (by decide) (by decide) (by first | exact Nat.le_of_ble_eq_true rfl | (simp; done) | (simp; omega) | omega) (by first | exact Nat.le_of_ble_eq_true rfl | (simp; done) | (simp; omega) | omega) (fun T1 a3 c4 W2 A5 => ?_)
  replace W2 : Wk l Z EL1 ({ frames := 0, cells := 1, slots := 5, locals := 0 } : Room) "com/example/grantline/grantline/enforcer/PermissionFromScopeNamePinLaw" method_3_code 1 (some (.array .char)) "newArr" X [(a3, c4)] [] T1 1 (5) := W2
  replace A5 : ArrC Z c4 .char [(.int (0 : Int32)), (.int (0 : Int32)), (.int (0 : Int32)), (.int (0 : Int32)), (.int (0 : Int32))] := A5
  refine Go.aret W2 rfl rfl d_method_3_code_26 (by first | exact Nat.le_of_ble_eq_true rfl | (simp; done) | (simp; omega) | omega) (by first | exact Nat.le_of_ble_eq_true rfl | (simp; done) | (simp; omega) | omega) ?_
  exact ⟨a3, c4, rfl, rfl, rfl, A5⟩
theorem d_method_3_code_60 : decode method_3_code 60 = .ok (.bipush 10, 2) := by decide +kernel
theorem d_method_3_code_62 : decode method_3_code 62 = .ok (.newarray .char, 2) := by decide +kernel
theorem d_method_3_code_64 : decode method_3_code 64 = .ok (.areturn, 1) := by decide +kernel
set_option maxRecDepth 65536 in
set_option maxHeartbeats 40000000 in
theorem rm_newArr_K {l : Launch} {Z : State} {a0 : Array Value} (G : Cl Z a0)  :
    Met l Z EL1 (⟨"com/example/grantline/grantline/enforcer/PermissionFromScopeNamePinLaw", "newArr", "(I)[C"⟩ : MethodName) method_3_code 1 (some (.array .char)) ({ frames := 0, cells := 1, slots := 10, locals := 0 } : Room) #[.int (10 : Int32)] [] [] (fun v σ ρ => ∃ a c, v = some (.ref a) ∧ σ = [(a, c)] ∧ ρ = [] ∧ ArrC Z c .char [(.int (0 : Int32)), (.int (0 : Int32)), (.int (0 : Int32)), (.int (0 : Int32)), (.int (0 : Int32)), (.int (0 : Int32)), (.int (0 : Int32)), (.int (0 : Int32)), (.int (0 : Int32)), (.int (0 : Int32))]) := by
  refine Met.walk G.2.1 pn_17 #[.val (.int (10 : Int32))] (fun m => by first | (simp [entryFrame, mkF, argsToLocals, Value.category]; done) | rfl) ?_
  intro X T0 W0
  refine Go.iloadN (pc' := 1) W0 d_method_3_code_0 rfl rfl ?_
  refine Go.iconst (pc' := 2) W0 (3 : Int32) d_method_3_code_1 (by decide) rfl ?_
  refine Go.icmp_ne (pc' := 5) W0 9 d_method_3_code_2 (by decide) rfl (fun _ => ?_) (fun q => absurd q (by decide))
  refine Go.iloadN (pc' := 10) W0 d_method_3_code_9 rfl rfl ?_
  refine Go.iconst (pc' := 11) W0 (4 : Int32) d_method_3_code_10 (by decide) rfl ?_
  refine Go.icmp_ne (pc' := 14) W0 18 d_method_3_code_11 (by decide) rfl (fun _ => ?_) (fun q => absurd q (by decide))
  refine Go.iloadN (pc' := 19) W0 d_method_3_code_18 rfl rfl ?_
  refine Go.iconst (pc' := 20) W0 (5 : Int32) d_method_3_code_19 (by decide) rfl ?_
  refine Go.icmp_ne (pc' := 23) W0 27 d_method_3_code_20 (by decide) rfl (fun _ => ?_) (fun q => absurd q (by decide))
  refine Go.iloadN (pc' := 28) W0 d_method_3_code_27 rfl rfl ?_
  refine Go.bipush (pc' := 30) W0 (6 : Int32) d_method_3_code_28 (by decide) rfl ?_
  refine Go.icmp_ne (pc' := 33) W0 38 d_method_3_code_30 (by decide) rfl (fun _ => ?_) (fun q => absurd q (by decide))
  refine Go.iloadN (pc' := 39) W0 d_method_3_code_38 rfl rfl ?_
  refine Go.bipush (pc' := 41) W0 (8 : Int32) d_method_3_code_39 (by decide) rfl ?_
  refine Go.icmp_ne (pc' := 44) W0 49 d_method_3_code_41 (by decide) rfl (fun _ => ?_) (fun q => absurd q (by decide))
  refine Go.iloadN (pc' := 50) W0 d_method_3_code_49 rfl rfl ?_
  refine Go.bipush (pc' := 52) W0 (9 : Int32) d_method_3_code_50 (by decide) rfl ?_
  refine Go.icmp_ne (pc' := 55) W0 60 d_method_3_code_52 (by decide) rfl (fun _ => ?_) (fun q => absurd q (by decide))
  refine Go.bipush (pc' := 62) W0 (10 : Int32) d_method_3_code_60 (by decide) rfl ?_
  refine Go.newarr (pc' := 64) W0 .char rfl 10 (w_55 G) d_method_3_code_62 rfl (by decide) (by decide) (by decide) (by first | exact Nat.le_of_ble_eq_true rfl | (simp; done) | (simp; omega) | omega) (by first | exact Nat.le_of_ble_eq_true rfl | (simp; done) | (simp; omega) | omega) (fun T1 a3 c4 W2 A5 => ?_)
  replace W2 : Wk l Z EL1 ({ frames := 0, cells := 1, slots := 10, locals := 0 } : Room) "com/example/grantline/grantline/enforcer/PermissionFromScopeNamePinLaw" method_3_code 1 (some (.array .char)) "newArr" X [(a3, c4)] [] T1 1 (10) := W2
  replace A5 : ArrC Z c4 .char [(.int (0 : Int32)), (.int (0 : Int32)), (.int (0 : Int32)), (.int (0 : Int32)), (.int (0 : Int32)), (.int (0 : Int32)), (.int (0 : Int32)), (.int (0 : Int32)), (.int (0 : Int32)), (.int (0 : Int32))] := A5
  refine Go.aret W2 rfl rfl d_method_3_code_64 (by first | exact Nat.le_of_ble_eq_true rfl | (simp; done) | (simp; omega) | omega) (by first | exact Nat.le_of_ble_eq_true rfl | (simp; done) | (simp; omega) | omega) ?_
  exact ⟨a3, c4, rfl, rfl, rfl, A5⟩
theorem d_method_3_code_33 : decode method_3_code 33 = .ok (.bipush 6, 2) := by decide +kernel
theorem d_method_3_code_35 : decode method_3_code 35 = .ok (.newarray .char, 2) := by decide +kernel
theorem d_method_3_code_37 : decode method_3_code 37 = .ok (.areturn, 1) := by decide +kernel
set_option maxRecDepth 65536 in
set_option maxHeartbeats 40000000 in
theorem rm_newArr_G {l : Launch} {Z : State} {a0 : Array Value} (G : Cl Z a0)  :
    Met l Z EL1 (⟨"com/example/grantline/grantline/enforcer/PermissionFromScopeNamePinLaw", "newArr", "(I)[C"⟩ : MethodName) method_3_code 1 (some (.array .char)) ({ frames := 0, cells := 1, slots := 6, locals := 0 } : Room) #[.int (6 : Int32)] [] [] (fun v σ ρ => ∃ a c, v = some (.ref a) ∧ σ = [(a, c)] ∧ ρ = [] ∧ ArrC Z c .char [(.int (0 : Int32)), (.int (0 : Int32)), (.int (0 : Int32)), (.int (0 : Int32)), (.int (0 : Int32)), (.int (0 : Int32))]) := by
  refine Met.walk G.2.1 pn_17 #[.val (.int (6 : Int32))] (fun m => by first | (simp [entryFrame, mkF, argsToLocals, Value.category]; done) | rfl) ?_
  intro X T0 W0
  refine Go.iloadN (pc' := 1) W0 d_method_3_code_0 rfl rfl ?_
  refine Go.iconst (pc' := 2) W0 (3 : Int32) d_method_3_code_1 (by decide) rfl ?_
  refine Go.icmp_ne (pc' := 5) W0 9 d_method_3_code_2 (by decide) rfl (fun _ => ?_) (fun q => absurd q (by decide))
  refine Go.iloadN (pc' := 10) W0 d_method_3_code_9 rfl rfl ?_
  refine Go.iconst (pc' := 11) W0 (4 : Int32) d_method_3_code_10 (by decide) rfl ?_
  refine Go.icmp_ne (pc' := 14) W0 18 d_method_3_code_11 (by decide) rfl (fun _ => ?_) (fun q => absurd q (by decide))
  refine Go.iloadN (pc' := 19) W0 d_method_3_code_18 rfl rfl ?_
  refine Go.iconst (pc' := 20) W0 (5 : Int32) d_method_3_code_19 (by decide) rfl ?_
  refine Go.icmp_ne (pc' := 23) W0 27 d_method_3_code_20 (by decide) rfl (fun _ => ?_) (fun q => absurd q (by decide))
  refine Go.iloadN (pc' := 28) W0 d_method_3_code_27 rfl rfl ?_
  refine Go.bipush (pc' := 30) W0 (6 : Int32) d_method_3_code_28 (by decide) rfl ?_
  refine Go.icmp_ne (pc' := 33) W0 38 d_method_3_code_30 (by decide) rfl (fun q => absurd (by decide) q) (fun _ => ?_)
  refine Go.bipush (pc' := 35) W0 (6 : Int32) d_method_3_code_33 (by decide) rfl ?_
  refine Go.newarr (pc' := 37) W0 .char rfl 6 (w_55 G) d_method_3_code_35 rfl (by decide) (by decide) (by decide) (by first | exact Nat.le_of_ble_eq_true rfl | (simp; done) | (simp; omega) | omega) (by first | exact Nat.le_of_ble_eq_true rfl | (simp; done) | (simp; omega) | omega) (fun T1 a3 c4 W2 A5 => ?_)
  replace W2 : Wk l Z EL1 ({ frames := 0, cells := 1, slots := 6, locals := 0 } : Room) "com/example/grantline/grantline/enforcer/PermissionFromScopeNamePinLaw" method_3_code 1 (some (.array .char)) "newArr" X [(a3, c4)] [] T1 1 (6) := W2
  replace A5 : ArrC Z c4 .char [(.int (0 : Int32)), (.int (0 : Int32)), (.int (0 : Int32)), (.int (0 : Int32)), (.int (0 : Int32)), (.int (0 : Int32))] := A5
  refine Go.aret W2 rfl rfl d_method_3_code_37 (by first | exact Nat.le_of_ble_eq_true rfl | (simp; done) | (simp; omega) | omega) (by first | exact Nat.le_of_ble_eq_true rfl | (simp; done) | (simp; omega) | omega) ?_
  exact ⟨a3, c4, rfl, rfl, rfl, A5⟩
theorem d_method_3_code_44 : decode method_3_code 44 = .ok (.bipush 8, 2) := by decide +kernel
theorem d_method_3_code_46 : decode method_3_code 46 = .ok (.newarray .char, 2) := by decide +kernel
theorem d_method_3_code_48 : decode method_3_code 48 = .ok (.areturn, 1) := by decide +kernel
set_option maxRecDepth 65536 in
set_option maxHeartbeats 40000000 in
theorem rm_newArr_I {l : Launch} {Z : State} {a0 : Array Value} (G : Cl Z a0)  :
    Met l Z EL1 (⟨"com/example/grantline/grantline/enforcer/PermissionFromScopeNamePinLaw", "newArr", "(I)[C"⟩ : MethodName) method_3_code 1 (some (.array .char)) ({ frames := 0, cells := 1, slots := 8, locals := 0 } : Room) #[.int (8 : Int32)] [] [] (fun v σ ρ => ∃ a c, v = some (.ref a) ∧ σ = [(a, c)] ∧ ρ = [] ∧ ArrC Z c .char [(.int (0 : Int32)), (.int (0 : Int32)), (.int (0 : Int32)), (.int (0 : Int32)), (.int (0 : Int32)), (.int (0 : Int32)), (.int (0 : Int32)), (.int (0 : Int32))]) := by
  refine Met.walk G.2.1 pn_17 #[.val (.int (8 : Int32))] (fun m => by first | (simp [entryFrame, mkF, argsToLocals, Value.category]; done) | rfl) ?_
  intro X T0 W0
  refine Go.iloadN (pc' := 1) W0 d_method_3_code_0 rfl rfl ?_
  refine Go.iconst (pc' := 2) W0 (3 : Int32) d_method_3_code_1 (by decide) rfl ?_
  refine Go.icmp_ne (pc' := 5) W0 9 d_method_3_code_2 (by decide) rfl (fun _ => ?_) (fun q => absurd q (by decide))
  refine Go.iloadN (pc' := 10) W0 d_method_3_code_9 rfl rfl ?_
  refine Go.iconst (pc' := 11) W0 (4 : Int32) d_method_3_code_10 (by decide) rfl ?_
  refine Go.icmp_ne (pc' := 14) W0 18 d_method_3_code_11 (by decide) rfl (fun _ => ?_) (fun q => absurd q (by decide))
  refine Go.iloadN (pc' := 19) W0 d_method_3_code_18 rfl rfl ?_
  refine Go.iconst (pc' := 20) W0 (5 : Int32) d_method_3_code_19 (by decide) rfl ?_
  refine Go.icmp_ne (pc' := 23) W0 27 d_method_3_code_20 (by decide) rfl (fun _ => ?_) (fun q => absurd q (by decide))
  refine Go.iloadN (pc' := 28) W0 d_method_3_code_27 rfl rfl ?_
  refine Go.bipush (pc' := 30) W0 (6 : Int32) d_method_3_code_28 (by decide) rfl ?_
  refine Go.icmp_ne (pc' := 33) W0 38 d_method_3_code_30 (by decide) rfl (fun _ => ?_) (fun q => absurd q (by decide))
  refine Go.iloadN (pc' := 39) W0 d_method_3_code_38 rfl rfl ?_
  refine Go.bipush (pc' := 41) W0 (8 : Int32) d_method_3_code_39 (by decide) rfl ?_
  refine Go.icmp_ne (pc' := 44) W0 49 d_method_3_code_41 (by decide) rfl (fun q => absurd (by decide) q) (fun _ => ?_)
  refine Go.bipush (pc' := 46) W0 (8 : Int32) d_method_3_code_44 (by decide) rfl ?_
  refine Go.newarr (pc' := 48) W0 .char rfl 8 (w_55 G) d_method_3_code_46 rfl (by decide) (by decide) (by decide) (by first | exact Nat.le_of_ble_eq_true rfl | (simp; done) | (simp; omega) | omega) (by first | exact Nat.le_of_ble_eq_true rfl | (simp; done) | (simp; omega) | omega) (fun T1 a3 c4 W2 A5 => ?_)
  replace W2 : Wk l Z EL1 ({ frames := 0, cells := 1, slots := 8, locals := 0 } : Room) "com/example/grantline/grantline/enforcer/PermissionFromScopeNamePinLaw" method_3_code 1 (some (.array .char)) "newArr" X [(a3, c4)] [] T1 1 (8) := W2
  replace A5 : ArrC Z c4 .char [(.int (0 : Int32)), (.int (0 : Int32)), (.int (0 : Int32)), (.int (0 : Int32)), (.int (0 : Int32)), (.int (0 : Int32)), (.int (0 : Int32)), (.int (0 : Int32))] := A5
  refine Go.aret W2 rfl rfl d_method_3_code_48 (by first | exact Nat.le_of_ble_eq_true rfl | (simp; done) | (simp; omega) | omega) (by first | exact Nat.le_of_ble_eq_true rfl | (simp; done) | (simp; omega) | omega) ?_
  exact ⟨a3, c4, rfl, rfl, rfl, A5⟩
theorem d_method_3_code_5 : decode method_3_code 5 = .ok (.iconst 3, 1) := by decide +kernel
theorem d_method_3_code_6 : decode method_3_code 6 = .ok (.newarray .char, 2) := by decide +kernel
theorem d_method_3_code_8 : decode method_3_code 8 = .ok (.areturn, 1) := by decide +kernel
set_option maxRecDepth 65536 in
set_option maxHeartbeats 40000000 in
theorem rm_newArr_D {l : Launch} {Z : State} {a0 : Array Value} (G : Cl Z a0)  :
    Met l Z EL1 (⟨"com/example/grantline/grantline/enforcer/PermissionFromScopeNamePinLaw", "newArr", "(I)[C"⟩ : MethodName) method_3_code 1 (some (.array .char)) ({ frames := 0, cells := 1, slots := 3, locals := 0 } : Room) #[.int (3 : Int32)] [] [] (fun v σ ρ => ∃ a c, v = some (.ref a) ∧ σ = [(a, c)] ∧ ρ = [] ∧ ArrC Z c .char [(.int (0 : Int32)), (.int (0 : Int32)), (.int (0 : Int32))]) := by
  refine Met.walk G.2.1 pn_17 #[.val (.int (3 : Int32))] (fun m => by first | (simp [entryFrame, mkF, argsToLocals, Value.category]; done) | rfl) ?_
  intro X T0 W0
  refine Go.iloadN (pc' := 1) W0 d_method_3_code_0 rfl rfl ?_
  refine Go.iconst (pc' := 2) W0 (3 : Int32) d_method_3_code_1 (by decide) rfl ?_
  refine Go.icmp_ne (pc' := 5) W0 9 d_method_3_code_2 (by decide) rfl (fun q => absurd (by decide) q) (fun _ => ?_)
  refine Go.iconst (pc' := 6) W0 (3 : Int32) d_method_3_code_5 (by decide) rfl ?_
  refine Go.newarr (pc' := 8) W0 .char rfl 3 (w_55 G) d_method_3_code_6 rfl (by decide) (by decide) (by decide) (by first | exact Nat.le_of_ble_eq_true rfl | (simp; done) | (simp; omega) | omega) (by first | exact Nat.le_of_ble_eq_true rfl | (simp; done) | (simp; omega) | omega) (fun T1 a3 c4 W2 A5 => ?_)
  replace W2 : Wk l Z EL1 ({ frames := 0, cells := 1, slots := 3, locals := 0 } : Room) "com/example/grantline/grantline/enforcer/PermissionFromScopeNamePinLaw" method_3_code 1 (some (.array .char)) "newArr" X [(a3, c4)] [] T1 1 (3) := W2
  replace A5 : ArrC Z c4 .char [(.int (0 : Int32)), (.int (0 : Int32)), (.int (0 : Int32))] := A5
  refine Go.aret W2 rfl rfl d_method_3_code_8 (by first | exact Nat.le_of_ble_eq_true rfl | (simp; done) | (simp; omega) | omega) (by first | exact Nat.le_of_ble_eq_true rfl | (simp; done) | (simp; omega) | omega) ?_
  exact ⟨a3, c4, rfl, rfl, rfl, A5⟩
theorem d_method_4_code_0 : decode method_4_code 0 = .ok (.iload_n 2, 1) := by decide +kernel
theorem d_method_4_code_1 : decode method_4_code 1 = .ok (.ifCond .ne 19, 3) := by decide +kernel
theorem d_method_4_code_4 : decode method_4_code 4 = .ok (.iload_n 1, 1) := by decide +kernel
theorem d_method_4_code_5 : decode method_4_code 5 = .ok (.iload_n 3, 1) := by decide +kernel
theorem d_method_4_code_6 : decode method_4_code 6 = .ok (.if_icmp .ne 8, 3) := by decide +kernel
theorem d_method_4_code_14 : decode method_4_code 14 = .ok (.aload_n 0, 1) := by decide +kernel
theorem d_method_4_code_15 : decode method_4_code 15 = .ok (.iload_n 1, 1) := by decide +kernel
theorem d_method_4_code_16 : decode method_4_code 16 = .ok (.invokevirtual 45, 3) := by decide +kernel
theorem w_82 {Z : State} {a0 : Array Value} (G : Cl Z a0) : (Jvm.Cond.methodLink "com/example/grantline/grantline/enforcer/PermissionFromScopeNamePinLaw" 45 (⟨"java/lang/String", "charAt", "(I)C"⟩ : MethodName)).before a0 Z = true := G.1 _ (List.mem_of_getElem? (l := tables_1) (i := 82) rfl)
theorem w_86 {Z : State} {a0 : Array Value} (G : Cl Z a0) : (Jvm.Cond.code (⟨"java/lang/String", "charAt", "(I)C"⟩ : MethodName) jdk_42_method_56_code 2 (some .char)).before a0 Z = true := G.1 _ (List.mem_of_getElem? (l := tables_1) (i := 86) rfl)
theorem pd_18 : parseMethodDescriptor "(I)C" = some ⟨[.int], some .char⟩ := by decide +kernel
theorem w_83 {Z : State} {a0 : Array Value} (G : Cl Z a0) : (Jvm.Cond.declares (⟨"java/lang/String", "charAt", "(I)C"⟩ : MethodName)).before a0 Z = true := G.1 _ (List.mem_of_getElem? (l := tables_1) (i := 83) rfl)
theorem w_85 {Z : State} {a0 : Array Value} (G : Cl Z a0) : (Jvm.Cond.selects "java/lang/String" (⟨"java/lang/String", "charAt", "(I)C"⟩ : MethodName) (⟨"java/lang/String", "charAt", "(I)C"⟩ : MethodName)).before a0 Z = true := G.1 _ (List.mem_of_getElem? (l := tables_1) (i := 85) rfl)
theorem w_84 {Z : State} {a0 : Array Value} (G : Cl Z a0) : (Jvm.Cond.instanceMethod (⟨"java/lang/String", "charAt", "(I)C"⟩ : MethodName)).before a0 Z = true := G.1 _ (List.mem_of_getElem? (l := tables_1) (i := 84) rfl)
theorem d_method_4_code_19 : decode method_4_code 19 = .ok (.ireturn, 1) := by decide +kernel
theorem d_method_4_code_9 : decode method_4_code 9 = .ok (.iload 4, 2) := by decide +kernel
theorem d_method_4_code_11 : decode method_4_code 11 = .ok (.goto 8, 3) := by decide +kernel
set_option maxRecDepth 65536 in
set_option maxHeartbeats 40000000 in
theorem rm_at_z {l : Launch} {Z : State} {a0 : Array Value} (G : Cl Z a0) (a b : Addr) (c cb : Cell) (cs : List Int32) (S : StrL Z c b cb cs) (i j : Nat) (hi : i < 100) (hj : j < 100) (ch : Int32) (hch : ¬ ch < 0 ∧ ¬ (255 : Int32) < ch) (x : Int32) (hx : cs[i]? = some x) :
    Met l Z EL1 (⟨"com/example/grantline/grantline/enforcer/PermissionFromScopeNamePinLaw", "at", "(Ljava/lang/String;IIIC)C"⟩ : MethodName) method_4_code 5 (some .char) ({ frames := 4, cells := 0, slots := 0, locals := 55 } : Room) #[.ref a, .int i.toInt32, .int (0 : Int32), .int j.toInt32, .int ch] [] [(a, c), (b, cb)] (fun v σ ρ => v = some (.int (if i = j then ch else x)) ∧ σ = [] ∧ ρ = []) := by
  refine Met.walk G.2.1 pn_17 #[.val (.ref a), .val (.int i.toInt32), .val (.int (0 : Int32)), .val (.int j.toInt32), .val (.int ch)] (fun m => by first | (simp [entryFrame, mkF, argsToLocals, Value.category]; done) | rfl) ?_
  intro X T0 W0
  refine Go.iloadN (pc' := 1) W0 d_method_4_code_0 rfl rfl ?_
  refine Go.if_ne (pc' := 4) W0 20 d_method_4_code_1 (by decide) rfl (fun q => absurd (by decide) q) (fun _ => ?_)
  refine Go.iloadN (pc' := 5) W0 d_method_4_code_4 rfl rfl ?_
  refine Go.iloadN (pc' := 6) W0 d_method_4_code_5 rfl rfl ?_
  refine Go.icmp_ne (pc' := 9) W0 14 d_method_4_code_6 (by decide) rfl (fun (c1 : ¬ (i.toInt32 = j.toInt32)) => ?_) (fun (c1 : i.toInt32 = j.toInt32) => ?_)
  · refine Go.aloadN (pc' := 15) W0 d_method_4_code_14 rfl rfl rfl ?_
    refine Go.iloadN (pc' := 16) W0 d_method_4_code_15 rfl rfl ?_
    refine Go.virtual (pc' := 19) W0 (rm_cha G a b c cb cs S i x hx) (Or.inr (Or.inl (List.mem_of_getElem? (i := 0) rfl))) S.1 (w_82 G) (w_83 G) (w_85 G) (w_84 G) (w_2 G) (w_86 G) (by decide) [] [0, 1] (σf := []) rfl rfl [(.int i.toInt32)] [] rfl (lenOf pd_18 rfl) rfl rfl d_method_4_code_16 rfl (by first | exact Nat.le_of_ble_eq_true rfl | (simp; done) | (simp; omega) | omega) (by first | exact Nat.le_of_ble_eq_true rfl | (simp; done) | (simp; omega) | omega) (by first | exact Nat.le_of_ble_eq_true rfl | (simp; done) | (simp; omega) | omega) (by first | exact Nat.le_of_ble_eq_true rfl | (simp; done) | (simp; omega) | omega) ?_
    rintro _ _ _ T2 ⟨rfl, rfl, rfl⟩ W3
    replace W3 : Wk l Z EL1 ({ frames := 4, cells := 0, slots := 0, locals := 55 } : Room) "com/example/grantline/grantline/enforcer/PermissionFromScopeNamePinLaw" method_4_code 5 (some .char) "at" X [] [(a, c), (b, cb)] T2 0 (0) := W3
    show Go Z EL1 _ _ _ X T2 19 #[.val (.ref a), .val (.int i.toInt32), .val (.int (0 : Int32)), .val (.int j.toInt32), .val (.int ch)] [(.int x)]
    have W4 := W3.keepRo [] (ρ' := []) rfl
    replace W4 : Wk l Z EL1 ({ frames := 4, cells := 0, slots := 0, locals := 55 } : Room) "com/example/grantline/grantline/enforcer/PermissionFromScopeNamePinLaw" method_4_code 5 (some .char) "at" X [] [] T2 0 (0) := W4
    refine Go.nret (z' := x) W4 (by simp) (nar_char_id (lat_char (S.2.2.2.2 x (List.mem_of_getElem? hx)))) d_method_4_code_19 (by first | exact Nat.le_of_ble_eq_true rfl | (simp; done) | (simp; omega) | omega) (by first | exact Nat.le_of_ble_eq_true rfl | (simp; done) | (simp; omega) | omega) ?_
    exact ⟨by rw [if_neg (fun e => c1 (by rw [e]))], rfl, rfl⟩
  · refine Go.iload (pc' := 11) W0 d_method_4_code_9 rfl rfl ?_
    refine Go.goto W0 19 d_method_4_code_11 (by decide) ?_
    have W5 := W0.keepRo [] (ρ' := []) rfl
    replace W5 : Wk l Z EL1 ({ frames := 4, cells := 0, slots := 0, locals := 55 } : Room) "com/example/grantline/grantline/enforcer/PermissionFromScopeNamePinLaw" method_4_code 5 (some .char) "at" X [] [] T0 0 (0) := W5
    refine Go.nret (z' := ch) W5 (by simp) (nar_char_id (lat_char hch)) d_method_4_code_19 (by first | exact Nat.le_of_ble_eq_true rfl | (simp; done) | (simp; omega) | omega) (by first | exact Nat.le_of_ble_eq_true rfl | (simp; done) | (simp; omega) | omega) ?_
    exact ⟨by rw [if_pos ((i32_inj (by omega) (by omega)).mp c1)], rfl, rfl⟩
theorem d_method_4_code_20 : decode method_4_code 20 = .ok (.iload_n 2, 1) := by decide +kernel
theorem d_method_4_code_21 : decode method_4_code 21 = .ok (.iconst 1, 1) := by decide +kernel
theorem d_method_4_code_22 : decode method_4_code 22 = .ok (.if_icmp .ne 22, 3) := by decide +kernel
theorem d_method_4_code_25 : decode method_4_code 25 = .ok (.iload_n 1, 1) := by decide +kernel
theorem d_method_4_code_26 : decode method_4_code 26 = .ok (.aload_n 0, 1) := by decide +kernel
theorem d_method_4_code_27 : decode method_4_code 27 = .ok (.invokevirtual 26, 3) := by decide +kernel
theorem w_12 {Z : State} {a0 : Array Value} (G : Cl Z a0) : (Jvm.Cond.methodLink "com/example/grantline/grantline/enforcer/PermissionFromScopeNamePinLaw" 26 (⟨"java/lang/String", "length", "()I"⟩ : MethodName)).before a0 Z = true := G.1 _ (List.mem_of_getElem? (l := tables_1) (i := 12) rfl)
theorem w_16 {Z : State} {a0 : Array Value} (G : Cl Z a0) : (Jvm.Cond.code (⟨"java/lang/String", "length", "()I"⟩ : MethodName) jdk_42_method_54_code 1 (some .int)).before a0 Z = true := G.1 _ (List.mem_of_getElem? (l := tables_1) (i := 16) rfl)
theorem pd_19 : parseMethodDescriptor "()I" = some ⟨[], some .int⟩ := by decide +kernel
theorem w_13 {Z : State} {a0 : Array Value} (G : Cl Z a0) : (Jvm.Cond.declares (⟨"java/lang/String", "length", "()I"⟩ : MethodName)).before a0 Z = true := G.1 _ (List.mem_of_getElem? (l := tables_1) (i := 13) rfl)
theorem w_15 {Z : State} {a0 : Array Value} (G : Cl Z a0) : (Jvm.Cond.selects "java/lang/String" (⟨"java/lang/String", "length", "()I"⟩ : MethodName) (⟨"java/lang/String", "length", "()I"⟩ : MethodName)).before a0 Z = true := G.1 _ (List.mem_of_getElem? (l := tables_1) (i := 15) rfl)
theorem w_14 {Z : State} {a0 : Array Value} (G : Cl Z a0) : (Jvm.Cond.instanceMethod (⟨"java/lang/String", "length", "()I"⟩ : MethodName)).before a0 Z = true := G.1 _ (List.mem_of_getElem? (l := tables_1) (i := 14) rfl)
theorem d_method_4_code_30 : decode method_4_code 30 = .ok (.if_icmp .ge 11, 3) := by decide +kernel
theorem d_method_4_code_33 : decode method_4_code 33 = .ok (.aload_n 0, 1) := by decide +kernel
theorem d_method_4_code_34 : decode method_4_code 34 = .ok (.iload_n 1, 1) := by decide +kernel
theorem d_method_4_code_35 : decode method_4_code 35 = .ok (.invokevirtual 45, 3) := by decide +kernel
theorem d_method_4_code_38 : decode method_4_code 38 = .ok (.goto 5, 3) := by decide +kernel
theorem d_method_4_code_43 : decode method_4_code 43 = .ok (.ireturn, 1) := by decide +kernel
set_option maxRecDepth 65536 in
set_option maxHeartbeats 40000000 in
theorem rm_at_o {l : Launch} {Z : State} {a0 : Array Value} (G : Cl Z a0) (a b : Addr) (c cb : Cell) (cs : List Int32) (S : StrL Z c b cb cs) (i j : Nat) (hi : i < 100) (hj : j < 100) (ch : Int32) (hch : ¬ ch < 0 ∧ ¬ (255 : Int32) < ch) (x : Int32) (hx : cs[i]? = some x) :
    Met l Z EL1 (⟨"com/example/grantline/grantline/enforcer/PermissionFromScopeNamePinLaw", "at", "(Ljava/lang/String;IIIC)C"⟩ : MethodName) method_4_code 5 (some .char) ({ frames := 4, cells := 0, slots := 0, locals := 55 } : Room) #[.ref a, .int i.toInt32, .int (1 : Int32), .int j.toInt32, .int ch] [] [(a, c), (b, cb)] (fun v σ ρ => v = some (.int (x)) ∧ σ = [] ∧ ρ = []) := by
  refine Met.walk G.2.1 pn_17 #[.val (.ref a), .val (.int i.toInt32), .val (.int (1 : Int32)), .val (.int j.toInt32), .val (.int ch)] (fun m => by first | (simp [entryFrame, mkF, argsToLocals, Value.category]; done) | rfl) ?_
  intro X T0 W0
  refine Go.iloadN (pc' := 1) W0 d_method_4_code_0 rfl rfl ?_
  refine Go.if_ne (pc' := 4) W0 20 d_method_4_code_1 (by decide) rfl (fun _ => ?_) (fun q => absurd q (by decide))
  refine Go.iloadN (pc' := 21) W0 d_method_4_code_20 rfl rfl ?_
  refine Go.iconst (pc' := 22) W0 (1 : Int32) d_method_4_code_21 (by decide) rfl ?_
  refine Go.icmp_ne (pc' := 25) W0 44 d_method_4_code_22 (by decide) rfl (fun q => absurd (by decide) q) (fun _ => ?_)
  refine Go.iloadN (pc' := 26) W0 d_method_4_code_25 rfl rfl ?_
  refine Go.aloadN (pc' := 27) W0 d_method_4_code_26 rfl rfl rfl ?_
  refine Go.virtual (pc' := 30) W0 (rm_len G a b c cb cs S) (Or.inr (Or.inl (List.mem_of_getElem? (i := 0) rfl))) S.1 (w_12 G) (w_13 G) (w_15 G) (w_14 G) (w_2 G) (w_16 G) (by decide) [] [0, 1] (σf := []) rfl rfl [] [(.int i.toInt32)] rfl (lenOf pd_19 rfl) rfl rfl d_method_4_code_27 rfl (by first | exact Nat.le_of_ble_eq_true rfl | (simp; done) | (simp; omega) | omega) (by first | exact Nat.le_of_ble_eq_true rfl | (simp; done) | (simp; omega) | omega) (by first | exact Nat.le_of_ble_eq_true rfl | (simp; done) | (simp; omega) | omega) (by first | exact Nat.le_of_ble_eq_true rfl | (simp; done) | (simp; omega) | omega) ?_
  rintro _ _ _ T1 ⟨rfl, rfl, rfl⟩ W2
  replace W2 : Wk l Z EL1 ({ frames := 4, cells := 0, slots := 0, locals := 55 } : Room) "com/example/grantline/grantline/enforcer/PermissionFromScopeNamePinLaw" method_4_code 5 (some .char) "at" X [] [(a, c), (b, cb)] T1 0 (0) := W2
  show Go Z EL1 _ _ _ X T1 30 #[.val (.ref a), .val (.int i.toInt32), .val (.int (1 : Int32)), .val (.int j.toInt32), .val (.int ch)] [(.int cs.length.toInt32), (.int i.toInt32)]
  refine Go.icmp_ge (pc' := 33) W2 41 d_method_4_code_30 (by decide) rfl (fun q => absurd ((i32_lt (by omega) (by have := S.2.2.2.1.2.2.2.2; rw [latB, List.length_map] at this; omega)).mpr (List.getElem?_eq_some_iff.mp hx).1) q) (fun _ => ?_)
  refine Go.aloadN (pc' := 34) W2 d_method_4_code_33 rfl rfl rfl ?_
  refine Go.iloadN (pc' := 35) W2 d_method_4_code_34 rfl rfl ?_
  refine Go.virtual (pc' := 38) W2 (rm_cha G a b c cb cs S i x hx) (Or.inr (Or.inl (List.mem_of_getElem? (i := 0) rfl))) S.1 (w_82 G) (w_83 G) (w_85 G) (w_84 G) (w_2 G) (w_86 G) (by decide) [] [0, 1] (σf := []) rfl rfl [(.int i.toInt32)] [] rfl (lenOf pd_18 rfl) rfl rfl d_method_4_code_35 rfl (by first | exact Nat.le_of_ble_eq_true rfl | (simp; done) | (simp; omega) | omega) (by first | exact Nat.le_of_ble_eq_true rfl | (simp; done) | (simp; omega) | omega) (by first | exact Nat.le_of_ble_eq_true rfl | (simp; done) | (simp; omega) | omega) (by first | exact Nat.le_of_ble_eq_true rfl | (simp; done) | (simp; omega) | omega) ?_
  rintro _ _ _ T3 ⟨rfl, rfl, rfl⟩ W4
  replace W4 : Wk l Z EL1 ({ frames := 4, cells := 0, slots := 0, locals := 55 } : Room) "com/example/grantline/grantline/enforcer/PermissionFromScopeNamePinLaw" method_4_code 5 (some .char) "at" X [] [(a, c), (b, cb)] T3 0 (0) := W4
  show Go Z EL1 _ _ _ X T3 38 #[.val (.ref a), .val (.int i.toInt32), .val (.int (1 : Int32)), .val (.int j.toInt32), .val (.int ch)] [(.int x)]
  refine Go.goto W4 43 d_method_4_code_38 (by decide) ?_
  have W5 := W4.keepRo [] (ρ' := []) rfl
  replace W5 : Wk l Z EL1 ({ frames := 4, cells := 0, slots := 0, locals := 55 } : Room) "com/example/grantline/grantline/enforcer/PermissionFromScopeNamePinLaw" method_4_code 5 (some .char) "at" X [] [] T3 0 (0) := W5
  refine Go.nret (z' := x) W5 (by simp) (nar_char_id (lat_char (S.2.2.2.2 x (List.mem_of_getElem? hx)))) d_method_4_code_43 (by first | exact Nat.le_of_ble_eq_true rfl | (simp; done) | (simp; omega) | omega) (by first | exact Nat.le_of_ble_eq_true rfl | (simp; done) | (simp; omega) | omega) ?_
  exact ⟨rfl, rfl, rfl⟩
theorem d_method_4_code_41 : decode method_4_code 41 = .ok (.iload 4, 2) := by decide +kernel
set_option maxRecDepth 65536 in
set_option maxHeartbeats 40000000 in
theorem rm_at_p {l : Launch} {Z : State} {a0 : Array Value} (G : Cl Z a0) (a b : Addr) (c cb : Cell) (cs : List Int32) (S : StrL Z c b cb cs) (i j : Nat) (hi : i < 100) (hj : j < 100) (ch : Int32) (hch : ¬ ch < 0 ∧ ¬ (255 : Int32) < ch) (he : i = cs.length) :
    Met l Z EL1 (⟨"com/example/grantline/grantline/enforcer/PermissionFromScopeNamePinLaw", "at", "(Ljava/lang/String;IIIC)C"⟩ : MethodName) method_4_code 5 (some .char) ({ frames := 4, cells := 0, slots := 0, locals := 55 } : Room) #[.ref a, .int i.toInt32, .int (1 : Int32), .int j.toInt32, .int ch] [] [(a, c), (b, cb)] (fun v σ ρ => v = some (.int (ch)) ∧ σ = [] ∧ ρ = []) := by
  refine Met.walk G.2.1 pn_17 #[.val (.ref a), .val (.int i.toInt32), .val (.int (1 : Int32)), .val (.int j.toInt32), .val (.int ch)] (fun m => by first | (simp [entryFrame, mkF, argsToLocals, Value.category]; done) | rfl) ?_
  intro X T0 W0
  refine Go.iloadN (pc' := 1) W0 d_method_4_code_0 rfl rfl ?_
  refine Go.if_ne (pc' := 4) W0 20 d_method_4_code_1 (by decide) rfl (fun _ => ?_) (fun q => absurd q (by decide))
  refine Go.iloadN (pc' := 21) W0 d_method_4_code_20 rfl rfl ?_
  refine Go.iconst (pc' := 22) W0 (1 : Int32) d_method_4_code_21 (by decide) rfl ?_
  refine Go.icmp_ne (pc' := 25) W0 44 d_method_4_code_22 (by decide) rfl (fun q => absurd (by decide) q) (fun _ => ?_)
  refine Go.iloadN (pc' := 26) W0 d_method_4_code_25 rfl rfl ?_
  refine Go.aloadN (pc' := 27) W0 d_method_4_code_26 rfl rfl rfl ?_
  refine Go.virtual (pc' := 30) W0 (rm_len G a b c cb cs S) (Or.inr (Or.inl (List.mem_of_getElem? (i := 0) rfl))) S.1 (w_12 G) (w_13 G) (w_15 G) (w_14 G) (w_2 G) (w_16 G) (by decide) [] [0, 1] (σf := []) rfl rfl [] [(.int i.toInt32)] rfl (lenOf pd_19 rfl) rfl rfl d_method_4_code_27 rfl (by first | exact Nat.le_of_ble_eq_true rfl | (simp; done) | (simp; omega) | omega) (by first | exact Nat.le_of_ble_eq_true rfl | (simp; done) | (simp; omega) | omega) (by first | exact Nat.le_of_ble_eq_true rfl | (simp; done) | (simp; omega) | omega) (by first | exact Nat.le_of_ble_eq_true rfl | (simp; done) | (simp; omega) | omega) ?_
  rintro _ _ _ T1 ⟨rfl, rfl, rfl⟩ W2
  replace W2 : Wk l Z EL1 ({ frames := 4, cells := 0, slots := 0, locals := 55 } : Room) "com/example/grantline/grantline/enforcer/PermissionFromScopeNamePinLaw" method_4_code 5 (some .char) "at" X [] [(a, c), (b, cb)] T1 0 (0) := W2
  show Go Z EL1 _ _ _ X T1 30 #[.val (.ref a), .val (.int i.toInt32), .val (.int (1 : Int32)), .val (.int j.toInt32), .val (.int ch)] [(.int cs.length.toInt32), (.int i.toInt32)]
  refine Go.icmp_ge (pc' := 33) W2 41 d_method_4_code_30 (by decide) rfl (fun _ => ?_) (fun q => absurd q (by rw [i32_lt (by omega) (by omega)]; omega))
  refine Go.iload (pc' := 43) W2 d_method_4_code_41 rfl rfl ?_
  have W3 := W2.keepRo [] (ρ' := []) rfl
  replace W3 : Wk l Z EL1 ({ frames := 4, cells := 0, slots := 0, locals := 55 } : Room) "com/example/grantline/grantline/enforcer/PermissionFromScopeNamePinLaw" method_4_code 5 (some .char) "at" X [] [] T1 0 (0) := W3
  refine Go.nret (z' := ch) W3 (by simp) (nar_char_id (lat_char hch)) d_method_4_code_43 (by first | exact Nat.le_of_ble_eq_true rfl | (simp; done) | (simp; omega) | omega) (by first | exact Nat.le_of_ble_eq_true rfl | (simp; done) | (simp; omega) | omega) ?_
  exact ⟨rfl, rfl, rfl⟩
theorem d_method_4_code_44 : decode method_4_code 44 = .ok (.iload_n 1, 1) := by decide +kernel
theorem d_method_4_code_45 : decode method_4_code 45 = .ok (.iload_n 3, 1) := by decide +kernel
theorem d_method_4_code_46 : decode method_4_code 46 = .ok (.if_icmp .ge 11, 3) := by decide +kernel
theorem d_method_4_code_57 : decode method_4_code 57 = .ok (.aload_n 0, 1) := by decide +kernel
theorem d_method_4_code_58 : decode method_4_code 58 = .ok (.iload_n 1, 1) := by decide +kernel
theorem d_method_4_code_59 : decode method_4_code 59 = .ok (.iconst 1, 1) := by decide +kernel
theorem d_method_4_code_60 : decode method_4_code 60 = .ok (.iadd, 1) := by decide +kernel
theorem d_method_4_code_61 : decode method_4_code 61 = .ok (.invokevirtual 45, 3) := by decide +kernel
theorem d_method_4_code_64 : decode method_4_code 64 = .ok (.ireturn, 1) := by decide +kernel
theorem d_method_4_code_49 : decode method_4_code 49 = .ok (.aload_n 0, 1) := by decide +kernel
theorem d_method_4_code_50 : decode method_4_code 50 = .ok (.iload_n 1, 1) := by decide +kernel
theorem d_method_4_code_51 : decode method_4_code 51 = .ok (.invokevirtual 45, 3) := by decide +kernel
theorem d_method_4_code_54 : decode method_4_code 54 = .ok (.goto 10, 3) := by decide +kernel
set_option maxRecDepth 65536 in
set_option maxHeartbeats 40000000 in
theorem rm_at_t {l : Launch} {Z : State} {a0 : Array Value} (G : Cl Z a0) (a b : Addr) (c cb : Cell) (cs : List Int32) (S : StrL Z c b cb cs) (i j : Nat) (hi : i < 100) (hj : j < 100) (ch : Int32) (hch : ¬ ch < 0 ∧ ¬ (255 : Int32) < ch) (x : Int32) (hx : cs[i]? = some x) (y : Int32) (hy : cs[i + 1]? = some y) :
    Met l Z EL1 (⟨"com/example/grantline/grantline/enforcer/PermissionFromScopeNamePinLaw", "at", "(Ljava/lang/String;IIIC)C"⟩ : MethodName) method_4_code 5 (some .char) ({ frames := 4, cells := 0, slots := 0, locals := 55 } : Room) #[.ref a, .int i.toInt32, .int (2 : Int32), .int j.toInt32, .int ch] [] [(a, c), (b, cb)] (fun v σ ρ => v = some (.int (if i < j then x else y)) ∧ σ = [] ∧ ρ = []) := by
  refine Met.walk G.2.1 pn_17 #[.val (.ref a), .val (.int i.toInt32), .val (.int (2 : Int32)), .val (.int j.toInt32), .val (.int ch)] (fun m => by first | (simp [entryFrame, mkF, argsToLocals, Value.category]; done) | rfl) ?_
  intro X T0 W0
  refine Go.iloadN (pc' := 1) W0 d_method_4_code_0 rfl rfl ?_
  refine Go.if_ne (pc' := 4) W0 20 d_method_4_code_1 (by decide) rfl (fun _ => ?_) (fun q => absurd q (by decide))
  refine Go.iloadN (pc' := 21) W0 d_method_4_code_20 rfl rfl ?_
  refine Go.iconst (pc' := 22) W0 (1 : Int32) d_method_4_code_21 (by decide) rfl ?_
  refine Go.icmp_ne (pc' := 25) W0 44 d_method_4_code_22 (by decide) rfl (fun _ => ?_) (fun q => absurd q (by decide))
  refine Go.iloadN (pc' := 45) W0 d_method_4_code_44 rfl rfl ?_
  refine Go.iloadN (pc' := 46) W0 d_method_4_code_45 rfl rfl ?_
  refine Go.icmp_ge (pc' := 49) W0 57 d_method_4_code_46 (by decide) rfl (fun (c1 : ¬ (i.toInt32 < j.toInt32)) => ?_) (fun (c1 : i.toInt32 < j.toInt32) => ?_)
  · refine Go.aloadN (pc' := 58) W0 d_method_4_code_57 rfl rfl rfl ?_
    refine Go.iloadN (pc' := 59) W0 d_method_4_code_58 rfl rfl ?_
    refine Go.iconst (pc' := 60) W0 (1 : Int32) d_method_4_code_59 (by decide) rfl ?_
    refine Go.iadd (pc' := 61) W0 d_method_4_code_60 rfl ?_
    rw [i32_succ (by omega)]
    refine Go.virtual (pc' := 64) W0 (rm_cha G a b c cb cs S (i + 1) y hy) (Or.inr (Or.inl (List.mem_of_getElem? (i := 0) rfl))) S.1 (w_82 G) (w_83 G) (w_85 G) (w_84 G) (w_2 G) (w_86 G) (by decide) [] [0, 1] (σf := []) rfl rfl [(.int ((i + 1).toInt32))] [] rfl (lenOf pd_18 rfl) rfl rfl d_method_4_code_61 rfl (by first | exact Nat.le_of_ble_eq_true rfl | (simp; done) | (simp; omega) | omega) (by first | exact Nat.le_of_ble_eq_true rfl | (simp; done) | (simp; omega) | omega) (by first | exact Nat.le_of_ble_eq_true rfl | (simp; done) | (simp; omega) | omega) (by first | exact Nat.le_of_ble_eq_true rfl | (simp; done) | (simp; omega) | omega) ?_
    rintro _ _ _ T2 ⟨rfl, rfl, rfl⟩ W3
    replace W3 : Wk l Z EL1 ({ frames := 4, cells := 0, slots := 0, locals := 55 } : Room) "com/example/grantline/grantline/enforcer/PermissionFromScopeNamePinLaw" method_4_code 5 (some .char) "at" X [] [(a, c), (b, cb)] T2 0 (0) := W3
    show Go Z EL1 _ _ _ X T2 64 #[.val (.ref a), .val (.int i.toInt32), .val (.int (2 : Int32)), .val (.int j.toInt32), .val (.int ch)] [(.int y)]
    have W4 := W3.keepRo [] (ρ' := []) rfl
    replace W4 : Wk l Z EL1 ({ frames := 4, cells := 0, slots := 0, locals := 55 } : Room) "com/example/grantline/grantline/enforcer/PermissionFromScopeNamePinLaw" method_4_code 5 (some .char) "at" X [] [] T2 0 (0) := W4
    refine Go.nret (z' := y) W4 (by simp) (nar_char_id (lat_char (S.2.2.2.2 y (List.mem_of_getElem? hy)))) d_method_4_code_64 (by first | exact Nat.le_of_ble_eq_true rfl | (simp; done) | (simp; omega) | omega) (by first | exact Nat.le_of_ble_eq_true rfl | (simp; done) | (simp; omega) | omega) ?_
    exact ⟨by rw [if_neg (fun e => c1 ((i32_lt (by omega) (by omega)).mpr e))], rfl, rfl⟩
  · refine Go.aloadN (pc' := 50) W0 d_method_4_code_49 rfl rfl rfl ?_
    refine Go.iloadN (pc' := 51) W0 d_method_4_code_50 rfl rfl ?_
    refine Go.virtual (pc' := 54) W0 (rm_cha G a b c cb cs S i x hx) (Or.inr (Or.inl (List.mem_of_getElem? (i := 0) rfl))) S.1 (w_82 G) (w_83 G) (w_85 G) (w_84 G) (w_2 G) (w_86 G) (by decide) [] [0, 1] (σf := []) rfl rfl [(.int i.toInt32)] [] rfl (lenOf pd_18 rfl) rfl rfl d_method_4_code_51 rfl (by first | exact Nat.le_of_ble_eq_true rfl | (simp; done) | (simp; omega) | omega) (by first | exact Nat.le_of_ble_eq_true rfl | (simp; done) | (simp; omega) | omega) (by first | exact Nat.le_of_ble_eq_true rfl | (simp; done) | (simp; omega) | omega) (by first | exact Nat.le_of_ble_eq_true rfl | (simp; done) | (simp; omega) | omega) ?_
    rintro _ _ _ T5 ⟨rfl, rfl, rfl⟩ W6
    replace W6 : Wk l Z EL1 ({ frames := 4, cells := 0, slots := 0, locals := 55 } : Room) "com/example/grantline/grantline/enforcer/PermissionFromScopeNamePinLaw" method_4_code 5 (some .char) "at" X [] [(a, c), (b, cb)] T5 0 (0) := W6
    show Go Z EL1 _ _ _ X T5 54 #[.val (.ref a), .val (.int i.toInt32), .val (.int (2 : Int32)), .val (.int j.toInt32), .val (.int ch)] [(.int x)]
    refine Go.goto W6 64 d_method_4_code_54 (by decide) ?_
    have W7 := W6.keepRo [] (ρ' := []) rfl
    replace W7 : Wk l Z EL1 ({ frames := 4, cells := 0, slots := 0, locals := 55 } : Room) "com/example/grantline/grantline/enforcer/PermissionFromScopeNamePinLaw" method_4_code 5 (some .char) "at" X [] [] T5 0 (0) := W7
    refine Go.nret (z' := x) W7 (by simp) (nar_char_id (lat_char (S.2.2.2.2 x (List.mem_of_getElem? hx)))) d_method_4_code_64 (by first | exact Nat.le_of_ble_eq_true rfl | (simp; done) | (simp; omega) | omega) (by first | exact Nat.le_of_ble_eq_true rfl | (simp; done) | (simp; omega) | omega) ?_
    exact ⟨by rw [if_pos ((i32_lt (by omega) (by omega)).mp c1)], rfl, rfl⟩
theorem d_method_5_code_0 : decode method_5_code 0 = .ok (.iload_n 1, 1) := by decide +kernel
theorem d_method_5_code_1 : decode method_5_code 1 = .ok (.invokestatic 49, 3) := by decide +kernel
theorem w_76 {Z : State} {a0 : Array Value} (G : Cl Z a0) : (Jvm.Cond.methodLink "com/example/grantline/grantline/enforcer/PermissionFromScopeNamePinLaw" 49 (⟨"com/example/grantline/grantline/enforcer/PermissionFromScopeNamePinLaw", "newArr", "(I)[C"⟩ : MethodName)).before a0 Z = true := G.1 _ (List.mem_of_getElem? (l := tables_1) (i := 76) rfl)
theorem w_74 {Z : State} {a0 : Array Value} (G : Cl Z a0) : (Jvm.Cond.initialized "com/example/grantline/grantline/enforcer/PermissionFromScopeNamePinLaw").before a0 Z = true := G.1 _ (List.mem_of_getElem? (l := tables_1) (i := 74) rfl)
theorem w_78 {Z : State} {a0 : Array Value} (G : Cl Z a0) : (Jvm.Cond.code (⟨"com/example/grantline/grantline/enforcer/PermissionFromScopeNamePinLaw", "newArr", "(I)[C"⟩ : MethodName) method_3_code 1 (some (.array .char))).before a0 Z = true := G.1 _ (List.mem_of_getElem? (l := tables_1) (i := 78) rfl)
theorem pd_20 : parseMethodDescriptor "(I)[C" = some ⟨[.int], some (.array .char)⟩ := by decide +kernel
theorem w_77 {Z : State} {a0 : Array Value} (G : Cl Z a0) : (Jvm.Cond.static (⟨"com/example/grantline/grantline/enforcer/PermissionFromScopeNamePinLaw", "newArr", "(I)[C"⟩ : MethodName)).before a0 Z = true := G.1 _ (List.mem_of_getElem? (l := tables_1) (i := 77) rfl)
theorem d_method_5_code_4 : decode method_5_code 4 = .ok (.astore 5, 2) := by decide +kernel
theorem d_method_5_code_6 : decode method_5_code 6 = .ok (.iload_n 1, 1) := by decide +kernel
theorem d_method_5_code_7 : decode method_5_code 7 = .ok (.ifCond .le 16, 3) := by decide +kernel
theorem d_method_5_code_10 : decode method_5_code 10 = .ok (.aload 5, 2) := by decide +kernel
theorem d_method_5_code_12 : decode method_5_code 12 = .ok (.iconst 0, 1) := by decide +kernel
theorem d_method_5_code_13 : decode method_5_code 13 = .ok (.aload_n 0, 1) := by decide +kernel
theorem d_method_5_code_14 : decode method_5_code 14 = .ok (.iconst 0, 1) := by decide +kernel
theorem d_method_5_code_15 : decode method_5_code 15 = .ok (.iload_n 2, 1) := by decide +kernel
theorem d_method_5_code_16 : decode method_5_code 16 = .ok (.iload_n 3, 1) := by decide +kernel
theorem d_method_5_code_17 : decode method_5_code 17 = .ok (.iload 4, 2) := by decide +kernel
theorem d_method_5_code_19 : decode method_5_code 19 = .ok (.invokestatic 53, 3) := by decide +kernel
theorem w_79 {Z : State} {a0 : Array Value} (G : Cl Z a0) : (Jvm.Cond.methodLink "com/example/grantline/grantline/enforcer/PermissionFromScopeNamePinLaw" 53 (⟨"com/example/grantline/grantline/enforcer/PermissionFromScopeNamePinLaw", "at", "(Ljava/lang/String;IIIC)C"⟩ : MethodName)).before a0 Z = true := G.1 _ (List.mem_of_getElem? (l := tables_1) (i := 79) rfl)
theorem w_81 {Z : State} {a0 : Array Value} (G : Cl Z a0) : (Jvm.Cond.code (⟨"com/example/grantline/grantline/enforcer/PermissionFromScopeNamePinLaw", "at", "(Ljava/lang/String;IIIC)C"⟩ : MethodName) method_4_code 5 (some .char)).before a0 Z = true := G.1 _ (List.mem_of_getElem? (l := tables_1) (i := 81) rfl)
theorem pd_21 : parseMethodDescriptor "(Ljava/lang/String;IIIC)C" = some ⟨[(.object "java/lang/String"), .int, .int, .int, .char], some .char⟩ := by decide +kernel
theorem w_80 {Z : State} {a0 : Array Value} (G : Cl Z a0) : (Jvm.Cond.static (⟨"com/example/grantline/grantline/enforcer/PermissionFromScopeNamePinLaw", "at", "(Ljava/lang/String;IIIC)C"⟩ : MethodName)).before a0 Z = true := G.1 _ (List.mem_of_getElem? (l := tables_1) (i := 80) rfl)
theorem d_method_5_code_22 : decode method_5_code 22 = .ok (.castore, 1) := by decide +kernel
theorem d_method_5_code_23 : decode method_5_code 23 = .ok (.iload_n 1, 1) := by decide +kernel
theorem d_method_5_code_24 : decode method_5_code 24 = .ok (.iconst 1, 1) := by decide +kernel
theorem d_method_5_code_25 : decode method_5_code 25 = .ok (.if_icmp .le 16, 3) := by decide +kernel
theorem d_method_5_code_28 : decode method_5_code 28 = .ok (.aload 5, 2) := by decide +kernel
theorem d_method_5_code_30 : decode method_5_code 30 = .ok (.iconst 1, 1) := by decide +kernel
theorem d_method_5_code_31 : decode method_5_code 31 = .ok (.aload_n 0, 1) := by decide +kernel
theorem d_method_5_code_32 : decode method_5_code 32 = .ok (.iconst 1, 1) := by decide +kernel
theorem d_method_5_code_33 : decode method_5_code 33 = .ok (.iload_n 2, 1) := by decide +kernel
theorem d_method_5_code_34 : decode method_5_code 34 = .ok (.iload_n 3, 1) := by decide +kernel
theorem d_method_5_code_35 : decode method_5_code 35 = .ok (.iload 4, 2) := by decide +kernel
theorem d_method_5_code_37 : decode method_5_code 37 = .ok (.invokestatic 53, 3) := by decide +kernel
theorem d_method_5_code_40 : decode method_5_code 40 = .ok (.castore, 1) := by decide +kernel
theorem d_method_5_code_41 : decode method_5_code 41 = .ok (.iload_n 1, 1) := by decide +kernel
theorem d_method_5_code_42 : decode method_5_code 42 = .ok (.iconst 2, 1) := by decide +kernel
theorem d_method_5_code_43 : decode method_5_code 43 = .ok (.if_icmp .le 16, 3) := by decide +kernel
theorem d_method_5_code_46 : decode method_5_code 46 = .ok (.aload 5, 2) := by decide +kernel
theorem d_method_5_code_48 : decode method_5_code 48 = .ok (.iconst 2, 1) := by decide +kernel
theorem d_method_5_code_49 : decode method_5_code 49 = .ok (.aload_n 0, 1) := by decide +kernel
theorem d_method_5_code_50 : decode method_5_code 50 = .ok (.iconst 2, 1) := by decide +kernel
theorem d_method_5_code_51 : decode method_5_code 51 = .ok (.iload_n 2, 1) := by decide +kernel
theorem d_method_5_code_52 : decode method_5_code 52 = .ok (.iload_n 3, 1) := by decide +kernel
theorem d_method_5_code_53 : decode method_5_code 53 = .ok (.iload 4, 2) := by decide +kernel
theorem d_method_5_code_55 : decode method_5_code 55 = .ok (.invokestatic 53, 3) := by decide +kernel
theorem d_method_5_code_58 : decode method_5_code 58 = .ok (.castore, 1) := by decide +kernel
theorem d_method_5_code_59 : decode method_5_code 59 = .ok (.iload_n 1, 1) := by decide +kernel
theorem d_method_5_code_60 : decode method_5_code 60 = .ok (.iconst 3, 1) := by decide +kernel
theorem d_method_5_code_61 : decode method_5_code 61 = .ok (.if_icmp .le 16, 3) := by decide +kernel
theorem d_method_5_code_64 : decode method_5_code 64 = .ok (.aload 5, 2) := by decide +kernel
theorem d_method_5_code_66 : decode method_5_code 66 = .ok (.iconst 3, 1) := by decide +kernel
theorem d_method_5_code_67 : decode method_5_code 67 = .ok (.aload_n 0, 1) := by decide +kernel
theorem d_method_5_code_68 : decode method_5_code 68 = .ok (.iconst 3, 1) := by decide +kernel
theorem d_method_5_code_69 : decode method_5_code 69 = .ok (.iload_n 2, 1) := by decide +kernel
theorem d_method_5_code_70 : decode method_5_code 70 = .ok (.iload_n 3, 1) := by decide +kernel
theorem d_method_5_code_71 : decode method_5_code 71 = .ok (.iload 4, 2) := by decide +kernel
theorem d_method_5_code_73 : decode method_5_code 73 = .ok (.invokestatic 53, 3) := by decide +kernel
theorem d_method_5_code_76 : decode method_5_code 76 = .ok (.castore, 1) := by decide +kernel
theorem d_method_5_code_77 : decode method_5_code 77 = .ok (.iload_n 1, 1) := by decide +kernel
theorem d_method_5_code_78 : decode method_5_code 78 = .ok (.iconst 4, 1) := by decide +kernel
theorem d_method_5_code_79 : decode method_5_code 79 = .ok (.if_icmp .le 16, 3) := by decide +kernel
theorem d_method_5_code_82 : decode method_5_code 82 = .ok (.aload 5, 2) := by decide +kernel
theorem d_method_5_code_84 : decode method_5_code 84 = .ok (.iconst 4, 1) := by decide +kernel
theorem d_method_5_code_85 : decode method_5_code 85 = .ok (.aload_n 0, 1) := by decide +kernel
theorem d_method_5_code_86 : decode method_5_code 86 = .ok (.iconst 4, 1) := by decide +kernel
theorem d_method_5_code_87 : decode method_5_code 87 = .ok (.iload_n 2, 1) := by decide +kernel
theorem d_method_5_code_88 : decode method_5_code 88 = .ok (.iload_n 3, 1) := by decide +kernel
theorem d_method_5_code_89 : decode method_5_code 89 = .ok (.iload 4, 2) := by decide +kernel
theorem d_method_5_code_91 : decode method_5_code 91 = .ok (.invokestatic 53, 3) := by decide +kernel
theorem d_method_5_code_94 : decode method_5_code 94 = .ok (.castore, 1) := by decide +kernel
theorem d_method_5_code_95 : decode method_5_code 95 = .ok (.iload_n 1, 1) := by decide +kernel
theorem d_method_5_code_96 : decode method_5_code 96 = .ok (.iconst 5, 1) := by decide +kernel
theorem d_method_5_code_97 : decode method_5_code 97 = .ok (.if_icmp .le 16, 3) := by decide +kernel
theorem d_method_5_code_100 : decode method_5_code 100 = .ok (.aload 5, 2) := by decide +kernel
theorem d_method_5_code_102 : decode method_5_code 102 = .ok (.iconst 5, 1) := by decide +kernel
theorem d_method_5_code_103 : decode method_5_code 103 = .ok (.aload_n 0, 1) := by decide +kernel
theorem d_method_5_code_104 : decode method_5_code 104 = .ok (.iconst 5, 1) := by decide +kernel
theorem d_method_5_code_105 : decode method_5_code 105 = .ok (.iload_n 2, 1) := by decide +kernel
theorem d_method_5_code_106 : decode method_5_code 106 = .ok (.iload_n 3, 1) := by decide +kernel
theorem d_method_5_code_107 : decode method_5_code 107 = .ok (.iload 4, 2) := by decide +kernel
theorem d_method_5_code_109 : decode method_5_code 109 = .ok (.invokestatic 53, 3) := by decide +kernel
theorem d_method_5_code_112 : decode method_5_code 112 = .ok (.castore, 1) := by decide +kernel
theorem d_method_5_code_113 : decode method_5_code 113 = .ok (.iload_n 1, 1) := by decide +kernel
theorem d_method_5_code_114 : decode method_5_code 114 = .ok (.bipush 6, 2) := by decide +kernel
theorem d_method_5_code_116 : decode method_5_code 116 = .ok (.if_icmp .le 18, 3) := by decide +kernel
theorem d_method_5_code_119 : decode method_5_code 119 = .ok (.aload 5, 2) := by decide +kernel
theorem d_method_5_code_121 : decode method_5_code 121 = .ok (.bipush 6, 2) := by decide +kernel
theorem d_method_5_code_123 : decode method_5_code 123 = .ok (.aload_n 0, 1) := by decide +kernel
theorem d_method_5_code_124 : decode method_5_code 124 = .ok (.bipush 6, 2) := by decide +kernel
theorem d_method_5_code_126 : decode method_5_code 126 = .ok (.iload_n 2, 1) := by decide +kernel
theorem d_method_5_code_127 : decode method_5_code 127 = .ok (.iload_n 3, 1) := by decide +kernel
theorem d_method_5_code_128 : decode method_5_code 128 = .ok (.iload 4, 2) := by decide +kernel
theorem d_method_5_code_130 : decode method_5_code 130 = .ok (.invokestatic 53, 3) := by decide +kernel
theorem d_method_5_code_133 : decode method_5_code 133 = .ok (.castore, 1) := by decide +kernel
theorem d_method_5_code_134 : decode method_5_code 134 = .ok (.iload_n 1, 1) := by decide +kernel
theorem d_method_5_code_135 : decode method_5_code 135 = .ok (.bipush 7, 2) := by decide +kernel
theorem d_method_5_code_137 : decode method_5_code 137 = .ok (.if_icmp .le 18, 3) := by decide +kernel
theorem d_method_5_code_140 : decode method_5_code 140 = .ok (.aload 5, 2) := by decide +kernel
theorem d_method_5_code_142 : decode method_5_code 142 = .ok (.bipush 7, 2) := by decide +kernel
theorem d_method_5_code_144 : decode method_5_code 144 = .ok (.aload_n 0, 1) := by decide +kernel
theorem d_method_5_code_145 : decode method_5_code 145 = .ok (.bipush 7, 2) := by decide +kernel
theorem d_method_5_code_147 : decode method_5_code 147 = .ok (.iload_n 2, 1) := by decide +kernel
theorem d_method_5_code_148 : decode method_5_code 148 = .ok (.iload_n 3, 1) := by decide +kernel
theorem d_method_5_code_149 : decode method_5_code 149 = .ok (.iload 4, 2) := by decide +kernel
theorem d_method_5_code_151 : decode method_5_code 151 = .ok (.invokestatic 53, 3) := by decide +kernel
theorem d_method_5_code_154 : decode method_5_code 154 = .ok (.castore, 1) := by decide +kernel
theorem d_method_5_code_155 : decode method_5_code 155 = .ok (.iload_n 1, 1) := by decide +kernel
theorem d_method_5_code_156 : decode method_5_code 156 = .ok (.bipush 8, 2) := by decide +kernel
theorem d_method_5_code_158 : decode method_5_code 158 = .ok (.if_icmp .le 18, 3) := by decide +kernel
theorem d_method_5_code_161 : decode method_5_code 161 = .ok (.aload 5, 2) := by decide +kernel
theorem d_method_5_code_163 : decode method_5_code 163 = .ok (.bipush 8, 2) := by decide +kernel
theorem d_method_5_code_165 : decode method_5_code 165 = .ok (.aload_n 0, 1) := by decide +kernel
theorem d_method_5_code_166 : decode method_5_code 166 = .ok (.bipush 8, 2) := by decide +kernel
theorem d_method_5_code_168 : decode method_5_code 168 = .ok (.iload_n 2, 1) := by decide +kernel
theorem d_method_5_code_169 : decode method_5_code 169 = .ok (.iload_n 3, 1) := by decide +kernel
theorem d_method_5_code_170 : decode method_5_code 170 = .ok (.iload 4, 2) := by decide +kernel
theorem d_method_5_code_172 : decode method_5_code 172 = .ok (.invokestatic 53, 3) := by decide +kernel
theorem d_method_5_code_175 : decode method_5_code 175 = .ok (.castore, 1) := by decide +kernel
theorem d_method_5_code_176 : decode method_5_code 176 = .ok (.iload_n 1, 1) := by decide +kernel
theorem d_method_5_code_177 : decode method_5_code 177 = .ok (.bipush 9, 2) := by decide +kernel
theorem d_method_5_code_179 : decode method_5_code 179 = .ok (.if_icmp .le 18, 3) := by decide +kernel
theorem d_method_5_code_197 : decode method_5_code 197 = .ok (.new 27, 3) := by decide +kernel
theorem w_54 {Z : State} {a0 : Array Value} (G : Cl Z a0) : (Jvm.Cond.classLink "com/example/grantline/grantline/enforcer/PermissionFromScopeNamePinLaw" 27 "java/lang/String").before a0 Z = true := G.1 _ (List.mem_of_getElem? (l := tables_1) (i := 54) rfl)
theorem d_method_5_code_200 : decode method_5_code 200 = .ok (.dup, 1) := by decide +kernel
theorem d_method_5_code_201 : decode method_5_code 201 = .ok (.aload 5, 2) := by decide +kernel
theorem d_method_5_code_203 : decode method_5_code 203 = .ok (.invokespecial 36, 3) := by decide +kernel
theorem w_56 {Z : State} {a0 : Array Value} (G : Cl Z a0) : (Jvm.Cond.methodLink "com/example/grantline/grantline/enforcer/PermissionFromScopeNamePinLaw" 36 (⟨"java/lang/String", "<init>", "([C)V"⟩ : MethodName)).before a0 Z = true := G.1 _ (List.mem_of_getElem? (l := tables_1) (i := 56) rfl)
theorem w_58 {Z : State} {a0 : Array Value} (G : Cl Z a0) : (Jvm.Cond.code (⟨"java/lang/String", "<init>", "([C)V"⟩ : MethodName) jdk_42_method_3_code 2 none).before a0 Z = true := G.1 _ (List.mem_of_getElem? (l := tables_1) (i := 58) rfl)
theorem pd_22 : parseMethodDescriptor "([C)V" = some ⟨[(.array .char)], none⟩ := by decide +kernel
theorem w_57 {Z : State} {a0 : Array Value} (G : Cl Z a0) : (Jvm.Cond.instanceMethod (⟨"java/lang/String", "<init>", "([C)V"⟩ : MethodName)).before a0 Z = true := G.1 _ (List.mem_of_getElem? (l := tables_1) (i := 57) rfl)
theorem d_method_5_code_206 : decode method_5_code 206 = .ok (.areturn, 1) := by decide +kernel
set_option maxRecDepth 65536 in
set_option maxHeartbeats 40000000 in
theorem rm_build_configurez {l : Launch} {Z : State} {a0 : Array Value} (G : Cl Z a0) (a b : Addr) (c cb : Cell) (S : StrL Z c b cb [(99 : Int32), (111 : Int32), (110 : Int32), (102 : Int32), (105 : Int32), (103 : Int32), (117 : Int32), (114 : Int32), (101 : Int32)]) (j : Nat) (hj : j < 9) (ch : Int32) (hch : ¬ ch < 0 ∧ ¬ (255 : Int32) < ch) :
    Met l Z EL1 (⟨"com/example/grantline/grantline/enforcer/PermissionFromScopeNamePinLaw", "build", "(Ljava/lang/String;IIIC)Ljava/lang/String;"⟩ : MethodName) method_5_code 6 (some (.object "java/lang/String")) ({ frames := 5, cells := 3, slots := 22, locals := 73 } : Room) #[.ref a, .int (9 : Int32), .int (0 : Int32), .int j.toInt32, .int ch] [] [(a, c), (b, cb)] (fun v σ ρ => ∃ a c b cb, v = some (.ref a) ∧ σ = [] ∧ ρ = [(a, c), (b, cb)] ∧ StrL Z c b cb [if 0 = j then ch else (99 : Int32), if 1 = j then ch else (111 : Int32), if 2 = j then ch else (110 : Int32), if 3 = j then ch else (102 : Int32), if 4 = j then ch else (105 : Int32), if 5 = j then ch else (103 : Int32), if 6 = j then ch else (117 : Int32), if 7 = j then ch else (114 : Int32), if 8 = j then ch else (101 : Int32)]) := by
  refine Met.walk G.2.1 pn_17 #[.val (.ref a), .val (.int (9 : Int32)), .val (.int (0 : Int32)), .val (.int j.toInt32), .val (.int ch), .unset] (fun m => by first | (simp [entryFrame, mkF, argsToLocals, Value.category]; done) | rfl) ?_
  intro X T0 W0
  refine Go.iloadN (pc' := 1) W0 d_method_5_code_0 rfl rfl ?_
  refine Go.static (pc' := 4) W0 (rm_newArr_J G) (w_76 G) (w_77 G) (w_74 G) (w_78 G) (by decide) [] [] (σf := []) rfl rfl [(.int (9 : Int32))] [] rfl (lenOf pd_20 rfl) rfl rfl d_method_5_code_1 rfl (by first | exact Nat.le_of_ble_eq_true rfl | (simp; done) | (simp; omega) | omega) (by first | exact Nat.le_of_ble_eq_true rfl | (simp; done) | (simp; omega) | omega) (by first | exact Nat.le_of_ble_eq_true rfl | (simp; done) | (simp; omega) | omega) (by first | exact Nat.le_of_ble_eq_true rfl | (simp; done) | (simp; omega) | omega) ?_
  rintro _ _ _ T4 ⟨a1, c2, rfl, rfl, rfl, A3⟩ W5
  replace W5 : Wk l Z EL1 ({ frames := 5, cells := 3, slots := 22, locals := 73 } : Room) "com/example/grantline/grantline/enforcer/PermissionFromScopeNamePinLaw" method_5_code 6 (some (.object "java/lang/String")) "build" X [(a1, c2)] [(a, c), (b, cb)] T4 1 (9) := W5
  show Go Z EL1 _ _ _ X T4 4 #[.val (.ref a), .val (.int (9 : Int32)), .val (.int (0 : Int32)), .val (.int j.toInt32), .val (.int ch), .unset] [(.ref a1)]
  refine Go.astore (pc' := 6) W5 #[.val (.ref a), .val (.int (9 : Int32)), .val (.int (0 : Int32)), .val (.int j.toInt32), .val (.int ch), .val (.ref a1)] d_method_5_code_4 rfl rfl rfl ?_
  refine Go.iloadN (pc' := 7) W5 d_method_5_code_6 rfl rfl ?_
  refine Go.if_le (pc' := 10) W5 23 d_method_5_code_7 (by decide) rfl (fun q => absurd (by decide) q) (fun _ => ?_)
  refine Go.aload (pc' := 12) W5 d_method_5_code_10 rfl rfl rfl ?_
  refine Go.iconst (pc' := 13) W5 (0 : Int32) d_method_5_code_12 (by decide) rfl ?_
  refine Go.aloadN (pc' := 14) W5 d_method_5_code_13 rfl rfl rfl ?_
  refine Go.iconst (pc' := 15) W5 (0 : Int32) d_method_5_code_14 (by decide) rfl ?_
  refine Go.iloadN (pc' := 16) W5 d_method_5_code_15 rfl rfl ?_
  refine Go.iloadN (pc' := 17) W5 d_method_5_code_16 rfl rfl ?_
  refine Go.iload (pc' := 19) W5 d_method_5_code_17 rfl rfl ?_
  refine Go.static (pc' := 22) W5 (rm_at_z G a b c cb [(99 : Int32), (111 : Int32), (110 : Int32), (102 : Int32), (105 : Int32), (103 : Int32), (117 : Int32), (114 : Int32), (101 : Int32)] S 0 j (by decide) (by omega) ch hch (99 : Int32) rfl) (w_79 G) (w_80 G) (w_74 G) (w_81 G) (by decide) [] [0, 1] (σf := [(a1, c2)]) rfl rfl [(.ref a), (.int (0 : Int32)), (.int (0 : Int32)), (.int j.toInt32), (.int ch)] [(.int (0 : Int32)), (.ref a1)] rfl (lenOf pd_21 rfl) rfl rfl d_method_5_code_19 rfl (by first | exact Nat.le_of_ble_eq_true rfl | (simp; done) | (simp; omega) | omega) (by first | exact Nat.le_of_ble_eq_true rfl | (simp; done) | (simp; omega) | omega) (by first | exact Nat.le_of_ble_eq_true rfl | (simp; done) | (simp; omega) | omega) (by first | exact Nat.le_of_ble_eq_true rfl | (simp; done) | (simp; omega) | omega) ?_
  rintro _ _ _ T6 ⟨rfl, rfl, rfl⟩ W7
  replace W7 : Wk l Z EL1 ({ frames := 5, cells := 3, slots := 22, locals := 73 } : Room) "com/example/grantline/grantline/enforcer/PermissionFromScopeNamePinLaw" method_5_code 6 (some (.object "java/lang/String")) "build" X [(a1, c2)] [(a, c), (b, cb)] T6 1 (9) := W7
  show Go Z EL1 _ _ _ X T6 22 #[.val (.ref a), .val (.int (9 : Int32)), .val (.int (0 : Int32)), .val (.int j.toInt32), .val (.int ch), .val (.ref a1)] [(.int (if 0 = j then ch else (99 : Int32))), (.int (0 : Int32)), (.ref a1)]
  refine Go.castore (pc' := 23) W7 0 rfl A3 0 (if 0 = j then ch else (99 : Int32)) (nar_char_id (lat_char (lat_ite hch (by decide)))) (by decide) (by decide) (by simp) d_method_5_code_22 rfl (fun T8 c10 W9 A11 => ?_)
  replace W9 : Wk l Z EL1 ({ frames := 5, cells := 3, slots := 22, locals := 73 } : Room) "com/example/grantline/grantline/enforcer/PermissionFromScopeNamePinLaw" method_5_code 6 (some (.object "java/lang/String")) "build" X [(a1, c10)] [(a, c), (b, cb)] T8 1 (9) := W9
  replace A11 : ArrC Z c10 .char [(.int (if 0 = j then ch else (99 : Int32))), (.int (0 : Int32)), (.int (0 : Int32)), (.int (0 : Int32)), (.int (0 : Int32)), (.int (0 : Int32)), (.int (0 : Int32)), (.int (0 : Int32)), (.int (0 : Int32))] := A11
  refine Go.iloadN (pc' := 24) W9 d_method_5_code_23 rfl rfl ?_
  refine Go.iconst (pc' := 25) W9 (1 : Int32) d_method_5_code_24 (by decide) rfl ?_
  refine Go.icmp_le (pc' := 28) W9 41 d_method_5_code_25 (by decide) rfl (fun q => absurd (by decide) q) (fun _ => ?_)
  refine Go.aload (pc' := 30) W9 d_method_5_code_28 rfl rfl rfl ?_
  refine Go.iconst (pc' := 31) W9 (1 : Int32) d_method_5_code_30 (by decide) rfl ?_
  refine Go.aloadN (pc' := 32) W9 d_method_5_code_31 rfl rfl rfl ?_
  refine Go.iconst (pc' := 33) W9 (1 : Int32) d_method_5_code_32 (by decide) rfl ?_
  refine Go.iloadN (pc' := 34) W9 d_method_5_code_33 rfl rfl ?_
  refine Go.iloadN (pc' := 35) W9 d_method_5_code_34 rfl rfl ?_
  refine Go.iload (pc' := 37) W9 d_method_5_code_35 rfl rfl ?_
  refine Go.static (pc' := 40) W9 (rm_at_z G a b c cb [(99 : Int32), (111 : Int32), (110 : Int32), (102 : Int32), (105 : Int32), (103 : Int32), (117 : Int32), (114 : Int32), (101 : Int32)] S 1 j (by decide) (by omega) ch hch (111 : Int32) rfl) (w_79 G) (w_80 G) (w_74 G) (w_81 G) (by decide) [] [0, 1] (σf := [(a1, c10)]) rfl rfl [(.ref a), (.int (1 : Int32)), (.int (0 : Int32)), (.int j.toInt32), (.int ch)] [(.int (1 : Int32)), (.ref a1)] rfl (lenOf pd_21 rfl) rfl rfl d_method_5_code_37 rfl (by first | exact Nat.le_of_ble_eq_true rfl | (simp; done) | (simp; omega) | omega) (by first | exact Nat.le_of_ble_eq_true rfl | (simp; done) | (simp; omega) | omega) (by first | exact Nat.le_of_ble_eq_true rfl | (simp; done) | (simp; omega) | omega) (by first | exact Nat.le_of_ble_eq_true rfl | (simp; done) | (simp; omega) | omega) ?_
  rintro _ _ _ T12 ⟨rfl, rfl, rfl⟩ W13
  replace W13 : Wk l Z EL1 ({ frames := 5, cells := 3, slots := 22, locals := 73 } : Room) "com/example/grantline/grantline/enforcer/PermissionFromScopeNamePinLaw" method_5_code 6 (some (.object "java/lang/String")) "build" X [(a1, c10)] [(a, c), (b, cb)] T12 1 (9) := W13
  show Go Z EL1 _ _ _ X T12 40 #[.val (.ref a), .val (.int (9 : Int32)), .val (.int (0 : Int32)), .val (.int j.toInt32), .val (.int ch), .val (.ref a1)] [(.int (if 1 = j then ch else (111 : Int32))), (.int (1 : Int32)), (.ref a1)]
  refine Go.castore (pc' := 41) W13 0 rfl A11 1 (if 1 = j then ch else (111 : Int32)) (nar_char_id (lat_char (lat_ite hch (by decide)))) (by decide) (by decide) (by simp) d_method_5_code_40 rfl (fun T14 c16 W15 A17 => ?_)
  replace W15 : Wk l Z EL1 ({ frames := 5, cells := 3, slots := 22, locals := 73 } : Room) "com/example/grantline/grantline/enforcer/PermissionFromScopeNamePinLaw" method_5_code 6 (some (.object "java/lang/String")) "build" X [(a1, c16)] [(a, c), (b, cb)] T14 1 (9) := W15
  replace A17 : ArrC Z c16 .char [(.int (if 0 = j then ch else (99 : Int32))), (.int (if 1 = j then ch else (111 : Int32))), (.int (0 : Int32)), (.int (0 : Int32)), (.int (0 : Int32)), (.int (0 : Int32)), (.int (0 : Int32)), (.int (0 : Int32)), (.int (0 : Int32))] := A17
  refine Go.iloadN (pc' := 42) W15 d_method_5_code_41 rfl rfl ?_
  refine Go.iconst (pc' := 43) W15 (2 : Int32) d_method_5_code_42 (by decide) rfl ?_
  refine Go.icmp_le (pc' := 46) W15 59 d_method_5_code_43 (by decide) rfl (fun q => absurd (by decide) q) (fun _ => ?_)
  refine Go.aload (pc' := 48) W15 d_method_5_code_46 rfl rfl rfl ?_
  refine Go.iconst (pc' := 49) W15 (2 : Int32) d_method_5_code_48 (by decide) rfl ?_
  refine Go.aloadN (pc' := 50) W15 d_method_5_code_49 rfl rfl rfl ?_
  refine Go.iconst (pc' := 51) W15 (2 : Int32) d_method_5_code_50 (by decide) rfl ?_
  refine Go.iloadN (pc' := 52) W15 d_method_5_code_51 rfl rfl ?_
  refine Go.iloadN (pc' := 53) W15 d_method_5_code_52 rfl rfl ?_
  refine Go.iload (pc' := 55) W15 d_method_5_code_53 rfl rfl ?_
  refine Go.static (pc' := 58) W15 (rm_at_z G a b c cb [(99 : Int32), (111 : Int32), (110 : Int32), (102 : Int32), (105 : Int32), (103 : Int32), (117 : Int32), (114 : Int32), (101 : Int32)] S 2 j (by decide) (by omega) ch hch (110 : Int32) rfl) (w_79 G) (w_80 G) (w_74 G) (w_81 G) (by decide) [] [0, 1] (σf := [(a1, c16)]) rfl rfl [(.ref a), (.int (2 : Int32)), (.int (0 : Int32)), (.int j.toInt32), (.int ch)] [(.int (2 : Int32)), (.ref a1)] rfl (lenOf pd_21 rfl) rfl rfl d_method_5_code_55 rfl (by first | exact Nat.le_of_ble_eq_true rfl | (simp; done) | (simp; omega) | omega) (by first | exact Nat.le_of_ble_eq_true rfl | (simp; done) | (simp; omega) | omega) (by first | exact Nat.le_of_ble_eq_true rfl | (simp; done) | (simp; omega) | omega) (by first | exact Nat.le_of_ble_eq_true rfl | (simp; done) | (simp; omega) | omega) ?_
  rintro _ _ _ T18 ⟨rfl, rfl, rfl⟩ W19
  replace W19 : Wk l Z EL1 ({ frames := 5, cells := 3, slots := 22, locals := 73 } : Room) "com/example/grantline/grantline/enforcer/PermissionFromScopeNamePinLaw" method_5_code 6 (some (.object "java/lang/String")) "build" X [(a1, c16)] [(a, c), (b, cb)] T18 1 (9) := W19
  show Go Z EL1 _ _ _ X T18 58 #[.val (.ref a), .val (.int (9 : Int32)), .val (.int (0 : Int32)), .val (.int j.toInt32), .val (.int ch), .val (.ref a1)] [(.int (if 2 = j then ch else (110 : Int32))), (.int (2 : Int32)), (.ref a1)]
  refine Go.castore (pc' := 59) W19 0 rfl A17 2 (if 2 = j then ch else (110 : Int32)) (nar_char_id (lat_char (lat_ite hch (by decide)))) (by decide) (by decide) (by simp) d_method_5_code_58 rfl (fun T20 c22 W21 A23 => ?_)
  replace W21 : Wk l Z EL1 ({ frames := 5, cells := 3, slots := 22, locals := 73 } : Room) "com/example/grantline/grantline/enforcer/PermissionFromScopeNamePinLaw" method_5_code 6 (some (.object "java/lang/String")) "build" X [(a1, c22)] [(a, c), (b, cb)] T20 1 (9) := W21
  replace A23 : ArrC Z c22 .char [(.int (if 0 = j then ch else (99 : Int32))), (.int (if 1 = j then ch else (111 : Int32))), (.int (if 2 = j then ch else (110 : Int32))), (.int (0 : Int32)), (.int (0 : Int32)), (.int (0 : Int32)), (.int (0 : Int32)), (.int (0 : Int32)), (.int (0 : Int32))] := A23
  refine Go.iloadN (pc' := 60) W21 d_method_5_code_59 rfl rfl ?_
  refine Go.iconst (pc' := 61) W21 (3 : Int32) d_method_5_code_60 (by decide) rfl ?_
  refine Go.icmp_le (pc' := 64) W21 77 d_method_5_code_61 (by decide) rfl (fun q => absurd (by decide) q) (fun _ => ?_)
  refine Go.aload (pc' := 66) W21 d_method_5_code_64 rfl rfl rfl ?_
  refine Go.iconst (pc' := 67) W21 (3 : Int32) d_method_5_code_66 (by decide) rfl ?_
  refine Go.aloadN (pc' := 68) W21 d_method_5_code_67 rfl rfl rfl ?_
  refine Go.iconst (pc' := 69) W21 (3 : Int32) d_method_5_code_68 (by decide) rfl ?_
  refine Go.iloadN (pc' := 70) W21 d_method_5_code_69 rfl rfl ?_
  refine Go.iloadN (pc' := 71) W21 d_method_5_code_70 rfl rfl ?_
  refine Go.iload (pc' := 73) W21 d_method_5_code_71 rfl rfl ?_
  refine Go.static (pc' := 76) W21 (rm_at_z G a b c cb [(99 : Int32), (111 : Int32), (110 : Int32), (102 : Int32), (105 : Int32), (103 : Int32), (117 : Int32), (114 : Int32), (101 : Int32)] S 3 j (by decide) (by omega) ch hch (102 : Int32) rfl) (w_79 G) (w_80 G) (w_74 G) (w_81 G) (by decide) [] [0, 1] (σf := [(a1, c22)]) rfl rfl [(.ref a), (.int (3 : Int32)), (.int (0 : Int32)), (.int j.toInt32), (.int ch)] [(.int (3 : Int32)), (.ref a1)] rfl (lenOf pd_21 rfl) rfl rfl d_method_5_code_73 rfl (by first | exact Nat.le_of_ble_eq_true rfl | (simp; done) | (simp; omega) | omega) (by first | exact Nat.le_of_ble_eq_true rfl | (simp; done) | (simp; omega) | omega) (by first | exact Nat.le_of_ble_eq_true rfl | (simp; done) | (simp; omega) | omega) (by first | exact Nat.le_of_ble_eq_true rfl | (simp; done) | (simp; omega) | omega) ?_
  rintro _ _ _ T24 ⟨rfl, rfl, rfl⟩ W25
  replace W25 : Wk l Z EL1 ({ frames := 5, cells := 3, slots := 22, locals := 73 } : Room) "com/example/grantline/grantline/enforcer/PermissionFromScopeNamePinLaw" method_5_code 6 (some (.object "java/lang/String")) "build" X [(a1, c22)] [(a, c), (b, cb)] T24 1 (9) := W25
  show Go Z EL1 _ _ _ X T24 76 #[.val (.ref a), .val (.int (9 : Int32)), .val (.int (0 : Int32)), .val (.int j.toInt32), .val (.int ch), .val (.ref a1)] [(.int (if 3 = j then ch else (102 : Int32))), (.int (3 : Int32)), (.ref a1)]
  refine Go.castore (pc' := 77) W25 0 rfl A23 3 (if 3 = j then ch else (102 : Int32)) (nar_char_id (lat_char (lat_ite hch (by decide)))) (by decide) (by decide) (by simp) d_method_5_code_76 rfl (fun T26 c28 W27 A29 => ?_)
  replace W27 : Wk l Z EL1 ({ frames := 5, cells := 3, slots := 22, locals := 73 } : Room) "com/example/grantline/grantline/enforcer/PermissionFromScopeNamePinLaw" method_5_code 6 (some (.object "java/lang/String")) "build" X [(a1, c28)] [(a, c), (b, cb)] T26 1 (9) := W27
  replace A29 : ArrC Z c28 .char [(.int (if 0 = j then ch else (99 : Int32))), (.int (if 1 = j then ch else (111 : Int32))), (.int (if 2 = j then ch else (110 : Int32))), (.int (if 3 = j then ch else (102 : Int32))), (.int (0 : Int32)), (.int (0 : Int32)), (.int (0 : Int32)), (.int (0 : Int32)), (.int (0 : Int32))] := A29
  refine Go.iloadN (pc' := 78) W27 d_method_5_code_77 rfl rfl ?_
  refine Go.iconst (pc' := 79) W27 (4 : Int32) d_method_5_code_78 (by decide) rfl ?_
  refine Go.icmp_le (pc' := 82) W27 95 d_method_5_code_79 (by decide) rfl (fun q => absurd (by decide) q) (fun _ => ?_)
  refine Go.aload (pc' := 84) W27 d_method_5_code_82 rfl rfl rfl ?_
  refine Go.iconst (pc' := 85) W27 (4 : Int32) d_method_5_code_84 (by decide) rfl ?_
  refine Go.aloadN (pc' := 86) W27 d_method_5_code_85 rfl rfl rfl ?_
  refine Go.iconst (pc' := 87) W27 (4 : Int32) d_method_5_code_86 (by decide) rfl ?_
  refine Go.iloadN (pc' := 88) W27 d_method_5_code_87 rfl rfl ?_
  refine Go.iloadN (pc' := 89) W27 d_method_5_code_88 rfl rfl ?_
  refine Go.iload (pc' := 91) W27 d_method_5_code_89 rfl rfl ?_
  refine Go.static (pc' := 94) W27 (rm_at_z G a b c cb [(99 : Int32), (111 : Int32), (110 : Int32), (102 : Int32), (105 : Int32), (103 : Int32), (117 : Int32), (114 : Int32), (101 : Int32)] S 4 j (by decide) (by omega) ch hch (105 : Int32) rfl) (w_79 G) (w_80 G) (w_74 G) (w_81 G) (by decide) [] [0, 1] (σf := [(a1, c28)]) rfl rfl [(.ref a), (.int (4 : Int32)), (.int (0 : Int32)), (.int j.toInt32), (.int ch)] [(.int (4 : Int32)), (.ref a1)] rfl (lenOf pd_21 rfl) rfl rfl d_method_5_code_91 rfl (by first | exact Nat.le_of_ble_eq_true rfl | (simp; done) | (simp; omega) | omega) (by first | exact Nat.le_of_ble_eq_true rfl | (simp; done) | (simp; omega) | omega) (by first | exact Nat.le_of_ble_eq_true rfl | (simp; done) | (simp; omega) | omega) (by first | exact Nat.le_of_ble_eq_true rfl | (simp; done) | (simp; omega) | omega) ?_
  rintro _ _ _ T30 ⟨rfl, rfl, rfl⟩ W31
  replace W31 : Wk l Z EL1 ({ frames := 5, cells := 3, slots := 22, locals := 73 } : Room) "com/example/grantline/grantline/enforcer/PermissionFromScopeNamePinLaw" method_5_code 6 (some (.object "java/lang/String")) "build" X [(a1, c28)] [(a, c), (b, cb)] T30 1 (9) := W31
  show Go Z EL1 _ _ _ X T30 94 #[.val (.ref a), .val (.int (9 : Int32)), .val (.int (0 : Int32)), .val (.int j.toInt32), .val (.int ch), .val (.ref a1)] [(.int (if 4 = j then ch else (105 : Int32))), (.int (4 : Int32)), (.ref a1)]
  refine Go.castore (pc' := 95) W31 0 rfl A29 4 (if 4 = j then ch else (105 : Int32)) (nar_char_id (lat_char (lat_ite hch (by decide)))) (by decide) (by decide) (by simp) d_method_5_code_94 rfl (fun T32 c34 W33 A35 => ?_)
  replace W33 : Wk l Z EL1 ({ frames := 5, cells := 3, slots := 22, locals := 73 } : Room) "com/example/grantline/grantline/enforcer/PermissionFromScopeNamePinLaw" method_5_code 6 (some (.object "java/lang/String")) "build" X [(a1, c34)] [(a, c), (b, cb)] T32 1 (9) := W33
  replace A35 : ArrC Z c34 .char [(.int (if 0 = j then ch else (99 : Int32))), (.int (if 1 = j then ch else (111 : Int32))), (.int (if 2 = j then ch else (110 : Int32))), (.int (if 3 = j then ch else (102 : Int32))), (.int (if 4 = j then ch else (105 : Int32))), (.int (0 : Int32)), (.int (0 : Int32)), (.int (0 : Int32)), (.int (0 : Int32))] := A35
  refine Go.iloadN (pc' := 96) W33 d_method_5_code_95 rfl rfl ?_
  refine Go.iconst (pc' := 97) W33 (5 : Int32) d_method_5_code_96 (by decide) rfl ?_
  refine Go.icmp_le (pc' := 100) W33 113 d_method_5_code_97 (by decide) rfl (fun q => absurd (by decide) q) (fun _ => ?_)
  refine Go.aload (pc' := 102) W33 d_method_5_code_100 rfl rfl rfl ?_
  refine Go.iconst (pc' := 103) W33 (5 : Int32) d_method_5_code_102 (by decide) rfl ?_
  refine Go.aloadN (pc' := 104) W33 d_method_5_code_103 rfl rfl rfl ?_
  refine Go.iconst (pc' := 105) W33 (5 : Int32) d_method_5_code_104 (by decide) rfl ?_
  refine Go.iloadN (pc' := 106) W33 d_method_5_code_105 rfl rfl ?_
  refine Go.iloadN (pc' := 107) W33 d_method_5_code_106 rfl rfl ?_
  refine Go.iload (pc' := 109) W33 d_method_5_code_107 rfl rfl ?_
  refine Go.static (pc' := 112) W33 (rm_at_z G a b c cb [(99 : Int32), (111 : Int32), (110 : Int32), (102 : Int32), (105 : Int32), (103 : Int32), (117 : Int32), (114 : Int32), (101 : Int32)] S 5 j (by decide) (by omega) ch hch (103 : Int32) rfl) (w_79 G) (w_80 G) (w_74 G) (w_81 G) (by decide) [] [0, 1] (σf := [(a1, c34)]) rfl rfl [(.ref a), (.int (5 : Int32)), (.int (0 : Int32)), (.int j.toInt32), (.int ch)] [(.int (5 : Int32)), (.ref a1)] rfl (lenOf pd_21 rfl) rfl rfl d_method_5_code_109 rfl (by first | exact Nat.le_of_ble_eq_true rfl | (simp; done) | (simp; omega) | omega) (by first | exact Nat.le_of_ble_eq_true rfl | (simp; done) | (simp; omega) | omega) (by first | exact Nat.le_of_ble_eq_true rfl | (simp; done) | (simp; omega) | omega) (by first | exact Nat.le_of_ble_eq_true rfl | (simp; done) | (simp; omega) | omega) ?_
  rintro _ _ _ T36 ⟨rfl, rfl, rfl⟩ W37
  replace W37 : Wk l Z EL1 ({ frames := 5, cells := 3, slots := 22, locals := 73 } : Room) "com/example/grantline/grantline/enforcer/PermissionFromScopeNamePinLaw" method_5_code 6 (some (.object "java/lang/String")) "build" X [(a1, c34)] [(a, c), (b, cb)] T36 1 (9) := W37
  show Go Z EL1 _ _ _ X T36 112 #[.val (.ref a), .val (.int (9 : Int32)), .val (.int (0 : Int32)), .val (.int j.toInt32), .val (.int ch), .val (.ref a1)] [(.int (if 5 = j then ch else (103 : Int32))), (.int (5 : Int32)), (.ref a1)]
  refine Go.castore (pc' := 113) W37 0 rfl A35 5 (if 5 = j then ch else (103 : Int32)) (nar_char_id (lat_char (lat_ite hch (by decide)))) (by decide) (by decide) (by simp) d_method_5_code_112 rfl (fun T38 c40 W39 A41 => ?_)
  replace W39 : Wk l Z EL1 ({ frames := 5, cells := 3, slots := 22, locals := 73 } : Room) "com/example/grantline/grantline/enforcer/PermissionFromScopeNamePinLaw" method_5_code 6 (some (.object "java/lang/String")) "build" X [(a1, c40)] [(a, c), (b, cb)] T38 1 (9) := W39
  replace A41 : ArrC Z c40 .char [(.int (if 0 = j then ch else (99 : Int32))), (.int (if 1 = j then ch else (111 : Int32))), (.int (if 2 = j then ch else (110 : Int32))), (.int (if 3 = j then ch else (102 : Int32))), (.int (if 4 = j then ch else (105 : Int32))), (.int (if 5 = j then ch else (103 : Int32))), (.int (0 : Int32)), (.int (0 : Int32)), (.int (0 : Int32))] := A41
  refine Go.iloadN (pc' := 114) W39 d_method_5_code_113 rfl rfl ?_
  refine Go.bipush (pc' := 116) W39 (6 : Int32) d_method_5_code_114 (by decide) rfl ?_
  refine Go.icmp_le (pc' := 119) W39 134 d_method_5_code_116 (by decide) rfl (fun q => absurd (by decide) q) (fun _ => ?_)
  refine Go.aload (pc' := 121) W39 d_method_5_code_119 rfl rfl rfl ?_
  refine Go.bipush (pc' := 123) W39 (6 : Int32) d_method_5_code_121 (by decide) rfl ?_
  refine Go.aloadN (pc' := 124) W39 d_method_5_code_123 rfl rfl rfl ?_
  refine Go.bipush (pc' := 126) W39 (6 : Int32) d_method_5_code_124 (by decide) rfl ?_
  refine Go.iloadN (pc' := 127) W39 d_method_5_code_126 rfl rfl ?_
  refine Go.iloadN (pc' := 128) W39 d_method_5_code_127 rfl rfl ?_
  refine Go.iload (pc' := 130) W39 d_method_5_code_128 rfl rfl ?_
  refine Go.static (pc' := 133) W39 (rm_at_z G a b c cb [(99 : Int32), (111 : Int32), (110 : Int32), (102 : Int32), (105 : Int32), (103 : Int32), (117 : Int32), (114 : Int32), (101 : Int32)] S 6 j (by decide) (by omega) ch hch (117 : Int32) rfl) (w_79 G) (w_80 G) (w_74 G) (w_81 G) (by decide) [] [0, 1] (σf := [(a1, c40)]) rfl rfl [(.ref a), (.int (6 : Int32)), (.int (0 : Int32)), (.int j.toInt32), (.int ch)] [(.int (6 : Int32)), (.ref a1)] rfl (lenOf pd_21 rfl) rfl rfl d_method_5_code_130 rfl (by first | exact Nat.le_of_ble_eq_true rfl | (simp; done) | (simp; omega) | omega) (by first | exact Nat.le_of_ble_eq_true rfl | (simp; done) | (simp; omega) | omega) (by first | exact Nat.le_of_ble_eq_true rfl | (simp; done) | (simp; omega) | omega) (by first | exact Nat.le_of_ble_eq_true rfl | (simp; done) | (simp; omega) | omega) ?_
  rintro _ _ _ T42 ⟨rfl, rfl, rfl⟩ W43
  replace W43 : Wk l Z EL1 ({ frames := 5, cells := 3, slots := 22, locals := 73 } : Room) "com/example/grantline/grantline/enforcer/PermissionFromScopeNamePinLaw" method_5_code 6 (some (.object "java/lang/String")) "build" X [(a1, c40)] [(a, c), (b, cb)] T42 1 (9) := W43
  show Go Z EL1 _ _ _ X T42 133 #[.val (.ref a), .val (.int (9 : Int32)), .val (.int (0 : Int32)), .val (.int j.toInt32), .val (.int ch), .val (.ref a1)] [(.int (if 6 = j then ch else (117 : Int32))), (.int (6 : Int32)), (.ref a1)]
  refine Go.castore (pc' := 134) W43 0 rfl A41 6 (if 6 = j then ch else (117 : Int32)) (nar_char_id (lat_char (lat_ite hch (by decide)))) (by decide) (by decide) (by simp) d_method_5_code_133 rfl (fun T44 c46 W45 A47 => ?_)
  replace W45 : Wk l Z EL1 ({ frames := 5, cells := 3, slots := 22, locals := 73 } : Room) "com/example/grantline/grantline/enforcer/PermissionFromScopeNamePinLaw" method_5_code 6 (some (.object "java/lang/String")) "build" X [(a1, c46)] [(a, c), (b, cb)] T44 1 (9) := W45
  replace A47 : ArrC Z c46 .char [(.int (if 0 = j then ch else (99 : Int32))), (.int (if 1 = j then ch else (111 : Int32))), (.int (if 2 = j then ch else (110 : Int32))), (.int (if 3 = j then ch else (102 : Int32))), (.int (if 4 = j then ch else (105 : Int32))), (.int (if 5 = j then ch else (103 : Int32))), (.int (if 6 = j then ch else (117 : Int32))), (.int (0 : Int32)), (.int (0 : Int32))] := A47
  refine Go.iloadN (pc' := 135) W45 d_method_5_code_134 rfl rfl ?_
  refine Go.bipush (pc' := 137) W45 (7 : Int32) d_method_5_code_135 (by decide) rfl ?_
  refine Go.icmp_le (pc' := 140) W45 155 d_method_5_code_137 (by decide) rfl (fun q => absurd (by decide) q) (fun _ => ?_)
  refine Go.aload (pc' := 142) W45 d_method_5_code_140 rfl rfl rfl ?_
  refine Go.bipush (pc' := 144) W45 (7 : Int32) d_method_5_code_142 (by decide) rfl ?_
  refine Go.aloadN (pc' := 145) W45 d_method_5_code_144 rfl rfl rfl ?_
  refine Go.bipush (pc' := 147) W45 (7 : Int32) d_method_5_code_145 (by decide) rfl ?_
  refine Go.iloadN (pc' := 148) W45 d_method_5_code_147 rfl rfl ?_
  refine Go.iloadN (pc' := 149) W45 d_method_5_code_148 rfl rfl ?_
  refine Go.iload (pc' := 151) W45 d_method_5_code_149 rfl rfl ?_
  refine Go.static (pc' := 154) W45 (rm_at_z G a b c cb [(99 : Int32), (111 : Int32), (110 : Int32), (102 : Int32), (105 : Int32), (103 : Int32), (117 : Int32), (114 : Int32), (101 : Int32)] S 7 j (by decide) (by omega) ch hch (114 : Int32) rfl) (w_79 G) (w_80 G) (w_74 G) (w_81 G) (by decide) [] [0, 1] (σf := [(a1, c46)]) rfl rfl [(.ref a), (.int (7 : Int32)), (.int (0 : Int32)), (.int j.toInt32), (.int ch)] [(.int (7 : Int32)), (.ref a1)] rfl (lenOf pd_21 rfl) rfl rfl d_method_5_code_151 rfl (by first | exact Nat.le_of_ble_eq_true rfl | (simp; done) | (simp; omega) | omega) (by first | exact Nat.le_of_ble_eq_true rfl | (simp; done) | (simp; omega) | omega) (by first | exact Nat.le_of_ble_eq_true rfl | (simp; done) | (simp; omega) | omega) (by first | exact Nat.le_of_ble_eq_true rfl | (simp; done) | (simp; omega) | omega) ?_
  rintro _ _ _ T48 ⟨rfl, rfl, rfl⟩ W49
  replace W49 : Wk l Z EL1 ({ frames := 5, cells := 3, slots := 22, locals := 73 } : Room) "com/example/grantline/grantline/enforcer/PermissionFromScopeNamePinLaw" method_5_code 6 (some (.object "java/lang/String")) "build" X [(a1, c46)] [(a, c), (b, cb)] T48 1 (9) := W49
  show Go Z EL1 _ _ _ X T48 154 #[.val (.ref a), .val (.int (9 : Int32)), .val (.int (0 : Int32)), .val (.int j.toInt32), .val (.int ch), .val (.ref a1)] [(.int (if 7 = j then ch else (114 : Int32))), (.int (7 : Int32)), (.ref a1)]
  refine Go.castore (pc' := 155) W49 0 rfl A47 7 (if 7 = j then ch else (114 : Int32)) (nar_char_id (lat_char (lat_ite hch (by decide)))) (by decide) (by decide) (by simp) d_method_5_code_154 rfl (fun T50 c52 W51 A53 => ?_)
  replace W51 : Wk l Z EL1 ({ frames := 5, cells := 3, slots := 22, locals := 73 } : Room) "com/example/grantline/grantline/enforcer/PermissionFromScopeNamePinLaw" method_5_code 6 (some (.object "java/lang/String")) "build" X [(a1, c52)] [(a, c), (b, cb)] T50 1 (9) := W51
  replace A53 : ArrC Z c52 .char [(.int (if 0 = j then ch else (99 : Int32))), (.int (if 1 = j then ch else (111 : Int32))), (.int (if 2 = j then ch else (110 : Int32))), (.int (if 3 = j then ch else (102 : Int32))), (.int (if 4 = j then ch else (105 : Int32))), (.int (if 5 = j then ch else (103 : Int32))), (.int (if 6 = j then ch else (117 : Int32))), (.int (if 7 = j then ch else (114 : Int32))), (.int (0 : Int32))] := A53
  refine Go.iloadN (pc' := 156) W51 d_method_5_code_155 rfl rfl ?_
  refine Go.bipush (pc' := 158) W51 (8 : Int32) d_method_5_code_156 (by decide) rfl ?_
  refine Go.icmp_le (pc' := 161) W51 176 d_method_5_code_158 (by decide) rfl (fun q => absurd (by decide) q) (fun _ => ?_)
  refine Go.aload (pc' := 163) W51 d_method_5_code_161 rfl rfl rfl ?_
  refine Go.bipush (pc' := 165) W51 (8 : Int32) d_method_5_code_163 (by decide) rfl ?_
  refine Go.aloadN (pc' := 166) W51 d_method_5_code_165 rfl rfl rfl ?_
  refine Go.bipush (pc' := 168) W51 (8 : Int32) d_method_5_code_166 (by decide) rfl ?_
  refine Go.iloadN (pc' := 169) W51 d_method_5_code_168 rfl rfl ?_
  refine Go.iloadN (pc' := 170) W51 d_method_5_code_169 rfl rfl ?_
  refine Go.iload (pc' := 172) W51 d_method_5_code_170 rfl rfl ?_
  refine Go.static (pc' := 175) W51 (rm_at_z G a b c cb [(99 : Int32), (111 : Int32), (110 : Int32), (102 : Int32), (105 : Int32), (103 : Int32), (117 : Int32), (114 : Int32), (101 : Int32)] S 8 j (by decide) (by omega) ch hch (101 : Int32) rfl) (w_79 G) (w_80 G) (w_74 G) (w_81 G) (by decide) [] [0, 1] (σf := [(a1, c52)]) rfl rfl [(.ref a), (.int (8 : Int32)), (.int (0 : Int32)), (.int j.toInt32), (.int ch)] [(.int (8 : Int32)), (.ref a1)] rfl (lenOf pd_21 rfl) rfl rfl d_method_5_code_172 rfl (by first | exact Nat.le_of_ble_eq_true rfl | (simp; done) | (simp; omega) | omega) (by first | exact Nat.le_of_ble_eq_true rfl | (simp; done) | (simp; omega) | omega) (by first | exact Nat.le_of_ble_eq_true rfl | (simp; done) | (simp; omega) | omega) (by first | exact Nat.le_of_ble_eq_true rfl | (simp; done) | (simp; omega) | omega) ?_
  rintro _ _ _ T54 ⟨rfl, rfl, rfl⟩ W55
  replace W55 : Wk l Z EL1 ({ frames := 5, cells := 3, slots := 22, locals := 73 } : Room) "com/example/grantline/grantline/enforcer/PermissionFromScopeNamePinLaw" method_5_code 6 (some (.object "java/lang/String")) "build" X [(a1, c52)] [(a, c), (b, cb)] T54 1 (9) := W55
  show Go Z EL1 _ _ _ X T54 175 #[.val (.ref a), .val (.int (9 : Int32)), .val (.int (0 : Int32)), .val (.int j.toInt32), .val (.int ch), .val (.ref a1)] [(.int (if 8 = j then ch else (101 : Int32))), (.int (8 : Int32)), (.ref a1)]
  refine Go.castore (pc' := 176) W55 0 rfl A53 8 (if 8 = j then ch else (101 : Int32)) (nar_char_id (lat_char (lat_ite hch (by decide)))) (by decide) (by decide) (by simp) d_method_5_code_175 rfl (fun T56 c58 W57 A59 => ?_)
  replace W57 : Wk l Z EL1 ({ frames := 5, cells := 3, slots := 22, locals := 73 } : Room) "com/example/grantline/grantline/enforcer/PermissionFromScopeNamePinLaw" method_5_code 6 (some (.object "java/lang/String")) "build" X [(a1, c58)] [(a, c), (b, cb)] T56 1 (9) := W57
  replace A59 : ArrC Z c58 .char [(.int (if 0 = j then ch else (99 : Int32))), (.int (if 1 = j then ch else (111 : Int32))), (.int (if 2 = j then ch else (110 : Int32))), (.int (if 3 = j then ch else (102 : Int32))), (.int (if 4 = j then ch else (105 : Int32))), (.int (if 5 = j then ch else (103 : Int32))), (.int (if 6 = j then ch else (117 : Int32))), (.int (if 7 = j then ch else (114 : Int32))), (.int (if 8 = j then ch else (101 : Int32)))] := A59
  refine Go.iloadN (pc' := 177) W57 d_method_5_code_176 rfl rfl ?_
  refine Go.bipush (pc' := 179) W57 (9 : Int32) d_method_5_code_177 (by decide) rfl ?_
  refine Go.icmp_le (pc' := 182) W57 197 d_method_5_code_179 (by decide) rfl (fun _ => ?_) (fun q => absurd q (by decide))
  refine Go.new (pc' := 200) W57 (w_54 G) (w_3 G) (w_2 G) d_method_5_code_197 rfl (by first | exact Nat.le_of_ble_eq_true rfl | (simp; done) | (simp; omega) | omega) (by first | exact Nat.le_of_ble_eq_true rfl | (simp; done) | (simp; omega) | omega) (fun T60 a62 c63 W61 O64 D65 => ?_)
  replace W61 : Wk l Z EL1 ({ frames := 5, cells := 3, slots := 22, locals := 73 } : Room) "com/example/grantline/grantline/enforcer/PermissionFromScopeNamePinLaw" method_5_code 6 (some (.object "java/lang/String")) "build" X [(a62, c63), (a1, c58)] [(a, c), (b, cb)] T60 2 (13) := W61
  have F66 : FldC Z c63 "java/lang/String" "value" "[B" (.null) := D65 (Or.inr (w_5 G)) (ty := (.array .byte)) (by decide)
  have F67 : FldC Z c63 "java/lang/String" "coder" "B" (.int (0 : Int32)) := D65 (Or.inr (w_6 G)) (ty := .byte) (by decide)
  refine Go.dup (pc' := 201) W61 d_method_5_code_200 rfl rfl ?_
  refine Go.aload (pc' := 203) W61 d_method_5_code_201 rfl rfl rfl ?_
  refine Go.special (pc' := 206) W61 (a := a62) (rm_initC G a62 a1 c63 c58 [if 0 = j then ch else (99 : Int32), if 1 = j then ch else (111 : Int32), if 2 = j then ch else (110 : Int32), if 3 = j then ch else (102 : Int32), if 4 = j then ch else (105 : Int32), if 5 = j then ch else (103 : Int32), if 6 = j then ch else (117 : Int32), if 7 = j then ch else (114 : Int32), if 8 = j then ch else (101 : Int32)] A59 O64 F67 F66 (Lat.cons (lat_ite hch (by decide)) (Lat.cons (lat_ite hch (by decide)) (Lat.cons (lat_ite hch (by decide)) (Lat.cons (lat_ite hch (by decide)) (Lat.cons (lat_ite hch (by decide)) (Lat.cons (lat_ite hch (by decide)) (Lat.cons (lat_ite hch (by decide)) (Lat.cons (lat_ite hch (by decide)) (Lat.cons (lat_ite hch (by decide)) Lat.nil))))))))) (by simp) (show ¬ (9 : Nat).toInt32 = 0 by decide)) rfl (w_56 G) (w_57 G) (w_2 G) (w_58 G) (by decide) [0, 0] [] (σf := []) rfl rfl [(.ref a1)] [(.ref a62)] rfl (lenOf pd_22 rfl) rfl rfl d_method_5_code_203 rfl (by first | exact Nat.le_of_ble_eq_true rfl | (simp; done) | (simp; omega) | omega) (by first | exact Nat.le_of_ble_eq_true rfl | (simp; done) | (simp; omega) | omega) (by first | exact Nat.le_of_ble_eq_true rfl | (simp; done) | (simp; omega) | omega) (by first | exact Nat.le_of_ble_eq_true rfl | (simp; done) | (simp; omega) | omega) ?_
  rintro _ _ _ T72 ⟨c68, b69, c70, rfl, rfl, rfl, S71⟩ W73
  replace W73 : Wk l Z EL1 ({ frames := 5, cells := 3, slots := 22, locals := 73 } : Room) "com/example/grantline/grantline/enforcer/PermissionFromScopeNamePinLaw" method_5_code 6 (some (.object "java/lang/String")) "build" X [(a1, c58)] [(a62, c68), (b69, c70), (a, c), (b, cb)] T72 3 (22) := W73
  show Go Z EL1 _ _ _ X T72 206 #[.val (.ref a), .val (.int (9 : Int32)), .val (.int (0 : Int32)), .val (.int j.toInt32), .val (.int ch), .val (.ref a1)] [(.ref a62)]
  have W74 := W73.drop [0] (σi := [(a1, c58)]) (σf := []) rfl
  replace W74 : Wk l Z EL1 ({ frames := 5, cells := 3, slots := 22, locals := 73 } : Room) "com/example/grantline/grantline/enforcer/PermissionFromScopeNamePinLaw" method_5_code 6 (some (.object "java/lang/String")) "build" X [] [(a62, c68), (b69, c70), (a, c), (b, cb)] T72 3 (22) := W74
  have W75 := W74.keepRo [0, 1] (ρ' := [(a62, c68), (b69, c70)]) rfl
  replace W75 : Wk l Z EL1 ({ frames := 5, cells := 3, slots := 22, locals := 73 } : Room) "com/example/grantline/grantline/enforcer/PermissionFromScopeNamePinLaw" method_5_code 6 (some (.object "java/lang/String")) "build" X [] [(a62, c68), (b69, c70)] T72 3 (22) := W75
  refine Go.aret W75 rfl rfl d_method_5_code_206 (by first | exact Nat.le_of_ble_eq_true rfl | (simp; done) | (simp; omega) | omega) (by first | exact Nat.le_of_ble_eq_true rfl | (simp; done) | (simp; omega) | omega) ?_
  exact ⟨a62, c68, b69, c70, rfl, rfl, rfl, S71⟩
theorem d_method_5_code_182 : decode method_5_code 182 = .ok (.aload 5, 2) := by decide +kernel
theorem d_method_5_code_184 : decode method_5_code 184 = .ok (.bipush 9, 2) := by decide +kernel
theorem d_method_5_code_186 : decode method_5_code 186 = .ok (.aload_n 0, 1) := by decide +kernel
theorem d_method_5_code_187 : decode method_5_code 187 = .ok (.bipush 9, 2) := by decide +kernel
theorem d_method_5_code_189 : decode method_5_code 189 = .ok (.iload_n 2, 1) := by decide +kernel
theorem d_method_5_code_190 : decode method_5_code 190 = .ok (.iload_n 3, 1) := by decide +kernel
theorem d_method_5_code_191 : decode method_5_code 191 = .ok (.iload 4, 2) := by decide +kernel
theorem d_method_5_code_193 : decode method_5_code 193 = .ok (.invokestatic 53, 3) := by decide +kernel
theorem d_method_5_code_196 : decode method_5_code 196 = .ok (.castore, 1) := by decide +kernel
set_option maxRecDepth 65536 in
set_option maxHeartbeats 40000000 in
theorem rm_build_configureo {l : Launch} {Z : State} {a0 : Array Value} (G : Cl Z a0) (a b : Addr) (c cb : Cell) (S : StrL Z c b cb [(99 : Int32), (111 : Int32), (110 : Int32), (102 : Int32), (105 : Int32), (103 : Int32), (117 : Int32), (114 : Int32), (101 : Int32)]) (j : Nat) (hj : j < 9) (ch : Int32) (hch : ¬ ch < 0 ∧ ¬ (255 : Int32) < ch) :
    Met l Z EL1 (⟨"com/example/grantline/grantline/enforcer/PermissionFromScopeNamePinLaw", "build", "(Ljava/lang/String;IIIC)Ljava/lang/String;"⟩ : MethodName) method_5_code 6 (some (.object "java/lang/String")) ({ frames := 5, cells := 3, slots := 24, locals := 73 } : Room) #[.ref a, .int (10 : Int32), .int (1 : Int32), .int j.toInt32, .int ch] [] [(a, c), (b, cb)] (fun v σ ρ => ∃ a c b cb, v = some (.ref a) ∧ σ = [] ∧ ρ = [(a, c), (b, cb)] ∧ StrL Z c b cb [(99 : Int32), (111 : Int32), (110 : Int32), (102 : Int32), (105 : Int32), (103 : Int32), (117 : Int32), (114 : Int32), (101 : Int32), ch]) := by
  refine Met.walk G.2.1 pn_17 #[.val (.ref a), .val (.int (10 : Int32)), .val (.int (1 : Int32)), .val (.int j.toInt32), .val (.int ch), .unset] (fun m => by first | (simp [entryFrame, mkF, argsToLocals, Value.category]; done) | rfl) ?_
  intro X T0 W0
  refine Go.iloadN (pc' := 1) W0 d_method_5_code_0 rfl rfl ?_
  refine Go.static (pc' := 4) W0 (rm_newArr_K G) (w_76 G) (w_77 G) (w_74 G) (w_78 G) (by decide) [] [] (σf := []) rfl rfl [(.int (10 : Int32))] [] rfl (lenOf pd_20 rfl) rfl rfl d_method_5_code_1 rfl (by first | exact Nat.le_of_ble_eq_true rfl | (simp; done) | (simp; omega) | omega) (by first | exact Nat.le_of_ble_eq_true rfl | (simp; done) | (simp; omega) | omega) (by first | exact Nat.le_of_ble_eq_true rfl | (simp; done) | (simp; omega) | omega) (by first | exact Nat.le_of_ble_eq_true rfl | (simp; done) | (simp; omega) | omega) ?_
  rintro _ _ _ T4 ⟨a1, c2, rfl, rfl, rfl, A3⟩ W5
  replace W5 : Wk l Z EL1 ({ frames := 5, cells := 3, slots := 24, locals := 73 } : Room) "com/example/grantline/grantline/enforcer/PermissionFromScopeNamePinLaw" method_5_code 6 (some (.object "java/lang/String")) "build" X [(a1, c2)] [(a, c), (b, cb)] T4 1 (10) := W5
  show Go Z EL1 _ _ _ X T4 4 #[.val (.ref a), .val (.int (10 : Int32)), .val (.int (1 : Int32)), .val (.int j.toInt32), .val (.int ch), .unset] [(.ref a1)]
  refine Go.astore (pc' := 6) W5 #[.val (.ref a), .val (.int (10 : Int32)), .val (.int (1 : Int32)), .val (.int j.toInt32), .val (.int ch), .val (.ref a1)] d_method_5_code_4 rfl rfl rfl ?_
  refine Go.iloadN (pc' := 7) W5 d_method_5_code_6 rfl rfl ?_
  refine Go.if_le (pc' := 10) W5 23 d_method_5_code_7 (by decide) rfl (fun q => absurd (by decide) q) (fun _ => ?_)
  refine Go.aload (pc' := 12) W5 d_method_5_code_10 rfl rfl rfl ?_
  refine Go.iconst (pc' := 13) W5 (0 : Int32) d_method_5_code_12 (by decide) rfl ?_
  refine Go.aloadN (pc' := 14) W5 d_method_5_code_13 rfl rfl rfl ?_
  refine Go.iconst (pc' := 15) W5 (0 : Int32) d_method_5_code_14 (by decide) rfl ?_
  refine Go.iloadN (pc' := 16) W5 d_method_5_code_15 rfl rfl ?_
  refine Go.iloadN (pc' := 17) W5 d_method_5_code_16 rfl rfl ?_
  refine Go.iload (pc' := 19) W5 d_method_5_code_17 rfl rfl ?_
  refine Go.static (pc' := 22) W5 (rm_at_o G a b c cb [(99 : Int32), (111 : Int32), (110 : Int32), (102 : Int32), (105 : Int32), (103 : Int32), (117 : Int32), (114 : Int32), (101 : Int32)] S 0 j (by decide) (by omega) ch hch (99 : Int32) rfl) (w_79 G) (w_80 G) (w_74 G) (w_81 G) (by decide) [] [0, 1] (σf := [(a1, c2)]) rfl rfl [(.ref a), (.int (0 : Int32)), (.int (1 : Int32)), (.int j.toInt32), (.int ch)] [(.int (0 : Int32)), (.ref a1)] rfl (lenOf pd_21 rfl) rfl rfl d_method_5_code_19 rfl (by first | exact Nat.le_of_ble_eq_true rfl | (simp; done) | (simp; omega) | omega) (by first | exact Nat.le_of_ble_eq_true rfl | (simp; done) | (simp; omega) | omega) (by first | exact Nat.le_of_ble_eq_true rfl | (simp; done) | (simp; omega) | omega) (by first | exact Nat.le_of_ble_eq_true rfl | (simp; done) | (simp; omega) | omega) ?_
  rintro _ _ _ T6 ⟨rfl, rfl, rfl⟩ W7
  replace W7 : Wk l Z EL1 ({ frames := 5, cells := 3, slots := 24, locals := 73 } : Room) "com/example/grantline/grantline/enforcer/PermissionFromScopeNamePinLaw" method_5_code 6 (some (.object "java/lang/String")) "build" X [(a1, c2)] [(a, c), (b, cb)] T6 1 (10) := W7
  show Go Z EL1 _ _ _ X T6 22 #[.val (.ref a), .val (.int (10 : Int32)), .val (.int (1 : Int32)), .val (.int j.toInt32), .val (.int ch), .val (.ref a1)] [(.int (99 : Int32)), (.int (0 : Int32)), (.ref a1)]
  refine Go.castore (pc' := 23) W7 0 rfl A3 0 (99 : Int32) (nar_char_id (lat_char (by decide))) (by decide) (by decide) (by simp) d_method_5_code_22 rfl (fun T8 c10 W9 A11 => ?_)
  replace W9 : Wk l Z EL1 ({ frames := 5, cells := 3, slots := 24, locals := 73 } : Room) "com/example/grantline/grantline/enforcer/PermissionFromScopeNamePinLaw" method_5_code 6 (some (.object "java/lang/String")) "build" X [(a1, c10)] [(a, c), (b, cb)] T8 1 (10) := W9
  replace A11 : ArrC Z c10 .char [(.int (99 : Int32)), (.int (0 : Int32)), (.int (0 : Int32)), (.int (0 : Int32)), (.int (0 : Int32)), (.int (0 : Int32)), (.int (0 : Int32)), (.int (0 : Int32)), (.int (0 : Int32)), (.int (0 : Int32))] := A11
  refine Go.iloadN (pc' := 24) W9 d_method_5_code_23 rfl rfl ?_
  refine Go.iconst (pc' := 25) W9 (1 : Int32) d_method_5_code_24 (by decide) rfl ?_
  refine Go.icmp_le (pc' := 28) W9 41 d_method_5_code_25 (by decide) rfl (fun q => absurd (by decide) q) (fun _ => ?_)
  refine Go.aload (pc' := 30) W9 d_method_5_code_28 rfl rfl rfl ?_
  refine Go.iconst (pc' := 31) W9 (1 : Int32) d_method_5_code_30 (by decide) rfl ?_
  refine Go.aloadN (pc' := 32) W9 d_method_5_code_31 rfl rfl rfl ?_
  refine Go.iconst (pc' := 33) W9 (1 : Int32) d_method_5_code_32 (by decide) rfl ?_
  refine Go.iloadN (pc' := 34) W9 d_method_5_code_33 rfl rfl ?_
  refine Go.iloadN (pc' := 35) W9 d_method_5_code_34 rfl rfl ?_
  refine Go.iload (pc' := 37) W9 d_method_5_code_35 rfl rfl ?_
  refine Go.static (pc' := 40) W9 (rm_at_o G a b c cb [(99 : Int32), (111 : Int32), (110 : Int32), (102 : Int32), (105 : Int32), (103 : Int32), (117 : Int32), (114 : Int32), (101 : Int32)] S 1 j (by decide) (by omega) ch hch (111 : Int32) rfl) (w_79 G) (w_80 G) (w_74 G) (w_81 G) (by decide) [] [0, 1] (σf := [(a1, c10)]) rfl rfl [(.ref a), (.int (1 : Int32)), (.int (1 : Int32)), (.int j.toInt32), (.int ch)] [(.int (1 : Int32)), (.ref a1)] rfl (lenOf pd_21 rfl) rfl rfl d_method_5_code_37 rfl (by first | exact Nat.le_of_ble_eq_true rfl | (simp; done) | (simp; omega) | omega) (by first | exact Nat.le_of_ble_eq_true rfl | (simp; done) | (simp; omega) | omega) (by first | exact Nat.le_of_ble_eq_true rfl | (simp; done) | (simp; omega) | omega) (by first | exact Nat.le_of_ble_eq_true rfl | (simp; done) | (simp; omega) | omega) ?_
  rintro _ _ _ T12 ⟨rfl, rfl, rfl⟩ W13
  replace W13 : Wk l Z EL1 ({ frames := 5, cells := 3, slots := 24, locals := 73 } : Room) "com/example/grantline/grantline/enforcer/PermissionFromScopeNamePinLaw" method_5_code 6 (some (.object "java/lang/String")) "build" X [(a1, c10)] [(a, c), (b, cb)] T12 1 (10) := W13
  show Go Z EL1 _ _ _ X T12 40 #[.val (.ref a), .val (.int (10 : Int32)), .val (.int (1 : Int32)), .val (.int j.toInt32), .val (.int ch), .val (.ref a1)] [(.int (111 : Int32)), (.int (1 : Int32)), (.ref a1)]
  refine Go.castore (pc' := 41) W13 0 rfl A11 1 (111 : Int32) (nar_char_id (lat_char (by decide))) (by decide) (by decide) (by simp) d_method_5_code_40 rfl (fun T14 c16 W15 A17 => ?_)
  replace W15 : Wk l Z EL1 ({ frames := 5, cells := 3, slots := 24, locals := 73 } : Room) "com/example/grantline/grantline/enforcer/PermissionFromScopeNamePinLaw" method_5_code 6 (some (.object "java/lang/String")) "build" X [(a1, c16)] [(a, c), (b, cb)] T14 1 (10) := W15
  replace A17 : ArrC Z c16 .char [(.int (99 : Int32)), (.int (111 : Int32)), (.int (0 : Int32)), (.int (0 : Int32)), (.int (0 : Int32)), (.int (0 : Int32)), (.int (0 : Int32)), (.int (0 : Int32)), (.int (0 : Int32)), (.int (0 : Int32))] := A17
  refine Go.iloadN (pc' := 42) W15 d_method_5_code_41 rfl rfl ?_
  refine Go.iconst (pc' := 43) W15 (2 : Int32) d_method_5_code_42 (by decide) rfl ?_
  refine Go.icmp_le (pc' := 46) W15 59 d_method_5_code_43 (by decide) rfl (fun q => absurd (by decide) q) (fun _ => ?_)
  refine Go.aload (pc' := 48) W15 d_method_5_code_46 rfl rfl rfl ?_
  refine Go.iconst (pc' := 49) W15 (2 : Int32) d_method_5_code_48 (by decide) rfl ?_
  refine Go.aloadN (pc' := 50) W15 d_method_5_code_49 rfl rfl rfl ?_
  refine Go.iconst (pc' := 51) W15 (2 : Int32) d_method_5_code_50 (by decide) rfl ?_
  refine Go.iloadN (pc' := 52) W15 d_method_5_code_51 rfl rfl ?_
  refine Go.iloadN (pc' := 53) W15 d_method_5_code_52 rfl rfl ?_
  refine Go.iload (pc' := 55) W15 d_method_5_code_53 rfl rfl ?_
  refine Go.static (pc' := 58) W15 (rm_at_o G a b c cb [(99 : Int32), (111 : Int32), (110 : Int32), (102 : Int32), (105 : Int32), (103 : Int32), (117 : Int32), (114 : Int32), (101 : Int32)] S 2 j (by decide) (by omega) ch hch (110 : Int32) rfl) (w_79 G) (w_80 G) (w_74 G) (w_81 G) (by decide) [] [0, 1] (σf := [(a1, c16)]) rfl rfl [(.ref a), (.int (2 : Int32)), (.int (1 : Int32)), (.int j.toInt32), (.int ch)] [(.int (2 : Int32)), (.ref a1)] rfl (lenOf pd_21 rfl) rfl rfl d_method_5_code_55 rfl (by first | exact Nat.le_of_ble_eq_true rfl | (simp; done) | (simp; omega) | omega) (by first | exact Nat.le_of_ble_eq_true rfl | (simp; done) | (simp; omega) | omega) (by first | exact Nat.le_of_ble_eq_true rfl | (simp; done) | (simp; omega) | omega) (by first | exact Nat.le_of_ble_eq_true rfl | (simp; done) | (simp; omega) | omega) ?_
  rintro _ _ _ T18 ⟨rfl, rfl, rfl⟩ W19
  replace W19 : Wk l Z EL1 ({ frames := 5, cells := 3, slots := 24, locals := 73 } : Room) "com/example/grantline/grantline/enforcer/PermissionFromScopeNamePinLaw" method_5_code 6 (some (.object "java/lang/String")) "build" X [(a1, c16)] [(a, c), (b, cb)] T18 1 (10) := W19
  show Go Z EL1 _ _ _ X T18 58 #[.val (.ref a), .val (.int (10 : Int32)), .val (.int (1 : Int32)), .val (.int j.toInt32), .val (.int ch), .val (.ref a1)] [(.int (110 : Int32)), (.int (2 : Int32)), (.ref a1)]
  refine Go.castore (pc' := 59) W19 0 rfl A17 2 (110 : Int32) (nar_char_id (lat_char (by decide))) (by decide) (by decide) (by simp) d_method_5_code_58 rfl (fun T20 c22 W21 A23 => ?_)
  replace W21 : Wk l Z EL1 ({ frames := 5, cells := 3, slots := 24, locals := 73 } : Room) "com/example/grantline/grantline/enforcer/PermissionFromScopeNamePinLaw" method_5_code 6 (some (.object "java/lang/String")) "build" X [(a1, c22)] [(a, c), (b, cb)] T20 1 (10) := W21
  replace A23 : ArrC Z c22 .char [(.int (99 : Int32)), (.int (111 : Int32)), (.int (110 : Int32)), (.int (0 : Int32)), (.int (0 : Int32)), (.int (0 : Int32)), (.int (0 : Int32)), (.int (0 : Int32)), (.int (0 : Int32)), (.int (0 : Int32))] := A23
  refine Go.iloadN (pc' := 60) W21 d_method_5_code_59 rfl rfl ?_
  refine Go.iconst (pc' := 61) W21 (3 : Int32) d_method_5_code_60 (by decide) rfl ?_
  refine Go.icmp_le (pc' := 64) W21 77 d_method_5_code_61 (by decide) rfl (fun q => absurd (by decide) q) (fun _ => ?_)
  refine Go.aload (pc' := 66) W21 d_method_5_code_64 rfl rfl rfl ?_
  refine Go.iconst (pc' := 67) W21 (3 : Int32) d_method_5_code_66 (by decide) rfl ?_
  refine Go.aloadN (pc' := 68) W21 d_method_5_code_67 rfl rfl rfl ?_
  refine Go.iconst (pc' := 69) W21 (3 : Int32) d_method_5_code_68 (by decide) rfl ?_
  refine Go.iloadN (pc' := 70) W21 d_method_5_code_69 rfl rfl ?_
  refine Go.iloadN (pc' := 71) W21 d_method_5_code_70 rfl rfl ?_
  refine Go.iload (pc' := 73) W21 d_method_5_code_71 rfl rfl ?_
  refine Go.static (pc' := 76) W21 (rm_at_o G a b c cb [(99 : Int32), (111 : Int32), (110 : Int32), (102 : Int32), (105 : Int32), (103 : Int32), (117 : Int32), (114 : Int32), (101 : Int32)] S 3 j (by decide) (by omega) ch hch (102 : Int32) rfl) (w_79 G) (w_80 G) (w_74 G) (w_81 G) (by decide) [] [0, 1] (σf := [(a1, c22)]) rfl rfl [(.ref a), (.int (3 : Int32)), (.int (1 : Int32)), (.int j.toInt32), (.int ch)] [(.int (3 : Int32)), (.ref a1)] rfl (lenOf pd_21 rfl) rfl rfl d_method_5_code_73 rfl (by first | exact Nat.le_of_ble_eq_true rfl | (simp; done) | (simp; omega) | omega) (by first | exact Nat.le_of_ble_eq_true rfl | (simp; done) | (simp; omega) | omega) (by first | exact Nat.le_of_ble_eq_true rfl | (simp; done) | (simp; omega) | omega) (by first | exact Nat.le_of_ble_eq_true rfl | (simp; done) | (simp; omega) | omega) ?_
  rintro _ _ _ T24 ⟨rfl, rfl, rfl⟩ W25
  replace W25 : Wk l Z EL1 ({ frames := 5, cells := 3, slots := 24, locals := 73 } : Room) "com/example/grantline/grantline/enforcer/PermissionFromScopeNamePinLaw" method_5_code 6 (some (.object "java/lang/String")) "build" X [(a1, c22)] [(a, c), (b, cb)] T24 1 (10) := W25
  show Go Z EL1 _ _ _ X T24 76 #[.val (.ref a), .val (.int (10 : Int32)), .val (.int (1 : Int32)), .val (.int j.toInt32), .val (.int ch), .val (.ref a1)] [(.int (102 : Int32)), (.int (3 : Int32)), (.ref a1)]
  refine Go.castore (pc' := 77) W25 0 rfl A23 3 (102 : Int32) (nar_char_id (lat_char (by decide))) (by decide) (by decide) (by simp) d_method_5_code_76 rfl (fun T26 c28 W27 A29 => ?_)
  replace W27 : Wk l Z EL1 ({ frames := 5, cells := 3, slots := 24, locals := 73 } : Room) "com/example/grantline/grantline/enforcer/PermissionFromScopeNamePinLaw" method_5_code 6 (some (.object "java/lang/String")) "build" X [(a1, c28)] [(a, c), (b, cb)] T26 1 (10) := W27
  replace A29 : ArrC Z c28 .char [(.int (99 : Int32)), (.int (111 : Int32)), (.int (110 : Int32)), (.int (102 : Int32)), (.int (0 : Int32)), (.int (0 : Int32)), (.int (0 : Int32)), (.int (0 : Int32)), (.int (0 : Int32)), (.int (0 : Int32))] := A29
  refine Go.iloadN (pc' := 78) W27 d_method_5_code_77 rfl rfl ?_
  refine Go.iconst (pc' := 79) W27 (4 : Int32) d_method_5_code_78 (by decide) rfl ?_
  refine Go.icmp_le (pc' := 82) W27 95 d_method_5_code_79 (by decide) rfl (fun q => absurd (by decide) q) (fun _ => ?_)
  refine Go.aload (pc' := 84) W27 d_method_5_code_82 rfl rfl rfl ?_
  refine Go.iconst (pc' := 85) W27 (4 : Int32) d_method_5_code_84 (by decide) rfl ?_
  refine Go.aloadN (pc' := 86) W27 d_method_5_code_85 rfl rfl rfl ?_
  refine Go.iconst (pc' := 87) W27 (4 : Int32) d_method_5_code_86 (by decide) rfl ?_
  refine Go.iloadN (pc' := 88) W27 d_method_5_code_87 rfl rfl ?_
  refine Go.iloadN (pc' := 89) W27 d_method_5_code_88 rfl rfl ?_
  refine Go.iload (pc' := 91) W27 d_method_5_code_89 rfl rfl ?_
  refine Go.static (pc' := 94) W27 (rm_at_o G a b c cb [(99 : Int32), (111 : Int32), (110 : Int32), (102 : Int32), (105 : Int32), (103 : Int32), (117 : Int32), (114 : Int32), (101 : Int32)] S 4 j (by decide) (by omega) ch hch (105 : Int32) rfl) (w_79 G) (w_80 G) (w_74 G) (w_81 G) (by decide) [] [0, 1] (σf := [(a1, c28)]) rfl rfl [(.ref a), (.int (4 : Int32)), (.int (1 : Int32)), (.int j.toInt32), (.int ch)] [(.int (4 : Int32)), (.ref a1)] rfl (lenOf pd_21 rfl) rfl rfl d_method_5_code_91 rfl (by first | exact Nat.le_of_ble_eq_true rfl | (simp; done) | (simp; omega) | omega) (by first | exact Nat.le_of_ble_eq_true rfl | (simp; done) | (simp; omega) | omega) (by first | exact Nat.le_of_ble_eq_true rfl | (simp; done) | (simp; omega) | omega) (by first | exact Nat.le_of_ble_eq_true rfl | (simp; done) | (simp; omega) | omega) ?_
  rintro _ _ _ T30 ⟨rfl, rfl, rfl⟩ W31
  replace W31 : Wk l Z EL1 ({ frames := 5, cells := 3, slots := 24, locals := 73 } : Room) "com/example/grantline/grantline/enforcer/PermissionFromScopeNamePinLaw" method_5_code 6 (some (.object "java/lang/String")) "build" X [(a1, c28)] [(a, c), (b, cb)] T30 1 (10) := W31
  show Go Z EL1 _ _ _ X T30 94 #[.val (.ref a), .val (.int (10 : Int32)), .val (.int (1 : Int32)), .val (.int j.toInt32), .val (.int ch), .val (.ref a1)] [(.int (105 : Int32)), (.int (4 : Int32)), (.ref a1)]
  refine Go.castore (pc' := 95) W31 0 rfl A29 4 (105 : Int32) (nar_char_id (lat_char (by decide))) (by decide) (by decide) (by simp) d_method_5_code_94 rfl (fun T32 c34 W33 A35 => ?_)
  replace W33 : Wk l Z EL1 ({ frames := 5, cells := 3, slots := 24, locals := 73 } : Room) "com/example/grantline/grantline/enforcer/PermissionFromScopeNamePinLaw" method_5_code 6 (some (.object "java/lang/String")) "build" X [(a1, c34)] [(a, c), (b, cb)] T32 1 (10) := W33
  replace A35 : ArrC Z c34 .char [(.int (99 : Int32)), (.int (111 : Int32)), (.int (110 : Int32)), (.int (102 : Int32)), (.int (105 : Int32)), (.int (0 : Int32)), (.int (0 : Int32)), (.int (0 : Int32)), (.int (0 : Int32)), (.int (0 : Int32))] := A35
  refine Go.iloadN (pc' := 96) W33 d_method_5_code_95 rfl rfl ?_
  refine Go.iconst (pc' := 97) W33 (5 : Int32) d_method_5_code_96 (by decide) rfl ?_
  refine Go.icmp_le (pc' := 100) W33 113 d_method_5_code_97 (by decide) rfl (fun q => absurd (by decide) q) (fun _ => ?_)
  refine Go.aload (pc' := 102) W33 d_method_5_code_100 rfl rfl rfl ?_
  refine Go.iconst (pc' := 103) W33 (5 : Int32) d_method_5_code_102 (by decide) rfl ?_
  refine Go.aloadN (pc' := 104) W33 d_method_5_code_103 rfl rfl rfl ?_
  refine Go.iconst (pc' := 105) W33 (5 : Int32) d_method_5_code_104 (by decide) rfl ?_
  refine Go.iloadN (pc' := 106) W33 d_method_5_code_105 rfl rfl ?_
  refine Go.iloadN (pc' := 107) W33 d_method_5_code_106 rfl rfl ?_
  refine Go.iload (pc' := 109) W33 d_method_5_code_107 rfl rfl ?_
  refine Go.static (pc' := 112) W33 (rm_at_o G a b c cb [(99 : Int32), (111 : Int32), (110 : Int32), (102 : Int32), (105 : Int32), (103 : Int32), (117 : Int32), (114 : Int32), (101 : Int32)] S 5 j (by decide) (by omega) ch hch (103 : Int32) rfl) (w_79 G) (w_80 G) (w_74 G) (w_81 G) (by decide) [] [0, 1] (σf := [(a1, c34)]) rfl rfl [(.ref a), (.int (5 : Int32)), (.int (1 : Int32)), (.int j.toInt32), (.int ch)] [(.int (5 : Int32)), (.ref a1)] rfl (lenOf pd_21 rfl) rfl rfl d_method_5_code_109 rfl (by first | exact Nat.le_of_ble_eq_true rfl | (simp; done) | (simp; omega) | omega) (by first | exact Nat.le_of_ble_eq_true rfl | (simp; done) | (simp; omega) | omega) (by first | exact Nat.le_of_ble_eq_true rfl | (simp; done) | (simp; omega) | omega) (by first | exact Nat.le_of_ble_eq_true rfl | (simp; done) | (simp; omega) | omega) ?_
  rintro _ _ _ T36 ⟨rfl, rfl, rfl⟩ W37
  replace W37 : Wk l Z EL1 ({ frames := 5, cells := 3, slots := 24, locals := 73 } : Room) "com/example/grantline/grantline/enforcer/PermissionFromScopeNamePinLaw" method_5_code 6 (some (.object "java/lang/String")) "build" X [(a1, c34)] [(a, c), (b, cb)] T36 1 (10) := W37
  show Go Z EL1 _ _ _ X T36 112 #[.val (.ref a), .val (.int (10 : Int32)), .val (.int (1 : Int32)), .val (.int j.toInt32), .val (.int ch), .val (.ref a1)] [(.int (103 : Int32)), (.int (5 : Int32)), (.ref a1)]
  refine Go.castore (pc' := 113) W37 0 rfl A35 5 (103 : Int32) (nar_char_id (lat_char (by decide))) (by decide) (by decide) (by simp) d_method_5_code_112 rfl (fun T38 c40 W39 A41 => ?_)
  replace W39 : Wk l Z EL1 ({ frames := 5, cells := 3, slots := 24, locals := 73 } : Room) "com/example/grantline/grantline/enforcer/PermissionFromScopeNamePinLaw" method_5_code 6 (some (.object "java/lang/String")) "build" X [(a1, c40)] [(a, c), (b, cb)] T38 1 (10) := W39
  replace A41 : ArrC Z c40 .char [(.int (99 : Int32)), (.int (111 : Int32)), (.int (110 : Int32)), (.int (102 : Int32)), (.int (105 : Int32)), (.int (103 : Int32)), (.int (0 : Int32)), (.int (0 : Int32)), (.int (0 : Int32)), (.int (0 : Int32))] := A41
  refine Go.iloadN (pc' := 114) W39 d_method_5_code_113 rfl rfl ?_
  refine Go.bipush (pc' := 116) W39 (6 : Int32) d_method_5_code_114 (by decide) rfl ?_
  refine Go.icmp_le (pc' := 119) W39 134 d_method_5_code_116 (by decide) rfl (fun q => absurd (by decide) q) (fun _ => ?_)
  refine Go.aload (pc' := 121) W39 d_method_5_code_119 rfl rfl rfl ?_
  refine Go.bipush (pc' := 123) W39 (6 : Int32) d_method_5_code_121 (by decide) rfl ?_
  refine Go.aloadN (pc' := 124) W39 d_method_5_code_123 rfl rfl rfl ?_
  refine Go.bipush (pc' := 126) W39 (6 : Int32) d_method_5_code_124 (by decide) rfl ?_
  refine Go.iloadN (pc' := 127) W39 d_method_5_code_126 rfl rfl ?_
  refine Go.iloadN (pc' := 128) W39 d_method_5_code_127 rfl rfl ?_
  refine Go.iload (pc' := 130) W39 d_method_5_code_128 rfl rfl ?_
  refine Go.static (pc' := 133) W39 (rm_at_o G a b c cb [(99 : Int32), (111 : Int32), (110 : Int32), (102 : Int32), (105 : Int32), (103 : Int32), (117 : Int32), (114 : Int32), (101 : Int32)] S 6 j (by decide) (by omega) ch hch (117 : Int32) rfl) (w_79 G) (w_80 G) (w_74 G) (w_81 G) (by decide) [] [0, 1] (σf := [(a1, c40)]) rfl rfl [(.ref a), (.int (6 : Int32)), (.int (1 : Int32)), (.int j.toInt32), (.int ch)] [(.int (6 : Int32)), (.ref a1)] rfl (lenOf pd_21 rfl) rfl rfl d_method_5_code_130 rfl (by first | exact Nat.le_of_ble_eq_true rfl | (simp; done) | (simp; omega) | omega) (by first | exact Nat.le_of_ble_eq_true rfl | (simp; done) | (simp; omega) | omega) (by first | exact Nat.le_of_ble_eq_true rfl | (simp; done) | (simp; omega) | omega) (by first | exact Nat.le_of_ble_eq_true rfl | (simp; done) | (simp; omega) | omega) ?_
  rintro _ _ _ T42 ⟨rfl, rfl, rfl⟩ W43
  replace W43 : Wk l Z EL1 ({ frames := 5, cells := 3, slots := 24, locals := 73 } : Room) "com/example/grantline/grantline/enforcer/PermissionFromScopeNamePinLaw" method_5_code 6 (some (.object "java/lang/String")) "build" X [(a1, c40)] [(a, c), (b, cb)] T42 1 (10) := W43
  show Go Z EL1 _ _ _ X T42 133 #[.val (.ref a), .val (.int (10 : Int32)), .val (.int (1 : Int32)), .val (.int j.toInt32), .val (.int ch), .val (.ref a1)] [(.int (117 : Int32)), (.int (6 : Int32)), (.ref a1)]
  refine Go.castore (pc' := 134) W43 0 rfl A41 6 (117 : Int32) (nar_char_id (lat_char (by decide))) (by decide) (by decide) (by simp) d_method_5_code_133 rfl (fun T44 c46 W45 A47 => ?_)
  replace W45 : Wk l Z EL1 ({ frames := 5, cells := 3, slots := 24, locals := 73 } : Room) "com/example/grantline/grantline/enforcer/PermissionFromScopeNamePinLaw" method_5_code 6 (some (.object "java/lang/String")) "build" X [(a1, c46)] [(a, c), (b, cb)] T44 1 (10) := W45
  replace A47 : ArrC Z c46 .char [(.int (99 : Int32)), (.int (111 : Int32)), (.int (110 : Int32)), (.int (102 : Int32)), (.int (105 : Int32)), (.int (103 : Int32)), (.int (117 : Int32)), (.int (0 : Int32)), (.int (0 : Int32)), (.int (0 : Int32))] := A47
  refine Go.iloadN (pc' := 135) W45 d_method_5_code_134 rfl rfl ?_
  refine Go.bipush (pc' := 137) W45 (7 : Int32) d_method_5_code_135 (by decide) rfl ?_
  refine Go.icmp_le (pc' := 140) W45 155 d_method_5_code_137 (by decide) rfl (fun q => absurd (by decide) q) (fun _ => ?_)
  refine Go.aload (pc' := 142) W45 d_method_5_code_140 rfl rfl rfl ?_
  refine Go.bipush (pc' := 144) W45 (7 : Int32) d_method_5_code_142 (by decide) rfl ?_
  refine Go.aloadN (pc' := 145) W45 d_method_5_code_144 rfl rfl rfl ?_
  refine Go.bipush (pc' := 147) W45 (7 : Int32) d_method_5_code_145 (by decide) rfl ?_
  refine Go.iloadN (pc' := 148) W45 d_method_5_code_147 rfl rfl ?_
  refine Go.iloadN (pc' := 149) W45 d_method_5_code_148 rfl rfl ?_
  refine Go.iload (pc' := 151) W45 d_method_5_code_149 rfl rfl ?_
  refine Go.static (pc' := 154) W45 (rm_at_o G a b c cb [(99 : Int32), (111 : Int32), (110 : Int32), (102 : Int32), (105 : Int32), (103 : Int32), (117 : Int32), (114 : Int32), (101 : Int32)] S 7 j (by decide) (by omega) ch hch (114 : Int32) rfl) (w_79 G) (w_80 G) (w_74 G) (w_81 G) (by decide) [] [0, 1] (σf := [(a1, c46)]) rfl rfl [(.ref a), (.int (7 : Int32)), (.int (1 : Int32)), (.int j.toInt32), (.int ch)] [(.int (7 : Int32)), (.ref a1)] rfl (lenOf pd_21 rfl) rfl rfl d_method_5_code_151 rfl (by first | exact Nat.le_of_ble_eq_true rfl | (simp; done) | (simp; omega) | omega) (by first | exact Nat.le_of_ble_eq_true rfl | (simp; done) | (simp; omega) | omega) (by first | exact Nat.le_of_ble_eq_true rfl | (simp; done) | (simp; omega) | omega) (by first | exact Nat.le_of_ble_eq_true rfl | (simp; done) | (simp; omega) | omega) ?_
  rintro _ _ _ T48 ⟨rfl, rfl, rfl⟩ W49
  replace W49 : Wk l Z EL1 ({ frames := 5, cells := 3, slots := 24, locals := 73 } : Room) "com/example/grantline/grantline/enforcer/PermissionFromScopeNamePinLaw" method_5_code 6 (some (.object "java/lang/String")) "build" X [(a1, c46)] [(a, c), (b, cb)] T48 1 (10) := W49
  show Go Z EL1 _ _ _ X T48 154 #[.val (.ref a), .val (.int (10 : Int32)), .val (.int (1 : Int32)), .val (.int j.toInt32), .val (.int ch), .val (.ref a1)] [(.int (114 : Int32)), (.int (7 : Int32)), (.ref a1)]
  refine Go.castore (pc' := 155) W49 0 rfl A47 7 (114 : Int32) (nar_char_id (lat_char (by decide))) (by decide) (by decide) (by simp) d_method_5_code_154 rfl (fun T50 c52 W51 A53 => ?_)
  replace W51 : Wk l Z EL1 ({ frames := 5, cells := 3, slots := 24, locals := 73 } : Room) "com/example/grantline/grantline/enforcer/PermissionFromScopeNamePinLaw" method_5_code 6 (some (.object "java/lang/String")) "build" X [(a1, c52)] [(a, c), (b, cb)] T50 1 (10) := W51
  replace A53 : ArrC Z c52 .char [(.int (99 : Int32)), (.int (111 : Int32)), (.int (110 : Int32)), (.int (102 : Int32)), (.int (105 : Int32)), (.int (103 : Int32)), (.int (117 : Int32)), (.int (114 : Int32)), (.int (0 : Int32)), (.int (0 : Int32))] := A53
  refine Go.iloadN (pc' := 156) W51 d_method_5_code_155 rfl rfl ?_
  refine Go.bipush (pc' := 158) W51 (8 : Int32) d_method_5_code_156 (by decide) rfl ?_
  refine Go.icmp_le (pc' := 161) W51 176 d_method_5_code_158 (by decide) rfl (fun q => absurd (by decide) q) (fun _ => ?_)
  refine Go.aload (pc' := 163) W51 d_method_5_code_161 rfl rfl rfl ?_
  refine Go.bipush (pc' := 165) W51 (8 : Int32) d_method_5_code_163 (by decide) rfl ?_
  refine Go.aloadN (pc' := 166) W51 d_method_5_code_165 rfl rfl rfl ?_
  refine Go.bipush (pc' := 168) W51 (8 : Int32) d_method_5_code_166 (by decide) rfl ?_
  refine Go.iloadN (pc' := 169) W51 d_method_5_code_168 rfl rfl ?_
  refine Go.iloadN (pc' := 170) W51 d_method_5_code_169 rfl rfl ?_
  refine Go.iload (pc' := 172) W51 d_method_5_code_170 rfl rfl ?_
  refine Go.static (pc' := 175) W51 (rm_at_o G a b c cb [(99 : Int32), (111 : Int32), (110 : Int32), (102 : Int32), (105 : Int32), (103 : Int32), (117 : Int32), (114 : Int32), (101 : Int32)] S 8 j (by decide) (by omega) ch hch (101 : Int32) rfl) (w_79 G) (w_80 G) (w_74 G) (w_81 G) (by decide) [] [0, 1] (σf := [(a1, c52)]) rfl rfl [(.ref a), (.int (8 : Int32)), (.int (1 : Int32)), (.int j.toInt32), (.int ch)] [(.int (8 : Int32)), (.ref a1)] rfl (lenOf pd_21 rfl) rfl rfl d_method_5_code_172 rfl (by first | exact Nat.le_of_ble_eq_true rfl | (simp; done) | (simp; omega) | omega) (by first | exact Nat.le_of_ble_eq_true rfl | (simp; done) | (simp; omega) | omega) (by first | exact Nat.le_of_ble_eq_true rfl | (simp; done) | (simp; omega) | omega) (by first | exact Nat.le_of_ble_eq_true rfl | (simp; done) | (simp; omega) | omega) ?_
  rintro _ _ _ T54 ⟨rfl, rfl, rfl⟩ W55
  replace W55 : Wk l Z EL1 ({ frames := 5, cells := 3, slots := 24, locals := 73 } : Room) "com/example/grantline/grantline/enforcer/PermissionFromScopeNamePinLaw" method_5_code 6 (some (.object "java/lang/String")) "build" X [(a1, c52)] [(a, c), (b, cb)] T54 1 (10) := W55
  show Go Z EL1 _ _ _ X T54 175 #[.val (.ref a), .val (.int (10 : Int32)), .val (.int (1 : Int32)), .val (.int j.toInt32), .val (.int ch), .val (.ref a1)] [(.int (101 : Int32)), (.int (8 : Int32)), (.ref a1)]
  refine Go.castore (pc' := 176) W55 0 rfl A53 8 (101 : Int32) (nar_char_id (lat_char (by decide))) (by decide) (by decide) (by simp) d_method_5_code_175 rfl (fun T56 c58 W57 A59 => ?_)
  replace W57 : Wk l Z EL1 ({ frames := 5, cells := 3, slots := 24, locals := 73 } : Room) "com/example/grantline/grantline/enforcer/PermissionFromScopeNamePinLaw" method_5_code 6 (some (.object "java/lang/String")) "build" X [(a1, c58)] [(a, c), (b, cb)] T56 1 (10) := W57
  replace A59 : ArrC Z c58 .char [(.int (99 : Int32)), (.int (111 : Int32)), (.int (110 : Int32)), (.int (102 : Int32)), (.int (105 : Int32)), (.int (103 : Int32)), (.int (117 : Int32)), (.int (114 : Int32)), (.int (101 : Int32)), (.int (0 : Int32))] := A59
  refine Go.iloadN (pc' := 177) W57 d_method_5_code_176 rfl rfl ?_
  refine Go.bipush (pc' := 179) W57 (9 : Int32) d_method_5_code_177 (by decide) rfl ?_
  refine Go.icmp_le (pc' := 182) W57 197 d_method_5_code_179 (by decide) rfl (fun q => absurd (by decide) q) (fun _ => ?_)
  refine Go.aload (pc' := 184) W57 d_method_5_code_182 rfl rfl rfl ?_
  refine Go.bipush (pc' := 186) W57 (9 : Int32) d_method_5_code_184 (by decide) rfl ?_
  refine Go.aloadN (pc' := 187) W57 d_method_5_code_186 rfl rfl rfl ?_
  refine Go.bipush (pc' := 189) W57 (9 : Int32) d_method_5_code_187 (by decide) rfl ?_
  refine Go.iloadN (pc' := 190) W57 d_method_5_code_189 rfl rfl ?_
  refine Go.iloadN (pc' := 191) W57 d_method_5_code_190 rfl rfl ?_
  refine Go.iload (pc' := 193) W57 d_method_5_code_191 rfl rfl ?_
  refine Go.static (pc' := 196) W57 (rm_at_p G a b c cb [(99 : Int32), (111 : Int32), (110 : Int32), (102 : Int32), (105 : Int32), (103 : Int32), (117 : Int32), (114 : Int32), (101 : Int32)] S 9 j (by decide) (by omega) ch hch rfl) (w_79 G) (w_80 G) (w_74 G) (w_81 G) (by decide) [] [0, 1] (σf := [(a1, c58)]) rfl rfl [(.ref a), (.int (9 : Int32)), (.int (1 : Int32)), (.int j.toInt32), (.int ch)] [(.int (9 : Int32)), (.ref a1)] rfl (lenOf pd_21 rfl) rfl rfl d_method_5_code_193 rfl (by first | exact Nat.le_of_ble_eq_true rfl | (simp; done) | (simp; omega) | omega) (by first | exact Nat.le_of_ble_eq_true rfl | (simp; done) | (simp; omega) | omega) (by first | exact Nat.le_of_ble_eq_true rfl | (simp; done) | (simp; omega) | omega) (by first | exact Nat.le_of_ble_eq_true rfl | (simp; done) | (simp; omega) | omega) ?_
  rintro _ _ _ T60 ⟨rfl, rfl, rfl⟩ W61
  replace W61 : Wk l Z EL1 ({ frames := 5, cells := 3, slots := 24, locals := 73 } : Room) "com/example/grantline/grantline/enforcer/PermissionFromScopeNamePinLaw" method_5_code 6 (some (.object "java/lang/String")) "build" X [(a1, c58)] [(a, c), (b, cb)] T60 1 (10) := W61
  show Go Z EL1 _ _ _ X T60 196 #[.val (.ref a), .val (.int (10 : Int32)), .val (.int (1 : Int32)), .val (.int j.toInt32), .val (.int ch), .val (.ref a1)] [(.int ch), (.int (9 : Int32)), (.ref a1)]
  refine Go.castore (pc' := 197) W61 0 rfl A59 9 ch (nar_char_id (lat_char hch)) (by decide) (by decide) (by simp) d_method_5_code_196 rfl (fun T62 c64 W63 A65 => ?_)
  replace W63 : Wk l Z EL1 ({ frames := 5, cells := 3, slots := 24, locals := 73 } : Room) "com/example/grantline/grantline/enforcer/PermissionFromScopeNamePinLaw" method_5_code 6 (some (.object "java/lang/String")) "build" X [(a1, c64)] [(a, c), (b, cb)] T62 1 (10) := W63
  replace A65 : ArrC Z c64 .char [(.int (99 : Int32)), (.int (111 : Int32)), (.int (110 : Int32)), (.int (102 : Int32)), (.int (105 : Int32)), (.int (103 : Int32)), (.int (117 : Int32)), (.int (114 : Int32)), (.int (101 : Int32)), (.int ch)] := A65
  refine Go.new (pc' := 200) W63 (w_54 G) (w_3 G) (w_2 G) d_method_5_code_197 rfl (by first | exact Nat.le_of_ble_eq_true rfl | (simp; done) | (simp; omega) | omega) (by first | exact Nat.le_of_ble_eq_true rfl | (simp; done) | (simp; omega) | omega) (fun T66 a68 c69 W67 O70 D71 => ?_)
  replace W67 : Wk l Z EL1 ({ frames := 5, cells := 3, slots := 24, locals := 73 } : Room) "com/example/grantline/grantline/enforcer/PermissionFromScopeNamePinLaw" method_5_code 6 (some (.object "java/lang/String")) "build" X [(a68, c69), (a1, c64)] [(a, c), (b, cb)] T66 2 (14) := W67
  have F72 : FldC Z c69 "java/lang/String" "value" "[B" (.null) := D71 (Or.inr (w_5 G)) (ty := (.array .byte)) (by decide)
  have F73 : FldC Z c69 "java/lang/String" "coder" "B" (.int (0 : Int32)) := D71 (Or.inr (w_6 G)) (ty := .byte) (by decide)
  refine Go.dup (pc' := 201) W67 d_method_5_code_200 rfl rfl ?_
  refine Go.aload (pc' := 203) W67 d_method_5_code_201 rfl rfl rfl ?_
  refine Go.special (pc' := 206) W67 (a := a68) (rm_initC G a68 a1 c69 c64 [(99 : Int32), (111 : Int32), (110 : Int32), (102 : Int32), (105 : Int32), (103 : Int32), (117 : Int32), (114 : Int32), (101 : Int32), ch] A65 O70 F73 F72 (Lat.cons (by decide) (Lat.cons (by decide) (Lat.cons (by decide) (Lat.cons (by decide) (Lat.cons (by decide) (Lat.cons (by decide) (Lat.cons (by decide) (Lat.cons (by decide) (Lat.cons (by decide) (Lat.cons hch Lat.nil)))))))))) (by simp) (show ¬ (10 : Nat).toInt32 = 0 by decide)) rfl (w_56 G) (w_57 G) (w_2 G) (w_58 G) (by decide) [0, 0] [] (σf := []) rfl rfl [(.ref a1)] [(.ref a68)] rfl (lenOf pd_22 rfl) rfl rfl d_method_5_code_203 rfl (by first | exact Nat.le_of_ble_eq_true rfl | (simp; done) | (simp; omega) | omega) (by first | exact Nat.le_of_ble_eq_true rfl | (simp; done) | (simp; omega) | omega) (by first | exact Nat.le_of_ble_eq_true rfl | (simp; done) | (simp; omega) | omega) (by first | exact Nat.le_of_ble_eq_true rfl | (simp; done) | (simp; omega) | omega) ?_
  rintro _ _ _ T78 ⟨c74, b75, c76, rfl, rfl, rfl, S77⟩ W79
  replace W79 : Wk l Z EL1 ({ frames := 5, cells := 3, slots := 24, locals := 73 } : Room) "com/example/grantline/grantline/enforcer/PermissionFromScopeNamePinLaw" method_5_code 6 (some (.object "java/lang/String")) "build" X [(a1, c64)] [(a68, c74), (b75, c76), (a, c), (b, cb)] T78 3 (24) := W79
  show Go Z EL1 _ _ _ X T78 206 #[.val (.ref a), .val (.int (10 : Int32)), .val (.int (1 : Int32)), .val (.int j.toInt32), .val (.int ch), .val (.ref a1)] [(.ref a68)]
  have W80 := W79.drop [0] (σi := [(a1, c64)]) (σf := []) rfl
  replace W80 : Wk l Z EL1 ({ frames := 5, cells := 3, slots := 24, locals := 73 } : Room) "com/example/grantline/grantline/enforcer/PermissionFromScopeNamePinLaw" method_5_code 6 (some (.object "java/lang/String")) "build" X [] [(a68, c74), (b75, c76), (a, c), (b, cb)] T78 3 (24) := W80
  have W81 := W80.keepRo [0, 1] (ρ' := [(a68, c74), (b75, c76)]) rfl
  replace W81 : Wk l Z EL1 ({ frames := 5, cells := 3, slots := 24, locals := 73 } : Room) "com/example/grantline/grantline/enforcer/PermissionFromScopeNamePinLaw" method_5_code 6 (some (.object "java/lang/String")) "build" X [] [(a68, c74), (b75, c76)] T78 3 (24) := W81
  refine Go.aret W81 rfl rfl d_method_5_code_206 (by first | exact Nat.le_of_ble_eq_true rfl | (simp; done) | (simp; omega) | omega) (by first | exact Nat.le_of_ble_eq_true rfl | (simp; done) | (simp; omega) | omega) ?_
  exact ⟨a68, c74, b75, c76, rfl, rfl, rfl, S77⟩
set_option maxRecDepth 65536 in
set_option maxHeartbeats 40000000 in
theorem rm_build_configuret {l : Launch} {Z : State} {a0 : Array Value} (G : Cl Z a0) (a b : Addr) (c cb : Cell) (S : StrL Z c b cb [(99 : Int32), (111 : Int32), (110 : Int32), (102 : Int32), (105 : Int32), (103 : Int32), (117 : Int32), (114 : Int32), (101 : Int32)]) (j : Nat) (hj : j < 9) (ch : Int32) (hch : ¬ ch < 0 ∧ ¬ (255 : Int32) < ch) :
    Met l Z EL1 (⟨"com/example/grantline/grantline/enforcer/PermissionFromScopeNamePinLaw", "build", "(Ljava/lang/String;IIIC)Ljava/lang/String;"⟩ : MethodName) method_5_code 6 (some (.object "java/lang/String")) ({ frames := 5, cells := 3, slots := 20, locals := 73 } : Room) #[.ref a, .int (8 : Int32), .int (2 : Int32), .int j.toInt32, .int ch] [] [(a, c), (b, cb)] (fun v σ ρ => ∃ a c b cb, v = some (.ref a) ∧ σ = [] ∧ ρ = [(a, c), (b, cb)] ∧ StrL Z c b cb [if 0 < j then (99 : Int32) else (111 : Int32), if 1 < j then (111 : Int32) else (110 : Int32), if 2 < j then (110 : Int32) else (102 : Int32), if 3 < j then (102 : Int32) else (105 : Int32), if 4 < j then (105 : Int32) else (103 : Int32), if 5 < j then (103 : Int32) else (117 : Int32), if 6 < j then (117 : Int32) else (114 : Int32), if 7 < j then (114 : Int32) else (101 : Int32)]) := by
  refine Met.walk G.2.1 pn_17 #[.val (.ref a), .val (.int (8 : Int32)), .val (.int (2 : Int32)), .val (.int j.toInt32), .val (.int ch), .unset] (fun m => by first | (simp [entryFrame, mkF, argsToLocals, Value.category]; done) | rfl) ?_
  intro X T0 W0
  refine Go.iloadN (pc' := 1) W0 d_method_5_code_0 rfl rfl ?_
  refine Go.static (pc' := 4) W0 (rm_newArr_I G) (w_76 G) (w_77 G) (w_74 G) (w_78 G) (by decide) [] [] (σf := []) rfl rfl [(.int (8 : Int32))] [] rfl (lenOf pd_20 rfl) rfl rfl d_method_5_code_1 rfl (by first | exact Nat.le_of_ble_eq_true rfl | (simp; done) | (simp; omega) | omega) (by first | exact Nat.le_of_ble_eq_true rfl | (simp; done) | (simp; omega) | omega) (by first | exact Nat.le_of_ble_eq_true rfl | (simp; done) | (simp; omega) | omega) (by first | exact Nat.le_of_ble_eq_true rfl | (simp; done) | (simp; omega) | omega) ?_
  rintro _ _ _ T4 ⟨a1, c2, rfl, rfl, rfl, A3⟩ W5
  replace W5 : Wk l Z EL1 ({ frames := 5, cells := 3, slots := 20, locals := 73 } : Room) "com/example/grantline/grantline/enforcer/PermissionFromScopeNamePinLaw" method_5_code 6 (some (.object "java/lang/String")) "build" X [(a1, c2)] [(a, c), (b, cb)] T4 1 (8) := W5
  show Go Z EL1 _ _ _ X T4 4 #[.val (.ref a), .val (.int (8 : Int32)), .val (.int (2 : Int32)), .val (.int j.toInt32), .val (.int ch), .unset] [(.ref a1)]
  refine Go.astore (pc' := 6) W5 #[.val (.ref a), .val (.int (8 : Int32)), .val (.int (2 : Int32)), .val (.int j.toInt32), .val (.int ch), .val (.ref a1)] d_method_5_code_4 rfl rfl rfl ?_
  refine Go.iloadN (pc' := 7) W5 d_method_5_code_6 rfl rfl ?_
  refine Go.if_le (pc' := 10) W5 23 d_method_5_code_7 (by decide) rfl (fun q => absurd (by decide) q) (fun _ => ?_)
  refine Go.aload (pc' := 12) W5 d_method_5_code_10 rfl rfl rfl ?_
  refine Go.iconst (pc' := 13) W5 (0 : Int32) d_method_5_code_12 (by decide) rfl ?_
  refine Go.aloadN (pc' := 14) W5 d_method_5_code_13 rfl rfl rfl ?_
  refine Go.iconst (pc' := 15) W5 (0 : Int32) d_method_5_code_14 (by decide) rfl ?_
  refine Go.iloadN (pc' := 16) W5 d_method_5_code_15 rfl rfl ?_
  refine Go.iloadN (pc' := 17) W5 d_method_5_code_16 rfl rfl ?_
  refine Go.iload (pc' := 19) W5 d_method_5_code_17 rfl rfl ?_
  refine Go.static (pc' := 22) W5 (rm_at_t G a b c cb [(99 : Int32), (111 : Int32), (110 : Int32), (102 : Int32), (105 : Int32), (103 : Int32), (117 : Int32), (114 : Int32), (101 : Int32)] S 0 j (by decide) (by omega) ch hch (99 : Int32) rfl (111 : Int32) rfl) (w_79 G) (w_80 G) (w_74 G) (w_81 G) (by decide) [] [0, 1] (σf := [(a1, c2)]) rfl rfl [(.ref a), (.int (0 : Int32)), (.int (2 : Int32)), (.int j.toInt32), (.int ch)] [(.int (0 : Int32)), (.ref a1)] rfl (lenOf pd_21 rfl) rfl rfl d_method_5_code_19 rfl (by first | exact Nat.le_of_ble_eq_true rfl | (simp; done) | (simp; omega) | omega) (by first | exact Nat.le_of_ble_eq_true rfl | (simp; done) | (simp; omega) | omega) (by first | exact Nat.le_of_ble_eq_true rfl | (simp; done) | (simp; omega) | omega) (by first | exact Nat.le_of_ble_eq_true rfl | (simp; done) | (simp; omega) | omega) ?_
  rintro _ _ _ T6 ⟨rfl, rfl, rfl⟩ W7
  replace W7 : Wk l Z EL1 ({ frames := 5, cells := 3, slots := 20, locals := 73 } : Room) "com/example/grantline/grantline/enforcer/PermissionFromScopeNamePinLaw" method_5_code 6 (some (.object "java/lang/String")) "build" X [(a1, c2)] [(a, c), (b, cb)] T6 1 (8) := W7
  show Go Z EL1 _ _ _ X T6 22 #[.val (.ref a), .val (.int (8 : Int32)), .val (.int (2 : Int32)), .val (.int j.toInt32), .val (.int ch), .val (.ref a1)] [(.int (if 0 < j then (99 : Int32) else (111 : Int32))), (.int (0 : Int32)), (.ref a1)]
  refine Go.castore (pc' := 23) W7 0 rfl A3 0 (if 0 < j then (99 : Int32) else (111 : Int32)) (nar_char_id (lat_char (lat_ite (by decide) (by decide)))) (by decide) (by decide) (by simp) d_method_5_code_22 rfl (fun T8 c10 W9 A11 => ?_)
  replace W9 : Wk l Z EL1 ({ frames := 5, cells := 3, slots := 20, locals := 73 } : Room) "com/example/grantline/grantline/enforcer/PermissionFromScopeNamePinLaw" method_5_code 6 (some (.object "java/lang/String")) "build" X [(a1, c10)] [(a, c), (b, cb)] T8 1 (8) := W9
  replace A11 : ArrC Z c10 .char [(.int (if 0 < j then (99 : Int32) else (111 : Int32))), (.int (0 : Int32)), (.int (0 : Int32)), (.int (0 : Int32)), (.int (0 : Int32)), (.int (0 : Int32)), (.int (0 : Int32)), (.int (0 : Int32))] := A11
  refine Go.iloadN (pc' := 24) W9 d_method_5_code_23 rfl rfl ?_
  refine Go.iconst (pc' := 25) W9 (1 : Int32) d_method_5_code_24 (by decide) rfl ?_
  refine Go.icmp_le (pc' := 28) W9 41 d_method_5_code_25 (by decide) rfl (fun q => absurd (by decide) q) (fun _ => ?_)
  refine Go.aload (pc' := 30) W9 d_method_5_code_28 rfl rfl rfl ?_
  refine Go.iconst (pc' := 31) W9 (1 : Int32) d_method_5_code_30 (by decide) rfl ?_
  refine Go.aloadN (pc' := 32) W9 d_method_5_code_31 rfl rfl rfl ?_
  refine Go.iconst (pc' := 33) W9 (1 : Int32) d_method_5_code_32 (by decide) rfl ?_
  refine Go.iloadN (pc' := 34) W9 d_method_5_code_33 rfl rfl ?_
  refine Go.iloadN (pc' := 35) W9 d_method_5_code_34 rfl rfl ?_
  refine Go.iload (pc' := 37) W9 d_method_5_code_35 rfl rfl ?_
  refine Go.static (pc' := 40) W9 (rm_at_t G a b c cb [(99 : Int32), (111 : Int32), (110 : Int32), (102 : Int32), (105 : Int32), (103 : Int32), (117 : Int32), (114 : Int32), (101 : Int32)] S 1 j (by decide) (by omega) ch hch (111 : Int32) rfl (110 : Int32) rfl) (w_79 G) (w_80 G) (w_74 G) (w_81 G) (by decide) [] [0, 1] (σf := [(a1, c10)]) rfl rfl [(.ref a), (.int (1 : Int32)), (.int (2 : Int32)), (.int j.toInt32), (.int ch)] [(.int (1 : Int32)), (.ref a1)] rfl (lenOf pd_21 rfl) rfl rfl d_method_5_code_37 rfl (by first | exact Nat.le_of_ble_eq_true rfl | (simp; done) | (simp; omega) | omega) (by first | exact Nat.le_of_ble_eq_true rfl | (simp; done) | (simp; omega) | omega) (by first | exact Nat.le_of_ble_eq_true rfl | (simp; done) | (simp; omega) | omega) (by first | exact Nat.le_of_ble_eq_true rfl | (simp; done) | (simp; omega) | omega) ?_
  rintro _ _ _ T12 ⟨rfl, rfl, rfl⟩ W13
  replace W13 : Wk l Z EL1 ({ frames := 5, cells := 3, slots := 20, locals := 73 } : Room) "com/example/grantline/grantline/enforcer/PermissionFromScopeNamePinLaw" method_5_code 6 (some (.object "java/lang/String")) "build" X [(a1, c10)] [(a, c), (b, cb)] T12 1 (8) := W13
  show Go Z EL1 _ _ _ X T12 40 #[.val (.ref a), .val (.int (8 : Int32)), .val (.int (2 : Int32)), .val (.int j.toInt32), .val (.int ch), .val (.ref a1)] [(.int (if 1 < j then (111 : Int32) else (110 : Int32))), (.int (1 : Int32)), (.ref a1)]
  refine Go.castore (pc' := 41) W13 0 rfl A11 1 (if 1 < j then (111 : Int32) else (110 : Int32)) (nar_char_id (lat_char (lat_ite (by decide) (by decide)))) (by decide) (by decide) (by simp) d_method_5_code_40 rfl (fun T14 c16 W15 A17 => ?_)
  replace W15 : Wk l Z EL1 ({ frames := 5, cells := 3, slots := 20, locals := 73 } : Room) "com/example/grantline/grantline/enforcer/PermissionFromScopeNamePinLaw" method_5_code 6 (some (.object "java/lang/String")) "build" X [(a1, c16)] [(a, c), (b, cb)] T14 1 (8) := W15
  replace A17 : ArrC Z c16 .char [(.int (if 0 < j then (99 : Int32) else (111 : Int32))), (.int (if 1 < j then (111 : Int32) else (110 : Int32))), (.int (0 : Int32)), (.int (0 : Int32)), (.int (0 : Int32)), (.int (0 : Int32)), (.int (0 : Int32)), (.int (0 : Int32))] := A17
  refine Go.iloadN (pc' := 42) W15 d_method_5_code_41 rfl rfl ?_
  refine Go.iconst (pc' := 43) W15 (2 : Int32) d_method_5_code_42 (by decide) rfl ?_
  refine Go.icmp_le (pc' := 46) W15 59 d_method_5_code_43 (by decide) rfl (fun q => absurd (by decide) q) (fun _ => ?_)
  refine Go.aload (pc' := 48) W15 d_method_5_code_46 rfl rfl rfl ?_
  refine Go.iconst (pc' := 49) W15 (2 : Int32) d_method_5_code_48 (by decide) rfl ?_
  refine Go.aloadN (pc' := 50) W15 d_method_5_code_49 rfl rfl rfl ?_
  refine Go.iconst (pc' := 51) W15 (2 : Int32) d_method_5_code_50 (by decide) rfl ?_
  refine Go.iloadN (pc' := 52) W15 d_method_5_code_51 rfl rfl ?_
  refine Go.iloadN (pc' := 53) W15 d_method_5_code_52 rfl rfl ?_
  refine Go.iload (pc' := 55) W15 d_method_5_code_53 rfl rfl ?_
  refine Go.static (pc' := 58) W15 (rm_at_t G a b c cb [(99 : Int32), (111 : Int32), (110 : Int32), (102 : Int32), (105 : Int32), (103 : Int32), (117 : Int32), (114 : Int32), (101 : Int32)] S 2 j (by decide) (by omega) ch hch (110 : Int32) rfl (102 : Int32) rfl) (w_79 G) (w_80 G) (w_74 G) (w_81 G) (by decide) [] [0, 1] (σf := [(a1, c16)]) rfl rfl [(.ref a), (.int (2 : Int32)), (.int (2 : Int32)), (.int j.toInt32), (.int ch)] [(.int (2 : Int32)), (.ref a1)] rfl (lenOf pd_21 rfl) rfl rfl d_method_5_code_55 rfl (by first | exact Nat.le_of_ble_eq_true rfl | (simp; done) | (simp; omega) | omega) (by first | exact Nat.le_of_ble_eq_true rfl | (simp; done) | (simp; omega) | omega) (by first | exact Nat.le_of_ble_eq_true rfl | (simp; done) | (simp; omega) | omega) (by first | exact Nat.le_of_ble_eq_true rfl | (simp; done) | (simp; omega) | omega) ?_
  rintro _ _ _ T18 ⟨rfl, rfl, rfl⟩ W19
  replace W19 : Wk l Z EL1 ({ frames := 5, cells := 3, slots := 20, locals := 73 } : Room) "com/example/grantline/grantline/enforcer/PermissionFromScopeNamePinLaw" method_5_code 6 (some (.object "java/lang/String")) "build" X [(a1, c16)] [(a, c), (b, cb)] T18 1 (8) := W19
  show Go Z EL1 _ _ _ X T18 58 #[.val (.ref a), .val (.int (8 : Int32)), .val (.int (2 : Int32)), .val (.int j.toInt32), .val (.int ch), .val (.ref a1)] [(.int (if 2 < j then (110 : Int32) else (102 : Int32))), (.int (2 : Int32)), (.ref a1)]
  refine Go.castore (pc' := 59) W19 0 rfl A17 2 (if 2 < j then (110 : Int32) else (102 : Int32)) (nar_char_id (lat_char (lat_ite (by decide) (by decide)))) (by decide) (by decide) (by simp) d_method_5_code_58 rfl (fun T20 c22 W21 A23 => ?_)
  replace W21 : Wk l Z EL1 ({ frames := 5, cells := 3, slots := 20, locals := 73 } : Room) "com/example/grantline/grantline/enforcer/PermissionFromScopeNamePinLaw" method_5_code 6 (some (.object "java/lang/String")) "build" X [(a1, c22)] [(a, c), (b, cb)] T20 1 (8) := W21
  replace A23 : ArrC Z c22 .char [(.int (if 0 < j then (99 : Int32) else (111 : Int32))), (.int (if 1 < j then (111 : Int32) else (110 : Int32))), (.int (if 2 < j then (110 : Int32) else (102 : Int32))), (.int (0 : Int32)), (.int (0 : Int32)), (.int (0 : Int32)), (.int (0 : Int32)), (.int (0 : Int32))] := A23
  refine Go.iloadN (pc' := 60) W21 d_method_5_code_59 rfl rfl ?_
  refine Go.iconst (pc' := 61) W21 (3 : Int32) d_method_5_code_60 (by decide) rfl ?_
  refine Go.icmp_le (pc' := 64) W21 77 d_method_5_code_61 (by decide) rfl (fun q => absurd (by decide) q) (fun _ => ?_)
  refine Go.aload (pc' := 66) W21 d_method_5_code_64 rfl rfl rfl ?_
  refine Go.iconst (pc' := 67) W21 (3 : Int32) d_method_5_code_66 (by decide) rfl ?_
  refine Go.aloadN (pc' := 68) W21 d_method_5_code_67 rfl rfl rfl ?_
  refine Go.iconst (pc' := 69) W21 (3 : Int32) d_method_5_code_68 (by decide) rfl ?_
  refine Go.iloadN (pc' := 70) W21 d_method_5_code_69 rfl rfl ?_
  refine Go.iloadN (pc' := 71) W21 d_method_5_code_70 rfl rfl ?_
  refine Go.iload (pc' := 73) W21 d_method_5_code_71 rfl rfl ?_
  refine Go.static (pc' := 76) W21 (rm_at_t G a b c cb [(99 : Int32), (111 : Int32), (110 : Int32), (102 : Int32), (105 : Int32), (103 : Int32), (117 : Int32), (114 : Int32), (101 : Int32)] S 3 j (by decide) (by omega) ch hch (102 : Int32) rfl (105 : Int32) rfl) (w_79 G) (w_80 G) (w_74 G) (w_81 G) (by decide) [] [0, 1] (σf := [(a1, c22)]) rfl rfl [(.ref a), (.int (3 : Int32)), (.int (2 : Int32)), (.int j.toInt32), (.int ch)] [(.int (3 : Int32)), (.ref a1)] rfl (lenOf pd_21 rfl) rfl rfl d_method_5_code_73 rfl (by first | exact Nat.le_of_ble_eq_true rfl | (simp; done) | (simp; omega) | omega) (by first | exact Nat.le_of_ble_eq_true rfl | (simp; done) | (simp; omega) | omega) (by first | exact Nat.le_of_ble_eq_true rfl | (simp; done) | (simp; omega) | omega) (by first | exact Nat.le_of_ble_eq_true rfl | (simp; done) | (simp; omega) | omega) ?_
  rintro _ _ _ T24 ⟨rfl, rfl, rfl⟩ W25
  replace W25 : Wk l Z EL1 ({ frames := 5, cells := 3, slots := 20, locals := 73 } : Room) "com/example/grantline/grantline/enforcer/PermissionFromScopeNamePinLaw" method_5_code 6 (some (.object "java/lang/String")) "build" X [(a1, c22)] [(a, c), (b, cb)] T24 1 (8) := W25
  show Go Z EL1 _ _ _ X T24 76 #[.val (.ref a), .val (.int (8 : Int32)), .val (.int (2 : Int32)), .val (.int j.toInt32), .val (.int ch), .val (.ref a1)] [(.int (if 3 < j then (102 : Int32) else (105 : Int32))), (.int (3 : Int32)), (.ref a1)]
  refine Go.castore (pc' := 77) W25 0 rfl A23 3 (if 3 < j then (102 : Int32) else (105 : Int32)) (nar_char_id (lat_char (lat_ite (by decide) (by decide)))) (by decide) (by decide) (by simp) d_method_5_code_76 rfl (fun T26 c28 W27 A29 => ?_)
  replace W27 : Wk l Z EL1 ({ frames := 5, cells := 3, slots := 20, locals := 73 } : Room) "com/example/grantline/grantline/enforcer/PermissionFromScopeNamePinLaw" method_5_code 6 (some (.object "java/lang/String")) "build" X [(a1, c28)] [(a, c), (b, cb)] T26 1 (8) := W27
  replace A29 : ArrC Z c28 .char [(.int (if 0 < j then (99 : Int32) else (111 : Int32))), (.int (if 1 < j then (111 : Int32) else (110 : Int32))), (.int (if 2 < j then (110 : Int32) else (102 : Int32))), (.int (if 3 < j then (102 : Int32) else (105 : Int32))), (.int (0 : Int32)), (.int (0 : Int32)), (.int (0 : Int32)), (.int (0 : Int32))] := A29
  refine Go.iloadN (pc' := 78) W27 d_method_5_code_77 rfl rfl ?_
  refine Go.iconst (pc' := 79) W27 (4 : Int32) d_method_5_code_78 (by decide) rfl ?_
  refine Go.icmp_le (pc' := 82) W27 95 d_method_5_code_79 (by decide) rfl (fun q => absurd (by decide) q) (fun _ => ?_)
  refine Go.aload (pc' := 84) W27 d_method_5_code_82 rfl rfl rfl ?_
  refine Go.iconst (pc' := 85) W27 (4 : Int32) d_method_5_code_84 (by decide) rfl ?_
  refine Go.aloadN (pc' := 86) W27 d_method_5_code_85 rfl rfl rfl ?_
  refine Go.iconst (pc' := 87) W27 (4 : Int32) d_method_5_code_86 (by decide) rfl ?_
  refine Go.iloadN (pc' := 88) W27 d_method_5_code_87 rfl rfl ?_
  refine Go.iloadN (pc' := 89) W27 d_method_5_code_88 rfl rfl ?_
  refine Go.iload (pc' := 91) W27 d_method_5_code_89 rfl rfl ?_
  refine Go.static (pc' := 94) W27 (rm_at_t G a b c cb [(99 : Int32), (111 : Int32), (110 : Int32), (102 : Int32), (105 : Int32), (103 : Int32), (117 : Int32), (114 : Int32), (101 : Int32)] S 4 j (by decide) (by omega) ch hch (105 : Int32) rfl (103 : Int32) rfl) (w_79 G) (w_80 G) (w_74 G) (w_81 G) (by decide) [] [0, 1] (σf := [(a1, c28)]) rfl rfl [(.ref a), (.int (4 : Int32)), (.int (2 : Int32)), (.int j.toInt32), (.int ch)] [(.int (4 : Int32)), (.ref a1)] rfl (lenOf pd_21 rfl) rfl rfl d_method_5_code_91 rfl (by first | exact Nat.le_of_ble_eq_true rfl | (simp; done) | (simp; omega) | omega) (by first | exact Nat.le_of_ble_eq_true rfl | (simp; done) | (simp; omega) | omega) (by first | exact Nat.le_of_ble_eq_true rfl | (simp; done) | (simp; omega) | omega) (by first | exact Nat.le_of_ble_eq_true rfl | (simp; done) | (simp; omega) | omega) ?_
  rintro _ _ _ T30 ⟨rfl, rfl, rfl⟩ W31
  replace W31 : Wk l Z EL1 ({ frames := 5, cells := 3, slots := 20, locals := 73 } : Room) "com/example/grantline/grantline/enforcer/PermissionFromScopeNamePinLaw" method_5_code 6 (some (.object "java/lang/String")) "build" X [(a1, c28)] [(a, c), (b, cb)] T30 1 (8) := W31
  show Go Z EL1 _ _ _ X T30 94 #[.val (.ref a), .val (.int (8 : Int32)), .val (.int (2 : Int32)), .val (.int j.toInt32), .val (.int ch), .val (.ref a1)] [(.int (if 4 < j then (105 : Int32) else (103 : Int32))), (.int (4 : Int32)), (.ref a1)]
  refine Go.castore (pc' := 95) W31 0 rfl A29 4 (if 4 < j then (105 : Int32) else (103 : Int32)) (nar_char_id (lat_char (lat_ite (by decide) (by decide)))) (by decide) (by decide) (by simp) d_method_5_code_94 rfl (fun T32 c34 W33 A35 => ?_)
  replace W33 : Wk l Z EL1 ({ frames := 5, cells := 3, slots := 20, locals := 73 } : Room) "com/example/grantline/grantline/enforcer/PermissionFromScopeNamePinLaw" method_5_code 6 (some (.object "java/lang/String")) "build" X [(a1, c34)] [(a, c), (b, cb)] T32 1 (8) := W33
  replace A35 : ArrC Z c34 .char [(.int (if 0 < j then (99 : Int32) else (111 : Int32))), (.int (if 1 < j then (111 : Int32) else (110 : Int32))), (.int (if 2 < j then (110 : Int32) else (102 : Int32))), (.int (if 3 < j then (102 : Int32) else (105 : Int32))), (.int (if 4 < j then (105 : Int32) else (103 : Int32))), (.int (0 : Int32)), (.int (0 : Int32)), (.int (0 : Int32))] := A35
  refine Go.iloadN (pc' := 96) W33 d_method_5_code_95 rfl rfl ?_
  refine Go.iconst (pc' := 97) W33 (5 : Int32) d_method_5_code_96 (by decide) rfl ?_
  refine Go.icmp_le (pc' := 100) W33 113 d_method_5_code_97 (by decide) rfl (fun q => absurd (by decide) q) (fun _ => ?_)
  refine Go.aload (pc' := 102) W33 d_method_5_code_100 rfl rfl rfl ?_
  refine Go.iconst (pc' := 103) W33 (5 : Int32) d_method_5_code_102 (by decide) rfl ?_
  refine Go.aloadN (pc' := 104) W33 d_method_5_code_103 rfl rfl rfl ?_
  refine Go.iconst (pc' := 105) W33 (5 : Int32) d_method_5_code_104 (by decide) rfl ?_
  refine Go.iloadN (pc' := 106) W33 d_method_5_code_105 rfl rfl ?_
  refine Go.iloadN (pc' := 107) W33 d_method_5_code_106 rfl rfl ?_
  refine Go.iload (pc' := 109) W33 d_method_5_code_107 rfl rfl ?_
  refine Go.static (pc' := 112) W33 (rm_at_t G a b c cb [(99 : Int32), (111 : Int32), (110 : Int32), (102 : Int32), (105 : Int32), (103 : Int32), (117 : Int32), (114 : Int32), (101 : Int32)] S 5 j (by decide) (by omega) ch hch (103 : Int32) rfl (117 : Int32) rfl) (w_79 G) (w_80 G) (w_74 G) (w_81 G) (by decide) [] [0, 1] (σf := [(a1, c34)]) rfl rfl [(.ref a), (.int (5 : Int32)), (.int (2 : Int32)), (.int j.toInt32), (.int ch)] [(.int (5 : Int32)), (.ref a1)] rfl (lenOf pd_21 rfl) rfl rfl d_method_5_code_109 rfl (by first | exact Nat.le_of_ble_eq_true rfl | (simp; done) | (simp; omega) | omega) (by first | exact Nat.le_of_ble_eq_true rfl | (simp; done) | (simp; omega) | omega) (by first | exact Nat.le_of_ble_eq_true rfl | (simp; done) | (simp; omega) | omega) (by first | exact Nat.le_of_ble_eq_true rfl | (simp; done) | (simp; omega) | omega) ?_
  rintro _ _ _ T36 ⟨rfl, rfl, rfl⟩ W37
  replace W37 : Wk l Z EL1 ({ frames := 5, cells := 3, slots := 20, locals := 73 } : Room) "com/example/grantline/grantline/enforcer/PermissionFromScopeNamePinLaw" method_5_code 6 (some (.object "java/lang/String")) "build" X [(a1, c34)] [(a, c), (b, cb)] T36 1 (8) := W37
  show Go Z EL1 _ _ _ X T36 112 #[.val (.ref a), .val (.int (8 : Int32)), .val (.int (2 : Int32)), .val (.int j.toInt32), .val (.int ch), .val (.ref a1)] [(.int (if 5 < j then (103 : Int32) else (117 : Int32))), (.int (5 : Int32)), (.ref a1)]
  refine Go.castore (pc' := 113) W37 0 rfl A35 5 (if 5 < j then (103 : Int32) else (117 : Int32)) (nar_char_id (lat_char (lat_ite (by decide) (by decide)))) (by decide) (by decide) (by simp) d_method_5_code_112 rfl (fun T38 c40 W39 A41 => ?_)
  replace W39 : Wk l Z EL1 ({ frames := 5, cells := 3, slots := 20, locals := 73 } : Room) "com/example/grantline/grantline/enforcer/PermissionFromScopeNamePinLaw" method_5_code 6 (some (.object "java/lang/String")) "build" X [(a1, c40)] [(a, c), (b, cb)] T38 1 (8) := W39
  replace A41 : ArrC Z c40 .char [(.int (if 0 < j then (99 : Int32) else (111 : Int32))), (.int (if 1 < j then (111 : Int32) else (110 : Int32))), (.int (if 2 < j then (110 : Int32) else (102 : Int32))), (.int (if 3 < j then (102 : Int32) else (105 : Int32))), (.int (if 4 < j then (105 : Int32) else (103 : Int32))), (.int (if 5 < j then (103 : Int32) else (117 : Int32))), (.int (0 : Int32)), (.int (0 : Int32))] := A41
  refine Go.iloadN (pc' := 114) W39 d_method_5_code_113 rfl rfl ?_
  refine Go.bipush (pc' := 116) W39 (6 : Int32) d_method_5_code_114 (by decide) rfl ?_
  refine Go.icmp_le (pc' := 119) W39 134 d_method_5_code_116 (by decide) rfl (fun q => absurd (by decide) q) (fun _ => ?_)
  refine Go.aload (pc' := 121) W39 d_method_5_code_119 rfl rfl rfl ?_
  refine Go.bipush (pc' := 123) W39 (6 : Int32) d_method_5_code_121 (by decide) rfl ?_
  refine Go.aloadN (pc' := 124) W39 d_method_5_code_123 rfl rfl rfl ?_
  refine Go.bipush (pc' := 126) W39 (6 : Int32) d_method_5_code_124 (by decide) rfl ?_
  refine Go.iloadN (pc' := 127) W39 d_method_5_code_126 rfl rfl ?_
  refine Go.iloadN (pc' := 128) W39 d_method_5_code_127 rfl rfl ?_
  refine Go.iload (pc' := 130) W39 d_method_5_code_128 rfl rfl ?_
  refine Go.static (pc' := 133) W39 (rm_at_t G a b c cb [(99 : Int32), (111 : Int32), (110 : Int32), (102 : Int32), (105 : Int32), (103 : Int32), (117 : Int32), (114 : Int32), (101 : Int32)] S 6 j (by decide) (by omega) ch hch (117 : Int32) rfl (114 : Int32) rfl) (w_79 G) (w_80 G) (w_74 G) (w_81 G) (by decide) [] [0, 1] (σf := [(a1, c40)]) rfl rfl [(.ref a), (.int (6 : Int32)), (.int (2 : Int32)), (.int j.toInt32), (.int ch)] [(.int (6 : Int32)), (.ref a1)] rfl (lenOf pd_21 rfl) rfl rfl d_method_5_code_130 rfl (by first | exact Nat.le_of_ble_eq_true rfl | (simp; done) | (simp; omega) | omega) (by first | exact Nat.le_of_ble_eq_true rfl | (simp; done) | (simp; omega) | omega) (by first | exact Nat.le_of_ble_eq_true rfl | (simp; done) | (simp; omega) | omega) (by first | exact Nat.le_of_ble_eq_true rfl | (simp; done) | (simp; omega) | omega) ?_
  rintro _ _ _ T42 ⟨rfl, rfl, rfl⟩ W43
  replace W43 : Wk l Z EL1 ({ frames := 5, cells := 3, slots := 20, locals := 73 } : Room) "com/example/grantline/grantline/enforcer/PermissionFromScopeNamePinLaw" method_5_code 6 (some (.object "java/lang/String")) "build" X [(a1, c40)] [(a, c), (b, cb)] T42 1 (8) := W43
  show Go Z EL1 _ _ _ X T42 133 #[.val (.ref a), .val (.int (8 : Int32)), .val (.int (2 : Int32)), .val (.int j.toInt32), .val (.int ch), .val (.ref a1)] [(.int (if 6 < j then (117 : Int32) else (114 : Int32))), (.int (6 : Int32)), (.ref a1)]
  refine Go.castore (pc' := 134) W43 0 rfl A41 6 (if 6 < j then (117 : Int32) else (114 : Int32)) (nar_char_id (lat_char (lat_ite (by decide) (by decide)))) (by decide) (by decide) (by simp) d_method_5_code_133 rfl (fun T44 c46 W45 A47 => ?_)
  replace W45 : Wk l Z EL1 ({ frames := 5, cells := 3, slots := 20, locals := 73 } : Room) "com/example/grantline/grantline/enforcer/PermissionFromScopeNamePinLaw" method_5_code 6 (some (.object "java/lang/String")) "build" X [(a1, c46)] [(a, c), (b, cb)] T44 1 (8) := W45
  replace A47 : ArrC Z c46 .char [(.int (if 0 < j then (99 : Int32) else (111 : Int32))), (.int (if 1 < j then (111 : Int32) else (110 : Int32))), (.int (if 2 < j then (110 : Int32) else (102 : Int32))), (.int (if 3 < j then (102 : Int32) else (105 : Int32))), (.int (if 4 < j then (105 : Int32) else (103 : Int32))), (.int (if 5 < j then (103 : Int32) else (117 : Int32))), (.int (if 6 < j then (117 : Int32) else (114 : Int32))), (.int (0 : Int32))] := A47
  refine Go.iloadN (pc' := 135) W45 d_method_5_code_134 rfl rfl ?_
  refine Go.bipush (pc' := 137) W45 (7 : Int32) d_method_5_code_135 (by decide) rfl ?_
  refine Go.icmp_le (pc' := 140) W45 155 d_method_5_code_137 (by decide) rfl (fun q => absurd (by decide) q) (fun _ => ?_)
  refine Go.aload (pc' := 142) W45 d_method_5_code_140 rfl rfl rfl ?_
  refine Go.bipush (pc' := 144) W45 (7 : Int32) d_method_5_code_142 (by decide) rfl ?_
  refine Go.aloadN (pc' := 145) W45 d_method_5_code_144 rfl rfl rfl ?_
  refine Go.bipush (pc' := 147) W45 (7 : Int32) d_method_5_code_145 (by decide) rfl ?_
  refine Go.iloadN (pc' := 148) W45 d_method_5_code_147 rfl rfl ?_
  refine Go.iloadN (pc' := 149) W45 d_method_5_code_148 rfl rfl ?_
  refine Go.iload (pc' := 151) W45 d_method_5_code_149 rfl rfl ?_
  refine Go.static (pc' := 154) W45 (rm_at_t G a b c cb [(99 : Int32), (111 : Int32), (110 : Int32), (102 : Int32), (105 : Int32), (103 : Int32), (117 : Int32), (114 : Int32), (101 : Int32)] S 7 j (by decide) (by omega) ch hch (114 : Int32) rfl (101 : Int32) rfl) (w_79 G) (w_80 G) (w_74 G) (w_81 G) (by decide) [] [0, 1] (σf := [(a1, c46)]) rfl rfl [(.ref a), (.int (7 : Int32)), (.int (2 : Int32)), (.int j.toInt32), (.int ch)] [(.int (7 : Int32)), (.ref a1)] rfl (lenOf pd_21 rfl) rfl rfl d_method_5_code_151 rfl (by first | exact Nat.le_of_ble_eq_true rfl | (simp; done) | (simp; omega) | omega) (by first | exact Nat.le_of_ble_eq_true rfl | (simp; done) | (simp; omega) | omega) (by first | exact Nat.le_of_ble_eq_true rfl | (simp; done) | (simp; omega) | omega) (by first | exact Nat.le_of_ble_eq_true rfl | (simp; done) | (simp; omega) | omega) ?_
  rintro _ _ _ T48 ⟨rfl, rfl, rfl⟩ W49
  replace W49 : Wk l Z EL1 ({ frames := 5, cells := 3, slots := 20, locals := 73 } : Room) "com/example/grantline/grantline/enforcer/PermissionFromScopeNamePinLaw" method_5_code 6 (some (.object "java/lang/String")) "build" X [(a1, c46)] [(a, c), (b, cb)] T48 1 (8) := W49
  show Go Z EL1 _ _ _ X T48 154 #[.val (.ref a), .val (.int (8 : Int32)), .val (.int (2 : Int32)), .val (.int j.toInt32), .val (.int ch), .val (.ref a1)] [(.int (if 7 < j then (114 : Int32) else (101 : Int32))), (.int (7 : Int32)), (.ref a1)]
  refine Go.castore (pc' := 155) W49 0 rfl A47 7 (if 7 < j then (114 : Int32) else (101 : Int32)) (nar_char_id (lat_char (lat_ite (by decide) (by decide)))) (by decide) (by decide) (by simp) d_method_5_code_154 rfl (fun T50 c52 W51 A53 => ?_)
  replace W51 : Wk l Z EL1 ({ frames := 5, cells := 3, slots := 20, locals := 73 } : Room) "com/example/grantline/grantline/enforcer/PermissionFromScopeNamePinLaw" method_5_code 6 (some (.object "java/lang/String")) "build" X [(a1, c52)] [(a, c), (b, cb)] T50 1 (8) := W51
  replace A53 : ArrC Z c52 .char [(.int (if 0 < j then (99 : Int32) else (111 : Int32))), (.int (if 1 < j then (111 : Int32) else (110 : Int32))), (.int (if 2 < j then (110 : Int32) else (102 : Int32))), (.int (if 3 < j then (102 : Int32) else (105 : Int32))), (.int (if 4 < j then (105 : Int32) else (103 : Int32))), (.int (if 5 < j then (103 : Int32) else (117 : Int32))), (.int (if 6 < j then (117 : Int32) else (114 : Int32))), (.int (if 7 < j then (114 : Int32) else (101 : Int32)))] := A53
  refine Go.iloadN (pc' := 156) W51 d_method_5_code_155 rfl rfl ?_
  refine Go.bipush (pc' := 158) W51 (8 : Int32) d_method_5_code_156 (by decide) rfl ?_
  refine Go.icmp_le (pc' := 161) W51 176 d_method_5_code_158 (by decide) rfl (fun _ => ?_) (fun q => absurd q (by decide))
  refine Go.iloadN (pc' := 177) W51 d_method_5_code_176 rfl rfl ?_
  refine Go.bipush (pc' := 179) W51 (9 : Int32) d_method_5_code_177 (by decide) rfl ?_
  refine Go.icmp_le (pc' := 182) W51 197 d_method_5_code_179 (by decide) rfl (fun _ => ?_) (fun q => absurd q (by decide))
  refine Go.new (pc' := 200) W51 (w_54 G) (w_3 G) (w_2 G) d_method_5_code_197 rfl (by first | exact Nat.le_of_ble_eq_true rfl | (simp; done) | (simp; omega) | omega) (by first | exact Nat.le_of_ble_eq_true rfl | (simp; done) | (simp; omega) | omega) (fun T54 a56 c57 W55 O58 D59 => ?_)
  replace W55 : Wk l Z EL1 ({ frames := 5, cells := 3, slots := 20, locals := 73 } : Room) "com/example/grantline/grantline/enforcer/PermissionFromScopeNamePinLaw" method_5_code 6 (some (.object "java/lang/String")) "build" X [(a56, c57), (a1, c52)] [(a, c), (b, cb)] T54 2 (12) := W55
  have F60 : FldC Z c57 "java/lang/String" "value" "[B" (.null) := D59 (Or.inr (w_5 G)) (ty := (.array .byte)) (by decide)
  have F61 : FldC Z c57 "java/lang/String" "coder" "B" (.int (0 : Int32)) := D59 (Or.inr (w_6 G)) (ty := .byte) (by decide)
  refine Go.dup (pc' := 201) W55 d_method_5_code_200 rfl rfl ?_
  refine Go.aload (pc' := 203) W55 d_method_5_code_201 rfl rfl rfl ?_
  refine Go.special (pc' := 206) W55 (a := a56) (rm_initC G a56 a1 c57 c52 [if 0 < j then (99 : Int32) else (111 : Int32), if 1 < j then (111 : Int32) else (110 : Int32), if 2 < j then (110 : Int32) else (102 : Int32), if 3 < j then (102 : Int32) else (105 : Int32), if 4 < j then (105 : Int32) else (103 : Int32), if 5 < j then (103 : Int32) else (117 : Int32), if 6 < j then (117 : Int32) else (114 : Int32), if 7 < j then (114 : Int32) else (101 : Int32)] A53 O58 F61 F60 (Lat.cons (lat_ite (by decide) (by decide)) (Lat.cons (lat_ite (by decide) (by decide)) (Lat.cons (lat_ite (by decide) (by decide)) (Lat.cons (lat_ite (by decide) (by decide)) (Lat.cons (lat_ite (by decide) (by decide)) (Lat.cons (lat_ite (by decide) (by decide)) (Lat.cons (lat_ite (by decide) (by decide)) (Lat.cons (lat_ite (by decide) (by decide)) Lat.nil)))))))) (by simp) (show ¬ (8 : Nat).toInt32 = 0 by decide)) rfl (w_56 G) (w_57 G) (w_2 G) (w_58 G) (by decide) [0, 0] [] (σf := []) rfl rfl [(.ref a1)] [(.ref a56)] rfl (lenOf pd_22 rfl) rfl rfl d_method_5_code_203 rfl (by first | exact Nat.le_of_ble_eq_true rfl | (simp; done) | (simp; omega) | omega) (by first | exact Nat.le_of_ble_eq_true rfl | (simp; done) | (simp; omega) | omega) (by first | exact Nat.le_of_ble_eq_true rfl | (simp; done) | (simp; omega) | omega) (by first | exact Nat.le_of_ble_eq_true rfl | (simp; done) | (simp; omega) | omega) ?_
  rintro _ _ _ T66 ⟨c62, b63, c64, rfl, rfl, rfl, S65⟩ W67
  replace W67 : Wk l Z EL1 ({ frames := 5, cells := 3, slots := 20, locals := 73 } : Room) "com/example/grantline/grantline/enforcer/PermissionFromScopeNamePinLaw" method_5_code 6 (some (.object "java/lang/String")) "build" X [(a1, c52)] [(a56, c62), (b63, c64), (a, c), (b, cb)] T66 3 (20) := W67
  show Go Z EL1 _ _ _ X T66 206 #[.val (.ref a), .val (.int (8 : Int32)), .val (.int (2 : Int32)), .val (.int j.toInt32), .val (.int ch), .val (.ref a1)] [(.ref a56)]
  have W68 := W67.drop [0] (σi := [(a1, c52)]) (σf := []) rfl
  replace W68 : Wk l Z EL1 ({ frames := 5, cells := 3, slots := 20, locals := 73 } : Room) "com/example/grantline/grantline/enforcer/PermissionFromScopeNamePinLaw" method_5_code 6 (some (.object "java/lang/String")) "build" X [] [(a56, c62), (b63, c64), (a, c), (b, cb)] T66 3 (20) := W68
  have W69 := W68.keepRo [0, 1] (ρ' := [(a56, c62), (b63, c64)]) rfl
  replace W69 : Wk l Z EL1 ({ frames := 5, cells := 3, slots := 20, locals := 73 } : Room) "com/example/grantline/grantline/enforcer/PermissionFromScopeNamePinLaw" method_5_code 6 (some (.object "java/lang/String")) "build" X [] [(a56, c62), (b63, c64)] T66 3 (20) := W69
  refine Go.aret W69 rfl rfl d_method_5_code_206 (by first | exact Nat.le_of_ble_eq_true rfl | (simp; done) | (simp; omega) | omega) (by first | exact Nat.le_of_ble_eq_true rfl | (simp; done) | (simp; omega) | omega) ?_
  exact ⟨a56, c62, b63, c64, rfl, rfl, rfl, S65⟩
set_option maxRecDepth 65536 in
set_option maxHeartbeats 40000000 in
theorem rm_build_readz {l : Launch} {Z : State} {a0 : Array Value} (G : Cl Z a0) (a b : Addr) (c cb : Cell) (S : StrL Z c b cb [(114 : Int32), (101 : Int32), (97 : Int32), (100 : Int32)]) (j : Nat) (hj : j < 4) (ch : Int32) (hch : ¬ ch < 0 ∧ ¬ (255 : Int32) < ch) :
    Met l Z EL1 (⟨"com/example/grantline/grantline/enforcer/PermissionFromScopeNamePinLaw", "build", "(Ljava/lang/String;IIIC)Ljava/lang/String;"⟩ : MethodName) method_5_code 6 (some (.object "java/lang/String")) ({ frames := 5, cells := 3, slots := 12, locals := 73 } : Room) #[.ref a, .int (4 : Int32), .int (0 : Int32), .int j.toInt32, .int ch] [] [(a, c), (b, cb)] (fun v σ ρ => ∃ a c b cb, v = some (.ref a) ∧ σ = [] ∧ ρ = [(a, c), (b, cb)] ∧ StrL Z c b cb [if 0 = j then ch else (114 : Int32), if 1 = j then ch else (101 : Int32), if 2 = j then ch else (97 : Int32), if 3 = j then ch else (100 : Int32)]) := by
  refine Met.walk G.2.1 pn_17 #[.val (.ref a), .val (.int (4 : Int32)), .val (.int (0 : Int32)), .val (.int j.toInt32), .val (.int ch), .unset] (fun m => by first | (simp [entryFrame, mkF, argsToLocals, Value.category]; done) | rfl) ?_
  intro X T0 W0
  refine Go.iloadN (pc' := 1) W0 d_method_5_code_0 rfl rfl ?_
  refine Go.static (pc' := 4) W0 (rm_newArr_E G) (w_76 G) (w_77 G) (w_74 G) (w_78 G) (by decide) [] [] (σf := []) rfl rfl [(.int (4 : Int32))] [] rfl (lenOf pd_20 rfl) rfl rfl d_method_5_code_1 rfl (by first | exact Nat.le_of_ble_eq_true rfl | (simp; done) | (simp; omega) | omega) (by first | exact Nat.le_of_ble_eq_true rfl | (simp; done) | (simp; omega) | omega) (by first | exact Nat.le_of_ble_eq_true rfl | (simp; done) | (simp; omega) | omega) (by first | exact Nat.le_of_ble_eq_true rfl | (simp; done) | (simp; omega) | omega) ?_
  rintro _ _ _ T4 ⟨a1, c2, rfl, rfl, rfl, A3⟩ W5
  replace W5 : Wk l Z EL1 ({ frames := 5, cells := 3, slots := 12, locals := 73 } : Room) "com/example/grantline/grantline/enforcer/PermissionFromScopeNamePinLaw" method_5_code 6 (some (.object "java/lang/String")) "build" X [(a1, c2)] [(a, c), (b, cb)] T4 1 (4) := W5
  show Go Z EL1 _ _ _ X T4 4 #[.val (.ref a), .val (.int (4 : Int32)), .val (.int (0 : Int32)), .val (.int j.toInt32), .val (.int ch), .unset] [(.ref a1)]
  refine Go.astore (pc' := 6) W5 #[.val (.ref a), .val (.int (4 : Int32)), .val (.int (0 : Int32)), .val (.int j.toInt32), .val (.int ch), .val (.ref a1)] d_method_5_code_4 rfl rfl rfl ?_
  refine Go.iloadN (pc' := 7) W5 d_method_5_code_6 rfl rfl ?_
  refine Go.if_le (pc' := 10) W5 23 d_method_5_code_7 (by decide) rfl (fun q => absurd (by decide) q) (fun _ => ?_)
  refine Go.aload (pc' := 12) W5 d_method_5_code_10 rfl rfl rfl ?_
  refine Go.iconst (pc' := 13) W5 (0 : Int32) d_method_5_code_12 (by decide) rfl ?_
  refine Go.aloadN (pc' := 14) W5 d_method_5_code_13 rfl rfl rfl ?_
  refine Go.iconst (pc' := 15) W5 (0 : Int32) d_method_5_code_14 (by decide) rfl ?_
  refine Go.iloadN (pc' := 16) W5 d_method_5_code_15 rfl rfl ?_
  refine Go.iloadN (pc' := 17) W5 d_method_5_code_16 rfl rfl ?_
  refine Go.iload (pc' := 19) W5 d_method_5_code_17 rfl rfl ?_
  refine Go.static (pc' := 22) W5 (rm_at_z G a b c cb [(114 : Int32), (101 : Int32), (97 : Int32), (100 : Int32)] S 0 j (by decide) (by omega) ch hch (114 : Int32) rfl) (w_79 G) (w_80 G) (w_74 G) (w_81 G) (by decide) [] [0, 1] (σf := [(a1, c2)]) rfl rfl [(.ref a), (.int (0 : Int32)), (.int (0 : Int32)), (.int j.toInt32), (.int ch)] [(.int (0 : Int32)), (.ref a1)] rfl (lenOf pd_21 rfl) rfl rfl d_method_5_code_19 rfl (by first | exact Nat.le_of_ble_eq_true rfl | (simp; done) | (simp; omega) | omega) (by first | exact Nat.le_of_ble_eq_true rfl | (simp; done) | (simp; omega) | omega) (by first | exact Nat.le_of_ble_eq_true rfl | (simp; done) | (simp; omega) | omega) (by first | exact Nat.le_of_ble_eq_true rfl | (simp; done) | (simp; omega) | omega) ?_
  rintro _ _ _ T6 ⟨rfl, rfl, rfl⟩ W7
  replace W7 : Wk l Z EL1 ({ frames := 5, cells := 3, slots := 12, locals := 73 } : Room) "com/example/grantline/grantline/enforcer/PermissionFromScopeNamePinLaw" method_5_code 6 (some (.object "java/lang/String")) "build" X [(a1, c2)] [(a, c), (b, cb)] T6 1 (4) := W7
  show Go Z EL1 _ _ _ X T6 22 #[.val (.ref a), .val (.int (4 : Int32)), .val (.int (0 : Int32)), .val (.int j.toInt32), .val (.int ch), .val (.ref a1)] [(.int (if 0 = j then ch else (114 : Int32))), (.int (0 : Int32)), (.ref a1)]
  refine Go.castore (pc' := 23) W7 0 rfl A3 0 (if 0 = j then ch else (114 : Int32)) (nar_char_id (lat_char (lat_ite hch (by decide)))) (by decide) (by decide) (by simp) d_method_5_code_22 rfl (fun T8 c10 W9 A11 => ?_)
  replace W9 : Wk l Z EL1 ({ frames := 5, cells := 3, slots := 12, locals := 73 } : Room) "com/example/grantline/grantline/enforcer/PermissionFromScopeNamePinLaw" method_5_code 6 (some (.object "java/lang/String")) "build" X [(a1, c10)] [(a, c), (b, cb)] T8 1 (4) := W9
  replace A11 : ArrC Z c10 .char [(.int (if 0 = j then ch else (114 : Int32))), (.int (0 : Int32)), (.int (0 : Int32)), (.int (0 : Int32))] := A11
  refine Go.iloadN (pc' := 24) W9 d_method_5_code_23 rfl rfl ?_
  refine Go.iconst (pc' := 25) W9 (1 : Int32) d_method_5_code_24 (by decide) rfl ?_
  refine Go.icmp_le (pc' := 28) W9 41 d_method_5_code_25 (by decide) rfl (fun q => absurd (by decide) q) (fun _ => ?_)
  refine Go.aload (pc' := 30) W9 d_method_5_code_28 rfl rfl rfl ?_
  refine Go.iconst (pc' := 31) W9 (1 : Int32) d_method_5_code_30 (by decide) rfl ?_
  refine Go.aloadN (pc' := 32) W9 d_method_5_code_31 rfl rfl rfl ?_
  refine Go.iconst (pc' := 33) W9 (1 : Int32) d_method_5_code_32 (by decide) rfl ?_
  refine Go.iloadN (pc' := 34) W9 d_method_5_code_33 rfl rfl ?_
  refine Go.iloadN (pc' := 35) W9 d_method_5_code_34 rfl rfl ?_
  refine Go.iload (pc' := 37) W9 d_method_5_code_35 rfl rfl ?_
  refine Go.static (pc' := 40) W9 (rm_at_z G a b c cb [(114 : Int32), (101 : Int32), (97 : Int32), (100 : Int32)] S 1 j (by decide) (by omega) ch hch (101 : Int32) rfl) (w_79 G) (w_80 G) (w_74 G) (w_81 G) (by decide) [] [0, 1] (σf := [(a1, c10)]) rfl rfl [(.ref a), (.int (1 : Int32)), (.int (0 : Int32)), (.int j.toInt32), (.int ch)] [(.int (1 : Int32)), (.ref a1)] rfl (lenOf pd_21 rfl) rfl rfl d_method_5_code_37 rfl (by first | exact Nat.le_of_ble_eq_true rfl | (simp; done) | (simp; omega) | omega) (by first | exact Nat.le_of_ble_eq_true rfl | (simp; done) | (simp; omega) | omega) (by first | exact Nat.le_of_ble_eq_true rfl | (simp; done) | (simp; omega) | omega) (by first | exact Nat.le_of_ble_eq_true rfl | (simp; done) | (simp; omega) | omega) ?_
  rintro _ _ _ T12 ⟨rfl, rfl, rfl⟩ W13
  replace W13 : Wk l Z EL1 ({ frames := 5, cells := 3, slots := 12, locals := 73 } : Room) "com/example/grantline/grantline/enforcer/PermissionFromScopeNamePinLaw" method_5_code 6 (some (.object "java/lang/String")) "build" X [(a1, c10)] [(a, c), (b, cb)] T12 1 (4) := W13
  show Go Z EL1 _ _ _ X T12 40 #[.val (.ref a), .val (.int (4 : Int32)), .val (.int (0 : Int32)), .val (.int j.toInt32), .val (.int ch), .val (.ref a1)] [(.int (if 1 = j then ch else (101 : Int32))), (.int (1 : Int32)), (.ref a1)]
  refine Go.castore (pc' := 41) W13 0 rfl A11 1 (if 1 = j then ch else (101 : Int32)) (nar_char_id (lat_char (lat_ite hch (by decide)))) (by decide) (by decide) (by simp) d_method_5_code_40 rfl (fun T14 c16 W15 A17 => ?_)
  replace W15 : Wk l Z EL1 ({ frames := 5, cells := 3, slots := 12, locals := 73 } : Room) "com/example/grantline/grantline/enforcer/PermissionFromScopeNamePinLaw" method_5_code 6 (some (.object "java/lang/String")) "build" X [(a1, c16)] [(a, c), (b, cb)] T14 1 (4) := W15
  replace A17 : ArrC Z c16 .char [(.int (if 0 = j then ch else (114 : Int32))), (.int (if 1 = j then ch else (101 : Int32))), (.int (0 : Int32)), (.int (0 : Int32))] := A17
  refine Go.iloadN (pc' := 42) W15 d_method_5_code_41 rfl rfl ?_
  refine Go.iconst (pc' := 43) W15 (2 : Int32) d_method_5_code_42 (by decide) rfl ?_
  refine Go.icmp_le (pc' := 46) W15 59 d_method_5_code_43 (by decide) rfl (fun q => absurd (by decide) q) (fun _ => ?_)
  refine Go.aload (pc' := 48) W15 d_method_5_code_46 rfl rfl rfl ?_
  refine Go.iconst (pc' := 49) W15 (2 : Int32) d_method_5_code_48 (by decide) rfl ?_
  refine Go.aloadN (pc' := 50) W15 d_method_5_code_49 rfl rfl rfl ?_
  refine Go.iconst (pc' := 51) W15 (2 : Int32) d_method_5_code_50 (by decide) rfl ?_
  refine Go.iloadN (pc' := 52) W15 d_method_5_code_51 rfl rfl ?_
  refine Go.iloadN (pc' := 53) W15 d_method_5_code_52 rfl rfl ?_
  refine Go.iload (pc' := 55) W15 d_method_5_code_53 rfl rfl ?_
  refine Go.static (pc' := 58) W15 (rm_at_z G a b c cb [(114 : Int32), (101 : Int32), (97 : Int32), (100 : Int32)] S 2 j (by decide) (by omega) ch hch (97 : Int32) rfl) (w_79 G) (w_80 G) (w_74 G) (w_81 G) (by decide) [] [0, 1] (σf := [(a1, c16)]) rfl rfl [(.ref a), (.int (2 : Int32)), (.int (0 : Int32)), (.int j.toInt32), (.int ch)] [(.int (2 : Int32)), (.ref a1)] rfl (lenOf pd_21 rfl) rfl rfl d_method_5_code_55 rfl (by first | exact Nat.le_of_ble_eq_true rfl | (simp; done) | (simp; omega) | omega) (by first | exact Nat.le_of_ble_eq_true rfl | (simp; done) | (simp; omega) | omega) (by first | exact Nat.le_of_ble_eq_true rfl | (simp; done) | (simp; omega) | omega) (by first | exact Nat.le_of_ble_eq_true rfl | (simp; done) | (simp; omega) | omega) ?_
  rintro _ _ _ T18 ⟨rfl, rfl, rfl⟩ W19
  replace W19 : Wk l Z EL1 ({ frames := 5, cells := 3, slots := 12, locals := 73 } : Room) "com/example/grantline/grantline/enforcer/PermissionFromScopeNamePinLaw" method_5_code 6 (some (.object "java/lang/String")) "build" X [(a1, c16)] [(a, c), (b, cb)] T18 1 (4) := W19
  show Go Z EL1 _ _ _ X T18 58 #[.val (.ref a), .val (.int (4 : Int32)), .val (.int (0 : Int32)), .val (.int j.toInt32), .val (.int ch), .val (.ref a1)] [(.int (if 2 = j then ch else (97 : Int32))), (.int (2 : Int32)), (.ref a1)]
  refine Go.castore (pc' := 59) W19 0 rfl A17 2 (if 2 = j then ch else (97 : Int32)) (nar_char_id (lat_char (lat_ite hch (by decide)))) (by decide) (by decide) (by simp) d_method_5_code_58 rfl (fun T20 c22 W21 A23 => ?_)
  replace W21 : Wk l Z EL1 ({ frames := 5, cells := 3, slots := 12, locals := 73 } : Room) "com/example/grantline/grantline/enforcer/PermissionFromScopeNamePinLaw" method_5_code 6 (some (.object "java/lang/String")) "build" X [(a1, c22)] [(a, c), (b, cb)] T20 1 (4) := W21
  replace A23 : ArrC Z c22 .char [(.int (if 0 = j then ch else (114 : Int32))), (.int (if 1 = j then ch else (101 : Int32))), (.int (if 2 = j then ch else (97 : Int32))), (.int (0 : Int32))] := A23
  refine Go.iloadN (pc' := 60) W21 d_method_5_code_59 rfl rfl ?_
  refine Go.iconst (pc' := 61) W21 (3 : Int32) d_method_5_code_60 (by decide) rfl ?_
  refine Go.icmp_le (pc' := 64) W21 77 d_method_5_code_61 (by decide) rfl (fun q => absurd (by decide) q) (fun _ => ?_)
  refine Go.aload (pc' := 66) W21 d_method_5_code_64 rfl rfl rfl ?_
  refine Go.iconst (pc' := 67) W21 (3 : Int32) d_method_5_code_66 (by decide) rfl ?_
  refine Go.aloadN (pc' := 68) W21 d_method_5_code_67 rfl rfl rfl ?_
  refine Go.iconst (pc' := 69) W21 (3 : Int32) d_method_5_code_68 (by decide) rfl ?_
  refine Go.iloadN (pc' := 70) W21 d_method_5_code_69 rfl rfl ?_
  refine Go.iloadN (pc' := 71) W21 d_method_5_code_70 rfl rfl ?_
  refine Go.iload (pc' := 73) W21 d_method_5_code_71 rfl rfl ?_
  refine Go.static (pc' := 76) W21 (rm_at_z G a b c cb [(114 : Int32), (101 : Int32), (97 : Int32), (100 : Int32)] S 3 j (by decide) (by omega) ch hch (100 : Int32) rfl) (w_79 G) (w_80 G) (w_74 G) (w_81 G) (by decide) [] [0, 1] (σf := [(a1, c22)]) rfl rfl [(.ref a), (.int (3 : Int32)), (.int (0 : Int32)), (.int j.toInt32), (.int ch)] [(.int (3 : Int32)), (.ref a1)] rfl (lenOf pd_21 rfl) rfl rfl d_method_5_code_73 rfl (by first | exact Nat.le_of_ble_eq_true rfl | (simp; done) | (simp; omega) | omega) (by first | exact Nat.le_of_ble_eq_true rfl | (simp; done) | (simp; omega) | omega) (by first | exact Nat.le_of_ble_eq_true rfl | (simp; done) | (simp; omega) | omega) (by first | exact Nat.le_of_ble_eq_true rfl | (simp; done) | (simp; omega) | omega) ?_
  rintro _ _ _ T24 ⟨rfl, rfl, rfl⟩ W25
  replace W25 : Wk l Z EL1 ({ frames := 5, cells := 3, slots := 12, locals := 73 } : Room) "com/example/grantline/grantline/enforcer/PermissionFromScopeNamePinLaw" method_5_code 6 (some (.object "java/lang/String")) "build" X [(a1, c22)] [(a, c), (b, cb)] T24 1 (4) := W25
  show Go Z EL1 _ _ _ X T24 76 #[.val (.ref a), .val (.int (4 : Int32)), .val (.int (0 : Int32)), .val (.int j.toInt32), .val (.int ch), .val (.ref a1)] [(.int (if 3 = j then ch else (100 : Int32))), (.int (3 : Int32)), (.ref a1)]
  refine Go.castore (pc' := 77) W25 0 rfl A23 3 (if 3 = j then ch else (100 : Int32)) (nar_char_id (lat_char (lat_ite hch (by decide)))) (by decide) (by decide) (by simp) d_method_5_code_76 rfl (fun T26 c28 W27 A29 => ?_)
  replace W27 : Wk l Z EL1 ({ frames := 5, cells := 3, slots := 12, locals := 73 } : Room) "com/example/grantline/grantline/enforcer/PermissionFromScopeNamePinLaw" method_5_code 6 (some (.object "java/lang/String")) "build" X [(a1, c28)] [(a, c), (b, cb)] T26 1 (4) := W27
  replace A29 : ArrC Z c28 .char [(.int (if 0 = j then ch else (114 : Int32))), (.int (if 1 = j then ch else (101 : Int32))), (.int (if 2 = j then ch else (97 : Int32))), (.int (if 3 = j then ch else (100 : Int32)))] := A29
  refine Go.iloadN (pc' := 78) W27 d_method_5_code_77 rfl rfl ?_
  refine Go.iconst (pc' := 79) W27 (4 : Int32) d_method_5_code_78 (by decide) rfl ?_
  refine Go.icmp_le (pc' := 82) W27 95 d_method_5_code_79 (by decide) rfl (fun _ => ?_) (fun q => absurd q (by decide))
  refine Go.iloadN (pc' := 96) W27 d_method_5_code_95 rfl rfl ?_
  refine Go.iconst (pc' := 97) W27 (5 : Int32) d_method_5_code_96 (by decide) rfl ?_
  refine Go.icmp_le (pc' := 100) W27 113 d_method_5_code_97 (by decide) rfl (fun _ => ?_) (fun q => absurd q (by decide))
  refine Go.iloadN (pc' := 114) W27 d_method_5_code_113 rfl rfl ?_
  refine Go.bipush (pc' := 116) W27 (6 : Int32) d_method_5_code_114 (by decide) rfl ?_
  refine Go.icmp_le (pc' := 119) W27 134 d_method_5_code_116 (by decide) rfl (fun _ => ?_) (fun q => absurd q (by decide))
  refine Go.iloadN (pc' := 135) W27 d_method_5_code_134 rfl rfl ?_
  refine Go.bipush (pc' := 137) W27 (7 : Int32) d_method_5_code_135 (by decide) rfl ?_
  refine Go.icmp_le (pc' := 140) W27 155 d_method_5_code_137 (by decide) rfl (fun _ => ?_) (fun q => absurd q (by decide))
  refine Go.iloadN (pc' := 156) W27 d_method_5_code_155 rfl rfl ?_
  refine Go.bipush (pc' := 158) W27 (8 : Int32) d_method_5_code_156 (by decide) rfl ?_
  refine Go.icmp_le (pc' := 161) W27 176 d_method_5_code_158 (by decide) rfl (fun _ => ?_) (fun q => absurd q (by decide))
  refine Go.iloadN (pc' := 177) W27 d_method_5_code_176 rfl rfl ?_
  refine Go.bipush (pc' := 179) W27 (9 : Int32) d_method_5_code_177 (by decide) rfl ?_
  refine Go.icmp_le (pc' := 182) W27 197 d_method_5_code_179 (by decide) rfl (fun _ => ?_) (fun q => absurd q (by decide))
  refine Go.new (pc' := 200) W27 (w_54 G) (w_3 G) (w_2 G) d_method_5_code_197 rfl (by first | exact Nat.le_of_ble_eq_true rfl | (simp; done) | (simp; omega) | omega) (by first | exact Nat.le_of_ble_eq_true rfl | (simp; done) | (simp; omega) | omega) (fun T30 a32 c33 W31 O34 D35 => ?_)
  replace W31 : Wk l Z EL1 ({ frames := 5, cells := 3, slots := 12, locals := 73 } : Room) "com/example/grantline/grantline/enforcer/PermissionFromScopeNamePinLaw" method_5_code 6 (some (.object "java/lang/String")) "build" X [(a32, c33), (a1, c28)] [(a, c), (b, cb)] T30 2 (8) := W31
  have F36 : FldC Z c33 "java/lang/String" "value" "[B" (.null) := D35 (Or.inr (w_5 G)) (ty := (.array .byte)) (by decide)
  have F37 : FldC Z c33 "java/lang/String" "coder" "B" (.int (0 : Int32)) := D35 (Or.inr (w_6 G)) (ty := .byte) (by decide)
  refine Go.dup (pc' := 201) W31 d_method_5_code_200 rfl rfl ?_
  refine Go.aload (pc' := 203) W31 d_method_5_code_201 rfl rfl rfl ?_
  refine Go.special (pc' := 206) W31 (a := a32) (rm_initC G a32 a1 c33 c28 [if 0 = j then ch else (114 : Int32), if 1 = j then ch else (101 : Int32), if 2 = j then ch else (97 : Int32), if 3 = j then ch else (100 : Int32)] A29 O34 F37 F36 (Lat.cons (lat_ite hch (by decide)) (Lat.cons (lat_ite hch (by decide)) (Lat.cons (lat_ite hch (by decide)) (Lat.cons (lat_ite hch (by decide)) Lat.nil)))) (by simp) (show ¬ (4 : Nat).toInt32 = 0 by decide)) rfl (w_56 G) (w_57 G) (w_2 G) (w_58 G) (by decide) [0, 0] [] (σf := []) rfl rfl [(.ref a1)] [(.ref a32)] rfl (lenOf pd_22 rfl) rfl rfl d_method_5_code_203 rfl (by first | exact Nat.le_of_ble_eq_true rfl | (simp; done) | (simp; omega) | omega) (by first | exact Nat.le_of_ble_eq_true rfl | (simp; done) | (simp; omega) | omega) (by first | exact Nat.le_of_ble_eq_true rfl | (simp; done) | (simp; omega) | omega) (by first | exact Nat.le_of_ble_eq_true rfl | (simp; done) | (simp; omega) | omega) ?_
  rintro _ _ _ T42 ⟨c38, b39, c40, rfl, rfl, rfl, S41⟩ W43
  replace W43 : Wk l Z EL1 ({ frames := 5, cells := 3, slots := 12, locals := 73 } : Room) "com/example/grantline/grantline/enforcer/PermissionFromScopeNamePinLaw" method_5_code 6 (some (.object "java/lang/String")) "build" X [(a1, c28)] [(a32, c38), (b39, c40), (a, c), (b, cb)] T42 3 (12) := W43
  show Go Z EL1 _ _ _ X T42 206 #[.val (.ref a), .val (.int (4 : Int32)), .val (.int (0 : Int32)), .val (.int j.toInt32), .val (.int ch), .val (.ref a1)] [(.ref a32)]
  have W44 := W43.drop [0] (σi := [(a1, c28)]) (σf := []) rfl
  replace W44 : Wk l Z EL1 ({ frames := 5, cells := 3, slots := 12, locals := 73 } : Room) "com/example/grantline/grantline/enforcer/PermissionFromScopeNamePinLaw" method_5_code 6 (some (.object "java/lang/String")) "build" X [] [(a32, c38), (b39, c40), (a, c), (b, cb)] T42 3 (12) := W44
  have W45 := W44.keepRo [0, 1] (ρ' := [(a32, c38), (b39, c40)]) rfl
  replace W45 : Wk l Z EL1 ({ frames := 5, cells := 3, slots := 12, locals := 73 } : Room) "com/example/grantline/grantline/enforcer/PermissionFromScopeNamePinLaw" method_5_code 6 (some (.object "java/lang/String")) "build" X [] [(a32, c38), (b39, c40)] T42 3 (12) := W45
  refine Go.aret W45 rfl rfl d_method_5_code_206 (by first | exact Nat.le_of_ble_eq_true rfl | (simp; done) | (simp; omega) | omega) (by first | exact Nat.le_of_ble_eq_true rfl | (simp; done) | (simp; omega) | omega) ?_
  exact ⟨a32, c38, b39, c40, rfl, rfl, rfl, S41⟩
set_option maxRecDepth 65536 in
set_option maxHeartbeats 40000000 in
theorem rm_build_reado {l : Launch} {Z : State} {a0 : Array Value} (G : Cl Z a0) (a b : Addr) (c cb : Cell) (S : StrL Z c b cb [(114 : Int32), (101 : Int32), (97 : Int32), (100 : Int32)]) (j : Nat) (hj : j < 4) (ch : Int32) (hch : ¬ ch < 0 ∧ ¬ (255 : Int32) < ch) :
    Met l Z EL1 (⟨"com/example/grantline/grantline/enforcer/PermissionFromScopeNamePinLaw", "build", "(Ljava/lang/String;IIIC)Ljava/lang/String;"⟩ : MethodName) method_5_code 6 (some (.object "java/lang/String")) ({ frames := 5, cells := 3, slots := 14, locals := 73 } : Room) #[.ref a, .int (5 : Int32), .int (1 : Int32), .int j.toInt32, .int ch] [] [(a, c), (b, cb)] (fun v σ ρ => ∃ a c b cb, v = some (.ref a) ∧ σ = [] ∧ ρ = [(a, c), (b, cb)] ∧ StrL Z c b cb [(114 : Int32), (101 : Int32), (97 : Int32), (100 : Int32), ch]) := by
  refine Met.walk G.2.1 pn_17 #[.val (.ref a), .val (.int (5 : Int32)), .val (.int (1 : Int32)), .val (.int j.toInt32), .val (.int ch), .unset] (fun m => by first | (simp [entryFrame, mkF, argsToLocals, Value.category]; done) | rfl) ?_
  intro X T0 W0
  refine Go.iloadN (pc' := 1) W0 d_method_5_code_0 rfl rfl ?_
  refine Go.static (pc' := 4) W0 (rm_newArr_F G) (w_76 G) (w_77 G) (w_74 G) (w_78 G) (by decide) [] [] (σf := []) rfl rfl [(.int (5 : Int32))] [] rfl (lenOf pd_20 rfl) rfl rfl d_method_5_code_1 rfl (by first | exact Nat.le_of_ble_eq_true rfl | (simp; done) | (simp; omega) | omega) (by first | exact Nat.le_of_ble_eq_true rfl | (simp; done) | (simp; omega) | omega) (by first | exact Nat.le_of_ble_eq_true rfl | (simp; done) | (simp; omega) | omega) (by first | exact Nat.le_of_ble_eq_true rfl | (simp; done) | (simp; omega) | omega) ?_
  rintro _ _ _ T4 ⟨a1, c2, rfl, rfl, rfl, A3⟩ W5
  replace W5 : Wk l Z EL1 ({ frames := 5, cells := 3, slots := 14, locals := 73 } : Room) "com/example/grantline/grantline/enforcer/PermissionFromScopeNamePinLaw" method_5_code 6 (some (.object "java/lang/String")) "build" X [(a1, c2)] [(a, c), (b, cb)] T4 1 (5) := W5
  show Go Z EL1 _ _ _ X T4 4 #[.val (.ref a), .val (.int (5 : Int32)), .val (.int (1 : Int32)), .val (.int j.toInt32), .val (.int ch), .unset] [(.ref a1)]
  refine Go.astore (pc' := 6) W5 #[.val (.ref a), .val (.int (5 : Int32)), .val (.int (1 : Int32)), .val (.int j.toInt32), .val (.int ch), .val (.ref a1)] d_method_5_code_4 rfl rfl rfl ?_
  refine Go.iloadN (pc' := 7) W5 d_method_5_code_6 rfl rfl ?_
  refine Go.if_le (pc' := 10) W5 23 d_method_5_code_7 (by decide) rfl (fun q => absurd (by decide) q) (fun _ => ?_)
  refine Go.aload (pc' := 12) W5 d_method_5_code_10 rfl rfl rfl ?_
  refine Go.iconst (pc' := 13) W5 (0 : Int32) d_method_5_code_12 (by decide) rfl ?_
  refine Go.aloadN (pc' := 14) W5 d_method_5_code_13 rfl rfl rfl ?_
  refine Go.iconst (pc' := 15) W5 (0 : Int32) d_method_5_code_14 (by decide) rfl ?_
  refine Go.iloadN (pc' := 16) W5 d_method_5_code_15 rfl rfl ?_
  refine Go.iloadN (pc' := 17) W5 d_method_5_code_16 rfl rfl ?_
  refine Go.iload (pc' := 19) W5 d_method_5_code_17 rfl rfl ?_
  refine Go.static (pc' := 22) W5 (rm_at_o G a b c cb [(114 : Int32), (101 : Int32), (97 : Int32), (100 : Int32)] S 0 j (by decide) (by omega) ch hch (114 : Int32) rfl) (w_79 G) (w_80 G) (w_74 G) (w_81 G) (by decide) [] [0, 1] (σf := [(a1, c2)]) rfl rfl [(.ref a), (.int (0 : Int32)), (.int (1 : Int32)), (.int j.toInt32), (.int ch)] [(.int (0 : Int32)), (.ref a1)] rfl (lenOf pd_21 rfl) rfl rfl d_method_5_code_19 rfl (by first | exact Nat.le_of_ble_eq_true rfl | (simp; done) | (simp; omega) | omega) (by first | exact Nat.le_of_ble_eq_true rfl | (simp; done) | (simp; omega) | omega) (by first | exact Nat.le_of_ble_eq_true rfl | (simp; done) | (simp; omega) | omega) (by first | exact Nat.le_of_ble_eq_true rfl | (simp; done) | (simp; omega) | omega) ?_
  rintro _ _ _ T6 ⟨rfl, rfl, rfl⟩ W7
  replace W7 : Wk l Z EL1 ({ frames := 5, cells := 3, slots := 14, locals := 73 } : Room) "com/example/grantline/grantline/enforcer/PermissionFromScopeNamePinLaw" method_5_code 6 (some (.object "java/lang/String")) "build" X [(a1, c2)] [(a, c), (b, cb)] T6 1 (5) := W7
  show Go Z EL1 _ _ _ X T6 22 #[.val (.ref a), .val (.int (5 : Int32)), .val (.int (1 : Int32)), .val (.int j.toInt32), .val (.int ch), .val (.ref a1)] [(.int (114 : Int32)), (.int (0 : Int32)), (.ref a1)]
  refine Go.castore (pc' := 23) W7 0 rfl A3 0 (114 : Int32) (nar_char_id (lat_char (by decide))) (by decide) (by decide) (by simp) d_method_5_code_22 rfl (fun T8 c10 W9 A11 => ?_)
  replace W9 : Wk l Z EL1 ({ frames := 5, cells := 3, slots := 14, locals := 73 } : Room) "com/example/grantline/grantline/enforcer/PermissionFromScopeNamePinLaw" method_5_code 6 (some (.object "java/lang/String")) "build" X [(a1, c10)] [(a, c), (b, cb)] T8 1 (5) := W9
  replace A11 : ArrC Z c10 .char [(.int (114 : Int32)), (.int (0 : Int32)), (.int (0 : Int32)), (.int (0 : Int32)), (.int (0 : Int32))] := A11
  refine Go.iloadN (pc' := 24) W9 d_method_5_code_23 rfl rfl ?_
  refine Go.iconst (pc' := 25) W9 (1 : Int32) d_method_5_code_24 (by decide) rfl ?_
  refine Go.icmp_le (pc' := 28) W9 41 d_method_5_code_25 (by decide) rfl (fun q => absurd (by decide) q) (fun _ => ?_)
  refine Go.aload (pc' := 30) W9 d_method_5_code_28 rfl rfl rfl ?_
  refine Go.iconst (pc' := 31) W9 (1 : Int32) d_method_5_code_30 (by decide) rfl ?_
  refine Go.aloadN (pc' := 32) W9 d_method_5_code_31 rfl rfl rfl ?_
  refine Go.iconst (pc' := 33) W9 (1 : Int32) d_method_5_code_32 (by decide) rfl ?_
  refine Go.iloadN (pc' := 34) W9 d_method_5_code_33 rfl rfl ?_
  refine Go.iloadN (pc' := 35) W9 d_method_5_code_34 rfl rfl ?_
  refine Go.iload (pc' := 37) W9 d_method_5_code_35 rfl rfl ?_
  refine Go.static (pc' := 40) W9 (rm_at_o G a b c cb [(114 : Int32), (101 : Int32), (97 : Int32), (100 : Int32)] S 1 j (by decide) (by omega) ch hch (101 : Int32) rfl) (w_79 G) (w_80 G) (w_74 G) (w_81 G) (by decide) [] [0, 1] (σf := [(a1, c10)]) rfl rfl [(.ref a), (.int (1 : Int32)), (.int (1 : Int32)), (.int j.toInt32), (.int ch)] [(.int (1 : Int32)), (.ref a1)] rfl (lenOf pd_21 rfl) rfl rfl d_method_5_code_37 rfl (by first | exact Nat.le_of_ble_eq_true rfl | (simp; done) | (simp; omega) | omega) (by first | exact Nat.le_of_ble_eq_true rfl | (simp; done) | (simp; omega) | omega) (by first | exact Nat.le_of_ble_eq_true rfl | (simp; done) | (simp; omega) | omega) (by first | exact Nat.le_of_ble_eq_true rfl | (simp; done) | (simp; omega) | omega) ?_
  rintro _ _ _ T12 ⟨rfl, rfl, rfl⟩ W13
  replace W13 : Wk l Z EL1 ({ frames := 5, cells := 3, slots := 14, locals := 73 } : Room) "com/example/grantline/grantline/enforcer/PermissionFromScopeNamePinLaw" method_5_code 6 (some (.object "java/lang/String")) "build" X [(a1, c10)] [(a, c), (b, cb)] T12 1 (5) := W13
  show Go Z EL1 _ _ _ X T12 40 #[.val (.ref a), .val (.int (5 : Int32)), .val (.int (1 : Int32)), .val (.int j.toInt32), .val (.int ch), .val (.ref a1)] [(.int (101 : Int32)), (.int (1 : Int32)), (.ref a1)]
  refine Go.castore (pc' := 41) W13 0 rfl A11 1 (101 : Int32) (nar_char_id (lat_char (by decide))) (by decide) (by decide) (by simp) d_method_5_code_40 rfl (fun T14 c16 W15 A17 => ?_)
  replace W15 : Wk l Z EL1 ({ frames := 5, cells := 3, slots := 14, locals := 73 } : Room) "com/example/grantline/grantline/enforcer/PermissionFromScopeNamePinLaw" method_5_code 6 (some (.object "java/lang/String")) "build" X [(a1, c16)] [(a, c), (b, cb)] T14 1 (5) := W15
  replace A17 : ArrC Z c16 .char [(.int (114 : Int32)), (.int (101 : Int32)), (.int (0 : Int32)), (.int (0 : Int32)), (.int (0 : Int32))] := A17
  refine Go.iloadN (pc' := 42) W15 d_method_5_code_41 rfl rfl ?_
  refine Go.iconst (pc' := 43) W15 (2 : Int32) d_method_5_code_42 (by decide) rfl ?_
  refine Go.icmp_le (pc' := 46) W15 59 d_method_5_code_43 (by decide) rfl (fun q => absurd (by decide) q) (fun _ => ?_)
  refine Go.aload (pc' := 48) W15 d_method_5_code_46 rfl rfl rfl ?_
  refine Go.iconst (pc' := 49) W15 (2 : Int32) d_method_5_code_48 (by decide) rfl ?_
  refine Go.aloadN (pc' := 50) W15 d_method_5_code_49 rfl rfl rfl ?_
  refine Go.iconst (pc' := 51) W15 (2 : Int32) d_method_5_code_50 (by decide) rfl ?_
  refine Go.iloadN (pc' := 52) W15 d_method_5_code_51 rfl rfl ?_
  refine Go.iloadN (pc' := 53) W15 d_method_5_code_52 rfl rfl ?_
  refine Go.iload (pc' := 55) W15 d_method_5_code_53 rfl rfl ?_
  refine Go.static (pc' := 58) W15 (rm_at_o G a b c cb [(114 : Int32), (101 : Int32), (97 : Int32), (100 : Int32)] S 2 j (by decide) (by omega) ch hch (97 : Int32) rfl) (w_79 G) (w_80 G) (w_74 G) (w_81 G) (by decide) [] [0, 1] (σf := [(a1, c16)]) rfl rfl [(.ref a), (.int (2 : Int32)), (.int (1 : Int32)), (.int j.toInt32), (.int ch)] [(.int (2 : Int32)), (.ref a1)] rfl (lenOf pd_21 rfl) rfl rfl d_method_5_code_55 rfl (by first | exact Nat.le_of_ble_eq_true rfl | (simp; done) | (simp; omega) | omega) (by first | exact Nat.le_of_ble_eq_true rfl | (simp; done) | (simp; omega) | omega) (by first | exact Nat.le_of_ble_eq_true rfl | (simp; done) | (simp; omega) | omega) (by first | exact Nat.le_of_ble_eq_true rfl | (simp; done) | (simp; omega) | omega) ?_
  rintro _ _ _ T18 ⟨rfl, rfl, rfl⟩ W19
  replace W19 : Wk l Z EL1 ({ frames := 5, cells := 3, slots := 14, locals := 73 } : Room) "com/example/grantline/grantline/enforcer/PermissionFromScopeNamePinLaw" method_5_code 6 (some (.object "java/lang/String")) "build" X [(a1, c16)] [(a, c), (b, cb)] T18 1 (5) := W19
  show Go Z EL1 _ _ _ X T18 58 #[.val (.ref a), .val (.int (5 : Int32)), .val (.int (1 : Int32)), .val (.int j.toInt32), .val (.int ch), .val (.ref a1)] [(.int (97 : Int32)), (.int (2 : Int32)), (.ref a1)]
  refine Go.castore (pc' := 59) W19 0 rfl A17 2 (97 : Int32) (nar_char_id (lat_char (by decide))) (by decide) (by decide) (by simp) d_method_5_code_58 rfl (fun T20 c22 W21 A23 => ?_)
  replace W21 : Wk l Z EL1 ({ frames := 5, cells := 3, slots := 14, locals := 73 } : Room) "com/example/grantline/grantline/enforcer/PermissionFromScopeNamePinLaw" method_5_code 6 (some (.object "java/lang/String")) "build" X [(a1, c22)] [(a, c), (b, cb)] T20 1 (5) := W21
  replace A23 : ArrC Z c22 .char [(.int (114 : Int32)), (.int (101 : Int32)), (.int (97 : Int32)), (.int (0 : Int32)), (.int (0 : Int32))] := A23
  refine Go.iloadN (pc' := 60) W21 d_method_5_code_59 rfl rfl ?_
  refine Go.iconst (pc' := 61) W21 (3 : Int32) d_method_5_code_60 (by decide) rfl ?_
  refine Go.icmp_le (pc' := 64) W21 77 d_method_5_code_61 (by decide) rfl (fun q => absurd (by decide) q) (fun _ => ?_)
  refine Go.aload (pc' := 66) W21 d_method_5_code_64 rfl rfl rfl ?_
  refine Go.iconst (pc' := 67) W21 (3 : Int32) d_method_5_code_66 (by decide) rfl ?_
  refine Go.aloadN (pc' := 68) W21 d_method_5_code_67 rfl rfl rfl ?_
  refine Go.iconst (pc' := 69) W21 (3 : Int32) d_method_5_code_68 (by decide) rfl ?_
  refine Go.iloadN (pc' := 70) W21 d_method_5_code_69 rfl rfl ?_
  refine Go.iloadN (pc' := 71) W21 d_method_5_code_70 rfl rfl ?_
  refine Go.iload (pc' := 73) W21 d_method_5_code_71 rfl rfl ?_
  refine Go.static (pc' := 76) W21 (rm_at_o G a b c cb [(114 : Int32), (101 : Int32), (97 : Int32), (100 : Int32)] S 3 j (by decide) (by omega) ch hch (100 : Int32) rfl) (w_79 G) (w_80 G) (w_74 G) (w_81 G) (by decide) [] [0, 1] (σf := [(a1, c22)]) rfl rfl [(.ref a), (.int (3 : Int32)), (.int (1 : Int32)), (.int j.toInt32), (.int ch)] [(.int (3 : Int32)), (.ref a1)] rfl (lenOf pd_21 rfl) rfl rfl d_method_5_code_73 rfl (by first | exact Nat.le_of_ble_eq_true rfl | (simp; done) | (simp; omega) | omega) (by first | exact Nat.le_of_ble_eq_true rfl | (simp; done) | (simp; omega) | omega) (by first | exact Nat.le_of_ble_eq_true rfl | (simp; done) | (simp; omega) | omega) (by first | exact Nat.le_of_ble_eq_true rfl | (simp; done) | (simp; omega) | omega) ?_
  rintro _ _ _ T24 ⟨rfl, rfl, rfl⟩ W25
  replace W25 : Wk l Z EL1 ({ frames := 5, cells := 3, slots := 14, locals := 73 } : Room) "com/example/grantline/grantline/enforcer/PermissionFromScopeNamePinLaw" method_5_code 6 (some (.object "java/lang/String")) "build" X [(a1, c22)] [(a, c), (b, cb)] T24 1 (5) := W25
  show Go Z EL1 _ _ _ X T24 76 #[.val (.ref a), .val (.int (5 : Int32)), .val (.int (1 : Int32)), .val (.int j.toInt32), .val (.int ch), .val (.ref a1)] [(.int (100 : Int32)), (.int (3 : Int32)), (.ref a1)]
  refine Go.castore (pc' := 77) W25 0 rfl A23 3 (100 : Int32) (nar_char_id (lat_char (by decide))) (by decide) (by decide) (by simp) d_method_5_code_76 rfl (fun T26 c28 W27 A29 => ?_)
  replace W27 : Wk l Z EL1 ({ frames := 5, cells := 3, slots := 14, locals := 73 } : Room) "com/example/grantline/grantline/enforcer/PermissionFromScopeNamePinLaw" method_5_code 6 (some (.object "java/lang/String")) "build" X [(a1, c28)] [(a, c), (b, cb)] T26 1 (5) := W27
  replace A29 : ArrC Z c28 .char [(.int (114 : Int32)), (.int (101 : Int32)), (.int (97 : Int32)), (.int (100 : Int32)), (.int (0 : Int32))] := A29
  refine Go.iloadN (pc' := 78) W27 d_method_5_code_77 rfl rfl ?_
  refine Go.iconst (pc' := 79) W27 (4 : Int32) d_method_5_code_78 (by decide) rfl ?_
  refine Go.icmp_le (pc' := 82) W27 95 d_method_5_code_79 (by decide) rfl (fun q => absurd (by decide) q) (fun _ => ?_)
  refine Go.aload (pc' := 84) W27 d_method_5_code_82 rfl rfl rfl ?_
  refine Go.iconst (pc' := 85) W27 (4 : Int32) d_method_5_code_84 (by decide) rfl ?_
  refine Go.aloadN (pc' := 86) W27 d_method_5_code_85 rfl rfl rfl ?_
  refine Go.iconst (pc' := 87) W27 (4 : Int32) d_method_5_code_86 (by decide) rfl ?_
  refine Go.iloadN (pc' := 88) W27 d_method_5_code_87 rfl rfl ?_
  refine Go.iloadN (pc' := 89) W27 d_method_5_code_88 rfl rfl ?_
  refine Go.iload (pc' := 91) W27 d_method_5_code_89 rfl rfl ?_
  refine Go.static (pc' := 94) W27 (rm_at_p G a b c cb [(114 : Int32), (101 : Int32), (97 : Int32), (100 : Int32)] S 4 j (by decide) (by omega) ch hch rfl) (w_79 G) (w_80 G) (w_74 G) (w_81 G) (by decide) [] [0, 1] (σf := [(a1, c28)]) rfl rfl [(.ref a), (.int (4 : Int32)), (.int (1 : Int32)), (.int j.toInt32), (.int ch)] [(.int (4 : Int32)), (.ref a1)] rfl (lenOf pd_21 rfl) rfl rfl d_method_5_code_91 rfl (by first | exact Nat.le_of_ble_eq_true rfl | (simp; done) | (simp; omega) | omega) (by first | exact Nat.le_of_ble_eq_true rfl | (simp; done) | (simp; omega) | omega) (by first | exact Nat.le_of_ble_eq_true rfl | (simp; done) | (simp; omega) | omega) (by first | exact Nat.le_of_ble_eq_true rfl | (simp; done) | (simp; omega) | omega) ?_
  rintro _ _ _ T30 ⟨rfl, rfl, rfl⟩ W31
  replace W31 : Wk l Z EL1 ({ frames := 5, cells := 3, slots := 14, locals := 73 } : Room) "com/example/grantline/grantline/enforcer/PermissionFromScopeNamePinLaw" method_5_code 6 (some (.object "java/lang/String")) "build" X [(a1, c28)] [(a, c), (b, cb)] T30 1 (5) := W31
  show Go Z EL1 _ _ _ X T30 94 #[.val (.ref a), .val (.int (5 : Int32)), .val (.int (1 : Int32)), .val (.int j.toInt32), .val (.int ch), .val (.ref a1)] [(.int ch), (.int (4 : Int32)), (.ref a1)]
  refine Go.castore (pc' := 95) W31 0 rfl A29 4 ch (nar_char_id (lat_char hch)) (by decide) (by decide) (by simp) d_method_5_code_94 rfl (fun T32 c34 W33 A35 => ?_)
  replace W33 : Wk l Z EL1 ({ frames := 5, cells := 3, slots := 14, locals := 73 } : Room) "com/example/grantline/grantline/enforcer/PermissionFromScopeNamePinLaw" method_5_code 6 (some (.object "java/lang/String")) "build" X [(a1, c34)] [(a, c), (b, cb)] T32 1 (5) := W33
  replace A35 : ArrC Z c34 .char [(.int (114 : Int32)), (.int (101 : Int32)), (.int (97 : Int32)), (.int (100 : Int32)), (.int ch)] := A35
  refine Go.iloadN (pc' := 96) W33 d_method_5_code_95 rfl rfl ?_
  refine Go.iconst (pc' := 97) W33 (5 : Int32) d_method_5_code_96 (by decide) rfl ?_
  refine Go.icmp_le (pc' := 100) W33 113 d_method_5_code_97 (by decide) rfl (fun _ => ?_) (fun q => absurd q (by decide))
  refine Go.iloadN (pc' := 114) W33 d_method_5_code_113 rfl rfl ?_
  refine Go.bipush (pc' := 116) W33 (6 : Int32) d_method_5_code_114 (by decide) rfl ?_
  refine Go.icmp_le (pc' := 119) W33 134 d_method_5_code_116 (by decide) rfl (fun _ => ?_) (fun q => absurd q (by decide))
  refine Go.iloadN (pc' := 135) W33 d_method_5_code_134 rfl rfl ?_
  refine Go.bipush (pc' := 137) W33 (7 : Int32) d_method_5_code_135 (by decide) rfl ?_
  refine Go.icmp_le (pc' := 140) W33 155 d_method_5_code_137 (by decide) rfl (fun _ => ?_) (fun q => absurd q (by decide))
  refine Go.iloadN (pc' := 156) W33 d_method_5_code_155 rfl rfl ?_
  refine Go.bipush (pc' := 158) W33 (8 : Int32) d_method_5_code_156 (by decide) rfl ?_
  refine Go.icmp_le (pc' := 161) W33 176 d_method_5_code_158 (by decide) rfl (fun _ => ?_) (fun q => absurd q (by decide))
  refine Go.iloadN (pc' := 177) W33 d_method_5_code_176 rfl rfl ?_
  refine Go.bipush (pc' := 179) W33 (9 : Int32) d_method_5_code_177 (by decide) rfl ?_
  refine Go.icmp_le (pc' := 182) W33 197 d_method_5_code_179 (by decide) rfl (fun _ => ?_) (fun q => absurd q (by decide))
  refine Go.new (pc' := 200) W33 (w_54 G) (w_3 G) (w_2 G) d_method_5_code_197 rfl (by first | exact Nat.le_of_ble_eq_true rfl | (simp; done) | (simp; omega) | omega) (by first | exact Nat.le_of_ble_eq_true rfl | (simp; done) | (simp; omega) | omega) (fun T36 a38 c39 W37 O40 D41 => ?_)
  replace W37 : Wk l Z EL1 ({ frames := 5, cells := 3, slots := 14, locals := 73 } : Room) "com/example/grantline/grantline/enforcer/PermissionFromScopeNamePinLaw" method_5_code 6 (some (.object "java/lang/String")) "build" X [(a38, c39), (a1, c34)] [(a, c), (b, cb)] T36 2 (9) := W37
  have F42 : FldC Z c39 "java/lang/String" "value" "[B" (.null) := D41 (Or.inr (w_5 G)) (ty := (.array .byte)) (by decide)
  have F43 : FldC Z c39 "java/lang/String" "coder" "B" (.int (0 : Int32)) := D41 (Or.inr (w_6 G)) (ty := .byte) (by decide)
  refine Go.dup (pc' := 201) W37 d_method_5_code_200 rfl rfl ?_
  refine Go.aload (pc' := 203) W37 d_method_5_code_201 rfl rfl rfl ?_
  refine Go.special (pc' := 206) W37 (a := a38) (rm_initC G a38 a1 c39 c34 [(114 : Int32), (101 : Int32), (97 : Int32), (100 : Int32), ch] A35 O40 F43 F42 (Lat.cons (by decide) (Lat.cons (by decide) (Lat.cons (by decide) (Lat.cons (by decide) (Lat.cons hch Lat.nil))))) (by simp) (show ¬ (5 : Nat).toInt32 = 0 by decide)) rfl (w_56 G) (w_57 G) (w_2 G) (w_58 G) (by decide) [0, 0] [] (σf := []) rfl rfl [(.ref a1)] [(.ref a38)] rfl (lenOf pd_22 rfl) rfl rfl d_method_5_code_203 rfl (by first | exact Nat.le_of_ble_eq_true rfl | (simp; done) | (simp; omega) | omega) (by first | exact Nat.le_of_ble_eq_true rfl | (simp; done) | (simp; omega) | omega) (by first | exact Nat.le_of_ble_eq_true rfl | (simp; done) | (simp; omega) | omega) (by first | exact Nat.le_of_ble_eq_true rfl | (simp; done) | (simp; omega) | omega) ?_
  rintro _ _ _ T48 ⟨c44, b45, c46, rfl, rfl, rfl, S47⟩ W49
  replace W49 : Wk l Z EL1 ({ frames := 5, cells := 3, slots := 14, locals := 73 } : Room) "com/example/grantline/grantline/enforcer/PermissionFromScopeNamePinLaw" method_5_code 6 (some (.object "java/lang/String")) "build" X [(a1, c34)] [(a38, c44), (b45, c46), (a, c), (b, cb)] T48 3 (14) := W49
  show Go Z EL1 _ _ _ X T48 206 #[.val (.ref a), .val (.int (5 : Int32)), .val (.int (1 : Int32)), .val (.int j.toInt32), .val (.int ch), .val (.ref a1)] [(.ref a38)]
  have W50 := W49.drop [0] (σi := [(a1, c34)]) (σf := []) rfl
  replace W50 : Wk l Z EL1 ({ frames := 5, cells := 3, slots := 14, locals := 73 } : Room) "com/example/grantline/grantline/enforcer/PermissionFromScopeNamePinLaw" method_5_code 6 (some (.object "java/lang/String")) "build" X [] [(a38, c44), (b45, c46), (a, c), (b, cb)] T48 3 (14) := W50
  have W51 := W50.keepRo [0, 1] (ρ' := [(a38, c44), (b45, c46)]) rfl
  replace W51 : Wk l Z EL1 ({ frames := 5, cells := 3, slots := 14, locals := 73 } : Room) "com/example/grantline/grantline/enforcer/PermissionFromScopeNamePinLaw" method_5_code 6 (some (.object "java/lang/String")) "build" X [] [(a38, c44), (b45, c46)] T48 3 (14) := W51
  refine Go.aret W51 rfl rfl d_method_5_code_206 (by first | exact Nat.le_of_ble_eq_true rfl | (simp; done) | (simp; omega) | omega) (by first | exact Nat.le_of_ble_eq_true rfl | (simp; done) | (simp; omega) | omega) ?_
  exact ⟨a38, c44, b45, c46, rfl, rfl, rfl, S47⟩
set_option maxRecDepth 65536 in
set_option maxHeartbeats 40000000 in
theorem rm_build_readt {l : Launch} {Z : State} {a0 : Array Value} (G : Cl Z a0) (a b : Addr) (c cb : Cell) (S : StrL Z c b cb [(114 : Int32), (101 : Int32), (97 : Int32), (100 : Int32)]) (j : Nat) (hj : j < 4) (ch : Int32) (hch : ¬ ch < 0 ∧ ¬ (255 : Int32) < ch) :
    Met l Z EL1 (⟨"com/example/grantline/grantline/enforcer/PermissionFromScopeNamePinLaw", "build", "(Ljava/lang/String;IIIC)Ljava/lang/String;"⟩ : MethodName) method_5_code 6 (some (.object "java/lang/String")) ({ frames := 5, cells := 3, slots := 10, locals := 73 } : Room) #[.ref a, .int (3 : Int32), .int (2 : Int32), .int j.toInt32, .int ch] [] [(a, c), (b, cb)] (fun v σ ρ => ∃ a c b cb, v = some (.ref a) ∧ σ = [] ∧ ρ = [(a, c), (b, cb)] ∧ StrL Z c b cb [if 0 < j then (114 : Int32) else (101 : Int32), if 1 < j then (101 : Int32) else (97 : Int32), if 2 < j then (97 : Int32) else (100 : Int32)]) := by
  refine Met.walk G.2.1 pn_17 #[.val (.ref a), .val (.int (3 : Int32)), .val (.int (2 : Int32)), .val (.int j.toInt32), .val (.int ch), .unset] (fun m => by first | (simp [entryFrame, mkF, argsToLocals, Value.category]; done) | rfl) ?_
  intro X T0 W0
  refine Go.iloadN (pc' := 1) W0 d_method_5_code_0 rfl rfl ?_
  refine Go.static (pc' := 4) W0 (rm_newArr_D G) (w_76 G) (w_77 G) (w_74 G) (w_78 G) (by decide) [] [] (σf := []) rfl rfl [(.int (3 : Int32))] [] rfl (lenOf pd_20 rfl) rfl rfl d_method_5_code_1 rfl (by first | exact Nat.le_of_ble_eq_true rfl | (simp; done) | (simp; omega) | omega) (by first | exact Nat.le_of_ble_eq_true rfl | (simp; done) | (simp; omega) | omega) (by first | exact Nat.le_of_ble_eq_true rfl | (simp; done) | (simp; omega) | omega) (by first | exact Nat.le_of_ble_eq_true rfl | (simp; done) | (simp; omega) | omega) ?_
  rintro _ _ _ T4 ⟨a1, c2, rfl, rfl, rfl, A3⟩ W5
  replace W5 : Wk l Z EL1 ({ frames := 5, cells := 3, slots := 10, locals := 73 } : Room) "com/example/grantline/grantline/enforcer/PermissionFromScopeNamePinLaw" method_5_code 6 (some (.object "java/lang/String")) "build" X [(a1, c2)] [(a, c), (b, cb)] T4 1 (3) := W5
  show Go Z EL1 _ _ _ X T4 4 #[.val (.ref a), .val (.int (3 : Int32)), .val (.int (2 : Int32)), .val (.int j.toInt32), .val (.int ch), .unset] [(.ref a1)]
  refine Go.astore (pc' := 6) W5 #[.val (.ref a), .val (.int (3 : Int32)), .val (.int (2 : Int32)), .val (.int j.toInt32), .val (.int ch), .val (.ref a1)] d_method_5_code_4 rfl rfl rfl ?_
  refine Go.iloadN (pc' := 7) W5 d_method_5_code_6 rfl rfl ?_
  refine Go.if_le (pc' := 10) W5 23 d_method_5_code_7 (by decide) rfl (fun q => absurd (by decide) q) (fun _ => ?_)
  refine Go.aload (pc' := 12) W5 d_method_5_code_10 rfl rfl rfl ?_
  refine Go.iconst (pc' := 13) W5 (0 : Int32) d_method_5_code_12 (by decide) rfl ?_
  refine Go.aloadN (pc' := 14) W5 d_method_5_code_13 rfl rfl rfl ?_
  refine Go.iconst (pc' := 15) W5 (0 : Int32) d_method_5_code_14 (by decide) rfl ?_
  refine Go.iloadN (pc' := 16) W5 d_method_5_code_15 rfl rfl ?_
  refine Go.iloadN (pc' := 17) W5 d_method_5_code_16 rfl rfl ?_
  refine Go.iload (pc' := 19) W5 d_method_5_code_17 rfl rfl ?_
  refine Go.static (pc' := 22) W5 (rm_at_t G a b c cb [(114 : Int32), (101 : Int32), (97 : Int32), (100 : Int32)] S 0 j (by decide) (by omega) ch hch (114 : Int32) rfl (101 : Int32) rfl) (w_79 G) (w_80 G) (w_74 G) (w_81 G) (by decide) [] [0, 1] (σf := [(a1, c2)]) rfl rfl [(.ref a), (.int (0 : Int32)), (.int (2 : Int32)), (.int j.toInt32), (.int ch)] [(.int (0 : Int32)), (.ref a1)] rfl (lenOf pd_21 rfl) rfl rfl d_method_5_code_19 rfl (by first | exact Nat.le_of_ble_eq_true rfl | (simp; done) | (simp; omega) | omega) (by first | exact Nat.le_of_ble_eq_true rfl | (simp; done) | (simp; omega) | omega) (by first | exact Nat.le_of_ble_eq_true rfl | (simp; done) | (simp; omega) | omega) (by first | exact Nat.le_of_ble_eq_true rfl | (simp; done) | (simp; omega) | omega) ?_
  rintro _ _ _ T6 ⟨rfl, rfl, rfl⟩ W7
  replace W7 : Wk l Z EL1 ({ frames := 5, cells := 3, slots := 10, locals := 73 } : Room) "com/example/grantline/grantline/enforcer/PermissionFromScopeNamePinLaw" method_5_code 6 (some (.object "java/lang/String")) "build" X [(a1, c2)] [(a, c), (b, cb)] T6 1 (3) := W7
  show Go Z EL1 _ _ _ X T6 22 #[.val (.ref a), .val (.int (3 : Int32)), .val (.int (2 : Int32)), .val (.int j.toInt32), .val (.int ch), .val (.ref a1)] [(.int (if 0 < j then (114 : Int32) else (101 : Int32))), (.int (0 : Int32)), (.ref a1)]
  refine Go.castore (pc' := 23) W7 0 rfl A3 0 (if 0 < j then (114 : Int32) else (101 : Int32)) (nar_char_id (lat_char (lat_ite (by decide) (by decide)))) (by decide) (by decide) (by simp) d_method_5_code_22 rfl (fun T8 c10 W9 A11 => ?_)
  replace W9 : Wk l Z EL1 ({ frames := 5, cells := 3, slots := 10, locals := 73 } : Room) "com/example/grantline/grantline/enforcer/PermissionFromScopeNamePinLaw" method_5_code 6 (some (.object "java/lang/String")) "build" X [(a1, c10)] [(a, c), (b, cb)] T8 1 (3) := W9
  replace A11 : ArrC Z c10 .char [(.int (if 0 < j then (114 : Int32) else (101 : Int32))), (.int (0 : Int32)), (.int (0 : Int32))] := A11
  refine Go.iloadN (pc' := 24) W9 d_method_5_code_23 rfl rfl ?_
  refine Go.iconst (pc' := 25) W9 (1 : Int32) d_method_5_code_24 (by decide) rfl ?_
  refine Go.icmp_le (pc' := 28) W9 41 d_method_5_code_25 (by decide) rfl (fun q => absurd (by decide) q) (fun _ => ?_)
  refine Go.aload (pc' := 30) W9 d_method_5_code_28 rfl rfl rfl ?_
  refine Go.iconst (pc' := 31) W9 (1 : Int32) d_method_5_code_30 (by decide) rfl ?_
  refine Go.aloadN (pc' := 32) W9 d_method_5_code_31 rfl rfl rfl ?_
  refine Go.iconst (pc' := 33) W9 (1 : Int32) d_method_5_code_32 (by decide) rfl ?_
  refine Go.iloadN (pc' := 34) W9 d_method_5_code_33 rfl rfl ?_
  refine Go.iloadN (pc' := 35) W9 d_method_5_code_34 rfl rfl ?_
  refine Go.iload (pc' := 37) W9 d_method_5_code_35 rfl rfl ?_
  refine Go.static (pc' := 40) W9 (rm_at_t G a b c cb [(114 : Int32), (101 : Int32), (97 : Int32), (100 : Int32)] S 1 j (by decide) (by omega) ch hch (101 : Int32) rfl (97 : Int32) rfl) (w_79 G) (w_80 G) (w_74 G) (w_81 G) (by decide) [] [0, 1] (σf := [(a1, c10)]) rfl rfl [(.ref a), (.int (1 : Int32)), (.int (2 : Int32)), (.int j.toInt32), (.int ch)] [(.int (1 : Int32)), (.ref a1)] rfl (lenOf pd_21 rfl) rfl rfl d_method_5_code_37 rfl (by first | exact Nat.le_of_ble_eq_true rfl | (simp; done) | (simp; omega) | omega) (by first | exact Nat.le_of_ble_eq_true rfl | (simp; done) | (simp; omega) | omega) (by first | exact Nat.le_of_ble_eq_true rfl | (simp; done) | (simp; omega) | omega) (by first | exact Nat.le_of_ble_eq_true rfl | (simp; done) | (simp; omega) | omega) ?_
  rintro _ _ _ T12 ⟨rfl, rfl, rfl⟩ W13
  replace W13 : Wk l Z EL1 ({ frames := 5, cells := 3, slots := 10, locals := 73 } : Room) "com/example/grantline/grantline/enforcer/PermissionFromScopeNamePinLaw" method_5_code 6 (some (.object "java/lang/String")) "build" X [(a1, c10)] [(a, c), (b, cb)] T12 1 (3) := W13
  show Go Z EL1 _ _ _ X T12 40 #[.val (.ref a), .val (.int (3 : Int32)), .val (.int (2 : Int32)), .val (.int j.toInt32), .val (.int ch), .val (.ref a1)] [(.int (if 1 < j then (101 : Int32) else (97 : Int32))), (.int (1 : Int32)), (.ref a1)]
  refine Go.castore (pc' := 41) W13 0 rfl A11 1 (if 1 < j then (101 : Int32) else (97 : Int32)) (nar_char_id (lat_char (lat_ite (by decide) (by decide)))) (by decide) (by decide) (by simp) d_method_5_code_40 rfl (fun T14 c16 W15 A17 => ?_)
  replace W15 : Wk l Z EL1 ({ frames := 5, cells := 3, slots := 10, locals := 73 } : Room) "com/example/grantline/grantline/enforcer/PermissionFromScopeNamePinLaw" method_5_code 6 (some (.object "java/lang/String")) "build" X [(a1, c16)] [(a, c), (b, cb)] T14 1 (3) := W15
  replace A17 : ArrC Z c16 .char [(.int (if 0 < j then (114 : Int32) else (101 : Int32))), (.int (if 1 < j then (101 : Int32) else (97 : Int32))), (.int (0 : Int32))] := A17
  refine Go.iloadN (pc' := 42) W15 d_method_5_code_41 rfl rfl ?_
  refine Go.iconst (pc' := 43) W15 (2 : Int32) d_method_5_code_42 (by decide) rfl ?_
  refine Go.icmp_le (pc' := 46) W15 59 d_method_5_code_43 (by decide) rfl (fun q => absurd (by decide) q) (fun _ => ?_)
  refine Go.aload (pc' := 48) W15 d_method_5_code_46 rfl rfl rfl ?_
  refine Go.iconst (pc' := 49) W15 (2 : Int32) d_method_5_code_48 (by decide) rfl ?_
  refine Go.aloadN (pc' := 50) W15 d_method_5_code_49 rfl rfl rfl ?_
  refine Go.iconst (pc' := 51) W15 (2 : Int32) d_method_5_code_50 (by decide) rfl ?_
  refine Go.iloadN (pc' := 52) W15 d_method_5_code_51 rfl rfl ?_
  refine Go.iloadN (pc' := 53) W15 d_method_5_code_52 rfl rfl ?_
  refine Go.iload (pc' := 55) W15 d_method_5_code_53 rfl rfl ?_
  refine Go.static (pc' := 58) W15 (rm_at_t G a b c cb [(114 : Int32), (101 : Int32), (97 : Int32), (100 : Int32)] S 2 j (by decide) (by omega) ch hch (97 : Int32) rfl (100 : Int32) rfl) (w_79 G) (w_80 G) (w_74 G) (w_81 G) (by decide) [] [0, 1] (σf := [(a1, c16)]) rfl rfl [(.ref a), (.int (2 : Int32)), (.int (2 : Int32)), (.int j.toInt32), (.int ch)] [(.int (2 : Int32)), (.ref a1)] rfl (lenOf pd_21 rfl) rfl rfl d_method_5_code_55 rfl (by first | exact Nat.le_of_ble_eq_true rfl | (simp; done) | (simp; omega) | omega) (by first | exact Nat.le_of_ble_eq_true rfl | (simp; done) | (simp; omega) | omega) (by first | exact Nat.le_of_ble_eq_true rfl | (simp; done) | (simp; omega) | omega) (by first | exact Nat.le_of_ble_eq_true rfl | (simp; done) | (simp; omega) | omega) ?_
  rintro _ _ _ T18 ⟨rfl, rfl, rfl⟩ W19
  replace W19 : Wk l Z EL1 ({ frames := 5, cells := 3, slots := 10, locals := 73 } : Room) "com/example/grantline/grantline/enforcer/PermissionFromScopeNamePinLaw" method_5_code 6 (some (.object "java/lang/String")) "build" X [(a1, c16)] [(a, c), (b, cb)] T18 1 (3) := W19
  show Go Z EL1 _ _ _ X T18 58 #[.val (.ref a), .val (.int (3 : Int32)), .val (.int (2 : Int32)), .val (.int j.toInt32), .val (.int ch), .val (.ref a1)] [(.int (if 2 < j then (97 : Int32) else (100 : Int32))), (.int (2 : Int32)), (.ref a1)]
  refine Go.castore (pc' := 59) W19 0 rfl A17 2 (if 2 < j then (97 : Int32) else (100 : Int32)) (nar_char_id (lat_char (lat_ite (by decide) (by decide)))) (by decide) (by decide) (by simp) d_method_5_code_58 rfl (fun T20 c22 W21 A23 => ?_)
  replace W21 : Wk l Z EL1 ({ frames := 5, cells := 3, slots := 10, locals := 73 } : Room) "com/example/grantline/grantline/enforcer/PermissionFromScopeNamePinLaw" method_5_code 6 (some (.object "java/lang/String")) "build" X [(a1, c22)] [(a, c), (b, cb)] T20 1 (3) := W21
  replace A23 : ArrC Z c22 .char [(.int (if 0 < j then (114 : Int32) else (101 : Int32))), (.int (if 1 < j then (101 : Int32) else (97 : Int32))), (.int (if 2 < j then (97 : Int32) else (100 : Int32)))] := A23
  refine Go.iloadN (pc' := 60) W21 d_method_5_code_59 rfl rfl ?_
  refine Go.iconst (pc' := 61) W21 (3 : Int32) d_method_5_code_60 (by decide) rfl ?_
  refine Go.icmp_le (pc' := 64) W21 77 d_method_5_code_61 (by decide) rfl (fun _ => ?_) (fun q => absurd q (by decide))
  refine Go.iloadN (pc' := 78) W21 d_method_5_code_77 rfl rfl ?_
  refine Go.iconst (pc' := 79) W21 (4 : Int32) d_method_5_code_78 (by decide) rfl ?_
  refine Go.icmp_le (pc' := 82) W21 95 d_method_5_code_79 (by decide) rfl (fun _ => ?_) (fun q => absurd q (by decide))
  refine Go.iloadN (pc' := 96) W21 d_method_5_code_95 rfl rfl ?_
  refine Go.iconst (pc' := 97) W21 (5 : Int32) d_method_5_code_96 (by decide) rfl ?_
  refine Go.icmp_le (pc' := 100) W21 113 d_method_5_code_97 (by decide) rfl (fun _ => ?_) (fun q => absurd q (by decide))
  refine Go.iloadN (pc' := 114) W21 d_method_5_code_113 rfl rfl ?_
  refine Go.bipush (pc' := 116) W21 (6 : Int32) d_method_5_code_114 (by decide) rfl ?_
  refine Go.icmp_le (pc' := 119) W21 134 d_method_5_code_116 (by decide) rfl (fun _ => ?_) (fun q => absurd q (by decide))
  refine Go.iloadN (pc' := 135) W21 d_method_5_code_134 rfl rfl ?_
  refine Go.bipush (pc' := 137) W21 (7 : Int32) d_method_5_code_135 (by decide) rfl ?_
  refine Go.icmp_le (pc' := 140) W21 155 d_method_5_code_137 (by decide) rfl (fun _ => ?_) (fun q => absurd q (by decide))
  refine Go.iloadN (pc' := 156) W21 d_method_5_code_155 rfl rfl ?_
  refine Go.bipush (pc' := 158) W21 (8 : Int32) d_method_5_code_156 (by decide) rfl ?_
  refine Go.icmp_le (pc' := 161) W21 176 d_method_5_code_158 (by decide) rfl (fun _ => ?_) (fun q => absurd q (by decide))
  refine Go.iloadN (pc' := 177) W21 d_method_5_code_176 rfl rfl ?_
  refine Go.bipush (pc' := 179) W21 (9 : Int32) d_method_5_code_177 (by decide) rfl ?_
  refine Go.icmp_le (pc' := 182) W21 197 d_method_5_code_179 (by decide) rfl (fun _ => ?_) (fun q => absurd q (by decide))
  refine Go.new (pc' := 200) W21 (w_54 G) (w_3 G) (w_2 G) d_method_5_code_197 rfl (by first | exact Nat.le_of_ble_eq_true rfl | (simp; done) | (simp; omega) | omega) (by first | exact Nat.le_of_ble_eq_true rfl | (simp; done) | (simp; omega) | omega) (fun T24 a26 c27 W25 O28 D29 => ?_)
  replace W25 : Wk l Z EL1 ({ frames := 5, cells := 3, slots := 10, locals := 73 } : Room) "com/example/grantline/grantline/enforcer/PermissionFromScopeNamePinLaw" method_5_code 6 (some (.object "java/lang/String")) "build" X [(a26, c27), (a1, c22)] [(a, c), (b, cb)] T24 2 (7) := W25
  have F30 : FldC Z c27 "java/lang/String" "value" "[B" (.null) := D29 (Or.inr (w_5 G)) (ty := (.array .byte)) (by decide)
  have F31 : FldC Z c27 "java/lang/String" "coder" "B" (.int (0 : Int32)) := D29 (Or.inr (w_6 G)) (ty := .byte) (by decide)
  refine Go.dup (pc' := 201) W25 d_method_5_code_200 rfl rfl ?_
  refine Go.aload (pc' := 203) W25 d_method_5_code_201 rfl rfl rfl ?_
  refine Go.special (pc' := 206) W25 (a := a26) (rm_initC G a26 a1 c27 c22 [if 0 < j then (114 : Int32) else (101 : Int32), if 1 < j then (101 : Int32) else (97 : Int32), if 2 < j then (97 : Int32) else (100 : Int32)] A23 O28 F31 F30 (Lat.cons (lat_ite (by decide) (by decide)) (Lat.cons (lat_ite (by decide) (by decide)) (Lat.cons (lat_ite (by decide) (by decide)) Lat.nil))) (by simp) (show ¬ (3 : Nat).toInt32 = 0 by decide)) rfl (w_56 G) (w_57 G) (w_2 G) (w_58 G) (by decide) [0, 0] [] (σf := []) rfl rfl [(.ref a1)] [(.ref a26)] rfl (lenOf pd_22 rfl) rfl rfl d_method_5_code_203 rfl (by first | exact Nat.le_of_ble_eq_true rfl | (simp; done) | (simp; omega) | omega) (by first | exact Nat.le_of_ble_eq_true rfl | (simp; done) | (simp; omega) | omega) (by first | exact Nat.le_of_ble_eq_true rfl | (simp; done) | (simp; omega) | omega) (by first | exact Nat.le_of_ble_eq_true rfl | (simp; done) | (simp; omega) | omega) ?_
  rintro _ _ _ T36 ⟨c32, b33, c34, rfl, rfl, rfl, S35⟩ W37
  replace W37 : Wk l Z EL1 ({ frames := 5, cells := 3, slots := 10, locals := 73 } : Room) "com/example/grantline/grantline/enforcer/PermissionFromScopeNamePinLaw" method_5_code 6 (some (.object "java/lang/String")) "build" X [(a1, c22)] [(a26, c32), (b33, c34), (a, c), (b, cb)] T36 3 (10) := W37
  show Go Z EL1 _ _ _ X T36 206 #[.val (.ref a), .val (.int (3 : Int32)), .val (.int (2 : Int32)), .val (.int j.toInt32), .val (.int ch), .val (.ref a1)] [(.ref a26)]
  have W38 := W37.drop [0] (σi := [(a1, c22)]) (σf := []) rfl
  replace W38 : Wk l Z EL1 ({ frames := 5, cells := 3, slots := 10, locals := 73 } : Room) "com/example/grantline/grantline/enforcer/PermissionFromScopeNamePinLaw" method_5_code 6 (some (.object "java/lang/String")) "build" X [] [(a26, c32), (b33, c34), (a, c), (b, cb)] T36 3 (10) := W38
  have W39 := W38.keepRo [0, 1] (ρ' := [(a26, c32), (b33, c34)]) rfl
  replace W39 : Wk l Z EL1 ({ frames := 5, cells := 3, slots := 10, locals := 73 } : Room) "com/example/grantline/grantline/enforcer/PermissionFromScopeNamePinLaw" method_5_code 6 (some (.object "java/lang/String")) "build" X [] [(a26, c32), (b33, c34)] T36 3 (10) := W39
  refine Go.aret W39 rfl rfl d_method_5_code_206 (by first | exact Nat.le_of_ble_eq_true rfl | (simp; done) | (simp; omega) | omega) (by first | exact Nat.le_of_ble_eq_true rfl | (simp; done) | (simp; omega) | omega) ?_
  exact ⟨a26, c32, b33, c34, rfl, rfl, rfl, S35⟩
set_option maxRecDepth 65536 in
set_option maxHeartbeats 40000000 in
theorem rm_build_writez {l : Launch} {Z : State} {a0 : Array Value} (G : Cl Z a0) (a b : Addr) (c cb : Cell) (S : StrL Z c b cb [(119 : Int32), (114 : Int32), (105 : Int32), (116 : Int32), (101 : Int32)]) (j : Nat) (hj : j < 5) (ch : Int32) (hch : ¬ ch < 0 ∧ ¬ (255 : Int32) < ch) :
    Met l Z EL1 (⟨"com/example/grantline/grantline/enforcer/PermissionFromScopeNamePinLaw", "build", "(Ljava/lang/String;IIIC)Ljava/lang/String;"⟩ : MethodName) method_5_code 6 (some (.object "java/lang/String")) ({ frames := 5, cells := 3, slots := 14, locals := 73 } : Room) #[.ref a, .int (5 : Int32), .int (0 : Int32), .int j.toInt32, .int ch] [] [(a, c), (b, cb)] (fun v σ ρ => ∃ a c b cb, v = some (.ref a) ∧ σ = [] ∧ ρ = [(a, c), (b, cb)] ∧ StrL Z c b cb [if 0 = j then ch else (119 : Int32), if 1 = j then ch else (114 : Int32), if 2 = j then ch else (105 : Int32), if 3 = j then ch else (116 : Int32), if 4 = j then ch else (101 : Int32)]) := by
  refine Met.walk G.2.1 pn_17 #[.val (.ref a), .val (.int (5 : Int32)), .val (.int (0 : Int32)), .val (.int j.toInt32), .val (.int ch), .unset] (fun m => by first | (simp [entryFrame, mkF, argsToLocals, Value.category]; done) | rfl) ?_
  intro X T0 W0
  refine Go.iloadN (pc' := 1) W0 d_method_5_code_0 rfl rfl ?_
  refine Go.static (pc' := 4) W0 (rm_newArr_F G) (w_76 G) (w_77 G) (w_74 G) (w_78 G) (by decide) [] [] (σf := []) rfl rfl [(.int (5 : Int32))] [] rfl (lenOf pd_20 rfl) rfl rfl d_method_5_code_1 rfl (by first | exact Nat.le_of_ble_eq_true rfl | (simp; done) | (simp; omega) | omega) (by first | exact Nat.le_of_ble_eq_true rfl | (simp; done) | (simp; omega) | omega) (by first | exact Nat.le_of_ble_eq_true rfl | (simp; done) | (simp; omega) | omega) (by first | exact Nat.le_of_ble_eq_true rfl | (simp; done) | (simp; omega) | omega) ?_
  rintro _ _ _ T4 ⟨a1, c2, rfl, rfl, rfl, A3⟩ W5
  replace W5 : Wk l Z EL1 ({ frames := 5, cells := 3, slots := 14, locals := 73 } : Room) "com/example/grantline/grantline/enforcer/PermissionFromScopeNamePinLaw" method_5_code 6 (some (.object "java/lang/String")) "build" X [(a1, c2)] [(a, c), (b, cb)] T4 1 (5) := W5
  show Go Z EL1 _ _ _ X T4 4 #[.val (.ref a), .val (.int (5 : Int32)), .val (.int (0 : Int32)), .val (.int j.toInt32), .val (.int ch), .unset] [(.ref a1)]
  refine Go.astore (pc' := 6) W5 #[.val (.ref a), .val (.int (5 : Int32)), .val (.int (0 : Int32)), .val (.int j.toInt32), .val (.int ch), .val (.ref a1)] d_method_5_code_4 rfl rfl rfl ?_
  refine Go.iloadN (pc' := 7) W5 d_method_5_code_6 rfl rfl ?_
  refine Go.if_le (pc' := 10) W5 23 d_method_5_code_7 (by decide) rfl (fun q => absurd (by decide) q) (fun _ => ?_)
  refine Go.aload (pc' := 12) W5 d_method_5_code_10 rfl rfl rfl ?_
  refine Go.iconst (pc' := 13) W5 (0 : Int32) d_method_5_code_12 (by decide) rfl ?_
  refine Go.aloadN (pc' := 14) W5 d_method_5_code_13 rfl rfl rfl ?_
  refine Go.iconst (pc' := 15) W5 (0 : Int32) d_method_5_code_14 (by decide) rfl ?_
  refine Go.iloadN (pc' := 16) W5 d_method_5_code_15 rfl rfl ?_
  refine Go.iloadN (pc' := 17) W5 d_method_5_code_16 rfl rfl ?_
  refine Go.iload (pc' := 19) W5 d_method_5_code_17 rfl rfl ?_
  refine Go.static (pc' := 22) W5 (rm_at_z G a b c cb [(119 : Int32), (114 : Int32), (105 : Int32), (116 : Int32), (101 : Int32)] S 0 j (by decide) (by omega) ch hch (119 : Int32) rfl) (w_79 G) (w_80 G) (w_74 G) (w_81 G) (by decide) [] [0, 1] (σf := [(a1, c2)]) rfl rfl [(.ref a), (.int (0 : Int32)), (.int (0 : Int32)), (.int j.toInt32), (.int ch)] [(.int (0 : Int32)), (.ref a1)] rfl (lenOf pd_21 rfl) rfl rfl d_method_5_code_19 rfl (by first | exact Nat.le_of_ble_eq_true rfl | (simp; done) | (simp; omega) | omega) (by first | exact Nat.le_of_ble_eq_true rfl | (simp; done) | (simp; omega) | omega) (by first | exact Nat.le_of_ble_eq_true rfl | (simp; done) | (simp; omega) | omega) (by first | exact Nat.le_of_ble_eq_true rfl | (simp; done) | (simp; omega) | omega) ?_
  rintro _ _ _ T6 ⟨rfl, rfl, rfl⟩ W7
  replace W7 : Wk l Z EL1 ({ frames := 5, cells := 3, slots := 14, locals := 73 } : Room) "com/example/grantline/grantline/enforcer/PermissionFromScopeNamePinLaw" method_5_code 6 (some (.object "java/lang/String")) "build" X [(a1, c2)] [(a, c), (b, cb)] T6 1 (5) := W7
  show Go Z EL1 _ _ _ X T6 22 #[.val (.ref a), .val (.int (5 : Int32)), .val (.int (0 : Int32)), .val (.int j.toInt32), .val (.int ch), .val (.ref a1)] [(.int (if 0 = j then ch else (119 : Int32))), (.int (0 : Int32)), (.ref a1)]
  refine Go.castore (pc' := 23) W7 0 rfl A3 0 (if 0 = j then ch else (119 : Int32)) (nar_char_id (lat_char (lat_ite hch (by decide)))) (by decide) (by decide) (by simp) d_method_5_code_22 rfl (fun T8 c10 W9 A11 => ?_)
  replace W9 : Wk l Z EL1 ({ frames := 5, cells := 3, slots := 14, locals := 73 } : Room) "com/example/grantline/grantline/enforcer/PermissionFromScopeNamePinLaw" method_5_code 6 (some (.object "java/lang/String")) "build" X [(a1, c10)] [(a, c), (b, cb)] T8 1 (5) := W9
  replace A11 : ArrC Z c10 .char [(.int (if 0 = j then ch else (119 : Int32))), (.int (0 : Int32)), (.int (0 : Int32)), (.int (0 : Int32)), (.int (0 : Int32))] := A11
  refine Go.iloadN (pc' := 24) W9 d_method_5_code_23 rfl rfl ?_
  refine Go.iconst (pc' := 25) W9 (1 : Int32) d_method_5_code_24 (by decide) rfl ?_
  refine Go.icmp_le (pc' := 28) W9 41 d_method_5_code_25 (by decide) rfl (fun q => absurd (by decide) q) (fun _ => ?_)
  refine Go.aload (pc' := 30) W9 d_method_5_code_28 rfl rfl rfl ?_
  refine Go.iconst (pc' := 31) W9 (1 : Int32) d_method_5_code_30 (by decide) rfl ?_
  refine Go.aloadN (pc' := 32) W9 d_method_5_code_31 rfl rfl rfl ?_
  refine Go.iconst (pc' := 33) W9 (1 : Int32) d_method_5_code_32 (by decide) rfl ?_
  refine Go.iloadN (pc' := 34) W9 d_method_5_code_33 rfl rfl ?_
  refine Go.iloadN (pc' := 35) W9 d_method_5_code_34 rfl rfl ?_
  refine Go.iload (pc' := 37) W9 d_method_5_code_35 rfl rfl ?_
  refine Go.static (pc' := 40) W9 (rm_at_z G a b c cb [(119 : Int32), (114 : Int32), (105 : Int32), (116 : Int32), (101 : Int32)] S 1 j (by decide) (by omega) ch hch (114 : Int32) rfl) (w_79 G) (w_80 G) (w_74 G) (w_81 G) (by decide) [] [0, 1] (σf := [(a1, c10)]) rfl rfl [(.ref a), (.int (1 : Int32)), (.int (0 : Int32)), (.int j.toInt32), (.int ch)] [(.int (1 : Int32)), (.ref a1)] rfl (lenOf pd_21 rfl) rfl rfl d_method_5_code_37 rfl (by first | exact Nat.le_of_ble_eq_true rfl | (simp; done) | (simp; omega) | omega) (by first | exact Nat.le_of_ble_eq_true rfl | (simp; done) | (simp; omega) | omega) (by first | exact Nat.le_of_ble_eq_true rfl | (simp; done) | (simp; omega) | omega) (by first | exact Nat.le_of_ble_eq_true rfl | (simp; done) | (simp; omega) | omega) ?_
  rintro _ _ _ T12 ⟨rfl, rfl, rfl⟩ W13
  replace W13 : Wk l Z EL1 ({ frames := 5, cells := 3, slots := 14, locals := 73 } : Room) "com/example/grantline/grantline/enforcer/PermissionFromScopeNamePinLaw" method_5_code 6 (some (.object "java/lang/String")) "build" X [(a1, c10)] [(a, c), (b, cb)] T12 1 (5) := W13
  show Go Z EL1 _ _ _ X T12 40 #[.val (.ref a), .val (.int (5 : Int32)), .val (.int (0 : Int32)), .val (.int j.toInt32), .val (.int ch), .val (.ref a1)] [(.int (if 1 = j then ch else (114 : Int32))), (.int (1 : Int32)), (.ref a1)]
  refine Go.castore (pc' := 41) W13 0 rfl A11 1 (if 1 = j then ch else (114 : Int32)) (nar_char_id (lat_char (lat_ite hch (by decide)))) (by decide) (by decide) (by simp) d_method_5_code_40 rfl (fun T14 c16 W15 A17 => ?_)
  replace W15 : Wk l Z EL1 ({ frames := 5, cells := 3, slots := 14, locals := 73 } : Room) "com/example/grantline/grantline/enforcer/PermissionFromScopeNamePinLaw" method_5_code 6 (some (.object "java/lang/String")) "build" X [(a1, c16)] [(a, c), (b, cb)] T14 1 (5) := W15
  replace A17 : ArrC Z c16 .char [(.int (if 0 = j then ch else (119 : Int32))), (.int (if 1 = j then ch else (114 : Int32))), (.int (0 : Int32)), (.int (0 : Int32)), (.int (0 : Int32))] := A17
  refine Go.iloadN (pc' := 42) W15 d_method_5_code_41 rfl rfl ?_
  refine Go.iconst (pc' := 43) W15 (2 : Int32) d_method_5_code_42 (by decide) rfl ?_
  refine Go.icmp_le (pc' := 46) W15 59 d_method_5_code_43 (by decide) rfl (fun q => absurd (by decide) q) (fun _ => ?_)
  refine Go.aload (pc' := 48) W15 d_method_5_code_46 rfl rfl rfl ?_
  refine Go.iconst (pc' := 49) W15 (2 : Int32) d_method_5_code_48 (by decide) rfl ?_
  refine Go.aloadN (pc' := 50) W15 d_method_5_code_49 rfl rfl rfl ?_
  refine Go.iconst (pc' := 51) W15 (2 : Int32) d_method_5_code_50 (by decide) rfl ?_
  refine Go.iloadN (pc' := 52) W15 d_method_5_code_51 rfl rfl ?_
  refine Go.iloadN (pc' := 53) W15 d_method_5_code_52 rfl rfl ?_
  refine Go.iload (pc' := 55) W15 d_method_5_code_53 rfl rfl ?_
  refine Go.static (pc' := 58) W15 (rm_at_z G a b c cb [(119 : Int32), (114 : Int32), (105 : Int32), (116 : Int32), (101 : Int32)] S 2 j (by decide) (by omega) ch hch (105 : Int32) rfl) (w_79 G) (w_80 G) (w_74 G) (w_81 G) (by decide) [] [0, 1] (σf := [(a1, c16)]) rfl rfl [(.ref a), (.int (2 : Int32)), (.int (0 : Int32)), (.int j.toInt32), (.int ch)] [(.int (2 : Int32)), (.ref a1)] rfl (lenOf pd_21 rfl) rfl rfl d_method_5_code_55 rfl (by first | exact Nat.le_of_ble_eq_true rfl | (simp; done) | (simp; omega) | omega) (by first | exact Nat.le_of_ble_eq_true rfl | (simp; done) | (simp; omega) | omega) (by first | exact Nat.le_of_ble_eq_true rfl | (simp; done) | (simp; omega) | omega) (by first | exact Nat.le_of_ble_eq_true rfl | (simp; done) | (simp; omega) | omega) ?_
  rintro _ _ _ T18 ⟨rfl, rfl, rfl⟩ W19
  replace W19 : Wk l Z EL1 ({ frames := 5, cells := 3, slots := 14, locals := 73 } : Room) "com/example/grantline/grantline/enforcer/PermissionFromScopeNamePinLaw" method_5_code 6 (some (.object "java/lang/String")) "build" X [(a1, c16)] [(a, c), (b, cb)] T18 1 (5) := W19
  show Go Z EL1 _ _ _ X T18 58 #[.val (.ref a), .val (.int (5 : Int32)), .val (.int (0 : Int32)), .val (.int j.toInt32), .val (.int ch), .val (.ref a1)] [(.int (if 2 = j then ch else (105 : Int32))), (.int (2 : Int32)), (.ref a1)]
  refine Go.castore (pc' := 59) W19 0 rfl A17 2 (if 2 = j then ch else (105 : Int32)) (nar_char_id (lat_char (lat_ite hch (by decide)))) (by decide) (by decide) (by simp) d_method_5_code_58 rfl (fun T20 c22 W21 A23 => ?_)
  replace W21 : Wk l Z EL1 ({ frames := 5, cells := 3, slots := 14, locals := 73 } : Room) "com/example/grantline/grantline/enforcer/PermissionFromScopeNamePinLaw" method_5_code 6 (some (.object "java/lang/String")) "build" X [(a1, c22)] [(a, c), (b, cb)] T20 1 (5) := W21
  replace A23 : ArrC Z c22 .char [(.int (if 0 = j then ch else (119 : Int32))), (.int (if 1 = j then ch else (114 : Int32))), (.int (if 2 = j then ch else (105 : Int32))), (.int (0 : Int32)), (.int (0 : Int32))] := A23
  refine Go.iloadN (pc' := 60) W21 d_method_5_code_59 rfl rfl ?_
  refine Go.iconst (pc' := 61) W21 (3 : Int32) d_method_5_code_60 (by decide) rfl ?_
  refine Go.icmp_le (pc' := 64) W21 77 d_method_5_code_61 (by decide) rfl (fun q => absurd (by decide) q) (fun _ => ?_)
  refine Go.aload (pc' := 66) W21 d_method_5_code_64 rfl rfl rfl ?_
  refine Go.iconst (pc' := 67) W21 (3 : Int32) d_method_5_code_66 (by decide) rfl ?_
  refine Go.aloadN (pc' := 68) W21 d_method_5_code_67 rfl rfl rfl ?_
  refine Go.iconst (pc' := 69) W21 (3 : Int32) d_method_5_code_68 (by decide) rfl ?_
  refine Go.iloadN (pc' := 70) W21 d_method_5_code_69 rfl rfl ?_
  refine Go.iloadN (pc' := 71) W21 d_method_5_code_70 rfl rfl ?_
  refine Go.iload (pc' := 73) W21 d_method_5_code_71 rfl rfl ?_
  refine Go.static (pc' := 76) W21 (rm_at_z G a b c cb [(119 : Int32), (114 : Int32), (105 : Int32), (116 : Int32), (101 : Int32)] S 3 j (by decide) (by omega) ch hch (116 : Int32) rfl) (w_79 G) (w_80 G) (w_74 G) (w_81 G) (by decide) [] [0, 1] (σf := [(a1, c22)]) rfl rfl [(.ref a), (.int (3 : Int32)), (.int (0 : Int32)), (.int j.toInt32), (.int ch)] [(.int (3 : Int32)), (.ref a1)] rfl (lenOf pd_21 rfl) rfl rfl d_method_5_code_73 rfl (by first | exact Nat.le_of_ble_eq_true rfl | (simp; done) | (simp; omega) | omega) (by first | exact Nat.le_of_ble_eq_true rfl | (simp; done) | (simp; omega) | omega) (by first | exact Nat.le_of_ble_eq_true rfl | (simp; done) | (simp; omega) | omega) (by first | exact Nat.le_of_ble_eq_true rfl | (simp; done) | (simp; omega) | omega) ?_
  rintro _ _ _ T24 ⟨rfl, rfl, rfl⟩ W25
  replace W25 : Wk l Z EL1 ({ frames := 5, cells := 3, slots := 14, locals := 73 } : Room) "com/example/grantline/grantline/enforcer/PermissionFromScopeNamePinLaw" method_5_code 6 (some (.object "java/lang/String")) "build" X [(a1, c22)] [(a, c), (b, cb)] T24 1 (5) := W25
  show Go Z EL1 _ _ _ X T24 76 #[.val (.ref a), .val (.int (5 : Int32)), .val (.int (0 : Int32)), .val (.int j.toInt32), .val (.int ch), .val (.ref a1)] [(.int (if 3 = j then ch else (116 : Int32))), (.int (3 : Int32)), (.ref a1)]
  refine Go.castore (pc' := 77) W25 0 rfl A23 3 (if 3 = j then ch else (116 : Int32)) (nar_char_id (lat_char (lat_ite hch (by decide)))) (by decide) (by decide) (by simp) d_method_5_code_76 rfl (fun T26 c28 W27 A29 => ?_)
  replace W27 : Wk l Z EL1 ({ frames := 5, cells := 3, slots := 14, locals := 73 } : Room) "com/example/grantline/grantline/enforcer/PermissionFromScopeNamePinLaw" method_5_code 6 (some (.object "java/lang/String")) "build" X [(a1, c28)] [(a, c), (b, cb)] T26 1 (5) := W27
  replace A29 : ArrC Z c28 .char [(.int (if 0 = j then ch else (119 : Int32))), (.int (if 1 = j then ch else (114 : Int32))), (.int (if 2 = j then ch else (105 : Int32))), (.int (if 3 = j then ch else (116 : Int32))), (.int (0 : Int32))] := A29
  refine Go.iloadN (pc' := 78) W27 d_method_5_code_77 rfl rfl ?_
  refine Go.iconst (pc' := 79) W27 (4 : Int32) d_method_5_code_78 (by decide) rfl ?_
  refine Go.icmp_le (pc' := 82) W27 95 d_method_5_code_79 (by decide) rfl (fun q => absurd (by decide) q) (fun _ => ?_)
  refine Go.aload (pc' := 84) W27 d_method_5_code_82 rfl rfl rfl ?_
  refine Go.iconst (pc' := 85) W27 (4 : Int32) d_method_5_code_84 (by decide) rfl ?_
  refine Go.aloadN (pc' := 86) W27 d_method_5_code_85 rfl rfl rfl ?_
  refine Go.iconst (pc' := 87) W27 (4 : Int32) d_method_5_code_86 (by decide) rfl ?_
  refine Go.iloadN (pc' := 88) W27 d_method_5_code_87 rfl rfl ?_
  refine Go.iloadN (pc' := 89) W27 d_method_5_code_88 rfl rfl ?_
  refine Go.iload (pc' := 91) W27 d_method_5_code_89 rfl rfl ?_
  refine Go.static (pc' := 94) W27 (rm_at_z G a b c cb [(119 : Int32), (114 : Int32), (105 : Int32), (116 : Int32), (101 : Int32)] S 4 j (by decide) (by omega) ch hch (101 : Int32) rfl) (w_79 G) (w_80 G) (w_74 G) (w_81 G) (by decide) [] [0, 1] (σf := [(a1, c28)]) rfl rfl [(.ref a), (.int (4 : Int32)), (.int (0 : Int32)), (.int j.toInt32), (.int ch)] [(.int (4 : Int32)), (.ref a1)] rfl (lenOf pd_21 rfl) rfl rfl d_method_5_code_91 rfl (by first | exact Nat.le_of_ble_eq_true rfl | (simp; done) | (simp; omega) | omega) (by first | exact Nat.le_of_ble_eq_true rfl | (simp; done) | (simp; omega) | omega) (by first | exact Nat.le_of_ble_eq_true rfl | (simp; done) | (simp; omega) | omega) (by first | exact Nat.le_of_ble_eq_true rfl | (simp; done) | (simp; omega) | omega) ?_
  rintro _ _ _ T30 ⟨rfl, rfl, rfl⟩ W31
  replace W31 : Wk l Z EL1 ({ frames := 5, cells := 3, slots := 14, locals := 73 } : Room) "com/example/grantline/grantline/enforcer/PermissionFromScopeNamePinLaw" method_5_code 6 (some (.object "java/lang/String")) "build" X [(a1, c28)] [(a, c), (b, cb)] T30 1 (5) := W31
  show Go Z EL1 _ _ _ X T30 94 #[.val (.ref a), .val (.int (5 : Int32)), .val (.int (0 : Int32)), .val (.int j.toInt32), .val (.int ch), .val (.ref a1)] [(.int (if 4 = j then ch else (101 : Int32))), (.int (4 : Int32)), (.ref a1)]
  refine Go.castore (pc' := 95) W31 0 rfl A29 4 (if 4 = j then ch else (101 : Int32)) (nar_char_id (lat_char (lat_ite hch (by decide)))) (by decide) (by decide) (by simp) d_method_5_code_94 rfl (fun T32 c34 W33 A35 => ?_)
  replace W33 : Wk l Z EL1 ({ frames := 5, cells := 3, slots := 14, locals := 73 } : Room) "com/example/grantline/grantline/enforcer/PermissionFromScopeNamePinLaw" method_5_code 6 (some (.object "java/lang/String")) "build" X [(a1, c34)] [(a, c), (b, cb)] T32 1 (5) := W33
  replace A35 : ArrC Z c34 .char [(.int (if 0 = j then ch else (119 : Int32))), (.int (if 1 = j then ch else (114 : Int32))), (.int (if 2 = j then ch else (105 : Int32))), (.int (if 3 = j then ch else (116 : Int32))), (.int (if 4 = j then ch else (101 : Int32)))] := A35
  refine Go.iloadN (pc' := 96) W33 d_method_5_code_95 rfl rfl ?_
  refine Go.iconst (pc' := 97) W33 (5 : Int32) d_method_5_code_96 (by decide) rfl ?_
  refine Go.icmp_le (pc' := 100) W33 113 d_method_5_code_97 (by decide) rfl (fun _ => ?_) (fun q => absurd q (by decide))
  refine Go.iloadN (pc' := 114) W33 d_method_5_code_113 rfl rfl ?_
  refine Go.bipush (pc' := 116) W33 (6 : Int32) d_method_5_code_114 (by decide) rfl ?_
  refine Go.icmp_le (pc' := 119) W33 134 d_method_5_code_116 (by decide) rfl (fun _ => ?_) (fun q => absurd q (by decide))
  refine Go.iloadN (pc' := 135) W33 d_method_5_code_134 rfl rfl ?_
  refine Go.bipush (pc' := 137) W33 (7 : Int32) d_method_5_code_135 (by decide) rfl ?_
  refine Go.icmp_le (pc' := 140) W33 155 d_method_5_code_137 (by decide) rfl (fun _ => ?_) (fun q => absurd q (by decide))
  refine Go.iloadN (pc' := 156) W33 d_method_5_code_155 rfl rfl ?_
  refine Go.bipush (pc' := 158) W33 (8 : Int32) d_method_5_code_156 (by decide) rfl ?_
  refine Go.icmp_le (pc' := 161) W33 176 d_method_5_code_158 (by decide) rfl (fun _ => ?_) (fun q => absurd q (by decide))
  refine Go.iloadN (pc' := 177) W33 d_method_5_code_176 rfl rfl ?_
  refine Go.bipush (pc' := 179) W33 (9 : Int32) d_method_5_code_177 (by decide) rfl ?_
  refine Go.icmp_le (pc' := 182) W33 197 d_method_5_code_179 (by decide) rfl (fun _ => ?_) (fun q => absurd q (by decide))
  refine Go.new (pc' := 200) W33 (w_54 G) (w_3 G) (w_2 G) d_method_5_code_197 rfl (by first | exact Nat.le_of_ble_eq_true rfl | (simp; done) | (simp; omega) | omega) (by first | exact Nat.le_of_ble_eq_true rfl | (simp; done) | (simp; omega) | omega) (fun T36 a38 c39 W37 O40 D41 => ?_)
  replace W37 : Wk l Z EL1 ({ frames := 5, cells := 3, slots := 14, locals := 73 } : Room) "com/example/grantline/grantline/enforcer/PermissionFromScopeNamePinLaw" method_5_code 6 (some (.object "java/lang/String")) "build" X [(a38, c39), (a1, c34)] [(a, c), (b, cb)] T36 2 (9) := W37
  have F42 : FldC Z c39 "java/lang/String" "value" "[B" (.null) := D41 (Or.inr (w_5 G)) (ty := (.array .byte)) (by decide)
  have F43 : FldC Z c39 "java/lang/String" "coder" "B" (.int (0 : Int32)) := D41 (Or.inr (w_6 G)) (ty := .byte) (by decide)
  refine Go.dup (pc' := 201) W37 d_method_5_code_200 rfl rfl ?_
  refine Go.aload (pc' := 203) W37 d_method_5_code_201 rfl rfl rfl ?_
  refine Go.special (pc' := 206) W37 (a := a38) (rm_initC G a38 a1 c39 c34 [if 0 = j then ch else (119 : Int32), if 1 = j then ch else (114 : Int32), if 2 = j then ch else (105 : Int32), if 3 = j then ch else (116 : Int32), if 4 = j then ch else (101 : Int32)] A35 O40 F43 F42 (Lat.cons (lat_ite hch (by decide)) (Lat.cons (lat_ite hch (by decide)) (Lat.cons (lat_ite hch (by decide)) (Lat.cons (lat_ite hch (by decide)) (Lat.cons (lat_ite hch (by decide)) Lat.nil))))) (by simp) (show ¬ (5 : Nat).toInt32 = 0 by decide)) rfl (w_56 G) (w_57 G) (w_2 G) (w_58 G) (by decide) [0, 0] [] (σf := []) rfl rfl [(.ref a1)] [(.ref a38)] rfl (lenOf pd_22 rfl) rfl rfl d_method_5_code_203 rfl (by first | exact Nat.le_of_ble_eq_true rfl | (simp; done) | (simp; omega) | omega) (by first | exact Nat.le_of_ble_eq_true rfl | (simp; done) | (simp; omega) | omega) (by first | exact Nat.le_of_ble_eq_true rfl | (simp; done) | (simp; omega) | omega) (by first | exact Nat.le_of_ble_eq_true rfl | (simp; done) | (simp; omega) | omega) ?_
  rintro _ _ _ T48 ⟨c44, b45, c46, rfl, rfl, rfl, S47⟩ W49
  replace W49 : Wk l Z EL1 ({ frames := 5, cells := 3, slots := 14, locals := 73 } : Room) "com/example/grantline/grantline/enforcer/PermissionFromScopeNamePinLaw" method_5_code 6 (some (.object "java/lang/String")) "build" X [(a1, c34)] [(a38, c44), (b45, c46), (a, c), (b, cb)] T48 3 (14) := W49
  show Go Z EL1 _ _ _ X T48 206 #[.val (.ref a), .val (.int (5 : Int32)), .val (.int (0 : Int32)), .val (.int j.toInt32), .val (.int ch), .val (.ref a1)] [(.ref a38)]
  have W50 := W49.drop [0] (σi := [(a1, c34)]) (σf := []) rfl
  replace W50 : Wk l Z EL1 ({ frames := 5, cells := 3, slots := 14, locals := 73 } : Room) "com/example/grantline/grantline/enforcer/PermissionFromScopeNamePinLaw" method_5_code 6 (some (.object "java/lang/String")) "build" X [] [(a38, c44), (b45, c46), (a, c), (b, cb)] T48 3 (14) := W50
  have W51 := W50.keepRo [0, 1] (ρ' := [(a38, c44), (b45, c46)]) rfl
  replace W51 : Wk l Z EL1 ({ frames := 5, cells := 3, slots := 14, locals := 73 } : Room) "com/example/grantline/grantline/enforcer/PermissionFromScopeNamePinLaw" method_5_code 6 (some (.object "java/lang/String")) "build" X [] [(a38, c44), (b45, c46)] T48 3 (14) := W51
  refine Go.aret W51 rfl rfl d_method_5_code_206 (by first | exact Nat.le_of_ble_eq_true rfl | (simp; done) | (simp; omega) | omega) (by first | exact Nat.le_of_ble_eq_true rfl | (simp; done) | (simp; omega) | omega) ?_
  exact ⟨a38, c44, b45, c46, rfl, rfl, rfl, S47⟩
set_option maxRecDepth 65536 in
set_option maxHeartbeats 40000000 in
theorem rm_build_writeo {l : Launch} {Z : State} {a0 : Array Value} (G : Cl Z a0) (a b : Addr) (c cb : Cell) (S : StrL Z c b cb [(119 : Int32), (114 : Int32), (105 : Int32), (116 : Int32), (101 : Int32)]) (j : Nat) (hj : j < 5) (ch : Int32) (hch : ¬ ch < 0 ∧ ¬ (255 : Int32) < ch) :
    Met l Z EL1 (⟨"com/example/grantline/grantline/enforcer/PermissionFromScopeNamePinLaw", "build", "(Ljava/lang/String;IIIC)Ljava/lang/String;"⟩ : MethodName) method_5_code 6 (some (.object "java/lang/String")) ({ frames := 5, cells := 3, slots := 16, locals := 73 } : Room) #[.ref a, .int (6 : Int32), .int (1 : Int32), .int j.toInt32, .int ch] [] [(a, c), (b, cb)] (fun v σ ρ => ∃ a c b cb, v = some (.ref a) ∧ σ = [] ∧ ρ = [(a, c), (b, cb)] ∧ StrL Z c b cb [(119 : Int32), (114 : Int32), (105 : Int32), (116 : Int32), (101 : Int32), ch]) := by
  refine Met.walk G.2.1 pn_17 #[.val (.ref a), .val (.int (6 : Int32)), .val (.int (1 : Int32)), .val (.int j.toInt32), .val (.int ch), .unset] (fun m => by first | (simp [entryFrame, mkF, argsToLocals, Value.category]; done) | rfl) ?_
  intro X T0 W0
  refine Go.iloadN (pc' := 1) W0 d_method_5_code_0 rfl rfl ?_
  refine Go.static (pc' := 4) W0 (rm_newArr_G G) (w_76 G) (w_77 G) (w_74 G) (w_78 G) (by decide) [] [] (σf := []) rfl rfl [(.int (6 : Int32))] [] rfl (lenOf pd_20 rfl) rfl rfl d_method_5_code_1 rfl (by first | exact Nat.le_of_ble_eq_true rfl | (simp; done) | (simp; omega) | omega) (by first | exact Nat.le_of_ble_eq_true rfl | (simp; done) | (simp; omega) | omega) (by first | exact Nat.le_of_ble_eq_true rfl | (simp; done) | (simp; omega) | omega) (by first | exact Nat.le_of_ble_eq_true rfl | (simp; done) | (simp; omega) | omega) ?_
  rintro _ _ _ T4 ⟨a1, c2, rfl, rfl, rfl, A3⟩ W5
  replace W5 : Wk l Z EL1 ({ frames := 5, cells := 3, slots := 16, locals := 73 } : Room) "com/example/grantline/grantline/enforcer/PermissionFromScopeNamePinLaw" method_5_code 6 (some (.object "java/lang/String")) "build" X [(a1, c2)] [(a, c), (b, cb)] T4 1 (6) := W5
  show Go Z EL1 _ _ _ X T4 4 #[.val (.ref a), .val (.int (6 : Int32)), .val (.int (1 : Int32)), .val (.int j.toInt32), .val (.int ch), .unset] [(.ref a1)]
  refine Go.astore (pc' := 6) W5 #[.val (.ref a), .val (.int (6 : Int32)), .val (.int (1 : Int32)), .val (.int j.toInt32), .val (.int ch), .val (.ref a1)] d_method_5_code_4 rfl rfl rfl ?_
  refine Go.iloadN (pc' := 7) W5 d_method_5_code_6 rfl rfl ?_
  refine Go.if_le (pc' := 10) W5 23 d_method_5_code_7 (by decide) rfl (fun q => absurd (by decide) q) (fun _ => ?_)
  refine Go.aload (pc' := 12) W5 d_method_5_code_10 rfl rfl rfl ?_
  refine Go.iconst (pc' := 13) W5 (0 : Int32) d_method_5_code_12 (by decide) rfl ?_
  refine Go.aloadN (pc' := 14) W5 d_method_5_code_13 rfl rfl rfl ?_
  refine Go.iconst (pc' := 15) W5 (0 : Int32) d_method_5_code_14 (by decide) rfl ?_
  refine Go.iloadN (pc' := 16) W5 d_method_5_code_15 rfl rfl ?_
  refine Go.iloadN (pc' := 17) W5 d_method_5_code_16 rfl rfl ?_
  refine Go.iload (pc' := 19) W5 d_method_5_code_17 rfl rfl ?_
  refine Go.static (pc' := 22) W5 (rm_at_o G a b c cb [(119 : Int32), (114 : Int32), (105 : Int32), (116 : Int32), (101 : Int32)] S 0 j (by decide) (by omega) ch hch (119 : Int32) rfl) (w_79 G) (w_80 G) (w_74 G) (w_81 G) (by decide) [] [0, 1] (σf := [(a1, c2)]) rfl rfl [(.ref a), (.int (0 : Int32)), (.int (1 : Int32)), (.int j.toInt32), (.int ch)] [(.int (0 : Int32)), (.ref a1)] rfl (lenOf pd_21 rfl) rfl rfl d_method_5_code_19 rfl (by first | exact Nat.le_of_ble_eq_true rfl | (simp; done) | (simp; omega) | omega) (by first | exact Nat.le_of_ble_eq_true rfl | (simp; done) | (simp; omega) | omega) (by first | exact Nat.le_of_ble_eq_true rfl | (simp; done) | (simp; omega) | omega) (by first | exact Nat.le_of_ble_eq_true rfl | (simp; done) | (simp; omega) | omega) ?_
  rintro _ _ _ T6 ⟨rfl, rfl, rfl⟩ W7
  replace W7 : Wk l Z EL1 ({ frames := 5, cells := 3, slots := 16, locals := 73 } : Room) "com/example/grantline/grantline/enforcer/PermissionFromScopeNamePinLaw" method_5_code 6 (some (.object "java/lang/String")) "build" X [(a1, c2)] [(a, c), (b, cb)] T6 1 (6) := W7
  show Go Z EL1 _ _ _ X T6 22 #[.val (.ref a), .val (.int (6 : Int32)), .val (.int (1 : Int32)), .val (.int j.toInt32), .val (.int ch), .val (.ref a1)] [(.int (119 : Int32)), (.int (0 : Int32)), (.ref a1)]
  refine Go.castore (pc' := 23) W7 0 rfl A3 0 (119 : Int32) (nar_char_id (lat_char (by decide))) (by decide) (by decide) (by simp) d_method_5_code_22 rfl (fun T8 c10 W9 A11 => ?_)
  replace W9 : Wk l Z EL1 ({ frames := 5, cells := 3, slots := 16, locals := 73 } : Room) "com/example/grantline/grantline/enforcer/PermissionFromScopeNamePinLaw" method_5_code 6 (some (.object "java/lang/String")) "build" X [(a1, c10)] [(a, c), (b, cb)] T8 1 (6) := W9
  replace A11 : ArrC Z c10 .char [(.int (119 : Int32)), (.int (0 : Int32)), (.int (0 : Int32)), (.int (0 : Int32)), (.int (0 : Int32)), (.int (0 : Int32))] := A11
  refine Go.iloadN (pc' := 24) W9 d_method_5_code_23 rfl rfl ?_
  refine Go.iconst (pc' := 25) W9 (1 : Int32) d_method_5_code_24 (by decide) rfl ?_
  refine Go.icmp_le (pc' := 28) W9 41 d_method_5_code_25 (by decide) rfl (fun q => absurd (by decide) q) (fun _ => ?_)
  refine Go.aload (pc' := 30) W9 d_method_5_code_28 rfl rfl rfl ?_
  refine Go.iconst (pc' := 31) W9 (1 : Int32) d_method_5_code_30 (by decide) rfl ?_
  refine Go.aloadN (pc' := 32) W9 d_method_5_code_31 rfl rfl rfl ?_
  refine Go.iconst (pc' := 33) W9 (1 : Int32) d_method_5_code_32 (by decide) rfl ?_
  refine Go.iloadN (pc' := 34) W9 d_method_5_code_33 rfl rfl ?_
  refine Go.iloadN (pc' := 35) W9 d_method_5_code_34 rfl rfl ?_
  refine Go.iload (pc' := 37) W9 d_method_5_code_35 rfl rfl ?_
  refine Go.static (pc' := 40) W9 (rm_at_o G a b c cb [(119 : Int32), (114 : Int32), (105 : Int32), (116 : Int32), (101 : Int32)] S 1 j (by decide) (by omega) ch hch (114 : Int32) rfl) (w_79 G) (w_80 G) (w_74 G) (w_81 G) (by decide) [] [0, 1] (σf := [(a1, c10)]) rfl rfl [(.ref a), (.int (1 : Int32)), (.int (1 : Int32)), (.int j.toInt32), (.int ch)] [(.int (1 : Int32)), (.ref a1)] rfl (lenOf pd_21 rfl) rfl rfl d_method_5_code_37 rfl (by first | exact Nat.le_of_ble_eq_true rfl | (simp; done) | (simp; omega) | omega) (by first | exact Nat.le_of_ble_eq_true rfl | (simp; done) | (simp; omega) | omega) (by first | exact Nat.le_of_ble_eq_true rfl | (simp; done) | (simp; omega) | omega) (by first | exact Nat.le_of_ble_eq_true rfl | (simp; done) | (simp; omega) | omega) ?_
  rintro _ _ _ T12 ⟨rfl, rfl, rfl⟩ W13
  replace W13 : Wk l Z EL1 ({ frames := 5, cells := 3, slots := 16, locals := 73 } : Room) "com/example/grantline/grantline/enforcer/PermissionFromScopeNamePinLaw" method_5_code 6 (some (.object "java/lang/String")) "build" X [(a1, c10)] [(a, c), (b, cb)] T12 1 (6) := W13
  show Go Z EL1 _ _ _ X T12 40 #[.val (.ref a), .val (.int (6 : Int32)), .val (.int (1 : Int32)), .val (.int j.toInt32), .val (.int ch), .val (.ref a1)] [(.int (114 : Int32)), (.int (1 : Int32)), (.ref a1)]
  refine Go.castore (pc' := 41) W13 0 rfl A11 1 (114 : Int32) (nar_char_id (lat_char (by decide))) (by decide) (by decide) (by simp) d_method_5_code_40 rfl (fun T14 c16 W15 A17 => ?_)
  replace W15 : Wk l Z EL1 ({ frames := 5, cells := 3, slots := 16, locals := 73 } : Room) "com/example/grantline/grantline/enforcer/PermissionFromScopeNamePinLaw" method_5_code 6 (some (.object "java/lang/String")) "build" X [(a1, c16)] [(a, c), (b, cb)] T14 1 (6) := W15
  replace A17 : ArrC Z c16 .char [(.int (119 : Int32)), (.int (114 : Int32)), (.int (0 : Int32)), (.int (0 : Int32)), (.int (0 : Int32)), (.int (0 : Int32))] := A17
  refine Go.iloadN (pc' := 42) W15 d_method_5_code_41 rfl rfl ?_
  refine Go.iconst (pc' := 43) W15 (2 : Int32) d_method_5_code_42 (by decide) rfl ?_
  refine Go.icmp_le (pc' := 46) W15 59 d_method_5_code_43 (by decide) rfl (fun q => absurd (by decide) q) (fun _ => ?_)
  refine Go.aload (pc' := 48) W15 d_method_5_code_46 rfl rfl rfl ?_
  refine Go.iconst (pc' := 49) W15 (2 : Int32) d_method_5_code_48 (by decide) rfl ?_
  refine Go.aloadN (pc' := 50) W15 d_method_5_code_49 rfl rfl rfl ?_
  refine Go.iconst (pc' := 51) W15 (2 : Int32) d_method_5_code_50 (by decide) rfl ?_
  refine Go.iloadN (pc' := 52) W15 d_method_5_code_51 rfl rfl ?_
  refine Go.iloadN (pc' := 53) W15 d_method_5_code_52 rfl rfl ?_
  refine Go.iload (pc' := 55) W15 d_method_5_code_53 rfl rfl ?_
  refine Go.static (pc' := 58) W15 (rm_at_o G a b c cb [(119 : Int32), (114 : Int32), (105 : Int32), (116 : Int32), (101 : Int32)] S 2 j (by decide) (by omega) ch hch (105 : Int32) rfl) (w_79 G) (w_80 G) (w_74 G) (w_81 G) (by decide) [] [0, 1] (σf := [(a1, c16)]) rfl rfl [(.ref a), (.int (2 : Int32)), (.int (1 : Int32)), (.int j.toInt32), (.int ch)] [(.int (2 : Int32)), (.ref a1)] rfl (lenOf pd_21 rfl) rfl rfl d_method_5_code_55 rfl (by first | exact Nat.le_of_ble_eq_true rfl | (simp; done) | (simp; omega) | omega) (by first | exact Nat.le_of_ble_eq_true rfl | (simp; done) | (simp; omega) | omega) (by first | exact Nat.le_of_ble_eq_true rfl | (simp; done) | (simp; omega) | omega) (by first | exact Nat.le_of_ble_eq_true rfl | (simp; done) | (simp; omega) | omega) ?_
  rintro _ _ _ T18 ⟨rfl, rfl, rfl⟩ W19
  replace W19 : Wk l Z EL1 ({ frames := 5, cells := 3, slots := 16, locals := 73 } : Room) "com/example/grantline/grantline/enforcer/PermissionFromScopeNamePinLaw" method_5_code 6 (some (.object "java/lang/String")) "build" X [(a1, c16)] [(a, c), (b, cb)] T18 1 (6) := W19
  show Go Z EL1 _ _ _ X T18 58 #[.val (.ref a), .val (.int (6 : Int32)), .val (.int (1 : Int32)), .val (.int j.toInt32), .val (.int ch), .val (.ref a1)] [(.int (105 : Int32)), (.int (2 : Int32)), (.ref a1)]
  refine Go.castore (pc' := 59) W19 0 rfl A17 2 (105 : Int32) (nar_char_id (lat_char (by decide))) (by decide) (by decide) (by simp) d_method_5_code_58 rfl (fun T20 c22 W21 A23 => ?_)
  replace W21 : Wk l Z EL1 ({ frames := 5, cells := 3, slots := 16, locals := 73 } : Room) "com/example/grantline/grantline/enforcer/PermissionFromScopeNamePinLaw" method_5_code 6 (some (.object "java/lang/String")) "build" X [(a1, c22)] [(a, c), (b, cb)] T20 1 (6) := W21
  replace A23 : ArrC Z c22 .char [(.int (119 : Int32)), (.int (114 : Int32)), (.int (105 : Int32)), (.int (0 : Int32)), (.int (0 : Int32)), (.int (0 : Int32))] := A23
  refine Go.iloadN (pc' := 60) W21 d_method_5_code_59 rfl rfl ?_
  refine Go.iconst (pc' := 61) W21 (3 : Int32) d_method_5_code_60 (by decide) rfl ?_
  refine Go.icmp_le (pc' := 64) W21 77 d_method_5_code_61 (by decide) rfl (fun q => absurd (by decide) q) (fun _ => ?_)
  refine Go.aload (pc' := 66) W21 d_method_5_code_64 rfl rfl rfl ?_
  refine Go.iconst (pc' := 67) W21 (3 : Int32) d_method_5_code_66 (by decide) rfl ?_
  refine Go.aloadN (pc' := 68) W21 d_method_5_code_67 rfl rfl rfl ?_
  refine Go.iconst (pc' := 69) W21 (3 : Int32) d_method_5_code_68 (by decide) rfl ?_
  refine Go.iloadN (pc' := 70) W21 d_method_5_code_69 rfl rfl ?_
  refine Go.iloadN (pc' := 71) W21 d_method_5_code_70 rfl rfl ?_
  refine Go.iload (pc' := 73) W21 d_method_5_code_71 rfl rfl ?_
  refine Go.static (pc' := 76) W21 (rm_at_o G a b c cb [(119 : Int32), (114 : Int32), (105 : Int32), (116 : Int32), (101 : Int32)] S 3 j (by decide) (by omega) ch hch (116 : Int32) rfl) (w_79 G) (w_80 G) (w_74 G) (w_81 G) (by decide) [] [0, 1] (σf := [(a1, c22)]) rfl rfl [(.ref a), (.int (3 : Int32)), (.int (1 : Int32)), (.int j.toInt32), (.int ch)] [(.int (3 : Int32)), (.ref a1)] rfl (lenOf pd_21 rfl) rfl rfl d_method_5_code_73 rfl (by first | exact Nat.le_of_ble_eq_true rfl | (simp; done) | (simp; omega) | omega) (by first | exact Nat.le_of_ble_eq_true rfl | (simp; done) | (simp; omega) | omega) (by first | exact Nat.le_of_ble_eq_true rfl | (simp; done) | (simp; omega) | omega) (by first | exact Nat.le_of_ble_eq_true rfl | (simp; done) | (simp; omega) | omega) ?_
  rintro _ _ _ T24 ⟨rfl, rfl, rfl⟩ W25
  replace W25 : Wk l Z EL1 ({ frames := 5, cells := 3, slots := 16, locals := 73 } : Room) "com/example/grantline/grantline/enforcer/PermissionFromScopeNamePinLaw" method_5_code 6 (some (.object "java/lang/String")) "build" X [(a1, c22)] [(a, c), (b, cb)] T24 1 (6) := W25
  show Go Z EL1 _ _ _ X T24 76 #[.val (.ref a), .val (.int (6 : Int32)), .val (.int (1 : Int32)), .val (.int j.toInt32), .val (.int ch), .val (.ref a1)] [(.int (116 : Int32)), (.int (3 : Int32)), (.ref a1)]
  refine Go.castore (pc' := 77) W25 0 rfl A23 3 (116 : Int32) (nar_char_id (lat_char (by decide))) (by decide) (by decide) (by simp) d_method_5_code_76 rfl (fun T26 c28 W27 A29 => ?_)
  replace W27 : Wk l Z EL1 ({ frames := 5, cells := 3, slots := 16, locals := 73 } : Room) "com/example/grantline/grantline/enforcer/PermissionFromScopeNamePinLaw" method_5_code 6 (some (.object "java/lang/String")) "build" X [(a1, c28)] [(a, c), (b, cb)] T26 1 (6) := W27
  replace A29 : ArrC Z c28 .char [(.int (119 : Int32)), (.int (114 : Int32)), (.int (105 : Int32)), (.int (116 : Int32)), (.int (0 : Int32)), (.int (0 : Int32))] := A29
  refine Go.iloadN (pc' := 78) W27 d_method_5_code_77 rfl rfl ?_
  refine Go.iconst (pc' := 79) W27 (4 : Int32) d_method_5_code_78 (by decide) rfl ?_
  refine Go.icmp_le (pc' := 82) W27 95 d_method_5_code_79 (by decide) rfl (fun q => absurd (by decide) q) (fun _ => ?_)
  refine Go.aload (pc' := 84) W27 d_method_5_code_82 rfl rfl rfl ?_
  refine Go.iconst (pc' := 85) W27 (4 : Int32) d_method_5_code_84 (by decide) rfl ?_
  refine Go.aloadN (pc' := 86) W27 d_method_5_code_85 rfl rfl rfl ?_
  refine Go.iconst (pc' := 87) W27 (4 : Int32) d_method_5_code_86 (by decide) rfl ?_
  refine Go.iloadN (pc' := 88) W27 d_method_5_code_87 rfl rfl ?_
  refine Go.iloadN (pc' := 89) W27 d_method_5_code_88 rfl rfl ?_
  refine Go.iload (pc' := 91) W27 d_method_5_code_89 rfl rfl ?_
  refine Go.static (pc' := 94) W27 (rm_at_o G a b c cb [(119 : Int32), (114 : Int32), (105 : Int32), (116 : Int32), (101 : Int32)] S 4 j (by decide) (by omega) ch hch (101 : Int32) rfl) (w_79 G) (w_80 G) (w_74 G) (w_81 G) (by decide) [] [0, 1] (σf := [(a1, c28)]) rfl rfl [(.ref a), (.int (4 : Int32)), (.int (1 : Int32)), (.int j.toInt32), (.int ch)] [(.int (4 : Int32)), (.ref a1)] rfl (lenOf pd_21 rfl) rfl rfl d_method_5_code_91 rfl (by first | exact Nat.le_of_ble_eq_true rfl | (simp; done) | (simp; omega) | omega) (by first | exact Nat.le_of_ble_eq_true rfl | (simp; done) | (simp; omega) | omega) (by first | exact Nat.le_of_ble_eq_true rfl | (simp; done) | (simp; omega) | omega) (by first | exact Nat.le_of_ble_eq_true rfl | (simp; done) | (simp; omega) | omega) ?_
  rintro _ _ _ T30 ⟨rfl, rfl, rfl⟩ W31
  replace W31 : Wk l Z EL1 ({ frames := 5, cells := 3, slots := 16, locals := 73 } : Room) "com/example/grantline/grantline/enforcer/PermissionFromScopeNamePinLaw" method_5_code 6 (some (.object "java/lang/String")) "build" X [(a1, c28)] [(a, c), (b, cb)] T30 1 (6) := W31
  show Go Z EL1 _ _ _ X T30 94 #[.val (.ref a), .val (.int (6 : Int32)), .val (.int (1 : Int32)), .val (.int j.toInt32), .val (.int ch), .val (.ref a1)] [(.int (101 : Int32)), (.int (4 : Int32)), (.ref a1)]
  refine Go.castore (pc' := 95) W31 0 rfl A29 4 (101 : Int32) (nar_char_id (lat_char (by decide))) (by decide) (by decide) (by simp) d_method_5_code_94 rfl (fun T32 c34 W33 A35 => ?_)
  replace W33 : Wk l Z EL1 ({ frames := 5, cells := 3, slots := 16, locals := 73 } : Room) "com/example/grantline/grantline/enforcer/PermissionFromScopeNamePinLaw" method_5_code 6 (some (.object "java/lang/String")) "build" X [(a1, c34)] [(a, c), (b, cb)] T32 1 (6) := W33
  replace A35 : ArrC Z c34 .char [(.int (119 : Int32)), (.int (114 : Int32)), (.int (105 : Int32)), (.int (116 : Int32)), (.int (101 : Int32)), (.int (0 : Int32))] := A35
  refine Go.iloadN (pc' := 96) W33 d_method_5_code_95 rfl rfl ?_
  refine Go.iconst (pc' := 97) W33 (5 : Int32) d_method_5_code_96 (by decide) rfl ?_
  refine Go.icmp_le (pc' := 100) W33 113 d_method_5_code_97 (by decide) rfl (fun q => absurd (by decide) q) (fun _ => ?_)
  refine Go.aload (pc' := 102) W33 d_method_5_code_100 rfl rfl rfl ?_
  refine Go.iconst (pc' := 103) W33 (5 : Int32) d_method_5_code_102 (by decide) rfl ?_
  refine Go.aloadN (pc' := 104) W33 d_method_5_code_103 rfl rfl rfl ?_
  refine Go.iconst (pc' := 105) W33 (5 : Int32) d_method_5_code_104 (by decide) rfl ?_
  refine Go.iloadN (pc' := 106) W33 d_method_5_code_105 rfl rfl ?_
  refine Go.iloadN (pc' := 107) W33 d_method_5_code_106 rfl rfl ?_
  refine Go.iload (pc' := 109) W33 d_method_5_code_107 rfl rfl ?_
  refine Go.static (pc' := 112) W33 (rm_at_p G a b c cb [(119 : Int32), (114 : Int32), (105 : Int32), (116 : Int32), (101 : Int32)] S 5 j (by decide) (by omega) ch hch rfl) (w_79 G) (w_80 G) (w_74 G) (w_81 G) (by decide) [] [0, 1] (σf := [(a1, c34)]) rfl rfl [(.ref a), (.int (5 : Int32)), (.int (1 : Int32)), (.int j.toInt32), (.int ch)] [(.int (5 : Int32)), (.ref a1)] rfl (lenOf pd_21 rfl) rfl rfl d_method_5_code_109 rfl (by first | exact Nat.le_of_ble_eq_true rfl | (simp; done) | (simp; omega) | omega) (by first | exact Nat.le_of_ble_eq_true rfl | (simp; done) | (simp; omega) | omega) (by first | exact Nat.le_of_ble_eq_true rfl | (simp; done) | (simp; omega) | omega) (by first | exact Nat.le_of_ble_eq_true rfl | (simp; done) | (simp; omega) | omega) ?_
  rintro _ _ _ T36 ⟨rfl, rfl, rfl⟩ W37
  replace W37 : Wk l Z EL1 ({ frames := 5, cells := 3, slots := 16, locals := 73 } : Room) "com/example/grantline/grantline/enforcer/PermissionFromScopeNamePinLaw" method_5_code 6 (some (.object "java/lang/String")) "build" X [(a1, c34)] [(a, c), (b, cb)] T36 1 (6) := W37
  show Go Z EL1 _ _ _ X T36 112 #[.val (.ref a), .val (.int (6 : Int32)), .val (.int (1 : Int32)), .val (.int j.toInt32), .val (.int ch), .val (.ref a1)] [(.int ch), (.int (5 : Int32)), (.ref a1)]
  refine Go.castore (pc' := 113) W37 0 rfl A35 5 ch (nar_char_id (lat_char hch)) (by decide) (by decide) (by simp) d_method_5_code_112 rfl (fun T38 c40 W39 A41 => ?_)
  replace W39 : Wk l Z EL1 ({ frames := 5, cells := 3, slots := 16, locals := 73 } : Room) "com/example/grantline/grantline/enforcer/PermissionFromScopeNamePinLaw" method_5_code 6 (some (.object "java/lang/String")) "build" X [(a1, c40)] [(a, c), (b, cb)] T38 1 (6) := W39
  replace A41 : ArrC Z c40 .char [(.int (119 : Int32)), (.int (114 : Int32)), (.int (105 : Int32)), (.int (116 : Int32)), (.int (101 : Int32)), (.int ch)] := A41
  refine Go.iloadN (pc' := 114) W39 d_method_5_code_113 rfl rfl ?_
  refine Go.bipush (pc' := 116) W39 (6 : Int32) d_method_5_code_114 (by decide) rfl ?_
  refine Go.icmp_le (pc' := 119) W39 134 d_method_5_code_116 (by decide) rfl (fun _ => ?_) (fun q => absurd q (by decide))
  refine Go.iloadN (pc' := 135) W39 d_method_5_code_134 rfl rfl ?_
  refine Go.bipush (pc' := 137) W39 (7 : Int32) d_method_5_code_135 (by decide) rfl ?_
  refine Go.icmp_le (pc' := 140) W39 155 d_method_5_code_137 (by decide) rfl (fun _ => ?_) (fun q => absurd q (by decide))
  refine Go.iloadN (pc' := 156) W39 d_method_5_code_155 rfl rfl ?_
  refine Go.bipush (pc' := 158) W39 (8 : Int32) d_method_5_code_156 (by decide) rfl ?_
  refine Go.icmp_le (pc' := 161) W39 176 d_method_5_code_158 (by decide) rfl (fun _ => ?_) (fun q => absurd q (by decide))
  refine Go.iloadN (pc' := 177) W39 d_method_5_code_176 rfl rfl ?_
  refine Go.bipush (pc' := 179) W39 (9 : Int32) d_method_5_code_177 (by decide) rfl ?_
  refine Go.icmp_le (pc' := 182) W39 197 d_method_5_code_179 (by decide) rfl (fun _ => ?_) (fun q => absurd q (by decide))
  refine Go.new (pc' := 200) W39 (w_54 G) (w_3 G) (w_2 G) d_method_5_code_197 rfl (by first | exact Nat.le_of_ble_eq_true rfl | (simp; done) | (simp; omega) | omega) (by first | exact Nat.le_of_ble_eq_true rfl | (simp; done) | (simp; omega) | omega) (fun T42 a44 c45 W43 O46 D47 => ?_)
  replace W43 : Wk l Z EL1 ({ frames := 5, cells := 3, slots := 16, locals := 73 } : Room) "com/example/grantline/grantline/enforcer/PermissionFromScopeNamePinLaw" method_5_code 6 (some (.object "java/lang/String")) "build" X [(a44, c45), (a1, c40)] [(a, c), (b, cb)] T42 2 (10) := W43
  have F48 : FldC Z c45 "java/lang/String" "value" "[B" (.null) := D47 (Or.inr (w_5 G)) (ty := (.array .byte)) (by decide)
  have F49 : FldC Z c45 "java/lang/String" "coder" "B" (.int (0 : Int32)) := D47 (Or.inr (w_6 G)) (ty := .byte) (by decide)
  refine Go.dup (pc' := 201) W43 d_method_5_code_200 rfl rfl ?_
  refine Go.aload (pc' := 203) W43 d_method_5_code_201 rfl rfl rfl ?_
  refine Go.special (pc' := 206) W43 (a := a44) (rm_initC G a44 a1 c45 c40 [(119 : Int32), (114 : Int32), (105 : Int32), (116 : Int32), (101 : Int32), ch] A41 O46 F49 F48 (Lat.cons (by decide) (Lat.cons (by decide) (Lat.cons (by decide) (Lat.cons (by decide) (Lat.cons (by decide) (Lat.cons hch Lat.nil)))))) (by simp) (show ¬ (6 : Nat).toInt32 = 0 by decide)) rfl (w_56 G) (w_57 G) (w_2 G) (w_58 G) (by decide) [0, 0] [] (σf := []) rfl rfl [(.ref a1)] [(.ref a44)] rfl (lenOf pd_22 rfl) rfl rfl d_method_5_code_203 rfl (by first | exact Nat.le_of_ble_eq_true rfl | (simp; done) | (simp; omega) | omega) (by first | exact Nat.le_of_ble_eq_true rfl | (simp; done) | (simp; omega) | omega) (by first | exact Nat.le_of_ble_eq_true rfl | (simp; done) | (simp; omega) | omega) (by first | exact Nat.le_of_ble_eq_true rfl | (simp; done) | (simp; omega) | omega) ?_
  rintro _ _ _ T54 ⟨c50, b51, c52, rfl, rfl, rfl, S53⟩ W55
  replace W55 : Wk l Z EL1 ({ frames := 5, cells := 3, slots := 16, locals := 73 } : Room) "com/example/grantline/grantline/enforcer/PermissionFromScopeNamePinLaw" method_5_code 6 (some (.object "java/lang/String")) "build" X [(a1, c40)] [(a44, c50), (b51, c52), (a, c), (b, cb)] T54 3 (16) := W55
  show Go Z EL1 _ _ _ X T54 206 #[.val (.ref a), .val (.int (6 : Int32)), .val (.int (1 : Int32)), .val (.int j.toInt32), .val (.int ch), .val (.ref a1)] [(.ref a44)]
  have W56 := W55.drop [0] (σi := [(a1, c40)]) (σf := []) rfl
  replace W56 : Wk l Z EL1 ({ frames := 5, cells := 3, slots := 16, locals := 73 } : Room) "com/example/grantline/grantline/enforcer/PermissionFromScopeNamePinLaw" method_5_code 6 (some (.object "java/lang/String")) "build" X [] [(a44, c50), (b51, c52), (a, c), (b, cb)] T54 3 (16) := W56
  have W57 := W56.keepRo [0, 1] (ρ' := [(a44, c50), (b51, c52)]) rfl
  replace W57 : Wk l Z EL1 ({ frames := 5, cells := 3, slots := 16, locals := 73 } : Room) "com/example/grantline/grantline/enforcer/PermissionFromScopeNamePinLaw" method_5_code 6 (some (.object "java/lang/String")) "build" X [] [(a44, c50), (b51, c52)] T54 3 (16) := W57
  refine Go.aret W57 rfl rfl d_method_5_code_206 (by first | exact Nat.le_of_ble_eq_true rfl | (simp; done) | (simp; omega) | omega) (by first | exact Nat.le_of_ble_eq_true rfl | (simp; done) | (simp; omega) | omega) ?_
  exact ⟨a44, c50, b51, c52, rfl, rfl, rfl, S53⟩
set_option maxRecDepth 65536 in
set_option maxHeartbeats 40000000 in
theorem rm_build_writet {l : Launch} {Z : State} {a0 : Array Value} (G : Cl Z a0) (a b : Addr) (c cb : Cell) (S : StrL Z c b cb [(119 : Int32), (114 : Int32), (105 : Int32), (116 : Int32), (101 : Int32)]) (j : Nat) (hj : j < 5) (ch : Int32) (hch : ¬ ch < 0 ∧ ¬ (255 : Int32) < ch) :
    Met l Z EL1 (⟨"com/example/grantline/grantline/enforcer/PermissionFromScopeNamePinLaw", "build", "(Ljava/lang/String;IIIC)Ljava/lang/String;"⟩ : MethodName) method_5_code 6 (some (.object "java/lang/String")) ({ frames := 5, cells := 3, slots := 12, locals := 73 } : Room) #[.ref a, .int (4 : Int32), .int (2 : Int32), .int j.toInt32, .int ch] [] [(a, c), (b, cb)] (fun v σ ρ => ∃ a c b cb, v = some (.ref a) ∧ σ = [] ∧ ρ = [(a, c), (b, cb)] ∧ StrL Z c b cb [if 0 < j then (119 : Int32) else (114 : Int32), if 1 < j then (114 : Int32) else (105 : Int32), if 2 < j then (105 : Int32) else (116 : Int32), if 3 < j then (116 : Int32) else (101 : Int32)]) := by
  refine Met.walk G.2.1 pn_17 #[.val (.ref a), .val (.int (4 : Int32)), .val (.int (2 : Int32)), .val (.int j.toInt32), .val (.int ch), .unset] (fun m => by first | (simp [entryFrame, mkF, argsToLocals, Value.category]; done) | rfl) ?_
  intro X T0 W0
  refine Go.iloadN (pc' := 1) W0 d_method_5_code_0 rfl rfl ?_
  refine Go.static (pc' := 4) W0 (rm_newArr_E G) (w_76 G) (w_77 G) (w_74 G) (w_78 G) (by decide) [] [] (σf := []) rfl rfl [(.int (4 : Int32))] [] rfl (lenOf pd_20 rfl) rfl rfl d_method_5_code_1 rfl (by first | exact Nat.le_of_ble_eq_true rfl | (simp; done) | (simp; omega) | omega) (by first | exact Nat.le_of_ble_eq_true rfl | (simp; done) | (simp; omega) | omega) (by first | exact Nat.le_of_ble_eq_true rfl | (simp; done) | (simp; omega) | omega) (by first | exact Nat.le_of_ble_eq_true rfl | (simp; done) | (simp; omega) | omega) ?_
  rintro _ _ _ T4 ⟨a1, c2, rfl, rfl, rfl, A3⟩ W5
  replace W5 : Wk l Z EL1 ({ frames := 5, cells := 3, slots := 12, locals := 73 } : Room) "com/example/grantline/grantline/enforcer/PermissionFromScopeNamePinLaw" method_5_code 6 (some (.object "java/lang/String")) "build" X [(a1, c2)] [(a, c), (b, cb)] T4 1 (4) := W5
  show Go Z EL1 _ _ _ X T4 4 #[.val (.ref a), .val (.int (4 : Int32)), .val (.int (2 : Int32)), .val (.int j.toInt32), .val (.int ch), .unset] [(.ref a1)]
  refine Go.astore (pc' := 6) W5 #[.val (.ref a), .val (.int (4 : Int32)), .val (.int (2 : Int32)), .val (.int j.toInt32), .val (.int ch), .val (.ref a1)] d_method_5_code_4 rfl rfl rfl ?_
  refine Go.iloadN (pc' := 7) W5 d_method_5_code_6 rfl rfl ?_
  refine Go.if_le (pc' := 10) W5 23 d_method_5_code_7 (by decide) rfl (fun q => absurd (by decide) q) (fun _ => ?_)
  refine Go.aload (pc' := 12) W5 d_method_5_code_10 rfl rfl rfl ?_
  refine Go.iconst (pc' := 13) W5 (0 : Int32) d_method_5_code_12 (by decide) rfl ?_
  refine Go.aloadN (pc' := 14) W5 d_method_5_code_13 rfl rfl rfl ?_
  refine Go.iconst (pc' := 15) W5 (0 : Int32) d_method_5_code_14 (by decide) rfl ?_
  refine Go.iloadN (pc' := 16) W5 d_method_5_code_15 rfl rfl ?_
  refine Go.iloadN (pc' := 17) W5 d_method_5_code_16 rfl rfl ?_
  refine Go.iload (pc' := 19) W5 d_method_5_code_17 rfl rfl ?_
  refine Go.static (pc' := 22) W5 (rm_at_t G a b c cb [(119 : Int32), (114 : Int32), (105 : Int32), (116 : Int32), (101 : Int32)] S 0 j (by decide) (by omega) ch hch (119 : Int32) rfl (114 : Int32) rfl) (w_79 G) (w_80 G) (w_74 G) (w_81 G) (by decide) [] [0, 1] (σf := [(a1, c2)]) rfl rfl [(.ref a), (.int (0 : Int32)), (.int (2 : Int32)), (.int j.toInt32), (.int ch)] [(.int (0 : Int32)), (.ref a1)] rfl (lenOf pd_21 rfl) rfl rfl d_method_5_code_19 rfl (by first | exact Nat.le_of_ble_eq_true rfl | (simp; done) | (simp; omega) | omega) (by first | exact Nat.le_of_ble_eq_true rfl | (simp; done) | (simp; omega) | omega) (by first | exact Nat.le_of_ble_eq_true rfl | (simp; done) | (simp; omega) | omega) (by first | exact Nat.le_of_ble_eq_true rfl | (simp; done) | (simp; omega) | omega) ?_
  rintro _ _ _ T6 ⟨rfl, rfl, rfl⟩ W7
  replace W7 : Wk l Z EL1 ({ frames := 5, cells := 3, slots := 12, locals := 73 } : Room) "com/example/grantline/grantline/enforcer/PermissionFromScopeNamePinLaw" method_5_code 6 (some (.object "java/lang/String")) "build" X [(a1, c2)] [(a, c), (b, cb)] T6 1 (4) := W7
  show Go Z EL1 _ _ _ X T6 22 #[.val (.ref a), .val (.int (4 : Int32)), .val (.int (2 : Int32)), .val (.int j.toInt32), .val (.int ch), .val (.ref a1)] [(.int (if 0 < j then (119 : Int32) else (114 : Int32))), (.int (0 : Int32)), (.ref a1)]
  refine Go.castore (pc' := 23) W7 0 rfl A3 0 (if 0 < j then (119 : Int32) else (114 : Int32)) (nar_char_id (lat_char (lat_ite (by decide) (by decide)))) (by decide) (by decide) (by simp) d_method_5_code_22 rfl (fun T8 c10 W9 A11 => ?_)
  replace W9 : Wk l Z EL1 ({ frames := 5, cells := 3, slots := 12, locals := 73 } : Room) "com/example/grantline/grantline/enforcer/PermissionFromScopeNamePinLaw" method_5_code 6 (some (.object "java/lang/String")) "build" X [(a1, c10)] [(a, c), (b, cb)] T8 1 (4) := W9
  replace A11 : ArrC Z c10 .char [(.int (if 0 < j then (119 : Int32) else (114 : Int32))), (.int (0 : Int32)), (.int (0 : Int32)), (.int (0 : Int32))] := A11
  refine Go.iloadN (pc' := 24) W9 d_method_5_code_23 rfl rfl ?_
  refine Go.iconst (pc' := 25) W9 (1 : Int32) d_method_5_code_24 (by decide) rfl ?_
  refine Go.icmp_le (pc' := 28) W9 41 d_method_5_code_25 (by decide) rfl (fun q => absurd (by decide) q) (fun _ => ?_)
  refine Go.aload (pc' := 30) W9 d_method_5_code_28 rfl rfl rfl ?_
  refine Go.iconst (pc' := 31) W9 (1 : Int32) d_method_5_code_30 (by decide) rfl ?_
  refine Go.aloadN (pc' := 32) W9 d_method_5_code_31 rfl rfl rfl ?_
  refine Go.iconst (pc' := 33) W9 (1 : Int32) d_method_5_code_32 (by decide) rfl ?_
  refine Go.iloadN (pc' := 34) W9 d_method_5_code_33 rfl rfl ?_
  refine Go.iloadN (pc' := 35) W9 d_method_5_code_34 rfl rfl ?_
  refine Go.iload (pc' := 37) W9 d_method_5_code_35 rfl rfl ?_
  refine Go.static (pc' := 40) W9 (rm_at_t G a b c cb [(119 : Int32), (114 : Int32), (105 : Int32), (116 : Int32), (101 : Int32)] S 1 j (by decide) (by omega) ch hch (114 : Int32) rfl (105 : Int32) rfl) (w_79 G) (w_80 G) (w_74 G) (w_81 G) (by decide) [] [0, 1] (σf := [(a1, c10)]) rfl rfl [(.ref a), (.int (1 : Int32)), (.int (2 : Int32)), (.int j.toInt32), (.int ch)] [(.int (1 : Int32)), (.ref a1)] rfl (lenOf pd_21 rfl) rfl rfl d_method_5_code_37 rfl (by first | exact Nat.le_of_ble_eq_true rfl | (simp; done) | (simp; omega) | omega) (by first | exact Nat.le_of_ble_eq_true rfl | (simp; done) | (simp; omega) | omega) (by first | exact Nat.le_of_ble_eq_true rfl | (simp; done) | (simp; omega) | omega) (by first | exact Nat.le_of_ble_eq_true rfl | (simp; done) | (simp; omega) | omega) ?_
  rintro _ _ _ T12 ⟨rfl, rfl, rfl⟩ W13
  replace W13 : Wk l Z EL1 ({ frames := 5, cells := 3, slots := 12, locals := 73 } : Room) "com/example/grantline/grantline/enforcer/PermissionFromScopeNamePinLaw" method_5_code 6 (some (.object "java/lang/String")) "build" X [(a1, c10)] [(a, c), (b, cb)] T12 1 (4) := W13
  show Go Z EL1 _ _ _ X T12 40 #[.val (.ref a), .val (.int (4 : Int32)), .val (.int (2 : Int32)), .val (.int j.toInt32), .val (.int ch), .val (.ref a1)] [(.int (if 1 < j then (114 : Int32) else (105 : Int32))), (.int (1 : Int32)), (.ref a1)]
  refine Go.castore (pc' := 41) W13 0 rfl A11 1 (if 1 < j then (114 : Int32) else (105 : Int32)) (nar_char_id (lat_char (lat_ite (by decide) (by decide)))) (by decide) (by decide) (by simp) d_method_5_code_40 rfl (fun T14 c16 W15 A17 => ?_)
  replace W15 : Wk l Z EL1 ({ frames := 5, cells := 3, slots := 12, locals := 73 } : Room) "com/example/grantline/grantline/enforcer/PermissionFromScopeNamePinLaw" method_5_code 6 (some (.object "java/lang/String")) "build" X [(a1, c16)] [(a, c), (b, cb)] T14 1 (4) := W15
  replace A17 : ArrC Z c16 .char [(.int (if 0 < j then (119 : Int32) else (114 : Int32))), (.int (if 1 < j then (114 : Int32) else (105 : Int32))), (.int (0 : Int32)), (.int (0 : Int32))] := A17
  refine Go.iloadN (pc' := 42) W15 d_method_5_code_41 rfl rfl ?_
  refine Go.iconst (pc' := 43) W15 (2 : Int32) d_method_5_code_42 (by decide) rfl ?_
  refine Go.icmp_le (pc' := 46) W15 59 d_method_5_code_43 (by decide) rfl (fun q => absurd (by decide) q) (fun _ => ?_)
  refine Go.aload (pc' := 48) W15 d_method_5_code_46 rfl rfl rfl ?_
  refine Go.iconst (pc' := 49) W15 (2 : Int32) d_method_5_code_48 (by decide) rfl ?_
  refine Go.aloadN (pc' := 50) W15 d_method_5_code_49 rfl rfl rfl ?_
  refine Go.iconst (pc' := 51) W15 (2 : Int32) d_method_5_code_50 (by decide) rfl ?_
  refine Go.iloadN (pc' := 52) W15 d_method_5_code_51 rfl rfl ?_
  refine Go.iloadN (pc' := 53) W15 d_method_5_code_52 rfl rfl ?_
  refine Go.iload (pc' := 55) W15 d_method_5_code_53 rfl rfl ?_
  refine Go.static (pc' := 58) W15 (rm_at_t G a b c cb [(119 : Int32), (114 : Int32), (105 : Int32), (116 : Int32), (101 : Int32)] S 2 j (by decide) (by omega) ch hch (105 : Int32) rfl (116 : Int32) rfl) (w_79 G) (w_80 G) (w_74 G) (w_81 G) (by decide) [] [0, 1] (σf := [(a1, c16)]) rfl rfl [(.ref a), (.int (2 : Int32)), (.int (2 : Int32)), (.int j.toInt32), (.int ch)] [(.int (2 : Int32)), (.ref a1)] rfl (lenOf pd_21 rfl) rfl rfl d_method_5_code_55 rfl (by first | exact Nat.le_of_ble_eq_true rfl | (simp; done) | (simp; omega) | omega) (by first | exact Nat.le_of_ble_eq_true rfl | (simp; done) | (simp; omega) | omega) (by first | exact Nat.le_of_ble_eq_true rfl | (simp; done) | (simp; omega) | omega) (by first | exact Nat.le_of_ble_eq_true rfl | (simp; done) | (simp; omega) | omega) ?_
  rintro _ _ _ T18 ⟨rfl, rfl, rfl⟩ W19
  replace W19 : Wk l Z EL1 ({ frames := 5, cells := 3, slots := 12, locals := 73 } : Room) "com/example/grantline/grantline/enforcer/PermissionFromScopeNamePinLaw" method_5_code 6 (some (.object "java/lang/String")) "build" X [(a1, c16)] [(a, c), (b, cb)] T18 1 (4) := W19
  show Go Z EL1 _ _ _ X T18 58 #[.val (.ref a), .val (.int (4 : Int32)), .val (.int (2 : Int32)), .val (.int j.toInt32), .val (.int ch), .val (.ref a1)] [(.int (if 2 < j then (105 : Int32) else (116 : Int32))), (.int (2 : Int32)), (.ref a1)]
  refine Go.castore (pc' := 59) W19 0 rfl A17 2 (if 2 < j then (105 : Int32) else (116 : Int32)) (nar_char_id (lat_char (lat_ite (by decide) (by decide)))) (by decide) (by decide) (by simp) d_method_5_code_58 rfl (fun T20 c22 W21 A23 => ?_)
  replace W21 : Wk l Z EL1 ({ frames := 5, cells := 3, slots := 12, locals := 73 } : Room) "com/example/grantline/grantline/enforcer/PermissionFromScopeNamePinLaw" method_5_code 6 (some (.object "java/lang/String")) "build" X [(a1, c22)] [(a, c), (b, cb)] T20 1 (4) := W21
  replace A23 : ArrC Z c22 .char [(.int (if 0 < j then (119 : Int32) else (114 : Int32))), (.int (if 1 < j then (114 : Int32) else (105 : Int32))), (.int (if 2 < j then (105 : Int32) else (116 : Int32))), (.int (0 : Int32))] := A23
  refine Go.iloadN (pc' := 60) W21 d_method_5_code_59 rfl rfl ?_
  refine Go.iconst (pc' := 61) W21 (3 : Int32) d_method_5_code_60 (by decide) rfl ?_
  refine Go.icmp_le (pc' := 64) W21 77 d_method_5_code_61 (by decide) rfl (fun q => absurd (by decide) q) (fun _ => ?_)
  refine Go.aload (pc' := 66) W21 d_method_5_code_64 rfl rfl rfl ?_
  refine Go.iconst (pc' := 67) W21 (3 : Int32) d_method_5_code_66 (by decide) rfl ?_
  refine Go.aloadN (pc' := 68) W21 d_method_5_code_67 rfl rfl rfl ?_
  refine Go.iconst (pc' := 69) W21 (3 : Int32) d_method_5_code_68 (by decide) rfl ?_
  refine Go.iloadN (pc' := 70) W21 d_method_5_code_69 rfl rfl ?_
  refine Go.iloadN (pc' := 71) W21 d_method_5_code_70 rfl rfl ?_
  refine Go.iload (pc' := 73) W21 d_method_5_code_71 rfl rfl ?_
  refine Go.static (pc' := 76) W21 (rm_at_t G a b c cb [(119 : Int32), (114 : Int32), (105 : Int32), (116 : Int32), (101 : Int32)] S 3 j (by decide) (by omega) ch hch (116 : Int32) rfl (101 : Int32) rfl) (w_79 G) (w_80 G) (w_74 G) (w_81 G) (by decide) [] [0, 1] (σf := [(a1, c22)]) rfl rfl [(.ref a), (.int (3 : Int32)), (.int (2 : Int32)), (.int j.toInt32), (.int ch)] [(.int (3 : Int32)), (.ref a1)] rfl (lenOf pd_21 rfl) rfl rfl d_method_5_code_73 rfl (by first | exact Nat.le_of_ble_eq_true rfl | (simp; done) | (simp; omega) | omega) (by first | exact Nat.le_of_ble_eq_true rfl | (simp; done) | (simp; omega) | omega) (by first | exact Nat.le_of_ble_eq_true rfl | (simp; done) | (simp; omega) | omega) (by first | exact Nat.le_of_ble_eq_true rfl | (simp; done) | (simp; omega) | omega) ?_
  rintro _ _ _ T24 ⟨rfl, rfl, rfl⟩ W25
  replace W25 : Wk l Z EL1 ({ frames := 5, cells := 3, slots := 12, locals := 73 } : Room) "com/example/grantline/grantline/enforcer/PermissionFromScopeNamePinLaw" method_5_code 6 (some (.object "java/lang/String")) "build" X [(a1, c22)] [(a, c), (b, cb)] T24 1 (4) := W25
  show Go Z EL1 _ _ _ X T24 76 #[.val (.ref a), .val (.int (4 : Int32)), .val (.int (2 : Int32)), .val (.int j.toInt32), .val (.int ch), .val (.ref a1)] [(.int (if 3 < j then (116 : Int32) else (101 : Int32))), (.int (3 : Int32)), (.ref a1)]
  refine Go.castore (pc' := 77) W25 0 rfl A23 3 (if 3 < j then (116 : Int32) else (101 : Int32)) (nar_char_id (lat_char (lat_ite (by decide) (by decide)))) (by decide) (by decide) (by simp) d_method_5_code_76 rfl (fun T26 c28 W27 A29 => ?_)
  replace W27 : Wk l Z EL1 ({ frames := 5, cells := 3, slots := 12, locals := 73 } : Room) "com/example/grantline/grantline/enforcer/PermissionFromScopeNamePinLaw" method_5_code 6 (some (.object "java/lang/String")) "build" X [(a1, c28)] [(a, c), (b, cb)] T26 1 (4) := W27
  replace A29 : ArrC Z c28 .char [(.int (if 0 < j then (119 : Int32) else (114 : Int32))), (.int (if 1 < j then (114 : Int32) else (105 : Int32))), (.int (if 2 < j then (105 : Int32) else (116 : Int32))), (.int (if 3 < j then (116 : Int32) else (101 : Int32)))] := A29
  refine Go.iloadN (pc' := 78) W27 d_method_5_code_77 rfl rfl ?_
  refine Go.iconst (pc' := 79) W27 (4 : Int32) d_method_5_code_78 (by decide) rfl ?_
  refine Go.icmp_le (pc' := 82) W27 95 d_method_5_code_79 (by decide) rfl (fun _ => ?_) (fun q => absurd q (by decide))
  refine Go.iloadN (pc' := 96) W27 d_method_5_code_95 rfl rfl ?_
  refine Go.iconst (pc' := 97) W27 (5 : Int32) d_method_5_code_96 (by decide) rfl ?_
  refine Go.icmp_le (pc' := 100) W27 113 d_method_5_code_97 (by decide) rfl (fun _ => ?_) (fun q => absurd q (by decide))
  refine Go.iloadN (pc' := 114) W27 d_method_5_code_113 rfl rfl ?_
  refine Go.bipush (pc' := 116) W27 (6 : Int32) d_method_5_code_114 (by decide) rfl ?_
  refine Go.icmp_le (pc' := 119) W27 134 d_method_5_code_116 (by decide) rfl (fun _ => ?_) (fun q => absurd q (by decide))
  refine Go.iloadN (pc' := 135) W27 d_method_5_code_134 rfl rfl ?_
  refine Go.bipush (pc' := 137) W27 (7 : Int32) d_method_5_code_135 (by decide) rfl ?_
  refine Go.icmp_le (pc' := 140) W27 155 d_method_5_code_137 (by decide) rfl (fun _ => ?_) (fun q => absurd q (by decide))
  refine Go.iloadN (pc' := 156) W27 d_method_5_code_155 rfl rfl ?_
  refine Go.bipush (pc' := 158) W27 (8 : Int32) d_method_5_code_156 (by decide) rfl ?_
  refine Go.icmp_le (pc' := 161) W27 176 d_method_5_code_158 (by decide) rfl (fun _ => ?_) (fun q => absurd q (by decide))
  refine Go.iloadN (pc' := 177) W27 d_method_5_code_176 rfl rfl ?_
  refine Go.bipush (pc' := 179) W27 (9 : Int32) d_method_5_code_177 (by decide) rfl ?_
  refine Go.icmp_le (pc' := 182) W27 197 d_method_5_code_179 (by decide) rfl (fun _ => ?_) (fun q => absurd q (by decide))
  refine Go.new (pc' := 200) W27 (w_54 G) (w_3 G) (w_2 G) d_method_5_code_197 rfl (by first | exact Nat.le_of_ble_eq_true rfl | (simp; done) | (simp; omega) | omega) (by first | exact Nat.le_of_ble_eq_true rfl | (simp; done) | (simp; omega) | omega) (fun T30 a32 c33 W31 O34 D35 => ?_)
  replace W31 : Wk l Z EL1 ({ frames := 5, cells := 3, slots := 12, locals := 73 } : Room) "com/example/grantline/grantline/enforcer/PermissionFromScopeNamePinLaw" method_5_code 6 (some (.object "java/lang/String")) "build" X [(a32, c33), (a1, c28)] [(a, c), (b, cb)] T30 2 (8) := W31
  have F36 : FldC Z c33 "java/lang/String" "value" "[B" (.null) := D35 (Or.inr (w_5 G)) (ty := (.array .byte)) (by decide)
  have F37 : FldC Z c33 "java/lang/String" "coder" "B" (.int (0 : Int32)) := D35 (Or.inr (w_6 G)) (ty := .byte) (by decide)
  refine Go.dup (pc' := 201) W31 d_method_5_code_200 rfl rfl ?_
  refine Go.aload (pc' := 203) W31 d_method_5_code_201 rfl rfl rfl ?_
  refine Go.special (pc' := 206) W31 (a := a32) (rm_initC G a32 a1 c33 c28 [if 0 < j then (119 : Int32) else (114 : Int32), if 1 < j then (114 : Int32) else (105 : Int32), if 2 < j then (105 : Int32) else (116 : Int32), if 3 < j then (116 : Int32) else (101 : Int32)] A29 O34 F37 F36 (Lat.cons (lat_ite (by decide) (by decide)) (Lat.cons (lat_ite (by decide) (by decide)) (Lat.cons (lat_ite (by decide) (by decide)) (Lat.cons (lat_ite (by decide) (by decide)) Lat.nil)))) (by simp) (show ¬ (4 : Nat).toInt32 = 0 by decide)) rfl (w_56 G) (w_57 G) (w_2 G) (w_58 G) (by decide) [0, 0] [] (σf := []) rfl rfl [(.ref a1)] [(.ref a32)] rfl (lenOf pd_22 rfl) rfl rfl d_method_5_code_203 rfl (by first | exact Nat.le_of_ble_eq_true rfl | (simp; done) | (simp; omega) | omega) (by first | exact Nat.le_of_ble_eq_true rfl | (simp; done) | (simp; omega) | omega) (by first | exact Nat.le_of_ble_eq_true rfl | (simp; done) | (simp; omega) | omega) (by first | exact Nat.le_of_ble_eq_true rfl | (simp; done) | (simp; omega) | omega) ?_
  rintro _ _ _ T42 ⟨c38, b39, c40, rfl, rfl, rfl, S41⟩ W43
  replace W43 : Wk l Z EL1 ({ frames := 5, cells := 3, slots := 12, locals := 73 } : Room) "com/example/grantline/grantline/enforcer/PermissionFromScopeNamePinLaw" method_5_code 6 (some (.object "java/lang/String")) "build" X [(a1, c28)] [(a32, c38), (b39, c40), (a, c), (b, cb)] T42 3 (12) := W43
  show Go Z EL1 _ _ _ X T42 206 #[.val (.ref a), .val (.int (4 : Int32)), .val (.int (2 : Int32)), .val (.int j.toInt32), .val (.int ch), .val (.ref a1)] [(.ref a32)]
  have W44 := W43.drop [0] (σi := [(a1, c28)]) (σf := []) rfl
  replace W44 : Wk l Z EL1 ({ frames := 5, cells := 3, slots := 12, locals := 73 } : Room) "com/example/grantline/grantline/enforcer/PermissionFromScopeNamePinLaw" method_5_code 6 (some (.object "java/lang/String")) "build" X [] [(a32, c38), (b39, c40), (a, c), (b, cb)] T42 3 (12) := W44
  have W45 := W44.keepRo [0, 1] (ρ' := [(a32, c38), (b39, c40)]) rfl
  replace W45 : Wk l Z EL1 ({ frames := 5, cells := 3, slots := 12, locals := 73 } : Room) "com/example/grantline/grantline/enforcer/PermissionFromScopeNamePinLaw" method_5_code 6 (some (.object "java/lang/String")) "build" X [] [(a32, c38), (b39, c40)] T42 3 (12) := W45
  refine Go.aret W45 rfl rfl d_method_5_code_206 (by first | exact Nat.le_of_ble_eq_true rfl | (simp; done) | (simp; omega) | omega) (by first | exact Nat.le_of_ble_eq_true rfl | (simp; done) | (simp; omega) | omega) ?_
  exact ⟨a32, c38, b39, c40, rfl, rfl, rfl, S41⟩
theorem d_code_0 : decode code 0 = .ok (.iload_n 0, 1) := by decide +kernel
theorem d_code_1 : decode code 1 = .ok (.ldc 7, 2) := by decide +kernel
theorem w_0 {Z : State} {a0 : Array Value} (G : Cl Z a0) : (Jvm.Cond.constant "com/example/grantline/grantline/enforcer/PermissionFromScopeNamePinLaw" 7 (2147483647)).before a0 Z = true := G.1 _ (List.mem_of_getElem? (l := tables_1) (i := 0) rfl)
theorem d_code_3 : decode code 3 = .ok (.iand, 1) := by decide +kernel
theorem d_code_4 : decode code 4 = .ok (.iconst 3, 1) := by decide +kernel
theorem d_code_5 : decode code 5 = .ok (.irem, 1) := by decide +kernel
theorem d_code_6 : decode code 6 = .ok (.istore 4, 2) := by decide +kernel
theorem d_code_8 : decode code 8 = .ok (.iload 4, 2) := by decide +kernel
theorem d_code_10 : decode code 10 = .ok (.ifCond .ne 8, 3) := by decide +kernel
theorem d_code_13 : decode code 13 = .ok (.ldc 8, 2) := by decide +kernel
theorem w_1 {Z : State} {a0 : Array Value} (G : Cl Z a0) : (Jvm.Cond.stringLink "com/example/grantline/grantline/enforcer/PermissionFromScopeNamePinLaw" 8 "configure").before a0 Z = true := G.1 _ (List.mem_of_getElem? (l := tables_1) (i := 1) rfl)
theorem d_code_15 : decode code 15 = .ok (.goto 16, 3) := by decide +kernel
theorem d_code_31 : decode code 31 = .ok (.astore 5, 2) := by decide +kernel
theorem d_code_33 : decode code 33 = .ok (.iload 4, 2) := by decide +kernel
theorem d_code_35 : decode code 35 = .ok (.ifCond .ne 9, 3) := by decide +kernel
theorem d_code_38 : decode code 38 = .ok (.getstatic 14, 3) := by decide +kernel
theorem w_9 {Z : State} {a0 : Array Value} (G : Cl Z a0) : (Jvm.Cond.fieldLink "com/example/grantline/grantline/enforcer/PermissionFromScopeNamePinLaw" 14 "com/example/grantline/grantline/enforcer/Permission" "CONFIGURE" "Lcom/example/grantline/grantline/enforcer/Permission;").before a0 Z = true := G.1 _ (List.mem_of_getElem? (l := tables_1) (i := 9) rfl)
theorem d_code_41 : decode code 41 = .ok (.goto 18, 3) := by decide +kernel
theorem d_code_59 : decode code 59 = .ok (.astore 6, 2) := by decide +kernel
theorem d_code_61 : decode code 61 = .ok (.aload 5, 2) := by decide +kernel
theorem d_code_63 : decode code 63 = .ok (.invokevirtual 26, 3) := by decide +kernel
theorem d_code_66 : decode code 66 = .ok (.istore 7, 2) := by decide +kernel
theorem d_code_68 : decode code 68 = .ok (.iload_n 2, 1) := by decide +kernel
theorem d_code_69 : decode code 69 = .ok (.ldc 7, 2) := by decide +kernel
theorem d_code_71 : decode code 71 = .ok (.iand, 1) := by decide +kernel
theorem d_code_72 : decode code 72 = .ok (.iload 7, 2) := by decide +kernel
theorem d_code_74 : decode code 74 = .ok (.irem, 1) := by decide +kernel
theorem d_code_75 : decode code 75 = .ok (.istore 8, 2) := by decide +kernel
theorem d_code_77 : decode code 77 = .ok (.iload_n 3, 1) := by decide +kernel
theorem d_code_78 : decode code 78 = .ok (.sipush 255, 3) := by decide +kernel
theorem d_code_81 : decode code 81 = .ok (.iand, 1) := by decide +kernel
theorem d_code_82 : decode code 82 = .ok (.i2c, 1) := by decide +kernel
theorem d_code_83 : decode code 83 = .ok (.istore 9, 2) := by decide +kernel
theorem d_code_85 : decode code 85 = .ok (.iload_n 1, 1) := by decide +kernel
theorem d_code_86 : decode code 86 = .ok (.iconst 3, 1) := by decide +kernel
theorem d_code_87 : decode code 87 = .ok (.iand, 1) := by decide +kernel
theorem d_code_88 : decode code 88 = .ok (.istore 10, 2) := by decide +kernel
theorem d_code_90 : decode code 90 = .ok (.iload 10, 2) := by decide +kernel
theorem d_code_92 : decode code 92 = .ok (.iconst 3, 1) := by decide +kernel
theorem d_code_93 : decode code 93 = .ok (.if_icmp .ne 190, 3) := by decide +kernel
theorem d_code_283 : decode code 283 = .ok (.iload 10, 2) := by decide +kernel
theorem d_code_285 : decode code 285 = .ok (.ifCond .ne 8, 3) := by decide +kernel
theorem d_code_288 : decode code 288 = .ok (.iload 7, 2) := by decide +kernel
theorem d_code_290 : decode code 290 = .ok (.goto 20, 3) := by decide +kernel
theorem d_code_310 : decode code 310 = .ok (.istore 11, 2) := by decide +kernel
theorem d_code_312 : decode code 312 = .ok (.aload 5, 2) := by decide +kernel
theorem d_code_314 : decode code 314 = .ok (.iload 11, 2) := by decide +kernel
theorem d_code_316 : decode code 316 = .ok (.iload 10, 2) := by decide +kernel
theorem d_code_318 : decode code 318 = .ok (.iload 8, 2) := by decide +kernel
theorem d_code_320 : decode code 320 = .ok (.iload 9, 2) := by decide +kernel
theorem d_code_322 : decode code 322 = .ok (.invokestatic 39, 3) := by decide +kernel
theorem w_72 {Z : State} {a0 : Array Value} (G : Cl Z a0) : (Jvm.Cond.methodLink "com/example/grantline/grantline/enforcer/PermissionFromScopeNamePinLaw" 39 (⟨"com/example/grantline/grantline/enforcer/PermissionFromScopeNamePinLaw", "build", "(Ljava/lang/String;IIIC)Ljava/lang/String;"⟩ : MethodName)).before a0 Z = true := G.1 _ (List.mem_of_getElem? (l := tables_1) (i := 72) rfl)
theorem w_75 {Z : State} {a0 : Array Value} (G : Cl Z a0) : (Jvm.Cond.code (⟨"com/example/grantline/grantline/enforcer/PermissionFromScopeNamePinLaw", "build", "(Ljava/lang/String;IIIC)Ljava/lang/String;"⟩ : MethodName) method_5_code 6 (some (.object "java/lang/String"))).before a0 Z = true := G.1 _ (List.mem_of_getElem? (l := tables_1) (i := 75) rfl)
theorem pd_23 : parseMethodDescriptor "(Ljava/lang/String;IIIC)Ljava/lang/String;" = some ⟨[(.object "java/lang/String"), .int, .int, .int, .char], some (.object "java/lang/String")⟩ := by decide +kernel
theorem w_73 {Z : State} {a0 : Array Value} (G : Cl Z a0) : (Jvm.Cond.static (⟨"com/example/grantline/grantline/enforcer/PermissionFromScopeNamePinLaw", "build", "(Ljava/lang/String;IIIC)Ljava/lang/String;"⟩ : MethodName)).before a0 Z = true := G.1 _ (List.mem_of_getElem? (l := tables_1) (i := 73) rfl)
theorem d_code_325 : decode code 325 = .ok (.astore 12, 2) := by decide +kernel
theorem d_code_327 : decode code 327 = .ok (.iload 10, 2) := by decide +kernel
theorem d_code_329 : decode code 329 = .ok (.ifCond .ne 20, 3) := by decide +kernel
theorem d_code_332 : decode code 332 = .ok (.iload 9, 2) := by decide +kernel
theorem d_code_334 : decode code 334 = .ok (.aload 5, 2) := by decide +kernel
theorem d_code_336 : decode code 336 = .ok (.iload 8, 2) := by decide +kernel
theorem d_code_338 : decode code 338 = .ok (.invokevirtual 45, 3) := by decide +kernel
theorem d_code_341 : decode code 341 = .ok (.if_icmp .ne 8, 3) := by decide +kernel
theorem d_code_349 : decode code 349 = .ok (.aconst_null, 1) := by decide +kernel
theorem d_code_350 : decode code 350 = .ok (.astore 13, 2) := by decide +kernel
theorem d_code_352 : decode code 352 = .ok (.aload 12, 2) := by decide +kernel
theorem d_code_354 : decode code 354 = .ok (.invokestatic 32, 3) := by decide +kernel
theorem w_25 {Z : State} {a0 : Array Value} (G : Cl Z a0) : (Jvm.Cond.methodLink "com/example/grantline/grantline/enforcer/PermissionFromScopeNamePinLaw" 32 (⟨"com/example/grantline/grantline/enforcer/Permission", "fromScopeName", "(Ljava/lang/String;)Lcom/example/grantline/grantline/enforcer/Permission;"⟩ : MethodName)).before a0 Z = true := G.1 _ (List.mem_of_getElem? (l := tables_1) (i := 25) rfl)
theorem w_27 {Z : State} {a0 : Array Value} (G : Cl Z a0) : (Jvm.Cond.code (⟨"com/example/grantline/grantline/enforcer/Permission", "fromScopeName", "(Ljava/lang/String;)Lcom/example/grantline/grantline/enforcer/Permission;"⟩ : MethodName) prog_13_method_5_code 5 (some (.object "com/example/grantline/grantline/enforcer/Permission"))).before a0 Z = true := G.1 _ (List.mem_of_getElem? (l := tables_1) (i := 27) rfl)
theorem pd_24 : parseMethodDescriptor "(Ljava/lang/String;)Lcom/example/grantline/grantline/enforcer/Permission;" = some ⟨[(.object "java/lang/String")], some (.object "com/example/grantline/grantline/enforcer/Permission")⟩ := by decide +kernel
theorem w_26 {Z : State} {a0 : Array Value} (G : Cl Z a0) : (Jvm.Cond.static (⟨"com/example/grantline/grantline/enforcer/Permission", "fromScopeName", "(Ljava/lang/String;)Lcom/example/grantline/grantline/enforcer/Permission;"⟩ : MethodName)).before a0 Z = true := G.1 _ (List.mem_of_getElem? (l := tables_1) (i := 26) rfl)
theorem d_code_357 : decode code 357 = .ok (.aload 13, 2) := by decide +kernel
theorem d_code_359 : decode code 359 = .ok (.if_acmp .ne 7, 3) := by decide +kernel
theorem d_code_362 : decode code 362 = .ok (.iconst 1, 1) := by decide +kernel
theorem d_code_363 : decode code 363 = .ok (.goto 4, 3) := by decide +kernel
theorem d_code_367 : decode code 367 = .ok (.ireturn, 1) := by decide +kernel
theorem d_code_344 : decode code 344 = .ok (.aload 6, 2) := by decide +kernel
theorem d_code_346 : decode code 346 = .ok (.goto 4, 3) := by decide +kernel
theorem d_code_293 : decode code 293 = .ok (.iload 10, 2) := by decide +kernel
theorem d_code_295 : decode code 295 = .ok (.iconst 1, 1) := by decide +kernel
theorem d_code_296 : decode code 296 = .ok (.if_icmp .ne 10, 3) := by decide +kernel
theorem d_code_299 : decode code 299 = .ok (.iload 7, 2) := by decide +kernel
theorem d_code_301 : decode code 301 = .ok (.iconst 1, 1) := by decide +kernel
theorem d_code_302 : decode code 302 = .ok (.iadd, 1) := by decide +kernel
theorem d_code_303 : decode code 303 = .ok (.goto 7, 3) := by decide +kernel
theorem d_code_306 : decode code 306 = .ok (.iload 7, 2) := by decide +kernel
theorem d_code_308 : decode code 308 = .ok (.iconst 1, 1) := by decide +kernel
theorem d_code_309 : decode code 309 = .ok (.isub, 1) := by decide +kernel
theorem d_code_96 : decode code 96 = .ok (.iload_n 1, 1) := by decide +kernel
theorem d_code_97 : decode code 97 = .ok (.iconst 2, 1) := by decide +kernel
theorem d_code_98 : decode code 98 = .ok (.iushr, 1) := by decide +kernel
theorem d_code_99 : decode code 99 = .ok (.iconst 3, 1) := by decide +kernel
theorem d_code_100 : decode code 100 = .ok (.iand, 1) := by decide +kernel
theorem d_code_101 : decode code 101 = .ok (.istore 11, 2) := by decide +kernel
theorem d_code_103 : decode code 103 = .ok (.iload 11, 2) := by decide +kernel
theorem d_code_105 : decode code 105 = .ok (.ifCond .ne 16, 3) := by decide +kernel
theorem d_code_121 : decode code 121 = .ok (.iload 11, 2) := by decide +kernel
theorem d_code_123 : decode code 123 = .ok (.iconst 1, 1) := by decide +kernel
theorem d_code_124 : decode code 124 = .ok (.if_icmp .ne 25, 3) := by decide +kernel
theorem d_code_149 : decode code 149 = .ok (.iconst 4, 1) := by decide +kernel
theorem d_code_150 : decode code 150 = .ok (.newarray .char, 2) := by decide +kernel
theorem d_code_152 : decode code 152 = .ok (.astore 12, 2) := by decide +kernel
theorem d_code_154 : decode code 154 = .ok (.aload 12, 2) := by decide +kernel
theorem d_code_156 : decode code 156 = .ok (.iconst 0, 1) := by decide +kernel
theorem d_code_157 : decode code 157 = .ok (.iload_n 3, 1) := by decide +kernel
theorem d_code_158 : decode code 158 = .ok (.sipush 255, 3) := by decide +kernel
theorem d_code_161 : decode code 161 = .ok (.iand, 1) := by decide +kernel
theorem d_code_162 : decode code 162 = .ok (.i2c, 1) := by decide +kernel
theorem d_code_163 : decode code 163 = .ok (.castore, 1) := by decide +kernel
theorem d_code_164 : decode code 164 = .ok (.aload 12, 2) := by decide +kernel
theorem d_code_166 : decode code 166 = .ok (.iconst 1, 1) := by decide +kernel
theorem d_code_167 : decode code 167 = .ok (.iload_n 3, 1) := by decide +kernel
theorem d_code_168 : decode code 168 = .ok (.bipush 8, 2) := by decide +kernel
theorem d_code_170 : decode code 170 = .ok (.iushr, 1) := by decide +kernel
theorem d_code_171 : decode code 171 = .ok (.sipush 255, 3) := by decide +kernel
theorem d_code_174 : decode code 174 = .ok (.iand, 1) := by decide +kernel
theorem d_code_175 : decode code 175 = .ok (.i2c, 1) := by decide +kernel
theorem d_code_176 : decode code 176 = .ok (.castore, 1) := by decide +kernel
theorem d_code_177 : decode code 177 = .ok (.aload 12, 2) := by decide +kernel
theorem d_code_179 : decode code 179 = .ok (.iconst 2, 1) := by decide +kernel
theorem d_code_180 : decode code 180 = .ok (.iload_n 3, 1) := by decide +kernel
theorem d_code_181 : decode code 181 = .ok (.bipush 16, 2) := by decide +kernel
theorem d_code_183 : decode code 183 = .ok (.iushr, 1) := by decide +kernel
theorem d_code_184 : decode code 184 = .ok (.sipush 255, 3) := by decide +kernel
theorem d_code_187 : decode code 187 = .ok (.iand, 1) := by decide +kernel
theorem d_code_188 : decode code 188 = .ok (.i2c, 1) := by decide +kernel
theorem d_code_189 : decode code 189 = .ok (.castore, 1) := by decide +kernel
theorem d_code_190 : decode code 190 = .ok (.aload 12, 2) := by decide +kernel
theorem d_code_192 : decode code 192 = .ok (.iconst 3, 1) := by decide +kernel
theorem d_code_193 : decode code 193 = .ok (.iload_n 3, 1) := by decide +kernel
theorem d_code_194 : decode code 194 = .ok (.bipush 24, 2) := by decide +kernel
theorem d_code_196 : decode code 196 = .ok (.iushr, 1) := by decide +kernel
theorem d_code_197 : decode code 197 = .ok (.sipush 255, 3) := by decide +kernel
theorem d_code_200 : decode code 200 = .ok (.iand, 1) := by decide +kernel
theorem d_code_201 : decode code 201 = .ok (.i2c, 1) := by decide +kernel
theorem d_code_202 : decode code 202 = .ok (.castore, 1) := by decide +kernel
theorem d_code_203 : decode code 203 = .ok (.aload 12, 2) := by decide +kernel
theorem d_code_205 : decode code 205 = .ok (.iconst 0, 1) := by decide +kernel
theorem d_code_206 : decode code 206 = .ok (.caload, 1) := by decide +kernel
theorem d_code_207 : decode code 207 = .ok (.bipush 114, 2) := by decide +kernel
theorem d_code_209 : decode code 209 = .ok (.if_icmp .ne 34, 3) := by decide +kernel
theorem d_code_243 : decode code 243 = .ok (.iconst 0, 1) := by decide +kernel
theorem d_code_244 : decode code 244 = .ok (.istore 13, 2) := by decide +kernel
theorem d_code_246 : decode code 246 = .ok (.iload 13, 2) := by decide +kernel
theorem d_code_248 : decode code 248 = .ok (.ifCond .eq 9, 3) := by decide +kernel
theorem d_code_257 : decode code 257 = .ok (.aconst_null, 1) := by decide +kernel
theorem d_code_258 : decode code 258 = .ok (.astore 14, 2) := by decide +kernel
theorem d_code_260 : decode code 260 = .ok (.new 27, 3) := by decide +kernel
theorem d_code_263 : decode code 263 = .ok (.dup, 1) := by decide +kernel
theorem d_code_264 : decode code 264 = .ok (.aload 12, 2) := by decide +kernel
theorem d_code_266 : decode code 266 = .ok (.invokespecial 36, 3) := by decide +kernel
theorem d_code_269 : decode code 269 = .ok (.invokestatic 32, 3) := by decide +kernel
theorem d_code_272 : decode code 272 = .ok (.aload 14, 2) := by decide +kernel
theorem d_code_274 : decode code 274 = .ok (.if_acmp .ne 7, 3) := by decide +kernel
theorem d_code_277 : decode code 277 = .ok (.iconst 1, 1) := by decide +kernel
theorem d_code_278 : decode code 278 = .ok (.goto 4, 3) := by decide +kernel
theorem d_code_282 : decode code 282 = .ok (.ireturn, 1) := by decide +kernel
theorem d_code_212 : decode code 212 = .ok (.aload 12, 2) := by decide +kernel
theorem d_code_214 : decode code 214 = .ok (.iconst 1, 1) := by decide +kernel
theorem d_code_215 : decode code 215 = .ok (.caload, 1) := by decide +kernel
theorem d_code_216 : decode code 216 = .ok (.bipush 101, 2) := by decide +kernel
theorem d_code_218 : decode code 218 = .ok (.if_icmp .ne 25, 3) := by decide +kernel
theorem d_code_221 : decode code 221 = .ok (.aload 12, 2) := by decide +kernel
theorem d_code_223 : decode code 223 = .ok (.iconst 2, 1) := by decide +kernel
theorem d_code_224 : decode code 224 = .ok (.caload, 1) := by decide +kernel
theorem d_code_225 : decode code 225 = .ok (.bipush 97, 2) := by decide +kernel
theorem d_code_227 : decode code 227 = .ok (.if_icmp .ne 16, 3) := by decide +kernel
theorem d_code_230 : decode code 230 = .ok (.aload 12, 2) := by decide +kernel
theorem d_code_232 : decode code 232 = .ok (.iconst 3, 1) := by decide +kernel
theorem d_code_233 : decode code 233 = .ok (.caload, 1) := by decide +kernel
theorem d_code_234 : decode code 234 = .ok (.bipush 100, 2) := by decide +kernel
theorem d_code_236 : decode code 236 = .ok (.if_icmp .ne 7, 3) := by decide +kernel
theorem d_code_239 : decode code 239 = .ok (.iconst 1, 1) := by decide +kernel
theorem d_code_240 : decode code 240 = .ok (.goto 4, 3) := by decide +kernel
theorem d_code_251 : decode code 251 = .ok (.getstatic 20, 3) := by decide +kernel
theorem w_53 {Z : State} {a0 : Array Value} (G : Cl Z a0) : (Jvm.Cond.fieldLink "com/example/grantline/grantline/enforcer/PermissionFromScopeNamePinLaw" 20 "com/example/grantline/grantline/enforcer/Permission" "READ" "Lcom/example/grantline/grantline/enforcer/Permission;").before a0 Z = true := G.1 _ (List.mem_of_getElem? (l := tables_1) (i := 53) rfl)
theorem d_code_254 : decode code 254 = .ok (.goto 4, 3) := by decide +kernel
theorem d_code_127 : decode code 127 = .ok (.new 27, 3) := by decide +kernel
theorem d_code_130 : decode code 130 = .ok (.dup, 1) := by decide +kernel
theorem d_code_131 : decode code 131 = .ok (.iconst 0, 1) := by decide +kernel
theorem d_code_132 : decode code 132 = .ok (.newarray .char, 2) := by decide +kernel
theorem d_code_134 : decode code 134 = .ok (.invokespecial 36, 3) := by decide +kernel
theorem d_code_137 : decode code 137 = .ok (.invokestatic 32, 3) := by decide +kernel
theorem d_code_140 : decode code 140 = .ok (.ifnonnull 7, 3) := by decide +kernel
theorem d_code_143 : decode code 143 = .ok (.iconst 1, 1) := by decide +kernel
theorem d_code_144 : decode code 144 = .ok (.goto 4, 3) := by decide +kernel
theorem d_code_148 : decode code 148 = .ok (.ireturn, 1) := by decide +kernel
theorem d_code_108 : decode code 108 = .ok (.aconst_null, 1) := by decide +kernel
theorem d_code_109 : decode code 109 = .ok (.invokestatic 32, 3) := by decide +kernel
theorem d_code_112 : decode code 112 = .ok (.ifnonnull 7, 3) := by decide +kernel
theorem d_code_115 : decode code 115 = .ok (.iconst 1, 1) := by decide +kernel
theorem d_code_116 : decode code 116 = .ok (.goto 4, 3) := by decide +kernel
theorem d_code_120 : decode code 120 = .ok (.ireturn, 1) := by decide +kernel
theorem d_code_18 : decode code 18 = .ok (.iload 4, 2) := by decide +kernel
theorem d_code_20 : decode code 20 = .ok (.iconst 1, 1) := by decide +kernel
theorem d_code_21 : decode code 21 = .ok (.if_icmp .ne 8, 3) := by decide +kernel
theorem d_code_24 : decode code 24 = .ok (.ldc 10, 2) := by decide +kernel
theorem w_52 {Z : State} {a0 : Array Value} (G : Cl Z a0) : (Jvm.Cond.stringLink "com/example/grantline/grantline/enforcer/PermissionFromScopeNamePinLaw" 10 "read").before a0 Z = true := G.1 _ (List.mem_of_getElem? (l := tables_1) (i := 52) rfl)
theorem d_code_26 : decode code 26 = .ok (.goto 5, 3) := by decide +kernel
theorem d_code_44 : decode code 44 = .ok (.iload 4, 2) := by decide +kernel
theorem d_code_46 : decode code 46 = .ok (.iconst 1, 1) := by decide +kernel
theorem d_code_47 : decode code 47 = .ok (.if_icmp .ne 9, 3) := by decide +kernel
theorem d_code_50 : decode code 50 = .ok (.getstatic 20, 3) := by decide +kernel
theorem d_code_53 : decode code 53 = .ok (.goto 6, 3) := by decide +kernel
theorem d_code_29 : decode code 29 = .ok (.ldc 12, 2) := by decide +kernel
theorem w_113 {Z : State} {a0 : Array Value} (G : Cl Z a0) : (Jvm.Cond.stringLink "com/example/grantline/grantline/enforcer/PermissionFromScopeNamePinLaw" 12 "write").before a0 Z = true := G.1 _ (List.mem_of_getElem? (l := tables_1) (i := 113) rfl)
theorem d_code_56 : decode code 56 = .ok (.getstatic 23, 3) := by decide +kernel
theorem w_114 {Z : State} {a0 : Array Value} (G : Cl Z a0) : (Jvm.Cond.fieldLink "com/example/grantline/grantline/enforcer/PermissionFromScopeNamePinLaw" 23 "com/example/grantline/grantline/enforcer/Permission" "WRITE" "Lcom/example/grantline/grantline/enforcer/Permission;").before a0 Z = true := G.1 _ (List.mem_of_getElem? (l := tables_1) (i := 114) rfl)
set_option maxRecDepth 65536 in
set_option maxHeartbeats 40000000 in
theorem rm_law {l : Launch} {Z : State} {a0 : Array Value} (G : Cl Z a0) (sel shape pos chi : Int32) (adA : Addr) (adB : Addr) (adC : Addr) (adD : Addr) (adE : Addr) (adF : Addr) (adG : Addr) (adH : Addr) (adI : Addr) (adJ : Addr) (ceA : Cell) (ceB : Cell) (ceC : Cell) (ceD : Cell) (ceE : Cell) (ceF : Cell) (ceG : Cell) (ceH : Cell) (ceI : Cell) (ceJ : Cell) (hzA : Z.heap[adA]? = some ceA) (obA : ObjC Z ceA "com/example/grantline/grantline/enforcer/Permission") (fdA : FldC Z ceA "com/example/grantline/grantline/enforcer/Permission" "scopeName" "Ljava/lang/String;" (.ref adE)) (hzB : Z.heap[adB]? = some ceB) (obB : ObjC Z ceB "[Lcom/example/grantline/grantline/enforcer/Permission;") (arA : ArrC Z ceB (.object "com/example/grantline/grantline/enforcer/Permission") [(.ref adA), (.ref adC), (.ref adD)]) (hzC : Z.heap[adC]? = some ceC) (obC : ObjC Z ceC "com/example/grantline/grantline/enforcer/Permission") (fdB : FldC Z ceC "com/example/grantline/grantline/enforcer/Permission" "scopeName" "Ljava/lang/String;" (.ref adF)) (hzD : Z.heap[adD]? = some ceD) (obD : ObjC Z ceD "com/example/grantline/grantline/enforcer/Permission") (fdC : FldC Z ceD "com/example/grantline/grantline/enforcer/Permission" "scopeName" "Ljava/lang/String;" (.ref adG)) (hzE : Z.heap[adE]? = some ceE) (slA : StrL Z ceE adH ceH [(99 : Int32), (111 : Int32), (110 : Int32), (102 : Int32), (105 : Int32), (103 : Int32), (117 : Int32), (114 : Int32), (101 : Int32)]) (hzF : Z.heap[adF]? = some ceF) (slB : StrL Z ceF adI ceI [(114 : Int32), (101 : Int32), (97 : Int32), (100 : Int32)]) (hzG : Z.heap[adG]? = some ceG) (slC : StrL Z ceG adJ ceJ [(119 : Int32), (114 : Int32), (105 : Int32), (116 : Int32), (101 : Int32)]) (hzH : Z.heap[adH]? = some ceH) (hzI : Z.heap[adI]? = some ceI) (hzJ : Z.heap[adJ]? = some ceJ) (stA : Sta Z Z.heap "com/example/grantline/grantline/enforcer/Permission" "CONFIGURE" "Lcom/example/grantline/grantline/enforcer/Permission;" (.ref adA)) (stB : Sta Z Z.heap "com/example/grantline/grantline/enforcer/Permission" "$VALUES" "[Lcom/example/grantline/grantline/enforcer/Permission;" (.ref adB)) (stC : Sta Z Z.heap "com/example/grantline/grantline/enforcer/Permission" "READ" "Lcom/example/grantline/grantline/enforcer/Permission;" (.ref adC)) (stD : Sta Z Z.heap "com/example/grantline/grantline/enforcer/Permission" "WRITE" "Lcom/example/grantline/grantline/enforcer/Permission;" (.ref adD)) :
    Met l Z EL1 (⟨"com/example/grantline/grantline/enforcer/PermissionFromScopeNamePinLaw", "law", "(IIII)Z"⟩ : MethodName) code 15 (some .boolean) ({ frames := 9, cells := 24, slots := 4288, locals := 192 } : Room) #[.int sel, .int shape, .int pos, .int chi] [] [] (fun v _ _ => v = some (.int 1)) := by
  refine Met.walk G.2.1 pn_17 #[.val (.int sel), .val (.int shape), .val (.int pos), .val (.int chi), .unset, .unset, .unset, .unset, .unset, .unset, .unset, .unset, .unset, .unset, .unset] (fun m => by first | (simp [entryFrame, mkF, argsToLocals, Value.category]; done) | rfl) ?_
  intro X T0 W0
  refine Go.iloadN (pc' := 1) W0 d_code_0 rfl rfl ?_
  refine Go.ldcInt (pc' := 3) W0 (w_0 G) d_code_1 rfl ?_
  refine Go.iand (pc' := 4) W0 d_code_3 rfl ?_
  refine Go.iconst (pc' := 5) W0 (3 : Int32) d_code_4 (by decide) rfl ?_
  refine Go.irem (pc' := 6) W0 d_code_5 (by decide) rfl ?_
  generalize e2 : (sel &&& (2147483647 : Int32)) % (3 : Int32) = n1
  have h3 : n1 = (0 : Int32) ∨ n1 = (1 : Int32) ∨ n1 = (2 : Int32) := by rw [← e2]; exact rem3 sel
  rcases h3 with rfl | rfl | rfl
  · refine Go.istore (pc' := 8) W0 #[.val (.int sel), .val (.int shape), .val (.int pos), .val (.int chi), .val (.int (0 : Int32)), .unset, .unset, .unset, .unset, .unset, .unset, .unset, .unset, .unset, .unset] d_code_6 rfl rfl ?_
    refine Go.iload (pc' := 10) W0 d_code_8 rfl rfl ?_
    refine Go.if_ne (pc' := 13) W0 18 d_code_10 (by decide) rfl (fun q => absurd (by decide) q) (fun _ => ?_)
    refine Go.ldcStr (pc' := 15) W0 G.2.1 (w_1 G) (strAtoms G) (by decide) (bs := [(.int (99 : Int32)), (.int (111 : Int32)), (.int (110 : Int32)), (.int (102 : Int32)), (.int (105 : Int32)), (.int (103 : Int32)), (.int (117 : Int32)), (.int (114 : Int32)), (.int (101 : Int32))]) (z := 9) (by decide +kernel) (by decide) (by decide) (by decide) d_code_13 rfl (m := 36) (by decide +kernel) (by decide) (by first | exact Nat.le_of_ble_eq_true rfl | (simp; done) | (simp; omega) | omega) (by first | exact Nat.le_of_ble_eq_true rfl | (simp; done) | (simp; omega) | omega) (fun T4 a6 b7 c8 c9 W5 O10 F11 F12 A13 => ?_)
    replace W5 : Wk l Z EL1 ({ frames := 9, cells := 24, slots := 4288, locals := 192 } : Room) "com/example/grantline/grantline/enforcer/PermissionFromScopeNamePinLaw" code 15 (some .boolean) "law" X [] [(a6, c8), (b7, c9)] T4 2 (40) := W5
    have S14 : StrL Z c8 b7 c9 [(99 : Int32), (111 : Int32), (110 : Int32), (102 : Int32), (105 : Int32), (103 : Int32), (117 : Int32), (114 : Int32), (101 : Int32)] := ⟨O10, F11, F12, (by rw [show latB [(99 : Int32), (111 : Int32), (110 : Int32), (102 : Int32), (105 : Int32), (103 : Int32), (117 : Int32), (114 : Int32), (101 : Int32)] = [(.int (99 : Int32)), (.int (111 : Int32)), (.int (110 : Int32)), (.int (102 : Int32)), (.int (105 : Int32)), (.int (103 : Int32)), (.int (117 : Int32)), (.int (114 : Int32)), (.int (101 : Int32))] from by decide +kernel]; exact A13), (by decide +kernel : ∀ x ∈ ([(99 : Int32), (111 : Int32), (110 : Int32), (102 : Int32), (105 : Int32), (103 : Int32), (117 : Int32), (114 : Int32), (101 : Int32)] : List Int32), ¬ x < 0 ∧ ¬ (255 : Int32) < x)⟩
    refine Go.goto W5 31 d_code_15 (by decide) ?_
    refine Go.astore (pc' := 33) W5 #[.val (.int sel), .val (.int shape), .val (.int pos), .val (.int chi), .val (.int (0 : Int32)), .val (.ref a6), .unset, .unset, .unset, .unset, .unset, .unset, .unset, .unset, .unset] d_code_31 rfl rfl rfl ?_
    refine Go.iload (pc' := 35) W5 d_code_33 rfl rfl ?_
    refine Go.if_ne (pc' := 38) W5 44 d_code_35 (by decide) rfl (fun q => absurd (by decide) q) (fun _ => ?_)
    refine Go.getstatic (pc' := 41) W5 (w_9 G) Via.refl stA d_code_38 rfl (fun T15 W16 => ?_)
    refine Go.goto W16 59 d_code_41 (by decide) ?_
    refine Go.astore (pc' := 61) W16 #[.val (.int sel), .val (.int shape), .val (.int pos), .val (.int chi), .val (.int (0 : Int32)), .val (.ref a6), .val (.ref adA), .unset, .unset, .unset, .unset, .unset, .unset, .unset, .unset] d_code_59 rfl rfl rfl ?_
    refine Go.aload (pc' := 63) W16 d_code_61 rfl rfl rfl ?_
    refine Go.virtual (pc' := 66) W16 (rm_len G a6 b7 c8 c9 [(99 : Int32), (111 : Int32), (110 : Int32), (102 : Int32), (105 : Int32), (103 : Int32), (117 : Int32), (114 : Int32), (101 : Int32)] S14) (Or.inr (Or.inl (List.mem_of_getElem? (i := 0) rfl))) O10 (w_12 G) (w_13 G) (w_15 G) (w_14 G) (w_2 G) (w_16 G) (by decide) [] [0, 1] (σf := []) rfl rfl [] [] rfl (lenOf pd_19 rfl) rfl rfl d_code_63 rfl (by first | exact Nat.le_of_ble_eq_true rfl | (simp; done) | (simp; omega) | omega) (by first | exact Nat.le_of_ble_eq_true rfl | (simp; done) | (simp; omega) | omega) (by first | exact Nat.le_of_ble_eq_true rfl | (simp; done) | (simp; omega) | omega) (by first | exact Nat.le_of_ble_eq_true rfl | (simp; done) | (simp; omega) | omega) ?_
    rintro _ _ _ T17 ⟨rfl, rfl, rfl⟩ W18
    replace W18 : Wk l Z EL1 ({ frames := 9, cells := 24, slots := 4288, locals := 192 } : Room) "com/example/grantline/grantline/enforcer/PermissionFromScopeNamePinLaw" code 15 (some .boolean) "law" X [] [(a6, c8), (b7, c9)] T17 2 (40) := W18
    show Go Z EL1 _ _ _ X T17 66 #[.val (.int sel), .val (.int shape), .val (.int pos), .val (.int chi), .val (.int (0 : Int32)), .val (.ref a6), .val (.ref adA), .unset, .unset, .unset, .unset, .unset, .unset, .unset, .unset] [(.int (9 : Int32))]
    refine Go.istore (pc' := 68) W18 #[.val (.int sel), .val (.int shape), .val (.int pos), .val (.int chi), .val (.int (0 : Int32)), .val (.ref a6), .val (.ref adA), .val (.int (9 : Int32)), .unset, .unset, .unset, .unset, .unset, .unset, .unset] d_code_66 rfl rfl ?_
    refine Go.iloadN (pc' := 69) W18 d_code_68 rfl rfl ?_
    refine Go.ldcInt (pc' := 71) W18 (w_0 G) d_code_69 rfl ?_
    refine Go.iand (pc' := 72) W18 d_code_71 rfl ?_
    refine Go.iload (pc' := 74) W18 d_code_72 rfl rfl ?_
    refine Go.irem (pc' := 75) W18 d_code_74 (by decide) rfl ?_
    obtain ⟨jj, hjj, ejj⟩ := pj9 pos
    rw [ejj]
    refine Go.istore (pc' := 77) W18 #[.val (.int sel), .val (.int shape), .val (.int pos), .val (.int chi), .val (.int (0 : Int32)), .val (.ref a6), .val (.ref adA), .val (.int (9 : Int32)), .val (.int jj.toInt32), .unset, .unset, .unset, .unset, .unset, .unset] d_code_75 rfl rfl ?_
    refine Go.iloadN (pc' := 78) W18 d_code_77 rfl rfl ?_
    refine Go.sipush (pc' := 81) W18 (255 : Int32) d_code_78 (by decide) rfl ?_
    refine Go.iand (pc' := 82) W18 d_code_81 rfl ?_
    refine Go.i2c (pc' := 83) W18 d_code_82 rfl ?_
    rw [i2c_id (lat_char (and255 _)).1 (lat_char (and255 _)).2]
    refine Go.istore (pc' := 85) W18 #[.val (.int sel), .val (.int shape), .val (.int pos), .val (.int chi), .val (.int (0 : Int32)), .val (.ref a6), .val (.ref adA), .val (.int (9 : Int32)), .val (.int jj.toInt32), .val (.int (chi &&& (255 : Int32))), .unset, .unset, .unset, .unset, .unset] d_code_83 rfl rfl ?_
    refine Go.iloadN (pc' := 86) W18 d_code_85 rfl rfl ?_
    refine Go.iconst (pc' := 87) W18 (3 : Int32) d_code_86 (by decide) rfl ?_
    refine Go.iand (pc' := 88) W18 d_code_87 rfl ?_
    generalize e20 : shape &&& (3 : Int32) = n19
    have h21 : n19 = (0 : Int32) ∨ n19 = (1 : Int32) ∨ n19 = (2 : Int32) ∨ n19 = (3 : Int32) := by rw [← e20]; exact and3 shape
    rcases h21 with rfl | rfl | rfl | rfl
    · refine Go.istore (pc' := 90) W18 #[.val (.int sel), .val (.int shape), .val (.int pos), .val (.int chi), .val (.int (0 : Int32)), .val (.ref a6), .val (.ref adA), .val (.int (9 : Int32)), .val (.int jj.toInt32), .val (.int (chi &&& (255 : Int32))), .val (.int (0 : Int32)), .unset, .unset, .unset, .unset] d_code_88 rfl rfl ?_
      refine Go.iload (pc' := 92) W18 d_code_90 rfl rfl ?_
      refine Go.iconst (pc' := 93) W18 (3 : Int32) d_code_92 (by decide) rfl ?_
      refine Go.icmp_ne (pc' := 96) W18 283 d_code_93 (by decide) rfl (fun _ => ?_) (fun q => absurd q (by decide))
      refine Go.iload (pc' := 285) W18 d_code_283 rfl rfl ?_
      refine Go.if_ne (pc' := 288) W18 293 d_code_285 (by decide) rfl (fun q => absurd (by decide) q) (fun _ => ?_)
      refine Go.iload (pc' := 290) W18 d_code_288 rfl rfl ?_
      refine Go.goto W18 310 d_code_290 (by decide) ?_
      refine Go.istore (pc' := 312) W18 #[.val (.int sel), .val (.int shape), .val (.int pos), .val (.int chi), .val (.int (0 : Int32)), .val (.ref a6), .val (.ref adA), .val (.int (9 : Int32)), .val (.int jj.toInt32), .val (.int (chi &&& (255 : Int32))), .val (.int (0 : Int32)), .val (.int (9 : Int32)), .unset, .unset, .unset] d_code_310 rfl rfl ?_
      refine Go.aload (pc' := 314) W18 d_code_312 rfl rfl rfl ?_
      refine Go.iload (pc' := 316) W18 d_code_314 rfl rfl ?_
      refine Go.iload (pc' := 318) W18 d_code_316 rfl rfl ?_
      refine Go.iload (pc' := 320) W18 d_code_318 rfl rfl ?_
      refine Go.iload (pc' := 322) W18 d_code_320 rfl rfl ?_
      refine Go.static (pc' := 325) W18 (rm_build_configurez G a6 b7 c8 c9 S14 jj hjj (chi &&& (255 : Int32)) (and255 _)) (w_72 G) (w_73 G) (w_74 G) (w_75 G) (by decide) [] [0, 1] (σf := []) rfl rfl [(.ref a6), (.int (9 : Int32)), (.int (0 : Int32)), (.int jj.toInt32), (.int (chi &&& (255 : Int32)))] [] rfl (lenOf pd_23 rfl) rfl rfl d_code_322 rfl (by first | exact Nat.le_of_ble_eq_true rfl | (simp; done) | (simp; omega) | omega) (by first | exact Nat.le_of_ble_eq_true rfl | (simp; done) | (simp; omega) | omega) (by first | exact Nat.le_of_ble_eq_true rfl | (simp; done) | (simp; omega) | omega) (by first | exact Nat.le_of_ble_eq_true rfl | (simp; done) | (simp; omega) | omega) ?_
      rintro _ _ _ T27 ⟨a22, c23, b24, c25, rfl, rfl, rfl, S26⟩ W28
      replace W28 : Wk l Z EL1 ({ frames := 9, cells := 24, slots := 4288, locals := 192 } : Room) "com/example/grantline/grantline/enforcer/PermissionFromScopeNamePinLaw" code 15 (some .boolean) "law" X [] [(a22, c23), (b24, c25), (a6, c8), (b7, c9)] T27 5 (62) := W28
      show Go Z EL1 _ _ _ X T27 325 #[.val (.int sel), .val (.int shape), .val (.int pos), .val (.int chi), .val (.int (0 : Int32)), .val (.ref a6), .val (.ref adA), .val (.int (9 : Int32)), .val (.int jj.toInt32), .val (.int (chi &&& (255 : Int32))), .val (.int (0 : Int32)), .val (.int (9 : Int32)), .unset, .unset, .unset] [(.ref a22)]
      refine Go.astore (pc' := 327) W28 #[.val (.int sel), .val (.int shape), .val (.int pos), .val (.int chi), .val (.int (0 : Int32)), .val (.ref a6), .val (.ref adA), .val (.int (9 : Int32)), .val (.int jj.toInt32), .val (.int (chi &&& (255 : Int32))), .val (.int (0 : Int32)), .val (.int (9 : Int32)), .val (.ref a22), .unset, .unset] d_code_325 rfl rfl rfl ?_
      refine Go.iload (pc' := 329) W28 d_code_327 rfl rfl ?_
      refine Go.if_ne (pc' := 332) W28 349 d_code_329 (by decide) rfl (fun q => absurd (by decide) q) (fun _ => ?_)
      refine Go.iload (pc' := 334) W28 d_code_332 rfl rfl ?_
      refine Go.aload (pc' := 336) W28 d_code_334 rfl rfl rfl ?_
      refine Go.iload (pc' := 338) W28 d_code_336 rfl rfl ?_
      obtain ⟨x29, h30⟩ : ∃ x, ([(99 : Int32), (111 : Int32), (110 : Int32), (102 : Int32), (105 : Int32), (103 : Int32), (117 : Int32), (114 : Int32), (101 : Int32)] : List Int32)[jj]? = some x := ⟨_, List.getElem?_eq_getElem hjj⟩
      refine Go.virtual (pc' := 341) W28 (rm_cha G a6 b7 c8 c9 [(99 : Int32), (111 : Int32), (110 : Int32), (102 : Int32), (105 : Int32), (103 : Int32), (117 : Int32), (114 : Int32), (101 : Int32)] S14 jj x29 h30) (Or.inr (Or.inl (List.mem_of_getElem? (i := 2) rfl))) O10 (w_82 G) (w_83 G) (w_85 G) (w_84 G) (w_2 G) (w_86 G) (by decide) [] [2, 3] (σf := []) rfl rfl [(.int jj.toInt32)] [(.int (chi &&& (255 : Int32)))] rfl (lenOf pd_18 rfl) rfl rfl d_code_338 rfl (by first | exact Nat.le_of_ble_eq_true rfl | (simp; done) | (simp; omega) | omega) (by first | exact Nat.le_of_ble_eq_true rfl | (simp; done) | (simp; omega) | omega) (by first | exact Nat.le_of_ble_eq_true rfl | (simp; done) | (simp; omega) | omega) (by first | exact Nat.le_of_ble_eq_true rfl | (simp; done) | (simp; omega) | omega) ?_
      rintro _ _ _ T31 ⟨rfl, rfl, rfl⟩ W32
      replace W32 : Wk l Z EL1 ({ frames := 9, cells := 24, slots := 4288, locals := 192 } : Room) "com/example/grantline/grantline/enforcer/PermissionFromScopeNamePinLaw" code 15 (some .boolean) "law" X [] [(a22, c23), (b24, c25), (a6, c8), (b7, c9)] T31 5 (62) := W32
      show Go Z EL1 _ _ _ X T31 341 #[.val (.int sel), .val (.int shape), .val (.int pos), .val (.int chi), .val (.int (0 : Int32)), .val (.ref a6), .val (.ref adA), .val (.int (9 : Int32)), .val (.int jj.toInt32), .val (.int (chi &&& (255 : Int32))), .val (.int (0 : Int32)), .val (.int (9 : Int32)), .val (.ref a22), .unset, .unset] [(.int x29), (.int (chi &&& (255 : Int32)))]
      refine Go.icmp_ne (pc' := 344) W32 349 d_code_341 (by decide) rfl (fun (c33 : ¬ ((chi &&& (255 : Int32)) = x29)) => ?_) (fun (c33 : (chi &&& (255 : Int32)) = x29) => ?_)
      · refine Go.aconstNull (pc' := 350) W32 d_code_349 rfl ?_
        refine Go.astore (pc' := 352) W32 #[.val (.int sel), .val (.int shape), .val (.int pos), .val (.int chi), .val (.int (0 : Int32)), .val (.ref a6), .val (.ref adA), .val (.int (9 : Int32)), .val (.int jj.toInt32), .val (.int (chi &&& (255 : Int32))), .val (.int (0 : Int32)), .val (.int (9 : Int32)), .val (.ref a22), .val (.null), .unset] d_code_350 rfl rfl rfl ?_
        refine Go.aload (pc' := 354) W32 d_code_352 rfl rfl rfl ?_
        refine Go.static (pc' := 357) W32 (rm_fsn G adA adB adC adD adE adF adG adH adI adJ ceA ceB ceC ceD ceE ceF ceG ceH ceI ceJ hzA obA fdA hzB obB arA hzC obC fdB hzD obD fdC hzE slA hzF slB hzG slC hzH hzI hzJ stA stB stC stD a22 b24 c23 c25 [if 0 = jj then (chi &&& (255 : Int32)) else (99 : Int32), if 1 = jj then (chi &&& (255 : Int32)) else (111 : Int32), if 2 = jj then (chi &&& (255 : Int32)) else (110 : Int32), if 3 = jj then (chi &&& (255 : Int32)) else (102 : Int32), if 4 = jj then (chi &&& (255 : Int32)) else (105 : Int32), if 5 = jj then (chi &&& (255 : Int32)) else (103 : Int32), if 6 = jj then (chi &&& (255 : Int32)) else (117 : Int32), if 7 = jj then (chi &&& (255 : Int32)) else (114 : Int32), if 8 = jj then (chi &&& (255 : Int32)) else (101 : Int32)] S26) (w_25 G) (w_26 G) (w_10 G) (w_27 G) (by decide) [] [0, 1] (σf := []) rfl rfl [(.ref a22)] [] rfl (lenOf pd_24 rfl) rfl rfl d_code_354 rfl (by first | exact Nat.le_of_ble_eq_true rfl | (simp; done) | (simp; omega) | omega) (by first | exact Nat.le_of_ble_eq_true rfl | (simp; done) | (simp; omega) | omega) (by first | exact Nat.le_of_ble_eq_true rfl | (simp; done) | (simp; omega) | omega) (by first | exact Nat.le_of_ble_eq_true rfl | (simp; done) | (simp; omega) | omega) ?_
        rintro _ _ _ T34 ⟨rfl, rfl, rfl⟩ W35
        replace W35 : Wk l Z EL1 ({ frames := 9, cells := 24, slots := 4288, locals := 192 } : Room) "com/example/grantline/grantline/enforcer/PermissionFromScopeNamePinLaw" code 15 (some .boolean) "law" X [] [(a22, c23), (b24, c25), (a6, c8), (b7, c9)] T34 6 (65) := W35
        show Go Z EL1 _ _ _ X T34 357 #[.val (.int sel), .val (.int shape), .val (.int pos), .val (.int chi), .val (.int (0 : Int32)), .val (.ref a6), .val (.ref adA), .val (.int (9 : Int32)), .val (.int jj.toInt32), .val (.int (chi &&& (255 : Int32))), .val (.int (0 : Int32)), .val (.int (9 : Int32)), .val (.ref a22), .val (.null), .unset] [(fsn adA adC adD [if 0 = jj then (chi &&& (255 : Int32)) else (99 : Int32), if 1 = jj then (chi &&& (255 : Int32)) else (111 : Int32), if 2 = jj then (chi &&& (255 : Int32)) else (110 : Int32), if 3 = jj then (chi &&& (255 : Int32)) else (102 : Int32), if 4 = jj then (chi &&& (255 : Int32)) else (105 : Int32), if 5 = jj then (chi &&& (255 : Int32)) else (103 : Int32), if 6 = jj then (chi &&& (255 : Int32)) else (117 : Int32), if 7 = jj then (chi &&& (255 : Int32)) else (114 : Int32), if 8 = jj then (chi &&& (255 : Int32)) else (101 : Int32)])]
        refine Go.aload (pc' := 359) W35 d_code_357 rfl rfl rfl ?_
        refine Go.acmp_ne (pc' := 362) W35 366 (fsn_ref _ _ _ _) rfl d_code_359 (by decide) rfl (fun hq => absurd ((pure0_configure adA adC adD jj hjj _ _ h30).2 c33) hq) (fun _ => ?_)
        refine Go.iconst (pc' := 363) W35 (1 : Int32) d_code_362 (by decide) rfl ?_
        refine Go.goto W35 367 d_code_363 (by decide) ?_
        refine Go.nret (z' := (1 : Int32)) W35 (by simp) (by decide) d_code_367 (by first | exact Nat.le_of_ble_eq_true rfl | (simp; done) | (simp; omega) | omega) (by first | exact Nat.le_of_ble_eq_true rfl | (simp; done) | (simp; omega) | omega) ?_
        rfl
      · refine Go.aload (pc' := 346) W32 d_code_344 rfl rfl rfl ?_
        refine Go.goto W32 350 d_code_346 (by decide) ?_
        refine Go.astore (pc' := 352) W32 #[.val (.int sel), .val (.int shape), .val (.int pos), .val (.int chi), .val (.int (0 : Int32)), .val (.ref a6), .val (.ref adA), .val (.int (9 : Int32)), .val (.int jj.toInt32), .val (.int (chi &&& (255 : Int32))), .val (.int (0 : Int32)), .val (.int (9 : Int32)), .val (.ref a22), .val (.ref adA), .unset] d_code_350 rfl rfl rfl ?_
        refine Go.aload (pc' := 354) W32 d_code_352 rfl rfl rfl ?_
        refine Go.static (pc' := 357) W32 (rm_fsn G adA adB adC adD adE adF adG adH adI adJ ceA ceB ceC ceD ceE ceF ceG ceH ceI ceJ hzA obA fdA hzB obB arA hzC obC fdB hzD obD fdC hzE slA hzF slB hzG slC hzH hzI hzJ stA stB stC stD a22 b24 c23 c25 [if 0 = jj then (chi &&& (255 : Int32)) else (99 : Int32), if 1 = jj then (chi &&& (255 : Int32)) else (111 : Int32), if 2 = jj then (chi &&& (255 : Int32)) else (110 : Int32), if 3 = jj then (chi &&& (255 : Int32)) else (102 : Int32), if 4 = jj then (chi &&& (255 : Int32)) else (105 : Int32), if 5 = jj then (chi &&& (255 : Int32)) else (103 : Int32), if 6 = jj then (chi &&& (255 : Int32)) else (117 : Int32), if 7 = jj then (chi &&& (255 : Int32)) else (114 : Int32), if 8 = jj then (chi &&& (255 : Int32)) else (101 : Int32)] S26) (w_25 G) (w_26 G) (w_10 G) (w_27 G) (by decide) [] [0, 1] (σf := []) rfl rfl [(.ref a22)] [] rfl (lenOf pd_24 rfl) rfl rfl d_code_354 rfl (by first | exact Nat.le_of_ble_eq_true rfl | (simp; done) | (simp; omega) | omega) (by first | exact Nat.le_of_ble_eq_true rfl | (simp; done) | (simp; omega) | omega) (by first | exact Nat.le_of_ble_eq_true rfl | (simp; done) | (simp; omega) | omega) (by first | exact Nat.le_of_ble_eq_true rfl | (simp; done) | (simp; omega) | omega) ?_
        rintro _ _ _ T36 ⟨rfl, rfl, rfl⟩ W37
        replace W37 : Wk l Z EL1 ({ frames := 9, cells := 24, slots := 4288, locals := 192 } : Room) "com/example/grantline/grantline/enforcer/PermissionFromScopeNamePinLaw" code 15 (some .boolean) "law" X [] [(a22, c23), (b24, c25), (a6, c8), (b7, c9)] T36 6 (65) := W37
        show Go Z EL1 _ _ _ X T36 357 #[.val (.int sel), .val (.int shape), .val (.int pos), .val (.int chi), .val (.int (0 : Int32)), .val (.ref a6), .val (.ref adA), .val (.int (9 : Int32)), .val (.int jj.toInt32), .val (.int (chi &&& (255 : Int32))), .val (.int (0 : Int32)), .val (.int (9 : Int32)), .val (.ref a22), .val (.ref adA), .unset] [(fsn adA adC adD [if 0 = jj then (chi &&& (255 : Int32)) else (99 : Int32), if 1 = jj then (chi &&& (255 : Int32)) else (111 : Int32), if 2 = jj then (chi &&& (255 : Int32)) else (110 : Int32), if 3 = jj then (chi &&& (255 : Int32)) else (102 : Int32), if 4 = jj then (chi &&& (255 : Int32)) else (105 : Int32), if 5 = jj then (chi &&& (255 : Int32)) else (103 : Int32), if 6 = jj then (chi &&& (255 : Int32)) else (117 : Int32), if 7 = jj then (chi &&& (255 : Int32)) else (114 : Int32), if 8 = jj then (chi &&& (255 : Int32)) else (101 : Int32)])]
        refine Go.aload (pc' := 359) W37 d_code_357 rfl rfl rfl ?_
        refine Go.acmp_ne (pc' := 362) W37 366 (fsn_ref _ _ _ _) rfl d_code_359 (by decide) rfl (fun hq => absurd ((pure0_configure adA adC adD jj hjj _ _ h30).1 c33) hq) (fun _ => ?_)
        refine Go.iconst (pc' := 363) W37 (1 : Int32) d_code_362 (by decide) rfl ?_
        refine Go.goto W37 367 d_code_363 (by decide) ?_
        refine Go.nret (z' := (1 : Int32)) W37 (by simp) (by decide) d_code_367 (by first | exact Nat.le_of_ble_eq_true rfl | (simp; done) | (simp; omega) | omega) (by first | exact Nat.le_of_ble_eq_true rfl | (simp; done) | (simp; omega) | omega) ?_
        rfl
    · refine Go.istore (pc' := 90) W18 #[.val (.int sel), .val (.int shape), .val (.int pos), .val (.int chi), .val (.int (0 : Int32)), .val (.ref a6), .val (.ref adA), .val (.int (9 : Int32)), .val (.int jj.toInt32), .val (.int (chi &&& (255 : Int32))), .val (.int (1 : Int32)), .unset, .unset, .unset, .unset] d_code_88 rfl rfl ?_
      refine Go.iload (pc' := 92) W18 d_code_90 rfl rfl ?_
      refine Go.iconst (pc' := 93) W18 (3 : Int32) d_code_92 (by decide) rfl ?_
      refine Go.icmp_ne (pc' := 96) W18 283 d_code_93 (by decide) rfl (fun _ => ?_) (fun q => absurd q (by decide))
      refine Go.iload (pc' := 285) W18 d_code_283 rfl rfl ?_
      refine Go.if_ne (pc' := 288) W18 293 d_code_285 (by decide) rfl (fun _ => ?_) (fun q => absurd q (by decide))
      refine Go.iload (pc' := 295) W18 d_code_293 rfl rfl ?_
      refine Go.iconst (pc' := 296) W18 (1 : Int32) d_code_295 (by decide) rfl ?_
      refine Go.icmp_ne (pc' := 299) W18 306 d_code_296 (by decide) rfl (fun q => absurd (by decide) q) (fun _ => ?_)
      refine Go.iload (pc' := 301) W18 d_code_299 rfl rfl ?_
      refine Go.iconst (pc' := 302) W18 (1 : Int32) d_code_301 (by decide) rfl ?_
      refine Go.iadd (pc' := 303) W18 d_code_302 rfl ?_
      rw [show ((9 : Int32) + (1 : Int32) : Int32) = (10 : Int32) from by decide]
      refine Go.goto W18 310 d_code_303 (by decide) ?_
      refine Go.istore (pc' := 312) W18 #[.val (.int sel), .val (.int shape), .val (.int pos), .val (.int chi), .val (.int (0 : Int32)), .val (.ref a6), .val (.ref adA), .val (.int (9 : Int32)), .val (.int jj.toInt32), .val (.int (chi &&& (255 : Int32))), .val (.int (1 : Int32)), .val (.int (10 : Int32)), .unset, .unset, .unset] d_code_310 rfl rfl ?_
      refine Go.aload (pc' := 314) W18 d_code_312 rfl rfl rfl ?_
      refine Go.iload (pc' := 316) W18 d_code_314 rfl rfl ?_
      refine Go.iload (pc' := 318) W18 d_code_316 rfl rfl ?_
      refine Go.iload (pc' := 320) W18 d_code_318 rfl rfl ?_
      refine Go.iload (pc' := 322) W18 d_code_320 rfl rfl ?_
      refine Go.static (pc' := 325) W18 (rm_build_configureo G a6 b7 c8 c9 S14 jj hjj (chi &&& (255 : Int32)) (and255 _)) (w_72 G) (w_73 G) (w_74 G) (w_75 G) (by decide) [] [0, 1] (σf := []) rfl rfl [(.ref a6), (.int (10 : Int32)), (.int (1 : Int32)), (.int jj.toInt32), (.int (chi &&& (255 : Int32)))] [] rfl (lenOf pd_23 rfl) rfl rfl d_code_322 rfl (by first | exact Nat.le_of_ble_eq_true rfl | (simp; done) | (simp; omega) | omega) (by first | exact Nat.le_of_ble_eq_true rfl | (simp; done) | (simp; omega) | omega) (by first | exact Nat.le_of_ble_eq_true rfl | (simp; done) | (simp; omega) | omega) (by first | exact Nat.le_of_ble_eq_true rfl | (simp; done) | (simp; omega) | omega) ?_
      rintro _ _ _ T43 ⟨a38, c39, b40, c41, rfl, rfl, rfl, S42⟩ W44
      replace W44 : Wk l Z EL1 ({ frames := 9, cells := 24, slots := 4288, locals := 192 } : Room) "com/example/grantline/grantline/enforcer/PermissionFromScopeNamePinLaw" code 15 (some .boolean) "law" X [] [(a38, c39), (b40, c41), (a6, c8), (b7, c9)] T43 5 (64) := W44
      show Go Z EL1 _ _ _ X T43 325 #[.val (.int sel), .val (.int shape), .val (.int pos), .val (.int chi), .val (.int (0 : Int32)), .val (.ref a6), .val (.ref adA), .val (.int (9 : Int32)), .val (.int jj.toInt32), .val (.int (chi &&& (255 : Int32))), .val (.int (1 : Int32)), .val (.int (10 : Int32)), .unset, .unset, .unset] [(.ref a38)]
      refine Go.astore (pc' := 327) W44 #[.val (.int sel), .val (.int shape), .val (.int pos), .val (.int chi), .val (.int (0 : Int32)), .val (.ref a6), .val (.ref adA), .val (.int (9 : Int32)), .val (.int jj.toInt32), .val (.int (chi &&& (255 : Int32))), .val (.int (1 : Int32)), .val (.int (10 : Int32)), .val (.ref a38), .unset, .unset] d_code_325 rfl rfl rfl ?_
      refine Go.iload (pc' := 329) W44 d_code_327 rfl rfl ?_
      refine Go.if_ne (pc' := 332) W44 349 d_code_329 (by decide) rfl (fun _ => ?_) (fun q => absurd q (by decide))
      refine Go.aconstNull (pc' := 350) W44 d_code_349 rfl ?_
      refine Go.astore (pc' := 352) W44 #[.val (.int sel), .val (.int shape), .val (.int pos), .val (.int chi), .val (.int (0 : Int32)), .val (.ref a6), .val (.ref adA), .val (.int (9 : Int32)), .val (.int jj.toInt32), .val (.int (chi &&& (255 : Int32))), .val (.int (1 : Int32)), .val (.int (10 : Int32)), .val (.ref a38), .val (.null), .unset] d_code_350 rfl rfl rfl ?_
      refine Go.aload (pc' := 354) W44 d_code_352 rfl rfl rfl ?_
      refine Go.static (pc' := 357) W44 (rm_fsn G adA adB adC adD adE adF adG adH adI adJ ceA ceB ceC ceD ceE ceF ceG ceH ceI ceJ hzA obA fdA hzB obB arA hzC obC fdB hzD obD fdC hzE slA hzF slB hzG slC hzH hzI hzJ stA stB stC stD a38 b40 c39 c41 [(99 : Int32), (111 : Int32), (110 : Int32), (102 : Int32), (105 : Int32), (103 : Int32), (117 : Int32), (114 : Int32), (101 : Int32), (chi &&& (255 : Int32))] S42) (w_25 G) (w_26 G) (w_10 G) (w_27 G) (by decide) [] [0, 1] (σf := []) rfl rfl [(.ref a38)] [] rfl (lenOf pd_24 rfl) rfl rfl d_code_354 rfl (by first | exact Nat.le_of_ble_eq_true rfl | (simp; done) | (simp; omega) | omega) (by first | exact Nat.le_of_ble_eq_true rfl | (simp; done) | (simp; omega) | omega) (by first | exact Nat.le_of_ble_eq_true rfl | (simp; done) | (simp; omega) | omega) (by first | exact Nat.le_of_ble_eq_true rfl | (simp; done) | (simp; omega) | omega) ?_
      rintro _ _ _ T45 ⟨rfl, rfl, rfl⟩ W46
      replace W46 : Wk l Z EL1 ({ frames := 9, cells := 24, slots := 4288, locals := 192 } : Room) "com/example/grantline/grantline/enforcer/PermissionFromScopeNamePinLaw" code 15 (some .boolean) "law" X [] [(a38, c39), (b40, c41), (a6, c8), (b7, c9)] T45 6 (67) := W46
      show Go Z EL1 _ _ _ X T45 357 #[.val (.int sel), .val (.int shape), .val (.int pos), .val (.int chi), .val (.int (0 : Int32)), .val (.ref a6), .val (.ref adA), .val (.int (9 : Int32)), .val (.int jj.toInt32), .val (.int (chi &&& (255 : Int32))), .val (.int (1 : Int32)), .val (.int (10 : Int32)), .val (.ref a38), .val (.null), .unset] [(fsn adA adC adD [(99 : Int32), (111 : Int32), (110 : Int32), (102 : Int32), (105 : Int32), (103 : Int32), (117 : Int32), (114 : Int32), (101 : Int32), (chi &&& (255 : Int32))])]
      refine Go.aload (pc' := 359) W46 d_code_357 rfl rfl rfl ?_
      refine Go.acmp_ne (pc' := 362) W46 366 (fsn_ref _ _ _ _) rfl d_code_359 (by decide) rfl (fun hq => absurd (pure1_configure adA adC adD _) hq) (fun _ => ?_)
      refine Go.iconst (pc' := 363) W46 (1 : Int32) d_code_362 (by decide) rfl ?_
      refine Go.goto W46 367 d_code_363 (by decide) ?_
      refine Go.nret (z' := (1 : Int32)) W46 (by simp) (by decide) d_code_367 (by first | exact Nat.le_of_ble_eq_true rfl | (simp; done) | (simp; omega) | omega) (by first | exact Nat.le_of_ble_eq_true rfl | (simp; done) | (simp; omega) | omega) ?_
      rfl
    · refine Go.istore (pc' := 90) W18 #[.val (.int sel), .val (.int shape), .val (.int pos), .val (.int chi), .val (.int (0 : Int32)), .val (.ref a6), .val (.ref adA), .val (.int (9 : Int32)), .val (.int jj.toInt32), .val (.int (chi &&& (255 : Int32))), .val (.int (2 : Int32)), .unset, .unset, .unset, .unset] d_code_88 rfl rfl ?_
      refine Go.iload (pc' := 92) W18 d_code_90 rfl rfl ?_
      refine Go.iconst (pc' := 93) W18 (3 : Int32) d_code_92 (by decide) rfl ?_
      refine Go.icmp_ne (pc' := 96) W18 283 d_code_93 (by decide) rfl (fun _ => ?_) (fun q => absurd q (by decide))
      refine Go.iload (pc' := 285) W18 d_code_283 rfl rfl ?_
      refine Go.if_ne (pc' := 288) W18 293 d_code_285 (by decide) rfl (fun _ => ?_) (fun q => absurd q (by decide))
      refine Go.iload (pc' := 295) W18 d_code_293 rfl rfl ?_
      refine Go.iconst (pc' := 296) W18 (1 : Int32) d_code_295 (by decide) rfl ?_
      refine Go.icmp_ne (pc' := 299) W18 306 d_code_296 (by decide) rfl (fun _ => ?_) (fun q => absurd q (by decide))
      refine Go.iload (pc' := 308) W18 d_code_306 rfl rfl ?_
      refine Go.iconst (pc' := 309) W18 (1 : Int32) d_code_308 (by decide) rfl ?_
      refine Go.isub (pc' := 310) W18 d_code_309 rfl ?_
      rw [show ((9 : Int32) - (1 : Int32) : Int32) = (8 : Int32) from by decide]
      refine Go.istore (pc' := 312) W18 #[.val (.int sel), .val (.int shape), .val (.int pos), .val (.int chi), .val (.int (0 : Int32)), .val (.ref a6), .val (.ref adA), .val (.int (9 : Int32)), .val (.int jj.toInt32), .val (.int (chi &&& (255 : Int32))), .val (.int (2 : Int32)), .val (.int (8 : Int32)), .unset, .unset, .unset] d_code_310 rfl rfl ?_
      refine Go.aload (pc' := 314) W18 d_code_312 rfl rfl rfl ?_
      refine Go.iload (pc' := 316) W18 d_code_314 rfl rfl ?_
      refine Go.iload (pc' := 318) W18 d_code_316 rfl rfl ?_
      refine Go.iload (pc' := 320) W18 d_code_318 rfl rfl ?_
      refine Go.iload (pc' := 322) W18 d_code_320 rfl rfl ?_
      refine Go.static (pc' := 325) W18 (rm_build_configuret G a6 b7 c8 c9 S14 jj hjj (chi &&& (255 : Int32)) (and255 _)) (w_72 G) (w_73 G) (w_74 G) (w_75 G) (by decide) [] [0, 1] (σf := []) rfl rfl [(.ref a6), (.int (8 : Int32)), (.int (2 : Int32)), (.int jj.toInt32), (.int (chi &&& (255 : Int32)))] [] rfl (lenOf pd_23 rfl) rfl rfl d_code_322 rfl (by first | exact Nat.le_of_ble_eq_true rfl | (simp; done) | (simp; omega) | omega) (by first | exact Nat.le_of_ble_eq_true rfl | (simp; done) | (simp; omega) | omega) (by first | exact Nat.le_of_ble_eq_true rfl | (simp; done) | (simp; omega) | omega) (by first | exact Nat.le_of_ble_eq_true rfl | (simp; done) | (simp; omega) | omega) ?_
      rintro _ _ _ T52 ⟨a47, c48, b49, c50, rfl, rfl, rfl, S51⟩ W53
      replace W53 : Wk l Z EL1 ({ frames := 9, cells := 24, slots := 4288, locals := 192 } : Room) "com/example/grantline/grantline/enforcer/PermissionFromScopeNamePinLaw" code 15 (some .boolean) "law" X [] [(a47, c48), (b49, c50), (a6, c8), (b7, c9)] T52 5 (60) := W53
      show Go Z EL1 _ _ _ X T52 325 #[.val (.int sel), .val (.int shape), .val (.int pos), .val (.int chi), .val (.int (0 : Int32)), .val (.ref a6), .val (.ref adA), .val (.int (9 : Int32)), .val (.int jj.toInt32), .val (.int (chi &&& (255 : Int32))), .val (.int (2 : Int32)), .val (.int (8 : Int32)), .unset, .unset, .unset] [(.ref a47)]
      refine Go.astore (pc' := 327) W53 #[.val (.int sel), .val (.int shape), .val (.int pos), .val (.int chi), .val (.int (0 : Int32)), .val (.ref a6), .val (.ref adA), .val (.int (9 : Int32)), .val (.int jj.toInt32), .val (.int (chi &&& (255 : Int32))), .val (.int (2 : Int32)), .val (.int (8 : Int32)), .val (.ref a47), .unset, .unset] d_code_325 rfl rfl rfl ?_
      refine Go.iload (pc' := 329) W53 d_code_327 rfl rfl ?_
      refine Go.if_ne (pc' := 332) W53 349 d_code_329 (by decide) rfl (fun _ => ?_) (fun q => absurd q (by decide))
      refine Go.aconstNull (pc' := 350) W53 d_code_349 rfl ?_
      refine Go.astore (pc' := 352) W53 #[.val (.int sel), .val (.int shape), .val (.int pos), .val (.int chi), .val (.int (0 : Int32)), .val (.ref a6), .val (.ref adA), .val (.int (9 : Int32)), .val (.int jj.toInt32), .val (.int (chi &&& (255 : Int32))), .val (.int (2 : Int32)), .val (.int (8 : Int32)), .val (.ref a47), .val (.null), .unset] d_code_350 rfl rfl rfl ?_
      refine Go.aload (pc' := 354) W53 d_code_352 rfl rfl rfl ?_
      refine Go.static (pc' := 357) W53 (rm_fsn G adA adB adC adD adE adF adG adH adI adJ ceA ceB ceC ceD ceE ceF ceG ceH ceI ceJ hzA obA fdA hzB obB arA hzC obC fdB hzD obD fdC hzE slA hzF slB hzG slC hzH hzI hzJ stA stB stC stD a47 b49 c48 c50 [if 0 < jj then (99 : Int32) else (111 : Int32), if 1 < jj then (111 : Int32) else (110 : Int32), if 2 < jj then (110 : Int32) else (102 : Int32), if 3 < jj then (102 : Int32) else (105 : Int32), if 4 < jj then (105 : Int32) else (103 : Int32), if 5 < jj then (103 : Int32) else (117 : Int32), if 6 < jj then (117 : Int32) else (114 : Int32), if 7 < jj then (114 : Int32) else (101 : Int32)] S51) (w_25 G) (w_26 G) (w_10 G) (w_27 G) (by decide) [] [0, 1] (σf := []) rfl rfl [(.ref a47)] [] rfl (lenOf pd_24 rfl) rfl rfl d_code_354 rfl (by first | exact Nat.le_of_ble_eq_true rfl | (simp; done) | (simp; omega) | omega) (by first | exact Nat.le_of_ble_eq_true rfl | (simp; done) | (simp; omega) | omega) (by first | exact Nat.le_of_ble_eq_true rfl | (simp; done) | (simp; omega) | omega) (by first | exact Nat.le_of_ble_eq_true rfl | (simp; done) | (simp; omega) | omega) ?_
      rintro _ _ _ T54 ⟨rfl, rfl, rfl⟩ W55
      replace W55 : Wk l Z EL1 ({ frames := 9, cells := 24, slots := 4288, locals := 192 } : Room) "com/example/grantline/grantline/enforcer/PermissionFromScopeNamePinLaw" code 15 (some .boolean) "law" X [] [(a47, c48), (b49, c50), (a6, c8), (b7, c9)] T54 6 (63) := W55
      show Go Z EL1 _ _ _ X T54 357 #[.val (.int sel), .val (.int shape), .val (.int pos), .val (.int chi), .val (.int (0 : Int32)), .val (.ref a6), .val (.ref adA), .val (.int (9 : Int32)), .val (.int jj.toInt32), .val (.int (chi &&& (255 : Int32))), .val (.int (2 : Int32)), .val (.int (8 : Int32)), .val (.ref a47), .val (.null), .unset] [(fsn adA adC adD [if 0 < jj then (99 : Int32) else (111 : Int32), if 1 < jj then (111 : Int32) else (110 : Int32), if 2 < jj then (110 : Int32) else (102 : Int32), if 3 < jj then (102 : Int32) else (105 : Int32), if 4 < jj then (105 : Int32) else (103 : Int32), if 5 < jj then (103 : Int32) else (117 : Int32), if 6 < jj then (117 : Int32) else (114 : Int32), if 7 < jj then (114 : Int32) else (101 : Int32)])]
      refine Go.aload (pc' := 359) W55 d_code_357 rfl rfl rfl ?_
      refine Go.acmp_ne (pc' := 362) W55 366 (fsn_ref _ _ _ _) rfl d_code_359 (by decide) rfl (fun hq => absurd (pure2_configure adA adC adD jj hjj) hq) (fun _ => ?_)
      refine Go.iconst (pc' := 363) W55 (1 : Int32) d_code_362 (by decide) rfl ?_
      refine Go.goto W55 367 d_code_363 (by decide) ?_
      refine Go.nret (z' := (1 : Int32)) W55 (by simp) (by decide) d_code_367 (by first | exact Nat.le_of_ble_eq_true rfl | (simp; done) | (simp; omega) | omega) (by first | exact Nat.le_of_ble_eq_true rfl | (simp; done) | (simp; omega) | omega) ?_
      rfl
    · refine Go.istore (pc' := 90) W18 #[.val (.int sel), .val (.int shape), .val (.int pos), .val (.int chi), .val (.int (0 : Int32)), .val (.ref a6), .val (.ref adA), .val (.int (9 : Int32)), .val (.int jj.toInt32), .val (.int (chi &&& (255 : Int32))), .val (.int (3 : Int32)), .unset, .unset, .unset, .unset] d_code_88 rfl rfl ?_
      refine Go.iload (pc' := 92) W18 d_code_90 rfl rfl ?_
      refine Go.iconst (pc' := 93) W18 (3 : Int32) d_code_92 (by decide) rfl ?_
      refine Go.icmp_ne (pc' := 96) W18 283 d_code_93 (by decide) rfl (fun q => absurd (by decide) q) (fun _ => ?_)
      refine Go.iloadN (pc' := 97) W18 d_code_96 rfl rfl ?_
      refine Go.iconst (pc' := 98) W18 (2 : Int32) d_code_97 (by decide) rfl ?_
      refine Go.iushr (pc' := 99) W18 d_code_98 rfl ?_
      refine Go.iconst (pc' := 100) W18 (3 : Int32) d_code_99 (by decide) rfl ?_
      refine Go.iand (pc' := 101) W18 d_code_100 rfl ?_
      refine Go.istore (pc' := 103) W18 #[.val (.int sel), .val (.int shape), .val (.int pos), .val (.int chi), .val (.int (0 : Int32)), .val (.ref a6), .val (.ref adA), .val (.int (9 : Int32)), .val (.int jj.toInt32), .val (.int (chi &&& (255 : Int32))), .val (.int (3 : Int32)), .val (.int (((shape.toUInt32 >>> ((2 : Int32) &&& 31).toUInt32).toInt32) &&& (3 : Int32))), .unset, .unset, .unset] d_code_101 rfl rfl ?_
      refine Go.iload (pc' := 105) W18 d_code_103 rfl rfl ?_
      refine Go.if_ne (pc' := 108) W18 121 d_code_105 (by decide) rfl (fun (c56 : ¬ ((((shape.toUInt32 >>> ((2 : Int32) &&& 31).toUInt32).toInt32) &&& (3 : Int32)) = 0)) => ?_) (fun (c56 : (((shape.toUInt32 >>> ((2 : Int32) &&& 31).toUInt32).toInt32) &&& (3 : Int32)) = 0) => ?_)
      · refine Go.iload (pc' := 123) W18 d_code_121 rfl rfl ?_
        refine Go.iconst (pc' := 124) W18 (1 : Int32) d_code_123 (by decide) rfl ?_
        refine Go.icmp_ne (pc' := 127) W18 149 d_code_124 (by decide) rfl (fun (c57 : ¬ ((((shape.toUInt32 >>> ((2 : Int32) &&& 31).toUInt32).toInt32) &&& (3 : Int32)) = (1 : Int32))) => ?_) (fun (c57 : (((shape.toUInt32 >>> ((2 : Int32) &&& 31).toUInt32).toInt32) &&& (3 : Int32)) = (1 : Int32)) => ?_)
        · refine Go.iconst (pc' := 150) W18 (4 : Int32) d_code_149 (by decide) rfl ?_
          refine Go.newarr (pc' := 152) W18 .char rfl 4 (w_55 G) d_code_150 rfl (by decide) (by decide) (by decide) (by first | exact Nat.le_of_ble_eq_true rfl | (simp; done) | (simp; omega) | omega) (by first | exact Nat.le_of_ble_eq_true rfl | (simp; done) | (simp; omega) | omega) (fun T58 a60 c61 W59 A62 => ?_)
          replace W59 : Wk l Z EL1 ({ frames := 9, cells := 24, slots := 4288, locals := 192 } : Room) "com/example/grantline/grantline/enforcer/PermissionFromScopeNamePinLaw" code 15 (some .boolean) "law" X [(a60, c61)] [(a6, c8), (b7, c9)] T58 3 (44) := W59
          replace A62 : ArrC Z c61 .char [(.int (0 : Int32)), (.int (0 : Int32)), (.int (0 : Int32)), (.int (0 : Int32))] := A62
          refine Go.astore (pc' := 154) W59 #[.val (.int sel), .val (.int shape), .val (.int pos), .val (.int chi), .val (.int (0 : Int32)), .val (.ref a6), .val (.ref adA), .val (.int (9 : Int32)), .val (.int jj.toInt32), .val (.int (chi &&& (255 : Int32))), .val (.int (3 : Int32)), .val (.int (((shape.toUInt32 >>> ((2 : Int32) &&& 31).toUInt32).toInt32) &&& (3 : Int32))), .val (.ref a60), .unset, .unset] d_code_152 rfl rfl rfl ?_
          refine Go.aload (pc' := 156) W59 d_code_154 rfl rfl rfl ?_
          refine Go.iconst (pc' := 157) W59 (0 : Int32) d_code_156 (by decide) rfl ?_
          refine Go.iloadN (pc' := 158) W59 d_code_157 rfl rfl ?_
          refine Go.sipush (pc' := 161) W59 (255 : Int32) d_code_158 (by decide) rfl ?_
          refine Go.iand (pc' := 162) W59 d_code_161 rfl ?_
          refine Go.i2c (pc' := 163) W59 d_code_162 rfl ?_
          rw [i2c_id (lat_char (and255 _)).1 (lat_char (and255 _)).2]
          refine Go.castore (pc' := 164) W59 0 rfl A62 0 (chi &&& (255 : Int32)) (nar_char_id (lat_char (and255 _))) (by decide) (by decide) (by simp) d_code_163 rfl (fun T63 c65 W64 A66 => ?_)
          replace W64 : Wk l Z EL1 ({ frames := 9, cells := 24, slots := 4288, locals := 192 } : Room) "com/example/grantline/grantline/enforcer/PermissionFromScopeNamePinLaw" code 15 (some .boolean) "law" X [(a60, c65)] [(a6, c8), (b7, c9)] T63 3 (44) := W64
          replace A66 : ArrC Z c65 .char [(.int (chi &&& (255 : Int32))), (.int (0 : Int32)), (.int (0 : Int32)), (.int (0 : Int32))] := A66
          refine Go.aload (pc' := 166) W64 d_code_164 rfl rfl rfl ?_
          refine Go.iconst (pc' := 167) W64 (1 : Int32) d_code_166 (by decide) rfl ?_
          refine Go.iloadN (pc' := 168) W64 d_code_167 rfl rfl ?_
          refine Go.bipush (pc' := 170) W64 (8 : Int32) d_code_168 (by decide) rfl ?_
          refine Go.iushr (pc' := 171) W64 d_code_170 rfl ?_
          refine Go.sipush (pc' := 174) W64 (255 : Int32) d_code_171 (by decide) rfl ?_
          refine Go.iand (pc' := 175) W64 d_code_174 rfl ?_
          refine Go.i2c (pc' := 176) W64 d_code_175 rfl ?_
          rw [i2c_id (lat_char (and255 _)).1 (lat_char (and255 _)).2]
          refine Go.castore (pc' := 177) W64 0 rfl A66 1 (((chi.toUInt32 >>> ((8 : Int32) &&& 31).toUInt32).toInt32) &&& (255 : Int32)) (nar_char_id (lat_char (and255 _))) (by decide) (by decide) (by simp) d_code_176 rfl (fun T67 c69 W68 A70 => ?_)
          replace W68 : Wk l Z EL1 ({ frames := 9, cells := 24, slots := 4288, locals := 192 } : Room) "com/example/grantline/grantline/enforcer/PermissionFromScopeNamePinLaw" code 15 (some .boolean) "law" X [(a60, c69)] [(a6, c8), (b7, c9)] T67 3 (44) := W68
          replace A70 : ArrC Z c69 .char [(.int (chi &&& (255 : Int32))), (.int (((chi.toUInt32 >>> ((8 : Int32) &&& 31).toUInt32).toInt32) &&& (255 : Int32))), (.int (0 : Int32)), (.int (0 : Int32))] := A70
          refine Go.aload (pc' := 179) W68 d_code_177 rfl rfl rfl ?_
          refine Go.iconst (pc' := 180) W68 (2 : Int32) d_code_179 (by decide) rfl ?_
          refine Go.iloadN (pc' := 181) W68 d_code_180 rfl rfl ?_
          refine Go.bipush (pc' := 183) W68 (16 : Int32) d_code_181 (by decide) rfl ?_
          refine Go.iushr (pc' := 184) W68 d_code_183 rfl ?_
          refine Go.sipush (pc' := 187) W68 (255 : Int32) d_code_184 (by decide) rfl ?_
          refine Go.iand (pc' := 188) W68 d_code_187 rfl ?_
          refine Go.i2c (pc' := 189) W68 d_code_188 rfl ?_
          rw [i2c_id (lat_char (and255 _)).1 (lat_char (and255 _)).2]
          refine Go.castore (pc' := 190) W68 0 rfl A70 2 (((chi.toUInt32 >>> ((16 : Int32) &&& 31).toUInt32).toInt32) &&& (255 : Int32)) (nar_char_id (lat_char (and255 _))) (by decide) (by decide) (by simp) d_code_189 rfl (fun T71 c73 W72 A74 => ?_)
          replace W72 : Wk l Z EL1 ({ frames := 9, cells := 24, slots := 4288, locals := 192 } : Room) "com/example/grantline/grantline/enforcer/PermissionFromScopeNamePinLaw" code 15 (some .boolean) "law" X [(a60, c73)] [(a6, c8), (b7, c9)] T71 3 (44) := W72
          replace A74 : ArrC Z c73 .char [(.int (chi &&& (255 : Int32))), (.int (((chi.toUInt32 >>> ((8 : Int32) &&& 31).toUInt32).toInt32) &&& (255 : Int32))), (.int (((chi.toUInt32 >>> ((16 : Int32) &&& 31).toUInt32).toInt32) &&& (255 : Int32))), (.int (0 : Int32))] := A74
          refine Go.aload (pc' := 192) W72 d_code_190 rfl rfl rfl ?_
          refine Go.iconst (pc' := 193) W72 (3 : Int32) d_code_192 (by decide) rfl ?_
          refine Go.iloadN (pc' := 194) W72 d_code_193 rfl rfl ?_
          refine Go.bipush (pc' := 196) W72 (24 : Int32) d_code_194 (by decide) rfl ?_
          refine Go.iushr (pc' := 197) W72 d_code_196 rfl ?_
          refine Go.sipush (pc' := 200) W72 (255 : Int32) d_code_197 (by decide) rfl ?_
          refine Go.iand (pc' := 201) W72 d_code_200 rfl ?_
          refine Go.i2c (pc' := 202) W72 d_code_201 rfl ?_
          rw [i2c_id (lat_char (and255 _)).1 (lat_char (and255 _)).2]
          refine Go.castore (pc' := 203) W72 0 rfl A74 3 (((chi.toUInt32 >>> ((24 : Int32) &&& 31).toUInt32).toInt32) &&& (255 : Int32)) (nar_char_id (lat_char (and255 _))) (by decide) (by decide) (by simp) d_code_202 rfl (fun T75 c77 W76 A78 => ?_)
          replace W76 : Wk l Z EL1 ({ frames := 9, cells := 24, slots := 4288, locals := 192 } : Room) "com/example/grantline/grantline/enforcer/PermissionFromScopeNamePinLaw" code 15 (some .boolean) "law" X [(a60, c77)] [(a6, c8), (b7, c9)] T75 3 (44) := W76
          replace A78 : ArrC Z c77 .char [(.int (chi &&& (255 : Int32))), (.int (((chi.toUInt32 >>> ((8 : Int32) &&& 31).toUInt32).toInt32) &&& (255 : Int32))), (.int (((chi.toUInt32 >>> ((16 : Int32) &&& 31).toUInt32).toInt32) &&& (255 : Int32))), (.int (((chi.toUInt32 >>> ((24 : Int32) &&& 31).toUInt32).toInt32) &&& (255 : Int32)))] := A78
          refine Go.aload (pc' := 205) W76 d_code_203 rfl rfl rfl ?_
          refine Go.iconst (pc' := 206) W76 (0 : Int32) d_code_205 (by decide) rfl ?_
          refine Go.caload (pc' := 207) W76 (Or.inl (List.mem_of_getElem? (i := 0) rfl)) A78 0 (by decide) (by decide) rfl d_code_206 rfl ?_
          refine Go.bipush (pc' := 209) W76 (114 : Int32) d_code_207 (by decide) rfl ?_
          refine Go.icmp_ne (pc' := 212) W76 243 d_code_209 (by decide) rfl (fun (c79 : ¬ ((chi &&& (255 : Int32)) = (114 : Int32))) => ?_) (fun (c79 : (chi &&& (255 : Int32)) = (114 : Int32)) => ?_)
          · refine Go.iconst (pc' := 244) W76 (0 : Int32) d_code_243 (by decide) rfl ?_
            refine Go.istore (pc' := 246) W76 #[.val (.int sel), .val (.int shape), .val (.int pos), .val (.int chi), .val (.int (0 : Int32)), .val (.ref a6), .val (.ref adA), .val (.int (9 : Int32)), .val (.int jj.toInt32), .val (.int (chi &&& (255 : Int32))), .val (.int (3 : Int32)), .val (.int (((shape.toUInt32 >>> ((2 : Int32) &&& 31).toUInt32).toInt32) &&& (3 : Int32))), .val (.ref a60), .val (.int (0 : Int32)), .unset] d_code_244 rfl rfl ?_
            refine Go.iload (pc' := 248) W76 d_code_246 rfl rfl ?_
            refine Go.if_eq (pc' := 251) W76 257 d_code_248 (by decide) rfl (fun _ => ?_) (fun q => absurd (by decide) q)
            refine Go.aconstNull (pc' := 258) W76 d_code_257 rfl ?_
            refine Go.astore (pc' := 260) W76 #[.val (.int sel), .val (.int shape), .val (.int pos), .val (.int chi), .val (.int (0 : Int32)), .val (.ref a6), .val (.ref adA), .val (.int (9 : Int32)), .val (.int jj.toInt32), .val (.int (chi &&& (255 : Int32))), .val (.int (3 : Int32)), .val (.int (((shape.toUInt32 >>> ((2 : Int32) &&& 31).toUInt32).toInt32) &&& (3 : Int32))), .val (.ref a60), .val (.int (0 : Int32)), .val (.null)] d_code_258 rfl rfl rfl ?_
            refine Go.new (pc' := 263) W76 (w_54 G) (w_3 G) (w_2 G) d_code_260 rfl (by first | exact Nat.le_of_ble_eq_true rfl | (simp; done) | (simp; omega) | omega) (by first | exact Nat.le_of_ble_eq_true rfl | (simp; done) | (simp; omega) | omega) (fun T80 a82 c83 W81 O84 D85 => ?_)
            replace W81 : Wk l Z EL1 ({ frames := 9, cells := 24, slots := 4288, locals := 192 } : Room) "com/example/grantline/grantline/enforcer/PermissionFromScopeNamePinLaw" code 15 (some .boolean) "law" X [(a82, c83), (a60, c77)] [(a6, c8), (b7, c9)] T80 4 (48) := W81
            have F86 : FldC Z c83 "java/lang/String" "value" "[B" (.null) := D85 (Or.inr (w_5 G)) (ty := (.array .byte)) (by decide)
            have F87 : FldC Z c83 "java/lang/String" "coder" "B" (.int (0 : Int32)) := D85 (Or.inr (w_6 G)) (ty := .byte) (by decide)
            refine Go.dup (pc' := 264) W81 d_code_263 rfl rfl ?_
            refine Go.aload (pc' := 266) W81 d_code_264 rfl rfl rfl ?_
            refine Go.special (pc' := 269) W81 (a := a82) (rm_initC G a82 a60 c83 c77 [chi &&& (255 : Int32), ((chi.toUInt32 >>> ((8 : Int32) &&& 31).toUInt32).toInt32) &&& (255 : Int32), ((chi.toUInt32 >>> ((16 : Int32) &&& 31).toUInt32).toInt32) &&& (255 : Int32), ((chi.toUInt32 >>> ((24 : Int32) &&& 31).toUInt32).toInt32) &&& (255 : Int32)] A78 O84 F87 F86 (Lat.cons (and255 _) (Lat.cons (and255 _) (Lat.cons (and255 _) (Lat.cons (and255 _) Lat.nil)))) (by simp) (show ¬ (4 : Nat).toInt32 = 0 by decide)) rfl (w_56 G) (w_57 G) (w_2 G) (w_58 G) (by decide) [0, 0] [] (σf := []) rfl rfl [(.ref a60)] [(.ref a82)] rfl (lenOf pd_22 rfl) rfl rfl d_code_266 rfl (by first | exact Nat.le_of_ble_eq_true rfl | (simp; done) | (simp; omega) | omega) (by first | exact Nat.le_of_ble_eq_true rfl | (simp; done) | (simp; omega) | omega) (by first | exact Nat.le_of_ble_eq_true rfl | (simp; done) | (simp; omega) | omega) (by first | exact Nat.le_of_ble_eq_true rfl | (simp; done) | (simp; omega) | omega) ?_
            rintro _ _ _ T92 ⟨c88, b89, c90, rfl, rfl, rfl, S91⟩ W93
            replace W93 : Wk l Z EL1 ({ frames := 9, cells := 24, slots := 4288, locals := 192 } : Room) "com/example/grantline/grantline/enforcer/PermissionFromScopeNamePinLaw" code 15 (some .boolean) "law" X [(a60, c77)] [(a82, c88), (b89, c90), (a6, c8), (b7, c9)] T92 5 (52) := W93
            show Go Z EL1 _ _ _ X T92 269 #[.val (.int sel), .val (.int shape), .val (.int pos), .val (.int chi), .val (.int (0 : Int32)), .val (.ref a6), .val (.ref adA), .val (.int (9 : Int32)), .val (.int jj.toInt32), .val (.int (chi &&& (255 : Int32))), .val (.int (3 : Int32)), .val (.int (((shape.toUInt32 >>> ((2 : Int32) &&& 31).toUInt32).toInt32) &&& (3 : Int32))), .val (.ref a60), .val (.int (0 : Int32)), .val (.null)] [(.ref a82)]
            refine Go.static (pc' := 272) W93 (rm_fsn G adA adB adC adD adE adF adG adH adI adJ ceA ceB ceC ceD ceE ceF ceG ceH ceI ceJ hzA obA fdA hzB obB arA hzC obC fdB hzD obD fdC hzE slA hzF slB hzG slC hzH hzI hzJ stA stB stC stD a82 b89 c88 c90 [chi &&& (255 : Int32), ((chi.toUInt32 >>> ((8 : Int32) &&& 31).toUInt32).toInt32) &&& (255 : Int32), ((chi.toUInt32 >>> ((16 : Int32) &&& 31).toUInt32).toInt32) &&& (255 : Int32), ((chi.toUInt32 >>> ((24 : Int32) &&& 31).toUInt32).toInt32) &&& (255 : Int32)] S91) (w_25 G) (w_26 G) (w_10 G) (w_27 G) (by decide) [] [0, 1] (σf := [(a60, c77)]) rfl rfl [(.ref a82)] [] rfl (lenOf pd_24 rfl) rfl rfl d_code_269 rfl (by first | exact Nat.le_of_ble_eq_true rfl | (simp; done) | (simp; omega) | omega) (by first | exact Nat.le_of_ble_eq_true rfl | (simp; done) | (simp; omega) | omega) (by first | exact Nat.le_of_ble_eq_true rfl | (simp; done) | (simp; omega) | omega) (by first | exact Nat.le_of_ble_eq_true rfl | (simp; done) | (simp; omega) | omega) ?_
            rintro _ _ _ T94 ⟨rfl, rfl, rfl⟩ W95
            replace W95 : Wk l Z EL1 ({ frames := 9, cells := 24, slots := 4288, locals := 192 } : Room) "com/example/grantline/grantline/enforcer/PermissionFromScopeNamePinLaw" code 15 (some .boolean) "law" X [(a60, c77)] [(a82, c88), (b89, c90), (a6, c8), (b7, c9)] T94 6 (55) := W95
            show Go Z EL1 _ _ _ X T94 272 #[.val (.int sel), .val (.int shape), .val (.int pos), .val (.int chi), .val (.int (0 : Int32)), .val (.ref a6), .val (.ref adA), .val (.int (9 : Int32)), .val (.int jj.toInt32), .val (.int (chi &&& (255 : Int32))), .val (.int (3 : Int32)), .val (.int (((shape.toUInt32 >>> ((2 : Int32) &&& 31).toUInt32).toInt32) &&& (3 : Int32))), .val (.ref a60), .val (.int (0 : Int32)), .val (.null)] [(fsn adA adC adD [chi &&& (255 : Int32), ((chi.toUInt32 >>> ((8 : Int32) &&& 31).toUInt32).toInt32) &&& (255 : Int32), ((chi.toUInt32 >>> ((16 : Int32) &&& 31).toUInt32).toInt32) &&& (255 : Int32), ((chi.toUInt32 >>> ((24 : Int32) &&& 31).toUInt32).toInt32) &&& (255 : Int32)])]
            refine Go.aload (pc' := 274) W95 d_code_272 rfl rfl rfl ?_
            refine Go.acmp_ne (pc' := 277) W95 281 (fsn_ref _ _ _ _) rfl d_code_274 (by decide) rfl (fun hq => absurd (puren _ _ _ _ _ _ _ (fun q => c79 q.1)) hq) (fun _ => ?_)
            refine Go.iconst (pc' := 278) W95 (1 : Int32) d_code_277 (by decide) rfl ?_
            refine Go.goto W95 282 d_code_278 (by decide) ?_
            refine Go.nret (z' := (1 : Int32)) W95 (by simp) (by decide) d_code_282 (by first | exact Nat.le_of_ble_eq_true rfl | (simp; done) | (simp; omega) | omega) (by first | exact Nat.le_of_ble_eq_true rfl | (simp; done) | (simp; omega) | omega) ?_
            rfl
          · refine Go.aload (pc' := 214) W76 d_code_212 rfl rfl rfl ?_
            refine Go.iconst (pc' := 215) W76 (1 : Int32) d_code_214 (by decide) rfl ?_
            refine Go.caload (pc' := 216) W76 (Or.inl (List.mem_of_getElem? (i := 0) rfl)) A78 1 (by decide) (by decide) rfl d_code_215 rfl ?_
            refine Go.bipush (pc' := 218) W76 (101 : Int32) d_code_216 (by decide) rfl ?_
            refine Go.icmp_ne (pc' := 221) W76 243 d_code_218 (by decide) rfl (fun (c96 : ¬ ((((chi.toUInt32 >>> ((8 : Int32) &&& 31).toUInt32).toInt32) &&& (255 : Int32)) = (101 : Int32))) => ?_) (fun (c96 : (((chi.toUInt32 >>> ((8 : Int32) &&& 31).toUInt32).toInt32) &&& (255 : Int32)) = (101 : Int32)) => ?_)
            · refine Go.iconst (pc' := 244) W76 (0 : Int32) d_code_243 (by decide) rfl ?_
              refine Go.istore (pc' := 246) W76 #[.val (.int sel), .val (.int shape), .val (.int pos), .val (.int chi), .val (.int (0 : Int32)), .val (.ref a6), .val (.ref adA), .val (.int (9 : Int32)), .val (.int jj.toInt32), .val (.int (chi &&& (255 : Int32))), .val (.int (3 : Int32)), .val (.int (((shape.toUInt32 >>> ((2 : Int32) &&& 31).toUInt32).toInt32) &&& (3 : Int32))), .val (.ref a60), .val (.int (0 : Int32)), .unset] d_code_244 rfl rfl ?_
              refine Go.iload (pc' := 248) W76 d_code_246 rfl rfl ?_
              refine Go.if_eq (pc' := 251) W76 257 d_code_248 (by decide) rfl (fun _ => ?_) (fun q => absurd (by decide) q)
              refine Go.aconstNull (pc' := 258) W76 d_code_257 rfl ?_
              refine Go.astore (pc' := 260) W76 #[.val (.int sel), .val (.int shape), .val (.int pos), .val (.int chi), .val (.int (0 : Int32)), .val (.ref a6), .val (.ref adA), .val (.int (9 : Int32)), .val (.int jj.toInt32), .val (.int (chi &&& (255 : Int32))), .val (.int (3 : Int32)), .val (.int (((shape.toUInt32 >>> ((2 : Int32) &&& 31).toUInt32).toInt32) &&& (3 : Int32))), .val (.ref a60), .val (.int (0 : Int32)), .val (.null)] d_code_258 rfl rfl rfl ?_
              refine Go.new (pc' := 263) W76 (w_54 G) (w_3 G) (w_2 G) d_code_260 rfl (by first | exact Nat.le_of_ble_eq_true rfl | (simp; done) | (simp; omega) | omega) (by first | exact Nat.le_of_ble_eq_true rfl | (simp; done) | (simp; omega) | omega) (fun T97 a99 c100 W98 O101 D102 => ?_)
              replace W98 : Wk l Z EL1 ({ frames := 9, cells := 24, slots := 4288, locals := 192 } : Room) "com/example/grantline/grantline/enforcer/PermissionFromScopeNamePinLaw" code 15 (some .boolean) "law" X [(a99, c100), (a60, c77)] [(a6, c8), (b7, c9)] T97 4 (48) := W98
              have F103 : FldC Z c100 "java/lang/String" "value" "[B" (.null) := D102 (Or.inr (w_5 G)) (ty := (.array .byte)) (by decide)
              have F104 : FldC Z c100 "java/lang/String" "coder" "B" (.int (0 : Int32)) := D102 (Or.inr (w_6 G)) (ty := .byte) (by decide)
              refine Go.dup (pc' := 264) W98 d_code_263 rfl rfl ?_
              refine Go.aload (pc' := 266) W98 d_code_264 rfl rfl rfl ?_
              refine Go.special (pc' := 269) W98 (a := a99) (rm_initC G a99 a60 c100 c77 [chi &&& (255 : Int32), ((chi.toUInt32 >>> ((8 : Int32) &&& 31).toUInt32).toInt32) &&& (255 : Int32), ((chi.toUInt32 >>> ((16 : Int32) &&& 31).toUInt32).toInt32) &&& (255 : Int32), ((chi.toUInt32 >>> ((24 : Int32) &&& 31).toUInt32).toInt32) &&& (255 : Int32)] A78 O101 F104 F103 (Lat.cons (and255 _) (Lat.cons (and255 _) (Lat.cons (and255 _) (Lat.cons (and255 _) Lat.nil)))) (by simp) (show ¬ (4 : Nat).toInt32 = 0 by decide)) rfl (w_56 G) (w_57 G) (w_2 G) (w_58 G) (by decide) [0, 0] [] (σf := []) rfl rfl [(.ref a60)] [(.ref a99)] rfl (lenOf pd_22 rfl) rfl rfl d_code_266 rfl (by first | exact Nat.le_of_ble_eq_true rfl | (simp; done) | (simp; omega) | omega) (by first | exact Nat.le_of_ble_eq_true rfl | (simp; done) | (simp; omega) | omega) (by first | exact Nat.le_of_ble_eq_true rfl | (simp; done) | (simp; omega) | omega) (by first | exact Nat.le_of_ble_eq_true rfl | (simp; done) | (simp; omega) | omega) ?_
              rintro _ _ _ T109 ⟨c105, b106, c107, rfl, rfl, rfl, S108⟩ W110
              replace W110 : Wk l Z EL1 ({ frames := 9, cells := 24, slots := 4288, locals := 192 } : Room) "com/example/grantline/grantline/enforcer/PermissionFromScopeNamePinLaw" code 15 (some .boolean) "law" X [(a60, c77)] [(a99, c105), (b106, c107), (a6, c8), (b7, c9)] T109 5 (52) := W110
              show Go Z EL1 _ _ _ X T109 269 #[.val (.int sel), .val (.int shape), .val (.int pos), .val (.int chi), .val (.int (0 : Int32)), .val (.ref a6), .val (.ref adA), .val (.int (9 : Int32)), .val (.int jj.toInt32), .val (.int (chi &&& (255 : Int32))), .val (.int (3 : Int32)), .val (.int (((shape.toUInt32 >>> ((2 : Int32) &&& 31).toUInt32).toInt32) &&& (3 : Int32))), .val (.ref a60), .val (.int (0 : Int32)), .val (.null)] [(.ref a99)]
              refine Go.static (pc' := 272) W110 (rm_fsn G adA adB adC adD adE adF adG adH adI adJ ceA ceB ceC ceD ceE ceF ceG ceH ceI ceJ hzA obA fdA hzB obB arA hzC obC fdB hzD obD fdC hzE slA hzF slB hzG slC hzH hzI hzJ stA stB stC stD a99 b106 c105 c107 [chi &&& (255 : Int32), ((chi.toUInt32 >>> ((8 : Int32) &&& 31).toUInt32).toInt32) &&& (255 : Int32), ((chi.toUInt32 >>> ((16 : Int32) &&& 31).toUInt32).toInt32) &&& (255 : Int32), ((chi.toUInt32 >>> ((24 : Int32) &&& 31).toUInt32).toInt32) &&& (255 : Int32)] S108) (w_25 G) (w_26 G) (w_10 G) (w_27 G) (by decide) [] [0, 1] (σf := [(a60, c77)]) rfl rfl [(.ref a99)] [] rfl (lenOf pd_24 rfl) rfl rfl d_code_269 rfl (by first | exact Nat.le_of_ble_eq_true rfl | (simp; done) | (simp; omega) | omega) (by first | exact Nat.le_of_ble_eq_true rfl | (simp; done) | (simp; omega) | omega) (by first | exact Nat.le_of_ble_eq_true rfl | (simp; done) | (simp; omega) | omega) (by first | exact Nat.le_of_ble_eq_true rfl | (simp; done) | (simp; omega) | omega) ?_
              rintro _ _ _ T111 ⟨rfl, rfl, rfl⟩ W112
              replace W112 : Wk l Z EL1 ({ frames := 9, cells := 24, slots := 4288, locals := 192 } : Room) "com/example/grantline/grantline/enforcer/PermissionFromScopeNamePinLaw" code 15 (some .boolean) "law" X [(a60, c77)] [(a99, c105), (b106, c107), (a6, c8), (b7, c9)] T111 6 (55) := W112
              show Go Z EL1 _ _ _ X T111 272 #[.val (.int sel), .val (.int shape), .val (.int pos), .val (.int chi), .val (.int (0 : Int32)), .val (.ref a6), .val (.ref adA), .val (.int (9 : Int32)), .val (.int jj.toInt32), .val (.int (chi &&& (255 : Int32))), .val (.int (3 : Int32)), .val (.int (((shape.toUInt32 >>> ((2 : Int32) &&& 31).toUInt32).toInt32) &&& (3 : Int32))), .val (.ref a60), .val (.int (0 : Int32)), .val (.null)] [(fsn adA adC adD [chi &&& (255 : Int32), ((chi.toUInt32 >>> ((8 : Int32) &&& 31).toUInt32).toInt32) &&& (255 : Int32), ((chi.toUInt32 >>> ((16 : Int32) &&& 31).toUInt32).toInt32) &&& (255 : Int32), ((chi.toUInt32 >>> ((24 : Int32) &&& 31).toUInt32).toInt32) &&& (255 : Int32)])]
              refine Go.aload (pc' := 274) W112 d_code_272 rfl rfl rfl ?_
              refine Go.acmp_ne (pc' := 277) W112 281 (fsn_ref _ _ _ _) rfl d_code_274 (by decide) rfl (fun hq => absurd (puren _ _ _ _ _ _ _ (fun q => c96 q.2.1)) hq) (fun _ => ?_)
              refine Go.iconst (pc' := 278) W112 (1 : Int32) d_code_277 (by decide) rfl ?_
              refine Go.goto W112 282 d_code_278 (by decide) ?_
              refine Go.nret (z' := (1 : Int32)) W112 (by simp) (by decide) d_code_282 (by first | exact Nat.le_of_ble_eq_true rfl | (simp; done) | (simp; omega) | omega) (by first | exact Nat.le_of_ble_eq_true rfl | (simp; done) | (simp; omega) | omega) ?_
              rfl
            · refine Go.aload (pc' := 223) W76 d_code_221 rfl rfl rfl ?_
              refine Go.iconst (pc' := 224) W76 (2 : Int32) d_code_223 (by decide) rfl ?_
              refine Go.caload (pc' := 225) W76 (Or.inl (List.mem_of_getElem? (i := 0) rfl)) A78 2 (by decide) (by decide) rfl d_code_224 rfl ?_
              refine Go.bipush (pc' := 227) W76 (97 : Int32) d_code_225 (by decide) rfl ?_
              refine Go.icmp_ne (pc' := 230) W76 243 d_code_227 (by decide) rfl (fun (c113 : ¬ ((((chi.toUInt32 >>> ((16 : Int32) &&& 31).toUInt32).toInt32) &&& (255 : Int32)) = (97 : Int32))) => ?_) (fun (c113 : (((chi.toUInt32 >>> ((16 : Int32) &&& 31).toUInt32).toInt32) &&& (255 : Int32)) = (97 : Int32)) => ?_)
              · refine Go.iconst (pc' := 244) W76 (0 : Int32) d_code_243 (by decide) rfl ?_
                refine Go.istore (pc' := 246) W76 #[.val (.int sel), .val (.int shape), .val (.int pos), .val (.int chi), .val (.int (0 : Int32)), .val (.ref a6), .val (.ref adA), .val (.int (9 : Int32)), .val (.int jj.toInt32), .val (.int (chi &&& (255 : Int32))), .val (.int (3 : Int32)), .val (.int (((shape.toUInt32 >>> ((2 : Int32) &&& 31).toUInt32).toInt32) &&& (3 : Int32))), .val (.ref a60), .val (.int (0 : Int32)), .unset] d_code_244 rfl rfl ?_
                refine Go.iload (pc' := 248) W76 d_code_246 rfl rfl ?_
                refine Go.if_eq (pc' := 251) W76 257 d_code_248 (by decide) rfl (fun _ => ?_) (fun q => absurd (by decide) q)
                refine Go.aconstNull (pc' := 258) W76 d_code_257 rfl ?_
                refine Go.astore (pc' := 260) W76 #[.val (.int sel), .val (.int shape), .val (.int pos), .val (.int chi), .val (.int (0 : Int32)), .val (.ref a6), .val (.ref adA), .val (.int (9 : Int32)), .val (.int jj.toInt32), .val (.int (chi &&& (255 : Int32))), .val (.int (3 : Int32)), .val (.int (((shape.toUInt32 >>> ((2 : Int32) &&& 31).toUInt32).toInt32) &&& (3 : Int32))), .val (.ref a60), .val (.int (0 : Int32)), .val (.null)] d_code_258 rfl rfl rfl ?_
                refine Go.new (pc' := 263) W76 (w_54 G) (w_3 G) (w_2 G) d_code_260 rfl (by first | exact Nat.le_of_ble_eq_true rfl | (simp; done) | (simp; omega) | omega) (by first | exact Nat.le_of_ble_eq_true rfl | (simp; done) | (simp; omega) | omega) (fun T114 a116 c117 W115 O118 D119 => ?_)
                replace W115 : Wk l Z EL1 ({ frames := 9, cells := 24, slots := 4288, locals := 192 } : Room) "com/example/grantline/grantline/enforcer/PermissionFromScopeNamePinLaw" code 15 (some .boolean) "law" X [(a116, c117), (a60, c77)] [(a6, c8), (b7, c9)] T114 4 (48) := W115
                have F120 : FldC Z c117 "java/lang/String" "value" "[B" (.null) := D119 (Or.inr (w_5 G)) (ty := (.array .byte)) (by decide)
                have F121 : FldC Z c117 "java/lang/String" "coder" "B" (.int (0 : Int32)) := D119 (Or.inr (w_6 G)) (ty := .byte) (by decide)
                refine Go.dup (pc' := 264) W115 d_code_263 rfl rfl ?_
                refine Go.aload (pc' := 266) W115 d_code_264 rfl rfl rfl ?_
                refine Go.special (pc' := 269) W115 (a := a116) (rm_initC G a116 a60 c117 c77 [chi &&& (255 : Int32), ((chi.toUInt32 >>> ((8 : Int32) &&& 31).toUInt32).toInt32) &&& (255 : Int32), ((chi.toUInt32 >>> ((16 : Int32) &&& 31).toUInt32).toInt32) &&& (255 : Int32), ((chi.toUInt32 >>> ((24 : Int32) &&& 31).toUInt32).toInt32) &&& (255 : Int32)] A78 O118 F121 F120 (Lat.cons (and255 _) (Lat.cons (and255 _) (Lat.cons (and255 _) (Lat.cons (and255 _) Lat.nil)))) (by simp) (show ¬ (4 : Nat).toInt32 = 0 by decide)) rfl (w_56 G) (w_57 G) (w_2 G) (w_58 G) (by decide) [0, 0] [] (σf := []) rfl rfl [(.ref a60)] [(.ref a116)] rfl (lenOf pd_22 rfl) rfl rfl d_code_266 rfl (by first | exact Nat.le_of_ble_eq_true rfl | (simp; done) | (simp; omega) | omega) (by first | exact Nat.le_of_ble_eq_true rfl | (simp; done) | (simp; omega) | omega) (by first | exact Nat.le_of_ble_eq_true rfl | (simp; done) | (simp; omega) | omega) (by first | exact Nat.le_of_ble_eq_true rfl | (simp; done) | (simp; omega) | omega) ?_
                rintro _ _ _ T126 ⟨c122, b123, c124, rfl, rfl, rfl, S125⟩ W127
                replace W127 : Wk l Z EL1 ({ frames := 9, cells := 24, slots := 4288, locals := 192 } : Room) "com/example/grantline/grantline/enforcer/PermissionFromScopeNamePinLaw" code 15 (some .boolean) "law" X [(a60, c77)] [(a116, c122), (b123, c124), (a6, c8), (b7, c9)] T126 5 (52) := W127
                show Go Z EL1 _ _ _ X T126 269 #[.val (.int sel), .val (.int shape), .val (.int pos), .val (.int chi), .val (.int (0 : Int32)), .val (.ref a6), .val (.ref adA), .val (.int (9 : Int32)), .val (.int jj.toInt32), .val (.int (chi &&& (255 : Int32))), .val (.int (3 : Int32)), .val (.int (((shape.toUInt32 >>> ((2 : Int32) &&& 31).toUInt32).toInt32) &&& (3 : Int32))), .val (.ref a60), .val (.int (0 : Int32)), .val (.null)] [(.ref a116)]
                refine Go.static (pc' := 272) W127 (rm_fsn G adA adB adC adD adE adF adG adH adI adJ ceA ceB ceC ceD ceE ceF ceG ceH ceI ceJ hzA obA fdA hzB obB arA hzC obC fdB hzD obD fdC hzE slA hzF slB hzG slC hzH hzI hzJ stA stB stC stD a116 b123 c122 c124 [chi &&& (255 : Int32), ((chi.toUInt32 >>> ((8 : Int32) &&& 31).toUInt32).toInt32) &&& (255 : Int32), ((chi.toUInt32 >>> ((16 : Int32) &&& 31).toUInt32).toInt32) &&& (255 : Int32), ((chi.toUInt32 >>> ((24 : Int32) &&& 31).toUInt32).toInt32) &&& (255 : Int32)] S125) (w_25 G) (w_26 G) (w_10 G) (w_27 G) (by decide) [] [0, 1] (σf := [(a60, c77)]) rfl rfl [(.ref a116)] [] rfl (lenOf pd_24 rfl) rfl rfl d_code_269 rfl (by first | exact Nat.le_of_ble_eq_true rfl | (simp; done) | (simp; omega) | omega) (by first | exact Nat.le_of_ble_eq_true rfl | (simp; done) | (simp; omega) | omega) (by first | exact Nat.le_of_ble_eq_true rfl | (simp; done) | (simp; omega) | omega) (by first | exact Nat.le_of_ble_eq_true rfl | (simp; done) | (simp; omega) | omega) ?_
                rintro _ _ _ T128 ⟨rfl, rfl, rfl⟩ W129
                replace W129 : Wk l Z EL1 ({ frames := 9, cells := 24, slots := 4288, locals := 192 } : Room) "com/example/grantline/grantline/enforcer/PermissionFromScopeNamePinLaw" code 15 (some .boolean) "law" X [(a60, c77)] [(a116, c122), (b123, c124), (a6, c8), (b7, c9)] T128 6 (55) := W129
                show Go Z EL1 _ _ _ X T128 272 #[.val (.int sel), .val (.int shape), .val (.int pos), .val (.int chi), .val (.int (0 : Int32)), .val (.ref a6), .val (.ref adA), .val (.int (9 : Int32)), .val (.int jj.toInt32), .val (.int (chi &&& (255 : Int32))), .val (.int (3 : Int32)), .val (.int (((shape.toUInt32 >>> ((2 : Int32) &&& 31).toUInt32).toInt32) &&& (3 : Int32))), .val (.ref a60), .val (.int (0 : Int32)), .val (.null)] [(fsn adA adC adD [chi &&& (255 : Int32), ((chi.toUInt32 >>> ((8 : Int32) &&& 31).toUInt32).toInt32) &&& (255 : Int32), ((chi.toUInt32 >>> ((16 : Int32) &&& 31).toUInt32).toInt32) &&& (255 : Int32), ((chi.toUInt32 >>> ((24 : Int32) &&& 31).toUInt32).toInt32) &&& (255 : Int32)])]
                refine Go.aload (pc' := 274) W129 d_code_272 rfl rfl rfl ?_
                refine Go.acmp_ne (pc' := 277) W129 281 (fsn_ref _ _ _ _) rfl d_code_274 (by decide) rfl (fun hq => absurd (puren _ _ _ _ _ _ _ (fun q => c113 q.2.2.1)) hq) (fun _ => ?_)
                refine Go.iconst (pc' := 278) W129 (1 : Int32) d_code_277 (by decide) rfl ?_
                refine Go.goto W129 282 d_code_278 (by decide) ?_
                refine Go.nret (z' := (1 : Int32)) W129 (by simp) (by decide) d_code_282 (by first | exact Nat.le_of_ble_eq_true rfl | (simp; done) | (simp; omega) | omega) (by first | exact Nat.le_of_ble_eq_true rfl | (simp; done) | (simp; omega) | omega) ?_
                rfl
              · refine Go.aload (pc' := 232) W76 d_code_230 rfl rfl rfl ?_
                refine Go.iconst (pc' := 233) W76 (3 : Int32) d_code_232 (by decide) rfl ?_
                refine Go.caload (pc' := 234) W76 (Or.inl (List.mem_of_getElem? (i := 0) rfl)) A78 3 (by decide) (by decide) rfl d_code_233 rfl ?_
                refine Go.bipush (pc' := 236) W76 (100 : Int32) d_code_234 (by decide) rfl ?_
                refine Go.icmp_ne (pc' := 239) W76 243 d_code_236 (by decide) rfl (fun (c130 : ¬ ((((chi.toUInt32 >>> ((24 : Int32) &&& 31).toUInt32).toInt32) &&& (255 : Int32)) = (100 : Int32))) => ?_) (fun (c130 : (((chi.toUInt32 >>> ((24 : Int32) &&& 31).toUInt32).toInt32) &&& (255 : Int32)) = (100 : Int32)) => ?_)
                · refine Go.iconst (pc' := 244) W76 (0 : Int32) d_code_243 (by decide) rfl ?_
                  refine Go.istore (pc' := 246) W76 #[.val (.int sel), .val (.int shape), .val (.int pos), .val (.int chi), .val (.int (0 : Int32)), .val (.ref a6), .val (.ref adA), .val (.int (9 : Int32)), .val (.int jj.toInt32), .val (.int (chi &&& (255 : Int32))), .val (.int (3 : Int32)), .val (.int (((shape.toUInt32 >>> ((2 : Int32) &&& 31).toUInt32).toInt32) &&& (3 : Int32))), .val (.ref a60), .val (.int (0 : Int32)), .unset] d_code_244 rfl rfl ?_
                  refine Go.iload (pc' := 248) W76 d_code_246 rfl rfl ?_
                  refine Go.if_eq (pc' := 251) W76 257 d_code_248 (by decide) rfl (fun _ => ?_) (fun q => absurd (by decide) q)
                  refine Go.aconstNull (pc' := 258) W76 d_code_257 rfl ?_
                  refine Go.astore (pc' := 260) W76 #[.val (.int sel), .val (.int shape), .val (.int pos), .val (.int chi), .val (.int (0 : Int32)), .val (.ref a6), .val (.ref adA), .val (.int (9 : Int32)), .val (.int jj.toInt32), .val (.int (chi &&& (255 : Int32))), .val (.int (3 : Int32)), .val (.int (((shape.toUInt32 >>> ((2 : Int32) &&& 31).toUInt32).toInt32) &&& (3 : Int32))), .val (.ref a60), .val (.int (0 : Int32)), .val (.null)] d_code_258 rfl rfl rfl ?_
                  refine Go.new (pc' := 263) W76 (w_54 G) (w_3 G) (w_2 G) d_code_260 rfl (by first | exact Nat.le_of_ble_eq_true rfl | (simp; done) | (simp; omega) | omega) (by first | exact Nat.le_of_ble_eq_true rfl | (simp; done) | (simp; omega) | omega) (fun T131 a133 c134 W132 O135 D136 => ?_)
                  replace W132 : Wk l Z EL1 ({ frames := 9, cells := 24, slots := 4288, locals := 192 } : Room) "com/example/grantline/grantline/enforcer/PermissionFromScopeNamePinLaw" code 15 (some .boolean) "law" X [(a133, c134), (a60, c77)] [(a6, c8), (b7, c9)] T131 4 (48) := W132
                  have F137 : FldC Z c134 "java/lang/String" "value" "[B" (.null) := D136 (Or.inr (w_5 G)) (ty := (.array .byte)) (by decide)
                  have F138 : FldC Z c134 "java/lang/String" "coder" "B" (.int (0 : Int32)) := D136 (Or.inr (w_6 G)) (ty := .byte) (by decide)
                  refine Go.dup (pc' := 264) W132 d_code_263 rfl rfl ?_
                  refine Go.aload (pc' := 266) W132 d_code_264 rfl rfl rfl ?_
                  refine Go.special (pc' := 269) W132 (a := a133) (rm_initC G a133 a60 c134 c77 [chi &&& (255 : Int32), ((chi.toUInt32 >>> ((8 : Int32) &&& 31).toUInt32).toInt32) &&& (255 : Int32), ((chi.toUInt32 >>> ((16 : Int32) &&& 31).toUInt32).toInt32) &&& (255 : Int32), ((chi.toUInt32 >>> ((24 : Int32) &&& 31).toUInt32).toInt32) &&& (255 : Int32)] A78 O135 F138 F137 (Lat.cons (and255 _) (Lat.cons (and255 _) (Lat.cons (and255 _) (Lat.cons (and255 _) Lat.nil)))) (by simp) (show ¬ (4 : Nat).toInt32 = 0 by decide)) rfl (w_56 G) (w_57 G) (w_2 G) (w_58 G) (by decide) [0, 0] [] (σf := []) rfl rfl [(.ref a60)] [(.ref a133)] rfl (lenOf pd_22 rfl) rfl rfl d_code_266 rfl (by first | exact Nat.le_of_ble_eq_true rfl | (simp; done) | (simp; omega) | omega) (by first | exact Nat.le_of_ble_eq_true rfl | (simp; done) | (simp; omega) | omega) (by first | exact Nat.le_of_ble_eq_true rfl | (simp; done) | (simp; omega) | omega) (by first | exact Nat.le_of_ble_eq_true rfl | (simp; done) | (simp; omega) | omega) ?_
                  rintro _ _ _ T143 ⟨c139, b140, c141, rfl, rfl, rfl, S142⟩ W144
                  replace W144 : Wk l Z EL1 ({ frames := 9, cells := 24, slots := 4288, locals := 192 } : Room) "com/example/grantline/grantline/enforcer/PermissionFromScopeNamePinLaw" code 15 (some .boolean) "law" X [(a60, c77)] [(a133, c139), (b140, c141), (a6, c8), (b7, c9)] T143 5 (52) := W144
                  show Go Z EL1 _ _ _ X T143 269 #[.val (.int sel), .val (.int shape), .val (.int pos), .val (.int chi), .val (.int (0 : Int32)), .val (.ref a6), .val (.ref adA), .val (.int (9 : Int32)), .val (.int jj.toInt32), .val (.int (chi &&& (255 : Int32))), .val (.int (3 : Int32)), .val (.int (((shape.toUInt32 >>> ((2 : Int32) &&& 31).toUInt32).toInt32) &&& (3 : Int32))), .val (.ref a60), .val (.int (0 : Int32)), .val (.null)] [(.ref a133)]
                  refine Go.static (pc' := 272) W144 (rm_fsn G adA adB adC adD adE adF adG adH adI adJ ceA ceB ceC ceD ceE ceF ceG ceH ceI ceJ hzA obA fdA hzB obB arA hzC obC fdB hzD obD fdC hzE slA hzF slB hzG slC hzH hzI hzJ stA stB stC stD a133 b140 c139 c141 [chi &&& (255 : Int32), ((chi.toUInt32 >>> ((8 : Int32) &&& 31).toUInt32).toInt32) &&& (255 : Int32), ((chi.toUInt32 >>> ((16 : Int32) &&& 31).toUInt32).toInt32) &&& (255 : Int32), ((chi.toUInt32 >>> ((24 : Int32) &&& 31).toUInt32).toInt32) &&& (255 : Int32)] S142) (w_25 G) (w_26 G) (w_10 G) (w_27 G) (by decide) [] [0, 1] (σf := [(a60, c77)]) rfl rfl [(.ref a133)] [] rfl (lenOf pd_24 rfl) rfl rfl d_code_269 rfl (by first | exact Nat.le_of_ble_eq_true rfl | (simp; done) | (simp; omega) | omega) (by first | exact Nat.le_of_ble_eq_true rfl | (simp; done) | (simp; omega) | omega) (by first | exact Nat.le_of_ble_eq_true rfl | (simp; done) | (simp; omega) | omega) (by first | exact Nat.le_of_ble_eq_true rfl | (simp; done) | (simp; omega) | omega) ?_
                  rintro _ _ _ T145 ⟨rfl, rfl, rfl⟩ W146
                  replace W146 : Wk l Z EL1 ({ frames := 9, cells := 24, slots := 4288, locals := 192 } : Room) "com/example/grantline/grantline/enforcer/PermissionFromScopeNamePinLaw" code 15 (some .boolean) "law" X [(a60, c77)] [(a133, c139), (b140, c141), (a6, c8), (b7, c9)] T145 6 (55) := W146
                  show Go Z EL1 _ _ _ X T145 272 #[.val (.int sel), .val (.int shape), .val (.int pos), .val (.int chi), .val (.int (0 : Int32)), .val (.ref a6), .val (.ref adA), .val (.int (9 : Int32)), .val (.int jj.toInt32), .val (.int (chi &&& (255 : Int32))), .val (.int (3 : Int32)), .val (.int (((shape.toUInt32 >>> ((2 : Int32) &&& 31).toUInt32).toInt32) &&& (3 : Int32))), .val (.ref a60), .val (.int (0 : Int32)), .val (.null)] [(fsn adA adC adD [chi &&& (255 : Int32), ((chi.toUInt32 >>> ((8 : Int32) &&& 31).toUInt32).toInt32) &&& (255 : Int32), ((chi.toUInt32 >>> ((16 : Int32) &&& 31).toUInt32).toInt32) &&& (255 : Int32), ((chi.toUInt32 >>> ((24 : Int32) &&& 31).toUInt32).toInt32) &&& (255 : Int32)])]
                  refine Go.aload (pc' := 274) W146 d_code_272 rfl rfl rfl ?_
                  refine Go.acmp_ne (pc' := 277) W146 281 (fsn_ref _ _ _ _) rfl d_code_274 (by decide) rfl (fun hq => absurd (puren _ _ _ _ _ _ _ (fun q => c130 q.2.2.2)) hq) (fun _ => ?_)
                  refine Go.iconst (pc' := 278) W146 (1 : Int32) d_code_277 (by decide) rfl ?_
                  refine Go.goto W146 282 d_code_278 (by decide) ?_
                  refine Go.nret (z' := (1 : Int32)) W146 (by simp) (by decide) d_code_282 (by first | exact Nat.le_of_ble_eq_true rfl | (simp; done) | (simp; omega) | omega) (by first | exact Nat.le_of_ble_eq_true rfl | (simp; done) | (simp; omega) | omega) ?_
                  rfl
                · refine Go.iconst (pc' := 240) W76 (1 : Int32) d_code_239 (by decide) rfl ?_
                  refine Go.goto W76 244 d_code_240 (by decide) ?_
                  refine Go.istore (pc' := 246) W76 #[.val (.int sel), .val (.int shape), .val (.int pos), .val (.int chi), .val (.int (0 : Int32)), .val (.ref a6), .val (.ref adA), .val (.int (9 : Int32)), .val (.int jj.toInt32), .val (.int (chi &&& (255 : Int32))), .val (.int (3 : Int32)), .val (.int (((shape.toUInt32 >>> ((2 : Int32) &&& 31).toUInt32).toInt32) &&& (3 : Int32))), .val (.ref a60), .val (.int (1 : Int32)), .unset] d_code_244 rfl rfl ?_
                  refine Go.iload (pc' := 248) W76 d_code_246 rfl rfl ?_
                  refine Go.if_eq (pc' := 251) W76 257 d_code_248 (by decide) rfl (fun q => absurd q (by decide)) (fun _ => ?_)
                  refine Go.getstatic (pc' := 254) W76 (w_53 G) Via.refl stC d_code_251 rfl (fun T147 W148 => ?_)
                  refine Go.goto W148 258 d_code_254 (by decide) ?_
                  refine Go.astore (pc' := 260) W148 #[.val (.int sel), .val (.int shape), .val (.int pos), .val (.int chi), .val (.int (0 : Int32)), .val (.ref a6), .val (.ref adA), .val (.int (9 : Int32)), .val (.int jj.toInt32), .val (.int (chi &&& (255 : Int32))), .val (.int (3 : Int32)), .val (.int (((shape.toUInt32 >>> ((2 : Int32) &&& 31).toUInt32).toInt32) &&& (3 : Int32))), .val (.ref a60), .val (.int (1 : Int32)), .val (.ref adC)] d_code_258 rfl rfl rfl ?_
                  refine Go.new (pc' := 263) W148 (w_54 G) (w_3 G) (w_2 G) d_code_260 rfl (by first | exact Nat.le_of_ble_eq_true rfl | (simp; done) | (simp; omega) | omega) (by first | exact Nat.le_of_ble_eq_true rfl | (simp; done) | (simp; omega) | omega) (fun T149 a151 c152 W150 O153 D154 => ?_)
                  replace W150 : Wk l Z EL1 ({ frames := 9, cells := 24, slots := 4288, locals := 192 } : Room) "com/example/grantline/grantline/enforcer/PermissionFromScopeNamePinLaw" code 15 (some .boolean) "law" X [(a151, c152), (a60, c77)] [(a6, c8), (b7, c9)] T149 4 (48) := W150
                  have F155 : FldC Z c152 "java/lang/String" "value" "[B" (.null) := D154 (Or.inr (w_5 G)) (ty := (.array .byte)) (by decide)
                  have F156 : FldC Z c152 "java/lang/String" "coder" "B" (.int (0 : Int32)) := D154 (Or.inr (w_6 G)) (ty := .byte) (by decide)
                  refine Go.dup (pc' := 264) W150 d_code_263 rfl rfl ?_
                  refine Go.aload (pc' := 266) W150 d_code_264 rfl rfl rfl ?_
                  refine Go.special (pc' := 269) W150 (a := a151) (rm_initC G a151 a60 c152 c77 [chi &&& (255 : Int32), ((chi.toUInt32 >>> ((8 : Int32) &&& 31).toUInt32).toInt32) &&& (255 : Int32), ((chi.toUInt32 >>> ((16 : Int32) &&& 31).toUInt32).toInt32) &&& (255 : Int32), ((chi.toUInt32 >>> ((24 : Int32) &&& 31).toUInt32).toInt32) &&& (255 : Int32)] A78 O153 F156 F155 (Lat.cons (and255 _) (Lat.cons (and255 _) (Lat.cons (and255 _) (Lat.cons (and255 _) Lat.nil)))) (by simp) (show ¬ (4 : Nat).toInt32 = 0 by decide)) rfl (w_56 G) (w_57 G) (w_2 G) (w_58 G) (by decide) [0, 0] [] (σf := []) rfl rfl [(.ref a60)] [(.ref a151)] rfl (lenOf pd_22 rfl) rfl rfl d_code_266 rfl (by first | exact Nat.le_of_ble_eq_true rfl | (simp; done) | (simp; omega) | omega) (by first | exact Nat.le_of_ble_eq_true rfl | (simp; done) | (simp; omega) | omega) (by first | exact Nat.le_of_ble_eq_true rfl | (simp; done) | (simp; omega) | omega) (by first | exact Nat.le_of_ble_eq_true rfl | (simp; done) | (simp; omega) | omega) ?_
                  rintro _ _ _ T161 ⟨c157, b158, c159, rfl, rfl, rfl, S160⟩ W162
                  replace W162 : Wk l Z EL1 ({ frames := 9, cells := 24, slots := 4288, locals := 192 } : Room) "com/example/grantline/grantline/enforcer/PermissionFromScopeNamePinLaw" code 15 (some .boolean) "law" X [(a60, c77)] [(a151, c157), (b158, c159), (a6, c8), (b7, c9)] T161 5 (52) := W162
                  show Go Z EL1 _ _ _ X T161 269 #[.val (.int sel), .val (.int shape), .val (.int pos), .val (.int chi), .val (.int (0 : Int32)), .val (.ref a6), .val (.ref adA), .val (.int (9 : Int32)), .val (.int jj.toInt32), .val (.int (chi &&& (255 : Int32))), .val (.int (3 : Int32)), .val (.int (((shape.toUInt32 >>> ((2 : Int32) &&& 31).toUInt32).toInt32) &&& (3 : Int32))), .val (.ref a60), .val (.int (1 : Int32)), .val (.ref adC)] [(.ref a151)]
                  refine Go.static (pc' := 272) W162 (rm_fsn G adA adB adC adD adE adF adG adH adI adJ ceA ceB ceC ceD ceE ceF ceG ceH ceI ceJ hzA obA fdA hzB obB arA hzC obC fdB hzD obD fdC hzE slA hzF slB hzG slC hzH hzI hzJ stA stB stC stD a151 b158 c157 c159 [chi &&& (255 : Int32), ((chi.toUInt32 >>> ((8 : Int32) &&& 31).toUInt32).toInt32) &&& (255 : Int32), ((chi.toUInt32 >>> ((16 : Int32) &&& 31).toUInt32).toInt32) &&& (255 : Int32), ((chi.toUInt32 >>> ((24 : Int32) &&& 31).toUInt32).toInt32) &&& (255 : Int32)] S160) (w_25 G) (w_26 G) (w_10 G) (w_27 G) (by decide) [] [0, 1] (σf := [(a60, c77)]) rfl rfl [(.ref a151)] [] rfl (lenOf pd_24 rfl) rfl rfl d_code_269 rfl (by first | exact Nat.le_of_ble_eq_true rfl | (simp; done) | (simp; omega) | omega) (by first | exact Nat.le_of_ble_eq_true rfl | (simp; done) | (simp; omega) | omega) (by first | exact Nat.le_of_ble_eq_true rfl | (simp; done) | (simp; omega) | omega) (by first | exact Nat.le_of_ble_eq_true rfl | (simp; done) | (simp; omega) | omega) ?_
                  rintro _ _ _ T163 ⟨rfl, rfl, rfl⟩ W164
                  replace W164 : Wk l Z EL1 ({ frames := 9, cells := 24, slots := 4288, locals := 192 } : Room) "com/example/grantline/grantline/enforcer/PermissionFromScopeNamePinLaw" code 15 (some .boolean) "law" X [(a60, c77)] [(a151, c157), (b158, c159), (a6, c8), (b7, c9)] T163 6 (55) := W164
                  show Go Z EL1 _ _ _ X T163 272 #[.val (.int sel), .val (.int shape), .val (.int pos), .val (.int chi), .val (.int (0 : Int32)), .val (.ref a6), .val (.ref adA), .val (.int (9 : Int32)), .val (.int jj.toInt32), .val (.int (chi &&& (255 : Int32))), .val (.int (3 : Int32)), .val (.int (((shape.toUInt32 >>> ((2 : Int32) &&& 31).toUInt32).toInt32) &&& (3 : Int32))), .val (.ref a60), .val (.int (1 : Int32)), .val (.ref adC)] [(fsn adA adC adD [chi &&& (255 : Int32), ((chi.toUInt32 >>> ((8 : Int32) &&& 31).toUInt32).toInt32) &&& (255 : Int32), ((chi.toUInt32 >>> ((16 : Int32) &&& 31).toUInt32).toInt32) &&& (255 : Int32), ((chi.toUInt32 >>> ((24 : Int32) &&& 31).toUInt32).toInt32) &&& (255 : Int32)])]
                  refine Go.aload (pc' := 274) W164 d_code_272 rfl rfl rfl ?_
                  refine Go.acmp_ne (pc' := 277) W164 281 (fsn_ref _ _ _ _) rfl d_code_274 (by decide) rfl (fun hq => absurd (purey _ _ _ _ _ _ _ c79 c96 c113 c130) hq) (fun _ => ?_)
                  refine Go.iconst (pc' := 278) W164 (1 : Int32) d_code_277 (by decide) rfl ?_
                  refine Go.goto W164 282 d_code_278 (by decide) ?_
                  refine Go.nret (z' := (1 : Int32)) W164 (by simp) (by decide) d_code_282 (by first | exact Nat.le_of_ble_eq_true rfl | (simp; done) | (simp; omega) | omega) (by first | exact Nat.le_of_ble_eq_true rfl | (simp; done) | (simp; omega) | omega) ?_
                  rfl
        · refine Go.new (pc' := 130) W18 (w_54 G) (w_3 G) (w_2 G) d_code_127 rfl (by first | exact Nat.le_of_ble_eq_true rfl | (simp; done) | (simp; omega) | omega) (by first | exact Nat.le_of_ble_eq_true rfl | (simp; done) | (simp; omega) | omega) (fun T165 a167 c168 W166 O169 D170 => ?_)
          replace W166 : Wk l Z EL1 ({ frames := 9, cells := 24, slots := 4288, locals := 192 } : Room) "com/example/grantline/grantline/enforcer/PermissionFromScopeNamePinLaw" code 15 (some .boolean) "law" X [(a167, c168)] [(a6, c8), (b7, c9)] T165 3 (44) := W166
          have F171 : FldC Z c168 "java/lang/String" "value" "[B" (.null) := D170 (Or.inr (w_5 G)) (ty := (.array .byte)) (by decide)
          have F172 : FldC Z c168 "java/lang/String" "coder" "B" (.int (0 : Int32)) := D170 (Or.inr (w_6 G)) (ty := .byte) (by decide)
          refine Go.dup (pc' := 131) W166 d_code_130 rfl rfl ?_
          refine Go.iconst (pc' := 132) W166 (0 : Int32) d_code_131 (by decide) rfl ?_
          refine Go.newarr (pc' := 134) W166 .char rfl 0 (w_55 G) d_code_132 rfl (by decide) (by decide) (by decide) (by first | exact Nat.le_of_ble_eq_true rfl | (simp; done) | (simp; omega) | omega) (by first | exact Nat.le_of_ble_eq_true rfl | (simp; done) | (simp; omega) | omega) (fun T173 a175 c176 W174 A177 => ?_)
          replace W174 : Wk l Z EL1 ({ frames := 9, cells := 24, slots := 4288, locals := 192 } : Room) "com/example/grantline/grantline/enforcer/PermissionFromScopeNamePinLaw" code 15 (some .boolean) "law" X [(a175, c176), (a167, c168)] [(a6, c8), (b7, c9)] T173 4 (44) := W174
          replace A177 : ArrC Z c176 .char [] := A177
          refine Go.special (pc' := 137) W174 (a := a167) (rm_initC0 G a167 a175 c168 c176 A177 O169 F172 F171) rfl (w_56 G) (w_57 G) (w_2 G) (w_58 G) (by decide) [1, 0] [] (σf := []) rfl rfl [(.ref a175)] [(.ref a167)] rfl (lenOf pd_22 rfl) rfl rfl d_code_134 rfl (by first | exact Nat.le_of_ble_eq_true rfl | (simp; done) | (simp; omega) | omega) (by first | exact Nat.le_of_ble_eq_true rfl | (simp; done) | (simp; omega) | omega) (by first | exact Nat.le_of_ble_eq_true rfl | (simp; done) | (simp; omega) | omega) (by first | exact Nat.le_of_ble_eq_true rfl | (simp; done) | (simp; omega) | omega) ?_
          rintro _ _ _ T182 ⟨c178, b179, c180, rfl, rfl, rfl, S181⟩ W183
          replace W183 : Wk l Z EL1 ({ frames := 9, cells := 24, slots := 4288, locals := 192 } : Room) "com/example/grantline/grantline/enforcer/PermissionFromScopeNamePinLaw" code 15 (some .boolean) "law" X [(a175, c176)] [(a167, c178), (b179, c180), (a6, c8), (b7, c9)] T182 8 (52) := W183
          show Go Z EL1 _ _ _ X T182 137 #[.val (.int sel), .val (.int shape), .val (.int pos), .val (.int chi), .val (.int (0 : Int32)), .val (.ref a6), .val (.ref adA), .val (.int (9 : Int32)), .val (.int jj.toInt32), .val (.int (chi &&& (255 : Int32))), .val (.int (3 : Int32)), .val (.int (((shape.toUInt32 >>> ((2 : Int32) &&& 31).toUInt32).toInt32) &&& (3 : Int32))), .unset, .unset, .unset] [(.ref a167)]
          refine Go.static (pc' := 140) W183 (rm_fsn G adA adB adC adD adE adF adG adH adI adJ ceA ceB ceC ceD ceE ceF ceG ceH ceI ceJ hzA obA fdA hzB obB arA hzC obC fdB hzD obD fdC hzE slA hzF slB hzG slC hzH hzI hzJ stA stB stC stD a167 b179 c178 c180 [] S181) (w_25 G) (w_26 G) (w_10 G) (w_27 G) (by decide) [] [0, 1] (σf := [(a175, c176)]) rfl rfl [(.ref a167)] [] rfl (lenOf pd_24 rfl) rfl rfl d_code_137 rfl (by first | exact Nat.le_of_ble_eq_true rfl | (simp; done) | (simp; omega) | omega) (by first | exact Nat.le_of_ble_eq_true rfl | (simp; done) | (simp; omega) | omega) (by first | exact Nat.le_of_ble_eq_true rfl | (simp; done) | (simp; omega) | omega) (by first | exact Nat.le_of_ble_eq_true rfl | (simp; done) | (simp; omega) | omega) ?_
          rintro _ _ _ T184 ⟨rfl, rfl, rfl⟩ W185
          replace W185 : Wk l Z EL1 ({ frames := 9, cells := 24, slots := 4288, locals := 192 } : Room) "com/example/grantline/grantline/enforcer/PermissionFromScopeNamePinLaw" code 15 (some .boolean) "law" X [(a175, c176)] [(a167, c178), (b179, c180), (a6, c8), (b7, c9)] T184 9 (55) := W185
          show Go Z EL1 _ _ _ X T184 140 #[.val (.int sel), .val (.int shape), .val (.int pos), .val (.int chi), .val (.int (0 : Int32)), .val (.ref a6), .val (.ref adA), .val (.int (9 : Int32)), .val (.int jj.toInt32), .val (.int (chi &&& (255 : Int32))), .val (.int (3 : Int32)), .val (.int (((shape.toUInt32 >>> ((2 : Int32) &&& 31).toUInt32).toInt32) &&& (3 : Int32))), .unset, .unset, .unset] [(fsn adA adC adD [])]
          rw [show fsn adA adC adD [] = .null from by simp [fsn]]
          refine Go.ifnonnull_no (pc' := 143) W185 d_code_140 rfl ?_
          refine Go.iconst (pc' := 144) W185 (1 : Int32) d_code_143 (by decide) rfl ?_
          refine Go.goto W185 148 d_code_144 (by decide) ?_
          refine Go.nret (z' := (1 : Int32)) W185 (by simp) (by decide) d_code_148 (by first | exact Nat.le_of_ble_eq_true rfl | (simp; done) | (simp; omega) | omega) (by first | exact Nat.le_of_ble_eq_true rfl | (simp; done) | (simp; omega) | omega) ?_
          rfl
      · refine Go.aconstNull (pc' := 109) W18 d_code_108 rfl ?_
        refine Go.static (pc' := 112) W18 (rm_fsnN G adA adB adC adD adE adF adG adH adI adJ ceA ceB ceC ceD ceE ceF ceG ceH ceI ceJ hzA obA fdA hzB obB arA hzC obC fdB hzD obD fdC hzE slA hzF slB hzG slC hzH hzI hzJ stA stB stC stD) (w_25 G) (w_26 G) (w_10 G) (w_27 G) (by decide) [] [] (σf := []) rfl rfl [(.null)] [] rfl (lenOf pd_24 rfl) rfl rfl d_code_109 rfl (by first | exact Nat.le_of_ble_eq_true rfl | (simp; done) | (simp; omega) | omega) (by first | exact Nat.le_of_ble_eq_true rfl | (simp; done) | (simp; omega) | omega) (by first | exact Nat.le_of_ble_eq_true rfl | (simp; done) | (simp; omega) | omega) (by first | exact Nat.le_of_ble_eq_true rfl | (simp; done) | (simp; omega) | omega) ?_
        rintro _ _ _ T186 ⟨rfl, rfl, rfl⟩ W187
        replace W187 : Wk l Z EL1 ({ frames := 9, cells := 24, slots := 4288, locals := 192 } : Room) "com/example/grantline/grantline/enforcer/PermissionFromScopeNamePinLaw" code 15 (some .boolean) "law" X [] [(a6, c8), (b7, c9)] T186 3 (43) := W187
        show Go Z EL1 _ _ _ X T186 112 #[.val (.int sel), .val (.int shape), .val (.int pos), .val (.int chi), .val (.int (0 : Int32)), .val (.ref a6), .val (.ref adA), .val (.int (9 : Int32)), .val (.int jj.toInt32), .val (.int (chi &&& (255 : Int32))), .val (.int (3 : Int32)), .val (.int (((shape.toUInt32 >>> ((2 : Int32) &&& 31).toUInt32).toInt32) &&& (3 : Int32))), .unset, .unset, .unset] [(.null)]
        refine Go.ifnonnull_no (pc' := 115) W187 d_code_112 rfl ?_
        refine Go.iconst (pc' := 116) W187 (1 : Int32) d_code_115 (by decide) rfl ?_
        refine Go.goto W187 120 d_code_116 (by decide) ?_
        refine Go.nret (z' := (1 : Int32)) W187 (by simp) (by decide) d_code_120 (by first | exact Nat.le_of_ble_eq_true rfl | (simp; done) | (simp; omega) | omega) (by first | exact Nat.le_of_ble_eq_true rfl | (simp; done) | (simp; omega) | omega) ?_
        rfl
  · refine Go.istore (pc' := 8) W0 #[.val (.int sel), .val (.int shape), .val (.int pos), .val (.int chi), .val (.int (1 : Int32)), .unset, .unset, .unset, .unset, .unset, .unset, .unset, .unset, .unset, .unset] d_code_6 rfl rfl ?_
    refine Go.iload (pc' := 10) W0 d_code_8 rfl rfl ?_
    refine Go.if_ne (pc' := 13) W0 18 d_code_10 (by decide) rfl (fun _ => ?_) (fun q => absurd q (by decide))
    refine Go.iload (pc' := 20) W0 d_code_18 rfl rfl ?_
    refine Go.iconst (pc' := 21) W0 (1 : Int32) d_code_20 (by decide) rfl ?_
    refine Go.icmp_ne (pc' := 24) W0 29 d_code_21 (by decide) rfl (fun q => absurd (by decide) q) (fun _ => ?_)
    refine Go.ldcStr (pc' := 26) W0 G.2.1 (w_52 G) (strAtoms G) (by decide) (bs := [(.int (114 : Int32)), (.int (101 : Int32)), (.int (97 : Int32)), (.int (100 : Int32))]) (z := 4) (by decide +kernel) (by decide) (by decide) (by decide) d_code_24 rfl (m := 16) (by decide +kernel) (by decide) (by first | exact Nat.le_of_ble_eq_true rfl | (simp; done) | (simp; omega) | omega) (by first | exact Nat.le_of_ble_eq_true rfl | (simp; done) | (simp; omega) | omega) (fun T188 a190 b191 c192 c193 W189 O194 F195 F196 A197 => ?_)
    replace W189 : Wk l Z EL1 ({ frames := 9, cells := 24, slots := 4288, locals := 192 } : Room) "com/example/grantline/grantline/enforcer/PermissionFromScopeNamePinLaw" code 15 (some .boolean) "law" X [] [(a190, c192), (b191, c193)] T188 2 (20) := W189
    have S198 : StrL Z c192 b191 c193 [(114 : Int32), (101 : Int32), (97 : Int32), (100 : Int32)] := ⟨O194, F195, F196, (by rw [show latB [(114 : Int32), (101 : Int32), (97 : Int32), (100 : Int32)] = [(.int (114 : Int32)), (.int (101 : Int32)), (.int (97 : Int32)), (.int (100 : Int32))] from by decide +kernel]; exact A197), (by decide +kernel : ∀ x ∈ ([(114 : Int32), (101 : Int32), (97 : Int32), (100 : Int32)] : List Int32), ¬ x < 0 ∧ ¬ (255 : Int32) < x)⟩
    refine Go.goto W189 31 d_code_26 (by decide) ?_
    refine Go.astore (pc' := 33) W189 #[.val (.int sel), .val (.int shape), .val (.int pos), .val (.int chi), .val (.int (1 : Int32)), .val (.ref a190), .unset, .unset, .unset, .unset, .unset, .unset, .unset, .unset, .unset] d_code_31 rfl rfl rfl ?_
    refine Go.iload (pc' := 35) W189 d_code_33 rfl rfl ?_
    refine Go.if_ne (pc' := 38) W189 44 d_code_35 (by decide) rfl (fun _ => ?_) (fun q => absurd q (by decide))
    refine Go.iload (pc' := 46) W189 d_code_44 rfl rfl ?_
    refine Go.iconst (pc' := 47) W189 (1 : Int32) d_code_46 (by decide) rfl ?_
    refine Go.icmp_ne (pc' := 50) W189 56 d_code_47 (by decide) rfl (fun q => absurd (by decide) q) (fun _ => ?_)
    refine Go.getstatic (pc' := 53) W189 (w_53 G) Via.refl stC d_code_50 rfl (fun T199 W200 => ?_)
    refine Go.goto W200 59 d_code_53 (by decide) ?_
    refine Go.astore (pc' := 61) W200 #[.val (.int sel), .val (.int shape), .val (.int pos), .val (.int chi), .val (.int (1 : Int32)), .val (.ref a190), .val (.ref adC), .unset, .unset, .unset, .unset, .unset, .unset, .unset, .unset] d_code_59 rfl rfl rfl ?_
    refine Go.aload (pc' := 63) W200 d_code_61 rfl rfl rfl ?_
    refine Go.virtual (pc' := 66) W200 (rm_len G a190 b191 c192 c193 [(114 : Int32), (101 : Int32), (97 : Int32), (100 : Int32)] S198) (Or.inr (Or.inl (List.mem_of_getElem? (i := 0) rfl))) O194 (w_12 G) (w_13 G) (w_15 G) (w_14 G) (w_2 G) (w_16 G) (by decide) [] [0, 1] (σf := []) rfl rfl [] [] rfl (lenOf pd_19 rfl) rfl rfl d_code_63 rfl (by first | exact Nat.le_of_ble_eq_true rfl | (simp; done) | (simp; omega) | omega) (by first | exact Nat.le_of_ble_eq_true rfl | (simp; done) | (simp; omega) | omega) (by first | exact Nat.le_of_ble_eq_true rfl | (simp; done) | (simp; omega) | omega) (by first | exact Nat.le_of_ble_eq_true rfl | (simp; done) | (simp; omega) | omega) ?_
    rintro _ _ _ T201 ⟨rfl, rfl, rfl⟩ W202
    replace W202 : Wk l Z EL1 ({ frames := 9, cells := 24, slots := 4288, locals := 192 } : Room) "com/example/grantline/grantline/enforcer/PermissionFromScopeNamePinLaw" code 15 (some .boolean) "law" X [] [(a190, c192), (b191, c193)] T201 2 (20) := W202
    show Go Z EL1 _ _ _ X T201 66 #[.val (.int sel), .val (.int shape), .val (.int pos), .val (.int chi), .val (.int (1 : Int32)), .val (.ref a190), .val (.ref adC), .unset, .unset, .unset, .unset, .unset, .unset, .unset, .unset] [(.int (4 : Int32))]
    refine Go.istore (pc' := 68) W202 #[.val (.int sel), .val (.int shape), .val (.int pos), .val (.int chi), .val (.int (1 : Int32)), .val (.ref a190), .val (.ref adC), .val (.int (4 : Int32)), .unset, .unset, .unset, .unset, .unset, .unset, .unset] d_code_66 rfl rfl ?_
    refine Go.iloadN (pc' := 69) W202 d_code_68 rfl rfl ?_
    refine Go.ldcInt (pc' := 71) W202 (w_0 G) d_code_69 rfl ?_
    refine Go.iand (pc' := 72) W202 d_code_71 rfl ?_
    refine Go.iload (pc' := 74) W202 d_code_72 rfl rfl ?_
    refine Go.irem (pc' := 75) W202 d_code_74 (by decide) rfl ?_
    obtain ⟨jj, hjj, ejj⟩ := pj4 pos
    rw [ejj]
    refine Go.istore (pc' := 77) W202 #[.val (.int sel), .val (.int shape), .val (.int pos), .val (.int chi), .val (.int (1 : Int32)), .val (.ref a190), .val (.ref adC), .val (.int (4 : Int32)), .val (.int jj.toInt32), .unset, .unset, .unset, .unset, .unset, .unset] d_code_75 rfl rfl ?_
    refine Go.iloadN (pc' := 78) W202 d_code_77 rfl rfl ?_
    refine Go.sipush (pc' := 81) W202 (255 : Int32) d_code_78 (by decide) rfl ?_
    refine Go.iand (pc' := 82) W202 d_code_81 rfl ?_
    refine Go.i2c (pc' := 83) W202 d_code_82 rfl ?_
    rw [i2c_id (lat_char (and255 _)).1 (lat_char (and255 _)).2]
    refine Go.istore (pc' := 85) W202 #[.val (.int sel), .val (.int shape), .val (.int pos), .val (.int chi), .val (.int (1 : Int32)), .val (.ref a190), .val (.ref adC), .val (.int (4 : Int32)), .val (.int jj.toInt32), .val (.int (chi &&& (255 : Int32))), .unset, .unset, .unset, .unset, .unset] d_code_83 rfl rfl ?_
    refine Go.iloadN (pc' := 86) W202 d_code_85 rfl rfl ?_
    refine Go.iconst (pc' := 87) W202 (3 : Int32) d_code_86 (by decide) rfl ?_
    refine Go.iand (pc' := 88) W202 d_code_87 rfl ?_
    generalize e204 : shape &&& (3 : Int32) = n203
    have h205 : n203 = (0 : Int32) ∨ n203 = (1 : Int32) ∨ n203 = (2 : Int32) ∨ n203 = (3 : Int32) := by rw [← e204]; exact and3 shape
    rcases h205 with rfl | rfl | rfl | rfl
    · refine Go.istore (pc' := 90) W202 #[.val (.int sel), .val (.int shape), .val (.int pos), .val (.int chi), .val (.int (1 : Int32)), .val (.ref a190), .val (.ref adC), .val (.int (4 : Int32)), .val (.int jj.toInt32), .val (.int (chi &&& (255 : Int32))), .val (.int (0 : Int32)), .unset, .unset, .unset, .unset] d_code_88 rfl rfl ?_
      refine Go.iload (pc' := 92) W202 d_code_90 rfl rfl ?_
      refine Go.iconst (pc' := 93) W202 (3 : Int32) d_code_92 (by decide) rfl ?_
      refine Go.icmp_ne (pc' := 96) W202 283 d_code_93 (by decide) rfl (fun _ => ?_) (fun q => absurd q (by decide))
      refine Go.iload (pc' := 285) W202 d_code_283 rfl rfl ?_
      refine Go.if_ne (pc' := 288) W202 293 d_code_285 (by decide) rfl (fun q => absurd (by decide) q) (fun _ => ?_)
      refine Go.iload (pc' := 290) W202 d_code_288 rfl rfl ?_
      refine Go.goto W202 310 d_code_290 (by decide) ?_
      refine Go.istore (pc' := 312) W202 #[.val (.int sel), .val (.int shape), .val (.int pos), .val (.int chi), .val (.int (1 : Int32)), .val (.ref a190), .val (.ref adC), .val (.int (4 : Int32)), .val (.int jj.toInt32), .val (.int (chi &&& (255 : Int32))), .val (.int (0 : Int32)), .val (.int (4 : Int32)), .unset, .unset, .unset] d_code_310 rfl rfl ?_
      refine Go.aload (pc' := 314) W202 d_code_312 rfl rfl rfl ?_
      refine Go.iload (pc' := 316) W202 d_code_314 rfl rfl ?_
      refine Go.iload (pc' := 318) W202 d_code_316 rfl rfl ?_
      refine Go.iload (pc' := 320) W202 d_code_318 rfl rfl ?_
      refine Go.iload (pc' := 322) W202 d_code_320 rfl rfl ?_
      refine Go.static (pc' := 325) W202 (rm_build_readz G a190 b191 c192 c193 S198 jj hjj (chi &&& (255 : Int32)) (and255 _)) (w_72 G) (w_73 G) (w_74 G) (w_75 G) (by decide) [] [0, 1] (σf := []) rfl rfl [(.ref a190), (.int (4 : Int32)), (.int (0 : Int32)), (.int jj.toInt32), (.int (chi &&& (255 : Int32)))] [] rfl (lenOf pd_23 rfl) rfl rfl d_code_322 rfl (by first | exact Nat.le_of_ble_eq_true rfl | (simp; done) | (simp; omega) | omega) (by first | exact Nat.le_of_ble_eq_true rfl | (simp; done) | (simp; omega) | omega) (by first | exact Nat.le_of_ble_eq_true rfl | (simp; done) | (simp; omega) | omega) (by first | exact Nat.le_of_ble_eq_true rfl | (simp; done) | (simp; omega) | omega) ?_
      rintro _ _ _ T211 ⟨a206, c207, b208, c209, rfl, rfl, rfl, S210⟩ W212
      replace W212 : Wk l Z EL1 ({ frames := 9, cells := 24, slots := 4288, locals := 192 } : Room) "com/example/grantline/grantline/enforcer/PermissionFromScopeNamePinLaw" code 15 (some .boolean) "law" X [] [(a206, c207), (b208, c209), (a190, c192), (b191, c193)] T211 5 (32) := W212
      show Go Z EL1 _ _ _ X T211 325 #[.val (.int sel), .val (.int shape), .val (.int pos), .val (.int chi), .val (.int (1 : Int32)), .val (.ref a190), .val (.ref adC), .val (.int (4 : Int32)), .val (.int jj.toInt32), .val (.int (chi &&& (255 : Int32))), .val (.int (0 : Int32)), .val (.int (4 : Int32)), .unset, .unset, .unset] [(.ref a206)]
      refine Go.astore (pc' := 327) W212 #[.val (.int sel), .val (.int shape), .val (.int pos), .val (.int chi), .val (.int (1 : Int32)), .val (.ref a190), .val (.ref adC), .val (.int (4 : Int32)), .val (.int jj.toInt32), .val (.int (chi &&& (255 : Int32))), .val (.int (0 : Int32)), .val (.int (4 : Int32)), .val (.ref a206), .unset, .unset] d_code_325 rfl rfl rfl ?_
      refine Go.iload (pc' := 329) W212 d_code_327 rfl rfl ?_
      refine Go.if_ne (pc' := 332) W212 349 d_code_329 (by decide) rfl (fun q => absurd (by decide) q) (fun _ => ?_)
      refine Go.iload (pc' := 334) W212 d_code_332 rfl rfl ?_
      refine Go.aload (pc' := 336) W212 d_code_334 rfl rfl rfl ?_
      refine Go.iload (pc' := 338) W212 d_code_336 rfl rfl ?_
      obtain ⟨x213, h214⟩ : ∃ x, ([(114 : Int32), (101 : Int32), (97 : Int32), (100 : Int32)] : List Int32)[jj]? = some x := ⟨_, List.getElem?_eq_getElem hjj⟩
      refine Go.virtual (pc' := 341) W212 (rm_cha G a190 b191 c192 c193 [(114 : Int32), (101 : Int32), (97 : Int32), (100 : Int32)] S198 jj x213 h214) (Or.inr (Or.inl (List.mem_of_getElem? (i := 2) rfl))) O194 (w_82 G) (w_83 G) (w_85 G) (w_84 G) (w_2 G) (w_86 G) (by decide) [] [2, 3] (σf := []) rfl rfl [(.int jj.toInt32)] [(.int (chi &&& (255 : Int32)))] rfl (lenOf pd_18 rfl) rfl rfl d_code_338 rfl (by first | exact Nat.le_of_ble_eq_true rfl | (simp; done) | (simp; omega) | omega) (by first | exact Nat.le_of_ble_eq_true rfl | (simp; done) | (simp; omega) | omega) (by first | exact Nat.le_of_ble_eq_true rfl | (simp; done) | (simp; omega) | omega) (by first | exact Nat.le_of_ble_eq_true rfl | (simp; done) | (simp; omega) | omega) ?_
      rintro _ _ _ T215 ⟨rfl, rfl, rfl⟩ W216
      replace W216 : Wk l Z EL1 ({ frames := 9, cells := 24, slots := 4288, locals := 192 } : Room) "com/example/grantline/grantline/enforcer/PermissionFromScopeNamePinLaw" code 15 (some .boolean) "law" X [] [(a206, c207), (b208, c209), (a190, c192), (b191, c193)] T215 5 (32) := W216
      show Go Z EL1 _ _ _ X T215 341 #[.val (.int sel), .val (.int shape), .val (.int pos), .val (.int chi), .val (.int (1 : Int32)), .val (.ref a190), .val (.ref adC), .val (.int (4 : Int32)), .val (.int jj.toInt32), .val (.int (chi &&& (255 : Int32))), .val (.int (0 : Int32)), .val (.int (4 : Int32)), .val (.ref a206), .unset, .unset] [(.int x213), (.int (chi &&& (255 : Int32)))]
      refine Go.icmp_ne (pc' := 344) W216 349 d_code_341 (by decide) rfl (fun (c217 : ¬ ((chi &&& (255 : Int32)) = x213)) => ?_) (fun (c217 : (chi &&& (255 : Int32)) = x213) => ?_)
      · refine Go.aconstNull (pc' := 350) W216 d_code_349 rfl ?_
        refine Go.astore (pc' := 352) W216 #[.val (.int sel), .val (.int shape), .val (.int pos), .val (.int chi), .val (.int (1 : Int32)), .val (.ref a190), .val (.ref adC), .val (.int (4 : Int32)), .val (.int jj.toInt32), .val (.int (chi &&& (255 : Int32))), .val (.int (0 : Int32)), .val (.int (4 : Int32)), .val (.ref a206), .val (.null), .unset] d_code_350 rfl rfl rfl ?_
        refine Go.aload (pc' := 354) W216 d_code_352 rfl rfl rfl ?_
        refine Go.static (pc' := 357) W216 (rm_fsn G adA adB adC adD adE adF adG adH adI adJ ceA ceB ceC ceD ceE ceF ceG ceH ceI ceJ hzA obA fdA hzB obB arA hzC obC fdB hzD obD fdC hzE slA hzF slB hzG slC hzH hzI hzJ stA stB stC stD a206 b208 c207 c209 [if 0 = jj then (chi &&& (255 : Int32)) else (114 : Int32), if 1 = jj then (chi &&& (255 : Int32)) else (101 : Int32), if 2 = jj then (chi &&& (255 : Int32)) else (97 : Int32), if 3 = jj then (chi &&& (255 : Int32)) else (100 : Int32)] S210) (w_25 G) (w_26 G) (w_10 G) (w_27 G) (by decide) [] [0, 1] (σf := []) rfl rfl [(.ref a206)] [] rfl (lenOf pd_24 rfl) rfl rfl d_code_354 rfl (by first | exact Nat.le_of_ble_eq_true rfl | (simp; done) | (simp; omega) | omega) (by first | exact Nat.le_of_ble_eq_true rfl | (simp; done) | (simp; omega) | omega) (by first | exact Nat.le_of_ble_eq_true rfl | (simp; done) | (simp; omega) | omega) (by first | exact Nat.le_of_ble_eq_true rfl | (simp; done) | (simp; omega) | omega) ?_
        rintro _ _ _ T218 ⟨rfl, rfl, rfl⟩ W219
        replace W219 : Wk l Z EL1 ({ frames := 9, cells := 24, slots := 4288, locals := 192 } : Room) "com/example/grantline/grantline/enforcer/PermissionFromScopeNamePinLaw" code 15 (some .boolean) "law" X [] [(a206, c207), (b208, c209), (a190, c192), (b191, c193)] T218 6 (35) := W219
        show Go Z EL1 _ _ _ X T218 357 #[.val (.int sel), .val (.int shape), .val (.int pos), .val (.int chi), .val (.int (1 : Int32)), .val (.ref a190), .val (.ref adC), .val (.int (4 : Int32)), .val (.int jj.toInt32), .val (.int (chi &&& (255 : Int32))), .val (.int (0 : Int32)), .val (.int (4 : Int32)), .val (.ref a206), .val (.null), .unset] [(fsn adA adC adD [if 0 = jj then (chi &&& (255 : Int32)) else (114 : Int32), if 1 = jj then (chi &&& (255 : Int32)) else (101 : Int32), if 2 = jj then (chi &&& (255 : Int32)) else (97 : Int32), if 3 = jj then (chi &&& (255 : Int32)) else (100 : Int32)])]
        refine Go.aload (pc' := 359) W219 d_code_357 rfl rfl rfl ?_
        refine Go.acmp_ne (pc' := 362) W219 366 (fsn_ref _ _ _ _) rfl d_code_359 (by decide) rfl (fun hq => absurd ((pure0_read adA adC adD jj hjj _ _ h214).2 c217) hq) (fun _ => ?_)
        refine Go.iconst (pc' := 363) W219 (1 : Int32) d_code_362 (by decide) rfl ?_
        refine Go.goto W219 367 d_code_363 (by decide) ?_
        refine Go.nret (z' := (1 : Int32)) W219 (by simp) (by decide) d_code_367 (by first | exact Nat.le_of_ble_eq_true rfl | (simp; done) | (simp; omega) | omega) (by first | exact Nat.le_of_ble_eq_true rfl | (simp; done) | (simp; omega) | omega) ?_
        rfl
      · refine Go.aload (pc' := 346) W216 d_code_344 rfl rfl rfl ?_
        refine Go.goto W216 350 d_code_346 (by decide) ?_
        refine Go.astore (pc' := 352) W216 #[.val (.int sel), .val (.int shape), .val (.int pos), .val (.int chi), .val (.int (1 : Int32)), .val (.ref a190), .val (.ref adC), .val (.int (4 : Int32)), .val (.int jj.toInt32), .val (.int (chi &&& (255 : Int32))), .val (.int (0 : Int32)), .val (.int (4 : Int32)), .val (.ref a206), .val (.ref adC), .unset] d_code_350 rfl rfl rfl ?_
        refine Go.aload (pc' := 354) W216 d_code_352 rfl rfl rfl ?_
        refine Go.static (pc' := 357) W216 (rm_fsn G adA adB adC adD adE adF adG adH adI adJ ceA ceB ceC ceD ceE ceF ceG ceH ceI ceJ hzA obA fdA hzB obB arA hzC obC fdB hzD obD fdC hzE slA hzF slB hzG slC hzH hzI hzJ stA stB stC stD a206 b208 c207 c209 [if 0 = jj then (chi &&& (255 : Int32)) else (114 : Int32), if 1 = jj then (chi &&& (255 : Int32)) else (101 : Int32), if 2 = jj then (chi &&& (255 : Int32)) else (97 : Int32), if 3 = jj then (chi &&& (255 : Int32)) else (100 : Int32)] S210) (w_25 G) (w_26 G) (w_10 G) (w_27 G) (by decide) [] [0, 1] (σf := []) rfl rfl [(.ref a206)] [] rfl (lenOf pd_24 rfl) rfl rfl d_code_354 rfl (by first | exact Nat.le_of_ble_eq_true rfl | (simp; done) | (simp; omega) | omega) (by first | exact Nat.le_of_ble_eq_true rfl | (simp; done) | (simp; omega) | omega) (by first | exact Nat.le_of_ble_eq_true rfl | (simp; done) | (simp; omega) | omega) (by first | exact Nat.le_of_ble_eq_true rfl | (simp; done) | (simp; omega) | omega) ?_
        rintro _ _ _ T220 ⟨rfl, rfl, rfl⟩ W221
        replace W221 : Wk l Z EL1 ({ frames := 9, cells := 24, slots := 4288, locals := 192 } : Room) "com/example/grantline/grantline/enforcer/PermissionFromScopeNamePinLaw" code 15 (some .boolean) "law" X [] [(a206, c207), (b208, c209), (a190, c192), (b191, c193)] T220 6 (35) := W221
        show Go Z EL1 _ _ _ X T220 357 #[.val (.int sel), .val (.int shape), .val (.int pos), .val (.int chi), .val (.int (1 : Int32)), .val (.ref a190), .val (.ref adC), .val (.int (4 : Int32)), .val (.int jj.toInt32), .val (.int (chi &&& (255 : Int32))), .val (.int (0 : Int32)), .val (.int (4 : Int32)), .val (.ref a206), .val (.ref adC), .unset] [(fsn adA adC adD [if 0 = jj then (chi &&& (255 : Int32)) else (114 : Int32), if 1 = jj then (chi &&& (255 : Int32)) else (101 : Int32), if 2 = jj then (chi &&& (255 : Int32)) else (97 : Int32), if 3 = jj then (chi &&& (255 : Int32)) else (100 : Int32)])]
        refine Go.aload (pc' := 359) W221 d_code_357 rfl rfl rfl ?_
        refine Go.acmp_ne (pc' := 362) W221 366 (fsn_ref _ _ _ _) rfl d_code_359 (by decide) rfl (fun hq => absurd ((pure0_read adA adC adD jj hjj _ _ h214).1 c217) hq) (fun _ => ?_)
        refine Go.iconst (pc' := 363) W221 (1 : Int32) d_code_362 (by decide) rfl ?_
        refine Go.goto W221 367 d_code_363 (by decide) ?_
        refine Go.nret (z' := (1 : Int32)) W221 (by simp) (by decide) d_code_367 (by first | exact Nat.le_of_ble_eq_true rfl | (simp; done) | (simp; omega) | omega) (by first | exact Nat.le_of_ble_eq_true rfl | (simp; done) | (simp; omega) | omega) ?_
        rfl
    · refine Go.istore (pc' := 90) W202 #[.val (.int sel), .val (.int shape), .val (.int pos), .val (.int chi), .val (.int (1 : Int32)), .val (.ref a190), .val (.ref adC), .val (.int (4 : Int32)), .val (.int jj.toInt32), .val (.int (chi &&& (255 : Int32))), .val (.int (1 : Int32)), .unset, .unset, .unset, .unset] d_code_88 rfl rfl ?_
      refine Go.iload (pc' := 92) W202 d_code_90 rfl rfl ?_
      refine Go.iconst (pc' := 93) W202 (3 : Int32) d_code_92 (by decide) rfl ?_
      refine Go.icmp_ne (pc' := 96) W202 283 d_code_93 (by decide) rfl (fun _ => ?_) (fun q => absurd q (by decide))
      refine Go.iload (pc' := 285) W202 d_code_283 rfl rfl ?_
      refine Go.if_ne (pc' := 288) W202 293 d_code_285 (by decide) rfl (fun _ => ?_) (fun q => absurd q (by decide))
      refine Go.iload (pc' := 295) W202 d_code_293 rfl rfl ?_
      refine Go.iconst (pc' := 296) W202 (1 : Int32) d_code_295 (by decide) rfl ?_
      refine Go.icmp_ne (pc' := 299) W202 306 d_code_296 (by decide) rfl (fun q => absurd (by decide) q) (fun _ => ?_)
      refine Go.iload (pc' := 301) W202 d_code_299 rfl rfl ?_
      refine Go.iconst (pc' := 302) W202 (1 : Int32) d_code_301 (by decide) rfl ?_
      refine Go.iadd (pc' := 303) W202 d_code_302 rfl ?_
      rw [show ((4 : Int32) + (1 : Int32) : Int32) = (5 : Int32) from by decide]
      refine Go.goto W202 310 d_code_303 (by decide) ?_
      refine Go.istore (pc' := 312) W202 #[.val (.int sel), .val (.int shape), .val (.int pos), .val (.int chi), .val (.int (1 : Int32)), .val (.ref a190), .val (.ref adC), .val (.int (4 : Int32)), .val (.int jj.toInt32), .val (.int (chi &&& (255 : Int32))), .val (.int (1 : Int32)), .val (.int (5 : Int32)), .unset, .unset, .unset] d_code_310 rfl rfl ?_
      refine Go.aload (pc' := 314) W202 d_code_312 rfl rfl rfl ?_
      refine Go.iload (pc' := 316) W202 d_code_314 rfl rfl ?_
      refine Go.iload (pc' := 318) W202 d_code_316 rfl rfl ?_
      refine Go.iload (pc' := 320) W202 d_code_318 rfl rfl ?_
      refine Go.iload (pc' := 322) W202 d_code_320 rfl rfl ?_
      refine Go.static (pc' := 325) W202 (rm_build_reado G a190 b191 c192 c193 S198 jj hjj (chi &&& (255 : Int32)) (and255 _)) (w_72 G) (w_73 G) (w_74 G) (w_75 G) (by decide) [] [0, 1] (σf := []) rfl rfl [(.ref a190), (.int (5 : Int32)), (.int (1 : Int32)), (.int jj.toInt32), (.int (chi &&& (255 : Int32)))] [] rfl (lenOf pd_23 rfl) rfl rfl d_code_322 rfl (by first | exact Nat.le_of_ble_eq_true rfl | (simp; done) | (simp; omega) | omega) (by first | exact Nat.le_of_ble_eq_true rfl | (simp; done) | (simp; omega) | omega) (by first | exact Nat.le_of_ble_eq_true rfl | (simp; done) | (simp; omega) | omega) (by first | exact Nat.le_of_ble_eq_true rfl | (simp; done) | (simp; omega) | omega) ?_
      rintro _ _ _ T227 ⟨a222, c223, b224, c225, rfl, rfl, rfl, S226⟩ W228
      replace W228 : Wk l Z EL1 ({ frames := 9, cells := 24, slots := 4288, locals := 192 } : Room) "com/example/grantline/grantline/enforcer/PermissionFromScopeNamePinLaw" code 15 (some .boolean) "law" X [] [(a222, c223), (b224, c225), (a190, c192), (b191, c193)] T227 5 (34) := W228
      show Go Z EL1 _ _ _ X T227 325 #[.val (.int sel), .val (.int shape), .val (.int pos), .val (.int chi), .val (.int (1 : Int32)), .val (.ref a190), .val (.ref adC), .val (.int (4 : Int32)), .val (.int jj.toInt32), .val (.int (chi &&& (255 : Int32))), .val (.int (1 : Int32)), .val (.int (5 : Int32)), .unset, .unset, .unset] [(.ref a222)]
      refine Go.astore (pc' := 327) W228 #[.val (.int sel), .val (.int shape), .val (.int pos), .val (.int chi), .val (.int (1 : Int32)), .val (.ref a190), .val (.ref adC), .val (.int (4 : Int32)), .val (.int jj.toInt32), .val (.int (chi &&& (255 : Int32))), .val (.int (1 : Int32)), .val (.int (5 : Int32)), .val (.ref a222), .unset, .unset] d_code_325 rfl rfl rfl ?_
      refine Go.iload (pc' := 329) W228 d_code_327 rfl rfl ?_
      refine Go.if_ne (pc' := 332) W228 349 d_code_329 (by decide) rfl (fun _ => ?_) (fun q => absurd q (by decide))
      refine Go.aconstNull (pc' := 350) W228 d_code_349 rfl ?_
      refine Go.astore (pc' := 352) W228 #[.val (.int sel), .val (.int shape), .val (.int pos), .val (.int chi), .val (.int (1 : Int32)), .val (.ref a190), .val (.ref adC), .val (.int (4 : Int32)), .val (.int jj.toInt32), .val (.int (chi &&& (255 : Int32))), .val (.int (1 : Int32)), .val (.int (5 : Int32)), .val (.ref a222), .val (.null), .unset] d_code_350 rfl rfl rfl ?_
      refine Go.aload (pc' := 354) W228 d_code_352 rfl rfl rfl ?_
      refine Go.static (pc' := 357) W228 (rm_fsn G adA adB adC adD adE adF adG adH adI adJ ceA ceB ceC ceD ceE ceF ceG ceH ceI ceJ hzA obA fdA hzB obB arA hzC obC fdB hzD obD fdC hzE slA hzF slB hzG slC hzH hzI hzJ stA stB stC stD a222 b224 c223 c225 [(114 : Int32), (101 : Int32), (97 : Int32), (100 : Int32), (chi &&& (255 : Int32))] S226) (w_25 G) (w_26 G) (w_10 G) (w_27 G) (by decide) [] [0, 1] (σf := []) rfl rfl [(.ref a222)] [] rfl (lenOf pd_24 rfl) rfl rfl d_code_354 rfl (by first | exact Nat.le_of_ble_eq_true rfl | (simp; done) | (simp; omega) | omega) (by first | exact Nat.le_of_ble_eq_true rfl | (simp; done) | (simp; omega) | omega) (by first | exact Nat.le_of_ble_eq_true rfl | (simp; done) | (simp; omega) | omega) (by first | exact Nat.le_of_ble_eq_true rfl | (simp; done) | (simp; omega) | omega) ?_
      rintro _ _ _ T229 ⟨rfl, rfl, rfl⟩ W230
      replace W230 : Wk l Z EL1 ({ frames := 9, cells := 24, slots := 4288, locals := 192 } : Room) "com/example/grantline/grantline/enforcer/PermissionFromScopeNamePinLaw" code 15 (some .boolean) "law" X [] [(a222, c223), (b224, c225), (a190, c192), (b191, c193)] T229 6 (37) := W230
      show Go Z EL1 _ _ _ X T229 357 #[.val (.int sel), .val (.int shape), .val (.int pos), .val (.int chi), .val (.int (1 : Int32)), .val (.ref a190), .val (.ref adC), .val (.int (4 : Int32)), .val (.int jj.toInt32), .val (.int (chi &&& (255 : Int32))), .val (.int (1 : Int32)), .val (.int (5 : Int32)), .val (.ref a222), .val (.null), .unset] [(fsn adA adC adD [(114 : Int32), (101 : Int32), (97 : Int32), (100 : Int32), (chi &&& (255 : Int32))])]
      refine Go.aload (pc' := 359) W230 d_code_357 rfl rfl rfl ?_
      refine Go.acmp_ne (pc' := 362) W230 366 (fsn_ref _ _ _ _) rfl d_code_359 (by decide) rfl (fun hq => absurd (pure1_read adA adC adD _) hq) (fun _ => ?_)
      refine Go.iconst (pc' := 363) W230 (1 : Int32) d_code_362 (by decide) rfl ?_
      refine Go.goto W230 367 d_code_363 (by decide) ?_
      refine Go.nret (z' := (1 : Int32)) W230 (by simp) (by decide) d_code_367 (by first | exact Nat.le_of_ble_eq_true rfl | (simp; done) | (simp; omega) | omega) (by first | exact Nat.le_of_ble_eq_true rfl | (simp; done) | (simp; omega) | omega) ?_
      rfl
    · refine Go.istore (pc' := 90) W202 #[.val (.int sel), .val (.int shape), .val (.int pos), .val (.int chi), .val (.int (1 : Int32)), .val (.ref a190), .val (.ref adC), .val (.int (4 : Int32)), .val (.int jj.toInt32), .val (.int (chi &&& (255 : Int32))), .val (.int (2 : Int32)), .unset, .unset, .unset, .unset] d_code_88 rfl rfl ?_
      refine Go.iload (pc' := 92) W202 d_code_90 rfl rfl ?_
      refine Go.iconst (pc' := 93) W202 (3 : Int32) d_code_92 (by decide) rfl ?_
      refine Go.icmp_ne (pc' := 96) W202 283 d_code_93 (by decide) rfl (fun _ => ?_) (fun q => absurd q (by decide))
      refine Go.iload (pc' := 285) W202 d_code_283 rfl rfl ?_
      refine Go.if_ne (pc' := 288) W202 293 d_code_285 (by decide) rfl (fun _ => ?_) (fun q => absurd q (by decide))
      refine Go.iload (pc' := 295) W202 d_code_293 rfl rfl ?_
      refine Go.iconst (pc' := 296) W202 (1 : Int32) d_code_295 (by decide) rfl ?_
      refine Go.icmp_ne (pc' := 299) W202 306 d_code_296 (by decide) rfl (fun _ => ?_) (fun q => absurd q (by decide))
      refine Go.iload (pc' := 308) W202 d_code_306 rfl rfl ?_
      refine Go.iconst (pc' := 309) W202 (1 : Int32) d_code_308 (by decide) rfl ?_
      refine Go.isub (pc' := 310) W202 d_code_309 rfl ?_
      rw [show ((4 : Int32) - (1 : Int32) : Int32) = (3 : Int32) from by decide]
      refine Go.istore (pc' := 312) W202 #[.val (.int sel), .val (.int shape), .val (.int pos), .val (.int chi), .val (.int (1 : Int32)), .val (.ref a190), .val (.ref adC), .val (.int (4 : Int32)), .val (.int jj.toInt32), .val (.int (chi &&& (255 : Int32))), .val (.int (2 : Int32)), .val (.int (3 : Int32)), .unset, .unset, .unset] d_code_310 rfl rfl ?_
      refine Go.aload (pc' := 314) W202 d_code_312 rfl rfl rfl ?_
      refine Go.iload (pc' := 316) W202 d_code_314 rfl rfl ?_
      refine Go.iload (pc' := 318) W202 d_code_316 rfl rfl ?_
      refine Go.iload (pc' := 320) W202 d_code_318 rfl rfl ?_
      refine Go.iload (pc' := 322) W202 d_code_320 rfl rfl ?_
      refine Go.static (pc' := 325) W202 (rm_build_readt G a190 b191 c192 c193 S198 jj hjj (chi &&& (255 : Int32)) (and255 _)) (w_72 G) (w_73 G) (w_74 G) (w_75 G) (by decide) [] [0, 1] (σf := []) rfl rfl [(.ref a190), (.int (3 : Int32)), (.int (2 : Int32)), (.int jj.toInt32), (.int (chi &&& (255 : Int32)))] [] rfl (lenOf pd_23 rfl) rfl rfl d_code_322 rfl (by first | exact Nat.le_of_ble_eq_true rfl | (simp; done) | (simp; omega) | omega) (by first | exact Nat.le_of_ble_eq_true rfl | (simp; done) | (simp; omega) | omega) (by first | exact Nat.le_of_ble_eq_true rfl | (simp; done) | (simp; omega) | omega) (by first | exact Nat.le_of_ble_eq_true rfl | (simp; done) | (simp; omega) | omega) ?_
      rintro _ _ _ T236 ⟨a231, c232, b233, c234, rfl, rfl, rfl, S235⟩ W237
      replace W237 : Wk l Z EL1 ({ frames := 9, cells := 24, slots := 4288, locals := 192 } : Room) "com/example/grantline/grantline/enforcer/PermissionFromScopeNamePinLaw" code 15 (some .boolean) "law" X [] [(a231, c232), (b233, c234), (a190, c192), (b191, c193)] T236 5 (30) := W237
      show Go Z EL1 _ _ _ X T236 325 #[.val (.int sel), .val (.int shape), .val (.int pos), .val (.int chi), .val (.int (1 : Int32)), .val (.ref a190), .val (.ref adC), .val (.int (4 : Int32)), .val (.int jj.toInt32), .val (.int (chi &&& (255 : Int32))), .val (.int (2 : Int32)), .val (.int (3 : Int32)), .unset, .unset, .unset] [(.ref a231)]
      refine Go.astore (pc' := 327) W237 #[.val (.int sel), .val (.int shape), .val (.int pos), .val (.int chi), .val (.int (1 : Int32)), .val (.ref a190), .val (.ref adC), .val (.int (4 : Int32)), .val (.int jj.toInt32), .val (.int (chi &&& (255 : Int32))), .val (.int (2 : Int32)), .val (.int (3 : Int32)), .val (.ref a231), .unset, .unset] d_code_325 rfl rfl rfl ?_
      refine Go.iload (pc' := 329) W237 d_code_327 rfl rfl ?_
      refine Go.if_ne (pc' := 332) W237 349 d_code_329 (by decide) rfl (fun _ => ?_) (fun q => absurd q (by decide))
      refine Go.aconstNull (pc' := 350) W237 d_code_349 rfl ?_
      refine Go.astore (pc' := 352) W237 #[.val (.int sel), .val (.int shape), .val (.int pos), .val (.int chi), .val (.int (1 : Int32)), .val (.ref a190), .val (.ref adC), .val (.int (4 : Int32)), .val (.int jj.toInt32), .val (.int (chi &&& (255 : Int32))), .val (.int (2 : Int32)), .val (.int (3 : Int32)), .val (.ref a231), .val (.null), .unset] d_code_350 rfl rfl rfl ?_
      refine Go.aload (pc' := 354) W237 d_code_352 rfl rfl rfl ?_
      refine Go.static (pc' := 357) W237 (rm_fsn G adA adB adC adD adE adF adG adH adI adJ ceA ceB ceC ceD ceE ceF ceG ceH ceI ceJ hzA obA fdA hzB obB arA hzC obC fdB hzD obD fdC hzE slA hzF slB hzG slC hzH hzI hzJ stA stB stC stD a231 b233 c232 c234 [if 0 < jj then (114 : Int32) else (101 : Int32), if 1 < jj then (101 : Int32) else (97 : Int32), if 2 < jj then (97 : Int32) else (100 : Int32)] S235) (w_25 G) (w_26 G) (w_10 G) (w_27 G) (by decide) [] [0, 1] (σf := []) rfl rfl [(.ref a231)] [] rfl (lenOf pd_24 rfl) rfl rfl d_code_354 rfl (by first | exact Nat.le_of_ble_eq_true rfl | (simp; done) | (simp; omega) | omega) (by first | exact Nat.le_of_ble_eq_true rfl | (simp; done) | (simp; omega) | omega) (by first | exact Nat.le_of_ble_eq_true rfl | (simp; done) | (simp; omega) | omega) (by first | exact Nat.le_of_ble_eq_true rfl | (simp; done) | (simp; omega) | omega) ?_
      rintro _ _ _ T238 ⟨rfl, rfl, rfl⟩ W239
      replace W239 : Wk l Z EL1 ({ frames := 9, cells := 24, slots := 4288, locals := 192 } : Room) "com/example/grantline/grantline/enforcer/PermissionFromScopeNamePinLaw" code 15 (some .boolean) "law" X [] [(a231, c232), (b233, c234), (a190, c192), (b191, c193)] T238 6 (33) := W239
      show Go Z EL1 _ _ _ X T238 357 #[.val (.int sel), .val (.int shape), .val (.int pos), .val (.int chi), .val (.int (1 : Int32)), .val (.ref a190), .val (.ref adC), .val (.int (4 : Int32)), .val (.int jj.toInt32), .val (.int (chi &&& (255 : Int32))), .val (.int (2 : Int32)), .val (.int (3 : Int32)), .val (.ref a231), .val (.null), .unset] [(fsn adA adC adD [if 0 < jj then (114 : Int32) else (101 : Int32), if 1 < jj then (101 : Int32) else (97 : Int32), if 2 < jj then (97 : Int32) else (100 : Int32)])]
      refine Go.aload (pc' := 359) W239 d_code_357 rfl rfl rfl ?_
      refine Go.acmp_ne (pc' := 362) W239 366 (fsn_ref _ _ _ _) rfl d_code_359 (by decide) rfl (fun hq => absurd (pure2_read adA adC adD jj hjj) hq) (fun _ => ?_)
      refine Go.iconst (pc' := 363) W239 (1 : Int32) d_code_362 (by decide) rfl ?_
      refine Go.goto W239 367 d_code_363 (by decide) ?_
      refine Go.nret (z' := (1 : Int32)) W239 (by simp) (by decide) d_code_367 (by first | exact Nat.le_of_ble_eq_true rfl | (simp; done) | (simp; omega) | omega) (by first | exact Nat.le_of_ble_eq_true rfl | (simp; done) | (simp; omega) | omega) ?_
      rfl
    · refine Go.istore (pc' := 90) W202 #[.val (.int sel), .val (.int shape), .val (.int pos), .val (.int chi), .val (.int (1 : Int32)), .val (.ref a190), .val (.ref adC), .val (.int (4 : Int32)), .val (.int jj.toInt32), .val (.int (chi &&& (255 : Int32))), .val (.int (3 : Int32)), .unset, .unset, .unset, .unset] d_code_88 rfl rfl ?_
      refine Go.iload (pc' := 92) W202 d_code_90 rfl rfl ?_
      refine Go.iconst (pc' := 93) W202 (3 : Int32) d_code_92 (by decide) rfl ?_
      refine Go.icmp_ne (pc' := 96) W202 283 d_code_93 (by decide) rfl (fun q => absurd (by decide) q) (fun _ => ?_)
      refine Go.iloadN (pc' := 97) W202 d_code_96 rfl rfl ?_
      refine Go.iconst (pc' := 98) W202 (2 : Int32) d_code_97 (by decide) rfl ?_
      refine Go.iushr (pc' := 99) W202 d_code_98 rfl ?_
      refine Go.iconst (pc' := 100) W202 (3 : Int32) d_code_99 (by decide) rfl ?_
      refine Go.iand (pc' := 101) W202 d_code_100 rfl ?_
      refine Go.istore (pc' := 103) W202 #[.val (.int sel), .val (.int shape), .val (.int pos), .val (.int chi), .val (.int (1 : Int32)), .val (.ref a190), .val (.ref adC), .val (.int (4 : Int32)), .val (.int jj.toInt32), .val (.int (chi &&& (255 : Int32))), .val (.int (3 : Int32)), .val (.int (((shape.toUInt32 >>> ((2 : Int32) &&& 31).toUInt32).toInt32) &&& (3 : Int32))), .unset, .unset, .unset] d_code_101 rfl rfl ?_
      refine Go.iload (pc' := 105) W202 d_code_103 rfl rfl ?_
      refine Go.if_ne (pc' := 108) W202 121 d_code_105 (by decide) rfl (fun (c240 : ¬ ((((shape.toUInt32 >>> ((2 : Int32) &&& 31).toUInt32).toInt32) &&& (3 : Int32)) = 0)) => ?_) (fun (c240 : (((shape.toUInt32 >>> ((2 : Int32) &&& 31).toUInt32).toInt32) &&& (3 : Int32)) = 0) => ?_)
      · refine Go.iload (pc' := 123) W202 d_code_121 rfl rfl ?_
        refine Go.iconst (pc' := 124) W202 (1 : Int32) d_code_123 (by decide) rfl ?_
        refine Go.icmp_ne (pc' := 127) W202 149 d_code_124 (by decide) rfl (fun (c241 : ¬ ((((shape.toUInt32 >>> ((2 : Int32) &&& 31).toUInt32).toInt32) &&& (3 : Int32)) = (1 : Int32))) => ?_) (fun (c241 : (((shape.toUInt32 >>> ((2 : Int32) &&& 31).toUInt32).toInt32) &&& (3 : Int32)) = (1 : Int32)) => ?_)
        · refine Go.iconst (pc' := 150) W202 (4 : Int32) d_code_149 (by decide) rfl ?_
          refine Go.newarr (pc' := 152) W202 .char rfl 4 (w_55 G) d_code_150 rfl (by decide) (by decide) (by decide) (by first | exact Nat.le_of_ble_eq_true rfl | (simp; done) | (simp; omega) | omega) (by first | exact Nat.le_of_ble_eq_true rfl | (simp; done) | (simp; omega) | omega) (fun T242 a244 c245 W243 A246 => ?_)
          replace W243 : Wk l Z EL1 ({ frames := 9, cells := 24, slots := 4288, locals := 192 } : Room) "com/example/grantline/grantline/enforcer/PermissionFromScopeNamePinLaw" code 15 (some .boolean) "law" X [(a244, c245)] [(a190, c192), (b191, c193)] T242 3 (24) := W243
          replace A246 : ArrC Z c245 .char [(.int (0 : Int32)), (.int (0 : Int32)), (.int (0 : Int32)), (.int (0 : Int32))] := A246
          refine Go.astore (pc' := 154) W243 #[.val (.int sel), .val (.int shape), .val (.int pos), .val (.int chi), .val (.int (1 : Int32)), .val (.ref a190), .val (.ref adC), .val (.int (4 : Int32)), .val (.int jj.toInt32), .val (.int (chi &&& (255 : Int32))), .val (.int (3 : Int32)), .val (.int (((shape.toUInt32 >>> ((2 : Int32) &&& 31).toUInt32).toInt32) &&& (3 : Int32))), .val (.ref a244), .unset, .unset] d_code_152 rfl rfl rfl ?_
          refine Go.aload (pc' := 156) W243 d_code_154 rfl rfl rfl ?_
          refine Go.iconst (pc' := 157) W243 (0 : Int32) d_code_156 (by decide) rfl ?_
          refine Go.iloadN (pc' := 158) W243 d_code_157 rfl rfl ?_
          refine Go.sipush (pc' := 161) W243 (255 : Int32) d_code_158 (by decide) rfl ?_
          refine Go.iand (pc' := 162) W243 d_code_161 rfl ?_
          refine Go.i2c (pc' := 163) W243 d_code_162 rfl ?_
          rw [i2c_id (lat_char (and255 _)).1 (lat_char (and255 _)).2]
          refine Go.castore (pc' := 164) W243 0 rfl A246 0 (chi &&& (255 : Int32)) (nar_char_id (lat_char (and255 _))) (by decide) (by decide) (by simp) d_code_163 rfl (fun T247 c249 W248 A250 => ?_)
          replace W248 : Wk l Z EL1 ({ frames := 9, cells := 24, slots := 4288, locals := 192 } : Room) "com/example/grantline/grantline/enforcer/PermissionFromScopeNamePinLaw" code 15 (some .boolean) "law" X [(a244, c249)] [(a190, c192), (b191, c193)] T247 3 (24) := W248
          replace A250 : ArrC Z c249 .char [(.int (chi &&& (255 : Int32))), (.int (0 : Int32)), (.int (0 : Int32)), (.int (0 : Int32))] := A250
          refine Go.aload (pc' := 166) W248 d_code_164 rfl rfl rfl ?_
          refine Go.iconst (pc' := 167) W248 (1 : Int32) d_code_166 (by decide) rfl ?_
          refine Go.iloadN (pc' := 168) W248 d_code_167 rfl rfl ?_
          refine Go.bipush (pc' := 170) W248 (8 : Int32) d_code_168 (by decide) rfl ?_
          refine Go.iushr (pc' := 171) W248 d_code_170 rfl ?_
          refine Go.sipush (pc' := 174) W248 (255 : Int32) d_code_171 (by decide) rfl ?_
          refine Go.iand (pc' := 175) W248 d_code_174 rfl ?_
          refine Go.i2c (pc' := 176) W248 d_code_175 rfl ?_
          rw [i2c_id (lat_char (and255 _)).1 (lat_char (and255 _)).2]
          refine Go.castore (pc' := 177) W248 0 rfl A250 1 (((chi.toUInt32 >>> ((8 : Int32) &&& 31).toUInt32).toInt32) &&& (255 : Int32)) (nar_char_id (lat_char (and255 _))) (by decide) (by decide) (by simp) d_code_176 rfl (fun T251 c253 W252 A254 => ?_)
          replace W252 : Wk l Z EL1 ({ frames := 9, cells := 24, slots := 4288, locals := 192 } : Room) "com/example/grantline/grantline/enforcer/PermissionFromScopeNamePinLaw" code 15 (some .boolean) "law" X [(a244, c253)] [(a190, c192), (b191, c193)] T251 3 (24) := W252
          replace A254 : ArrC Z c253 .char [(.int (chi &&& (255 : Int32))), (.int (((chi.toUInt32 >>> ((8 : Int32) &&& 31).toUInt32).toInt32) &&& (255 : Int32))), (.int (0 : Int32)), (.int (0 : Int32))] := A254
          refine Go.aload (pc' := 179) W252 d_code_177 rfl rfl rfl ?_
          refine Go.iconst (pc' := 180) W252 (2 : Int32) d_code_179 (by decide) rfl ?_
          refine Go.iloadN (pc' := 181) W252 d_code_180 rfl rfl ?_
          refine Go.bipush (pc' := 183) W252 (16 : Int32) d_code_181 (by decide) rfl ?_
          refine Go.iushr (pc' := 184) W252 d_code_183 rfl ?_
          refine Go.sipush (pc' := 187) W252 (255 : Int32) d_code_184 (by decide) rfl ?_
          refine Go.iand (pc' := 188) W252 d_code_187 rfl ?_
          refine Go.i2c (pc' := 189) W252 d_code_188 rfl ?_
          rw [i2c_id (lat_char (and255 _)).1 (lat_char (and255 _)).2]
          refine Go.castore (pc' := 190) W252 0 rfl A254 2 (((chi.toUInt32 >>> ((16 : Int32) &&& 31).toUInt32).toInt32) &&& (255 : Int32)) (nar_char_id (lat_char (and255 _))) (by decide) (by decide) (by simp) d_code_189 rfl (fun T255 c257 W256 A258 => ?_)
          replace W256 : Wk l Z EL1 ({ frames := 9, cells := 24, slots := 4288, locals := 192 } : Room) "com/example/grantline/grantline/enforcer/PermissionFromScopeNamePinLaw" code 15 (some .boolean) "law" X [(a244, c257)] [(a190, c192), (b191, c193)] T255 3 (24) := W256
          replace A258 : ArrC Z c257 .char [(.int (chi &&& (255 : Int32))), (.int (((chi.toUInt32 >>> ((8 : Int32) &&& 31).toUInt32).toInt32) &&& (255 : Int32))), (.int (((chi.toUInt32 >>> ((16 : Int32) &&& 31).toUInt32).toInt32) &&& (255 : Int32))), (.int (0 : Int32))] := A258
          refine Go.aload (pc' := 192) W256 d_code_190 rfl rfl rfl ?_
          refine Go.iconst (pc' := 193) W256 (3 : Int32) d_code_192 (by decide) rfl ?_
          refine Go.iloadN (pc' := 194) W256 d_code_193 rfl rfl ?_
          refine Go.bipush (pc' := 196) W256 (24 : Int32) d_code_194 (by decide) rfl ?_
          refine Go.iushr (pc' := 197) W256 d_code_196 rfl ?_
          refine Go.sipush (pc' := 200) W256 (255 : Int32) d_code_197 (by decide) rfl ?_
          refine Go.iand (pc' := 201) W256 d_code_200 rfl ?_
          refine Go.i2c (pc' := 202) W256 d_code_201 rfl ?_
          rw [i2c_id (lat_char (and255 _)).1 (lat_char (and255 _)).2]
          refine Go.castore (pc' := 203) W256 0 rfl A258 3 (((chi.toUInt32 >>> ((24 : Int32) &&& 31).toUInt32).toInt32) &&& (255 : Int32)) (nar_char_id (lat_char (and255 _))) (by decide) (by decide) (by simp) d_code_202 rfl (fun T259 c261 W260 A262 => ?_)
          replace W260 : Wk l Z EL1 ({ frames := 9, cells := 24, slots := 4288, locals := 192 } : Room) "com/example/grantline/grantline/enforcer/PermissionFromScopeNamePinLaw" code 15 (some .boolean) "law" X [(a244, c261)] [(a190, c192), (b191, c193)] T259 3 (24) := W260
          replace A262 : ArrC Z c261 .char [(.int (chi &&& (255 : Int32))), (.int (((chi.toUInt32 >>> ((8 : Int32) &&& 31).toUInt32).toInt32) &&& (255 : Int32))), (.int (((chi.toUInt32 >>> ((16 : Int32) &&& 31).toUInt32).toInt32) &&& (255 : Int32))), (.int (((chi.toUInt32 >>> ((24 : Int32) &&& 31).toUInt32).toInt32) &&& (255 : Int32)))] := A262
          refine Go.aload (pc' := 205) W260 d_code_203 rfl rfl rfl ?_
          refine Go.iconst (pc' := 206) W260 (0 : Int32) d_code_205 (by decide) rfl ?_
          refine Go.caload (pc' := 207) W260 (Or.inl (List.mem_of_getElem? (i := 0) rfl)) A262 0 (by decide) (by decide) rfl d_code_206 rfl ?_
          refine Go.bipush (pc' := 209) W260 (114 : Int32) d_code_207 (by decide) rfl ?_
          refine Go.icmp_ne (pc' := 212) W260 243 d_code_209 (by decide) rfl (fun (c263 : ¬ ((chi &&& (255 : Int32)) = (114 : Int32))) => ?_) (fun (c263 : (chi &&& (255 : Int32)) = (114 : Int32)) => ?_)
          · refine Go.iconst (pc' := 244) W260 (0 : Int32) d_code_243 (by decide) rfl ?_
            refine Go.istore (pc' := 246) W260 #[.val (.int sel), .val (.int shape), .val (.int pos), .val (.int chi), .val (.int (1 : Int32)), .val (.ref a190), .val (.ref adC), .val (.int (4 : Int32)), .val (.int jj.toInt32), .val (.int (chi &&& (255 : Int32))), .val (.int (3 : Int32)), .val (.int (((shape.toUInt32 >>> ((2 : Int32) &&& 31).toUInt32).toInt32) &&& (3 : Int32))), .val (.ref a244), .val (.int (0 : Int32)), .unset] d_code_244 rfl rfl ?_
            refine Go.iload (pc' := 248) W260 d_code_246 rfl rfl ?_
            refine Go.if_eq (pc' := 251) W260 257 d_code_248 (by decide) rfl (fun _ => ?_) (fun q => absurd (by decide) q)
            refine Go.aconstNull (pc' := 258) W260 d_code_257 rfl ?_
            refine Go.astore (pc' := 260) W260 #[.val (.int sel), .val (.int shape), .val (.int pos), .val (.int chi), .val (.int (1 : Int32)), .val (.ref a190), .val (.ref adC), .val (.int (4 : Int32)), .val (.int jj.toInt32), .val (.int (chi &&& (255 : Int32))), .val (.int (3 : Int32)), .val (.int (((shape.toUInt32 >>> ((2 : Int32) &&& 31).toUInt32).toInt32) &&& (3 : Int32))), .val (.ref a244), .val (.int (0 : Int32)), .val (.null)] d_code_258 rfl rfl rfl ?_
            refine Go.new (pc' := 263) W260 (w_54 G) (w_3 G) (w_2 G) d_code_260 rfl (by first | exact Nat.le_of_ble_eq_true rfl | (simp; done) | (simp; omega) | omega) (by first | exact Nat.le_of_ble_eq_true rfl | (simp; done) | (simp; omega) | omega) (fun T264 a266 c267 W265 O268 D269 => ?_)
            replace W265 : Wk l Z EL1 ({ frames := 9, cells := 24, slots := 4288, locals := 192 } : Room) "com/example/grantline/grantline/enforcer/PermissionFromScopeNamePinLaw" code 15 (some .boolean) "law" X [(a266, c267), (a244, c261)] [(a190, c192), (b191, c193)] T264 4 (28) := W265
            have F270 : FldC Z c267 "java/lang/String" "value" "[B" (.null) := D269 (Or.inr (w_5 G)) (ty := (.array .byte)) (by decide)
            have F271 : FldC Z c267 "java/lang/String" "coder" "B" (.int (0 : Int32)) := D269 (Or.inr (w_6 G)) (ty := .byte) (by decide)
            refine Go.dup (pc' := 264) W265 d_code_263 rfl rfl ?_
            refine Go.aload (pc' := 266) W265 d_code_264 rfl rfl rfl ?_
            refine Go.special (pc' := 269) W265 (a := a266) (rm_initC G a266 a244 c267 c261 [chi &&& (255 : Int32), ((chi.toUInt32 >>> ((8 : Int32) &&& 31).toUInt32).toInt32) &&& (255 : Int32), ((chi.toUInt32 >>> ((16 : Int32) &&& 31).toUInt32).toInt32) &&& (255 : Int32), ((chi.toUInt32 >>> ((24 : Int32) &&& 31).toUInt32).toInt32) &&& (255 : Int32)] A262 O268 F271 F270 (Lat.cons (and255 _) (Lat.cons (and255 _) (Lat.cons (and255 _) (Lat.cons (and255 _) Lat.nil)))) (by simp) (show ¬ (4 : Nat).toInt32 = 0 by decide)) rfl (w_56 G) (w_57 G) (w_2 G) (w_58 G) (by decide) [0, 0] [] (σf := []) rfl rfl [(.ref a244)] [(.ref a266)] rfl (lenOf pd_22 rfl) rfl rfl d_code_266 rfl (by first | exact Nat.le_of_ble_eq_true rfl | (simp; done) | (simp; omega) | omega) (by first | exact Nat.le_of_ble_eq_true rfl | (simp; done) | (simp; omega) | omega) (by first | exact Nat.le_of_ble_eq_true rfl | (simp; done) | (simp; omega) | omega) (by first | exact Nat.le_of_ble_eq_true rfl | (simp; done) | (simp; omega) | omega) ?_
            rintro _ _ _ T276 ⟨c272, b273, c274, rfl, rfl, rfl, S275⟩ W277
            replace W277 : Wk l Z EL1 ({ frames := 9, cells := 24, slots := 4288, locals := 192 } : Room) "com/example/grantline/grantline/enforcer/PermissionFromScopeNamePinLaw" code 15 (some .boolean) "law" X [(a244, c261)] [(a266, c272), (b273, c274), (a190, c192), (b191, c193)] T276 5 (32) := W277
            show Go Z EL1 _ _ _ X T276 269 #[.val (.int sel), .val (.int shape), .val (.int pos), .val (.int chi), .val (.int (1 : Int32)), .val (.ref a190), .val (.ref adC), .val (.int (4 : Int32)), .val (.int jj.toInt32), .val (.int (chi &&& (255 : Int32))), .val (.int (3 : Int32)), .val (.int (((shape.toUInt32 >>> ((2 : Int32) &&& 31).toUInt32).toInt32) &&& (3 : Int32))), .val (.ref a244), .val (.int (0 : Int32)), .val (.null)] [(.ref a266)]
            refine Go.static (pc' := 272) W277 (rm_fsn G adA adB adC adD adE adF adG adH adI adJ ceA ceB ceC ceD ceE ceF ceG ceH ceI ceJ hzA obA fdA hzB obB arA hzC obC fdB hzD obD fdC hzE slA hzF slB hzG slC hzH hzI hzJ stA stB stC stD a266 b273 c272 c274 [chi &&& (255 : Int32), ((chi.toUInt32 >>> ((8 : Int32) &&& 31).toUInt32).toInt32) &&& (255 : Int32), ((chi.toUInt32 >>> ((16 : Int32) &&& 31).toUInt32).toInt32) &&& (255 : Int32), ((chi.toUInt32 >>> ((24 : Int32) &&& 31).toUInt32).toInt32) &&& (255 : Int32)] S275) (w_25 G) (w_26 G) (w_10 G) (w_27 G) (by decide) [] [0, 1] (σf := [(a244, c261)]) rfl rfl [(.ref a266)] [] rfl (lenOf pd_24 rfl) rfl rfl d_code_269 rfl (by first | exact Nat.le_of_ble_eq_true rfl | (simp; done) | (simp; omega) | omega) (by first | exact Nat.le_of_ble_eq_true rfl | (simp; done) | (simp; omega) | omega) (by first | exact Nat.le_of_ble_eq_true rfl | (simp; done) | (simp; omega) | omega) (by first | exact Nat.le_of_ble_eq_true rfl | (simp; done) | (simp; omega) | omega) ?_
            rintro _ _ _ T278 ⟨rfl, rfl, rfl⟩ W279
            replace W279 : Wk l Z EL1 ({ frames := 9, cells := 24, slots := 4288, locals := 192 } : Room) "com/example/grantline/grantline/enforcer/PermissionFromScopeNamePinLaw" code 15 (some .boolean) "law" X [(a244, c261)] [(a266, c272), (b273, c274), (a190, c192), (b191, c193)] T278 6 (35) := W279
            show Go Z EL1 _ _ _ X T278 272 #[.val (.int sel), .val (.int shape), .val (.int pos), .val (.int chi), .val (.int (1 : Int32)), .val (.ref a190), .val (.ref adC), .val (.int (4 : Int32)), .val (.int jj.toInt32), .val (.int (chi &&& (255 : Int32))), .val (.int (3 : Int32)), .val (.int (((shape.toUInt32 >>> ((2 : Int32) &&& 31).toUInt32).toInt32) &&& (3 : Int32))), .val (.ref a244), .val (.int (0 : Int32)), .val (.null)] [(fsn adA adC adD [chi &&& (255 : Int32), ((chi.toUInt32 >>> ((8 : Int32) &&& 31).toUInt32).toInt32) &&& (255 : Int32), ((chi.toUInt32 >>> ((16 : Int32) &&& 31).toUInt32).toInt32) &&& (255 : Int32), ((chi.toUInt32 >>> ((24 : Int32) &&& 31).toUInt32).toInt32) &&& (255 : Int32)])]
            refine Go.aload (pc' := 274) W279 d_code_272 rfl rfl rfl ?_
            refine Go.acmp_ne (pc' := 277) W279 281 (fsn_ref _ _ _ _) rfl d_code_274 (by decide) rfl (fun hq => absurd (puren _ _ _ _ _ _ _ (fun q => c263 q.1)) hq) (fun _ => ?_)
            refine Go.iconst (pc' := 278) W279 (1 : Int32) d_code_277 (by decide) rfl ?_
            refine Go.goto W279 282 d_code_278 (by decide) ?_
            refine Go.nret (z' := (1 : Int32)) W279 (by simp) (by decide) d_code_282 (by first | exact Nat.le_of_ble_eq_true rfl | (simp; done) | (simp; omega) | omega) (by first | exact Nat.le_of_ble_eq_true rfl | (simp; done) | (simp; omega) | omega) ?_
            rfl
          · refine Go.aload (pc' := 214) W260 d_code_212 rfl rfl rfl ?_
            refine Go.iconst (pc' := 215) W260 (1 : Int32) d_code_214 (by decide) rfl ?_
            refine Go.caload (pc' := 216) W260 (Or.inl (List.mem_of_getElem? (i := 0) rfl)) A262 1 (by decide) (by decide) rfl d_code_215 rfl ?_
            refine Go.bipush (pc' := 218) W260 (101 : Int32) d_code_216 (by decide) rfl ?_
            refine Go.icmp_ne (pc' := 221) W260 243 d_code_218 (by decide) rfl (fun (c280 : ¬ ((((chi.toUInt32 >>> ((8 : Int32) &&& 31).toUInt32).toInt32) &&& (255 : Int32)) = (101 : Int32))) => ?_) (fun (c280 : (((chi.toUInt32 >>> ((8 : Int32) &&& 31).toUInt32).toInt32) &&& (255 : Int32)) = (101 : Int32)) => ?_)
            · refine Go.iconst (pc' := 244) W260 (0 : Int32) d_code_243 (by decide) rfl ?_
              refine Go.istore (pc' := 246) W260 #[.val (.int sel), .val (.int shape), .val (.int pos), .val (.int chi), .val (.int (1 : Int32)), .val (.ref a190), .val (.ref adC), .val (.int (4 : Int32)), .val (.int jj.toInt32), .val (.int (chi &&& (255 : Int32))), .val (.int (3 : Int32)), .val (.int (((shape.toUInt32 >>> ((2 : Int32) &&& 31).toUInt32).toInt32) &&& (3 : Int32))), .val (.ref a244), .val (.int (0 : Int32)), .unset] d_code_244 rfl rfl ?_
              refine Go.iload (pc' := 248) W260 d_code_246 rfl rfl ?_
              refine Go.if_eq (pc' := 251) W260 257 d_code_248 (by decide) rfl (fun _ => ?_) (fun q => absurd (by decide) q)
              refine Go.aconstNull (pc' := 258) W260 d_code_257 rfl ?_
              refine Go.astore (pc' := 260) W260 #[.val (.int sel), .val (.int shape), .val (.int pos), .val (.int chi), .val (.int (1 : Int32)), .val (.ref a190), .val (.ref adC), .val (.int (4 : Int32)), .val (.int jj.toInt32), .val (.int (chi &&& (255 : Int32))), .val (.int (3 : Int32)), .val (.int (((shape.toUInt32 >>> ((2 : Int32) &&& 31).toUInt32).toInt32) &&& (3 : Int32))), .val (.ref a244), .val (.int (0 : Int32)), .val (.null)] d_code_258 rfl rfl rfl ?_
              refine Go.new (pc' := 263) W260 (w_54 G) (w_3 G) (w_2 G) d_code_260 rfl (by first | exact Nat.le_of_ble_eq_true rfl | (simp; done) | (simp; omega) | omega) (by first | exact Nat.le_of_ble_eq_true rfl | (simp; done) | (simp; omega) | omega) (fun T281 a283 c284 W282 O285 D286 => ?_)
              replace W282 : Wk l Z EL1 ({ frames := 9, cells := 24, slots := 4288, locals := 192 } : Room) "com/example/grantline/grantline/enforcer/PermissionFromScopeNamePinLaw" code 15 (some .boolean) "law" X [(a283, c284), (a244, c261)] [(a190, c192), (b191, c193)] T281 4 (28) := W282
              have F287 : FldC Z c284 "java/lang/String" "value" "[B" (.null) := D286 (Or.inr (w_5 G)) (ty := (.array .byte)) (by decide)
              have F288 : FldC Z c284 "java/lang/String" "coder" "B" (.int (0 : Int32)) := D286 (Or.inr (w_6 G)) (ty := .byte) (by decide)
              refine Go.dup (pc' := 264) W282 d_code_263 rfl rfl ?_
              refine Go.aload (pc' := 266) W282 d_code_264 rfl rfl rfl ?_
              refine Go.special (pc' := 269) W282 (a := a283) (rm_initC G a283 a244 c284 c261 [chi &&& (255 : Int32), ((chi.toUInt32 >>> ((8 : Int32) &&& 31).toUInt32).toInt32) &&& (255 : Int32), ((chi.toUInt32 >>> ((16 : Int32) &&& 31).toUInt32).toInt32) &&& (255 : Int32), ((chi.toUInt32 >>> ((24 : Int32) &&& 31).toUInt32).toInt32) &&& (255 : Int32)] A262 O285 F288 F287 (Lat.cons (and255 _) (Lat.cons (and255 _) (Lat.cons (and255 _) (Lat.cons (and255 _) Lat.nil)))) (by simp) (show ¬ (4 : Nat).toInt32 = 0 by decide)) rfl (w_56 G) (w_57 G) (w_2 G) (w_58 G) (by decide) [0, 0] [] (σf := []) rfl rfl [(.ref a244)] [(.ref a283)] rfl (lenOf pd_22 rfl) rfl rfl d_code_266 rfl (by first | exact Nat.le_of_ble_eq_true rfl | (simp; done) | (simp; omega) | omega) (by first | exact Nat.le_of_ble_eq_true rfl | (simp; done) | (simp; omega) | omega) (by first | exact Nat.le_of_ble_eq_true rfl | (simp; done) | (simp; omega) | omega) (by first | exact Nat.le_of_ble_eq_true rfl | (simp; done) | (simp; omega) | omega) ?_
              rintro _ _ _ T293 ⟨c289, b290, c291, rfl, rfl, rfl, S292⟩ W294
              replace W294 : Wk l Z EL1 ({ frames := 9, cells := 24, slots := 4288, locals := 192 } : Room) "com/example/grantline/grantline/enforcer/PermissionFromScopeNamePinLaw" code 15 (some .boolean) "law" X [(a244, c261)] [(a283, c289), (b290, c291), (a190, c192), (b191, c193)] T293 5 (32) := W294
              show Go Z EL1 _ _ _ X T293 269 #[.val (.int sel), .val (.int shape), .val (.int pos), .val (.int chi), .val (.int (1 : Int32)), .val (.ref a190), .val (.ref adC), .val (.int (4 : Int32)), .val (.int jj.toInt32), .val (.int (chi &&& (255 : Int32))), .val (.int (3 : Int32)), .val (.int (((shape.toUInt32 >>> ((2 : Int32) &&& 31).toUInt32).toInt32) &&& (3 : Int32))), .val (.ref a244), .val (.int (0 : Int32)), .val (.null)] [(.ref a283)]
              refine Go.static (pc' := 272) W294 (rm_fsn G adA adB adC adD adE adF adG adH adI adJ ceA ceB ceC ceD ceE ceF ceG ceH ceI ceJ hzA obA fdA hzB obB arA hzC obC fdB hzD obD fdC hzE slA hzF slB hzG slC hzH hzI hzJ stA stB stC stD a283 b290 c289 c291 [chi &&& (255 : Int32), ((chi.toUInt32 >>> ((8 : Int32) &&& 31).toUInt32).toInt32) &&& (255 : Int32), ((chi.toUInt32 >>> ((16 : Int32) &&& 31).toUInt32).toInt32) &&& (255 : Int32), ((chi.toUInt32 >>> ((24 : Int32) &&& 31).toUInt32).toInt32) &&& (255 : Int32)] S292) (w_25 G) (w_26 G) (w_10 G) (w_27 G) (by decide) [] [0, 1] (σf := [(a244, c261)]) rfl rfl [(.ref a283)] [] rfl (lenOf pd_24 rfl) rfl rfl d_code_269 rfl (by first | exact Nat.le_of_ble_eq_true rfl | (simp; done) | (simp; omega) | omega) (by first | exact Nat.le_of_ble_eq_true rfl | (simp; done) | (simp; omega) | omega) (by first | exact Nat.le_of_ble_eq_true rfl | (simp; done) | (simp; omega) | omega) (by first | exact Nat.le_of_ble_eq_true rfl | (simp; done) | (simp; omega) | omega) ?_
              rintro _ _ _ T295 ⟨rfl, rfl, rfl⟩ W296
              replace W296 : Wk l Z EL1 ({ frames := 9, cells := 24, slots := 4288, locals := 192 } : Room) "com/example/grantline/grantline/enforcer/PermissionFromScopeNamePinLaw" code 15 (some .boolean) "law" X [(a244, c261)] [(a283, c289), (b290, c291), (a190, c192), (b191, c193)] T295 6 (35) := W296
              show Go Z EL1 _ _ _ X T295 272 #[.val (.int sel), .val (.int shape), .val (.int pos), .val (.int chi), .val (.int (1 : Int32)), .val (.ref a190), .val (.ref adC), .val (.int (4 : Int32)), .val (.int jj.toInt32), .val (.int (chi &&& (255 : Int32))), .val (.int (3 : Int32)), .val (.int (((shape.toUInt32 >>> ((2 : Int32) &&& 31).toUInt32).toInt32) &&& (3 : Int32))), .val (.ref a244), .val (.int (0 : Int32)), .val (.null)] [(fsn adA adC adD [chi &&& (255 : Int32), ((chi.toUInt32 >>> ((8 : Int32) &&& 31).toUInt32).toInt32) &&& (255 : Int32), ((chi.toUInt32 >>> ((16 : Int32) &&& 31).toUInt32).toInt32) &&& (255 : Int32), ((chi.toUInt32 >>> ((24 : Int32) &&& 31).toUInt32).toInt32) &&& (255 : Int32)])]
              refine Go.aload (pc' := 274) W296 d_code_272 rfl rfl rfl ?_
              refine Go.acmp_ne (pc' := 277) W296 281 (fsn_ref _ _ _ _) rfl d_code_274 (by decide) rfl (fun hq => absurd (puren _ _ _ _ _ _ _ (fun q => c280 q.2.1)) hq) (fun _ => ?_)
              refine Go.iconst (pc' := 278) W296 (1 : Int32) d_code_277 (by decide) rfl ?_
              refine Go.goto W296 282 d_code_278 (by decide) ?_
              refine Go.nret (z' := (1 : Int32)) W296 (by simp) (by decide) d_code_282 (by first | exact Nat.le_of_ble_eq_true rfl | (simp; done) | (simp; omega) | omega) (by first | exact Nat.le_of_ble_eq_true rfl | (simp; done) | (simp; omega) | omega) ?_
              rfl
            · refine Go.aload (pc' := 223) W260 d_code_221 rfl rfl rfl ?_
              refine Go.iconst (pc' := 224) W260 (2 : Int32) d_code_223 (by decide) rfl ?_
              refine Go.caload (pc' := 225) W260 (Or.inl (List.mem_of_getElem? (i := 0) rfl)) A262 2 (by decide) (by decide) rfl d_code_224 rfl ?_
              refine Go.bipush (pc' := 227) W260 (97 : Int32) d_code_225 (by decide) rfl ?_
              refine Go.icmp_ne (pc' := 230) W260 243 d_code_227 (by decide) rfl (fun (c297 : ¬ ((((chi.toUInt32 >>> ((16 : Int32) &&& 31).toUInt32).toInt32) &&& (255 : Int32)) = (97 : Int32))) => ?_) (fun (c297 : (((chi.toUInt32 >>> ((16 : Int32) &&& 31).toUInt32).toInt32) &&& (255 : Int32)) = (97 : Int32)) => ?_)
              · refine Go.iconst (pc' := 244) W260 (0 : Int32) d_code_243 (by decide) rfl ?_
                refine Go.istore (pc' := 246) W260 #[.val (.int sel), .val (.int shape), .val (.int pos), .val (.int chi), .val (.int (1 : Int32)), .val (.ref a190), .val (.ref adC), .val (.int (4 : Int32)), .val (.int jj.toInt32), .val (.int (chi &&& (255 : Int32))), .val (.int (3 : Int32)), .val (.int (((shape.toUInt32 >>> ((2 : Int32) &&& 31).toUInt32).toInt32) &&& (3 : Int32))), .val (.ref a244), .val (.int (0 : Int32)), .unset] d_code_244 rfl rfl ?_
                refine Go.iload (pc' := 248) W260 d_code_246 rfl rfl ?_
                refine Go.if_eq (pc' := 251) W260 257 d_code_248 (by decide) rfl (fun _ => ?_) (fun q => absurd (by decide) q)
                refine Go.aconstNull (pc' := 258) W260 d_code_257 rfl ?_
                refine Go.astore (pc' := 260) W260 #[.val (.int sel), .val (.int shape), .val (.int pos), .val (.int chi), .val (.int (1 : Int32)), .val (.ref a190), .val (.ref adC), .val (.int (4 : Int32)), .val (.int jj.toInt32), .val (.int (chi &&& (255 : Int32))), .val (.int (3 : Int32)), .val (.int (((shape.toUInt32 >>> ((2 : Int32) &&& 31).toUInt32).toInt32) &&& (3 : Int32))), .val (.ref a244), .val (.int (0 : Int32)), .val (.null)] d_code_258 rfl rfl rfl ?_
                refine Go.new (pc' := 263) W260 (w_54 G) (w_3 G) (w_2 G) d_code_260 rfl (by first | exact Nat.le_of_ble_eq_true rfl | (simp; done) | (simp; omega) | omega) (by first | exact Nat.le_of_ble_eq_true rfl | (simp; done) | (simp; omega) | omega) (fun T298 a300 c301 W299 O302 D303 => ?_)
                replace W299 : Wk l Z EL1 ({ frames := 9, cells := 24, slots := 4288, locals := 192 } : Room) "com/example/grantline/grantline/enforcer/PermissionFromScopeNamePinLaw" code 15 (some .boolean) "law" X [(a300, c301), (a244, c261)] [(a190, c192), (b191, c193)] T298 4 (28) := W299
                have F304 : FldC Z c301 "java/lang/String" "value" "[B" (.null) := D303 (Or.inr (w_5 G)) (ty := (.array .byte)) (by decide)
                have F305 : FldC Z c301 "java/lang/String" "coder" "B" (.int (0 : Int32)) := D303 (Or.inr (w_6 G)) (ty := .byte) (by decide)
                refine Go.dup (pc' := 264) W299 d_code_263 rfl rfl ?_
                refine Go.aload (pc' := 266) W299 d_code_264 rfl rfl rfl ?_
                refine Go.special (pc' := 269) W299 (a := a300) (rm_initC G a300 a244 c301 c261 [chi &&& (255 : Int32), ((chi.toUInt32 >>> ((8 : Int32) &&& 31).toUInt32).toInt32) &&& (255 : Int32), ((chi.toUInt32 >>> ((16 : Int32) &&& 31).toUInt32).toInt32) &&& (255 : Int32), ((chi.toUInt32 >>> ((24 : Int32) &&& 31).toUInt32).toInt32) &&& (255 : Int32)] A262 O302 F305 F304 (Lat.cons (and255 _) (Lat.cons (and255 _) (Lat.cons (and255 _) (Lat.cons (and255 _) Lat.nil)))) (by simp) (show ¬ (4 : Nat).toInt32 = 0 by decide)) rfl (w_56 G) (w_57 G) (w_2 G) (w_58 G) (by decide) [0, 0] [] (σf := []) rfl rfl [(.ref a244)] [(.ref a300)] rfl (lenOf pd_22 rfl) rfl rfl d_code_266 rfl (by first | exact Nat.le_of_ble_eq_true rfl | (simp; done) | (simp; omega) | omega) (by first | exact Nat.le_of_ble_eq_true rfl | (simp; done) | (simp; omega) | omega) (by first | exact Nat.le_of_ble_eq_true rfl | (simp; done) | (simp; omega) | omega) (by first | exact Nat.le_of_ble_eq_true rfl | (simp; done) | (simp; omega) | omega) ?_
                rintro _ _ _ T310 ⟨c306, b307, c308, rfl, rfl, rfl, S309⟩ W311
                replace W311 : Wk l Z EL1 ({ frames := 9, cells := 24, slots := 4288, locals := 192 } : Room) "com/example/grantline/grantline/enforcer/PermissionFromScopeNamePinLaw" code 15 (some .boolean) "law" X [(a244, c261)] [(a300, c306), (b307, c308), (a190, c192), (b191, c193)] T310 5 (32) := W311
                show Go Z EL1 _ _ _ X T310 269 #[.val (.int sel), .val (.int shape), .val (.int pos), .val (.int chi), .val (.int (1 : Int32)), .val (.ref a190), .val (.ref adC), .val (.int (4 : Int32)), .val (.int jj.toInt32), .val (.int (chi &&& (255 : Int32))), .val (.int (3 : Int32)), .val (.int (((shape.toUInt32 >>> ((2 : Int32) &&& 31).toUInt32).toInt32) &&& (3 : Int32))), .val (.ref a244), .val (.int (0 : Int32)), .val (.null)] [(.ref a300)]
                refine Go.static (pc' := 272) W311 (rm_fsn G adA adB adC adD adE adF adG adH adI adJ ceA ceB ceC ceD ceE ceF ceG ceH ceI ceJ hzA obA fdA hzB obB arA hzC obC fdB hzD obD fdC hzE slA hzF slB hzG slC hzH hzI hzJ stA stB stC stD a300 b307 c306 c308 [chi &&& (255 : Int32), ((chi.toUInt32 >>> ((8 : Int32) &&& 31).toUInt32).toInt32) &&& (255 : Int32), ((chi.toUInt32 >>> ((16 : Int32) &&& 31).toUInt32).toInt32) &&& (255 : Int32), ((chi.toUInt32 >>> ((24 : Int32) &&& 31).toUInt32).toInt32) &&& (255 : Int32)] S309) (w_25 G) (w_26 G) (w_10 G) (w_27 G) (by decide) [] [0, 1] (σf := [(a244, c261)]) rfl rfl [(.ref a300)] [] rfl (lenOf pd_24 rfl) rfl rfl d_code_269 rfl (by first | exact Nat.le_of_ble_eq_true rfl | (simp; done) | (simp; omega) | omega) (by first | exact Nat.le_of_ble_eq_true rfl | (simp; done) | (simp; omega) | omega) (by first | exact Nat.le_of_ble_eq_true rfl | (simp; done) | (simp; omega) | omega) (by first | exact Nat.le_of_ble_eq_true rfl | (simp; done) | (simp; omega) | omega) ?_
                rintro _ _ _ T312 ⟨rfl, rfl, rfl⟩ W313
                replace W313 : Wk l Z EL1 ({ frames := 9, cells := 24, slots := 4288, locals := 192 } : Room) "com/example/grantline/grantline/enforcer/PermissionFromScopeNamePinLaw" code 15 (some .boolean) "law" X [(a244, c261)] [(a300, c306), (b307, c308), (a190, c192), (b191, c193)] T312 6 (35) := W313
                show Go Z EL1 _ _ _ X T312 272 #[.val (.int sel), .val (.int shape), .val (.int pos), .val (.int chi), .val (.int (1 : Int32)), .val (.ref a190), .val (.ref adC), .val (.int (4 : Int32)), .val (.int jj.toInt32), .val (.int (chi &&& (255 : Int32))), .val (.int (3 : Int32)), .val (.int (((shape.toUInt32 >>> ((2 : Int32) &&& 31).toUInt32).toInt32) &&& (3 : Int32))), .val (.ref a244), .val (.int (0 : Int32)), .val (.null)] [(fsn adA adC adD [chi &&& (255 : Int32), ((chi.toUInt32 >>> ((8 : Int32) &&& 31).toUInt32).toInt32) &&& (255 : Int32), ((chi.toUInt32 >>> ((16 : Int32) &&& 31).toUInt32).toInt32) &&& (255 : Int32), ((chi.toUInt32 >>> ((24 : Int32) &&& 31).toUInt32).toInt32) &&& (255 : Int32)])]
                refine Go.aload (pc' := 274) W313 d_code_272 rfl rfl rfl ?_
                refine Go.acmp_ne (pc' := 277) W313 281 (fsn_ref _ _ _ _) rfl d_code_274 (by decide) rfl (fun hq => absurd (puren _ _ _ _ _ _ _ (fun q => c297 q.2.2.1)) hq) (fun _ => ?_)
                refine Go.iconst (pc' := 278) W313 (1 : Int32) d_code_277 (by decide) rfl ?_
                refine Go.goto W313 282 d_code_278 (by decide) ?_
                refine Go.nret (z' := (1 : Int32)) W313 (by simp) (by decide) d_code_282 (by first | exact Nat.le_of_ble_eq_true rfl | (simp; done) | (simp; omega) | omega) (by first | exact Nat.le_of_ble_eq_true rfl | (simp; done) | (simp; omega) | omega) ?_
                rfl
              · refine Go.aload (pc' := 232) W260 d_code_230 rfl rfl rfl ?_
                refine Go.iconst (pc' := 233) W260 (3 : Int32) d_code_232 (by decide) rfl ?_
                refine Go.caload (pc' := 234) W260 (Or.inl (List.mem_of_getElem? (i := 0) rfl)) A262 3 (by decide) (by decide) rfl d_code_233 rfl ?_
                refine Go.bipush (pc' := 236) W260 (100 : Int32) d_code_234 (by decide) rfl ?_
                refine Go.icmp_ne (pc' := 239) W260 243 d_code_236 (by decide) rfl (fun (c314 : ¬ ((((chi.toUInt32 >>> ((24 : Int32) &&& 31).toUInt32).toInt32) &&& (255 : Int32)) = (100 : Int32))) => ?_) (fun (c314 : (((chi.toUInt32 >>> ((24 : Int32) &&& 31).toUInt32).toInt32) &&& (255 : Int32)) = (100 : Int32)) => ?_)
                · refine Go.iconst (pc' := 244) W260 (0 : Int32) d_code_243 (by decide) rfl ?_
                  refine Go.istore (pc' := 246) W260 #[.val (.int sel), .val (.int shape), .val (.int pos), .val (.int chi), .val (.int (1 : Int32)), .val (.ref a190), .val (.ref adC), .val (.int (4 : Int32)), .val (.int jj.toInt32), .val (.int (chi &&& (255 : Int32))), .val (.int (3 : Int32)), .val (.int (((shape.toUInt32 >>> ((2 : Int32) &&& 31).toUInt32).toInt32) &&& (3 : Int32))), .val (.ref a244), .val (.int (0 : Int32)), .unset] d_code_244 rfl rfl ?_
                  refine Go.iload (pc' := 248) W260 d_code_246 rfl rfl ?_
                  refine Go.if_eq (pc' := 251) W260 257 d_code_248 (by decide) rfl (fun _ => ?_) (fun q => absurd (by decide) q)
                  refine Go.aconstNull (pc' := 258) W260 d_code_257 rfl ?_
                  refine Go.astore (pc' := 260) W260 #[.val (.int sel), .val (.int shape), .val (.int pos), .val (.int chi), .val (.int (1 : Int32)), .val (.ref a190), .val (.ref adC), .val (.int (4 : Int32)), .val (.int jj.toInt32), .val (.int (chi &&& (255 : Int32))), .val (.int (3 : Int32)), .val (.int (((shape.toUInt32 >>> ((2 : Int32) &&& 31).toUInt32).toInt32) &&& (3 : Int32))), .val (.ref a244), .val (.int (0 : Int32)), .val (.null)] d_code_258 rfl rfl rfl ?_
                  refine Go.new (pc' := 263) W260 (w_54 G) (w_3 G) (w_2 G) d_code_260 rfl (by first | exact Nat.le_of_ble_eq_true rfl | (simp; done) | (simp; omega) | omega) (by first | exact Nat.le_of_ble_eq_true rfl | (simp; done) | (simp; omega) | omega) (fun T315 a317 c318 W316 O319 D320 => ?_)
                  replace W316 : Wk l Z EL1 ({ frames := 9, cells := 24, slots := 4288, locals := 192 } : Room) "com/example/grantline/grantline/enforcer/PermissionFromScopeNamePinLaw" code 15 (some .boolean) "law" X [(a317, c318), (a244, c261)] [(a190, c192), (b191, c193)] T315 4 (28) := W316
                  have F321 : FldC Z c318 "java/lang/String" "value" "[B" (.null) := D320 (Or.inr (w_5 G)) (ty := (.array .byte)) (by decide)
                  have F322 : FldC Z c318 "java/lang/String" "coder" "B" (.int (0 : Int32)) := D320 (Or.inr (w_6 G)) (ty := .byte) (by decide)
                  refine Go.dup (pc' := 264) W316 d_code_263 rfl rfl ?_
                  refine Go.aload (pc' := 266) W316 d_code_264 rfl rfl rfl ?_
                  refine Go.special (pc' := 269) W316 (a := a317) (rm_initC G a317 a244 c318 c261 [chi &&& (255 : Int32), ((chi.toUInt32 >>> ((8 : Int32) &&& 31).toUInt32).toInt32) &&& (255 : Int32), ((chi.toUInt32 >>> ((16 : Int32) &&& 31).toUInt32).toInt32) &&& (255 : Int32), ((chi.toUInt32 >>> ((24 : Int32) &&& 31).toUInt32).toInt32) &&& (255 : Int32)] A262 O319 F322 F321 (Lat.cons (and255 _) (Lat.cons (and255 _) (Lat.cons (and255 _) (Lat.cons (and255 _) Lat.nil)))) (by simp) (show ¬ (4 : Nat).toInt32 = 0 by decide)) rfl (w_56 G) (w_57 G) (w_2 G) (w_58 G) (by decide) [0, 0] [] (σf := []) rfl rfl [(.ref a244)] [(.ref a317)] rfl (lenOf pd_22 rfl) rfl rfl d_code_266 rfl (by first | exact Nat.le_of_ble_eq_true rfl | (simp; done) | (simp; omega) | omega) (by first | exact Nat.le_of_ble_eq_true rfl | (simp; done) | (simp; omega) | omega) (by first | exact Nat.le_of_ble_eq_true rfl | (simp; done) | (simp; omega) | omega) (by first | exact Nat.le_of_ble_eq_true rfl | (simp; done) | (simp; omega) | omega) ?_
                  rintro _ _ _ T327 ⟨c323, b324, c325, rfl, rfl, rfl, S326⟩ W328
                  replace W328 : Wk l Z EL1 ({ frames := 9, cells := 24, slots := 4288, locals := 192 } : Room) "com/example/grantline/grantline/enforcer/PermissionFromScopeNamePinLaw" code 15 (some .boolean) "law" X [(a244, c261)] [(a317, c323), (b324, c325), (a190, c192), (b191, c193)] T327 5 (32) := W328
                  show Go Z EL1 _ _ _ X T327 269 #[.val (.int sel), .val (.int shape), .val (.int pos), .val (.int chi), .val (.int (1 : Int32)), .val (.ref a190), .val (.ref adC), .val (.int (4 : Int32)), .val (.int jj.toInt32), .val (.int (chi &&& (255 : Int32))), .val (.int (3 : Int32)), .val (.int (((shape.toUInt32 >>> ((2 : Int32) &&& 31).toUInt32).toInt32) &&& (3 : Int32))), .val (.ref a244), .val (.int (0 : Int32)), .val (.null)] [(.ref a317)]
                  refine Go.static (pc' := 272) W328 (rm_fsn G adA adB adC adD adE adF adG adH adI adJ ceA ceB ceC ceD ceE ceF ceG ceH ceI ceJ hzA obA fdA hzB obB arA hzC obC fdB hzD obD fdC hzE slA hzF slB hzG slC hzH hzI hzJ stA stB stC stD a317 b324 c323 c325 [chi &&& (255 : Int32), ((chi.toUInt32 >>> ((8 : Int32) &&& 31).toUInt32).toInt32) &&& (255 : Int32), ((chi.toUInt32 >>> ((16 : Int32) &&& 31).toUInt32).toInt32) &&& (255 : Int32), ((chi.toUInt32 >>> ((24 : Int32) &&& 31).toUInt32).toInt32) &&& (255 : Int32)] S326) (w_25 G) (w_26 G) (w_10 G) (w_27 G) (by decide) [] [0, 1] (σf := [(a244, c261)]) rfl rfl [(.ref a317)] [] rfl (lenOf pd_24 rfl) rfl rfl d_code_269 rfl (by first | exact Nat.le_of_ble_eq_true rfl | (simp; done) | (simp; omega) | omega) (by first | exact Nat.le_of_ble_eq_true rfl | (simp; done) | (simp; omega) | omega) (by first | exact Nat.le_of_ble_eq_true rfl | (simp; done) | (simp; omega) | omega) (by first | exact Nat.le_of_ble_eq_true rfl | (simp; done) | (simp; omega) | omega) ?_
                  rintro _ _ _ T329 ⟨rfl, rfl, rfl⟩ W330
                  replace W330 : Wk l Z EL1 ({ frames := 9, cells := 24, slots := 4288, locals := 192 } : Room) "com/example/grantline/grantline/enforcer/PermissionFromScopeNamePinLaw" code 15 (some .boolean) "law" X [(a244, c261)] [(a317, c323), (b324, c325), (a190, c192), (b191, c193)] T329 6 (35) := W330
                  show Go Z EL1 _ _ _ X T329 272 #[.val (.int sel), .val (.int shape), .val (.int pos), .val (.int chi), .val (.int (1 : Int32)), .val (.ref a190), .val (.ref adC), .val (.int (4 : Int32)), .val (.int jj.toInt32), .val (.int (chi &&& (255 : Int32))), .val (.int (3 : Int32)), .val (.int (((shape.toUInt32 >>> ((2 : Int32) &&& 31).toUInt32).toInt32) &&& (3 : Int32))), .val (.ref a244), .val (.int (0 : Int32)), .val (.null)] [(fsn adA adC adD [chi &&& (255 : Int32), ((chi.toUInt32 >>> ((8 : Int32) &&& 31).toUInt32).toInt32) &&& (255 : Int32), ((chi.toUInt32 >>> ((16 : Int32) &&& 31).toUInt32).toInt32) &&& (255 : Int32), ((chi.toUInt32 >>> ((24 : Int32) &&& 31).toUInt32).toInt32) &&& (255 : Int32)])]
                  refine Go.aload (pc' := 274) W330 d_code_272 rfl rfl rfl ?_
                  refine Go.acmp_ne (pc' := 277) W330 281 (fsn_ref _ _ _ _) rfl d_code_274 (by decide) rfl (fun hq => absurd (puren _ _ _ _ _ _ _ (fun q => c314 q.2.2.2)) hq) (fun _ => ?_)
                  refine Go.iconst (pc' := 278) W330 (1 : Int32) d_code_277 (by decide) rfl ?_
                  refine Go.goto W330 282 d_code_278 (by decide) ?_
                  refine Go.nret (z' := (1 : Int32)) W330 (by simp) (by decide) d_code_282 (by first | exact Nat.le_of_ble_eq_true rfl | (simp; done) | (simp; omega) | omega) (by first | exact Nat.le_of_ble_eq_true rfl | (simp; done) | (simp; omega) | omega) ?_
                  rfl
                · refine Go.iconst (pc' := 240) W260 (1 : Int32) d_code_239 (by decide) rfl ?_
                  refine Go.goto W260 244 d_code_240 (by decide) ?_
                  refine Go.istore (pc' := 246) W260 #[.val (.int sel), .val (.int shape), .val (.int pos), .val (.int chi), .val (.int (1 : Int32)), .val (.ref a190), .val (.ref adC), .val (.int (4 : Int32)), .val (.int jj.toInt32), .val (.int (chi &&& (255 : Int32))), .val (.int (3 : Int32)), .val (.int (((shape.toUInt32 >>> ((2 : Int32) &&& 31).toUInt32).toInt32) &&& (3 : Int32))), .val (.ref a244), .val (.int (1 : Int32)), .unset] d_code_244 rfl rfl ?_
                  refine Go.iload (pc' := 248) W260 d_code_246 rfl rfl ?_
                  refine Go.if_eq (pc' := 251) W260 257 d_code_248 (by decide) rfl (fun q => absurd q (by decide)) (fun _ => ?_)
                  refine Go.getstatic (pc' := 254) W260 (w_53 G) Via.refl stC d_code_251 rfl (fun T331 W332 => ?_)
                  refine Go.goto W332 258 d_code_254 (by decide) ?_
                  refine Go.astore (pc' := 260) W332 #[.val (.int sel), .val (.int shape), .val (.int pos), .val (.int chi), .val (.int (1 : Int32)), .val (.ref a190), .val (.ref adC), .val (.int (4 : Int32)), .val (.int jj.toInt32), .val (.int (chi &&& (255 : Int32))), .val (.int (3 : Int32)), .val (.int (((shape.toUInt32 >>> ((2 : Int32) &&& 31).toUInt32).toInt32) &&& (3 : Int32))), .val (.ref a244), .val (.int (1 : Int32)), .val (.ref adC)] d_code_258 rfl rfl rfl ?_
                  refine Go.new (pc' := 263) W332 (w_54 G) (w_3 G) (w_2 G) d_code_260 rfl (by first | exact Nat.le_of_ble_eq_true rfl | (simp; done) | (simp; omega) | omega) (by first | exact Nat.le_of_ble_eq_true rfl | (simp; done) | (simp; omega) | omega) (fun T333 a335 c336 W334 O337 D338 => ?_)
                  replace W334 : Wk l Z EL1 ({ frames := 9, cells := 24, slots := 4288, locals := 192 } : Room) "com/example/grantline/grantline/enforcer/PermissionFromScopeNamePinLaw" code 15 (some .boolean) "law" X [(a335, c336), (a244, c261)] [(a190, c192), (b191, c193)] T333 4 (28) := W334
                  have F339 : FldC Z c336 "java/lang/String" "value" "[B" (.null) := D338 (Or.inr (w_5 G)) (ty := (.array .byte)) (by decide)
                  have F340 : FldC Z c336 "java/lang/String" "coder" "B" (.int (0 : Int32)) := D338 (Or.inr (w_6 G)) (ty := .byte) (by decide)
                  refine Go.dup (pc' := 264) W334 d_code_263 rfl rfl ?_
                  refine Go.aload (pc' := 266) W334 d_code_264 rfl rfl rfl ?_
                  refine Go.special (pc' := 269) W334 (a := a335) (rm_initC G a335 a244 c336 c261 [chi &&& (255 : Int32), ((chi.toUInt32 >>> ((8 : Int32) &&& 31).toUInt32).toInt32) &&& (255 : Int32), ((chi.toUInt32 >>> ((16 : Int32) &&& 31).toUInt32).toInt32) &&& (255 : Int32), ((chi.toUInt32 >>> ((24 : Int32) &&& 31).toUInt32).toInt32) &&& (255 : Int32)] A262 O337 F340 F339 (Lat.cons (and255 _) (Lat.cons (and255 _) (Lat.cons (and255 _) (Lat.cons (and255 _) Lat.nil)))) (by simp) (show ¬ (4 : Nat).toInt32 = 0 by decide)) rfl (w_56 G) (w_57 G) (w_2 G) (w_58 G) (by decide) [0, 0] [] (σf := []) rfl rfl [(.ref a244)] [(.ref a335)] rfl (lenOf pd_22 rfl) rfl rfl d_code_266 rfl (by first | exact Nat.le_of_ble_eq_true rfl | (simp; done) | (simp; omega) | omega) (by first | exact Nat.le_of_ble_eq_true rfl | (simp; done) | (simp; omega) | omega) (by first | exact Nat.le_of_ble_eq_true rfl | (simp; done) | (simp; omega) | omega) (by first | exact Nat.le_of_ble_eq_true rfl | (simp; done) | (simp; omega) | omega) ?_
                  rintro _ _ _ T345 ⟨c341, b342, c343, rfl, rfl, rfl, S344⟩ W346
                  replace W346 : Wk l Z EL1 ({ frames := 9, cells := 24, slots := 4288, locals := 192 } : Room) "com/example/grantline/grantline/enforcer/PermissionFromScopeNamePinLaw" code 15 (some .boolean) "law" X [(a244, c261)] [(a335, c341), (b342, c343), (a190, c192), (b191, c193)] T345 5 (32) := W346
                  show Go Z EL1 _ _ _ X T345 269 #[.val (.int sel), .val (.int shape), .val (.int pos), .val (.int chi), .val (.int (1 : Int32)), .val (.ref a190), .val (.ref adC), .val (.int (4 : Int32)), .val (.int jj.toInt32), .val (.int (chi &&& (255 : Int32))), .val (.int (3 : Int32)), .val (.int (((shape.toUInt32 >>> ((2 : Int32) &&& 31).toUInt32).toInt32) &&& (3 : Int32))), .val (.ref a244), .val (.int (1 : Int32)), .val (.ref adC)] [(.ref a335)]
                  refine Go.static (pc' := 272) W346 (rm_fsn G adA adB adC adD adE adF adG adH adI adJ ceA ceB ceC ceD ceE ceF ceG ceH ceI ceJ hzA obA fdA hzB obB arA hzC obC fdB hzD obD fdC hzE slA hzF slB hzG slC hzH hzI hzJ stA stB stC stD a335 b342 c341 c343 [chi &&& (255 : Int32), ((chi.toUInt32 >>> ((8 : Int32) &&& 31).toUInt32).toInt32) &&& (255 : Int32), ((chi.toUInt32 >>> ((16 : Int32) &&& 31).toUInt32).toInt32) &&& (255 : Int32), ((chi.toUInt32 >>> ((24 : Int32) &&& 31).toUInt32).toInt32) &&& (255 : Int32)] S344) (w_25 G) (w_26 G) (w_10 G) (w_27 G) (by decide) [] [0, 1] (σf := [(a244, c261)]) rfl rfl [(.ref a335)] [] rfl (lenOf pd_24 rfl) rfl rfl d_code_269 rfl (by first | exact Nat.le_of_ble_eq_true rfl | (simp; done) | (simp; omega) | omega) (by first | exact Nat.le_of_ble_eq_true rfl | (simp; done) | (simp; omega) | omega) (by first | exact Nat.le_of_ble_eq_true rfl | (simp; done) | (simp; omega) | omega) (by first | exact Nat.le_of_ble_eq_true rfl | (simp; done) | (simp; omega) | omega) ?_
                  rintro _ _ _ T347 ⟨rfl, rfl, rfl⟩ W348
                  replace W348 : Wk l Z EL1 ({ frames := 9, cells := 24, slots := 4288, locals := 192 } : Room) "com/example/grantline/grantline/enforcer/PermissionFromScopeNamePinLaw" code 15 (some .boolean) "law" X [(a244, c261)] [(a335, c341), (b342, c343), (a190, c192), (b191, c193)] T347 6 (35) := W348
                  show Go Z EL1 _ _ _ X T347 272 #[.val (.int sel), .val (.int shape), .val (.int pos), .val (.int chi), .val (.int (1 : Int32)), .val (.ref a190), .val (.ref adC), .val (.int (4 : Int32)), .val (.int jj.toInt32), .val (.int (chi &&& (255 : Int32))), .val (.int (3 : Int32)), .val (.int (((shape.toUInt32 >>> ((2 : Int32) &&& 31).toUInt32).toInt32) &&& (3 : Int32))), .val (.ref a244), .val (.int (1 : Int32)), .val (.ref adC)] [(fsn adA adC adD [chi &&& (255 : Int32), ((chi.toUInt32 >>> ((8 : Int32) &&& 31).toUInt32).toInt32) &&& (255 : Int32), ((chi.toUInt32 >>> ((16 : Int32) &&& 31).toUInt32).toInt32) &&& (255 : Int32), ((chi.toUInt32 >>> ((24 : Int32) &&& 31).toUInt32).toInt32) &&& (255 : Int32)])]
                  refine Go.aload (pc' := 274) W348 d_code_272 rfl rfl rfl ?_
                  refine Go.acmp_ne (pc' := 277) W348 281 (fsn_ref _ _ _ _) rfl d_code_274 (by decide) rfl (fun hq => absurd (purey _ _ _ _ _ _ _ c263 c280 c297 c314) hq) (fun _ => ?_)
                  refine Go.iconst (pc' := 278) W348 (1 : Int32) d_code_277 (by decide) rfl ?_
                  refine Go.goto W348 282 d_code_278 (by decide) ?_
                  refine Go.nret (z' := (1 : Int32)) W348 (by simp) (by decide) d_code_282 (by first | exact Nat.le_of_ble_eq_true rfl | (simp; done) | (simp; omega) | omega) (by first | exact Nat.le_of_ble_eq_true rfl | (simp; done) | (simp; omega) | omega) ?_
                  rfl
        · refine Go.new (pc' := 130) W202 (w_54 G) (w_3 G) (w_2 G) d_code_127 rfl (by first | exact Nat.le_of_ble_eq_true rfl | (simp; done) | (simp; omega) | omega) (by first | exact Nat.le_of_ble_eq_true rfl | (simp; done) | (simp; omega) | omega) (fun T349 a351 c352 W350 O353 D354 => ?_)
          replace W350 : Wk l Z EL1 ({ frames := 9, cells := 24, slots := 4288, locals := 192 } : Room) "com/example/grantline/grantline/enforcer/PermissionFromScopeNamePinLaw" code 15 (some .boolean) "law" X [(a351, c352)] [(a190, c192), (b191, c193)] T349 3 (24) := W350
          have F355 : FldC Z c352 "java/lang/String" "value" "[B" (.null) := D354 (Or.inr (w_5 G)) (ty := (.array .byte)) (by decide)
          have F356 : FldC Z c352 "java/lang/String" "coder" "B" (.int (0 : Int32)) := D354 (Or.inr (w_6 G)) (ty := .byte) (by decide)
          refine Go.dup (pc' := 131) W350 d_code_130 rfl rfl ?_
          refine Go.iconst (pc' := 132) W350 (0 : Int32) d_code_131 (by decide) rfl ?_
          refine Go.newarr (pc' := 134) W350 .char rfl 0 (w_55 G) d_code_132 rfl (by decide) (by decide) (by decide) (by first | exact Nat.le_of_ble_eq_true rfl | (simp; done) | (simp; omega) | omega) (by first | exact Nat.le_of_ble_eq_true rfl | (simp; done) | (simp; omega) | omega) (fun T357 a359 c360 W358 A361 => ?_)
          replace W358 : Wk l Z EL1 ({ frames := 9, cells := 24, slots := 4288, locals := 192 } : Room) "com/example/grantline/grantline/enforcer/PermissionFromScopeNamePinLaw" code 15 (some .boolean) "law" X [(a359, c360), (a351, c352)] [(a190, c192), (b191, c193)] T357 4 (24) := W358
          replace A361 : ArrC Z c360 .char [] := A361
          refine Go.special (pc' := 137) W358 (a := a351) (rm_initC0 G a351 a359 c352 c360 A361 O353 F356 F355) rfl (w_56 G) (w_57 G) (w_2 G) (w_58 G) (by decide) [1, 0] [] (σf := []) rfl rfl [(.ref a359)] [(.ref a351)] rfl (lenOf pd_22 rfl) rfl rfl d_code_134 rfl (by first | exact Nat.le_of_ble_eq_true rfl | (simp; done) | (simp; omega) | omega) (by first | exact Nat.le_of_ble_eq_true rfl | (simp; done) | (simp; omega) | omega) (by first | exact Nat.le_of_ble_eq_true rfl | (simp; done) | (simp; omega) | omega) (by first | exact Nat.le_of_ble_eq_true rfl | (simp; done) | (simp; omega) | omega) ?_
          rintro _ _ _ T366 ⟨c362, b363, c364, rfl, rfl, rfl, S365⟩ W367
          replace W367 : Wk l Z EL1 ({ frames := 9, cells := 24, slots := 4288, locals := 192 } : Room) "com/example/grantline/grantline/enforcer/PermissionFromScopeNamePinLaw" code 15 (some .boolean) "law" X [(a359, c360)] [(a351, c362), (b363, c364), (a190, c192), (b191, c193)] T366 8 (32) := W367
          show Go Z EL1 _ _ _ X T366 137 #[.val (.int sel), .val (.int shape), .val (.int pos), .val (.int chi), .val (.int (1 : Int32)), .val (.ref a190), .val (.ref adC), .val (.int (4 : Int32)), .val (.int jj.toInt32), .val (.int (chi &&& (255 : Int32))), .val (.int (3 : Int32)), .val (.int (((shape.toUInt32 >>> ((2 : Int32) &&& 31).toUInt32).toInt32) &&& (3 : Int32))), .unset, .unset, .unset] [(.ref a351)]
          refine Go.static (pc' := 140) W367 (rm_fsn G adA adB adC adD adE adF adG adH adI adJ ceA ceB ceC ceD ceE ceF ceG ceH ceI ceJ hzA obA fdA hzB obB arA hzC obC fdB hzD obD fdC hzE slA hzF slB hzG slC hzH hzI hzJ stA stB stC stD a351 b363 c362 c364 [] S365) (w_25 G) (w_26 G) (w_10 G) (w_27 G) (by decide) [] [0, 1] (σf := [(a359, c360)]) rfl rfl [(.ref a351)] [] rfl (lenOf pd_24 rfl) rfl rfl d_code_137 rfl (by first | exact Nat.le_of_ble_eq_true rfl | (simp; done) | (simp; omega) | omega) (by first | exact Nat.le_of_ble_eq_true rfl | (simp; done) | (simp; omega) | omega) (by first | exact Nat.le_of_ble_eq_true rfl | (simp; done) | (simp; omega) | omega) (by first | exact Nat.le_of_ble_eq_true rfl | (simp; done) | (simp; omega) | omega) ?_
          rintro _ _ _ T368 ⟨rfl, rfl, rfl⟩ W369
          replace W369 : Wk l Z EL1 ({ frames := 9, cells := 24, slots := 4288, locals := 192 } : Room) "com/example/grantline/grantline/enforcer/PermissionFromScopeNamePinLaw" code 15 (some .boolean) "law" X [(a359, c360)] [(a351, c362), (b363, c364), (a190, c192), (b191, c193)] T368 9 (35) := W369
          show Go Z EL1 _ _ _ X T368 140 #[.val (.int sel), .val (.int shape), .val (.int pos), .val (.int chi), .val (.int (1 : Int32)), .val (.ref a190), .val (.ref adC), .val (.int (4 : Int32)), .val (.int jj.toInt32), .val (.int (chi &&& (255 : Int32))), .val (.int (3 : Int32)), .val (.int (((shape.toUInt32 >>> ((2 : Int32) &&& 31).toUInt32).toInt32) &&& (3 : Int32))), .unset, .unset, .unset] [(fsn adA adC adD [])]
          rw [show fsn adA adC adD [] = .null from by simp [fsn]]
          refine Go.ifnonnull_no (pc' := 143) W369 d_code_140 rfl ?_
          refine Go.iconst (pc' := 144) W369 (1 : Int32) d_code_143 (by decide) rfl ?_
          refine Go.goto W369 148 d_code_144 (by decide) ?_
          refine Go.nret (z' := (1 : Int32)) W369 (by simp) (by decide) d_code_148 (by first | exact Nat.le_of_ble_eq_true rfl | (simp; done) | (simp; omega) | omega) (by first | exact Nat.le_of_ble_eq_true rfl | (simp; done) | (simp; omega) | omega) ?_
          rfl
      · refine Go.aconstNull (pc' := 109) W202 d_code_108 rfl ?_
        refine Go.static (pc' := 112) W202 (rm_fsnN G adA adB adC adD adE adF adG adH adI adJ ceA ceB ceC ceD ceE ceF ceG ceH ceI ceJ hzA obA fdA hzB obB arA hzC obC fdB hzD obD fdC hzE slA hzF slB hzG slC hzH hzI hzJ stA stB stC stD) (w_25 G) (w_26 G) (w_10 G) (w_27 G) (by decide) [] [] (σf := []) rfl rfl [(.null)] [] rfl (lenOf pd_24 rfl) rfl rfl d_code_109 rfl (by first | exact Nat.le_of_ble_eq_true rfl | (simp; done) | (simp; omega) | omega) (by first | exact Nat.le_of_ble_eq_true rfl | (simp; done) | (simp; omega) | omega) (by first | exact Nat.le_of_ble_eq_true rfl | (simp; done) | (simp; omega) | omega) (by first | exact Nat.le_of_ble_eq_true rfl | (simp; done) | (simp; omega) | omega) ?_
        rintro _ _ _ T370 ⟨rfl, rfl, rfl⟩ W371
        replace W371 : Wk l Z EL1 ({ frames := 9, cells := 24, slots := 4288, locals := 192 } : Room) "com/example/grantline/grantline/enforcer/PermissionFromScopeNamePinLaw" code 15 (some .boolean) "law" X [] [(a190, c192), (b191, c193)] T370 3 (23) := W371
        show Go Z EL1 _ _ _ X T370 112 #[.val (.int sel), .val (.int shape), .val (.int pos), .val (.int chi), .val (.int (1 : Int32)), .val (.ref a190), .val (.ref adC), .val (.int (4 : Int32)), .val (.int jj.toInt32), .val (.int (chi &&& (255 : Int32))), .val (.int (3 : Int32)), .val (.int (((shape.toUInt32 >>> ((2 : Int32) &&& 31).toUInt32).toInt32) &&& (3 : Int32))), .unset, .unset, .unset] [(.null)]
        refine Go.ifnonnull_no (pc' := 115) W371 d_code_112 rfl ?_
        refine Go.iconst (pc' := 116) W371 (1 : Int32) d_code_115 (by decide) rfl ?_
        refine Go.goto W371 120 d_code_116 (by decide) ?_
        refine Go.nret (z' := (1 : Int32)) W371 (by simp) (by decide) d_code_120 (by first | exact Nat.le_of_ble_eq_true rfl | (simp; done) | (simp; omega) | omega) (by first | exact Nat.le_of_ble_eq_true rfl | (simp; done) | (simp; omega) | omega) ?_
        rfl
  · refine Go.istore (pc' := 8) W0 #[.val (.int sel), .val (.int shape), .val (.int pos), .val (.int chi), .val (.int (2 : Int32)), .unset, .unset, .unset, .unset, .unset, .unset, .unset, .unset, .unset, .unset] d_code_6 rfl rfl ?_
    refine Go.iload (pc' := 10) W0 d_code_8 rfl rfl ?_
    refine Go.if_ne (pc' := 13) W0 18 d_code_10 (by decide) rfl (fun _ => ?_) (fun q => absurd q (by decide))
    refine Go.iload (pc' := 20) W0 d_code_18 rfl rfl ?_
    refine Go.iconst (pc' := 21) W0 (1 : Int32) d_code_20 (by decide) rfl ?_
    refine Go.icmp_ne (pc' := 24) W0 29 d_code_21 (by decide) rfl (fun _ => ?_) (fun q => absurd q (by decide))
    refine Go.ldcStr (pc' := 31) W0 G.2.1 (w_113 G) (strAtoms G) (by decide) (bs := [(.int (119 : Int32)), (.int (114 : Int32)), (.int (105 : Int32)), (.int (116 : Int32)), (.int (101 : Int32))]) (z := 5) (by decide +kernel) (by decide) (by decide) (by decide) d_code_29 rfl (m := 20) (by decide +kernel) (by decide) (by first | exact Nat.le_of_ble_eq_true rfl | (simp; done) | (simp; omega) | omega) (by first | exact Nat.le_of_ble_eq_true rfl | (simp; done) | (simp; omega) | omega) (fun T372 a374 b375 c376 c377 W373 O378 F379 F380 A381 => ?_)
    replace W373 : Wk l Z EL1 ({ frames := 9, cells := 24, slots := 4288, locals := 192 } : Room) "com/example/grantline/grantline/enforcer/PermissionFromScopeNamePinLaw" code 15 (some .boolean) "law" X [] [(a374, c376), (b375, c377)] T372 2 (24) := W373
    have S382 : StrL Z c376 b375 c377 [(119 : Int32), (114 : Int32), (105 : Int32), (116 : Int32), (101 : Int32)] := ⟨O378, F379, F380, (by rw [show latB [(119 : Int32), (114 : Int32), (105 : Int32), (116 : Int32), (101 : Int32)] = [(.int (119 : Int32)), (.int (114 : Int32)), (.int (105 : Int32)), (.int (116 : Int32)), (.int (101 : Int32))] from by decide +kernel]; exact A381), (by decide +kernel : ∀ x ∈ ([(119 : Int32), (114 : Int32), (105 : Int32), (116 : Int32), (101 : Int32)] : List Int32), ¬ x < 0 ∧ ¬ (255 : Int32) < x)⟩
    refine Go.astore (pc' := 33) W373 #[.val (.int sel), .val (.int shape), .val (.int pos), .val (.int chi), .val (.int (2 : Int32)), .val (.ref a374), .unset, .unset, .unset, .unset, .unset, .unset, .unset, .unset, .unset] d_code_31 rfl rfl rfl ?_
    refine Go.iload (pc' := 35) W373 d_code_33 rfl rfl ?_
    refine Go.if_ne (pc' := 38) W373 44 d_code_35 (by decide) rfl (fun _ => ?_) (fun q => absurd q (by decide))
    refine Go.iload (pc' := 46) W373 d_code_44 rfl rfl ?_
    refine Go.iconst (pc' := 47) W373 (1 : Int32) d_code_46 (by decide) rfl ?_
    refine Go.icmp_ne (pc' := 50) W373 56 d_code_47 (by decide) rfl (fun _ => ?_) (fun q => absurd q (by decide))
    refine Go.getstatic (pc' := 59) W373 (w_114 G) Via.refl stD d_code_56 rfl (fun T383 W384 => ?_)
    refine Go.astore (pc' := 61) W384 #[.val (.int sel), .val (.int shape), .val (.int pos), .val (.int chi), .val (.int (2 : Int32)), .val (.ref a374), .val (.ref adD), .unset, .unset, .unset, .unset, .unset, .unset, .unset, .unset] d_code_59 rfl rfl rfl ?_
    refine Go.aload (pc' := 63) W384 d_code_61 rfl rfl rfl ?_
    refine Go.virtual (pc' := 66) W384 (rm_len G a374 b375 c376 c377 [(119 : Int32), (114 : Int32), (105 : Int32), (116 : Int32), (101 : Int32)] S382) (Or.inr (Or.inl (List.mem_of_getElem? (i := 0) rfl))) O378 (w_12 G) (w_13 G) (w_15 G) (w_14 G) (w_2 G) (w_16 G) (by decide) [] [0, 1] (σf := []) rfl rfl [] [] rfl (lenOf pd_19 rfl) rfl rfl d_code_63 rfl (by first | exact Nat.le_of_ble_eq_true rfl | (simp; done) | (simp; omega) | omega) (by first | exact Nat.le_of_ble_eq_true rfl | (simp; done) | (simp; omega) | omega) (by first | exact Nat.le_of_ble_eq_true rfl | (simp; done) | (simp; omega) | omega) (by first | exact Nat.le_of_ble_eq_true rfl | (simp; done) | (simp; omega) | omega) ?_
    rintro _ _ _ T385 ⟨rfl, rfl, rfl⟩ W386
    replace W386 : Wk l Z EL1 ({ frames := 9, cells := 24, slots := 4288, locals := 192 } : Room) "com/example/grantline/grantline/enforcer/PermissionFromScopeNamePinLaw" code 15 (some .boolean) "law" X [] [(a374, c376), (b375, c377)] T385 2 (24) := W386
    show Go Z EL1 _ _ _ X T385 66 #[.val (.int sel), .val (.int shape), .val (.int pos), .val (.int chi), .val (.int (2 : Int32)), .val (.ref a374), .val (.ref adD), .unset, .unset, .unset, .unset, .unset, .unset, .unset, .unset] [(.int (5 : Int32))]
    refine Go.istore (pc' := 68) W386 #[.val (.int sel), .val (.int shape), .val (.int pos), .val (.int chi), .val (.int (2 : Int32)), .val (.ref a374), .val (.ref adD), .val (.int (5 : Int32)), .unset, .unset, .unset, .unset, .unset, .unset, .unset] d_code_66 rfl rfl ?_
    refine Go.iloadN (pc' := 69) W386 d_code_68 rfl rfl ?_
    refine Go.ldcInt (pc' := 71) W386 (w_0 G) d_code_69 rfl ?_
    refine Go.iand (pc' := 72) W386 d_code_71 rfl ?_
    refine Go.iload (pc' := 74) W386 d_code_72 rfl rfl ?_
    refine Go.irem (pc' := 75) W386 d_code_74 (by decide) rfl ?_
    obtain ⟨jj, hjj, ejj⟩ := pj5 pos
    rw [ejj]
    refine Go.istore (pc' := 77) W386 #[.val (.int sel), .val (.int shape), .val (.int pos), .val (.int chi), .val (.int (2 : Int32)), .val (.ref a374), .val (.ref adD), .val (.int (5 : Int32)), .val (.int jj.toInt32), .unset, .unset, .unset, .unset, .unset, .unset] d_code_75 rfl rfl ?_
    refine Go.iloadN (pc' := 78) W386 d_code_77 rfl rfl ?_
    refine Go.sipush (pc' := 81) W386 (255 : Int32) d_code_78 (by decide) rfl ?_
    refine Go.iand (pc' := 82) W386 d_code_81 rfl ?_
    refine Go.i2c (pc' := 83) W386 d_code_82 rfl ?_
    rw [i2c_id (lat_char (and255 _)).1 (lat_char (and255 _)).2]
    refine Go.istore (pc' := 85) W386 #[.val (.int sel), .val (.int shape), .val (.int pos), .val (.int chi), .val (.int (2 : Int32)), .val (.ref a374), .val (.ref adD), .val (.int (5 : Int32)), .val (.int jj.toInt32), .val (.int (chi &&& (255 : Int32))), .unset, .unset, .unset, .unset, .unset] d_code_83 rfl rfl ?_
    refine Go.iloadN (pc' := 86) W386 d_code_85 rfl rfl ?_
    refine Go.iconst (pc' := 87) W386 (3 : Int32) d_code_86 (by decide) rfl ?_
    refine Go.iand (pc' := 88) W386 d_code_87 rfl ?_
    generalize e388 : shape &&& (3 : Int32) = n387
    have h389 : n387 = (0 : Int32) ∨ n387 = (1 : Int32) ∨ n387 = (2 : Int32) ∨ n387 = (3 : Int32) := by rw [← e388]; exact and3 shape
    rcases h389 with rfl | rfl | rfl | rfl
    · refine Go.istore (pc' := 90) W386 #[.val (.int sel), .val (.int shape), .val (.int pos), .val (.int chi), .val (.int (2 : Int32)), .val (.ref a374), .val (.ref adD), .val (.int (5 : Int32)), .val (.int jj.toInt32), .val (.int (chi &&& (255 : Int32))), .val (.int (0 : Int32)), .unset, .unset, .unset, .unset] d_code_88 rfl rfl ?_
      refine Go.iload (pc' := 92) W386 d_code_90 rfl rfl ?_
      refine Go.iconst (pc' := 93) W386 (3 : Int32) d_code_92 (by decide) rfl ?_
      refine Go.icmp_ne (pc' := 96) W386 283 d_code_93 (by decide) rfl (fun _ => ?_) (fun q => absurd q (by decide))
      refine Go.iload (pc' := 285) W386 d_code_283 rfl rfl ?_
      refine Go.if_ne (pc' := 288) W386 293 d_code_285 (by decide) rfl (fun q => absurd (by decide) q) (fun _ => ?_)
      refine Go.iload (pc' := 290) W386 d_code_288 rfl rfl ?_
      refine Go.goto W386 310 d_code_290 (by decide) ?_
      refine Go.istore (pc' := 312) W386 #[.val (.int sel), .val (.int shape), .val (.int pos), .val (.int chi), .val (.int (2 : Int32)), .val (.ref a374), .val (.ref adD), .val (.int (5 : Int32)), .val (.int jj.toInt32), .val (.int (chi &&& (255 : Int32))), .val (.int (0 : Int32)), .val (.int (5 : Int32)), .unset, .unset, .unset] d_code_310 rfl rfl ?_
      refine Go.aload (pc' := 314) W386 d_code_312 rfl rfl rfl ?_
      refine Go.iload (pc' := 316) W386 d_code_314 rfl rfl ?_
      refine Go.iload (pc' := 318) W386 d_code_316 rfl rfl ?_
      refine Go.iload (pc' := 320) W386 d_code_318 rfl rfl ?_
      refine Go.iload (pc' := 322) W386 d_code_320 rfl rfl ?_
      refine Go.static (pc' := 325) W386 (rm_build_writez G a374 b375 c376 c377 S382 jj hjj (chi &&& (255 : Int32)) (and255 _)) (w_72 G) (w_73 G) (w_74 G) (w_75 G) (by decide) [] [0, 1] (σf := []) rfl rfl [(.ref a374), (.int (5 : Int32)), (.int (0 : Int32)), (.int jj.toInt32), (.int (chi &&& (255 : Int32)))] [] rfl (lenOf pd_23 rfl) rfl rfl d_code_322 rfl (by first | exact Nat.le_of_ble_eq_true rfl | (simp; done) | (simp; omega) | omega) (by first | exact Nat.le_of_ble_eq_true rfl | (simp; done) | (simp; omega) | omega) (by first | exact Nat.le_of_ble_eq_true rfl | (simp; done) | (simp; omega) | omega) (by first | exact Nat.le_of_ble_eq_true rfl | (simp; done) | (simp; omega) | omega) ?_
      rintro _ _ _ T395 ⟨a390, c391, b392, c393, rfl, rfl, rfl, S394⟩ W396
      replace W396 : Wk l Z EL1 ({ frames := 9, cells := 24, slots := 4288, locals := 192 } : Room) "com/example/grantline/grantline/enforcer/PermissionFromScopeNamePinLaw" code 15 (some .boolean) "law" X [] [(a390, c391), (b392, c393), (a374, c376), (b375, c377)] T395 5 (38) := W396
      show Go Z EL1 _ _ _ X T395 325 #[.val (.int sel), .val (.int shape), .val (.int pos), .val (.int chi), .val (.int (2 : Int32)), .val (.ref a374), .val (.ref adD), .val (.int (5 : Int32)), .val (.int jj.toInt32), .val (.int (chi &&& (255 : Int32))), .val (.int (0 : Int32)), .val (.int (5 : Int32)), .unset, .unset, .unset] [(.ref a390)]
      refine Go.astore (pc' := 327) W396 #[.val (.int sel), .val (.int shape), .val (.int pos), .val (.int chi), .val (.int (2 : Int32)), .val (.ref a374), .val (.ref adD), .val (.int (5 : Int32)), .val (.int jj.toInt32), .val (.int (chi &&& (255 : Int32))), .val (.int (0 : Int32)), .val (.int (5 : Int32)), .val (.ref a390), .unset, .unset] d_code_325 rfl rfl rfl ?_
      refine Go.iload (pc' := 329) W396 d_code_327 rfl rfl ?_
      refine Go.if_ne (pc' := 332) W396 349 d_code_329 (by decide) rfl (fun q => absurd (by decide) q) (fun _ => ?_)
      refine Go.iload (pc' := 334) W396 d_code_332 rfl rfl ?_
      refine Go.aload (pc' := 336) W396 d_code_334 rfl rfl rfl ?_
      refine Go.iload (pc' := 338) W396 d_code_336 rfl rfl ?_
      obtain ⟨x397, h398⟩ : ∃ x, ([(119 : Int32), (114 : Int32), (105 : Int32), (116 : Int32), (101 : Int32)] : List Int32)[jj]? = some x := ⟨_, List.getElem?_eq_getElem hjj⟩
      refine Go.virtual (pc' := 341) W396 (rm_cha G a374 b375 c376 c377 [(119 : Int32), (114 : Int32), (105 : Int32), (116 : Int32), (101 : Int32)] S382 jj x397 h398) (Or.inr (Or.inl (List.mem_of_getElem? (i := 2) rfl))) O378 (w_82 G) (w_83 G) (w_85 G) (w_84 G) (w_2 G) (w_86 G) (by decide) [] [2, 3] (σf := []) rfl rfl [(.int jj.toInt32)] [(.int (chi &&& (255 : Int32)))] rfl (lenOf pd_18 rfl) rfl rfl d_code_338 rfl (by first | exact Nat.le_of_ble_eq_true rfl | (simp; done) | (simp; omega) | omega) (by first | exact Nat.le_of_ble_eq_true rfl | (simp; done) | (simp; omega) | omega) (by first | exact Nat.le_of_ble_eq_true rfl | (simp; done) | (simp; omega) | omega) (by first | exact Nat.le_of_ble_eq_true rfl | (simp; done) | (simp; omega) | omega) ?_
      rintro _ _ _ T399 ⟨rfl, rfl, rfl⟩ W400
      replace W400 : Wk l Z EL1 ({ frames := 9, cells := 24, slots := 4288, locals := 192 } : Room) "com/example/grantline/grantline/enforcer/PermissionFromScopeNamePinLaw" code 15 (some .boolean) "law" X [] [(a390, c391), (b392, c393), (a374, c376), (b375, c377)] T399 5 (38) := W400
      show Go Z EL1 _ _ _ X T399 341 #[.val (.int sel), .val (.int shape), .val (.int pos), .val (.int chi), .val (.int (2 : Int32)), .val (.ref a374), .val (.ref adD), .val (.int (5 : Int32)), .val (.int jj.toInt32), .val (.int (chi &&& (255 : Int32))), .val (.int (0 : Int32)), .val (.int (5 : Int32)), .val (.ref a390), .unset, .unset] [(.int x397), (.int (chi &&& (255 : Int32)))]
      refine Go.icmp_ne (pc' := 344) W400 349 d_code_341 (by decide) rfl (fun (c401 : ¬ ((chi &&& (255 : Int32)) = x397)) => ?_) (fun (c401 : (chi &&& (255 : Int32)) = x397) => ?_)
      · refine Go.aconstNull (pc' := 350) W400 d_code_349 rfl ?_
        refine Go.astore (pc' := 352) W400 #[.val (.int sel), .val (.int shape), .val (.int pos), .val (.int chi), .val (.int (2 : Int32)), .val (.ref a374), .val (.ref adD), .val (.int (5 : Int32)), .val (.int jj.toInt32), .val (.int (chi &&& (255 : Int32))), .val (.int (0 : Int32)), .val (.int (5 : Int32)), .val (.ref a390), .val (.null), .unset] d_code_350 rfl rfl rfl ?_
        refine Go.aload (pc' := 354) W400 d_code_352 rfl rfl rfl ?_
        refine Go.static (pc' := 357) W400 (rm_fsn G adA adB adC adD adE adF adG adH adI adJ ceA ceB ceC ceD ceE ceF ceG ceH ceI ceJ hzA obA fdA hzB obB arA hzC obC fdB hzD obD fdC hzE slA hzF slB hzG slC hzH hzI hzJ stA stB stC stD a390 b392 c391 c393 [if 0 = jj then (chi &&& (255 : Int32)) else (119 : Int32), if 1 = jj then (chi &&& (255 : Int32)) else (114 : Int32), if 2 = jj then (chi &&& (255 : Int32)) else (105 : Int32), if 3 = jj then (chi &&& (255 : Int32)) else (116 : Int32), if 4 = jj then (chi &&& (255 : Int32)) else (101 : Int32)] S394) (w_25 G) (w_26 G) (w_10 G) (w_27 G) (by decide) [] [0, 1] (σf := []) rfl rfl [(.ref a390)] [] rfl (lenOf pd_24 rfl) rfl rfl d_code_354 rfl (by first | exact Nat.le_of_ble_eq_true rfl | (simp; done) | (simp; omega) | omega) (by first | exact Nat.le_of_ble_eq_true rfl | (simp; done) | (simp; omega) | omega) (by first | exact Nat.le_of_ble_eq_true rfl | (simp; done) | (simp; omega) | omega) (by first | exact Nat.le_of_ble_eq_true rfl | (simp; done) | (simp; omega) | omega) ?_
        rintro _ _ _ T402 ⟨rfl, rfl, rfl⟩ W403
        replace W403 : Wk l Z EL1 ({ frames := 9, cells := 24, slots := 4288, locals := 192 } : Room) "com/example/grantline/grantline/enforcer/PermissionFromScopeNamePinLaw" code 15 (some .boolean) "law" X [] [(a390, c391), (b392, c393), (a374, c376), (b375, c377)] T402 6 (41) := W403
        show Go Z EL1 _ _ _ X T402 357 #[.val (.int sel), .val (.int shape), .val (.int pos), .val (.int chi), .val (.int (2 : Int32)), .val (.ref a374), .val (.ref adD), .val (.int (5 : Int32)), .val (.int jj.toInt32), .val (.int (chi &&& (255 : Int32))), .val (.int (0 : Int32)), .val (.int (5 : Int32)), .val (.ref a390), .val (.null), .unset] [(fsn adA adC adD [if 0 = jj then (chi &&& (255 : Int32)) else (119 : Int32), if 1 = jj then (chi &&& (255 : Int32)) else (114 : Int32), if 2 = jj then (chi &&& (255 : Int32)) else (105 : Int32), if 3 = jj then (chi &&& (255 : Int32)) else (116 : Int32), if 4 = jj then (chi &&& (255 : Int32)) else (101 : Int32)])]
        refine Go.aload (pc' := 359) W403 d_code_357 rfl rfl rfl ?_
        refine Go.acmp_ne (pc' := 362) W403 366 (fsn_ref _ _ _ _) rfl d_code_359 (by decide) rfl (fun hq => absurd ((pure0_write adA adC adD jj hjj _ _ h398).2 c401) hq) (fun _ => ?_)
        refine Go.iconst (pc' := 363) W403 (1 : Int32) d_code_362 (by decide) rfl ?_
        refine Go.goto W403 367 d_code_363 (by decide) ?_
        refine Go.nret (z' := (1 : Int32)) W403 (by simp) (by decide) d_code_367 (by first | exact Nat.le_of_ble_eq_true rfl | (simp; done) | (simp; omega) | omega) (by first | exact Nat.le_of_ble_eq_true rfl | (simp; done) | (simp; omega) | omega) ?_
        rfl
      · refine Go.aload (pc' := 346) W400 d_code_344 rfl rfl rfl ?_
        refine Go.goto W400 350 d_code_346 (by decide) ?_
        refine Go.astore (pc' := 352) W400 #[.val (.int sel), .val (.int shape), .val (.int pos), .val (.int chi), .val (.int (2 : Int32)), .val (.ref a374), .val (.ref adD), .val (.int (5 : Int32)), .val (.int jj.toInt32), .val (.int (chi &&& (255 : Int32))), .val (.int (0 : Int32)), .val (.int (5 : Int32)), .val (.ref a390), .val (.ref adD), .unset] d_code_350 rfl rfl rfl ?_
        refine Go.aload (pc' := 354) W400 d_code_352 rfl rfl rfl ?_
        refine Go.static (pc' := 357) W400 (rm_fsn G adA adB adC adD adE adF adG adH adI adJ ceA ceB ceC ceD ceE ceF ceG ceH ceI ceJ hzA obA fdA hzB obB arA hzC obC fdB hzD obD fdC hzE slA hzF slB hzG slC hzH hzI hzJ stA stB stC stD a390 b392 c391 c393 [if 0 = jj then (chi &&& (255 : Int32)) else (119 : Int32), if 1 = jj then (chi &&& (255 : Int32)) else (114 : Int32), if 2 = jj then (chi &&& (255 : Int32)) else (105 : Int32), if 3 = jj then (chi &&& (255 : Int32)) else (116 : Int32), if 4 = jj then (chi &&& (255 : Int32)) else (101 : Int32)] S394) (w_25 G) (w_26 G) (w_10 G) (w_27 G) (by decide) [] [0, 1] (σf := []) rfl rfl [(.ref a390)] [] rfl (lenOf pd_24 rfl) rfl rfl d_code_354 rfl (by first | exact Nat.le_of_ble_eq_true rfl | (simp; done) | (simp; omega) | omega) (by first | exact Nat.le_of_ble_eq_true rfl | (simp; done) | (simp; omega) | omega) (by first | exact Nat.le_of_ble_eq_true rfl | (simp; done) | (simp; omega) | omega) (by first | exact Nat.le_of_ble_eq_true rfl | (simp; done) | (simp; omega) | omega) ?_
        rintro _ _ _ T404 ⟨rfl, rfl, rfl⟩ W405
        replace W405 : Wk l Z EL1 ({ frames := 9, cells := 24, slots := 4288, locals := 192 } : Room) "com/example/grantline/grantline/enforcer/PermissionFromScopeNamePinLaw" code 15 (some .boolean) "law" X [] [(a390, c391), (b392, c393), (a374, c376), (b375, c377)] T404 6 (41) := W405
        show Go Z EL1 _ _ _ X T404 357 #[.val (.int sel), .val (.int shape), .val (.int pos), .val (.int chi), .val (.int (2 : Int32)), .val (.ref a374), .val (.ref adD), .val (.int (5 : Int32)), .val (.int jj.toInt32), .val (.int (chi &&& (255 : Int32))), .val (.int (0 : Int32)), .val (.int (5 : Int32)), .val (.ref a390), .val (.ref adD), .unset] [(fsn adA adC adD [if 0 = jj then (chi &&& (255 : Int32)) else (119 : Int32), if 1 = jj then (chi &&& (255 : Int32)) else (114 : Int32), if 2 = jj then (chi &&& (255 : Int32)) else (105 : Int32), if 3 = jj then (chi &&& (255 : Int32)) else (116 : Int32), if 4 = jj then (chi &&& (255 : Int32)) else (101 : Int32)])]
        refine Go.aload (pc' := 359) W405 d_code_357 rfl rfl rfl ?_
        refine Go.acmp_ne (pc' := 362) W405 366 (fsn_ref _ _ _ _) rfl d_code_359 (by decide) rfl (fun hq => absurd ((pure0_write adA adC adD jj hjj _ _ h398).1 c401) hq) (fun _ => ?_)
        refine Go.iconst (pc' := 363) W405 (1 : Int32) d_code_362 (by decide) rfl ?_
        refine Go.goto W405 367 d_code_363 (by decide) ?_
        refine Go.nret (z' := (1 : Int32)) W405 (by simp) (by decide) d_code_367 (by first | exact Nat.le_of_ble_eq_true rfl | (simp; done) | (simp; omega) | omega) (by first | exact Nat.le_of_ble_eq_true rfl | (simp; done) | (simp; omega) | omega) ?_
        rfl
    · refine Go.istore (pc' := 90) W386 #[.val (.int sel), .val (.int shape), .val (.int pos), .val (.int chi), .val (.int (2 : Int32)), .val (.ref a374), .val (.ref adD), .val (.int (5 : Int32)), .val (.int jj.toInt32), .val (.int (chi &&& (255 : Int32))), .val (.int (1 : Int32)), .unset, .unset, .unset, .unset] d_code_88 rfl rfl ?_
      refine Go.iload (pc' := 92) W386 d_code_90 rfl rfl ?_
      refine Go.iconst (pc' := 93) W386 (3 : Int32) d_code_92 (by decide) rfl ?_
      refine Go.icmp_ne (pc' := 96) W386 283 d_code_93 (by decide) rfl (fun _ => ?_) (fun q => absurd q (by decide))
      refine Go.iload (pc' := 285) W386 d_code_283 rfl rfl ?_
      refine Go.if_ne (pc' := 288) W386 293 d_code_285 (by decide) rfl (fun _ => ?_) (fun q => absurd q (by decide))
      refine Go.iload (pc' := 295) W386 d_code_293 rfl rfl ?_
      refine Go.iconst (pc' := 296) W386 (1 : Int32) d_code_295 (by decide) rfl ?_
      refine Go.icmp_ne (pc' := 299) W386 306 d_code_296 (by decide) rfl (fun q => absurd (by decide) q) (fun _ => ?_)
      refine Go.iload (pc' := 301) W386 d_code_299 rfl rfl ?_
      refine Go.iconst (pc' := 302) W386 (1 : Int32) d_code_301 (by decide) rfl ?_
      refine Go.iadd (pc' := 303) W386 d_code_302 rfl ?_
      rw [show ((5 : Int32) + (1 : Int32) : Int32) = (6 : Int32) from by decide]
      refine Go.goto W386 310 d_code_303 (by decide) ?_
      refine Go.istore (pc' := 312) W386 #[.val (.int sel), .val (.int shape), .val (.int pos), .val (.int chi), .val (.int (2 : Int32)), .val (.ref a374), .val (.ref adD), .val (.int (5 : Int32)), .val (.int jj.toInt32), .val (.int (chi &&& (255 : Int32))), .val (.int (1 : Int32)), .val (.int (6 : Int32)), .unset, .unset, .unset] d_code_310 rfl rfl ?_
      refine Go.aload (pc' := 314) W386 d_code_312 rfl rfl rfl ?_
      refine Go.iload (pc' := 316) W386 d_code_314 rfl rfl ?_
      refine Go.iload (pc' := 318) W386 d_code_316 rfl rfl ?_
      refine Go.iload (pc' := 320) W386 d_code_318 rfl rfl ?_
      refine Go.iload (pc' := 322) W386 d_code_320 rfl rfl ?_
      refine Go.static (pc' := 325) W386 (rm_build_writeo G a374 b375 c376 c377 S382 jj hjj (chi &&& (255 : Int32)) (and255 _)) (w_72 G) (w_73 G) (w_74 G) (w_75 G) (by decide) [] [0, 1] (σf := []) rfl rfl [(.ref a374), (.int (6 : Int32)), (.int (1 : Int32)), (.int jj.toInt32), (.int (chi &&& (255 : Int32)))] [] rfl (lenOf pd_23 rfl) rfl rfl d_code_322 rfl (by first | exact Nat.le_of_ble_eq_true rfl | (simp; done) | (simp; omega) | omega) (by first | exact Nat.le_of_ble_eq_true rfl | (simp; done) | (simp; omega) | omega) (by first | exact Nat.le_of_ble_eq_true rfl | (simp; done) | (simp; omega) | omega) (by first | exact Nat.le_of_ble_eq_true rfl | (simp; done) | (simp; omega) | omega) ?_
      rintro _ _ _ T411 ⟨a406, c407, b408, c409, rfl, rfl, rfl, S410⟩ W412
      replace W412 : Wk l Z EL1 ({ frames := 9, cells := 24, slots := 4288, locals := 192 } : Room) "com/example/grantline/grantline/enforcer/PermissionFromScopeNamePinLaw" code 15 (some .boolean) "law" X [] [(a406, c407), (b408, c409), (a374, c376), (b375, c377)] T411 5 (40) := W412
      show Go Z EL1 _ _ _ X T411 325 #[.val (.int sel), .val (.int shape), .val (.int pos), .val (.int chi), .val (.int (2 : Int32)), .val (.ref a374), .val (.ref adD), .val (.int (5 : Int32)), .val (.int jj.toInt32), .val (.int (chi &&& (255 : Int32))), .val (.int (1 : Int32)), .val (.int (6 : Int32)), .unset, .unset, .unset] [(.ref a406)]
      refine Go.astore (pc' := 327) W412 #[.val (.int sel), .val (.int shape), .val (.int pos), .val (.int chi), .val (.int (2 : Int32)), .val (.ref a374), .val (.ref adD), .val (.int (5 : Int32)), .val (.int jj.toInt32), .val (.int (chi &&& (255 : Int32))), .val (.int (1 : Int32)), .val (.int (6 : Int32)), .val (.ref a406), .unset, .unset] d_code_325 rfl rfl rfl ?_
      refine Go.iload (pc' := 329) W412 d_code_327 rfl rfl ?_
      refine Go.if_ne (pc' := 332) W412 349 d_code_329 (by decide) rfl (fun _ => ?_) (fun q => absurd q (by decide))
      refine Go.aconstNull (pc' := 350) W412 d_code_349 rfl ?_
      refine Go.astore (pc' := 352) W412 #[.val (.int sel), .val (.int shape), .val (.int pos), .val (.int chi), .val (.int (2 : Int32)), .val (.ref a374), .val (.ref adD), .val (.int (5 : Int32)), .val (.int jj.toInt32), .val (.int (chi &&& (255 : Int32))), .val (.int (1 : Int32)), .val (.int (6 : Int32)), .val (.ref a406), .val (.null), .unset] d_code_350 rfl rfl rfl ?_
      refine Go.aload (pc' := 354) W412 d_code_352 rfl rfl rfl ?_
      refine Go.static (pc' := 357) W412 (rm_fsn G adA adB adC adD adE adF adG adH adI adJ ceA ceB ceC ceD ceE ceF ceG ceH ceI ceJ hzA obA fdA hzB obB arA hzC obC fdB hzD obD fdC hzE slA hzF slB hzG slC hzH hzI hzJ stA stB stC stD a406 b408 c407 c409 [(119 : Int32), (114 : Int32), (105 : Int32), (116 : Int32), (101 : Int32), (chi &&& (255 : Int32))] S410) (w_25 G) (w_26 G) (w_10 G) (w_27 G) (by decide) [] [0, 1] (σf := []) rfl rfl [(.ref a406)] [] rfl (lenOf pd_24 rfl) rfl rfl d_code_354 rfl (by first | exact Nat.le_of_ble_eq_true rfl | (simp; done) | (simp; omega) | omega) (by first | exact Nat.le_of_ble_eq_true rfl | (simp; done) | (simp; omega) | omega) (by first | exact Nat.le_of_ble_eq_true rfl | (simp; done) | (simp; omega) | omega) (by first | exact Nat.le_of_ble_eq_true rfl | (simp; done) | (simp; omega) | omega) ?_
      rintro _ _ _ T413 ⟨rfl, rfl, rfl⟩ W414
      replace W414 : Wk l Z EL1 ({ frames := 9, cells := 24, slots := 4288, locals := 192 } : Room) "com/example/grantline/grantline/enforcer/PermissionFromScopeNamePinLaw" code 15 (some .boolean) "law" X [] [(a406, c407), (b408, c409), (a374, c376), (b375, c377)] T413 6 (43) := W414
      show Go Z EL1 _ _ _ X T413 357 #[.val (.int sel), .val (.int shape), .val (.int pos), .val (.int chi), .val (.int (2 : Int32)), .val (.ref a374), .val (.ref adD), .val (.int (5 : Int32)), .val (.int jj.toInt32), .val (.int (chi &&& (255 : Int32))), .val (.int (1 : Int32)), .val (.int (6 : Int32)), .val (.ref a406), .val (.null), .unset] [(fsn adA adC adD [(119 : Int32), (114 : Int32), (105 : Int32), (116 : Int32), (101 : Int32), (chi &&& (255 : Int32))])]
      refine Go.aload (pc' := 359) W414 d_code_357 rfl rfl rfl ?_
      refine Go.acmp_ne (pc' := 362) W414 366 (fsn_ref _ _ _ _) rfl d_code_359 (by decide) rfl (fun hq => absurd (pure1_write adA adC adD _) hq) (fun _ => ?_)
      refine Go.iconst (pc' := 363) W414 (1 : Int32) d_code_362 (by decide) rfl ?_
      refine Go.goto W414 367 d_code_363 (by decide) ?_
      refine Go.nret (z' := (1 : Int32)) W414 (by simp) (by decide) d_code_367 (by first | exact Nat.le_of_ble_eq_true rfl | (simp; done) | (simp; omega) | omega) (by first | exact Nat.le_of_ble_eq_true rfl | (simp; done) | (simp; omega) | omega) ?_
      rfl
    · refine Go.istore (pc' := 90) W386 #[.val (.int sel), .val (.int shape), .val (.int pos), .val (.int chi), .val (.int (2 : Int32)), .val (.ref a374), .val (.ref adD), .val (.int (5 : Int32)), .val (.int jj.toInt32), .val (.int (chi &&& (255 : Int32))), .val (.int (2 : Int32)), .unset, .unset, .unset, .unset] d_code_88 rfl rfl ?_
      refine Go.iload (pc' := 92) W386 d_code_90 rfl rfl ?_
      refine Go.iconst (pc' := 93) W386 (3 : Int32) d_code_92 (by decide) rfl ?_
      refine Go.icmp_ne (pc' := 96) W386 283 d_code_93 (by decide) rfl (fun _ => ?_) (fun q => absurd q (by decide))
      refine Go.iload (pc' := 285) W386 d_code_283 rfl rfl ?_
      refine Go.if_ne (pc' := 288) W386 293 d_code_285 (by decide) rfl (fun _ => ?_) (fun q => absurd q (by decide))
      refine Go.iload (pc' := 295) W386 d_code_293 rfl rfl ?_
      refine Go.iconst (pc' := 296) W386 (1 : Int32) d_code_295 (by decide) rfl ?_
      refine Go.icmp_ne (pc' := 299) W386 306 d_code_296 (by decide) rfl (fun _ => ?_) (fun q => absurd q (by decide))
      refine Go.iload (pc' := 308) W386 d_code_306 rfl rfl ?_
      refine Go.iconst (pc' := 309) W386 (1 : Int32) d_code_308 (by decide) rfl ?_
      refine Go.isub (pc' := 310) W386 d_code_309 rfl ?_
      rw [show ((5 : Int32) - (1 : Int32) : Int32) = (4 : Int32) from by decide]
      refine Go.istore (pc' := 312) W386 #[.val (.int sel), .val (.int shape), .val (.int pos), .val (.int chi), .val (.int (2 : Int32)), .val (.ref a374), .val (.ref adD), .val (.int (5 : Int32)), .val (.int jj.toInt32), .val (.int (chi &&& (255 : Int32))), .val (.int (2 : Int32)), .val (.int (4 : Int32)), .unset, .unset, .unset] d_code_310 rfl rfl ?_
      refine Go.aload (pc' := 314) W386 d_code_312 rfl rfl rfl ?_
      refine Go.iload (pc' := 316) W386 d_code_314 rfl rfl ?_
      refine Go.iload (pc' := 318) W386 d_code_316 rfl rfl ?_
      refine Go.iload (pc' := 320) W386 d_code_318 rfl rfl ?_
      refine Go.iload (pc' := 322) W386 d_code_320 rfl rfl ?_
      refine Go.static (pc' := 325) W386 (rm_build_writet G a374 b375 c376 c377 S382 jj hjj (chi &&& (255 : Int32)) (and255 _)) (w_72 G) (w_73 G) (w_74 G) (w_75 G) (by decide) [] [0, 1] (σf := []) rfl rfl [(.ref a374), (.int (4 : Int32)), (.int (2 : Int32)), (.int jj.toInt32), (.int (chi &&& (255 : Int32)))] [] rfl (lenOf pd_23 rfl) rfl rfl d_code_322 rfl (by first | exact Nat.le_of_ble_eq_true rfl | (simp; done) | (simp; omega) | omega) (by first | exact Nat.le_of_ble_eq_true rfl | (simp; done) | (simp; omega) | omega) (by first | exact Nat.le_of_ble_eq_true rfl | (simp; done) | (simp; omega) | omega) (by first | exact Nat.le_of_ble_eq_true rfl | (simp; done) | (simp; omega) | omega) ?_
      rintro _ _ _ T420 ⟨a415, c416, b417, c418, rfl, rfl, rfl, S419⟩ W421
      replace W421 : Wk l Z EL1 ({ frames := 9, cells := 24, slots := 4288, locals := 192 } : Room) "com/example/grantline/grantline/enforcer/PermissionFromScopeNamePinLaw" code 15 (some .boolean) "law" X [] [(a415, c416), (b417, c418), (a374, c376), (b375, c377)] T420 5 (36) := W421
      show Go Z EL1 _ _ _ X T420 325 #[.val (.int sel), .val (.int shape), .val (.int pos), .val (.int chi), .val (.int (2 : Int32)), .val (.ref a374), .val (.ref adD), .val (.int (5 : Int32)), .val (.int jj.toInt32), .val (.int (chi &&& (255 : Int32))), .val (.int (2 : Int32)), .val (.int (4 : Int32)), .unset, .unset, .unset] [(.ref a415)]
      refine Go.astore (pc' := 327) W421 #[.val (.int sel), .val (.int shape), .val (.int pos), .val (.int chi), .val (.int (2 : Int32)), .val (.ref a374), .val (.ref adD), .val (.int (5 : Int32)), .val (.int jj.toInt32), .val (.int (chi &&& (255 : Int32))), .val (.int (2 : Int32)), .val (.int (4 : Int32)), .val (.ref a415), .unset, .unset] d_code_325 rfl rfl rfl ?_
      refine Go.iload (pc' := 329) W421 d_code_327 rfl rfl ?_
      refine Go.if_ne (pc' := 332) W421 349 d_code_329 (by decide) rfl (fun _ => ?_) (fun q => absurd q (by decide))
      refine Go.aconstNull (pc' := 350) W421 d_code_349 rfl ?_
      refine Go.astore (pc' := 352) W421 #[.val (.int sel), .val (.int shape), .val (.int pos), .val (.int chi), .val (.int (2 : Int32)), .val (.ref a374), .val (.ref adD), .val (.int (5 : Int32)), .val (.int jj.toInt32), .val (.int (chi &&& (255 : Int32))), .val (.int (2 : Int32)), .val (.int (4 : Int32)), .val (.ref a415), .val (.null), .unset] d_code_350 rfl rfl rfl ?_
      refine Go.aload (pc' := 354) W421 d_code_352 rfl rfl rfl ?_
      refine Go.static (pc' := 357) W421 (rm_fsn G adA adB adC adD adE adF adG adH adI adJ ceA ceB ceC ceD ceE ceF ceG ceH ceI ceJ hzA obA fdA hzB obB arA hzC obC fdB hzD obD fdC hzE slA hzF slB hzG slC hzH hzI hzJ stA stB stC stD a415 b417 c416 c418 [if 0 < jj then (119 : Int32) else (114 : Int32), if 1 < jj then (114 : Int32) else (105 : Int32), if 2 < jj then (105 : Int32) else (116 : Int32), if 3 < jj then (116 : Int32) else (101 : Int32)] S419) (w_25 G) (w_26 G) (w_10 G) (w_27 G) (by decide) [] [0, 1] (σf := []) rfl rfl [(.ref a415)] [] rfl (lenOf pd_24 rfl) rfl rfl d_code_354 rfl (by first | exact Nat.le_of_ble_eq_true rfl | (simp; done) | (simp; omega) | omega) (by first | exact Nat.le_of_ble_eq_true rfl | (simp; done) | (simp; omega) | omega) (by first | exact Nat.le_of_ble_eq_true rfl | (simp; done) | (simp; omega) | omega) (by first | exact Nat.le_of_ble_eq_true rfl | (simp; done) | (simp; omega) | omega) ?_
      rintro _ _ _ T422 ⟨rfl, rfl, rfl⟩ W423
      replace W423 : Wk l Z EL1 ({ frames := 9, cells := 24, slots := 4288, locals := 192 } : Room) "com/example/grantline/grantline/enforcer/PermissionFromScopeNamePinLaw" code 15 (some .boolean) "law" X [] [(a415, c416), (b417, c418), (a374, c376), (b375, c377)] T422 6 (39) := W423
      show Go Z EL1 _ _ _ X T422 357 #[.val (.int sel), .val (.int shape), .val (.int pos), .val (.int chi), .val (.int (2 : Int32)), .val (.ref a374), .val (.ref adD), .val (.int (5 : Int32)), .val (.int jj.toInt32), .val (.int (chi &&& (255 : Int32))), .val (.int (2 : Int32)), .val (.int (4 : Int32)), .val (.ref a415), .val (.null), .unset] [(fsn adA adC adD [if 0 < jj then (119 : Int32) else (114 : Int32), if 1 < jj then (114 : Int32) else (105 : Int32), if 2 < jj then (105 : Int32) else (116 : Int32), if 3 < jj then (116 : Int32) else (101 : Int32)])]
      refine Go.aload (pc' := 359) W423 d_code_357 rfl rfl rfl ?_
      refine Go.acmp_ne (pc' := 362) W423 366 (fsn_ref _ _ _ _) rfl d_code_359 (by decide) rfl (fun hq => absurd (pure2_write adA adC adD jj hjj) hq) (fun _ => ?_)
      refine Go.iconst (pc' := 363) W423 (1 : Int32) d_code_362 (by decide) rfl ?_
      refine Go.goto W423 367 d_code_363 (by decide) ?_
      refine Go.nret (z' := (1 : Int32)) W423 (by simp) (by decide) d_code_367 (by first | exact Nat.le_of_ble_eq_true rfl | (simp; done) | (simp; omega) | omega) (by first | exact Nat.le_of_ble_eq_true rfl | (simp; done) | (simp; omega) | omega) ?_
      rfl
    · refine Go.istore (pc' := 90) W386 #[.val (.int sel), .val (.int shape), .val (.int pos), .val (.int chi), .val (.int (2 : Int32)), .val (.ref a374), .val (.ref adD), .val (.int (5 : Int32)), .val (.int jj.toInt32), .val (.int (chi &&& (255 : Int32))), .val (.int (3 : Int32)), .unset, .unset, .unset, .unset] d_code_88 rfl rfl ?_
      refine Go.iload (pc' := 92) W386 d_code_90 rfl rfl ?_
      refine Go.iconst (pc' := 93) W386 (3 : Int32) d_code_92 (by decide) rfl ?_
      refine Go.icmp_ne (pc' := 96) W386 283 d_code_93 (by decide) rfl (fun q => absurd (by decide) q) (fun _ => ?_)
      refine Go.iloadN (pc' := 97) W386 d_code_96 rfl rfl ?_
      refine Go.iconst (pc' := 98) W386 (2 : Int32) d_code_97 (by decide) rfl ?_
      refine Go.iushr (pc' := 99) W386 d_code_98 rfl ?_
      refine Go.iconst (pc' := 100) W386 (3 : Int32) d_code_99 (by decide) rfl ?_
      refine Go.iand (pc' := 101) W386 d_code_100 rfl ?_
      refine Go.istore (pc' := 103) W386 #[.val (.int sel), .val (.int shape), .val (.int pos), .val (.int chi), .val (.int (2 : Int32)), .val (.ref a374), .val (.ref adD), .val (.int (5 : Int32)), .val (.int jj.toInt32), .val (.int (chi &&& (255 : Int32))), .val (.int (3 : Int32)), .val (.int (((shape.toUInt32 >>> ((2 : Int32) &&& 31).toUInt32).toInt32) &&& (3 : Int32))), .unset, .unset, .unset] d_code_101 rfl rfl ?_
      refine Go.iload (pc' := 105) W386 d_code_103 rfl rfl ?_
      refine Go.if_ne (pc' := 108) W386 121 d_code_105 (by decide) rfl (fun (c424 : ¬ ((((shape.toUInt32 >>> ((2 : Int32) &&& 31).toUInt32).toInt32) &&& (3 : Int32)) = 0)) => ?_) (fun (c424 : (((shape.toUInt32 >>> ((2 : Int32) &&& 31).toUInt32).toInt32) &&& (3 : Int32)) = 0) => ?_)
      · refine Go.iload (pc' := 123) W386 d_code_121 rfl rfl ?_
        refine Go.iconst (pc' := 124) W386 (1 : Int32) d_code_123 (by decide) rfl ?_
        refine Go.icmp_ne (pc' := 127) W386 149 d_code_124 (by decide) rfl (fun (c425 : ¬ ((((shape.toUInt32 >>> ((2 : Int32) &&& 31).toUInt32).toInt32) &&& (3 : Int32)) = (1 : Int32))) => ?_) (fun (c425 : (((shape.toUInt32 >>> ((2 : Int32) &&& 31).toUInt32).toInt32) &&& (3 : Int32)) = (1 : Int32)) => ?_)
        · refine Go.iconst (pc' := 150) W386 (4 : Int32) d_code_149 (by decide) rfl ?_
          refine Go.newarr (pc' := 152) W386 .char rfl 4 (w_55 G) d_code_150 rfl (by decide) (by decide) (by decide) (by first | exact Nat.le_of_ble_eq_true rfl | (simp; done) | (simp; omega) | omega) (by first | exact Nat.le_of_ble_eq_true rfl | (simp; done) | (simp; omega) | omega) (fun T426 a428 c429 W427 A430 => ?_)
          replace W427 : Wk l Z EL1 ({ frames := 9, cells := 24, slots := 4288, locals := 192 } : Room) "com/example/grantline/grantline/enforcer/PermissionFromScopeNamePinLaw" code 15 (some .boolean) "law" X [(a428, c429)] [(a374, c376), (b375, c377)] T426 3 (28) := W427
          replace A430 : ArrC Z c429 .char [(.int (0 : Int32)), (.int (0 : Int32)), (.int (0 : Int32)), (.int (0 : Int32))] := A430
          refine Go.astore (pc' := 154) W427 #[.val (.int sel), .val (.int shape), .val (.int pos), .val (.int chi), .val (.int (2 : Int32)), .val (.ref a374), .val (.ref adD), .val (.int (5 : Int32)), .val (.int jj.toInt32), .val (.int (chi &&& (255 : Int32))), .val (.int (3 : Int32)), .val (.int (((shape.toUInt32 >>> ((2 : Int32) &&& 31).toUInt32).toInt32) &&& (3 : Int32))), .val (.ref a428), .unset, .unset] d_code_152 rfl rfl rfl ?_
          refine Go.aload (pc' := 156) W427 d_code_154 rfl rfl rfl ?_
          refine Go.iconst (pc' := 157) W427 (0 : Int32) d_code_156 (by decide) rfl ?_
          refine Go.iloadN (pc' := 158) W427 d_code_157 rfl rfl ?_
          refine Go.sipush (pc' := 161) W427 (255 : Int32) d_code_158 (by decide) rfl ?_
          refine Go.iand (pc' := 162) W427 d_code_161 rfl ?_
          refine Go.i2c (pc' := 163) W427 d_code_162 rfl ?_
          rw [i2c_id (lat_char (and255 _)).1 (lat_char (and255 _)).2]
          refine Go.castore (pc' := 164) W427 0 rfl A430 0 (chi &&& (255 : Int32)) (nar_char_id (lat_char (and255 _))) (by decide) (by decide) (by simp) d_code_163 rfl (fun T431 c433 W432 A434 => ?_)
          replace W432 : Wk l Z EL1 ({ frames := 9, cells := 24, slots := 4288, locals := 192 } : Room) "com/example/grantline/grantline/enforcer/PermissionFromScopeNamePinLaw" code 15 (some .boolean) "law" X [(a428, c433)] [(a374, c376), (b375, c377)] T431 3 (28) := W432
          replace A434 : ArrC Z c433 .char [(.int (chi &&& (255 : Int32))), (.int (0 : Int32)), (.int (0 : Int32)), (.int (0 : Int32))] := A434
          refine Go.aload (pc' := 166) W432 d_code_164 rfl rfl rfl ?_
          refine Go.iconst (pc' := 167) W432 (1 : Int32) d_code_166 (by decide) rfl ?_
          refine Go.iloadN (pc' := 168) W432 d_code_167 rfl rfl ?_
          refine Go.bipush (pc' := 170) W432 (8 : Int32) d_code_168 (by decide) rfl ?_
          refine Go.iushr (pc' := 171) W432 d_code_170 rfl ?_
          refine Go.sipush (pc' := 174) W432 (255 : Int32) d_code_171 (by decide) rfl ?_
          refine Go.iand (pc' := 175) W432 d_code_174 rfl ?_
          refine Go.i2c (pc' := 176) W432 d_code_175 rfl ?_
          rw [i2c_id (lat_char (and255 _)).1 (lat_char (and255 _)).2]
          refine Go.castore (pc' := 177) W432 0 rfl A434 1 (((chi.toUInt32 >>> ((8 : Int32) &&& 31).toUInt32).toInt32) &&& (255 : Int32)) (nar_char_id (lat_char (and255 _))) (by decide) (by decide) (by simp) d_code_176 rfl (fun T435 c437 W436 A438 => ?_)
          replace W436 : Wk l Z EL1 ({ frames := 9, cells := 24, slots := 4288, locals := 192 } : Room) "com/example/grantline/grantline/enforcer/PermissionFromScopeNamePinLaw" code 15 (some .boolean) "law" X [(a428, c437)] [(a374, c376), (b375, c377)] T435 3 (28) := W436
          replace A438 : ArrC Z c437 .char [(.int (chi &&& (255 : Int32))), (.int (((chi.toUInt32 >>> ((8 : Int32) &&& 31).toUInt32).toInt32) &&& (255 : Int32))), (.int (0 : Int32)), (.int (0 : Int32))] := A438
          refine Go.aload (pc' := 179) W436 d_code_177 rfl rfl rfl ?_
          refine Go.iconst (pc' := 180) W436 (2 : Int32) d_code_179 (by decide) rfl ?_
          refine Go.iloadN (pc' := 181) W436 d_code_180 rfl rfl ?_
          refine Go.bipush (pc' := 183) W436 (16 : Int32) d_code_181 (by decide) rfl ?_
          refine Go.iushr (pc' := 184) W436 d_code_183 rfl ?_
          refine Go.sipush (pc' := 187) W436 (255 : Int32) d_code_184 (by decide) rfl ?_
          refine Go.iand (pc' := 188) W436 d_code_187 rfl ?_
          refine Go.i2c (pc' := 189) W436 d_code_188 rfl ?_
          rw [i2c_id (lat_char (and255 _)).1 (lat_char (and255 _)).2]
          refine Go.castore (pc' := 190) W436 0 rfl A438 2 (((chi.toUInt32 >>> ((16 : Int32) &&& 31).toUInt32).toInt32) &&& (255 : Int32)) (nar_char_id (lat_char (and255 _))) (by decide) (by decide) (by simp) d_code_189 rfl (fun T439 c441 W440 A442 => ?_)
          replace W440 : Wk l Z EL1 ({ frames := 9, cells := 24, slots := 4288, locals := 192 } : Room) "com/example/grantline/grantline/enforcer/PermissionFromScopeNamePinLaw" code 15 (some .boolean) "law" X [(a428, c441)] [(a374, c376), (b375, c377)] T439 3 (28) := W440
          replace A442 : ArrC Z c441 .char [(.int (chi &&& (255 : Int32))), (.int (((chi.toUInt32 >>> ((8 : Int32) &&& 31).toUInt32).toInt32) &&& (255 : Int32))), (.int (((chi.toUInt32 >>> ((16 : Int32) &&& 31).toUInt32).toInt32) &&& (255 : Int32))), (.int (0 : Int32))] := A442
          refine Go.aload (pc' := 192) W440 d_code_190 rfl rfl rfl ?_
          refine Go.iconst (pc' := 193) W440 (3 : Int32) d_code_192 (by decide) rfl ?_
          refine Go.iloadN (pc' := 194) W440 d_code_193 rfl rfl ?_
          refine Go.bipush (pc' := 196) W440 (24 : Int32) d_code_194 (by decide) rfl ?_
          refine Go.iushr (pc' := 197) W440 d_code_196 rfl ?_
          refine Go.sipush (pc' := 200) W440 (255 : Int32) d_code_197 (by decide) rfl ?_
          refine Go.iand (pc' := 201) W440 d_code_200 rfl ?_
          refine Go.i2c (pc' := 202) W440 d_code_201 rfl ?_
          rw [i2c_id (lat_char (and255 _)).1 (lat_char (and255 _)).2]
          refine Go.castore (pc' := 203) W440 0 rfl A442 3 (((chi.toUInt32 >>> ((24 : Int32) &&& 31).toUInt32).toInt32) &&& (255 : Int32)) (nar_char_id (lat_char (and255 _))) (by decide) (by decide) (by simp) d_code_202 rfl (fun T443 c445 W444 A446 => ?_)
          replace W444 : Wk l Z EL1 ({ frames := 9, cells := 24, slots := 4288, locals := 192 } : Room) "com/example/grantline/grantline/enforcer/PermissionFromScopeNamePinLaw" code 15 (some .boolean) "law" X [(a428, c445)] [(a374, c376), (b375, c377)] T443 3 (28) := W444
          replace A446 : ArrC Z c445 .char [(.int (chi &&& (255 : Int32))), (.int (((chi.toUInt32 >>> ((8 : Int32) &&& 31).toUInt32).toInt32) &&& (255 : Int32))), (.int (((chi.toUInt32 >>> ((16 : Int32) &&& 31).toUInt32).toInt32) &&& (255 : Int32))), (.int (((chi.toUInt32 >>> ((24 : Int32) &&& 31).toUInt32).toInt32) &&& (255 : Int32)))] := A446
          refine Go.aload (pc' := 205) W444 d_code_203 rfl rfl rfl ?_
          refine Go.iconst (pc' := 206) W444 (0 : Int32) d_code_205 (by decide) rfl ?_
          refine Go.caload (pc' := 207) W444 (Or.inl (List.mem_of_getElem? (i := 0) rfl)) A446 0 (by decide) (by decide) rfl d_code_206 rfl ?_
          refine Go.bipush (pc' := 209) W444 (114 : Int32) d_code_207 (by decide) rfl ?_
          refine Go.icmp_ne (pc' := 212) W444 243 d_code_209 (by decide) rfl (fun (c447 : ¬ ((chi &&& (255 : Int32)) = (114 : Int32))) => ?_) (fun (c447 : (chi &&& (255 : Int32)) = (114 : Int32)) => ?_)
          · refine Go.iconst (pc' := 244) W444 (0 : Int32) d_code_243 (by decide) rfl ?_
            refine Go.istore (pc' := 246) W444 #[.val (.int sel), .val (.int shape), .val (.int pos), .val (.int chi), .val (.int (2 : Int32)), .val (.ref a374), .val (.ref adD), .val (.int (5 : Int32)), .val (.int jj.toInt32), .val (.int (chi &&& (255 : Int32))), .val (.int (3 : Int32)), .val (.int (((shape.toUInt32 >>> ((2 : Int32) &&& 31).toUInt32).toInt32) &&& (3 : Int32))), .val (.ref a428), .val (.int (0 : Int32)), .unset] d_code_244 rfl rfl ?_
            refine Go.iload (pc' := 248) W444 d_code_246 rfl rfl ?_
            refine Go.if_eq (pc' := 251) W444 257 d_code_248 (by decide) rfl (fun _ => ?_) (fun q => absurd (by decide) q)
            refine Go.aconstNull (pc' := 258) W444 d_code_257 rfl ?_
            refine Go.astore (pc' := 260) W444 #[.val (.int sel), .val (.int shape), .val (.int pos), .val (.int chi), .val (.int (2 : Int32)), .val (.ref a374), .val (.ref adD), .val (.int (5 : Int32)), .val (.int jj.toInt32), .val (.int (chi &&& (255 : Int32))), .val (.int (3 : Int32)), .val (.int (((shape.toUInt32 >>> ((2 : Int32) &&& 31).toUInt32).toInt32) &&& (3 : Int32))), .val (.ref a428), .val (.int (0 : Int32)), .val (.null)] d_code_258 rfl rfl rfl ?_
            refine Go.new (pc' := 263) W444 (w_54 G) (w_3 G) (w_2 G) d_code_260 rfl (by first | exact Nat.le_of_ble_eq_true rfl | (simp; done) | (simp; omega) | omega) (by first | exact Nat.le_of_ble_eq_true rfl | (simp; done) | (simp; omega) | omega) (fun T448 a450 c451 W449 O452 D453 => ?_)
            replace W449 : Wk l Z EL1 ({ frames := 9, cells := 24, slots := 4288, locals := 192 } : Room) "com/example/grantline/grantline/enforcer/PermissionFromScopeNamePinLaw" code 15 (some .boolean) "law" X [(a450, c451), (a428, c445)] [(a374, c376), (b375, c377)] T448 4 (32) := W449
            have F454 : FldC Z c451 "java/lang/String" "value" "[B" (.null) := D453 (Or.inr (w_5 G)) (ty := (.array .byte)) (by decide)
            have F455 : FldC Z c451 "java/lang/String" "coder" "B" (.int (0 : Int32)) := D453 (Or.inr (w_6 G)) (ty := .byte) (by decide)
            refine Go.dup (pc' := 264) W449 d_code_263 rfl rfl ?_
            refine Go.aload (pc' := 266) W449 d_code_264 rfl rfl rfl ?_
            refine Go.special (pc' := 269) W449 (a := a450) (rm_initC G a450 a428 c451 c445 [chi &&& (255 : Int32), ((chi.toUInt32 >>> ((8 : Int32) &&& 31).toUInt32).toInt32) &&& (255 : Int32), ((chi.toUInt32 >>> ((16 : Int32) &&& 31).toUInt32).toInt32) &&& (255 : Int32), ((chi.toUInt32 >>> ((24 : Int32) &&& 31).toUInt32).toInt32) &&& (255 : Int32)] A446 O452 F455 F454 (Lat.cons (and255 _) (Lat.cons (and255 _) (Lat.cons (and255 _) (Lat.cons (and255 _) Lat.nil)))) (by simp) (show ¬ (4 : Nat).toInt32 = 0 by decide)) rfl (w_56 G) (w_57 G) (w_2 G) (w_58 G) (by decide) [0, 0] [] (σf := []) rfl rfl [(.ref a428)] [(.ref a450)] rfl (lenOf pd_22 rfl) rfl rfl d_code_266 rfl (by first | exact Nat.le_of_ble_eq_true rfl | (simp; done) | (simp; omega) | omega) (by first | exact Nat.le_of_ble_eq_true rfl | (simp; done) | (simp; omega) | omega) (by first | exact Nat.le_of_ble_eq_true rfl | (simp; done) | (simp; omega) | omega) (by first | exact Nat.le_of_ble_eq_true rfl | (simp; done) | (simp; omega) | omega) ?_
            rintro _ _ _ T460 ⟨c456, b457, c458, rfl, rfl, rfl, S459⟩ W461
            replace W461 : Wk l Z EL1 ({ frames := 9, cells := 24, slots := 4288, locals := 192 } : Room) "com/example/grantline/grantline/enforcer/PermissionFromScopeNamePinLaw" code 15 (some .boolean) "law" X [(a428, c445)] [(a450, c456), (b457, c458), (a374, c376), (b375, c377)] T460 5 (36) := W461
            show Go Z EL1 _ _ _ X T460 269 #[.val (.int sel), .val (.int shape), .val (.int pos), .val (.int chi), .val (.int (2 : Int32)), .val (.ref a374), .val (.ref adD), .val (.int (5 : Int32)), .val (.int jj.toInt32), .val (.int (chi &&& (255 : Int32))), .val (.int (3 : Int32)), .val (.int (((shape.toUInt32 >>> ((2 : Int32) &&& 31).toUInt32).toInt32) &&& (3 : Int32))), .val (.ref a428), .val (.int (0 : Int32)), .val (.null)] [(.ref a450)]
            refine Go.static (pc' := 272) W461 (rm_fsn G adA adB adC adD adE adF adG adH adI adJ ceA ceB ceC ceD ceE ceF ceG ceH ceI ceJ hzA obA fdA hzB obB arA hzC obC fdB hzD obD fdC hzE slA hzF slB hzG slC hzH hzI hzJ stA stB stC stD a450 b457 c456 c458 [chi &&& (255 : Int32), ((chi.toUInt32 >>> ((8 : Int32) &&& 31).toUInt32).toInt32) &&& (255 : Int32), ((chi.toUInt32 >>> ((16 : Int32) &&& 31).toUInt32).toInt32) &&& (255 : Int32), ((chi.toUInt32 >>> ((24 : Int32) &&& 31).toUInt32).toInt32) &&& (255 : Int32)] S459) (w_25 G) (w_26 G) (w_10 G) (w_27 G) (by decide) [] [0, 1] (σf := [(a428, c445)]) rfl rfl [(.ref a450)] [] rfl (lenOf pd_24 rfl) rfl rfl d_code_269 rfl (by first | exact Nat.le_of_ble_eq_true rfl | (simp; done) | (simp; omega) | omega) (by first | exact Nat.le_of_ble_eq_true rfl | (simp; done) | (simp; omega) | omega) (by first | exact Nat.le_of_ble_eq_true rfl | (simp; done) | (simp; omega) | omega) (by first | exact Nat.le_of_ble_eq_true rfl | (simp; done) | (simp; omega) | omega) ?_
            rintro _ _ _ T462 ⟨rfl, rfl, rfl⟩ W463
            replace W463 : Wk l Z EL1 ({ frames := 9, cells := 24, slots := 4288, locals := 192 } : Room) "com/example/grantline/grantline/enforcer/PermissionFromScopeNamePinLaw" code 15 (some .boolean) "law" X [(a428, c445)] [(a450, c456), (b457, c458), (a374, c376), (b375, c377)] T462 6 (39) := W463
            show Go Z EL1 _ _ _ X T462 272 #[.val (.int sel), .val (.int shape), .val (.int pos), .val (.int chi), .val (.int (2 : Int32)), .val (.ref a374), .val (.ref adD), .val (.int (5 : Int32)), .val (.int jj.toInt32), .val (.int (chi &&& (255 : Int32))), .val (.int (3 : Int32)), .val (.int (((shape.toUInt32 >>> ((2 : Int32) &&& 31).toUInt32).toInt32) &&& (3 : Int32))), .val (.ref a428), .val (.int (0 : Int32)), .val (.null)] [(fsn adA adC adD [chi &&& (255 : Int32), ((chi.toUInt32 >>> ((8 : Int32) &&& 31).toUInt32).toInt32) &&& (255 : Int32), ((chi.toUInt32 >>> ((16 : Int32) &&& 31).toUInt32).toInt32) &&& (255 : Int32), ((chi.toUInt32 >>> ((24 : Int32) &&& 31).toUInt32).toInt32) &&& (255 : Int32)])]
            refine Go.aload (pc' := 274) W463 d_code_272 rfl rfl rfl ?_
            refine Go.acmp_ne (pc' := 277) W463 281 (fsn_ref _ _ _ _) rfl d_code_274 (by decide) rfl (fun hq => absurd (puren _ _ _ _ _ _ _ (fun q => c447 q.1)) hq) (fun _ => ?_)
            refine Go.iconst (pc' := 278) W463 (1 : Int32) d_code_277 (by decide) rfl ?_
            refine Go.goto W463 282 d_code_278 (by decide) ?_
            refine Go.nret (z' := (1 : Int32)) W463 (by simp) (by decide) d_code_282 (by first | exact Nat.le_of_ble_eq_true rfl | (simp; done) | (simp; omega) | omega) (by first | exact Nat.le_of_ble_eq_true rfl | (simp; done) | (simp; omega) | omega) ?_
            rfl
          · refine Go.aload (pc' := 214) W444 d_code_212 rfl rfl rfl ?_
            refine Go.iconst (pc' := 215) W444 (1 : Int32) d_code_214 (by decide) rfl ?_
            refine Go.caload (pc' := 216) W444 (Or.inl (List.mem_of_getElem? (i := 0) rfl)) A446 1 (by decide) (by decide) rfl d_code_215 rfl ?_
            refine Go.bipush (pc' := 218) W444 (101 : Int32) d_code_216 (by decide) rfl ?_
            refine Go.icmp_ne (pc' := 221) W444 243 d_code_218 (by decide) rfl (fun (c464 : ¬ ((((chi.toUInt32 >>> ((8 : Int32) &&& 31).toUInt32).toInt32) &&& (255 : Int32)) = (101 : Int32))) => ?_) (fun (c464 : (((chi.toUInt32 >>> ((8 : Int32) &&& 31).toUInt32).toInt32) &&& (255 : Int32)) = (101 : Int32)) => ?_)
            · refine Go.iconst (pc' := 244) W444 (0 : Int32) d_code_243 (by decide) rfl ?_
              refine Go.istore (pc' := 246) W444 #[.val (.int sel), .val (.int shape), .val (.int pos), .val (.int chi), .val (.int (2 : Int32)), .val (.ref a374), .val (.ref adD), .val (.int (5 : Int32)), .val (.int jj.toInt32), .val (.int (chi &&& (255 : Int32))), .val (.int (3 : Int32)), .val (.int (((shape.toUInt32 >>> ((2 : Int32) &&& 31).toUInt32).toInt32) &&& (3 : Int32))), .val (.ref a428), .val (.int (0 : Int32)), .unset] d_code_244 rfl rfl ?_
              refine Go.iload (pc' := 248) W444 d_code_246 rfl rfl ?_
              refine Go.if_eq (pc' := 251) W444 257 d_code_248 (by decide) rfl (fun _ => ?_) (fun q => absurd (by decide) q)
              refine Go.aconstNull (pc' := 258) W444 d_code_257 rfl ?_
              refine Go.astore (pc' := 260) W444 #[.val (.int sel), .val (.int shape), .val (.int pos), .val (.int chi), .val (.int (2 : Int32)), .val (.ref a374), .val (.ref adD), .val (.int (5 : Int32)), .val (.int jj.toInt32), .val (.int (chi &&& (255 : Int32))), .val (.int (3 : Int32)), .val (.int (((shape.toUInt32 >>> ((2 : Int32) &&& 31).toUInt32).toInt32) &&& (3 : Int32))), .val (.ref a428), .val (.int (0 : Int32)), .val (.null)] d_code_258 rfl rfl rfl ?_
              refine Go.new (pc' := 263) W444 (w_54 G) (w_3 G) (w_2 G) d_code_260 rfl (by first | exact Nat.le_of_ble_eq_true rfl | (simp; done) | (simp; omega) | omega) (by first | exact Nat.le_of_ble_eq_true rfl | (simp; done) | (simp; omega) | omega) (fun T465 a467 c468 W466 O469 D470 => ?_)
              replace W466 : Wk l Z EL1 ({ frames := 9, cells := 24, slots := 4288, locals := 192 } : Room) "com/example/grantline/grantline/enforcer/PermissionFromScopeNamePinLaw" code 15 (some .boolean) "law" X [(a467, c468), (a428, c445)] [(a374, c376), (b375, c377)] T465 4 (32) := W466
              have F471 : FldC Z c468 "java/lang/String" "value" "[B" (.null) := D470 (Or.inr (w_5 G)) (ty := (.array .byte)) (by decide)
              have F472 : FldC Z c468 "java/lang/String" "coder" "B" (.int (0 : Int32)) := D470 (Or.inr (w_6 G)) (ty := .byte) (by decide)
              refine Go.dup (pc' := 264) W466 d_code_263 rfl rfl ?_
              refine Go.aload (pc' := 266) W466 d_code_264 rfl rfl rfl ?_
              refine Go.special (pc' := 269) W466 (a := a467) (rm_initC G a467 a428 c468 c445 [chi &&& (255 : Int32), ((chi.toUInt32 >>> ((8 : Int32) &&& 31).toUInt32).toInt32) &&& (255 : Int32), ((chi.toUInt32 >>> ((16 : Int32) &&& 31).toUInt32).toInt32) &&& (255 : Int32), ((chi.toUInt32 >>> ((24 : Int32) &&& 31).toUInt32).toInt32) &&& (255 : Int32)] A446 O469 F472 F471 (Lat.cons (and255 _) (Lat.cons (and255 _) (Lat.cons (and255 _) (Lat.cons (and255 _) Lat.nil)))) (by simp) (show ¬ (4 : Nat).toInt32 = 0 by decide)) rfl (w_56 G) (w_57 G) (w_2 G) (w_58 G) (by decide) [0, 0] [] (σf := []) rfl rfl [(.ref a428)] [(.ref a467)] rfl (lenOf pd_22 rfl) rfl rfl d_code_266 rfl (by first | exact Nat.le_of_ble_eq_true rfl | (simp; done) | (simp; omega) | omega) (by first | exact Nat.le_of_ble_eq_true rfl | (simp; done) | (simp; omega) | omega) (by first | exact Nat.le_of_ble_eq_true rfl | (simp; done) | (simp; omega) | omega) (by first | exact Nat.le_of_ble_eq_true rfl | (simp; done) | (simp; omega) | omega) ?_
              rintro _ _ _ T477 ⟨c473, b474, c475, rfl, rfl, rfl, S476⟩ W478
              replace W478 : Wk l Z EL1 ({ frames := 9, cells := 24, slots := 4288, locals := 192 } : Room) "com/example/grantline/grantline/enforcer/PermissionFromScopeNamePinLaw" code 15 (some .boolean) "law" X [(a428, c445)] [(a467, c473), (b474, c475), (a374, c376), (b375, c377)] T477 5 (36) := W478
              show Go Z EL1 _ _ _ X T477 269 #[.val (.int sel), .val (.int shape), .val (.int pos), .val (.int chi), .val (.int (2 : Int32)), .val (.ref a374), .val (.ref adD), .val (.int (5 : Int32)), .val (.int jj.toInt32), .val (.int (chi &&& (255 : Int32))), .val (.int (3 : Int32)), .val (.int (((shape.toUInt32 >>> ((2 : Int32) &&& 31).toUInt32).toInt32) &&& (3 : Int32))), .val (.ref a428), .val (.int (0 : Int32)), .val (.null)] [(.ref a467)]
              refine Go.static (pc' := 272) W478 (rm_fsn G adA adB adC adD adE adF adG adH adI adJ ceA ceB ceC ceD ceE ceF ceG ceH ceI ceJ hzA obA fdA hzB obB arA hzC obC fdB hzD obD fdC hzE slA hzF slB hzG slC hzH hzI hzJ stA stB stC stD a467 b474 c473 c475 [chi &&& (255 : Int32), ((chi.toUInt32 >>> ((8 : Int32) &&& 31).toUInt32).toInt32) &&& (255 : Int32), ((chi.toUInt32 >>> ((16 : Int32) &&& 31).toUInt32).toInt32) &&& (255 : Int32), ((chi.toUInt32 >>> ((24 : Int32) &&& 31).toUInt32).toInt32) &&& (255 : Int32)] S476) (w_25 G) (w_26 G) (w_10 G) (w_27 G) (by decide) [] [0, 1] (σf := [(a428, c445)]) rfl rfl [(.ref a467)] [] rfl (lenOf pd_24 rfl) rfl rfl d_code_269 rfl (by first | exact Nat.le_of_ble_eq_true rfl | (simp; done) | (simp; omega) | omega) (by first | exact Nat.le_of_ble_eq_true rfl | (simp; done) | (simp; omega) | omega) (by first | exact Nat.le_of_ble_eq_true rfl | (simp; done) | (simp; omega) | omega) (by first | exact Nat.le_of_ble_eq_true rfl | (simp; done) | (simp; omega) | omega) ?_
              rintro _ _ _ T479 ⟨rfl, rfl, rfl⟩ W480
              replace W480 : Wk l Z EL1 ({ frames := 9, cells := 24, slots := 4288, locals := 192 } : Room) "com/example/grantline/grantline/enforcer/PermissionFromScopeNamePinLaw" code 15 (some .boolean) "law" X [(a428, c445)] [(a467, c473), (b474, c475), (a374, c376), (b375, c377)] T479 6 (39) := W480
              show Go Z EL1 _ _ _ X T479 272 #[.val (.int sel), .val (.int shape), .val (.int pos), .val (.int chi), .val (.int (2 : Int32)), .val (.ref a374), .val (.ref adD), .val (.int (5 : Int32)), .val (.int jj.toInt32), .val (.int (chi &&& (255 : Int32))), .val (.int (3 : Int32)), .val (.int (((shape.toUInt32 >>> ((2 : Int32) &&& 31).toUInt32).toInt32) &&& (3 : Int32))), .val (.ref a428), .val (.int (0 : Int32)), .val (.null)] [(fsn adA adC adD [chi &&& (255 : Int32), ((chi.toUInt32 >>> ((8 : Int32) &&& 31).toUInt32).toInt32) &&& (255 : Int32), ((chi.toUInt32 >>> ((16 : Int32) &&& 31).toUInt32).toInt32) &&& (255 : Int32), ((chi.toUInt32 >>> ((24 : Int32) &&& 31).toUInt32).toInt32) &&& (255 : Int32)])]
              refine Go.aload (pc' := 274) W480 d_code_272 rfl rfl rfl ?_
              refine Go.acmp_ne (pc' := 277) W480 281 (fsn_ref _ _ _ _) rfl d_code_274 (by decide) rfl (fun hq => absurd (puren _ _ _ _ _ _ _ (fun q => c464 q.2.1)) hq) (fun _ => ?_)
              refine Go.iconst (pc' := 278) W480 (1 : Int32) d_code_277 (by decide) rfl ?_
              refine Go.goto W480 282 d_code_278 (by decide) ?_
              refine Go.nret (z' := (1 : Int32)) W480 (by simp) (by decide) d_code_282 (by first | exact Nat.le_of_ble_eq_true rfl | (simp; done) | (simp; omega) | omega) (by first | exact Nat.le_of_ble_eq_true rfl | (simp; done) | (simp; omega) | omega) ?_
              rfl
            · refine Go.aload (pc' := 223) W444 d_code_221 rfl rfl rfl ?_
              refine Go.iconst (pc' := 224) W444 (2 : Int32) d_code_223 (by decide) rfl ?_
              refine Go.caload (pc' := 225) W444 (Or.inl (List.mem_of_getElem? (i := 0) rfl)) A446 2 (by decide) (by decide) rfl d_code_224 rfl ?_
              refine Go.bipush (pc' := 227) W444 (97 : Int32) d_code_225 (by decide) rfl ?_
              refine Go.icmp_ne (pc' := 230) W444 243 d_code_227 (by decide) rfl (fun (c481 : ¬ ((((chi.toUInt32 >>> ((16 : Int32) &&& 31).toUInt32).toInt32) &&& (255 : Int32)) = (97 : Int32))) => ?_) (fun (c481 : (((chi.toUInt32 >>> ((16 : Int32) &&& 31).toUInt32).toInt32) &&& (255 : Int32)) = (97 : Int32)) => ?_)
              · refine Go.iconst (pc' := 244) W444 (0 : Int32) d_code_243 (by decide) rfl ?_
                refine Go.istore (pc' := 246) W444 #[.val (.int sel), .val (.int shape), .val (.int pos), .val (.int chi), .val (.int (2 : Int32)), .val (.ref a374), .val (.ref adD), .val (.int (5 : Int32)), .val (.int jj.toInt32), .val (.int (chi &&& (255 : Int32))), .val (.int (3 : Int32)), .val (.int (((shape.toUInt32 >>> ((2 : Int32) &&& 31).toUInt32).toInt32) &&& (3 : Int32))), .val (.ref a428), .val (.int (0 : Int32)), .unset] d_code_244 rfl rfl ?_
                refine Go.iload (pc' := 248) W444 d_code_246 rfl rfl ?_
                refine Go.if_eq (pc' := 251) W444 257 d_code_248 (by decide) rfl (fun _ => ?_) (fun q => absurd (by decide) q)
                refine Go.aconstNull (pc' := 258) W444 d_code_257 rfl ?_
                refine Go.astore (pc' := 260) W444 #[.val (.int sel), .val (.int shape), .val (.int pos), .val (.int chi), .val (.int (2 : Int32)), .val (.ref a374), .val (.ref adD), .val (.int (5 : Int32)), .val (.int jj.toInt32), .val (.int (chi &&& (255 : Int32))), .val (.int (3 : Int32)), .val (.int (((shape.toUInt32 >>> ((2 : Int32) &&& 31).toUInt32).toInt32) &&& (3 : Int32))), .val (.ref a428), .val (.int (0 : Int32)), .val (.null)] d_code_258 rfl rfl rfl ?_
                refine Go.new (pc' := 263) W444 (w_54 G) (w_3 G) (w_2 G) d_code_260 rfl (by first | exact Nat.le_of_ble_eq_true rfl | (simp; done) | (simp; omega) | omega) (by first | exact Nat.le_of_ble_eq_true rfl | (simp; done) | (simp; omega) | omega) (fun T482 a484 c485 W483 O486 D487 => ?_)
                replace W483 : Wk l Z EL1 ({ frames := 9, cells := 24, slots := 4288, locals := 192 } : Room) "com/example/grantline/grantline/enforcer/PermissionFromScopeNamePinLaw" code 15 (some .boolean) "law" X [(a484, c485), (a428, c445)] [(a374, c376), (b375, c377)] T482 4 (32) := W483
                have F488 : FldC Z c485 "java/lang/String" "value" "[B" (.null) := D487 (Or.inr (w_5 G)) (ty := (.array .byte)) (by decide)
                have F489 : FldC Z c485 "java/lang/String" "coder" "B" (.int (0 : Int32)) := D487 (Or.inr (w_6 G)) (ty := .byte) (by decide)
                refine Go.dup (pc' := 264) W483 d_code_263 rfl rfl ?_
                refine Go.aload (pc' := 266) W483 d_code_264 rfl rfl rfl ?_
                refine Go.special (pc' := 269) W483 (a := a484) (rm_initC G a484 a428 c485 c445 [chi &&& (255 : Int32), ((chi.toUInt32 >>> ((8 : Int32) &&& 31).toUInt32).toInt32) &&& (255 : Int32), ((chi.toUInt32 >>> ((16 : Int32) &&& 31).toUInt32).toInt32) &&& (255 : Int32), ((chi.toUInt32 >>> ((24 : Int32) &&& 31).toUInt32).toInt32) &&& (255 : Int32)] A446 O486 F489 F488 (Lat.cons (and255 _) (Lat.cons (and255 _) (Lat.cons (and255 _) (Lat.cons (and255 _) Lat.nil)))) (by simp) (show ¬ (4 : Nat).toInt32 = 0 by decide)) rfl (w_56 G) (w_57 G) (w_2 G) (w_58 G) (by decide) [0, 0] [] (σf := []) rfl rfl [(.ref a428)] [(.ref a484)] rfl (lenOf pd_22 rfl) rfl rfl d_code_266 rfl (by first | exact Nat.le_of_ble_eq_true rfl | (simp; done) | (simp; omega) | omega) (by first | exact Nat.le_of_ble_eq_true rfl | (simp; done) | (simp; omega) | omega) (by first | exact Nat.le_of_ble_eq_true rfl | (simp; done) | (simp; omega) | omega) (by first | exact Nat.le_of_ble_eq_true rfl | (simp; done) | (simp; omega) | omega) ?_
                rintro _ _ _ T494 ⟨c490, b491, c492, rfl, rfl, rfl, S493⟩ W495
                replace W495 : Wk l Z EL1 ({ frames := 9, cells := 24, slots := 4288, locals := 192 } : Room) "com/example/grantline/grantline/enforcer/PermissionFromScopeNamePinLaw" code 15 (some .boolean) "law" X [(a428, c445)] [(a484, c490), (b491, c492), (a374, c376), (b375, c377)] T494 5 (36) := W495
                show Go Z EL1 _ _ _ X T494 269 #[.val (.int sel), .val (.int shape), .val (.int pos), .val (.int chi), .val (.int (2 : Int32)), .val (.ref a374), .val (.ref adD), .val (.int (5 : Int32)), .val (.int jj.toInt32), .val (.int (chi &&& (255 : Int32))), .val (.int (3 : Int32)), .val (.int (((shape.toUInt32 >>> ((2 : Int32) &&& 31).toUInt32).toInt32) &&& (3 : Int32))), .val (.ref a428), .val (.int (0 : Int32)), .val (.null)] [(.ref a484)]
                refine Go.static (pc' := 272) W495 (rm_fsn G adA adB adC adD adE adF adG adH adI adJ ceA ceB ceC ceD ceE ceF ceG ceH ceI ceJ hzA obA fdA hzB obB arA hzC obC fdB hzD obD fdC hzE slA hzF slB hzG slC hzH hzI hzJ stA stB stC stD a484 b491 c490 c492 [chi &&& (255 : Int32), ((chi.toUInt32 >>> ((8 : Int32) &&& 31).toUInt32).toInt32) &&& (255 : Int32), ((chi.toUInt32 >>> ((16 : Int32) &&& 31).toUInt32).toInt32) &&& (255 : Int32), ((chi.toUInt32 >>> ((24 : Int32) &&& 31).toUInt32).toInt32) &&& (255 : Int32)] S493) (w_25 G) (w_26 G) (w_10 G) (w_27 G) (by decide) [] [0, 1] (σf := [(a428, c445)]) rfl rfl [(.ref a484)] [] rfl (lenOf pd_24 rfl) rfl rfl d_code_269 rfl (by first | exact Nat.le_of_ble_eq_true rfl | (simp; done) | (simp; omega) | omega) (by first | exact Nat.le_of_ble_eq_true rfl | (simp; done) | (simp; omega) | omega) (by first | exact Nat.le_of_ble_eq_true rfl | (simp; done) | (simp; omega) | omega) (by first | exact Nat.le_of_ble_eq_true rfl | (simp; done) | (simp; omega) | omega) ?_
                rintro _ _ _ T496 ⟨rfl, rfl, rfl⟩ W497
                replace W497 : Wk l Z EL1 ({ frames := 9, cells := 24, slots := 4288, locals := 192 } : Room) "com/example/grantline/grantline/enforcer/PermissionFromScopeNamePinLaw" code 15 (some .boolean) "law" X [(a428, c445)] [(a484, c490), (b491, c492), (a374, c376), (b375, c377)] T496 6 (39) := W497
                show Go Z EL1 _ _ _ X T496 272 #[.val (.int sel), .val (.int shape), .val (.int pos), .val (.int chi), .val (.int (2 : Int32)), .val (.ref a374), .val (.ref adD), .val (.int (5 : Int32)), .val (.int jj.toInt32), .val (.int (chi &&& (255 : Int32))), .val (.int (3 : Int32)), .val (.int (((shape.toUInt32 >>> ((2 : Int32) &&& 31).toUInt32).toInt32) &&& (3 : Int32))), .val (.ref a428), .val (.int (0 : Int32)), .val (.null)] [(fsn adA adC adD [chi &&& (255 : Int32), ((chi.toUInt32 >>> ((8 : Int32) &&& 31).toUInt32).toInt32) &&& (255 : Int32), ((chi.toUInt32 >>> ((16 : Int32) &&& 31).toUInt32).toInt32) &&& (255 : Int32), ((chi.toUInt32 >>> ((24 : Int32) &&& 31).toUInt32).toInt32) &&& (255 : Int32)])]
                refine Go.aload (pc' := 274) W497 d_code_272 rfl rfl rfl ?_
                refine Go.acmp_ne (pc' := 277) W497 281 (fsn_ref _ _ _ _) rfl d_code_274 (by decide) rfl (fun hq => absurd (puren _ _ _ _ _ _ _ (fun q => c481 q.2.2.1)) hq) (fun _ => ?_)
                refine Go.iconst (pc' := 278) W497 (1 : Int32) d_code_277 (by decide) rfl ?_
                refine Go.goto W497 282 d_code_278 (by decide) ?_
                refine Go.nret (z' := (1 : Int32)) W497 (by simp) (by decide) d_code_282 (by first | exact Nat.le_of_ble_eq_true rfl | (simp; done) | (simp; omega) | omega) (by first | exact Nat.le_of_ble_eq_true rfl | (simp; done) | (simp; omega) | omega) ?_
                rfl
              · refine Go.aload (pc' := 232) W444 d_code_230 rfl rfl rfl ?_
                refine Go.iconst (pc' := 233) W444 (3 : Int32) d_code_232 (by decide) rfl ?_
                refine Go.caload (pc' := 234) W444 (Or.inl (List.mem_of_getElem? (i := 0) rfl)) A446 3 (by decide) (by decide) rfl d_code_233 rfl ?_
                refine Go.bipush (pc' := 236) W444 (100 : Int32) d_code_234 (by decide) rfl ?_
                refine Go.icmp_ne (pc' := 239) W444 243 d_code_236 (by decide) rfl (fun (c498 : ¬ ((((chi.toUInt32 >>> ((24 : Int32) &&& 31).toUInt32).toInt32) &&& (255 : Int32)) = (100 : Int32))) => ?_) (fun (c498 : (((chi.toUInt32 >>> ((24 : Int32) &&& 31).toUInt32).toInt32) &&& (255 : Int32)) = (100 : Int32)) => ?_)
                · refine Go.iconst (pc' := 244) W444 (0 : Int32) d_code_243 (by decide) rfl ?_
                  refine Go.istore (pc' := 246) W444 #[.val (.int sel), .val (.int shape), .val (.int pos), .val (.int chi), .val (.int (2 : Int32)), .val (.ref a374), .val (.ref adD), .val (.int (5 : Int32)), .val (.int jj.toInt32), .val (.int (chi &&& (255 : Int32))), .val (.int (3 : Int32)), .val (.int (((shape.toUInt32 >>> ((2 : Int32) &&& 31).toUInt32).toInt32) &&& (3 : Int32))), .val (.ref a428), .val (.int (0 : Int32)), .unset] d_code_244 rfl rfl ?_
                  refine Go.iload (pc' := 248) W444 d_code_246 rfl rfl ?_
                  refine Go.if_eq (pc' := 251) W444 257 d_code_248 (by decide) rfl (fun _ => ?_) (fun q => absurd (by decide) q)
                  refine Go.aconstNull (pc' := 258) W444 d_code_257 rfl ?_
                  refine Go.astore (pc' := 260) W444 #[.val (.int sel), .val (.int shape), .val (.int pos), .val (.int chi), .val (.int (2 : Int32)), .val (.ref a374), .val (.ref adD), .val (.int (5 : Int32)), .val (.int jj.toInt32), .val (.int (chi &&& (255 : Int32))), .val (.int (3 : Int32)), .val (.int (((shape.toUInt32 >>> ((2 : Int32) &&& 31).toUInt32).toInt32) &&& (3 : Int32))), .val (.ref a428), .val (.int (0 : Int32)), .val (.null)] d_code_258 rfl rfl rfl ?_
                  refine Go.new (pc' := 263) W444 (w_54 G) (w_3 G) (w_2 G) d_code_260 rfl (by first | exact Nat.le_of_ble_eq_true rfl | (simp; done) | (simp; omega) | omega) (by first | exact Nat.le_of_ble_eq_true rfl | (simp; done) | (simp; omega) | omega) (fun T499 a501 c502 W500 O503 D504 => ?_)
                  replace W500 : Wk l Z EL1 ({ frames := 9, cells := 24, slots := 4288, locals := 192 } : Room) "com/example/grantline/grantline/enforcer/PermissionFromScopeNamePinLaw" code 15 (some .boolean) "law" X [(a501, c502), (a428, c445)] [(a374, c376), (b375, c377)] T499 4 (32) := W500
                  have F505 : FldC Z c502 "java/lang/String" "value" "[B" (.null) := D504 (Or.inr (w_5 G)) (ty := (.array .byte)) (by decide)
                  have F506 : FldC Z c502 "java/lang/String" "coder" "B" (.int (0 : Int32)) := D504 (Or.inr (w_6 G)) (ty := .byte) (by decide)
                  refine Go.dup (pc' := 264) W500 d_code_263 rfl rfl ?_
                  refine Go.aload (pc' := 266) W500 d_code_264 rfl rfl rfl ?_
                  refine Go.special (pc' := 269) W500 (a := a501) (rm_initC G a501 a428 c502 c445 [chi &&& (255 : Int32), ((chi.toUInt32 >>> ((8 : Int32) &&& 31).toUInt32).toInt32) &&& (255 : Int32), ((chi.toUInt32 >>> ((16 : Int32) &&& 31).toUInt32).toInt32) &&& (255 : Int32), ((chi.toUInt32 >>> ((24 : Int32) &&& 31).toUInt32).toInt32) &&& (255 : Int32)] A446 O503 F506 F505 (Lat.cons (and255 _) (Lat.cons (and255 _) (Lat.cons (and255 _) (Lat.cons (and255 _) Lat.nil)))) (by simp) (show ¬ (4 : Nat).toInt32 = 0 by decide)) rfl (w_56 G) (w_57 G) (w_2 G) (w_58 G) (by decide) [0, 0] [] (σf := []) rfl rfl [(.ref a428)] [(.ref a501)] rfl (lenOf pd_22 rfl) rfl rfl d_code_266 rfl (by first | exact Nat.le_of_ble_eq_true rfl | (simp; done) | (simp; omega) | omega) (by first | exact Nat.le_of_ble_eq_true rfl | (simp; done) | (simp; omega) | omega) (by first | exact Nat.le_of_ble_eq_true rfl | (simp; done) | (simp; omega) | omega) (by first | exact Nat.le_of_ble_eq_true rfl | (simp; done) | (simp; omega) | omega) ?_
                  rintro _ _ _ T511 ⟨c507, b508, c509, rfl, rfl, rfl, S510⟩ W512
                  replace W512 : Wk l Z EL1 ({ frames := 9, cells := 24, slots := 4288, locals := 192 } : Room) "com/example/grantline/grantline/enforcer/PermissionFromScopeNamePinLaw" code 15 (some .boolean) "law" X [(a428, c445)] [(a501, c507), (b508, c509), (a374, c376), (b375, c377)] T511 5 (36) := W512
                  show Go Z EL1 _ _ _ X T511 269 #[.val (.int sel), .val (.int shape), .val (.int pos), .val (.int chi), .val (.int (2 : Int32)), .val (.ref a374), .val (.ref adD), .val (.int (5 : Int32)), .val (.int jj.toInt32), .val (.int (chi &&& (255 : Int32))), .val (.int (3 : Int32)), .val (.int (((shape.toUInt32 >>> ((2 : Int32) &&& 31).toUInt32).toInt32) &&& (3 : Int32))), .val (.ref a428), .val (.int (0 : Int32)), .val (.null)] [(.ref a501)]
                  refine Go.static (pc' := 272) W512 (rm_fsn G adA adB adC adD adE adF adG adH adI adJ ceA ceB ceC ceD ceE ceF ceG ceH ceI ceJ hzA obA fdA hzB obB arA hzC obC fdB hzD obD fdC hzE slA hzF slB hzG slC hzH hzI hzJ stA stB stC stD a501 b508 c507 c509 [chi &&& (255 : Int32), ((chi.toUInt32 >>> ((8 : Int32) &&& 31).toUInt32).toInt32) &&& (255 : Int32), ((chi.toUInt32 >>> ((16 : Int32) &&& 31).toUInt32).toInt32) &&& (255 : Int32), ((chi.toUInt32 >>> ((24 : Int32) &&& 31).toUInt32).toInt32) &&& (255 : Int32)] S510) (w_25 G) (w_26 G) (w_10 G) (w_27 G) (by decide) [] [0, 1] (σf := [(a428, c445)]) rfl rfl [(.ref a501)] [] rfl (lenOf pd_24 rfl) rfl rfl d_code_269 rfl (by first | exact Nat.le_of_ble_eq_true rfl | (simp; done) | (simp; omega) | omega) (by first | exact Nat.le_of_ble_eq_true rfl | (simp; done) | (simp; omega) | omega) (by first | exact Nat.le_of_ble_eq_true rfl | (simp; done) | (simp; omega) | omega) (by first | exact Nat.le_of_ble_eq_true rfl | (simp; done) | (simp; omega) | omega) ?_
                  rintro _ _ _ T513 ⟨rfl, rfl, rfl⟩ W514
                  replace W514 : Wk l Z EL1 ({ frames := 9, cells := 24, slots := 4288, locals := 192 } : Room) "com/example/grantline/grantline/enforcer/PermissionFromScopeNamePinLaw" code 15 (some .boolean) "law" X [(a428, c445)] [(a501, c507), (b508, c509), (a374, c376), (b375, c377)] T513 6 (39) := W514
                  show Go Z EL1 _ _ _ X T513 272 #[.val (.int sel), .val (.int shape), .val (.int pos), .val (.int chi), .val (.int (2 : Int32)), .val (.ref a374), .val (.ref adD), .val (.int (5 : Int32)), .val (.int jj.toInt32), .val (.int (chi &&& (255 : Int32))), .val (.int (3 : Int32)), .val (.int (((shape.toUInt32 >>> ((2 : Int32) &&& 31).toUInt32).toInt32) &&& (3 : Int32))), .val (.ref a428), .val (.int (0 : Int32)), .val (.null)] [(fsn adA adC adD [chi &&& (255 : Int32), ((chi.toUInt32 >>> ((8 : Int32) &&& 31).toUInt32).toInt32) &&& (255 : Int32), ((chi.toUInt32 >>> ((16 : Int32) &&& 31).toUInt32).toInt32) &&& (255 : Int32), ((chi.toUInt32 >>> ((24 : Int32) &&& 31).toUInt32).toInt32) &&& (255 : Int32)])]
                  refine Go.aload (pc' := 274) W514 d_code_272 rfl rfl rfl ?_
                  refine Go.acmp_ne (pc' := 277) W514 281 (fsn_ref _ _ _ _) rfl d_code_274 (by decide) rfl (fun hq => absurd (puren _ _ _ _ _ _ _ (fun q => c498 q.2.2.2)) hq) (fun _ => ?_)
                  refine Go.iconst (pc' := 278) W514 (1 : Int32) d_code_277 (by decide) rfl ?_
                  refine Go.goto W514 282 d_code_278 (by decide) ?_
                  refine Go.nret (z' := (1 : Int32)) W514 (by simp) (by decide) d_code_282 (by first | exact Nat.le_of_ble_eq_true rfl | (simp; done) | (simp; omega) | omega) (by first | exact Nat.le_of_ble_eq_true rfl | (simp; done) | (simp; omega) | omega) ?_
                  rfl
                · refine Go.iconst (pc' := 240) W444 (1 : Int32) d_code_239 (by decide) rfl ?_
                  refine Go.goto W444 244 d_code_240 (by decide) ?_
                  refine Go.istore (pc' := 246) W444 #[.val (.int sel), .val (.int shape), .val (.int pos), .val (.int chi), .val (.int (2 : Int32)), .val (.ref a374), .val (.ref adD), .val (.int (5 : Int32)), .val (.int jj.toInt32), .val (.int (chi &&& (255 : Int32))), .val (.int (3 : Int32)), .val (.int (((shape.toUInt32 >>> ((2 : Int32) &&& 31).toUInt32).toInt32) &&& (3 : Int32))), .val (.ref a428), .val (.int (1 : Int32)), .unset] d_code_244 rfl rfl ?_
                  refine Go.iload (pc' := 248) W444 d_code_246 rfl rfl ?_
                  refine Go.if_eq (pc' := 251) W444 257 d_code_248 (by decide) rfl (fun q => absurd q (by decide)) (fun _ => ?_)
                  refine Go.getstatic (pc' := 254) W444 (w_53 G) Via.refl stC d_code_251 rfl (fun T515 W516 => ?_)
                  refine Go.goto W516 258 d_code_254 (by decide) ?_
                  refine Go.astore (pc' := 260) W516 #[.val (.int sel), .val (.int shape), .val (.int pos), .val (.int chi), .val (.int (2 : Int32)), .val (.ref a374), .val (.ref adD), .val (.int (5 : Int32)), .val (.int jj.toInt32), .val (.int (chi &&& (255 : Int32))), .val (.int (3 : Int32)), .val (.int (((shape.toUInt32 >>> ((2 : Int32) &&& 31).toUInt32).toInt32) &&& (3 : Int32))), .val (.ref a428), .val (.int (1 : Int32)), .val (.ref adC)] d_code_258 rfl rfl rfl ?_
                  refine Go.new (pc' := 263) W516 (w_54 G) (w_3 G) (w_2 G) d_code_260 rfl (by first | exact Nat.le_of_ble_eq_true rfl | (simp; done) | (simp; omega) | omega) (by first | exact Nat.le_of_ble_eq_true rfl | (simp; done) | (simp; omega) | omega) (fun T517 a519 c520 W518 O521 D522 => ?_)
                  replace W518 : Wk l Z EL1 ({ frames := 9, cells := 24, slots := 4288, locals := 192 } : Room) "com/example/grantline/grantline/enforcer/PermissionFromScopeNamePinLaw" code 15 (some .boolean) "law" X [(a519, c520), (a428, c445)] [(a374, c376), (b375, c377)] T517 4 (32) := W518
                  have F523 : FldC Z c520 "java/lang/String" "value" "[B" (.null) := D522 (Or.inr (w_5 G)) (ty := (.array .byte)) (by decide)
                  have F524 : FldC Z c520 "java/lang/String" "coder" "B" (.int (0 : Int32)) := D522 (Or.inr (w_6 G)) (ty := .byte) (by decide)
                  refine Go.dup (pc' := 264) W518 d_code_263 rfl rfl ?_
                  refine Go.aload (pc' := 266) W518 d_code_264 rfl rfl rfl ?_
                  refine Go.special (pc' := 269) W518 (a := a519) (rm_initC G a519 a428 c520 c445 [chi &&& (255 : Int32), ((chi.toUInt32 >>> ((8 : Int32) &&& 31).toUInt32).toInt32) &&& (255 : Int32), ((chi.toUInt32 >>> ((16 : Int32) &&& 31).toUInt32).toInt32) &&& (255 : Int32), ((chi.toUInt32 >>> ((24 : Int32) &&& 31).toUInt32).toInt32) &&& (255 : Int32)] A446 O521 F524 F523 (Lat.cons (and255 _) (Lat.cons (and255 _) (Lat.cons (and255 _) (Lat.cons (and255 _) Lat.nil)))) (by simp) (show ¬ (4 : Nat).toInt32 = 0 by decide)) rfl (w_56 G) (w_57 G) (w_2 G) (w_58 G) (by decide) [0, 0] [] (σf := []) rfl rfl [(.ref a428)] [(.ref a519)] rfl (lenOf pd_22 rfl) rfl rfl d_code_266 rfl (by first | exact Nat.le_of_ble_eq_true rfl | (simp; done) | (simp; omega) | omega) (by first | exact Nat.le_of_ble_eq_true rfl | (simp; done) | (simp; omega) | omega) (by first | exact Nat.le_of_ble_eq_true rfl | (simp; done) | (simp; omega) | omega) (by first | exact Nat.le_of_ble_eq_true rfl | (simp; done) | (simp; omega) | omega) ?_
                  rintro _ _ _ T529 ⟨c525, b526, c527, rfl, rfl, rfl, S528⟩ W530
                  replace W530 : Wk l Z EL1 ({ frames := 9, cells := 24, slots := 4288, locals := 192 } : Room) "com/example/grantline/grantline/enforcer/PermissionFromScopeNamePinLaw" code 15 (some .boolean) "law" X [(a428, c445)] [(a519, c525), (b526, c527), (a374, c376), (b375, c377)] T529 5 (36) := W530
                  show Go Z EL1 _ _ _ X T529 269 #[.val (.int sel), .val (.int shape), .val (.int pos), .val (.int chi), .val (.int (2 : Int32)), .val (.ref a374), .val (.ref adD), .val (.int (5 : Int32)), .val (.int jj.toInt32), .val (.int (chi &&& (255 : Int32))), .val (.int (3 : Int32)), .val (.int (((shape.toUInt32 >>> ((2 : Int32) &&& 31).toUInt32).toInt32) &&& (3 : Int32))), .val (.ref a428), .val (.int (1 : Int32)), .val (.ref adC)] [(.ref a519)]
                  refine Go.static (pc' := 272) W530 (rm_fsn G adA adB adC adD adE adF adG adH adI adJ ceA ceB ceC ceD ceE ceF ceG ceH ceI ceJ hzA obA fdA hzB obB arA hzC obC fdB hzD obD fdC hzE slA hzF slB hzG slC hzH hzI hzJ stA stB stC stD a519 b526 c525 c527 [chi &&& (255 : Int32), ((chi.toUInt32 >>> ((8 : Int32) &&& 31).toUInt32).toInt32) &&& (255 : Int32), ((chi.toUInt32 >>> ((16 : Int32) &&& 31).toUInt32).toInt32) &&& (255 : Int32), ((chi.toUInt32 >>> ((24 : Int32) &&& 31).toUInt32).toInt32) &&& (255 : Int32)] S528) (w_25 G) (w_26 G) (w_10 G) (w_27 G) (by decide) [] [0, 1] (σf := [(a428, c445)]) rfl rfl [(.ref a519)] [] rfl (lenOf pd_24 rfl) rfl rfl d_code_269 rfl (by first | exact Nat.le_of_ble_eq_true rfl | (simp; done) | (simp; omega) | omega) (by first | exact Nat.le_of_ble_eq_true rfl | (simp; done) | (simp; omega) | omega) (by first | exact Nat.le_of_ble_eq_true rfl | (simp; done) | (simp; omega) | omega) (by first | exact Nat.le_of_ble_eq_true rfl | (simp; done) | (simp; omega) | omega) ?_
                  rintro _ _ _ T531 ⟨rfl, rfl, rfl⟩ W532
                  replace W532 : Wk l Z EL1 ({ frames := 9, cells := 24, slots := 4288, locals := 192 } : Room) "com/example/grantline/grantline/enforcer/PermissionFromScopeNamePinLaw" code 15 (some .boolean) "law" X [(a428, c445)] [(a519, c525), (b526, c527), (a374, c376), (b375, c377)] T531 6 (39) := W532
                  show Go Z EL1 _ _ _ X T531 272 #[.val (.int sel), .val (.int shape), .val (.int pos), .val (.int chi), .val (.int (2 : Int32)), .val (.ref a374), .val (.ref adD), .val (.int (5 : Int32)), .val (.int jj.toInt32), .val (.int (chi &&& (255 : Int32))), .val (.int (3 : Int32)), .val (.int (((shape.toUInt32 >>> ((2 : Int32) &&& 31).toUInt32).toInt32) &&& (3 : Int32))), .val (.ref a428), .val (.int (1 : Int32)), .val (.ref adC)] [(fsn adA adC adD [chi &&& (255 : Int32), ((chi.toUInt32 >>> ((8 : Int32) &&& 31).toUInt32).toInt32) &&& (255 : Int32), ((chi.toUInt32 >>> ((16 : Int32) &&& 31).toUInt32).toInt32) &&& (255 : Int32), ((chi.toUInt32 >>> ((24 : Int32) &&& 31).toUInt32).toInt32) &&& (255 : Int32)])]
                  refine Go.aload (pc' := 274) W532 d_code_272 rfl rfl rfl ?_
                  refine Go.acmp_ne (pc' := 277) W532 281 (fsn_ref _ _ _ _) rfl d_code_274 (by decide) rfl (fun hq => absurd (purey _ _ _ _ _ _ _ c447 c464 c481 c498) hq) (fun _ => ?_)
                  refine Go.iconst (pc' := 278) W532 (1 : Int32) d_code_277 (by decide) rfl ?_
                  refine Go.goto W532 282 d_code_278 (by decide) ?_
                  refine Go.nret (z' := (1 : Int32)) W532 (by simp) (by decide) d_code_282 (by first | exact Nat.le_of_ble_eq_true rfl | (simp; done) | (simp; omega) | omega) (by first | exact Nat.le_of_ble_eq_true rfl | (simp; done) | (simp; omega) | omega) ?_
                  rfl
        · refine Go.new (pc' := 130) W386 (w_54 G) (w_3 G) (w_2 G) d_code_127 rfl (by first | exact Nat.le_of_ble_eq_true rfl | (simp; done) | (simp; omega) | omega) (by first | exact Nat.le_of_ble_eq_true rfl | (simp; done) | (simp; omega) | omega) (fun T533 a535 c536 W534 O537 D538 => ?_)
          replace W534 : Wk l Z EL1 ({ frames := 9, cells := 24, slots := 4288, locals := 192 } : Room) "com/example/grantline/grantline/enforcer/PermissionFromScopeNamePinLaw" code 15 (some .boolean) "law" X [(a535, c536)] [(a374, c376), (b375, c377)] T533 3 (28) := W534
          have F539 : FldC Z c536 "java/lang/String" "value" "[B" (.null) := D538 (Or.inr (w_5 G)) (ty := (.array .byte)) (by decide)
          have F540 : FldC Z c536 "java/lang/String" "coder" "B" (.int (0 : Int32)) := D538 (Or.inr (w_6 G)) (ty := .byte) (by decide)
          refine Go.dup (pc' := 131) W534 d_code_130 rfl rfl ?_
          refine Go.iconst (pc' := 132) W534 (0 : Int32) d_code_131 (by decide) rfl ?_
          refine Go.newarr (pc' := 134) W534 .char rfl 0 (w_55 G) d_code_132 rfl (by decide) (by decide) (by decide) (by first | exact Nat.le_of_ble_eq_true rfl | (simp; done) | (simp; omega) | omega) (by first | exact Nat.le_of_ble_eq_true rfl | (simp; done) | (simp; omega) | omega) (fun T541 a543 c544 W542 A545 => ?_)
          replace W542 : Wk l Z EL1 ({ frames := 9, cells := 24, slots := 4288, locals := 192 } : Room) "com/example/grantline/grantline/enforcer/PermissionFromScopeNamePinLaw" code 15 (some .boolean) "law" X [(a543, c544), (a535, c536)] [(a374, c376), (b375, c377)] T541 4 (28) := W542
          replace A545 : ArrC Z c544 .char [] := A545
          refine Go.special (pc' := 137) W542 (a := a535) (rm_initC0 G a535 a543 c536 c544 A545 O537 F540 F539) rfl (w_56 G) (w_57 G) (w_2 G) (w_58 G) (by decide) [1, 0] [] (σf := []) rfl rfl [(.ref a543)] [(.ref a535)] rfl (lenOf pd_22 rfl) rfl rfl d_code_134 rfl (by first | exact Nat.le_of_ble_eq_true rfl | (simp; done) | (simp; omega) | omega) (by first | exact Nat.le_of_ble_eq_true rfl | (simp; done) | (simp; omega) | omega) (by first | exact Nat.le_of_ble_eq_true rfl | (simp; done) | (simp; omega) | omega) (by first | exact Nat.le_of_ble_eq_true rfl | (simp; done) | (simp; omega) | omega) ?_
          rintro _ _ _ T550 ⟨c546, b547, c548, rfl, rfl, rfl, S549⟩ W551
          replace W551 : Wk l Z EL1 ({ frames := 9, cells := 24, slots := 4288, locals := 192 } : Room) "com/example/grantline/grantline/enforcer/PermissionFromScopeNamePinLaw" code 15 (some .boolean) "law" X [(a543, c544)] [(a535, c546), (b547, c548), (a374, c376), (b375, c377)] T550 8 (36) := W551
          show Go Z EL1 _ _ _ X T550 137 #[.val (.int sel), .val (.int shape), .val (.int pos), .val (.int chi), .val (.int (2 : Int32)), .val (.ref a374), .val (.ref adD), .val (.int (5 : Int32)), .val (.int jj.toInt32), .val (.int (chi &&& (255 : Int32))), .val (.int (3 : Int32)), .val (.int (((shape.toUInt32 >>> ((2 : Int32) &&& 31).toUInt32).toInt32) &&& (3 : Int32))), .unset, .unset, .unset] [(.ref a535)]
          refine Go.static (pc' := 140) W551 (rm_fsn G adA adB adC adD adE adF adG adH adI adJ ceA ceB ceC ceD ceE ceF ceG ceH ceI ceJ hzA obA fdA hzB obB arA hzC obC fdB hzD obD fdC hzE slA hzF slB hzG slC hzH hzI hzJ stA stB stC stD a535 b547 c546 c548 [] S549) (w_25 G) (w_26 G) (w_10 G) (w_27 G) (by decide) [] [0, 1] (σf := [(a543, c544)]) rfl rfl [(.ref a535)] [] rfl (lenOf pd_24 rfl) rfl rfl d_code_137 rfl (by first | exact Nat.le_of_ble_eq_true rfl | (simp; done) | (simp; omega) | omega) (by first | exact Nat.le_of_ble_eq_true rfl | (simp; done) | (simp; omega) | omega) (by first | exact Nat.le_of_ble_eq_true rfl | (simp; done) | (simp; omega) | omega) (by first | exact Nat.le_of_ble_eq_true rfl | (simp; done) | (simp; omega) | omega) ?_
          rintro _ _ _ T552 ⟨rfl, rfl, rfl⟩ W553
          replace W553 : Wk l Z EL1 ({ frames := 9, cells := 24, slots := 4288, locals := 192 } : Room) "com/example/grantline/grantline/enforcer/PermissionFromScopeNamePinLaw" code 15 (some .boolean) "law" X [(a543, c544)] [(a535, c546), (b547, c548), (a374, c376), (b375, c377)] T552 9 (39) := W553
          show Go Z EL1 _ _ _ X T552 140 #[.val (.int sel), .val (.int shape), .val (.int pos), .val (.int chi), .val (.int (2 : Int32)), .val (.ref a374), .val (.ref adD), .val (.int (5 : Int32)), .val (.int jj.toInt32), .val (.int (chi &&& (255 : Int32))), .val (.int (3 : Int32)), .val (.int (((shape.toUInt32 >>> ((2 : Int32) &&& 31).toUInt32).toInt32) &&& (3 : Int32))), .unset, .unset, .unset] [(fsn adA adC adD [])]
          rw [show fsn adA adC adD [] = .null from by simp [fsn]]
          refine Go.ifnonnull_no (pc' := 143) W553 d_code_140 rfl ?_
          refine Go.iconst (pc' := 144) W553 (1 : Int32) d_code_143 (by decide) rfl ?_
          refine Go.goto W553 148 d_code_144 (by decide) ?_
          refine Go.nret (z' := (1 : Int32)) W553 (by simp) (by decide) d_code_148 (by first | exact Nat.le_of_ble_eq_true rfl | (simp; done) | (simp; omega) | omega) (by first | exact Nat.le_of_ble_eq_true rfl | (simp; done) | (simp; omega) | omega) ?_
          rfl
      · refine Go.aconstNull (pc' := 109) W386 d_code_108 rfl ?_
        refine Go.static (pc' := 112) W386 (rm_fsnN G adA adB adC adD adE adF adG adH adI adJ ceA ceB ceC ceD ceE ceF ceG ceH ceI ceJ hzA obA fdA hzB obB arA hzC obC fdB hzD obD fdC hzE slA hzF slB hzG slC hzH hzI hzJ stA stB stC stD) (w_25 G) (w_26 G) (w_10 G) (w_27 G) (by decide) [] [] (σf := []) rfl rfl [(.null)] [] rfl (lenOf pd_24 rfl) rfl rfl d_code_109 rfl (by first | exact Nat.le_of_ble_eq_true rfl | (simp; done) | (simp; omega) | omega) (by first | exact Nat.le_of_ble_eq_true rfl | (simp; done) | (simp; omega) | omega) (by first | exact Nat.le_of_ble_eq_true rfl | (simp; done) | (simp; omega) | omega) (by first | exact Nat.le_of_ble_eq_true rfl | (simp; done) | (simp; omega) | omega) ?_
        rintro _ _ _ T554 ⟨rfl, rfl, rfl⟩ W555
        replace W555 : Wk l Z EL1 ({ frames := 9, cells := 24, slots := 4288, locals := 192 } : Room) "com/example/grantline/grantline/enforcer/PermissionFromScopeNamePinLaw" code 15 (some .boolean) "law" X [] [(a374, c376), (b375, c377)] T554 3 (27) := W555
        show Go Z EL1 _ _ _ X T554 112 #[.val (.int sel), .val (.int shape), .val (.int pos), .val (.int chi), .val (.int (2 : Int32)), .val (.ref a374), .val (.ref adD), .val (.int (5 : Int32)), .val (.int jj.toInt32), .val (.int (chi &&& (255 : Int32))), .val (.int (3 : Int32)), .val (.int (((shape.toUInt32 >>> ((2 : Int32) &&& 31).toUInt32).toInt32) &&& (3 : Int32))), .unset, .unset, .unset] [(.null)]
        refine Go.ifnonnull_no (pc' := 115) W555 d_code_112 rfl ?_
        refine Go.iconst (pc' := 116) W555 (1 : Int32) d_code_115 (by decide) rfl ?_
        refine Go.goto W555 120 d_code_116 (by decide) ?_
        refine Go.nret (z' := (1 : Int32)) W555 (by simp) (by decide) d_code_120 (by first | exact Nat.le_of_ble_eq_true rfl | (simp; done) | (simp; omega) | omega) (by first | exact Nat.le_of_ble_eq_true rfl | (simp; done) | (simp; omega) | omega) ?_
        rfl
set_option maxRecDepth 65536 in
set_option maxHeartbeats 40000000 in
theorem comes_1 {Post : Tables → Env → Array Value → State → Outcome → State → Prop} (hpost : ∀ tb e args s v u, (limb_1_1.after args s (.returned v) u = true ∧ limb_1_2.after args s (.returned v) u = true ∧ True) → ReturnedEndW s (.returned v) u (Jvm.fieldLocs frame_1_writes args s ++ Jvm.arrayLocs frame_1_arrays args s ++ Jvm.staticLocs frame_1_statics s) 24 4288 → Post tb e args s (.returned v) u) :
    ArmFor flags0 classFile x code maxLocals ret World_1 tables_1 room_1 Calls_1 rest_1 Pre_1 Post := by
  intro l hfl _ _ p e ha hc hk s m args below hf hA hF happ hP
  obtain ⟨hcalls, hrest, hpre⟩ := hP
  obtain ⟨-, -, -, hnamed, -, -, -, hat⟩ := (Spec.applies_iff hf).mp happ
  obtain ⟨hg, hn⟩ := and_e (Cond.before_iff.mp (show (Jvm.Cond.and given_1 narrow_1).before args s = true from hpre))
  obtain ⟨g0, h0⟩ := and_e hg
  obtain ⟨g1, h1⟩ := and_e h0
  obtain ⟨g2, h2⟩ := and_e h1
  obtain ⟨g3, h3⟩ := and_e h2
  have g4 := h3
  obtain ⟨w0, w1, w2, w3, rfl⟩ : ∃ w0 w1 w2 w3 : Value, args = #[w0, w1, w2, w3] := by
    have hs : args.size = 4 := by simpa [Cond.value, given_1] using g0
    obtain ⟨L⟩ := args
    match L, hs with
    | [w0, w1, w2, w3], _ => exact ⟨w0, w1, w2, w3, rfl⟩
  have hw := fun d (hd : d ∈ tables_1) => atoms_spec (ws := Jvm.Cond.code x code maxLocals ret :: tables_1) hat d (List.mem_cons_of_mem _ hd)
  obtain ⟨hsets, hown0⟩ := atoms_of _ (rest_1_c_eq ▸ (show rest_1_c.before _ s = true from hrest))
  have hfit : Fit s := fun {y c} hc i hi => by
    obtain ⟨ha, rfl⟩ := Array.getElem?_eq_some_iff.mp hc
    have q := List.all_eq_true.mp ((Array.all_eq_true_iff_forall_mem.mp hF) _ (Array.getElem_mem ha)) i (List.mem_range.mpr hi)
    simpa [Array.getElem?_eq_getElem hi] using q
  obtain ⟨i0, e0⟩ := is_v g1
  obtain rfl : w0 = (.int i0) := Option.some.inj e0
  obtain ⟨i1, e1⟩ := is_v g2
  obtain rfl : w1 = (.int i1) := Option.some.inj e1
  obtain ⟨i2, e2⟩ := is_v g3
  obtain rfl : w2 = (.int i2) := Option.some.inj e2
  obtain ⟨i3, e3⟩ := is_v g4
  obtain rfl : w3 = (.int i3) := Option.some.inj e3
  have n5 := not_v (Cond.before_iff.mp (hsets _ (List.mem_of_getElem? (i := 2) rfl)))
  obtain ⟨icv, ecv⟩ := is_v (Cond.before_iff.mp (hsets _ (List.mem_of_getElem? (i := 1) rfl)))
  have Scv : Sta s s.heap "java/lang/String" "COMPACT_STRINGS" "Z" (.int icv) := Sta.start ecv (Or.inl (hsets _ (List.mem_of_getElem? (i := 0) rfl)))
  have ccv : ¬ (icv = (0 : Int32)) := gotF (Cond.eq_ints ecv (Term.int_eval (0))) n5
  have hEL : EW s _ EL1 := (EW.cons (text := "configure") (hw _ (List.mem_of_getElem? (l := tables_1) (i := 1) rfl)) (by decide +kernel) (EW.cons (text := "read") (hw _ (List.mem_of_getElem? (l := tables_1) (i := 52) rfl)) (by decide +kernel) (EW.cons (text := "write") (hw _ (List.mem_of_getElem? (l := tables_1) (i := 113) rfl)) (by decide +kernel) (EW.cons (text := "") (hw _ (List.mem_of_getElem? (l := tables_1) (i := 66) rfl)) (by decide +kernel) EW.nil))))
  obtain ⟨moA, nxA⟩ := and_e hn
  obtain ⟨moB, nxB⟩ := and_e nxA
  obtain ⟨moC, nxC⟩ := and_e nxB
  obtain ⟨moD, nxD⟩ := and_e nxC
  obtain ⟨moE, nxE⟩ := and_e nxD
  obtain ⟨moF, nxF⟩ := and_e nxE
  obtain ⟨moG, nxG⟩ := and_e nxF
  obtain ⟨moH, nxH⟩ := and_e nxG
  obtain ⟨moI, nxI⟩ := and_e nxH
  obtain ⟨moJ, nxJ⟩ := and_e nxI
  obtain ⟨moK, nxK⟩ := and_e nxJ
  obtain ⟨moL, nxL⟩ := and_e nxK
  obtain ⟨moM, nxM⟩ := and_e nxL
  obtain ⟨moN, nxN⟩ := and_e nxM
  obtain ⟨moO, nxO⟩ := and_e nxN
  obtain ⟨moP, nxP⟩ := and_e nxO
  obtain ⟨moQ, nxQ⟩ := and_e nxP
  obtain ⟨moR, nxR⟩ := and_e nxQ
  obtain ⟨moS, nxS⟩ := and_e nxR
  obtain ⟨moT, nxT⟩ := and_e nxS
  obtain ⟨moU, nxU⟩ := and_e nxT
  obtain ⟨moV, nxV⟩ := and_e nxU
  obtain ⟨moW, nxW⟩ := and_e nxV
  obtain ⟨moX, nxX⟩ := and_e nxW
  obtain ⟨moY, nxY⟩ := and_e nxX
  obtain ⟨moZ, nxZ⟩ := and_e nxY
  obtain ⟨moAA, nxAA⟩ := and_e nxZ
  obtain ⟨moAB, nxAB⟩ := and_e nxAA
  obtain ⟨moAC, nxAC⟩ := and_e nxAB
  obtain ⟨moAD, nxAD⟩ := and_e nxAC
  obtain ⟨moAE, nxAE⟩ := and_e nxAD
  obtain ⟨moAF, nxAF⟩ := and_e nxAE
  obtain ⟨moAG, nxAG⟩ := and_e nxAF
  obtain ⟨moAH, nxAH⟩ := and_e nxAG
  obtain ⟨moAI, nxAI⟩ := and_e nxAH
  obtain ⟨moAJ, nxAJ⟩ := and_e nxAI
  obtain ⟨moAK, nxAK⟩ := and_e nxAJ
  obtain ⟨moAL, nxAL⟩ := and_e nxAK
  have moAM := nxAL
  obtain ⟨adA, ceA, evA, hzA, obA⟩ := objC_start moA
  obtain ⟨adB, ceB, evB, hzB, obB⟩ := objC_start moC
  obtain ⟨adC, ceC, evC, hzC, obC⟩ := objC_start moF
  obtain ⟨adD, ceD, evD, hzD, obD⟩ := objC_start moH
  obtain ⟨adE, ceE, evE, hzE, obE⟩ := objC_start moJ
  obtain ⟨adF, ceF, evF, hzF, obF⟩ := objC_start moK
  obtain ⟨adG, ceG, evG, hzG, obG⟩ := objC_start moL
  obtain ⟨adH, evH⟩ := arr_v moN
  obtain ⟨ceH, akH⟩ := Arr.start evH moN
  have hzH := akH.1
  obtain ⟨adI, evI⟩ := arr_v moQ
  obtain ⟨ceI, akI⟩ := Arr.start evI moQ
  have hzI := akI.1
  obtain ⟨adJ, evJ⟩ := arr_v moT
  obtain ⟨ceJ, akJ⟩ := Arr.start evJ moT
  have hzJ := akJ.1
  have stA : Sta s s.heap "com/example/grantline/grantline/enforcer/Permission" "CONFIGURE" "Lcom/example/grantline/grantline/enforcer/Permission;" (.ref adA) := Sta.start evA (Or.inr ⟨hw _ (List.mem_of_getElem? (l := tables_1) (i := 10) rfl), hw _ (List.mem_of_getElem? (l := tables_1) (i := 11) rfl)⟩)
  have stB : Sta s s.heap "com/example/grantline/grantline/enforcer/Permission" "$VALUES" "[Lcom/example/grantline/grantline/enforcer/Permission;" (.ref adB) := Sta.start evB (Or.inr ⟨hw _ (List.mem_of_getElem? (l := tables_1) (i := 10) rfl), hw _ (List.mem_of_getElem? (l := tables_1) (i := 32) rfl)⟩)
  have stC : Sta s s.heap "com/example/grantline/grantline/enforcer/Permission" "READ" "Lcom/example/grantline/grantline/enforcer/Permission;" (.ref adC) := Sta.start evC (Or.inr ⟨hw _ (List.mem_of_getElem? (l := tables_1) (i := 10) rfl), hw _ (List.mem_of_getElem? (l := tables_1) (i := 40) rfl)⟩)
  have stD : Sta s s.heap "com/example/grantline/grantline/enforcer/Permission" "WRITE" "Lcom/example/grantline/grantline/enforcer/Permission;" (.ref adD) := Sta.start evD (Or.inr ⟨hw _ (List.mem_of_getElem? (l := tables_1) (i := 10) rfl), hw _ (List.mem_of_getElem? (l := tables_1) (i := 41) rfl)⟩)
  have fdA : FldC s ceA "com/example/grantline/grantline/enforcer/Permission" "scopeName" "Ljava/lang/String;" (.ref adE) := fldC_start evA hzA evE
  have fdB : FldC s ceC "com/example/grantline/grantline/enforcer/Permission" "scopeName" "Ljava/lang/String;" (.ref adF) := fldC_start evC hzC evF
  have fdC : FldC s ceD "com/example/grantline/grantline/enforcer/Permission" "scopeName" "Ljava/lang/String;" (.ref adG) := fldC_start evD hzD evG
  have fdD : FldC s ceE "java/lang/String" "value" "[B" (.ref adH) := fldC_start evE hzE evH
  have fdE : FldC s ceF "java/lang/String" "value" "[B" (.ref adI) := fldC_start evF hzF evI
  have fdF : FldC s ceG "java/lang/String" "value" "[B" (.ref adJ) := fldC_start evG hzG evJ
  have fdG : FldC s ceE "java/lang/String" "coder" "B" (.int (0 : Int32)) := fldC_start evE hzE (eqI moM)
  have fdH : FldC s ceF "java/lang/String" "coder" "B" (.int (0 : Int32)) := fldC_start evF hzF (eqI moP)
  have fdI : FldC s ceG "java/lang/String" "coder" "B" (.int (0 : Int32)) := fldC_start evG hzG (eqI moS)
  have arA : ArrC s ceB (.object "com/example/grantline/grantline/enforcer/Permission") [(.ref adA), (.ref adC), (.ref adD)] := arrC_start hfit evB hzB moB (eqI moD) _ rfl (by simp) ⟨eqR moE evA, eqR moG evC, eqR moI evD, trivial⟩
  have arB : ArrC s ceH .byte [(.int (99 : Int32)), (.int (111 : Int32)), (.int (110 : Int32)), (.int (102 : Int32)), (.int (105 : Int32)), (.int (103 : Int32)), (.int (117 : Int32)), (.int (114 : Int32)), (.int (101 : Int32))] := arrC_start hfit evH hzH moN (eqI moO) _ rfl (by simp) ⟨eqI moZ, eqI moAA, eqI moAB, eqI moAC, eqI moAD, eqI moAE, eqI moAF, eqI moAG, eqI moAH, trivial⟩
  have arC : ArrC s ceI .byte [(.int (114 : Int32)), (.int (101 : Int32)), (.int (97 : Int32)), (.int (100 : Int32))] := arrC_start hfit evI hzI moQ (eqI moR) _ rfl (by simp) ⟨eqI moV, eqI moW, eqI moX, eqI moY, trivial⟩
  have arD : ArrC s ceJ .byte [(.int (119 : Int32)), (.int (114 : Int32)), (.int (105 : Int32)), (.int (116 : Int32)), (.int (101 : Int32))] := arrC_start hfit evJ hzJ moT (eqI moU) _ rfl (by simp) ⟨eqI moAI, eqI moAJ, eqI moAK, eqI moAL, eqI moAM, trivial⟩
  have slA : StrL s ceE adH ceH [(99 : Int32), (111 : Int32), (110 : Int32), (102 : Int32), (105 : Int32), (103 : Int32), (117 : Int32), (114 : Int32), (101 : Int32)] := ⟨obE, fdG, fdD, (by rw [show latB [(99 : Int32), (111 : Int32), (110 : Int32), (102 : Int32), (105 : Int32), (103 : Int32), (117 : Int32), (114 : Int32), (101 : Int32)] = [(.int (99 : Int32)), (.int (111 : Int32)), (.int (110 : Int32)), (.int (102 : Int32)), (.int (105 : Int32)), (.int (103 : Int32)), (.int (117 : Int32)), (.int (114 : Int32)), (.int (101 : Int32))] from by decide +kernel]; exact arB), (by decide +kernel : ∀ x ∈ ([(99 : Int32), (111 : Int32), (110 : Int32), (102 : Int32), (105 : Int32), (103 : Int32), (117 : Int32), (114 : Int32), (101 : Int32)] : List Int32), ¬ x < 0 ∧ ¬ (255 : Int32) < x)⟩
  have slB : StrL s ceF adI ceI [(114 : Int32), (101 : Int32), (97 : Int32), (100 : Int32)] := ⟨obF, fdH, fdE, (by rw [show latB [(114 : Int32), (101 : Int32), (97 : Int32), (100 : Int32)] = [(.int (114 : Int32)), (.int (101 : Int32)), (.int (97 : Int32)), (.int (100 : Int32))] from by decide +kernel]; exact arC), (by decide +kernel : ∀ x ∈ ([(114 : Int32), (101 : Int32), (97 : Int32), (100 : Int32)] : List Int32), ¬ x < 0 ∧ ¬ (255 : Int32) < x)⟩
  have slC : StrL s ceG adJ ceJ [(119 : Int32), (114 : Int32), (105 : Int32), (116 : Int32), (101 : Int32)] := ⟨obG, fdI, fdF, (by rw [show latB [(119 : Int32), (114 : Int32), (105 : Int32), (116 : Int32), (101 : Int32)] = [(.int (119 : Int32)), (.int (114 : Int32)), (.int (105 : Int32)), (.int (116 : Int32)), (.int (101 : Int32))] from by decide +kernel]; exact arD), (by decide +kernel : ∀ x ∈ ([(119 : Int32), (114 : Int32), (105 : Int32), (116 : Int32), (101 : Int32)] : List Int32), ¬ x < 0 ∧ ¬ (255 : Int32) < x)⟩
  obtain ⟨vfm, efm, rfm⟩ := isR_v (Cond.before_iff.mp (hsets _ (List.mem_of_getElem? (i := 8) rfl)))
  have Sfm : Sta s s.heap "jdk/internal/util/Preconditions" "SIOOBE_FORMATTER" "Ljava/util/function/BiFunction;" vfm := Sta.start efm (Or.inl (hsets _ (List.mem_of_getElem? (i := 7) rfl)))
  have G : Cl s _ := ⟨hw, hEL, ⟨icv, Scv, ccv⟩, ⟨vfm, Sfm, rfm⟩, trivial⟩
  have hCH : CHv s EL1 s.vm s.heap := CHv.start hEL (fun p hp => hcalls.1 p hp) (hsets _ (List.mem_of_getElem? (i := 2) rfl)) (w_4 G) (w_3 G)
  have H0 : Hp s EL1 [] [] s [] [] s.vm s.heap := ⟨CHr.refl hCH, (fun _ q => nomatch q), (fun _ q => nomatch q), List.nodup_nil, (fun _ q => nomatch q), (fun _ q => nomatch q), (fun _ _ q _ => q), Nat.le_refl _, fun _ _ q => q⟩
  have happ' : (head1 [Jvm.Cond.code x code maxLocals ret] room_1).appliesLoose x e.platform s = true := by
    obtain ⟨q1, q2, q3, q4, q5, q6, q7, q8⟩ := (Spec.appliesLoose_iff hf).mp ((Spec.applies_iff_loose hf).mp happ).1
    refine (Spec.appliesLoose_iff hf).mpr ⟨q1, q2, q3, q4, q5, q6, q7, ?_⟩
    show (Jvm.Cond.and _ .tt).before _ s = true
    rw [Cond.before_and, atoms_spec (ws := Jvm.Cond.code x code maxLocals ret :: tables_1) hat _ (List.mem_cons_self ..)]; rfl
  obtain ⟨n, o, h1, h2, h3, v, σ, ρ, L, rfl, rfl, N, -, hq⟩ := rm_law G i0 i1 i2 i3 adA adB adC adD adE adF adG adH adI adJ ceA ceB ceC ceD ceE ceF ceG ceH ceI ceJ hzA obA fdA hzB obB arA hzC obC fdB hzD obD fdC hzE slA hzF slB hzG slC hzH hzI hzJ stA stB stC stD p e ha hc hk s m _ below hf happ' ⟨rfl, State.Warmed39.refl s, H0⟩ trivial
  refine ⟨n, _, h1, h2, h3, hpost _ _ _ _ _ _ ⟨Cond.after_iff.mpr rfl, Cond.after_iff.mpr (eq_i res_at (Term.int_eval (1)) rfl), trivial⟩ ⟨hq.1, hq.2.1, hq.2.2.1, (hq.2.2.2.sift fun y hy => Or.inr (N y hy)).mono (by decide) (by decide)⟩⟩
theorem main_1_1 : Claimed_1_1 := comes_1 fun _ _ _ _ _ _ h hF => ⟨h.1, hF⟩
theorem main_1_2 : Claimed_1_2 := comes_1 fun _ _ _ _ _ _ h hF => ⟨h.2.1, hF⟩
end Jvm.Pilot.@@N@@
namespace Jvm.Pilot.@@N@@
open Jvm Jvm.ClassFile Sem Op Lib Jvm.Free Jvm.Stand Jvm.Pilot.@@N@@.Jvm.D
/-! MADE BY PROGRAM (witnessworld.py) out of the Statement's table words and the real class files: 22 classes; the members and pool entries that the words name. The judged class is class 1, her method 1. -/
namespace start1
open Jvm.ClassFile
def u (s : String) : CpInfo := .utf8 (stringToUtf16 s)
/-- a pool by its gaps: so many unusable entries, then the entry; so many at the end -/
def gap : Nat → List CpInfo → List CpInfo
  | 0, r => r
  | n + 1, r => .unusable :: gap n r
def poolList (es : List (Nat × CpInfo)) (last : Nat) : List CpInfo := es.foldr (fun e r => gap e.1 (e.2 :: r)) (gap last [])
def pool (es : List (Nat × CpInfo)) (last : Nat) : Array CpInfo := ⟨poolList es last⟩
def fileOf (pool : Array CpInfo) (this : Nat) (attrs : Array Attribute := #[]) (ms : Array MethodInfo := #[]) (fl : Nat := 33) (sup : Nat := 0) (ifs : Array Nat := #[]) (fds : Array FieldInfo := #[]) : ClassFile where
  minorVersion := 0
  majorVersion := 65
  constantPool := pool
  accessFlags := fl
  thisClass := this
  superClass := sup
  interfaces := ifs
  fields := fds
  methods := ms
  attributes := attrs
def plain (name : String) (sup : Option ClassId) : Class where
  name := name
  kind := .ordinary
  loader := none
  accessFlags := 33
  super := sup
  interfaces := #[]
  cf := none
  fields := #[]
  methods := #[]
  instanceTypes := #[]
  staticTypes := #[]
  resolved := #[]
  callSites := []
  init := .initialized
  statics := none
  mirror := none

def pool0 : Array CpInfo := pool [(5, u "<init>"), (0, u "()V"), (1, .class_ 10), (1, u "java/lang/Object"), (85, u "clone"), (0, u "()Ljava/lang/Object;")] 26

def k0c0 : Code := { maxStack := 0, maxLocals := 1, code := object_method_1_code, exceptionTable := #[], attributes := #[] }
def k0m0 : Method := { name := "<init>", desc := "()V", sig := { parameters := [], returnType := none }, accessFlags := 1, code := some k0c0 }
def k0m1 : Method := { name := "clone", desc := "()Ljava/lang/Object;", sig := { parameters := [], returnType := some (.object "java/lang/Object") }, accessFlags := 260, code := none }
/-- java/lang/Object -/
def k0 : Class := { plain "java/lang/Object" none with
  accessFlags := 33
  interfaces := #[]
  cf := some (fileOf pool0 8 #[] #[{ accessFlags := 1, nameIndex := 5, descriptorIndex := 6, attributes := #[] }, { accessFlags := 260, nameIndex := 96, descriptorIndex := 97, attributes := #[] }] 33 0 #[] #[])
  fields := #[]
  methods := #[k0m0, k0m1]
  instanceTypes := #[]
  staticTypes := #[]
  resolved := Array.replicate 124 none
  statics := none }

def pool1 : Array CpInfo := pool [(2, .class_ 4), (1, u "java/lang/Object"), (0, u "<init>"), (0, u "()V"), (0, .integer 2147483647), (0, .string 9), (0, u "configure"), (0, .string 11), (0, u "read"), (0, .string 13), (0, u "write"), (0, .fieldref 15 16), (0, .class_ 17), (0, .nameAndType 18 19), (0, u "com/example/grantline/grantline/enforcer/Permission"), (0, u "CONFIGURE"), (0, u "Lcom/example/grantline/grantline/enforcer/Permission;"), (0, .fieldref 15 21), (0, .nameAndType 22 19), (0, u "READ"), (0, .fieldref 15 24), (0, .nameAndType 25 19), (0, u "WRITE"), (0, .methodref 27 28), (0, .class_ 29), (0, .nameAndType 30 31), (0, u "java/lang/String"), (0, u "length"), (0, u "()I"), (0, .methodref 15 33), (0, .nameAndType 34 35), (0, u "fromScopeName"), (0, u "(Ljava/lang/String;)Lcom/example/grantline/grantline/enforcer/Permission;"), (0, .methodref 27 37), (0, .nameAndType 5 38), (0, u "([C)V"), (0, .methodref 40 41), (0, .class_ 42), (0, .nameAndType 43 44), (0, u "com/example/grantline/grantline/enforcer/PermissionFromScopeNamePinLaw"), (0, u "build"), (0, u "(Ljava/lang/String;IIIC)Ljava/lang/String;"), (0, .methodref 27 46), (0, .nameAndType 47 48), (0, u "charAt"), (0, u "(I)C"), (0, .methodref 40 50), (0, .nameAndType 51 52), (0, u "newArr"), (0, u "(I)[C"), (0, .methodref 40 54), (0, .nameAndType 55 56), (0, u "at"), (0, u "(Ljava/lang/String;IIIC)C"), (2, u "law"), (0, u "(IIII)Z")] 5

def k1m0 : Method := { name := "<init>", desc := "()V", sig := { parameters := [], returnType := none }, accessFlags := 1, code := none }
def k1c1 : Code := { maxStack := 5, maxLocals := 15, code := code, exceptionTable := #[], attributes := #[] }
def k1m1 : Method := { name := "law", desc := "(IIII)Z", sig := { parameters := [.int, .int, .int, .int], returnType := some .boolean }, accessFlags := 9, code := some k1c1 }
def k1c2 : Code := { maxStack := 2, maxLocals := 1, code := method_3_code, exceptionTable := #[], attributes := #[] }
def k1m2 : Method := { name := "newArr", desc := "(I)[C", sig := { parameters := [.int], returnType := some (.array .char) }, accessFlags := 10, code := some k1c2 }
def k1c3 : Code := { maxStack := 3, maxLocals := 5, code := method_4_code, exceptionTable := #[], attributes := #[] }
def k1m3 : Method := { name := "at", desc := "(Ljava/lang/String;IIIC)C", sig := { parameters := [(.object "java/lang/String"), .int, .int, .int, .char], returnType := some .char }, accessFlags := 10, code := some k1c3 }
def k1c4 : Code := { maxStack := 7, maxLocals := 6, code := method_5_code, exceptionTable := #[], attributes := #[] }
def k1m4 : Method := { name := "build", desc := "(Ljava/lang/String;IIIC)Ljava/lang/String;", sig := { parameters := [(.object "java/lang/String"), .int, .int, .int, .char], returnType := some (.object "java/lang/String") }, accessFlags := 10, code := some k1c4 }
/-- com/example/grantline/grantline/enforcer/PermissionFromScopeNamePinLaw -/
def k1 : Class := { plain "com/example/grantline/grantline/enforcer/PermissionFromScopeNamePinLaw" (some 0) with
  accessFlags := 49
  interfaces := #[]
  cf := some (fileOf pool1 40 #[] #[{ accessFlags := 1, nameIndex := 5, descriptorIndex := 6, attributes := #[] }, { accessFlags := 9, nameIndex := 59, descriptorIndex := 60, attributes := #[] }, { accessFlags := 10, nameIndex := 51, descriptorIndex := 52, attributes := #[] }, { accessFlags := 10, nameIndex := 55, descriptorIndex := 56, attributes := #[] }, { accessFlags := 10, nameIndex := 43, descriptorIndex := 44, attributes := #[] }] 49 2 #[] #[])
  fields := #[]
  methods := #[k1m0, k1m1, k1m2, k1m3, k1m4]
  instanceTypes := #[]
  staticTypes := #[]
  resolved := Array.replicate 66 none
  statics := none }

def pool2 : Array CpInfo := pool [(1, .class_ 2), (0, u "java/io/Serializable"), (0, .class_ 4), (0, u "java/lang/Object")] 2

/-- java/io/Serializable -/
def k2 : Class := { plain "java/io/Serializable" (some 0) with
  accessFlags := 1537
  interfaces := #[]
  cf := some (fileOf pool2 1 #[] #[] 1537 3 #[] #[])
  fields := #[]
  methods := #[]
  instanceTypes := #[]
  staticTypes := #[]
  resolved := Array.replicate 7 none
  statics := none }

def pool3 : Array CpInfo := pool [(1, .class_ 2), (0, u "java/lang/Comparable"), (0, .class_ 4), (0, u "java/lang/Object")] 7

/-- java/lang/Comparable -/
def k3 : Class := { plain "java/lang/Comparable" (some 0) with
  accessFlags := 1537
  interfaces := #[]
  cf := some (fileOf pool3 1 #[] #[] 1537 3 #[] #[])
  fields := #[]
  methods := #[]
  instanceTypes := #[]
  staticTypes := #[]
  resolved := Array.replicate 12 none
  statics := none }

def pool4 : Array CpInfo := pool [(2, .class_ 4), (1, u "java/lang/CharSequence"), (42, .class_ 48), (0, u "java/lang/CharSequence$1CodePointIterator"), (10, .class_ 60), (0, u "java/lang/CharSequence$1CharIterator"), (5, .class_ 67), (0, u "java/lang/Object")] 63

/-- java/lang/CharSequence -/
def k4 : Class := { plain "java/lang/CharSequence" (some 0) with
  accessFlags := 1537
  interfaces := #[]
  cf := some (fileOf pool4 2 #[.nestMembers #[47, 59]] #[] 1537 66 #[] #[])
  fields := #[]
  methods := #[]
  instanceTypes := #[]
  staticTypes := #[]
  resolved := Array.replicate 131 none
  statics := none }

def pool5 : Array CpInfo := pool [(1, .class_ 2), (0, u "java/lang/constant/Constable"), (0, .class_ 4), (0, u "java/lang/Object")] 6

/-- java/lang/constant/Constable -/
def k5 : Class := { plain "java/lang/constant/Constable" (some 0) with
  accessFlags := 1537
  interfaces := #[]
  cf := some (fileOf pool5 1 #[] #[] 1537 3 #[] #[])
  fields := #[]
  methods := #[]
  instanceTypes := #[]
  staticTypes := #[]
  resolved := Array.replicate 11 none
  statics := none }

def pool6 : Array CpInfo := pool [(1, .class_ 2), (0, u "java/lang/constant/ConstantDesc"), (0, .class_ 4), (0, u "java/lang/Object")] 32

/-- java/lang/constant/ConstantDesc -/
def k6 : Class := { plain "java/lang/constant/ConstantDesc" (some 0) with
  accessFlags := 1537
  interfaces := #[]
  cf := some (fileOf pool6 1 #[] #[] 1537 3 #[] #[])
  fields := #[]
  methods := #[]
  instanceTypes := #[]
  staticTypes := #[]
  resolved := Array.replicate 37 none
  statics := none }

def pool7 : Array CpInfo := pool [(1, .methodref 2 3), (0, .class_ 4), (0, .nameAndType 5 6), (0, u "java/lang/Object"), (0, u "<init>"), (0, u "()V"), (0, .string 8), (0, u ""), (0, .fieldref 10 11), (0, .class_ 12), (0, .nameAndType 13 14), (0, u "java/lang/String"), (0, u "value"), (0, u "[B"), (0, .fieldref 10 16), (0, .nameAndType 17 18), (0, u "coder"), (0, u "B"), (2, u "hash"), (0, u "I"), (2, u "hashIsZero"), (0, u "Z"), (0, .methodref 10 28), (0, .nameAndType 5 29), (0, u "([CIILjava/lang/Void;)V"), (8, .fieldref 10 39), (0, .nameAndType 40 26), (0, u "COMPACT_STRINGS"), (1, .class_ 44), (1, u "java/lang/StringUTF16"), (0, u "compress"), (1, .methodref 42 48), (0, .nameAndType 49 50), (0, u "coderFromArrayLen"), (0, u "([BI)B"), (56, .class_ 109), (1, u "java/lang/StringLatin1"), (32, u "()Z"), (34, .methodref 42 178), (0, .nameAndType 45 179), (0, u "([CII)[B"), (154, u "()I"), (0, .methodref 10 336), (0, .nameAndType 17 337), (0, u "()B"), (25, u "([BI)C"), (27, u "(II)V"), (35, u "(I)C"), (64, .methodref 10 493), (0, .nameAndType 494 142), (0, u "isLatin1"), (0, .methodref 107 496), (0, .nameAndType 497 363), (0, u "charAt"), (3, u "checkIndex"), (5, u "length"), (33, .methodref 107 542), (0, .nameAndType 543 544), (0, u "equals"), (0, u "([B[B)Z"), (28, u "(Ljava/lang/Object;)Z"), (1, .class_ 576), (0, u "java/lang/CharSequence"), (22, u "CASE_INSENSITIVE_ORDER"), (0, u "Ljava/util/Comparator;"), (409, u "([C)V"), (42, .fieldref 1054 1055), (0, .class_ 1056), (0, .nameAndType 1057 1058), (0, u "jdk/internal/util/Preconditions"), (0, u "SIOOBE_FORMATTER"), (0, u "Ljava/util/function/BiFunction;"), (0, .methodref 1054 1060), (0, .nameAndType 501 1061), (0, u "(IILjava/util/function/BiFunction;)I"), (39, u "serialPersistentFields"), (0, u "[Ljava/io/ObjectStreamField;"), (0, .class_ 1104), (0, u "java/lang/String$CaseInsensitiveComparator"), (1, .class_ 1107), (0, u "java/io/Serializable"), (0, .class_ 1109), (0, u "java/lang/Comparable"), (0, .class_ 1111), (0, u "java/lang/constant/Constable"), (0, .class_ 1113), (0, u "java/lang/constant/ConstantDesc"), (2, u "serialVersionUID"), (0, u "J"), (3, u "REPL"), (0, u "C"), (2, u "LATIN1"), (1, u "UTF16")] 323

def k7m0 : Method := { name := "<init>", desc := "()V", sig := { parameters := [], returnType := none }, accessFlags := 1, code := none }
def k7c1 : Code := { maxStack := 5, maxLocals := 2, code := jdk_42_method_3_code, exceptionTable := #[], attributes := #[] }
def k7m1 : Method := { name := "<init>", desc := "([C)V", sig := { parameters := [(.array .char)], returnType := none }, accessFlags := 1, code := some k7c1 }
def k7c2 : Code := { maxStack := 2, maxLocals := 1, code := jdk_42_method_54_code, exceptionTable := #[], attributes := #[] }
def k7m2 : Method := { name := "length", desc := "()I", sig := { parameters := [], returnType := some .int }, accessFlags := 1, code := some k7c2 }
def k7c3 : Code := { maxStack := 2, maxLocals := 2, code := jdk_42_method_56_code, exceptionTable := #[], attributes := #[] }
def k7m3 : Method := { name := "charAt", desc := "(I)C", sig := { parameters := [.int], returnType := some .char }, accessFlags := 1, code := some k7c3 }
def k7c4 : Code := { maxStack := 2, maxLocals := 3, code := jdk_42_method_66_code, exceptionTable := #[], attributes := #[] }
def k7m4 : Method := { name := "equals", desc := "(Ljava/lang/Object;)Z", sig := { parameters := [(.object "java/lang/Object")], returnType := some .boolean }, accessFlags := 1, code := some k7c4 }
def k7c5 : Code := { maxStack := 4, maxLocals := 6, code := jdk_42_method_149_code, exceptionTable := #[], attributes := #[] }
def k7m5 : Method := { name := "<init>", desc := "([CIILjava/lang/Void;)V", sig := { parameters := [(.array .char), .int, .int, (.object "java/lang/Void")], returnType := none }, accessFlags := 2, code := some k7c5 }
def k7c6 : Code := { maxStack := 1, maxLocals := 1, code := jdk_42_method_152_code, exceptionTable := #[], attributes := #[] }
def k7m6 : Method := { name := "coder", desc := "()B", sig := { parameters := [], returnType := some .byte }, accessFlags := 0, code := some k7c6 }
def k7c7 : Code := { maxStack := 1, maxLocals := 1, code := jdk_42_method_154_code, exceptionTable := #[], attributes := #[] }
def k7m7 : Method := { name := "isLatin1", desc := "()Z", sig := { parameters := [], returnType := some .boolean }, accessFlags := 0, code := some k7c7 }
def k7c8 : Code := { maxStack := 3, maxLocals := 2, code := jdk_42_method_155_code, exceptionTable := #[], attributes := #[] }
def k7m8 : Method := { name := "checkIndex", desc := "(II)V", sig := { parameters := [.int, .int], returnType := none }, accessFlags := 8, code := some k7c8 }
/-- java/lang/String -/
def k7 : Class := { plain "java/lang/String" (some 0) with
  accessFlags := 49
  interfaces := #[2, 3, 4, 5, 6]
  cf := some (fileOf pool7 10 #[.nestMembers #[1103]] #[{ accessFlags := 1, nameIndex := 5, descriptorIndex := 6, attributes := #[] }, { accessFlags := 1, nameIndex := 5, descriptorIndex := 1010, attributes := #[] }, { accessFlags := 1, nameIndex := 507, descriptorIndex := 334, attributes := #[] }, { accessFlags := 1, nameIndex := 497, descriptorIndex := 427, attributes := #[] }, { accessFlags := 1, nameIndex := 543, descriptorIndex := 573, attributes := #[] }, { accessFlags := 2, nameIndex := 5, descriptorIndex := 29, attributes := #[] }, { accessFlags := 0, nameIndex := 17, descriptorIndex := 337, attributes := #[] }, { accessFlags := 0, nameIndex := 494, descriptorIndex := 142, attributes := #[] }, { accessFlags := 8, nameIndex := 501, descriptorIndex := 391, attributes := #[] }] 49 2 #[1106, 1108, 575, 1110, 1112] #[{ accessFlags := 18, nameIndex := 13, descriptorIndex := 14, attributes := #[] }, { accessFlags := 18, nameIndex := 17, descriptorIndex := 18, attributes := #[] }, { accessFlags := 2, nameIndex := 21, descriptorIndex := 22, attributes := #[] }, { accessFlags := 2, nameIndex := 25, descriptorIndex := 26, attributes := #[] }, { accessFlags := 26, nameIndex := 1116, descriptorIndex := 1117, attributes := #[] }, { accessFlags := 24, nameIndex := 40, descriptorIndex := 26, attributes := #[] }, { accessFlags := 26, nameIndex := 1101, descriptorIndex := 1102, attributes := #[] }, { accessFlags := 26, nameIndex := 1121, descriptorIndex := 1122, attributes := #[] }, { accessFlags := 25, nameIndex := 599, descriptorIndex := 600, attributes := #[] }, { accessFlags := 24, nameIndex := 1125, descriptorIndex := 18, attributes := #[] }, { accessFlags := 24, nameIndex := 1127, descriptorIndex := 18, attributes := #[] }])
  fields := #[{ name := "value", type := (.array .byte), accessFlags := 18, slot := 0, constantValue := 0 }, { name := "coder", type := .byte, accessFlags := 18, slot := 1, constantValue := 0 }, { name := "hash", type := .int, accessFlags := 2, slot := 2, constantValue := 0 }, { name := "hashIsZero", type := .boolean, accessFlags := 2, slot := 3, constantValue := 0 }, { name := "serialVersionUID", type := .long, accessFlags := 26, slot := 0, constantValue := 0 }, { name := "COMPACT_STRINGS", type := .boolean, accessFlags := 24, slot := 1, constantValue := 0 }, { name := "serialPersistentFields", type := (.array (.object "java/io/ObjectStreamField")), accessFlags := 26, slot := 2, constantValue := 0 }, { name := "REPL", type := .char, accessFlags := 26, slot := 3, constantValue := 0 }, { name := "CASE_INSENSITIVE_ORDER", type := (.object "java/util/Comparator"), accessFlags := 25, slot := 4, constantValue := 0 }, { name := "LATIN1", type := .byte, accessFlags := 24, slot := 5, constantValue := 0 }, { name := "UTF16", type := .byte, accessFlags := 24, slot := 6, constantValue := 0 }]
  methods := #[k7m0, k7m1, k7m2, k7m3, k7m4, k7m5, k7m6, k7m7, k7m8]
  instanceTypes := #[(.array .byte), .byte, .int, .boolean]
  staticTypes := #[.long, .boolean, (.array (.object "java/io/ObjectStreamField")), .char, (.object "java/util/Comparator"), .byte, .byte]
  resolved := Array.replicate 1451 none
  statics := some 0 }

def pool8 : Array CpInfo := pool [(2, .class_ 4), (1, u "java/lang/Enum"), (0, u "name"), (0, u "Ljava/lang/String;"), (2, u "ordinal"), (0, u "I"), (1, .class_ 14), (1, u "java/lang/Object"), (4, u "hash"), (86, .class_ 108), (1, u "java/lang/Enum$EnumDesc"), (2, .class_ 112), (0, u "java/lang/constant/Constable"), (0, .class_ 114), (0, u "java/lang/Comparable"), (0, .class_ 116), (0, u "java/io/Serializable")] 87

/-- java/lang/Enum -/
def k8 : Class := { plain "java/lang/Enum" (some 0) with
  accessFlags := 1057
  interfaces := #[5, 3, 2]
  cf := some (fileOf pool8 2 #[.nestMembers #[106]] #[] 1057 12 #[111, 113, 115] #[{ accessFlags := 18, nameIndex := 5, descriptorIndex := 6, attributes := #[] }, { accessFlags := 18, nameIndex := 9, descriptorIndex := 10, attributes := #[] }, { accessFlags := 2, nameIndex := 19, descriptorIndex := 10, attributes := #[] }])
  fields := #[{ name := "name", type := (.object "java/lang/String"), accessFlags := 18, slot := 0, constantValue := 0 }, { name := "ordinal", type := .int, accessFlags := 18, slot := 1, constantValue := 0 }, { name := "hash", type := .int, accessFlags := 2, slot := 2, constantValue := 0 }]
  methods := #[]
  instanceTypes := #[(.object "java/lang/String"), .int, .int]
  staticTypes := #[]
  resolved := Array.replicate 204 none
  statics := none }

def pool9 : Array CpInfo := pool [(1, .class_ 2), (0, u "com/example/grantline/grantline/enforcer/Permission"), (2, u "CONFIGURE"), (0, u "Lcom/example/grantline/grantline/enforcer/Permission;"), (2, u "READ"), (2, u "WRITE"), (0, .fieldref 1 14), (0, .nameAndType 15 16), (0, u "$VALUES"), (0, u "[Lcom/example/grantline/grantline/enforcer/Permission;"), (0, .methodref 18 19), (0, .class_ 16), (0, .nameAndType 20 21), (0, u "clone"), (0, u "()Ljava/lang/Object;"), (1, .class_ 25), (1, u "java/lang/Enum"), (6, .fieldref 1 33), (0, .nameAndType 34 35), (0, u "scopeName"), (0, u "Ljava/lang/String;"), (0, .methodref 1 37), (0, .nameAndType 38 39), (0, u "values"), (0, u "()[Lcom/example/grantline/grantline/enforcer/Permission;"), (0, .methodref 41 42), (0, .class_ 43), (0, .nameAndType 44 45), (0, u "java/lang/String"), (0, u "equals"), (0, u "(Ljava/lang/Object;)Z"), (17, u "(Ljava/lang/String;)Lcom/example/grantline/grantline/enforcer/Permission;"), (4, u "fromScopeName")] 6

def k9c0 : Code := { maxStack := 1, maxLocals := 0, code := prog_13_method_1_code, exceptionTable := #[], attributes := #[] }
def k9m0 : Method := { name := "values", desc := "()[Lcom/example/grantline/grantline/enforcer/Permission;", sig := { parameters := [], returnType := some (.array (.object "com/example/grantline/grantline/enforcer/Permission")) }, accessFlags := 9, code := some k9c0 }
def k9c1 : Code := { maxStack := 2, maxLocals := 5, code := prog_13_method_5_code, exceptionTable := #[], attributes := #[] }
def k9m1 : Method := { name := "fromScopeName", desc := "(Ljava/lang/String;)Lcom/example/grantline/grantline/enforcer/Permission;", sig := { parameters := [(.object "java/lang/String")], returnType := some (.object "com/example/grantline/grantline/enforcer/Permission") }, accessFlags := 8, code := some k9c1 }
/-- com/example/grantline/grantline/enforcer/Permission -/
def k9 : Class := { plain "com/example/grantline/grantline/enforcer/Permission" (some 8) with
  accessFlags := 16433
  interfaces := #[]
  cf := some (fileOf pool9 1 #[] #[{ accessFlags := 9, nameIndex := 38, descriptorIndex := 39, attributes := #[] }, { accessFlags := 8, nameIndex := 68, descriptorIndex := 63, attributes := #[] }] 16433 23 #[] #[{ accessFlags := 16409, nameIndex := 5, descriptorIndex := 6, attributes := #[] }, { accessFlags := 16409, nameIndex := 9, descriptorIndex := 6, attributes := #[] }, { accessFlags := 16409, nameIndex := 12, descriptorIndex := 6, attributes := #[] }, { accessFlags := 18, nameIndex := 34, descriptorIndex := 35, attributes := #[] }, { accessFlags := 4122, nameIndex := 15, descriptorIndex := 16, attributes := #[] }])
  fields := #[{ name := "CONFIGURE", type := (.object "com/example/grantline/grantline/enforcer/Permission"), accessFlags := 16409, slot := 0, constantValue := 0 }, { name := "READ", type := (.object "com/example/grantline/grantline/enforcer/Permission"), accessFlags := 16409, slot := 1, constantValue := 0 }, { name := "WRITE", type := (.object "com/example/grantline/grantline/enforcer/Permission"), accessFlags := 16409, slot := 2, constantValue := 0 }, { name := "scopeName", type := (.object "java/lang/String"), accessFlags := 18, slot := 3, constantValue := 0 }, { name := "$VALUES", type := (.array (.object "com/example/grantline/grantline/enforcer/Permission")), accessFlags := 4122, slot := 3, constantValue := 0 }]
  methods := #[k9m0, k9m1]
  instanceTypes := #[(.object "java/lang/String"), .int, .int, (.object "java/lang/String")]
  staticTypes := #[(.object "com/example/grantline/grantline/enforcer/Permission"), (.object "com/example/grantline/grantline/enforcer/Permission"), (.object "com/example/grantline/grantline/enforcer/Permission"), (.array (.object "com/example/grantline/grantline/enforcer/Permission"))]
  resolved := Array.replicate 75 none
  statics := some 1 }

def pool10 : Array CpInfo := pool [(1, .class_ 2), (0, u "java/lang/Cloneable"), (0, .class_ 4), (0, u "java/lang/Object")] 2

/-- java/lang/Cloneable -/
def k10 : Class := { plain "java/lang/Cloneable" (some 0) with
  accessFlags := 1537
  interfaces := #[]
  cf := some (fileOf pool10 1 #[] #[] 1537 3 #[] #[])
  fields := #[]
  methods := #[]
  instanceTypes := #[]
  staticTypes := #[]
  resolved := Array.replicate 7 none
  statics := none }

def pool11 : Array CpInfo := pool [(1, .class_ 2), (0, u "java/lang/String"), (1, .class_ 6), (1, u "java/lang/Object"), (0, u "<init>"), (0, u "()V"), (0, .methodref 1 10), (0, .nameAndType 11 12), (0, u "checkIndex"), (0, u "(II)V"), (1, .class_ 16), (1, u "java/lang/StringLatin1"), (36, u "([BI)C"), (67, u "$assertionsDisabled"), (0, u "Z"), (98, .class_ 223), (1, u "java/lang/StringLatin1$LinesSpliterator"), (28, u "charAt"), (28, u "equals"), (0, u "([B[B)Z"), (107, .class_ 391), (0, u "java/lang/StringLatin1$CharsSpliterator")] 3

def k11m0 : Method := { name := "<init>", desc := "()V", sig := { parameters := [], returnType := none }, accessFlags := 0, code := none }
def k11c1 : Code := { maxStack := 2, maxLocals := 2, code := jdk_43_method_2_code, exceptionTable := #[], attributes := #[] }
def k11m1 : Method := { name := "charAt", desc := "([BI)C", sig := { parameters := [(.array .byte), .int], returnType := some .char }, accessFlags := 9, code := some k11c1 }
def k11c2 : Code := { maxStack := 3, maxLocals := 3, code := jdk_43_method_13_code, exceptionTable := #[], attributes := #[] }
def k11m2 : Method := { name := "equals", desc := "([B[B)Z", sig := { parameters := [(.array .byte), (.array .byte)], returnType := some .boolean }, accessFlags := 9, code := some k11c2 }
/-- java/lang/StringLatin1 -/
def k11 : Class := { plain "java/lang/StringLatin1" (some 0) with
  accessFlags := 48
  interfaces := #[]
  cf := some (fileOf pool11 14 #[.nestMembers #[390, 221]] #[{ accessFlags := 0, nameIndex := 7, descriptorIndex := 8, attributes := #[] }, { accessFlags := 9, nameIndex := 252, descriptorIndex := 53, attributes := #[] }, { accessFlags := 9, nameIndex := 281, descriptorIndex := 282, attributes := #[] }] 48 4 #[] #[{ accessFlags := 4120, nameIndex := 121, descriptorIndex := 122, attributes := #[] }])
  fields := #[{ name := "$assertionsDisabled", type := .boolean, accessFlags := 4120, slot := 0, constantValue := 0 }]
  methods := #[k11m0, k11m1, k11m2]
  instanceTypes := #[]
  staticTypes := #[.boolean]
  resolved := Array.replicate 395 none
  statics := none }

def pool12 : Array CpInfo := pool [(2, .class_ 4), (1, u "java/lang/Object"), (0, u "<init>"), (0, u "()V"), (17, .class_ 26), (1, u "jdk/internal/util/Preconditions"), (6, u "checkIndex"), (21, .class_ 56), (0, u "jdk/internal/util/Preconditions$4"), (57, .class_ 115), (0, u "jdk/internal/util/Preconditions$1"), (7, u "SIOOBE_FORMATTER"), (0, u "Ljava/util/function/BiFunction;"), (0, .class_ 126), (0, u "jdk/internal/util/Preconditions$2"), (3, u "AIOOBE_FORMATTER"), (0, .class_ 132), (0, u "jdk/internal/util/Preconditions$3"), (3, u "IOOBE_FORMATTER"), (41, u "(IILjava/util/function/BiFunction;)I")] 15

def k12m0 : Method := { name := "<init>", desc := "()V", sig := { parameters := [], returnType := none }, accessFlags := 1, code := none }
def k12c1 : Code := { maxStack := 3, maxLocals := 3, code := jdk_41_method_11_code, exceptionTable := #[], attributes := #[] }
def k12m1 : Method := { name := "checkIndex", desc := "(IILjava/util/function/BiFunction;)I", sig := { parameters := [.int, .int, (.object "java/util/function/BiFunction")], returnType := some .int }, accessFlags := 9, code := some k12c1 }
/-- jdk/internal/util/Preconditions -/
def k12 : Class := { plain "jdk/internal/util/Preconditions" (some 0) with
  accessFlags := 33
  interfaces := #[]
  cf := some (fileOf pool12 24 #[.nestMembers #[55, 131, 125, 114]] #[{ accessFlags := 1, nameIndex := 5, descriptorIndex := 6, attributes := #[] }, { accessFlags := 9, nameIndex := 33, descriptorIndex := 178, attributes := #[] }] 33 2 #[] #[{ accessFlags := 25, nameIndex := 123, descriptorIndex := 124, attributes := #[] }, { accessFlags := 25, nameIndex := 130, descriptorIndex := 124, attributes := #[] }, { accessFlags := 25, nameIndex := 136, descriptorIndex := 124, attributes := #[] }])
  fields := #[{ name := "SIOOBE_FORMATTER", type := (.object "java/util/function/BiFunction"), accessFlags := 25, slot := 0, constantValue := 0 }, { name := "AIOOBE_FORMATTER", type := (.object "java/util/function/BiFunction"), accessFlags := 25, slot := 1, constantValue := 0 }, { name := "IOOBE_FORMATTER", type := (.object "java/util/function/BiFunction"), accessFlags := 25, slot := 2, constantValue := 0 }]
  methods := #[k12m0, k12m1]
  instanceTypes := #[]
  staticTypes := #[(.object "java/util/function/BiFunction"), (.object "java/util/function/BiFunction"), (.object "java/util/function/BiFunction")]
  resolved := Array.replicate 194 none
  statics := some 2 }

def pool13 : Array CpInfo := pool [(6, .class_ 8), (1, u "java/lang/Object"), (0, u "<init>"), (0, u "()V"), (1, .class_ 14), (1, u "java/lang/StringUTF16"), (31, u "$assertionsDisabled"), (0, u "Z"), (13, u "HI_BYTE_SHIFT"), (0, u "I"), (2, u "LO_BYTE_SHIFT"), (49, .methodref 12 116), (0, .nameAndType 117 118), (0, u "compress"), (0, u "([CI[BII)I"), (3, u "([CII)[B"), (138, u "coderFromArrayLen"), (0, u "([BI)B"), (106, .class_ 371), (1, u "java/lang/StringUTF16$LinesSpliterator"), (58, u "MAX_LENGTH"), (196, .class_ 628), (0, u "java/lang/StringUTF16$CodePointsSpliterator"), (0, .class_ 630), (0, u "java/lang/StringUTF16$CharsSpliterator")] 4

def k13m0 : Method := { name := "<init>", desc := "()V", sig := { parameters := [], returnType := none }, accessFlags := 0, code := none }
def k13c1 : Code := { maxStack := 2, maxLocals := 2, code := jdk_52_method_15_code, exceptionTable := #[], attributes := #[] }
def k13m1 : Method := { name := "coderFromArrayLen", desc := "([BI)B", sig := { parameters := [(.array .byte), .int], returnType := some .byte }, accessFlags := 8, code := some k13c1 }
def k13c2 : Code := { maxStack := 5, maxLocals := 6, code := jdk_52_method_16_code, exceptionTable := #[], attributes := #[] }
def k13m2 : Method := { name := "compress", desc := "([CII)[B", sig := { parameters := [(.array .char), .int, .int], returnType := some (.array .byte) }, accessFlags := 9, code := some k13c2 }
def k13c3 : Code := { maxStack := 3, maxLocals := 7, code := jdk_52_method_21_code, exceptionTable := #[], attributes := #[] }
def k13m3 : Method := { name := "compress", desc := "([CI[BII)I", sig := { parameters := [(.array .char), .int, (.array .byte), .int, .int], returnType := some .int }, accessFlags := 9, code := some k13c3 }
/-- java/lang/StringUTF16 -/
def k13 : Class := { plain "java/lang/StringUTF16" (some 0) with
  accessFlags := 48
  interfaces := #[]
  cf := some (fileOf pool13 12 #[.nestMembers #[627, 629, 369]] #[{ accessFlags := 0, nameIndex := 9, descriptorIndex := 10, attributes := #[] }, { accessFlags := 8, nameIndex := 261, descriptorIndex := 262, attributes := #[] }, { accessFlags := 9, nameIndex := 117, descriptorIndex := 122, attributes := #[] }, { accessFlags := 9, nameIndex := 117, descriptorIndex := 118, attributes := #[] }] 48 6 #[] #[{ accessFlags := 26, nameIndex := 61, descriptorIndex := 62, attributes := #[] }, { accessFlags := 26, nameIndex := 65, descriptorIndex := 62, attributes := #[] }, { accessFlags := 24, nameIndex := 430, descriptorIndex := 62, attributes := #[] }, { accessFlags := 4120, nameIndex := 46, descriptorIndex := 47, attributes := #[] }])
  fields := #[{ name := "HI_BYTE_SHIFT", type := .int, accessFlags := 26, slot := 0, constantValue := 0 }, { name := "LO_BYTE_SHIFT", type := .int, accessFlags := 26, slot := 1, constantValue := 0 }, { name := "MAX_LENGTH", type := .int, accessFlags := 24, slot := 2, constantValue := 0 }, { name := "$assertionsDisabled", type := .boolean, accessFlags := 4120, slot := 3, constantValue := 0 }]
  methods := #[k13m0, k13m1, k13m2, k13m3]
  instanceTypes := #[]
  staticTypes := #[.int, .int, .int, .boolean]
  resolved := Array.replicate 635 none
  statics := none }

def pool14 : Array CpInfo := pool [(9, u "<init>"), (6, .class_ 18), (1, u "java/lang/Object"), (0, u "()V"), (1, .class_ 23), (1, u "jdk/internal/util/ArraysSupport"), (0, u "LOG2_ARRAY_LONG_INDEX_SCALE"), (0, u "I"), (2, u "U"), (0, u "Ljdk/internal/misc/Unsafe;"), (8, u "BIG_ENDIAN"), (0, u "Z"), (8, u "LOG2_BYTE_BIT_SIZE"), (4, u "LOG2_ARRAY_INT_INDEX_SCALE"), (54, u "JLA"), (0, u "Ljdk/internal/access/JavaLangAccess;"), (11, u "LOG2_ARRAY_BOOLEAN_INDEX_SCALE"), (9, u "LOG2_ARRAY_BYTE_INDEX_SCALE"), (5, u "LOG2_ARRAY_CHAR_INDEX_SCALE"), (5, u "LOG2_ARRAY_SHORT_INDEX_SCALE"), (18, u "LOG2_ARRAY_FLOAT_INDEX_SCALE"), (24, u "LOG2_ARRAY_DOUBLE_INDEX_SCALE"), (89, u "T_BOOLEAN"), (2, u "T_CHAR"), (1, u "T_FLOAT"), (1, u "T_DOUBLE"), (1, u "T_BYTE"), (1, u "T_SHORT"), (1, u "T_INT"), (1, u "T_LONG"), (1, u "SOFT_MAX_ARRAY_LENGTH")] 83

def k14m0 : Method := { name := "<init>", desc := "()V", sig := { parameters := [], returnType := none }, accessFlags := 2, code := none }
/-- jdk/internal/util/ArraysSupport -/
def k14 : Class := { plain "jdk/internal/util/ArraysSupport" (some 0) with
  accessFlags := 33
  interfaces := #[]
  cf := some (fileOf pool14 21 #[] #[{ accessFlags := 2, nameIndex := 9, descriptorIndex := 19, attributes := #[] }] 33 16 #[] #[{ accessFlags := 24, nameIndex := 28, descriptorIndex := 29, attributes := #[] }, { accessFlags := 26, nameIndex := 38, descriptorIndex := 39, attributes := #[] }, { accessFlags := 25, nameIndex := 121, descriptorIndex := 25, attributes := #[] }, { accessFlags := 25, nameIndex := 131, descriptorIndex := 25, attributes := #[] }, { accessFlags := 25, nameIndex := 137, descriptorIndex := 25, attributes := #[] }, { accessFlags := 25, nameIndex := 143, descriptorIndex := 25, attributes := #[] }, { accessFlags := 25, nameIndex := 53, descriptorIndex := 25, attributes := #[] }, { accessFlags := 25, nameIndex := 24, descriptorIndex := 25, attributes := #[] }, { accessFlags := 25, nameIndex := 162, descriptorIndex := 25, attributes := #[] }, { accessFlags := 25, nameIndex := 187, descriptorIndex := 25, attributes := #[] }, { accessFlags := 26, nameIndex := 48, descriptorIndex := 25, attributes := #[] }, { accessFlags := 25, nameIndex := 277, descriptorIndex := 25, attributes := #[] }, { accessFlags := 25, nameIndex := 280, descriptorIndex := 25, attributes := #[] }, { accessFlags := 25, nameIndex := 282, descriptorIndex := 25, attributes := #[] }, { accessFlags := 25, nameIndex := 284, descriptorIndex := 25, attributes := #[] }, { accessFlags := 25, nameIndex := 286, descriptorIndex := 25, attributes := #[] }, { accessFlags := 25, nameIndex := 288, descriptorIndex := 25, attributes := #[] }, { accessFlags := 25, nameIndex := 290, descriptorIndex := 25, attributes := #[] }, { accessFlags := 25, nameIndex := 292, descriptorIndex := 25, attributes := #[] }, { accessFlags := 26, nameIndex := 108, descriptorIndex := 109, attributes := #[] }, { accessFlags := 25, nameIndex := 294, descriptorIndex := 25, attributes := #[] }])
  fields := #[{ name := "U", type := (.object "jdk/internal/misc/Unsafe"), accessFlags := 24, slot := 0, constantValue := 0 }, { name := "BIG_ENDIAN", type := .boolean, accessFlags := 26, slot := 1, constantValue := 0 }, { name := "LOG2_ARRAY_BOOLEAN_INDEX_SCALE", type := .int, accessFlags := 25, slot := 2, constantValue := 0 }, { name := "LOG2_ARRAY_BYTE_INDEX_SCALE", type := .int, accessFlags := 25, slot := 3, constantValue := 0 }, { name := "LOG2_ARRAY_CHAR_INDEX_SCALE", type := .int, accessFlags := 25, slot := 4, constantValue := 0 }, { name := "LOG2_ARRAY_SHORT_INDEX_SCALE", type := .int, accessFlags := 25, slot := 5, constantValue := 0 }, { name := "LOG2_ARRAY_INT_INDEX_SCALE", type := .int, accessFlags := 25, slot := 6, constantValue := 0 }, { name := "LOG2_ARRAY_LONG_INDEX_SCALE", type := .int, accessFlags := 25, slot := 7, constantValue := 0 }, { name := "LOG2_ARRAY_FLOAT_INDEX_SCALE", type := .int, accessFlags := 25, slot := 8, constantValue := 0 }, { name := "LOG2_ARRAY_DOUBLE_INDEX_SCALE", type := .int, accessFlags := 25, slot := 9, constantValue := 0 }, { name := "LOG2_BYTE_BIT_SIZE", type := .int, accessFlags := 26, slot := 10, constantValue := 0 }, { name := "T_BOOLEAN", type := .int, accessFlags := 25, slot := 11, constantValue := 0 }, { name := "T_CHAR", type := .int, accessFlags := 25, slot := 12, constantValue := 0 }, { name := "T_FLOAT", type := .int, accessFlags := 25, slot := 13, constantValue := 0 }, { name := "T_DOUBLE", type := .int, accessFlags := 25, slot := 14, constantValue := 0 }, { name := "T_BYTE", type := .int, accessFlags := 25, slot := 15, constantValue := 0 }, { name := "T_SHORT", type := .int, accessFlags := 25, slot := 16, constantValue := 0 }, { name := "T_INT", type := .int, accessFlags := 25, slot := 17, constantValue := 0 }, { name := "T_LONG", type := .int, accessFlags := 25, slot := 18, constantValue := 0 }, { name := "JLA", type := (.object "jdk/internal/access/JavaLangAccess"), accessFlags := 26, slot := 19, constantValue := 0 }, { name := "SOFT_MAX_ARRAY_LENGTH", type := .int, accessFlags := 25, slot := 20, constantValue := 0 }]
  methods := #[k14m0]
  instanceTypes := #[]
  staticTypes := #[(.object "jdk/internal/misc/Unsafe"), .boolean, .int, .int, .int, .int, .int, .int, .int, .int, .int, .int, .int, .int, .int, .int, .int, .int, .int, (.object "jdk/internal/access/JavaLangAccess"), .int]
  resolved := Array.replicate 378 none
  statics := none }

/-- the primitive byte -/
def k15 : Class := { plain "byte" none with kind := .primitive 'B', accessFlags := 0x411 }
/-- [B -/
def k16 : Class := { plain "[B" (some 0) with kind := .array 15 .byte, interfaces := #[10, 2], accessFlags := 1041 }

/-- the primitive char -/
def k17 : Class := { plain "char" none with kind := .primitive 'C', accessFlags := 0x411 }
/-- [C -/
def k18 : Class := { plain "[C" (some 0) with kind := .array 17 .char, interfaces := #[10, 2], accessFlags := 1041 }

/-- the primitive int -/
def k19 : Class := { plain "int" none with kind := .primitive 'I', accessFlags := 0x411 }
/-- [I -/
def k20 : Class := { plain "[I" (some 0) with kind := .array 19 .int, interfaces := #[10, 2], accessFlags := 1041 }

/-- [Lcom/example/grantline/grantline/enforcer/Permission; -/
def k21 : Class := { plain "[Lcom/example/grantline/grantline/enforcer/Permission;" (some 0) with kind := .array 9 (.object "com/example/grantline/grantline/enforcer/Permission"), interfaces := #[10, 2], accessFlags := 1041 }

def heap : Heap := #[{ cls := 7, slots := #[.long 0, .int 1, .null, .int 0, .null, .int 0, .int 0], vm := .statics 7 },
  { cls := 9, slots := #[.ref 4, .ref 5, .ref 6, .ref 3], vm := .statics 9 },
  { cls := 12, slots := #[.null, .null, .null], vm := .statics 12 },
  { cls := 21, slots := #[.ref 4, .ref 5, .ref 6], vm := .none },
  { cls := 9, slots := #[.null, .int 0, .int 0, .ref 7], vm := .none },
  { cls := 9, slots := #[.null, .int 1, .int 0, .ref 8], vm := .none },
  { cls := 9, slots := #[.null, .int 2, .int 0, .ref 9], vm := .none },
  { cls := 7, slots := #[.ref 10, .int 0, .int 0, .int 0], vm := .none },
  { cls := 7, slots := #[.ref 11, .int 0, .int 0, .int 0], vm := .none },
  { cls := 7, slots := #[.ref 12, .int 0, .int 0, .int 0], vm := .none },
  { cls := 16, slots := #[.int 99, .int 111, .int 110, .int 102, .int 105, .int 103, .int 117, .int 114, .int 101], vm := .none },
  { cls := 16, slots := #[.int 114, .int 101, .int 97, .int 100], vm := .none },
  { cls := 16, slots := #[.int 119, .int 114, .int 105, .int 116, .int 101], vm := .none }]
def classes : Array Class := #[k0, k1, k2, k3, k4, k5, k6, k7, k8, k9, k10, k11, k12, k13, k14, k15, k16, k17, k18, k19, k20, k21]
def interned : List (Array UInt16 × Addr) := []
def slotsUsed : Nat := 59
def theMethod : MethodId := ⟨1, 1⟩
def args0 : Array Value := #[.int 5, .int 5, .int 5, .int 5]
def aboutOver (below : List Frame) : State where
  vm := { classes := classes, interned := interned.toArray }
  heap := heap
  slotsUsed := slotsUsed
  threads := #[{ frames := .invoking theMethod args0 :: below }]
def below0 : List Frame := [.native { method := ⟨0, 0⟩, args := #[] }]
def about1 : State := aboutOver below0
def p0 : Program := .bare "" "" ""
def e0 : Env := launch0.env 0 0 0
theorem w_frames : about1.frames = Frame.invoking theMethod args0 :: below0 := rfl
set_option maxRecDepth 65536 in
theorem w_args : argsFit about1.vm theMethod args0 = true := by decide +kernel
set_option maxRecDepth 65536 in
theorem w_heap : heapFits about1 = true := by decide +kernel
set_option maxRecDepth 65536 in
theorem w_runnable : about1.curStatus? = some .runnable := by decide +kernel
set_option maxRecDepth 65536 in
theorem w_alone : about1.alone = true := by decide +kernel
set_option maxRecDepth 65536 in
theorem w_named : about1.methodNamed? x = some theMethod := by decide +kernel
set_option maxRecDepth 65536 in
theorem w_hears : about1.hears theMethod below0 = true := by decide +kernel
set_option maxRecDepth 65536 in
theorem w_ripe : about1.ripe theMethod args0 below0 = true := by decide +kernel
theorem w_running : about1.status = .running := rfl
set_option maxRecDepth 65536 in
theorem w_room : about1.hasRoom e0.platform room_1 = true :=
  launch0.hasRoom_least _ room_1 (by decide +kernel) (by decide +kernel) (by decide +kernel) (by decide +kernel) (by decide +kernel) (by decide +kernel)
theorem allAtoms_all (ts : List Jvm.Cond) (a : Array Jvm.Value) (st : Jvm.State) : (allAtoms ts).before a st = ts.all (fun c => c.before a st) := by
  induction ts with
  | nil => rfl
  | cons c t ih =>
    show (Jvm.Cond.and c (allAtoms t)).before a st = _
    rw [Jvm.Cond.before_and, ih, List.all_cons]
def words1 : List Jvm.Cond := Jvm.Cond.code x code maxLocals ret :: tables_1
/-- a 'code' word, met by the world's own term for the bytes: nothing is compared byte by byte -/
theorem code_word {y : MethodName} {bytes : ByteArray} {mx : Nat} {rt : Option FieldType} {a : Array Value} {s : State} {m : MethodId} {meth : Method} {c : Code} (h1 : s.methodNamed? y = some m) (h2 : s.vm.method? m = some meth) (h3 : meth.code = some c) (h4 : c.code = bytes)
    (h5 : (c.maxLocals == mx && c.exceptionTable.isEmpty && decide (c.maxStack ≤ mostOperands) && decide (meth.sig.returnType = rt) && !meth.locks && decide (parseMethodDescriptor y.desc = some meth.sig)) = true) : (Jvm.Cond.code y bytes mx rt).before a s = true := by
  simp only [Bool.and_eq_true, beq_iff_eq, Bool.not_eq_true', decide_eq_true_eq] at h5
  obtain ⟨⟨⟨⟨⟨g1, g2⟩, g3⟩, g4⟩, g5⟩, g6⟩ := h5
  simp [Cond.before, Cond.holds, Cond.value, h1, h2, h3, h4, g1, g2, g3, g4, g5, g6]
def isCode : Jvm.Cond → Bool
  | .code _ _ _ _ => true
  | _ => false
theorem all_split {L : List Jvm.Cond} {P : Jvm.Cond → Bool} (h1 : L.all (fun c => isCode c || P c) = true) (h2 : ∀ c ∈ L.filter isCode, P c = true) : L.all P = true := by
  refine List.all_eq_true.mpr fun c hc => ?_
  have h := List.all_eq_true.mp h1 c hc
  rcases Bool.eq_false_or_eq_true (isCode c) with hi | hi
  · exact h2 c (List.mem_filter.mpr ⟨hc, hi⟩)
  · simpa [hi] using h
set_option maxRecDepth 65536 in
theorem w_c0 : (Jvm.Cond.code x code maxLocals ret).before args0 about1 = true := code_word (m := ⟨1, 1⟩) (meth := k1m1) (c := k1c1) (by decide +kernel) rfl rfl rfl (by decide +kernel)
set_option maxRecDepth 65536 in
theorem w_c1 : (Jvm.Cond.code ({ cls := "java/lang/String", name := "length", desc := "()I" } : Jvm.MethodName) jdk_42_method_54_code (1 : Nat) (Option.some Jvm.ClassFile.FieldType.int)).before args0 about1 = true := code_word (m := ⟨7, 2⟩) (meth := k7m2) (c := k7c2) (by decide +kernel) rfl rfl rfl (by decide +kernel)
set_option maxRecDepth 65536 in
theorem w_c2 : (Jvm.Cond.code ({ cls := "java/lang/String", name := "coder", desc := "()B" } : Jvm.MethodName) jdk_42_method_152_code (1 : Nat) (Option.some Jvm.ClassFile.FieldType.byte)).before args0 about1 = true := code_word (m := ⟨7, 6⟩) (meth := k7m6) (c := k7c6) (by decide +kernel) rfl rfl rfl (by decide +kernel)
set_option maxRecDepth 65536 in
theorem w_c3 : (Jvm.Cond.code ({ cls := "com/example/grantline/grantline/enforcer/Permission", name := "fromScopeName", desc := "(Ljava/lang/String;)Lcom/example/grantline/grantline/enforcer/Permission;" } : Jvm.MethodName) prog_13_method_5_code (5 : Nat) (Option.some (Jvm.ClassFile.FieldType.object "com/example/grantline/grantline/enforcer/Permission"))).before args0 about1 = true := code_word (m := ⟨9, 1⟩) (meth := k9m1) (c := k9c1) (by decide +kernel) rfl rfl rfl (by decide +kernel)
set_option maxRecDepth 65536 in
theorem w_c4 : (Jvm.Cond.code ({ cls := "com/example/grantline/grantline/enforcer/Permission", name := "values", desc := "()[Lcom/example/grantline/grantline/enforcer/Permission;" } : Jvm.MethodName) prog_13_method_1_code (0 : Nat) (Option.some (Jvm.ClassFile.FieldType.array (Jvm.ClassFile.FieldType.object "com/example/grantline/grantline/enforcer/Permission")))).before args0 about1 = true := code_word (m := ⟨9, 0⟩) (meth := k9m0) (c := k9c0) (by decide +kernel) rfl rfl rfl (by decide +kernel)
set_option maxRecDepth 65536 in
theorem w_c5 : (Jvm.Cond.code ({ cls := "java/lang/String", name := "equals", desc := "(Ljava/lang/Object;)Z" } : Jvm.MethodName) jdk_42_method_66_code (3 : Nat) (Option.some Jvm.ClassFile.FieldType.boolean)).before args0 about1 = true := code_word (m := ⟨7, 4⟩) (meth := k7m4) (c := k7c4) (by decide +kernel) rfl rfl rfl (by decide +kernel)
set_option maxRecDepth 65536 in
theorem w_c6 : (Jvm.Cond.code ({ cls := "java/lang/String", name := "<init>", desc := "([C)V" } : Jvm.MethodName) jdk_42_method_3_code (2 : Nat) (Option.none : Option Jvm.ClassFile.FieldType)).before args0 about1 = true := code_word (m := ⟨7, 1⟩) (meth := k7m1) (c := k7c1) (by decide +kernel) rfl rfl rfl (by decide +kernel)
set_option maxRecDepth 65536 in
theorem w_c7 : (Jvm.Cond.code ({ cls := "java/lang/String", name := "<init>", desc := "([CIILjava/lang/Void;)V" } : Jvm.MethodName) jdk_42_method_149_code (6 : Nat) (Option.none : Option Jvm.ClassFile.FieldType)).before args0 about1 = true := code_word (m := ⟨7, 5⟩) (meth := k7m5) (c := k7c5) (by decide +kernel) rfl rfl rfl (by decide +kernel)
set_option maxRecDepth 65536 in
theorem w_c8 : (Jvm.Cond.code ({ cls := "java/lang/Object", name := "<init>", desc := "()V" } : Jvm.MethodName) object_method_1_code (1 : Nat) (Option.none : Option Jvm.ClassFile.FieldType)).before args0 about1 = true := code_word (m := ⟨0, 0⟩) (meth := k0m0) (c := k0c0) (by decide +kernel) rfl rfl rfl (by decide +kernel)
set_option maxRecDepth 65536 in
theorem w_c9 : (Jvm.Cond.code ({ cls := "java/lang/StringLatin1", name := "equals", desc := "([B[B)Z" } : Jvm.MethodName) jdk_43_method_13_code (3 : Nat) (Option.some Jvm.ClassFile.FieldType.boolean)).before args0 about1 = true := code_word (m := ⟨11, 2⟩) (meth := k11m2) (c := k11c2) (by decide +kernel) rfl rfl rfl (by decide +kernel)
set_option maxRecDepth 65536 in
theorem w_c10 : (Jvm.Cond.code ({ cls := "com/example/grantline/grantline/enforcer/PermissionFromScopeNamePinLaw", name := "build", desc := "(Ljava/lang/String;IIIC)Ljava/lang/String;" } : Jvm.MethodName) method_5_code (6 : Nat) (Option.some (Jvm.ClassFile.FieldType.object "java/lang/String"))).before args0 about1 = true := code_word (m := ⟨1, 4⟩) (meth := k1m4) (c := k1c4) (by decide +kernel) rfl rfl rfl (by decide +kernel)
set_option maxRecDepth 65536 in
theorem w_c11 : (Jvm.Cond.code ({ cls := "com/example/grantline/grantline/enforcer/PermissionFromScopeNamePinLaw", name := "newArr", desc := "(I)[C" } : Jvm.MethodName) method_3_code (1 : Nat) (Option.some (Jvm.ClassFile.FieldType.array Jvm.ClassFile.FieldType.char))).before args0 about1 = true := code_word (m := ⟨1, 2⟩) (meth := k1m2) (c := k1c2) (by decide +kernel) rfl rfl rfl (by decide +kernel)
set_option maxRecDepth 65536 in
theorem w_c12 : (Jvm.Cond.code ({ cls := "com/example/grantline/grantline/enforcer/PermissionFromScopeNamePinLaw", name := "at", desc := "(Ljava/lang/String;IIIC)C" } : Jvm.MethodName) method_4_code (5 : Nat) (Option.some Jvm.ClassFile.FieldType.char)).before args0 about1 = true := code_word (m := ⟨1, 3⟩) (meth := k1m3) (c := k1c3) (by decide +kernel) rfl rfl rfl (by decide +kernel)
set_option maxRecDepth 65536 in
theorem w_c13 : (Jvm.Cond.code ({ cls := "java/lang/String", name := "charAt", desc := "(I)C" } : Jvm.MethodName) jdk_42_method_56_code (2 : Nat) (Option.some Jvm.ClassFile.FieldType.char)).before args0 about1 = true := code_word (m := ⟨7, 3⟩) (meth := k7m3) (c := k7c3) (by decide +kernel) rfl rfl rfl (by decide +kernel)
set_option maxRecDepth 65536 in
theorem w_c14 : (Jvm.Cond.code ({ cls := "java/lang/String", name := "isLatin1", desc := "()Z" } : Jvm.MethodName) jdk_42_method_154_code (1 : Nat) (Option.some Jvm.ClassFile.FieldType.boolean)).before args0 about1 = true := code_word (m := ⟨7, 7⟩) (meth := k7m7) (c := k7c7) (by decide +kernel) rfl rfl rfl (by decide +kernel)
set_option maxRecDepth 65536 in
theorem w_c15 : (Jvm.Cond.code ({ cls := "java/lang/StringLatin1", name := "charAt", desc := "([BI)C" } : Jvm.MethodName) jdk_43_method_2_code (2 : Nat) (Option.some Jvm.ClassFile.FieldType.char)).before args0 about1 = true := code_word (m := ⟨11, 1⟩) (meth := k11m1) (c := k11c1) (by decide +kernel) rfl rfl rfl (by decide +kernel)
set_option maxRecDepth 65536 in
theorem w_c16 : (Jvm.Cond.code ({ cls := "java/lang/String", name := "checkIndex", desc := "(II)V" } : Jvm.MethodName) jdk_42_method_155_code (2 : Nat) (Option.none : Option Jvm.ClassFile.FieldType)).before args0 about1 = true := code_word (m := ⟨7, 8⟩) (meth := k7m8) (c := k7c8) (by decide +kernel) rfl rfl rfl (by decide +kernel)
set_option maxRecDepth 65536 in
theorem w_c17 : (Jvm.Cond.code ({ cls := "jdk/internal/util/Preconditions", name := "checkIndex", desc := "(IILjava/util/function/BiFunction;)I" } : Jvm.MethodName) jdk_41_method_11_code (3 : Nat) (Option.some Jvm.ClassFile.FieldType.int)).before args0 about1 = true := code_word (m := ⟨12, 1⟩) (meth := k12m1) (c := k12c1) (by decide +kernel) rfl rfl rfl (by decide +kernel)
set_option maxRecDepth 65536 in
theorem w_c18 : (Jvm.Cond.code ({ cls := "java/lang/StringUTF16", name := "compress", desc := "([CII)[B" } : Jvm.MethodName) jdk_52_method_16_code (6 : Nat) (Option.some (Jvm.ClassFile.FieldType.array Jvm.ClassFile.FieldType.byte))).before args0 about1 = true := code_word (m := ⟨13, 2⟩) (meth := k13m2) (c := k13c2) (by decide +kernel) rfl rfl rfl (by decide +kernel)
set_option maxRecDepth 65536 in
theorem w_c19 : (Jvm.Cond.code ({ cls := "java/lang/StringUTF16", name := "compress", desc := "([CI[BII)I" } : Jvm.MethodName) jdk_52_method_21_code (7 : Nat) (Option.some Jvm.ClassFile.FieldType.int)).before args0 about1 = true := code_word (m := ⟨13, 3⟩) (meth := k13m3) (c := k13c3) (by decide +kernel) rfl rfl rfl (by decide +kernel)
set_option maxRecDepth 65536 in
theorem w_c20 : (Jvm.Cond.code ({ cls := "java/lang/StringUTF16", name := "coderFromArrayLen", desc := "([BI)B" } : Jvm.MethodName) jdk_52_method_15_code (2 : Nat) (Option.some Jvm.ClassFile.FieldType.byte)).before args0 about1 = true := code_word (m := ⟨13, 1⟩) (meth := k13m1) (c := k13c1) (by decide +kernel) rfl rfl rfl (by decide +kernel)
def codes1 : List Jvm.Cond := [Jvm.Cond.code x code maxLocals ret, Jvm.Cond.code ({ cls := "java/lang/String", name := "length", desc := "()I" } : Jvm.MethodName) jdk_42_method_54_code (1 : Nat) (Option.some Jvm.ClassFile.FieldType.int), Jvm.Cond.code ({ cls := "java/lang/String", name := "coder", desc := "()B" } : Jvm.MethodName) jdk_42_method_152_code (1 : Nat) (Option.some Jvm.ClassFile.FieldType.byte), Jvm.Cond.code ({ cls := "com/example/grantline/grantline/enforcer/Permission", name := "fromScopeName", desc := "(Ljava/lang/String;)Lcom/example/grantline/grantline/enforcer/Permission;" } : Jvm.MethodName) prog_13_method_5_code (5 : Nat) (Option.some (Jvm.ClassFile.FieldType.object "com/example/grantline/grantline/enforcer/Permission")), Jvm.Cond.code ({ cls := "com/example/grantline/grantline/enforcer/Permission", name := "values", desc := "()[Lcom/example/grantline/grantline/enforcer/Permission;" } : Jvm.MethodName) prog_13_method_1_code (0 : Nat) (Option.some (Jvm.ClassFile.FieldType.array (Jvm.ClassFile.FieldType.object "com/example/grantline/grantline/enforcer/Permission"))), Jvm.Cond.code ({ cls := "java/lang/String", name := "equals", desc := "(Ljava/lang/Object;)Z" } : Jvm.MethodName) jdk_42_method_66_code (3 : Nat) (Option.some Jvm.ClassFile.FieldType.boolean), Jvm.Cond.code ({ cls := "java/lang/String", name := "<init>", desc := "([C)V" } : Jvm.MethodName) jdk_42_method_3_code (2 : Nat) (Option.none : Option Jvm.ClassFile.FieldType), Jvm.Cond.code ({ cls := "java/lang/String", name := "<init>", desc := "([CIILjava/lang/Void;)V" } : Jvm.MethodName) jdk_42_method_149_code (6 : Nat) (Option.none : Option Jvm.ClassFile.FieldType), Jvm.Cond.code ({ cls := "java/lang/Object", name := "<init>", desc := "()V" } : Jvm.MethodName) object_method_1_code (1 : Nat) (Option.none : Option Jvm.ClassFile.FieldType), Jvm.Cond.code ({ cls := "java/lang/StringLatin1", name := "equals", desc := "([B[B)Z" } : Jvm.MethodName) jdk_43_method_13_code (3 : Nat) (Option.some Jvm.ClassFile.FieldType.boolean), Jvm.Cond.code ({ cls := "com/example/grantline/grantline/enforcer/PermissionFromScopeNamePinLaw", name := "build", desc := "(Ljava/lang/String;IIIC)Ljava/lang/String;" } : Jvm.MethodName) method_5_code (6 : Nat) (Option.some (Jvm.ClassFile.FieldType.object "java/lang/String")), Jvm.Cond.code ({ cls := "com/example/grantline/grantline/enforcer/PermissionFromScopeNamePinLaw", name := "newArr", desc := "(I)[C" } : Jvm.MethodName) method_3_code (1 : Nat) (Option.some (Jvm.ClassFile.FieldType.array Jvm.ClassFile.FieldType.char)), Jvm.Cond.code ({ cls := "com/example/grantline/grantline/enforcer/PermissionFromScopeNamePinLaw", name := "at", desc := "(Ljava/lang/String;IIIC)C" } : Jvm.MethodName) method_4_code (5 : Nat) (Option.some Jvm.ClassFile.FieldType.char), Jvm.Cond.code ({ cls := "java/lang/String", name := "charAt", desc := "(I)C" } : Jvm.MethodName) jdk_42_method_56_code (2 : Nat) (Option.some Jvm.ClassFile.FieldType.char), Jvm.Cond.code ({ cls := "java/lang/String", name := "isLatin1", desc := "()Z" } : Jvm.MethodName) jdk_42_method_154_code (1 : Nat) (Option.some Jvm.ClassFile.FieldType.boolean), Jvm.Cond.code ({ cls := "java/lang/StringLatin1", name := "charAt", desc := "([BI)C" } : Jvm.MethodName) jdk_43_method_2_code (2 : Nat) (Option.some Jvm.ClassFile.FieldType.char), Jvm.Cond.code ({ cls := "java/lang/String", name := "checkIndex", desc := "(II)V" } : Jvm.MethodName) jdk_42_method_155_code (2 : Nat) (Option.none : Option Jvm.ClassFile.FieldType), Jvm.Cond.code ({ cls := "jdk/internal/util/Preconditions", name := "checkIndex", desc := "(IILjava/util/function/BiFunction;)I" } : Jvm.MethodName) jdk_41_method_11_code (3 : Nat) (Option.some Jvm.ClassFile.FieldType.int), Jvm.Cond.code ({ cls := "java/lang/StringUTF16", name := "compress", desc := "([CII)[B" } : Jvm.MethodName) jdk_52_method_16_code (6 : Nat) (Option.some (Jvm.ClassFile.FieldType.array Jvm.ClassFile.FieldType.byte)), Jvm.Cond.code ({ cls := "java/lang/StringUTF16", name := "compress", desc := "([CI[BII)I" } : Jvm.MethodName) jdk_52_method_21_code (7 : Nat) (Option.some Jvm.ClassFile.FieldType.int), Jvm.Cond.code ({ cls := "java/lang/StringUTF16", name := "coderFromArrayLen", desc := "([BI)B" } : Jvm.MethodName) jdk_52_method_15_code (2 : Nat) (Option.some Jvm.ClassFile.FieldType.byte)]
set_option maxRecDepth 65536 in
theorem codes_eq : words1.filter isCode = codes1 := rfl
theorem w_codes : ∀ c ∈ words1.filter isCode, c.before args0 about1 = true := by
  rw [codes_eq]
  intro c hc
  simp only [codes1, List.mem_cons, List.not_mem_nil, or_false] at hc
  rcases hc with rfl | rfl | rfl | rfl | rfl | rfl | rfl | rfl | rfl | rfl | rfl | rfl | rfl | rfl | rfl | rfl | rfl | rfl | rfl | rfl | rfl
  · exact w_c0
  · exact w_c1
  · exact w_c2
  · exact w_c3
  · exact w_c4
  · exact w_c5
  · exact w_c6
  · exact w_c7
  · exact w_c8
  · exact w_c9
  · exact w_c10
  · exact w_c11
  · exact w_c12
  · exact w_c13
  · exact w_c14
  · exact w_c15
  · exact w_c16
  · exact w_c17
  · exact w_c18
  · exact w_c19
  · exact w_c20
set_option maxRecDepth 65536 in
theorem w_t1 : (words1.take 24).all (fun c => isCode c || c.before args0 about1) = true := by decide +kernel
set_option maxRecDepth 65536 in
theorem w_t2 : ((words1.drop 24).take 24).all (fun c => isCode c || c.before args0 about1) = true := by decide +kernel
set_option maxRecDepth 65536 in
theorem w_t3 : (((words1.drop 24).drop 24).take 24).all (fun c => isCode c || c.before args0 about1) = true := by decide +kernel
set_option maxRecDepth 65536 in
theorem w_t4 : ((((words1.drop 24).drop 24).drop 24).take 24).all (fun c => isCode c || c.before args0 about1) = true := by decide +kernel
set_option maxRecDepth 65536 in
theorem w_t5 : ((((words1.drop 24).drop 24).drop 24).drop 24).all (fun c => isCode c || c.before args0 about1) = true := by decide +kernel
theorem w_tables : (allAtoms (Jvm.Cond.code x code maxLocals ret :: tables_1)).before args0 about1 = true := by
  rw [allAtoms_all]
  show words1.all (fun c => c.before args0 about1) = true
  refine all_split ?_ w_codes
  rw [← List.take_append_drop 24 words1, List.all_append, w_t1, ← List.take_append_drop 24 (words1.drop 24), List.all_append, w_t2, ← List.take_append_drop 24 ((words1.drop 24).drop 24), List.all_append, w_t3, ← List.take_append_drop 24 (((words1.drop 24).drop 24).drop 24), List.all_append, w_t4, w_t5]
  rfl
set_option maxRecDepth 65536 in
theorem w_rest : rest_1_c.before args0 about1 = true := by decide +kernel
set_option maxRecDepth 65536 in
theorem w_case : (Jvm.Cond.and given_1 narrow_1).before args0 about1 = true := by decide +kernel
set_option maxRecDepth 65536 in
theorem w_consts : constsHeld consts_1 about1 := Jvm.Lit.constsHeldB_iff.mp (by decide +kernel)
theorem w_applies : (headSpec (Jvm.Cond.code x code maxLocals ret :: tables_1) room_1).applies x e0.platform about1 = true :=
  (Spec.applies_iff w_frames).mpr ⟨w_running, w_runnable, w_alone, w_named, w_hears, w_ripe, w_room, w_tables⟩
theorem atStart : AtStart classFile x code maxLocals ret World_1 tables_1 room_1 Calls_1 rest_1 Pre_1 launch0 p0 e0 about1 theMethod args0 below0 :=
  ⟨lists_1, trivial, launch0.admits_env _ _ _, launch0.least_env, fairChoices_fair.cas, fairChoices_fair.clock, w_frames, w_args, w_heap, w_applies, ⟨w_consts, trivial⟩, w_rest, w_case⟩
end start1
theorem witness_1 : WitnessClaimed_1 := ⟨start1.p0, start1.e0, start1.about1, start1.theMethod, start1.args0, start1.below0, start1.atStart⟩
end Jvm.Pilot.@@N@@
