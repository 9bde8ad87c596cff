import JvmDerived
import JvmDerived.Pilot.@@N@@Statement
import JvmDerived.Pilot.@@N@@Code
set_option linter.unusedVariables false
set_option linter.unusedSimpArgs false
namespace Jvm.Pilot.@@N@@
open Jvm Jvm.ClassFile Sem Op Lib Jvm.Free Jvm.Stand Jvm.LawKit Jvm.RoadKit Bundle Jvm.Pilot.@@N@@.Jvm.D
/-! ## own: a small logic of owned cells over the library's Stand -/
/-- cells by their addresses -/
abbrev HL := List (Addr × Cell)
def Own (h : Heap) (σ : HL) : Prop := ∀ q ∈ σ, h[q.1]? = some q.2
abbrev adr (σ : HL) : List Addr := σ.map Prod.fst
/-- what is known of the heap h under the tables vm, in an activation that began at s owning σ0 and reading ρ0: σ is owned, ρ is read, what stood at the law's start Z stands -/
def Hp (Z : State) (EL : List (String × Nat)) (σ0 ρ0 : HL) (s : State) (σ ρ : HL) (vm : Vm) (h : Heap) : Prop :=
  CHr Z EL s.vm s.heap vm h ∧ Own h σ ∧ Own h ρ ∧ (adr σ).Nodup ∧
  (∀ q ∈ σ, Z.heap.size ≤ q.1 ∧ (q.1 ∈ adr σ0 ∨ s.heap.size ≤ q.1) ∧ Safe Z EL vm h q.1) ∧
  (∀ q ∈ ρ, q.1 ∉ adr σ ∧ (q.1 ∈ adr ρ0 ∨ q.1 ∈ adr σ0 ∨ s.heap.size ≤ q.1 ∨ Bk Z EL s.vm s.heap q.1)) ∧
  (∀ (x : Addr) (cl : Cell), s.heap[x]? = some cl → x ∉ adr σ0 → h[x]? = some cl) ∧ Ext Z.heap h
section HpLaws
variable {Z s : State} {EL : List (String × Nat)} {σ0 ρ0 σ ρ σ' ρ' : HL} {vm vm1 : Vm} {h h' : Heap}
theorem own_lt (O : Own h σ) {q : Addr × Cell} (hq : q ∈ σ) : q.1 < h.size := (Array.getElem?_eq_some_iff.mp (O q hq)).1
theorem adr_mem {x : Addr} (hx : x ∈ adr σ) : ∃ q ∈ σ, q.1 = x := List.mem_map.mp hx
theorem mem_adr {q : Addr × Cell} (hq : q ∈ σ) : q.1 ∈ adr σ := List.mem_map.mpr ⟨q, hq, rfl⟩
theorem Own.ext (E : Ext h h') (O : Own h σ) : Own h' σ := fun q hq => E.2 _ _ (O q hq)
theorem Own.sub (O : Own h σ) (hs : ∀ q ∈ σ', q ∈ σ) : Own h σ' := fun q hq => O q (hs q hq)
theorem own_app (O : Own h σ) (O' : Own h σ') : Own h (σ ++ σ') := fun q hq => (List.mem_append.mp hq).elim (O q) (O' q)
theorem ext_tr {h2 : Heap} (E : Ext h h') (E' : Ext h' h2) : Ext h h2 := ⟨Nat.le_trans E.1 E'.1, fun a c q => E'.2 _ _ (E.2 _ _ q)⟩
/-- tables and heap go on; nothing owned or read is touched -/
theorem Hp.later (H : Hp Z EL σ0 ρ0 s σ ρ vm h) (C : CHr Z EL vm h vm1 h') (E : Ext h h') : Hp Z EL σ0 ρ0 s σ ρ vm1 h' := by
  obtain ⟨c, o, r, nd, a, b, f, z⟩ := H
  exact ⟨c.trans C, o.ext E, r.ext E, nd, fun q hq => ⟨(a q hq).1, (a q hq).2.1, C.safe (own_lt o hq) (a q hq).2.2⟩, b, fun x cl hx hn => E.2 _ _ (f x cl hx hn), ext_tr z E⟩
theorem Hp.alloc (H : Hp Z EL σ0 ρ0 s σ ρ vm h) (E : Ext h h') {c : Cell} (hc : h'[h.size]? = some c) : Hp Z EL σ0 ρ0 s ((h.size, c) :: σ) ρ vm h' := by
  have C : CHr Z EL vm h vm h' := CHr.ext E H.1.1
  have H' := H.later C E
  obtain ⟨c1, o, r, nd, a, b, f, z⟩ := H
  obtain ⟨c1', o', r', nd', a', b', f', z'⟩ := H'
  refine ⟨c1', fun q hq => ?_, r', ?_, fun q hq => ?_, fun q hq => ⟨?_, (b q hq).2⟩, f', z'⟩
  · rcases List.mem_cons.mp hq with rfl | hq
    · exact hc
    · exact o' q hq
  · refine List.nodup_cons.mpr ⟨fun hm => ?_, nd⟩
    obtain ⟨q, hq, e⟩ := adr_mem hm
    exact absurd (e ▸ own_lt o hq) (Nat.lt_irrefl _)
  · rcases List.mem_cons.mp hq with rfl | hq
    · exact ⟨z.1, Or.inr c1.2.1, Safe.ext E c1.1 (Safe.new (Nat.le_refl _))⟩
    · exact a' q hq
  · intro hm
    rcases List.mem_cons.mp hm with e | hm
    · exact absurd (e ▸ own_lt r hq) (Nat.lt_irrefl _)
    · exact (b q hq).1 hm
/-- one owned cell is written -/
theorem Hp.write (H : Hp Z EL σ0 ρ0 s σ ρ vm h) {i : Nat} {a : Addr} {c c' : Cell} (hi : σ[i]? = some (a, c)) (hw : h' = h.setIfInBounds a c') : Hp Z EL σ0 ρ0 s (σ.set i (a, c')) ρ vm h' := by
  have hmem : (a, c) ∈ σ := List.mem_of_getElem? hi
  have hadr : adr (σ.set i (a, c')) = adr σ := by
    rw [adr, List.map_set]
    apply List.ext_getElem?
    intro j
    rw [List.getElem?_set]
    split
    · rename_i e
      subst e
      simp only [List.length_map, List.getElem?_map, hi, Option.map_some]
      split
      · rfl
      · rename_i hl
        exact absurd (List.getElem?_eq_some_iff.mp hi).1 (by simpa using hl)
    · rfl
  obtain ⟨c1, o, r, nd, al, b, f, z⟩ := H
  have ha : h[a]? = some c := o _ hmem
  have hlt : a < h.size := (Array.getElem?_eq_some_iff.mp ha).1
  have hS : Safe Z EL vm h a := (al _ hmem).2.2
  have ke : ∀ y, y ≠ a → h'[y]? = h[y]? := fun y hy => by rw [hw, Array.getElem?_setIfInBounds_ne (Ne.symm hy)]
  have hsz : h'.size = h.size := by rw [hw]; simp
  have hstep := c1.1.step (h' := h') fun y B cell q => by
    rw [ke y fun e => hS (e ▸ B)]; exact q
  have C : CHr Z EL vm h vm h' := ⟨hstep.1, by rw [hsz]; exact Nat.le_refl _, fun y q => Or.inl (hstep.2 y q)⟩
  have hin : ∀ q ∈ σ.set i (a, c'), q = (a, c') ∨ (q ∈ σ ∧ q.1 ≠ a) := fun q hq => by
    obtain ⟨j, hj⟩ := List.mem_iff_getElem?.mp hq
    rw [List.getElem?_set] at hj
    split at hj
    · split at hj
      · exact Or.inl (Option.some.inj hj).symm
      · cases hj
    · rename_i hne
      refine Or.inr ⟨List.mem_of_getElem? hj, fun e => hne ?_⟩
      have h1 : (adr σ)[j]? = some a := by rw [adr, List.getElem?_map, hj]; exact congrArg some e
      have h2 : (adr σ)[i]? = some a := by rw [adr, List.getElem?_map, hi]; rfl
      obtain ⟨l1, e1⟩ := List.getElem?_eq_some_iff.mp h1
      obtain ⟨l2, e2⟩ := List.getElem?_eq_some_iff.mp h2
      exact (List.getElem_inj nd).mp (e2.trans e1.symm)
  refine ⟨c1.trans C, fun q hq => ?_, fun q hq => ?_, by rw [hadr]; exact nd, fun q hq => ?_, fun q hq => ⟨by rw [hadr]; exact (b q hq).1, (b q hq).2⟩, fun x cl hx hn => ?_, ⟨by rw [hsz]; exact z.1, fun x cl hx => ?_⟩⟩
  · rcases hin q hq with rfl | ⟨hq, hne⟩
    · show h'[a]? = some c'
      rw [hw]; simp [hlt]
    · rw [ke _ hne]; exact o q hq
  · rw [ke q.1 fun e => (b q hq).1 (by rw [e]; exact mem_adr hmem)]; exact r q hq
  · rcases hin q hq with rfl | ⟨hq, -⟩
    · exact ⟨(al _ hmem).1, (al _ hmem).2.1, C.safe hlt hS⟩
    · exact ⟨(al q hq).1, (al q hq).2.1, C.safe (own_lt o hq) (al q hq).2.2⟩
  · have hx' := f x cl hx hn
    rw [ke x]
    · exact hx'
    · rintro rfl
      rcases (al _ hmem).2.1 with q | q
      · exact hn q
      · exact absurd (Array.getElem?_eq_some_iff.mp hx).1 (Nat.not_lt.mpr q)
  · rw [ke x]
    · exact z.2 x cl hx
    · rintro rfl
      exact absurd (Array.getElem?_eq_some_iff.mp hx).1 (Nat.not_lt.mpr (al _ hmem).1)
/-- fewer, or otherwise ordered -/
theorem Hp.sub (H : Hp Z EL σ0 ρ0 s σ ρ vm h) (hs : ∀ q ∈ σ', q ∈ σ) (nd : (adr σ').Nodup) (hr : ∀ q ∈ ρ', q ∈ ρ) : Hp Z EL σ0 ρ0 s σ' ρ' vm h := by
  obtain ⟨c, o, r, -, a, b, f⟩ := H
  refine ⟨c, o.sub hs, r.sub hr, nd, fun q hq => a q (hs q hq), fun q hq => ⟨fun hm => ?_, (b q (hr q hq)).2⟩, f⟩
  obtain ⟨q', hq', e⟩ := adr_mem hm
  exact (b q (hr q hq)).1 (e ▸ mem_adr (hs q' hq'))
/-- owned cells become read-only -/
theorem Hp.freeze (H : Hp Z EL σ0 ρ0 s (σ' ++ σ) ρ vm h) : Hp Z EL σ0 ρ0 s σ (σ' ++ ρ) vm h := by
  obtain ⟨c, o, r, nd, a, b, f⟩ := H
  have nd' := nd
  rw [adr, List.map_append, List.nodup_append] at nd'
  refine ⟨c, o.sub fun q hq => List.mem_append_right _ hq, own_app (o.sub fun q hq => List.mem_append_left _ hq) r, nd'.2.1, fun q hq => a q (List.mem_append_right _ hq), fun q hq => ?_, f⟩
  rcases List.mem_append.mp hq with hq | hq
  · refine ⟨fun hm => nd'.2.2 _ (mem_adr hq) _ hm rfl, ?_⟩
    rcases (a q (List.mem_append_left _ hq)).2.1 with z | z
    · exact Or.inr (Or.inl z)
    · exact Or.inr (Or.inr (Or.inl z))
  · refine ⟨fun hm => (b q hq).1 ?_, (b q hq).2⟩
    rw [adr, List.map_append]; exact List.mem_append_right _ hm
/-- a booked literal's cells are read-only -/
theorem Hp.lit (H : Hp Z EL σ0 ρ0 s σ ρ vm h) {a : Addr} {c : Cell} (ha : h[a]? = some c) (hb : ∀ x, Safe Z EL vm h x → x ≠ a) : Hp Z EL σ0 ρ0 s σ ((a, c) :: ρ) vm h := by
  obtain ⟨c1, o, r, nd, al, b, f⟩ := H
  refine ⟨c1, o, fun q hq => ?_, nd, al, fun q hq => ?_, f⟩
  · rcases List.mem_cons.mp hq with rfl | hq
    · exact ha
    · exact r q hq
  · rcases List.mem_cons.mp hq with rfl | hq
    · refine ⟨fun hm => ?_, ?_⟩
      · obtain ⟨q, hq, e⟩ := adr_mem hm
        exact hb _ (al q hq).2.2 e
      · have hB : Bk Z EL vm h a := Classical.byContradiction fun hn => hb a hn rfl
        rcases c1.2.2 a hB with z | z
        · exact Or.inr (Or.inr (Or.inr z))
        · exact Or.inr (Or.inr (Or.inl z))
    · exact b q hq
/-- **THE FRAME RULE**: a callee that was handed σi and ρi gives back σ' and ρ' -/
theorem Hp.call {U : State} {σi σf ρi : HL} (H : Hp Z EL σ0 ρ0 s (σi ++ σf) ρ U.vm U.heap) (hρ : ∀ q ∈ ρi, q ∈ ρ) (Hc : Hp Z EL σi ρi U σ' ρ' vm1 h') : Hp Z EL σ0 ρ0 s (σ' ++ σf) (ρ' ++ ρ) vm1 h' := by
  obtain ⟨c, o, r, nd, a, b, f, z0⟩ := H
  obtain ⟨c', o', r', nd', a', b', f', z'⟩ := Hc
  have nd2 := nd
  rw [adr, List.map_append, List.nodup_append] at nd2
  have of : Own U.heap σf := o.sub fun q hq => List.mem_append_right _ hq
  have disj : ∀ x, x ∈ adr σi → x ∉ adr σf := fun x h1 h2 => nd2.2.2 x h1 x h2 rfl
  have inapp : ∀ x, x ∈ adr σi → x ∈ adr (σi ++ σf) := fun x hx => by rw [adr, List.map_append]; exact List.mem_append_left _ hx
  have inapp' : ∀ x, x ∈ adr σf → x ∈ adr (σi ++ σf) := fun x hx => by rw [adr, List.map_append]; exact List.mem_append_right _ hx
  have flt : ∀ x, x ∈ adr σf → x < U.heap.size := fun x hx => by obtain ⟨q, hq, rfl⟩ := adr_mem hx; exact own_lt of hq
  have orig : ∀ x, x ∈ adr σi → x ∈ adr σ0 ∨ s.heap.size ≤ x := fun x hx => by obtain ⟨q, hq, rfl⟩ := adr_mem hx; exact (a q (List.mem_append_left _ hq)).2.1
  have hs := c.2.1
  refine ⟨c.trans c', own_app o' fun q hq => f' _ _ (of q hq) fun hm => disj _ hm (mem_adr hq), own_app r' fun q hq => f' _ _ (r q hq) fun hm => (b q hq).1 (inapp _ hm), ?_, fun q hq => ?_, fun q hq => ?_, fun x cl hx hn => ?_, z'⟩
  · rw [adr, List.map_append, List.nodup_append]
    refine ⟨nd', nd2.2.1, fun x hx y hy e => ?_⟩
    subst e
    obtain ⟨q, hq, rfl⟩ := adr_mem hx
    rcases (a' q hq).2.1 with z | z
    · exact disj _ z hy
    · exact absurd (flt _ hy) (Nat.not_lt.mpr z)
  · rcases List.mem_append.mp hq with hq | hq
    · refine ⟨(a' q hq).1, ?_, (a' q hq).2.2⟩
      rcases (a' q hq).2.1 with z | z
      · exact orig _ z
      · exact Or.inr (Nat.le_trans hs z)
    · have z := a q (List.mem_append_right _ hq)
      exact ⟨z.1, z.2.1, c'.safe (own_lt of hq) z.2.2⟩
  · rcases List.mem_append.mp hq with hq | hq
    · have z := b' q hq
      refine ⟨fun hm => ?_, ?_⟩
      · rw [adr, List.map_append] at hm
        rcases List.mem_append.mp hm with hm | hm
        · exact z.1 hm
        · rcases z.2 with y | y | y | y
          · obtain ⟨q', hq', e⟩ := adr_mem y
            refine (b q' (hρ q' hq')).1 (inapp' _ ?_)
            rw [e]; exact hm
          · exact disj _ y hm
          · exact absurd (flt _ hm) (Nat.not_lt.mpr y)
          · obtain ⟨q', hq', e⟩ := adr_mem hm
            refine (a q' (List.mem_append_right _ hq')).2.2 ?_
            rw [e]; exact y
      · rcases z.2 with y | y | y | y
        · obtain ⟨q', hq', e⟩ := adr_mem y
          have := (b q' (hρ q' hq')).2
          rw [e] at this; exact this
        · rcases orig _ y with w | w
          · exact Or.inr (Or.inl w)
          · exact Or.inr (Or.inr (Or.inl w))
        · exact Or.inr (Or.inr (Or.inl (Nat.le_trans hs y)))
        · rcases c.2.2 _ y with w | w
          · exact Or.inr (Or.inr (Or.inr w))
          · exact Or.inr (Or.inr (Or.inl w))
    · have z := b q hq
      refine ⟨fun hm => ?_, z.2⟩
      rw [adr, List.map_append] at hm
      rcases List.mem_append.mp hm with hm | hm
      · obtain ⟨q', hq', e⟩ := adr_mem hm
        rcases (a' q' hq').2.1 with y | y
        · refine z.1 (inapp _ ?_)
          rw [← e]; exact y
        · exact absurd (own_lt r hq) (Nat.not_lt.mpr (e ▸ y))
      · exact z.1 (inapp' _ hm)
  · refine f' x cl (f x cl hx hn) fun hm => ?_
    rcases orig _ hm with z | z
    · exact hn z
    · exact absurd (Array.getElem?_eq_some_iff.mp hx).1 (Nat.not_lt.mpr z)
end HpLaws
/-! ## own: the walk's point (Wk), what is still to be reached (Go), a contract (Met) -/
abbrev Ctx := Program × Env × State × MethodId × Array Value × List Frame × Method × Code × HL × HL
abbrev Ctx.p (X : Ctx) : Program := X.1
abbrev Ctx.e (X : Ctx) : Env := X.2.1
abbrev Ctx.s (X : Ctx) : State := X.2.2.1
abbrev Ctx.m (X : Ctx) : MethodId := X.2.2.2.1
abbrev Ctx.args (X : Ctx) : Array Value := X.2.2.2.2.1
abbrev Ctx.below (X : Ctx) : List Frame := X.2.2.2.2.2.1
abbrev Ctx.meth (X : Ctx) : Method := X.2.2.2.2.2.2.1
abbrev Ctx.c (X : Ctx) : Code := X.2.2.2.2.2.2.2.1
abbrev Ctx.so (X : Ctx) : HL := X.2.2.2.2.2.2.2.2.1
abbrev Ctx.ro (X : Ctx) : HL := X.2.2.2.2.2.2.2.2.2
def Wk (l : Launch) (Z : State) (EL : List (String × Nat)) (R : Room) (own : String) (bytes : ByteArray) (maxL : Nat) (ret : Option FieldType) (nm : String) (X : Ctx) (σ ρ : HL) (T : State) (k n : Nat) : Prop :=
  (X.p.tables.exec = Jvm.exec ∧ X.c.code = bytes ∧ X.c.maxLocals = maxL ∧ X.meth.sig.returnType = ret ∧ X.meth.locks = false ∧ X.meth.name = nm ∧ ∃ a : Array Value, EW Z a EL) ∧
  ∃ (vm0 : Vm) (k0 : Nat) (locs : List Loc), Stand X.p l X.e R (X.s.setVm vm0) X.m X.args X.below X.meth X.c T locs k n ∧ X.s.Since vm0 k0 ∧ k0 ≤ T.heap.size ∧ Z.Warmed39 vm0 ∧ vm0.findClass own = some X.m.cls ∧ Fr Z.heap.size locs ∧ Hp Z EL X.so X.ro X.s σ ρ vm0 T.heap
def Go (Z : State) (EL : List (String × Nat)) (K N : Nat) (Q : Option Value → HL → HL → Prop) (X : Ctx) (T : State) (pc : Nat) (Ls : Array Slot) (st : List Value) : Prop :=
  ∃ (s₂ : State) (o : Outcome), Steps X.p.tables X.e X.below (T.setTop (mkF X.m pc Ls st)) s₂ ∧ s₂.status = .running ∧ Ended s₂ X.below o ∧
    ∃ v σ ρ L, o = .returned v ∧ Q v σ ρ ∧ Fr Z.heap.size L ∧ Hp Z EL X.so X.ro X.s σ ρ s₂.vm s₂.heap ∧ ReturnedEndW X.s o s₂ L K N
def Met (l : Launch) (Z : State) (EL : List (String × Nat)) (y : MethodName) (bytes : ByteArray) (maxL : Nat) (ret : Option FieldType) (rm : Room) (as' : Array Value) (σi ρi : HL) (Q : Option Value → HL → HL → Prop) : Prop :=
  MetFree l y (head1 [Jvm.Cond.code y bytes maxL ret] rm) (fun a U => a = as' ∧ Z.Warmed39 U.vm ∧ Hp Z EL σi ρi U σi ρi U.vm U.heap) (fun _ _ _ _ _ => True)
    (fun _ U o U' => ∃ v σ ρ L, o = .returned v ∧ Q v σ ρ ∧ Fr Z.heap.size L ∧ Hp Z EL σi ρi U σ ρ U'.vm U'.heap ∧ ReturnedEndW U o U' L rm.cells rm.slots)
section WkLaws
variable {l : Launch} {Z : State} {a0 : Array Value} {EL : List (String × Nat)} {R : Room} {own : String} {bytes : ByteArray} {maxL : Nat} {ret : Option FieldType} {nm : String} {X : Ctx} {σ ρ σ' ρ' : HL} {T T' : State} {k n K N : Nat} {Q Q' : Option Value → HL → HL → Prop} {pc pc' : Nat} {Ls Ls' : Array Slot} {st st' : List Value}
theorem Wk.here (W : Wk l Z EL R own bytes maxL ret nm X σ ρ T k n) : At T X.m X.c X.below := by obtain ⟨-, _, _, _, Y, -⟩ := W; exact Y.here
theorem Wk.hx (W : Wk l Z EL R own bytes maxL ret nm X σ ρ T k n) : X.p.tables.exec = Jvm.exec := W.1.1
theorem Wk.hb (W : Wk l Z EL R own bytes maxL ret nm X σ ρ T k n) {r : Except ClassFile.DecodeError (ClassFile.Instr × Nat)} (hd : decode bytes pc = r) : decode X.c.code pc = r := by rw [W.1.2.1]; exact hd
theorem Go.by (f : ∀ t, Steps X.p.tables X.e X.below (T'.setTop (mkF X.m pc' Ls' st')) t → Steps X.p.tables X.e X.below (T.setTop (mkF X.m pc Ls st)) t) (r : Go Z EL K N Q X T' pc' Ls' st') : Go Z EL K N Q X T pc Ls st := by
  obtain ⟨s2, o, h1, h2⟩ := r
  exact ⟨s2, o, f _ h1, h2⟩
theorem Go.mono (h : ∀ v σ ρ, Q v σ ρ → Q' v σ ρ) (r : Go Z EL K N Q X T pc Ls st) : Go Z EL K N Q' X T pc Ls st := by
  obtain ⟨s2, o, h1, h2, h3, v, a, b, L, e, q, r⟩ := r
  exact ⟨s2, o, h1, h2, h3, v, a, b, L, e, h _ _ _ q, r⟩
theorem Met.mono {y : MethodName} {rm : Room} {as' : Array Value} (h : ∀ v σ ρ, Q v σ ρ → Q' v σ ρ) (M : Met l Z EL y bytes maxL ret rm as' σ ρ Q) : Met l Z EL y bytes maxL ret rm as' σ ρ Q' :=
  fun p e ha hc hk s m args below hf happ hP hK => by
    obtain ⟨n, o, h1, h2, h3, v, s1, r1, L, e1, q, r⟩ := M p e ha hc hk s m args below hf happ hP hK
    exact ⟨n, o, h1, h2, h3, v, s1, r1, L, e1, h _ _ _ q, r⟩
theorem Hp.enter {s U : State} {σ0 ρ0 σi σf ρi : HL} (H : Hp Z EL σ0 ρ0 s (σi ++ σf) ρ U.vm U.heap) (hρ : ∀ q ∈ ρi, q ∈ ρ) : Hp Z EL σi ρi U σi ρi U.vm U.heap := by
  obtain ⟨c, o, r, nd, a, b, f, z0⟩ := H
  rw [adr, List.map_append, List.nodup_append] at nd
  refine ⟨CHr.refl c.1, o.sub fun q hq => List.mem_append_left _ hq, r.sub hρ, nd.1, fun q hq => ?_, fun q hq => ⟨fun hm => (b q (hρ q hq)).1 ?_, Or.inl (mem_adr hq)⟩, fun _ _ q _ => q, z0⟩
  · have z := a q (List.mem_append_left _ hq)
    exact ⟨z.1, Or.inl (mem_adr hq), z.2.2⟩
  · rw [adr, List.map_append]; exact List.mem_append_left _ hm
/-- a walk of the body meets the contract -/
theorem Met.walk {y : MethodName} {rm : Room} {as' : Array Value} {σi ρi : HL} (hEL : EW Z a0 EL) (hp : plainName y.cls = true) (Ls0 : Array Slot) (ent : ∀ m, entryFrame m as' maxL = mkF m 0 Ls0 [])
    (w : ∀ (X : Ctx) (T : State), Wk l Z EL rm y.cls bytes maxL ret y.name X σi ρi T 0 0 → Go Z EL rm.cells rm.slots Q X T 0 Ls0 []) : Met l Z EL y bytes maxL ret rm as' σi ρi Q := by
  refine MetFree.of_bodySF (plainFor_of_name hp) hisR ?_
  intro p e s m args below meth c s₁ Bd hml hP hK
  obtain ⟨rfl, hZ, H⟩ := hP
  have X0 : Stand p l e rm s m args below meth c s₁ [] 0 0 := Stand.of_body Bd
  have e0 : s₁.heap = s.heap := by rw [Bd.state]; rfl
  obtain ⟨s2, o, h1, h2, h3, h4⟩ := w (p, e, s, m, args, below, meth, c, σi, ρi) s₁ ⟨⟨Bd.exec, Bd.bytes, hml, Bd.returns, Bd.notSynchronized, (name_of_methodNamed Bd.named Bd.method).1, a0, hEL⟩, s.vm, s.heap.size, [], X0, (State.WarmedH.refl s).since _, by rw [e0]; exact Nat.le_refl _, hZ, findClass_of_methodNamed Bd.named, Fr.nil _, by rw [e0]; exact H⟩
  exact ⟨s2, o, castTop (ent m) h1, h2, h3, h4⟩
/-- a contract pays a call -/
theorem Met.back {p : Program} {e : Env} {below : List Frame} {s : State} {args : Array Value} {vm0 : Vm} {y : MethodName} {rm : Room} {as' : Array Value} {σi ρi σf σ0 ρ0 : HL} {len W : Nat} {h : Heap} (M : Met l Z EL y bytes maxL ret rm as' σi ρi Q)
    (hZ : Z.Warmed39 vm0) (wc : (Jvm.Cond.code y bytes maxL ret).before a0 Z = true) (wz : (Jvm.Cond.initialized y.cls).before a0 Z = true) (hf : rm.frames + 1 ≤ R.frames) (hl : W + (maxL + 11) + rm.locals ≤ R.locals) {a1 : Array Value} (hEL : EW Z a1 EL)
    (H : Hp Z EL σ0 ρ0 s (σi ++ σf) ρ vm0 h) (hρ : ∀ q ∈ ρi, q ∈ ρ) :
    BackS l R p e below (s.setVm vm0) args y len W (fun A a => a = as' ∧ A.U.heap = h ∧ A.cells + rm.cells ≤ R.cells ∧ A.slots + rm.slots ≤ R.slots)
      (fun A _ v B => ∃ σ' ρ' L, Q v σ' ρ' ∧ Fr Z.heap.size L ∧ Hp Z EL σ0 ρ0 s (σ' ++ σf) (ρ' ++ ρ) B.U.vm B.U.heap ∧ B.locs = A.locs ++ L ∧ B.cells = A.cells + rm.cells ∧ B.slots = A.slots + rm.slots) := by
  have key : ∀ m meth c (A : Pt) (g : JFrame) mk (a : Array Value), Stand p l e R (s.setVm vm0) m args below meth c A.U A.locs A.cells A.slots → A.U.heap = h → Hp Z EL σ0 ρ0 s (σi ++ σf) ρ (A.U.calling g mk a).vm (A.U.calling g mk a).heap := fun m meth c A g mk a Y hp => by
    have C := CHv.at Y hZ hEL H.1.1
    have q := H.later C ⟨Nat.le_refl _, fun _ _ z => z⟩
    show Hp Z EL σ0 ρ0 s (σi ++ σf) ρ A.U.vm A.U.heap
    rw [hp]; exact q
  refine BackS.of_freeW (bytes := bytes) (maxL := maxL) (ret := ret) (E := fun _ first o t L k n => k = rm.cells ∧ n = rm.slots ∧ ∃ v σ ρ, o = .returned v ∧ Q v σ ρ ∧ Fr Z.heap.size L ∧ Hp Z EL σi ρi first σ ρ t.vm t.heap) M hf hl
    (fun m meth c A a Y hp => have hU : Z.Warmed39 A.U.vm := wtrans (s := s.setVm vm0) hZ Y.warmed
      ⟨by show (Jvm.Cond.and _ .tt).before a A.U = true; rw [Cond.before_and, mv hU wc]; rfl, mv hU wc, mv hU wz, hp.2.2.1, hp.2.2.2⟩)
    (fun m meth c A a g mk Y hp => ⟨hp.1, wtrans (s := s.setVm vm0) hZ Y.warmed, (key m meth c A g mk a Y hp.2.1).enter hρ⟩) (fun _ _ _ _ _ _ _ _ _ => trivial)
    (fun _ _ _ _ ⟨v, s1, r1, L, h1, h2, h3, h4, h5⟩ => ⟨L, _, _, h5, rfl, rfl, v, s1, r1, h1, h2, h3, h4⟩) ?_
  intro m meth c A a g mk v t L k n Y hp _ _ ⟨e1, e2, v', s1, r1, e3, e4, e5, e6⟩
  cases e3
  subst e1 e2
  exact ⟨s1, r1, L, e4, e5, (key m meth c A g mk a Y hp.2.1).call hρ e6, rfl, rfl, rfl⟩
/-! picking out of lists -/
def takeAt {α : Type} : Nat → List α → Option (α × List α)
  | _, [] => none
  | 0, x :: l => some (x, l)
  | i + 1, x :: l => match takeAt i l with
    | none => none
    | some (y, l') => some (y, x :: l')
def pick {α : Type} : List Nat → List α → Option (List α × List α)
  | [], l => some ([], l)
  | i :: is, l => match takeAt i l with
    | none => none
    | some (x, l') => match pick is l' with
      | none => none
      | some (a, b) => some (x :: a, b)
theorem takeAt_perm {α : Type} : ∀ (i : Nat) (l : List α) (x : α) (l' : List α), takeAt i l = some (x, l') → (x :: l').Perm l
  | _, [], _, _, h => by simp [takeAt] at h
  | 0, y :: l, x, l', h => by simp [takeAt] at h; obtain ⟨rfl, rfl⟩ := h; exact List.Perm.refl _
  | i + 1, y :: l, x, l', h => by
    simp only [takeAt] at h
    cases hq : takeAt i l with
    | none => simp [hq] at h
    | some q =>
      obtain ⟨z, l2⟩ := q
      simp [hq] at h
      obtain ⟨rfl, rfl⟩ := h
      exact (List.Perm.swap _ _ _).trans ((takeAt_perm i l z l2 hq).cons y)
theorem pick_perm {α : Type} : ∀ (is : List Nat) (l a b : List α), pick is l = some (a, b) → (a ++ b).Perm l
  | [], l, a, b, h => by simp [pick] at h; obtain ⟨rfl, rfl⟩ := h; exact List.Perm.refl _
  | i :: is, l, a, b, h => by
    simp only [pick] at h
    cases hq : takeAt i l with
    | none => simp [hq] at h
    | some q =>
      obtain ⟨x, l'⟩ := q
      cases hp : pick is l' with
      | none => simp [hq, hp] at h
      | some r =>
        obtain ⟨a', b'⟩ := r
        simp [hq, hp] at h
        obtain ⟨rfl, rfl⟩ := h
        exact ((pick_perm is l' a' b' hp).cons x).trans (takeAt_perm i l x l' hq)
theorem Hp.perm {s : State} {σ0 ρ0 : HL} {vm : Vm} {h : Heap} (H : Hp Z EL σ0 ρ0 s σ ρ vm h) (hp : σ'.Perm σ) : Hp Z EL σ0 ρ0 s σ' ρ vm h :=
  H.sub (fun q hq => hp.mem_iff.mp hq) ((hp.map Prod.fst).nodup_iff.mpr H.2.2.2.1) fun _ q => q
def roOf (is : List Nat) (ρ ρi : HL) : Prop := is.map (fun i => ρ[i]?) = ρi.map some
theorem roOf.mem {is : List Nat} {ρi : HL} (h : roOf is ρ ρi) : ∀ q ∈ ρi, q ∈ ρ := fun q hq => by
  have h1 : some q ∈ ρi.map some := List.mem_map.mpr ⟨q, hq, rfl⟩
  rw [← h] at h1
  obtain ⟨i, -, e⟩ := List.mem_map.mp h1
  exact List.mem_of_getElem? e
theorem Wk.perm (W : Wk l Z EL R own bytes maxL ret nm X σ ρ T k n) (hp : σ'.Perm σ) : Wk l Z EL R own bytes maxL ret nm X σ' ρ T k n := by
  obtain ⟨w, vm0, k0, locs, a, b, c, d, e, f, H⟩ := W
  exact ⟨w, vm0, k0, locs, a, b, c, d, e, f, H.perm hp⟩
/-- owned cells become read-only -/
theorem Wk.freeze (W : Wk l Z EL R own bytes maxL ret nm X σ ρ T k n) (is : List Nat) {σi σf : HL} (hp : pick is σ = some (σi, σf)) : Wk l Z EL R own bytes maxL ret nm X σf (σi ++ ρ) T k n := by
  obtain ⟨w, vm0, k0, locs, a, b, c, d, e, f, H⟩ := W
  exact ⟨w, vm0, k0, locs, a, b, c, d, e, f, (H.perm (pick_perm _ _ _ _ hp)).freeze⟩
/-- cells forgotten -/
theorem Wk.drop (W : Wk l Z EL R own bytes maxL ret nm X σ ρ T k n) (is : List Nat) {σi σf : HL} (hp : pick is σ = some (σi, σf)) : Wk l Z EL R own bytes maxL ret nm X σf ρ T k n := by
  obtain ⟨w, vm0, k0, locs, a, b, c, d, e, f, H⟩ := W
  have H' := H.perm (pick_perm _ _ _ _ hp)
  refine ⟨w, vm0, k0, locs, a, b, c, d, e, f, H'.sub (fun q hq => List.mem_append_right _ hq) ?_ fun _ q => q⟩
  have nd := H'.2.2.2.1
  rw [adr, List.map_append, List.nodup_append] at nd
  exact nd.2.1
theorem Wk.keepRo (W : Wk l Z EL R own bytes maxL ret nm X σ ρ T k n) (is : List Nat) (hp : roOf is ρ ρ') : Wk l Z EL R own bytes maxL ret nm X σ ρ' T k n := by
  obtain ⟨w, vm0, k0, locs, a, b, c, d, e, f, H⟩ := W
  exact ⟨w, vm0, k0, locs, a, b, c, d, e, f, H.sub (fun _ q => q) H.2.2.2.1 hp.mem⟩
theorem Wk.more (W : Wk l Z EL R own bytes maxL ret nm X σ ρ T k n) {k' n' : Nat} (hk : k ≤ k') (hn : n ≤ n') : Wk l Z EL R own bytes maxL ret nm X σ ρ T k' n' := by
  obtain ⟨w, vm0, k0, locs, a, b⟩ := W
  exact ⟨w, vm0, k0, locs, a.more hk hn, b⟩
theorem Wk.ext (W : Wk l Z EL R own bytes maxL ret nm X σ ρ T k n) : Ext Z.heap T.heap := by
  obtain ⟨w, vm0, k0, locs, a, b, c, d, e, f, H⟩ := W
  exact H.2.2.2.2.2.2.2
theorem Wk.cell (W : Wk l Z EL R own bytes maxL ret nm X σ ρ T k n) {q : Addr × Cell} (hq : q ∈ σ ∨ q ∈ ρ ∨ Z.heap[q.1]? = some q.2) : T.heap[q.1]? = some q.2 := by
  obtain ⟨w, vm0, k0, locs, a, b, c, d, e, f, H⟩ := W
  exact hq.elim (H.2.1 q) fun z => z.elim (H.2.2.1 q) (H.2.2.2.2.2.2.2.2 _ _)
end WkLaws
/-! ## own: single steps in the Go form (printed by gen_steps.py) -/
section StepLaws
variable {l : Launch} {Z : State} {a0 : Array Value} {EL : List (String × Nat)} {R : Room} {own : String} {bytes : ByteArray} {maxL : Nat} {ret : Option FieldType} {nm : String} {X : Ctx} {σ ρ : HL} {T : State} {k n K N : Nat} {Q : Option Value → HL → HL → Prop} {pc pc' : Nat} {Ls : Array Slot} {st : List Value}
theorem Go.aload (W : Wk l Z EL R own bytes maxL ret nm X σ ρ T k n) {k' : Nat} {v : Value} (hd : decode bytes pc = .ok (.aload k', 2)) (hl : Ls[k']? = some (.val v)) (hv : v.isRef = true) (hp : pc + 2 = pc') (r : Go Z EL K N Q X T pc' Ls (v :: st)) : Go Z EL K N Q X T pc Ls st :=
  Go.by (fun t kk => XS.aload W.here W.hx rfl (W.hb hd) hl hv (by subst hp; exact kk)) r
theorem Go.aloadN (W : Wk l Z EL R own bytes maxL ret nm X σ ρ T k n) {k' : Fin 4} {v : Value} (hd : decode bytes pc = .ok (.aload_n k', 1)) (hl : Ls[k'.val]? = some (.val v)) (hv : v.isRef = true) (hp : pc + 1 = pc') (r : Go Z EL K N Q X T pc' Ls (v :: st)) : Go Z EL K N Q X T pc Ls st :=
  Go.by (fun t kk => XS.aloadN W.here W.hx rfl (W.hb hd) hl hv (by subst hp; exact kk)) r
theorem Go.iload (W : Wk l Z EL R own bytes maxL ret nm X σ ρ T k n) {k' : Nat} {v : Int32} (hd : decode bytes pc = .ok (.iload k', 2)) (hl : Ls[k']? = some (.val (.int v))) (hp : pc + 2 = pc') (r : Go Z EL K N Q X T pc' Ls (.int v :: st)) : Go Z EL K N Q X T pc Ls st :=
  Go.by (fun t kk => XS.iload W.here W.hx rfl (W.hb hd) hl (by subst hp; exact kk)) r
theorem Go.iloadN (W : Wk l Z EL R own bytes maxL ret nm X σ ρ T k n) {k' : Fin 4} {v : Int32} (hd : decode bytes pc = .ok (.iload_n k', 1)) (hl : Ls[k'.val]? = some (.val (.int v))) (hp : pc + 1 = pc') (r : Go Z EL K N Q X T pc' Ls (.int v :: st)) : Go Z EL K N Q X T pc Ls st :=
  Go.by (fun t kk => XS.iloadN W.here W.hx rfl (W.hb hd) hl (by subst hp; exact kk)) r
theorem Go.lload (W : Wk l Z EL R own bytes maxL ret nm X σ ρ T k n) {k' : Nat} {v : Int64} (hd : decode bytes pc = .ok (.lload k', 2)) (hl : Ls[k']? = some (.val (.long v))) (hp : pc + 2 = pc') (r : Go Z EL K N Q X T pc' Ls (.long v :: st)) : Go Z EL K N Q X T pc Ls st :=
  Go.by (fun t kk => XT.lload W.here W.hx rfl (W.hb hd) hl (by subst hp; exact kk)) r
theorem Go.lloadN (W : Wk l Z EL R own bytes maxL ret nm X σ ρ T k n) {k' : Fin 4} {v : Int64} (hd : decode bytes pc = .ok (.lload_n k', 1)) (hl : Ls[k'.val]? = some (.val (.long v))) (hp : pc + 1 = pc') (r : Go Z EL K N Q X T pc' Ls (.long v :: st)) : Go Z EL K N Q X T pc Ls st :=
  Go.by (fun t kk => XT.lloadN W.here W.hx rfl (W.hb hd) hl (by subst hp; exact kk)) r
theorem Go.istore (W : Wk l Z EL R own bytes maxL ret nm X σ ρ T k n) {k' : Nat} {x : Int32} (Ls' : Array Slot) (hd : decode bytes pc = .ok (.istore k', 2)) (hl : storeLocals Ls k' (.int x) = some Ls') (hp : pc + 2 = pc') (r : Go Z EL K N Q X T pc' Ls' st) : Go Z EL K N Q X T pc Ls (.int x :: st) :=
  Go.by (fun t kk => XS.istore W.here W.hx rfl (W.hb hd) rfl hl (by subst hp; exact kk)) r
theorem Go.istoreN (W : Wk l Z EL R own bytes maxL ret nm X σ ρ T k n) {k' : Fin 4} {x : Int32} (Ls' : Array Slot) (hd : decode bytes pc = .ok (.istore_n k', 1)) (hl : storeLocals Ls k'.val (.int x) = some Ls') (hp : pc + 1 = pc') (r : Go Z EL K N Q X T pc' Ls' st) : Go Z EL K N Q X T pc Ls (.int x :: st) :=
  Go.by (fun t kk => XS.istoreN W.here W.hx rfl (W.hb hd) rfl hl (by subst hp; exact kk)) r
theorem Go.astore (W : Wk l Z EL R own bytes maxL ret nm X σ ρ T k n) {k' : Nat} {x : Value} (Ls' : Array Slot) (hd : decode bytes pc = .ok (.astore k', 2)) (hv : x.isRef = true) (hl : storeLocals Ls k' x = some Ls') (hp : pc + 2 = pc') (r : Go Z EL K N Q X T pc' Ls' st) : Go Z EL K N Q X T pc Ls (x :: st) :=
  Go.by (fun t kk => XS.astore W.here W.hx rfl (W.hb hd) rfl hv hl (by subst hp; exact kk)) r
theorem Go.astoreN (W : Wk l Z EL R own bytes maxL ret nm X σ ρ T k n) {k' : Fin 4} {x : Value} (Ls' : Array Slot) (hd : decode bytes pc = .ok (.astore_n k', 1)) (hv : x.isRef = true) (hl : storeLocals Ls k'.val x = some Ls') (hp : pc + 1 = pc') (r : Go Z EL K N Q X T pc' Ls' st) : Go Z EL K N Q X T pc Ls (x :: st) :=
  Go.by (fun t kk => XS.astoreN W.here W.hx rfl (W.hb hd) rfl hv hl (by subst hp; exact kk)) r
theorem Go.lstore (W : Wk l Z EL R own bytes maxL ret nm X σ ρ T k n) {k' : Nat} {x : Int64} (Ls' : Array Slot) (hd : decode bytes pc = .ok (.lstore k', 2)) (hl : storeLocals Ls k' (.long x) = some Ls') (hp : pc + 2 = pc') (r : Go Z EL K N Q X T pc' Ls' st) : Go Z EL K N Q X T pc Ls (.long x :: st) :=
  Go.by (fun t kk => XT.lstore W.here W.hx rfl (W.hb hd) rfl hl (by subst hp; exact kk)) r
theorem Go.lstoreN (W : Wk l Z EL R own bytes maxL ret nm X σ ρ T k n) {k' : Fin 4} {x : Int64} (Ls' : Array Slot) (hd : decode bytes pc = .ok (.lstore_n k', 1)) (hl : storeLocals Ls k'.val (.long x) = some Ls') (hp : pc + 1 = pc') (r : Go Z EL K N Q X T pc' Ls' st) : Go Z EL K N Q X T pc Ls (.long x :: st) :=
  Go.by (fun t kk => XT.lstoreN W.here W.hx rfl (W.hb hd) rfl hl (by subst hp; exact kk)) r
theorem Go.iconst (W : Wk l Z EL R own bytes maxL ret nm X σ ρ T k n) {i : Int} (v : Int32) (hd : decode bytes pc = .ok (.iconst i, 1)) (hv : Int32.ofInt i = v) (hp : pc + 1 = pc') (r : Go Z EL K N Q X T pc' Ls (.int v :: st)) : Go Z EL K N Q X T pc Ls st :=
  Go.by (fun t kk => XS.iconst W.here W.hx rfl (W.hb hd)  (by subst hp; subst hv; exact kk)) r
theorem Go.bipush (W : Wk l Z EL R own bytes maxL ret nm X σ ρ T k n) {i : Int} (v : Int32) (hd : decode bytes pc = .ok (.bipush i, 2)) (hv : (Int8.ofInt i).toInt32 = v) (hp : pc + 2 = pc') (r : Go Z EL K N Q X T pc' Ls (.int v :: st)) : Go Z EL K N Q X T pc Ls st :=
  Go.by (fun t kk => XS.bipush W.here W.hx rfl (W.hb hd)  (by subst hp; subst hv; exact kk)) r
theorem Go.sipush (W : Wk l Z EL R own bytes maxL ret nm X σ ρ T k n) {i : Int} (v : Int32) (hd : decode bytes pc = .ok (.sipush i, 3)) (hv : (Int16.ofInt i).toInt32 = v) (hp : pc + 3 = pc') (r : Go Z EL K N Q X T pc' Ls (.int v :: st)) : Go Z EL K N Q X T pc Ls st :=
  Go.by (fun t kk => XS.sipush W.here W.hx rfl (W.hb hd)  (by subst hp; subst hv; exact kk)) r
theorem Go.lconst (W : Wk l Z EL R own bytes maxL ret nm X σ ρ T k n) {i : Fin 2} (v : Int64) (hd : decode bytes pc = .ok (.lconst i, 1)) (hv : Int64.ofNat i = v) (hp : pc + 1 = pc') (r : Go Z EL K N Q X T pc' Ls (.long v :: st)) : Go Z EL K N Q X T pc Ls st :=
  Go.by (fun t kk => XT.lconst W.here W.hx rfl (W.hb hd)  (by subst hp; subst hv; exact kk)) r
theorem Go.aconstNull (W : Wk l Z EL R own bytes maxL ret nm X σ ρ T k n)  (hd : decode bytes pc = .ok (.aconst_null, 1))  (hp : pc + 1 = pc') (r : Go Z EL K N Q X T pc' Ls (.null :: st)) : Go Z EL K N Q X T pc Ls st :=
  Go.by (fun t kk => XS.aconstNull W.here W.hx rfl (W.hb hd)  (by subst hp; exact kk)) r
theorem Go.iadd (W : Wk l Z EL R own bytes maxL ret nm X σ ρ T k n) {x y : Int32} (hd : decode bytes pc = .ok (.iadd, 1))  (hp : pc + 1 = pc') (r : Go Z EL K N Q X T pc' Ls (.int (x + y) :: st)) : Go Z EL K N Q X T pc Ls (.int y :: .int x :: st) :=
  Go.by (fun t kk => XS.iadd W.here W.hx rfl (W.hb hd) rfl (by subst hp; exact kk)) r
theorem Go.isub (W : Wk l Z EL R own bytes maxL ret nm X σ ρ T k n) {x y : Int32} (hd : decode bytes pc = .ok (.isub, 1))  (hp : pc + 1 = pc') (r : Go Z EL K N Q X T pc' Ls (.int (x - y) :: st)) : Go Z EL K N Q X T pc Ls (.int y :: .int x :: st) :=
  Go.by (fun t kk => XS.isub W.here W.hx rfl (W.hb hd) rfl (by subst hp; exact kk)) r
theorem Go.imul (W : Wk l Z EL R own bytes maxL ret nm X σ ρ T k n) {x y : Int32} (hd : decode bytes pc = .ok (.imul, 1))  (hp : pc + 1 = pc') (r : Go Z EL K N Q X T pc' Ls (.int (x * y) :: st)) : Go Z EL K N Q X T pc Ls (.int y :: .int x :: st) :=
  Go.by (fun t kk => XS.imul W.here W.hx rfl (W.hb hd) rfl (by subst hp; exact kk)) r
theorem Go.iand (W : Wk l Z EL R own bytes maxL ret nm X σ ρ T k n) {x y : Int32} (hd : decode bytes pc = .ok (.iand, 1))  (hp : pc + 1 = pc') (r : Go Z EL K N Q X T pc' Ls (.int (x &&& y) :: st)) : Go Z EL K N Q X T pc Ls (.int y :: .int x :: st) :=
  Go.by (fun t kk => XS.iand W.here W.hx rfl (W.hb hd) rfl (by subst hp; exact kk)) r
theorem Go.ior (W : Wk l Z EL R own bytes maxL ret nm X σ ρ T k n) {x y : Int32} (hd : decode bytes pc = .ok (.ior, 1))  (hp : pc + 1 = pc') (r : Go Z EL K N Q X T pc' Ls (.int (x ||| y) :: st)) : Go Z EL K N Q X T pc Ls (.int y :: .int x :: st) :=
  Go.by (fun t kk => XT.ior W.here W.hx rfl (W.hb hd) rfl (by subst hp; exact kk)) r
theorem Go.ixor (W : Wk l Z EL R own bytes maxL ret nm X σ ρ T k n) {x y : Int32} (hd : decode bytes pc = .ok (.ixor, 1))  (hp : pc + 1 = pc') (r : Go Z EL K N Q X T pc' Ls (.int (x ^^^ y) :: st)) : Go Z EL K N Q X T pc Ls (.int y :: .int x :: st) :=
  Go.by (fun t kk => XT.ixor W.here W.hx rfl (W.hb hd) rfl (by subst hp; exact kk)) r
theorem Go.ishl (W : Wk l Z EL R own bytes maxL ret nm X σ ρ T k n) {x y : Int32} (hd : decode bytes pc = .ok (.ishl, 1))  (hp : pc + 1 = pc') (r : Go Z EL K N Q X T pc' Ls (.int (x <<< (y &&& 31)) :: st)) : Go Z EL K N Q X T pc Ls (.int y :: .int x :: st) :=
  Go.by (fun t kk => XT.ishl W.here W.hx rfl (W.hb hd) rfl (by subst hp; exact kk)) r
theorem Go.ishr (W : Wk l Z EL R own bytes maxL ret nm X σ ρ T k n) {x y : Int32} (hd : decode bytes pc = .ok (.ishr, 1))  (hp : pc + 1 = pc') (r : Go Z EL K N Q X T pc' Ls (.int (x >>> (y &&& 31)) :: st)) : Go Z EL K N Q X T pc Ls (.int y :: .int x :: st) :=
  Go.by (fun t kk => XT.ishr W.here W.hx rfl (W.hb hd) rfl (by subst hp; exact kk)) r
theorem Go.iushr (W : Wk l Z EL R own bytes maxL ret nm X σ ρ T k n) {x y : Int32} (hd : decode bytes pc = .ok (.iushr, 1))  (hp : pc + 1 = pc') (r : Go Z EL K N Q X T pc' Ls (.int ((x.toUInt32 >>> (y &&& 31).toUInt32).toInt32) :: st)) : Go Z EL K N Q X T pc Ls (.int y :: .int x :: st) :=
  Go.by (fun t kk => XT.iushr W.here W.hx rfl (W.hb hd) rfl (by subst hp; exact kk)) r
theorem Go.idiv (W : Wk l Z EL R own bytes maxL ret nm X σ ρ T k n) {x y : Int32} (hd : decode bytes pc = .ok (.idiv, 1)) (hy : y ≠ 0) (hp : pc + 1 = pc') (r : Go Z EL K N Q X T pc' Ls (.int (x / y) :: st)) : Go Z EL K N Q X T pc Ls (.int y :: .int x :: st) :=
  Go.by (fun t kk => XS.idiv W.here W.hx rfl (W.hb hd) rfl hy (by subst hp; exact kk)) r
theorem Go.irem (W : Wk l Z EL R own bytes maxL ret nm X σ ρ T k n) {x y : Int32} (hd : decode bytes pc = .ok (.irem, 1)) (hy : y ≠ 0) (hp : pc + 1 = pc') (r : Go Z EL K N Q X T pc' Ls (.int (x % y) :: st)) : Go Z EL K N Q X T pc Ls (.int y :: .int x :: st) :=
  Go.by (fun t kk => XS.irem W.here W.hx rfl (W.hb hd) rfl hy (by subst hp; rw [irem_eq_mod x y]; exact kk)) r
theorem Go.ineg (W : Wk l Z EL R own bytes maxL ret nm X σ ρ T k n) {x : Int32} (hd : decode bytes pc = .ok (.ineg, 1))  (hp : pc + 1 = pc') (r : Go Z EL K N Q X T pc' Ls (.int (-x) :: st)) : Go Z EL K N Q X T pc Ls (.int x :: st) :=
  Go.by (fun t kk => XS.ineg W.here W.hx rfl (W.hb hd) rfl (by subst hp; exact kk)) r
theorem Go.i2b (W : Wk l Z EL R own bytes maxL ret nm X σ ρ T k n) {x : Int32} (hd : decode bytes pc = .ok (.i2b, 1))  (hp : pc + 1 = pc') (r : Go Z EL K N Q X T pc' Ls (.int x.toInt8.toInt32 :: st)) : Go Z EL K N Q X T pc Ls (.int x :: st) :=
  Go.by (fun t kk => XT.i2b W.here W.hx rfl (W.hb hd) rfl (by subst hp; exact kk)) r
theorem Go.i2c (W : Wk l Z EL R own bytes maxL ret nm X σ ρ T k n) {x : Int32} (hd : decode bytes pc = .ok (.i2c, 1))  (hp : pc + 1 = pc') (r : Go Z EL K N Q X T pc' Ls (.int x.toUInt32.toUInt16.toUInt32.toInt32 :: st)) : Go Z EL K N Q X T pc Ls (.int x :: st) :=
  Go.by (fun t kk => XT.i2c W.here W.hx rfl (W.hb hd) rfl (by subst hp; exact kk)) r
theorem Go.i2s (W : Wk l Z EL R own bytes maxL ret nm X σ ρ T k n) {x : Int32} (hd : decode bytes pc = .ok (.i2s, 1))  (hp : pc + 1 = pc') (r : Go Z EL K N Q X T pc' Ls (.int x.toInt16.toInt32 :: st)) : Go Z EL K N Q X T pc Ls (.int x :: st) :=
  Go.by (fun t kk => XT.i2s W.here W.hx rfl (W.hb hd) rfl (by subst hp; exact kk)) r
theorem Go.i2l (W : Wk l Z EL R own bytes maxL ret nm X σ ρ T k n) {x : Int32} (hd : decode bytes pc = .ok (.i2l, 1))  (hp : pc + 1 = pc') (r : Go Z EL K N Q X T pc' Ls (.long x.toInt64 :: st)) : Go Z EL K N Q X T pc Ls (.int x :: st) :=
  Go.by (fun t kk => XT.i2l W.here W.hx rfl (W.hb hd) rfl (by subst hp; exact kk)) r
theorem Go.l2i (W : Wk l Z EL R own bytes maxL ret nm X σ ρ T k n) {x : Int64} (hd : decode bytes pc = .ok (.l2i, 1))  (hp : pc + 1 = pc') (r : Go Z EL K N Q X T pc' Ls (.int x.toInt32 :: st)) : Go Z EL K N Q X T pc Ls (.long x :: st) :=
  Go.by (fun t kk => XT.l2i W.here W.hx rfl (W.hb hd) rfl (by subst hp; exact kk)) r
theorem Go.ladd (W : Wk l Z EL R own bytes maxL ret nm X σ ρ T k n) {x y : Int64} (hd : decode bytes pc = .ok (.ladd, 1))  (hp : pc + 1 = pc') (r : Go Z EL K N Q X T pc' Ls (.long (x + y) :: st)) : Go Z EL K N Q X T pc Ls (.long y :: .long x :: st) :=
  Go.by (fun t kk => XT.ladd W.here W.hx rfl (W.hb hd) rfl (by subst hp; exact kk)) r
theorem Go.lsub (W : Wk l Z EL R own bytes maxL ret nm X σ ρ T k n) {x y : Int64} (hd : decode bytes pc = .ok (.lsub, 1))  (hp : pc + 1 = pc') (r : Go Z EL K N Q X T pc' Ls (.long (x - y) :: st)) : Go Z EL K N Q X T pc Ls (.long y :: .long x :: st) :=
  Go.by (fun t kk => XT.lsub W.here W.hx rfl (W.hb hd) rfl (by subst hp; exact kk)) r
theorem Go.lmul (W : Wk l Z EL R own bytes maxL ret nm X σ ρ T k n) {x y : Int64} (hd : decode bytes pc = .ok (.lmul, 1))  (hp : pc + 1 = pc') (r : Go Z EL K N Q X T pc' Ls (.long (x * y) :: st)) : Go Z EL K N Q X T pc Ls (.long y :: .long x :: st) :=
  Go.by (fun t kk => XT.lmul W.here W.hx rfl (W.hb hd) rfl (by subst hp; exact kk)) r
theorem Go.land (W : Wk l Z EL R own bytes maxL ret nm X σ ρ T k n) {x y : Int64} (hd : decode bytes pc = .ok (.land, 1))  (hp : pc + 1 = pc') (r : Go Z EL K N Q X T pc' Ls (.long (x &&& y) :: st)) : Go Z EL K N Q X T pc Ls (.long y :: .long x :: st) :=
  Go.by (fun t kk => XT.land W.here W.hx rfl (W.hb hd) rfl (by subst hp; exact kk)) r
theorem Go.lor (W : Wk l Z EL R own bytes maxL ret nm X σ ρ T k n) {x y : Int64} (hd : decode bytes pc = .ok (.lor, 1))  (hp : pc + 1 = pc') (r : Go Z EL K N Q X T pc' Ls (.long (x ||| y) :: st)) : Go Z EL K N Q X T pc Ls (.long y :: .long x :: st) :=
  Go.by (fun t kk => XT.lor W.here W.hx rfl (W.hb hd) rfl (by subst hp; exact kk)) r
theorem Go.lxor (W : Wk l Z EL R own bytes maxL ret nm X σ ρ T k n) {x y : Int64} (hd : decode bytes pc = .ok (.lxor, 1))  (hp : pc + 1 = pc') (r : Go Z EL K N Q X T pc' Ls (.long (x ^^^ y) :: st)) : Go Z EL K N Q X T pc Ls (.long y :: .long x :: st) :=
  Go.by (fun t kk => XT.lxor W.here W.hx rfl (W.hb hd) rfl (by subst hp; exact kk)) r
theorem Go.ldiv (W : Wk l Z EL R own bytes maxL ret nm X σ ρ T k n) {x y : Int64} (hd : decode bytes pc = .ok (.ldiv, 1)) (hy : y ≠ 0) (hp : pc + 1 = pc') (r : Go Z EL K N Q X T pc' Ls (.long (x / y) :: st)) : Go Z EL K N Q X T pc Ls (.long y :: .long x :: st) :=
  Go.by (fun t kk => XT.ldiv W.here W.hx rfl (W.hb hd) rfl hy (by subst hp; exact kk)) r
theorem Go.lrem (W : Wk l Z EL R own bytes maxL ret nm X σ ρ T k n) {x y : Int64} (hd : decode bytes pc = .ok (.lrem, 1)) (hy : y ≠ 0) (hp : pc + 1 = pc') (r : Go Z EL K N Q X T pc' Ls (.long (x % y) :: st)) : Go Z EL K N Q X T pc Ls (.long y :: .long x :: st) :=
  Go.by (fun t kk => XT.lrem W.here W.hx rfl (W.hb hd) rfl hy (by subst hp; rw [lrem_mod x y]; exact kk)) r
theorem Go.lneg (W : Wk l Z EL R own bytes maxL ret nm X σ ρ T k n) {x : Int64} (hd : decode bytes pc = .ok (.lneg, 1))  (hp : pc + 1 = pc') (r : Go Z EL K N Q X T pc' Ls (.long (-x) :: st)) : Go Z EL K N Q X T pc Ls (.long x :: st) :=
  Go.by (fun t kk => XT.lneg W.here W.hx rfl (W.hb hd) rfl (by subst hp; exact kk)) r
theorem Go.lushr (W : Wk l Z EL R own bytes maxL ret nm X σ ρ T k n) {x : Int64} {y : Int32} (hd : decode bytes pc = .ok (.lushr, 1))  (hp : pc + 1 = pc') (r : Go Z EL K N Q X T pc' Ls (.long (Jvm.Free.XT.ushrL x y) :: st)) : Go Z EL K N Q X T pc Ls (.int y :: .long x :: st) :=
  Go.by (fun t kk => XT.lushr W.here W.hx rfl (W.hb hd) rfl (by subst hp; exact kk)) r
theorem Go.lcmp (W : Wk l Z EL R own bytes maxL ret nm X σ ρ T k n) {x y : Int64} (hd : decode bytes pc = .ok (.lcmp, 1))  (hp : pc + 1 = pc') (r : Go Z EL K N Q X T pc' Ls (.int (lcmpW x y) :: st)) : Go Z EL K N Q X T pc Ls (.long y :: .long x :: st) :=
  Go.by (fun t kk => XT.lcmp W.here W.hx rfl (W.hb hd) rfl (by subst hp; exact kk)) r
theorem Go.dup (W : Wk l Z EL R own bytes maxL ret nm X σ ρ T k n) {x : Value} (hd : decode bytes pc = .ok (.dup, 1)) (hc : x.category = 1) (hp : pc + 1 = pc') (r : Go Z EL K N Q X T pc' Ls (x :: x :: st)) : Go Z EL K N Q X T pc Ls (x :: st) :=
  Go.by (fun t kk => XS.dup W.here W.hx rfl (W.hb hd) rfl hc (by subst hp; exact kk)) r
theorem Go.dupX1 (W : Wk l Z EL R own bytes maxL ret nm X σ ρ T k n) {x y : Value} (hd : decode bytes pc = .ok (.dup_x1, 1)) (hc : x.category = 1) (hc' : y.category = 1) (hp : pc + 1 = pc') (r : Go Z EL K N Q X T pc' Ls (x :: y :: x :: st)) : Go Z EL K N Q X T pc Ls (x :: y :: st) :=
  Go.by (fun t kk => XT.dupX1 W.here W.hx rfl (W.hb hd) rfl hc hc' (by subst hp; exact kk)) r
theorem Go.dup2 (W : Wk l Z EL R own bytes maxL ret nm X σ ρ T k n) {x y : Value} (hd : decode bytes pc = .ok (.dup2, 1)) (hc : x.category = 1) (hc' : y.category = 1) (hp : pc + 1 = pc') (r : Go Z EL K N Q X T pc' Ls (x :: y :: x :: y :: st)) : Go Z EL K N Q X T pc Ls (x :: y :: st) :=
  Go.by (fun t kk => XT.dup2 W.here W.hx rfl (W.hb hd) rfl hc hc' (by subst hp; exact kk)) r
theorem Go.pop (W : Wk l Z EL R own bytes maxL ret nm X σ ρ T k n) {x : Value} (hd : decode bytes pc = .ok (.pop, 1)) (hc : x.category = 1) (hp : pc + 1 = pc') (r : Go Z EL K N Q X T pc' Ls st) : Go Z EL K N Q X T pc Ls (x :: st) :=
  Go.by (fun t kk => XT.pop W.here W.hx rfl (W.hb hd) rfl hc (by subst hp; exact kk)) r
theorem Go.iinc (W : Wk l Z EL R own bytes maxL ret nm X σ ρ T k n) {k' : Nat} {cst : Int} {x : Int32} (v : Int32) (Ls' : Array Slot) (hd : decode bytes pc = .ok (.iinc k' cst, 3)) (hl : Ls[k']? = some (.val (.int x))) (hv : Int32.ofInt cst = v) (hl' : storeLocals Ls k' (.int (x + v)) = some Ls') (hp : pc + 3 = pc') (r : Go Z EL K N Q X T pc' Ls' st) : Go Z EL K N Q X T pc Ls st :=
  Go.by (fun t kk => XS.iinc W.here W.hx rfl (W.hb hd) hl (by rw [hv]; exact hl') (by subst hp; exact kk)) r
theorem Go.goto (W : Wk l Z EL R own bytes maxL ret nm X σ ρ T k n) {o : Int} (pcY : Nat) (hd : decode bytes pc = .ok (.goto o, 3)) (hy : (pc : Int) + o = (pcY : Nat)) (r : Go Z EL K N Q X T pcY Ls st) : Go Z EL K N Q X T pc Ls st :=
  Go.by (fun t kk => XS.goto W.here W.hx rfl (pc0 := pc) (pc' := pcY) rfl (W.hb hd) (by omega) (by omega) kk) r
theorem Go.icmp_eq (W : Wk l Z EL R own bytes maxL ret nm X σ ρ T k n) {x y : Int32} {o : Int} (pcY : Nat) (hd : decode bytes pc = .ok (.if_icmp .eq o, 3)) (hy : (pc : Int) + o = (pcY : Nat)) (hp : pc + 3 = pc') (rY : (x = y) → Go Z EL K N Q X T pcY Ls st) (rN : (¬ x = y) → Go Z EL K N Q X T pc' Ls st) : Go Z EL K N Q X T pc Ls (.int y :: .int x :: st) := by
  by_cases q : x = y
  · exact Go.by (fun t kk => XS.icmpYes W.here W.hx rfl (pc0 := pc) (pc' := pcY) rfl (W.hb hd) rfl (teq q).1 (by omega) (by omega) kk) (rY q)
  · exact Go.by (fun t kk => XS.icmpNo W.here W.hx rfl (W.hb hd) rfl (feq q).1 (by subst hp; exact kk)) (rN q)
theorem Go.if_eq (W : Wk l Z EL R own bytes maxL ret nm X σ ρ T k n) {x : Int32} {o : Int} (pcY : Nat) (hd : decode bytes pc = .ok (.ifCond .eq o, 3)) (hy : (pc : Int) + o = (pcY : Nat)) (hp : pc + 3 = pc') (rY : (x = 0) → Go Z EL K N Q X T pcY Ls st) (rN : (¬ x = 0) → Go Z EL K N Q X T pc' Ls st) : Go Z EL K N Q X T pc Ls (.int x :: st) := by
  by_cases q : x = 0
  · exact Go.by (fun t kk => XS.ifYes W.here W.hx rfl (pc0 := pc) (pc' := pcY) rfl (W.hb hd) rfl ((if0 .eq x).trans (teq q).1) (by omega) (by omega) kk) (rY q)
  · exact Go.by (fun t kk => XS.ifNo W.here W.hx rfl (W.hb hd) rfl ((if0 .eq x).trans (feq q).1) (by subst hp; exact kk)) (rN q)
theorem Go.icmp_ne (W : Wk l Z EL R own bytes maxL ret nm X σ ρ T k n) {x y : Int32} {o : Int} (pcY : Nat) (hd : decode bytes pc = .ok (.if_icmp .ne o, 3)) (hy : (pc : Int) + o = (pcY : Nat)) (hp : pc + 3 = pc') (rY : (¬ x = y) → Go Z EL K N Q X T pcY Ls st) (rN : (x = y) → Go Z EL K N Q X T pc' Ls st) : Go Z EL K N Q X T pc Ls (.int y :: .int x :: st) := by
  by_cases q : x = y
  · exact Go.by (fun t kk => XS.icmpNo W.here W.hx rfl (W.hb hd) rfl (teq q).2 (by subst hp; exact kk)) (rN q)
  · exact Go.by (fun t kk => XS.icmpYes W.here W.hx rfl (pc0 := pc) (pc' := pcY) rfl (W.hb hd) rfl (feq q).2 (by omega) (by omega) kk) (rY q)
theorem Go.if_ne (W : Wk l Z EL R own bytes maxL ret nm X σ ρ T k n) {x : Int32} {o : Int} (pcY : Nat) (hd : decode bytes pc = .ok (.ifCond .ne o, 3)) (hy : (pc : Int) + o = (pcY : Nat)) (hp : pc + 3 = pc') (rY : (¬ x = 0) → Go Z EL K N Q X T pcY Ls st) (rN : (x = 0) → Go Z EL K N Q X T pc' Ls st) : Go Z EL K N Q X T pc Ls (.int x :: st) := by
  by_cases q : x = 0
  · exact Go.by (fun t kk => XS.ifNo W.here W.hx rfl (W.hb hd) rfl ((if0 .ne x).trans (teq q).2) (by subst hp; exact kk)) (rN q)
  · exact Go.by (fun t kk => XS.ifYes W.here W.hx rfl (pc0 := pc) (pc' := pcY) rfl (W.hb hd) rfl ((if0 .ne x).trans (feq q).2) (by omega) (by omega) kk) (rY q)
theorem Go.icmp_lt (W : Wk l Z EL R own bytes maxL ret nm X σ ρ T k n) {x y : Int32} {o : Int} (pcY : Nat) (hd : decode bytes pc = .ok (.if_icmp .lt o, 3)) (hy : (pc : Int) + o = (pcY : Nat)) (hp : pc + 3 = pc') (rY : (x < y) → Go Z EL K N Q X T pcY Ls st) (rN : (¬ x < y) → Go Z EL K N Q X T pc' Ls st) : Go Z EL K N Q X T pc Ls (.int y :: .int x :: st) := by
  by_cases q : x < y
  · exact Go.by (fun t kk => XS.icmpYes W.here W.hx rfl (pc0 := pc) (pc' := pcY) rfl (W.hb hd) rfl (tlt q).1 (by omega) (by omega) kk) (rY q)
  · exact Go.by (fun t kk => XS.icmpNo W.here W.hx rfl (W.hb hd) rfl (flt q).1 (by subst hp; exact kk)) (rN q)
theorem Go.if_lt (W : Wk l Z EL R own bytes maxL ret nm X σ ρ T k n) {x : Int32} {o : Int} (pcY : Nat) (hd : decode bytes pc = .ok (.ifCond .lt o, 3)) (hy : (pc : Int) + o = (pcY : Nat)) (hp : pc + 3 = pc') (rY : (x < 0) → Go Z EL K N Q X T pcY Ls st) (rN : (¬ x < 0) → Go Z EL K N Q X T pc' Ls st) : Go Z EL K N Q X T pc Ls (.int x :: st) := by
  by_cases q : x < 0
  · exact Go.by (fun t kk => XS.ifYes W.here W.hx rfl (pc0 := pc) (pc' := pcY) rfl (W.hb hd) rfl ((if0 .lt x).trans (tlt q).1) (by omega) (by omega) kk) (rY q)
  · exact Go.by (fun t kk => XS.ifNo W.here W.hx rfl (W.hb hd) rfl ((if0 .lt x).trans (flt q).1) (by subst hp; exact kk)) (rN q)
theorem Go.icmp_ge (W : Wk l Z EL R own bytes maxL ret nm X σ ρ T k n) {x y : Int32} {o : Int} (pcY : Nat) (hd : decode bytes pc = .ok (.if_icmp .ge o, 3)) (hy : (pc : Int) + o = (pcY : Nat)) (hp : pc + 3 = pc') (rY : (¬ x < y) → Go Z EL K N Q X T pcY Ls st) (rN : (x < y) → Go Z EL K N Q X T pc' Ls st) : Go Z EL K N Q X T pc Ls (.int y :: .int x :: st) := by
  by_cases q : x < y
  · exact Go.by (fun t kk => XS.icmpNo W.here W.hx rfl (W.hb hd) rfl (tlt q).2.1 (by subst hp; exact kk)) (rN q)
  · exact Go.by (fun t kk => XS.icmpYes W.here W.hx rfl (pc0 := pc) (pc' := pcY) rfl (W.hb hd) rfl (flt q).2.1 (by omega) (by omega) kk) (rY q)
theorem Go.if_ge (W : Wk l Z EL R own bytes maxL ret nm X σ ρ T k n) {x : Int32} {o : Int} (pcY : Nat) (hd : decode bytes pc = .ok (.ifCond .ge o, 3)) (hy : (pc : Int) + o = (pcY : Nat)) (hp : pc + 3 = pc') (rY : (¬ x < 0) → Go Z EL K N Q X T pcY Ls st) (rN : (x < 0) → Go Z EL K N Q X T pc' Ls st) : Go Z EL K N Q X T pc Ls (.int x :: st) := by
  by_cases q : x < 0
  · exact Go.by (fun t kk => XS.ifNo W.here W.hx rfl (W.hb hd) rfl ((if0 .ge x).trans (tlt q).2.1) (by subst hp; exact kk)) (rN q)
  · exact Go.by (fun t kk => XS.ifYes W.here W.hx rfl (pc0 := pc) (pc' := pcY) rfl (W.hb hd) rfl ((if0 .ge x).trans (flt q).2.1) (by omega) (by omega) kk) (rY q)
theorem Go.icmp_gt (W : Wk l Z EL R own bytes maxL ret nm X σ ρ T k n) {x y : Int32} {o : Int} (pcY : Nat) (hd : decode bytes pc = .ok (.if_icmp .gt o, 3)) (hy : (pc : Int) + o = (pcY : Nat)) (hp : pc + 3 = pc') (rY : (y < x) → Go Z EL K N Q X T pcY Ls st) (rN : (¬ y < x) → Go Z EL K N Q X T pc' Ls st) : Go Z EL K N Q X T pc Ls (.int y :: .int x :: st) := by
  by_cases q : y < x
  · exact Go.by (fun t kk => XS.icmpYes W.here W.hx rfl (pc0 := pc) (pc' := pcY) rfl (W.hb hd) rfl (tlt q).2.2.1 (by omega) (by omega) kk) (rY q)
  · exact Go.by (fun t kk => XS.icmpNo W.here W.hx rfl (W.hb hd) rfl (flt q).2.2.1 (by subst hp; exact kk)) (rN q)
theorem Go.if_gt (W : Wk l Z EL R own bytes maxL ret nm X σ ρ T k n) {x : Int32} {o : Int} (pcY : Nat) (hd : decode bytes pc = .ok (.ifCond .gt o, 3)) (hy : (pc : Int) + o = (pcY : Nat)) (hp : pc + 3 = pc') (rY : (0 < x) → Go Z EL K N Q X T pcY Ls st) (rN : (¬ 0 < x) → Go Z EL K N Q X T pc' Ls st) : Go Z EL K N Q X T pc Ls (.int x :: st) := by
  by_cases q : 0 < x
  · exact Go.by (fun t kk => XS.ifYes W.here W.hx rfl (pc0 := pc) (pc' := pcY) rfl (W.hb hd) rfl ((if0 .gt x).trans (tlt q).2.2.1) (by omega) (by omega) kk) (rY q)
  · exact Go.by (fun t kk => XS.ifNo W.here W.hx rfl (W.hb hd) rfl ((if0 .gt x).trans (flt q).2.2.1) (by subst hp; exact kk)) (rN q)
theorem Go.icmp_le (W : Wk l Z EL R own bytes maxL ret nm X σ ρ T k n) {x y : Int32} {o : Int} (pcY : Nat) (hd : decode bytes pc = .ok (.if_icmp .le o, 3)) (hy : (pc : Int) + o = (pcY : Nat)) (hp : pc + 3 = pc') (rY : (¬ y < x) → Go Z EL K N Q X T pcY Ls st) (rN : (y < x) → Go Z EL K N Q X T pc' Ls st) : Go Z EL K N Q X T pc Ls (.int y :: .int x :: st) := by
  by_cases q : y < x
  · exact Go.by (fun t kk => XS.icmpNo W.here W.hx rfl (W.hb hd) rfl (tlt q).2.2.2 (by subst hp; exact kk)) (rN q)
  · exact Go.by (fun t kk => XS.icmpYes W.here W.hx rfl (pc0 := pc) (pc' := pcY) rfl (W.hb hd) rfl (flt q).2.2.2 (by omega) (by omega) kk) (rY q)
theorem Go.if_le (W : Wk l Z EL R own bytes maxL ret nm X σ ρ T k n) {x : Int32} {o : Int} (pcY : Nat) (hd : decode bytes pc = .ok (.ifCond .le o, 3)) (hy : (pc : Int) + o = (pcY : Nat)) (hp : pc + 3 = pc') (rY : (¬ 0 < x) → Go Z EL K N Q X T pcY Ls st) (rN : (0 < x) → Go Z EL K N Q X T pc' Ls st) : Go Z EL K N Q X T pc Ls (.int x :: st) := by
  by_cases q : 0 < x
  · exact Go.by (fun t kk => XS.ifNo W.here W.hx rfl (W.hb hd) rfl ((if0 .le x).trans (tlt q).2.2.2) (by subst hp; exact kk)) (rN q)
  · exact Go.by (fun t kk => XS.ifYes W.here W.hx rfl (pc0 := pc) (pc' := pcY) rfl (W.hb hd) rfl ((if0 .le x).trans (flt q).2.2.2) (by omega) (by omega) kk) (rY q)
theorem Go.ifnull_yes (W : Wk l Z EL R own bytes maxL ret nm X σ ρ T k n) {o : Int} (pcY : Nat) (hd : decode bytes pc = .ok (.ifnull o, 3)) (hy : (pc : Int) + o = (pcY : Nat)) (r : Go Z EL K N Q X T pcY Ls st) : Go Z EL K N Q X T pc Ls (.null :: st) :=
  Go.by (fun t kk => XS.ifnullYes W.here W.hx rfl (pc0 := pc) (pc' := pcY) rfl (W.hb hd) rfl (by omega) (by omega) kk) r
theorem Go.ifnull_no (W : Wk l Z EL R own bytes maxL ret nm X σ ρ T k n) {b : Addr} {o : Int} (hd : decode bytes pc = .ok (.ifnull o, 3)) (hp : pc + 3 = pc') (r : Go Z EL K N Q X T pc' Ls st) : Go Z EL K N Q X T pc Ls (.ref b :: st) :=
  Go.by (fun t kk => XS.ifnullNo W.here W.hx rfl (W.hb hd) rfl (by subst hp; exact kk)) r
theorem Go.ifnonnull_yes (W : Wk l Z EL R own bytes maxL ret nm X σ ρ T k n) {b : Addr} {o : Int} (pcY : Nat) (hd : decode bytes pc = .ok (.ifnonnull o, 3)) (hy : (pc : Int) + o = (pcY : Nat)) (r : Go Z EL K N Q X T pcY Ls st) : Go Z EL K N Q X T pc Ls (.ref b :: st) :=
  Go.by (fun t kk => XT.ifnonnullYes W.here W.hx rfl (pc0 := pc) (pc' := pcY) rfl (W.hb hd) rfl (by omega) (by omega) kk) r
theorem Go.ifnonnull_no (W : Wk l Z EL R own bytes maxL ret nm X σ ρ T k n) {o : Int} (hd : decode bytes pc = .ok (.ifnonnull o, 3)) (hp : pc + 3 = pc') (r : Go Z EL K N Q X T pc' Ls st) : Go Z EL K N Q X T pc Ls (.null :: st) :=
  Go.by (fun t kk => XT.ifnonnullNo W.here W.hx rfl (W.hb hd) rfl (by subst hp; exact kk)) r
end StepLaws
/-! ## own: what is known of one cell -/
def ObjC (Z : State) (c : Cell) (C : String) : Prop := ∃ k : Class, Z.vm.findClass C = some c.cls ∧ Z.vm.classes[c.cls]? = some k ∧ c.vm.isStatics = false ∧ (k.kind = .ordinary → c.slots.size = k.instanceTypes.size)
def FldC (Z : State) (c : Cell) (C n d : String) (v : Value) : Prop := ∃ (cf : ClassId) (k : Class) (i : Nat) (f : Field), Z.fieldFound? C n d = some (cf, k, i, f) ∧ f.isStatic = false ∧ c.vm ≠ .unknown ∧ c.vm.isStatics = false ∧ Z.vm.assignable c.cls cf = true ∧ c.slots[f.slot]? = some v
def ArrC (Z : State) (c : Cell) (ty : FieldType) (vs : List Value) : Prop := Z.isArrayOf c ty ∧ c.vm ≠ .unknown ∧ c.slots.toList = vs ∧ (∀ v ∈ vs, fits ty v = true) ∧ vs.length < 2147483648
section CellLaws
variable {Z : State} {c c' : Cell} {C n d C' n' d' : String} {v w : Value} {h : Heap} {a : Addr} {ty : FieldType} {vs : List Value}
theorem ObjC.exa (F : ObjC Z c C) (ha : h[a]? = some c) : Exa Z h a C := by obtain ⟨k, h1, h2, h3, h4⟩ := F; exact ⟨c, k, ha, h1, h2, h3, h4⟩
theorem ObjC.of (F : Exa Z h a C) (ha : h[a]? = some c) : ObjC Z c C := by
  obtain ⟨c', k, h0, h1, h2, h3, h4⟩ := F
  cases ha.symm.trans h0
  exact ⟨k, h1, h2, h3, h4⟩
theorem FldC.fld (F : FldC Z c C n d v) (ha : h[a]? = some c) : Fld Z h a C n d v := by obtain ⟨cf, k, i, f, r⟩ := F; exact ⟨c, cf, k, i, f, ha, r⟩
theorem FldC.of (F : Fld Z h a C n d v) (ha : h[a]? = some c) : FldC Z c C n d v := by
  obtain ⟨c', cf, k, i, f, h0, r⟩ := F
  cases ha.symm.trans h0
  exact ⟨cf, k, i, f, r⟩
theorem ArrC.arr (F : ArrC Z c ty vs) (ha : h[a]? = some c) : Arr Z h a c ty := ⟨ha, F.1, F.2.1⟩
theorem ArrC.size (F : ArrC Z c ty vs) : c.slots.size = vs.length := by rw [← F.2.2.1]; simp
theorem ArrC.get (F : ArrC Z c ty vs) (i : Nat) : c.slots[i]? = vs[i]? := by rw [← F.2.2.1]; simp
theorem FldC.put {v' : Value} (F : FldC Z c C n d v) : FldC Z (c.setSlot (Jvm.RoadKit.slotOf Z C n d) v') C n d v' := by
  obtain ⟨cf, k, i, f, h1, h2, h3, h4, h5, h6⟩ := F
  have hlt := (Array.getElem?_eq_some_iff.mp h6).1
  exact ⟨cf, k, i, f, h1, h2, h3, h4, h5, by simp [Cell.setSlot, Jvm.RoadKit.slotOf, h1, hlt]⟩
theorem FldC.keep {sl : Nat} {v' : Value} (F : FldC Z c C n d v) (hne : Jvm.RoadKit.slotOf Z C n d ≠ sl) : FldC Z (c.setSlot sl v') C n d v := by
  obtain ⟨cf, k, i, f, h1, h2, h3, h4, h5, h6⟩ := F
  have e : Jvm.RoadKit.slotOf Z C n d = f.slot := by simp [Jvm.RoadKit.slotOf, h1]
  rw [e] at hne
  exact ⟨cf, k, i, f, h1, h2, h3, h4, h5, by show (c.slots.setIfInBounds sl v')[f.slot]? = _; rw [Array.getElem?_setIfInBounds_ne (Ne.symm hne)]; exact h6⟩
theorem ObjC.put {sl : Nat} {v' : Value} (F : ObjC Z c C) : ObjC Z (c.setSlot sl v') C := by
  obtain ⟨k, h1, h2, h3, h4⟩ := F
  exact ⟨k, h1, h2, h3, fun q => by rw [← h4 q]; simp [Cell.setSlot]⟩
theorem FldC.put' {v' : Value} (F : FldC Z c C n d v) (e : c' = c.setSlot (Jvm.RoadKit.slotOf Z C n d) v') : FldC Z c' C n d v' := e ▸ F.put
theorem FldC.keep' {sl : Nat} {v' : Value} (F : FldC Z c C n d v) (e : c' = c.setSlot sl v') (hne : Jvm.RoadKit.slotOf Z C n d ≠ sl) : FldC Z c' C n d v := e ▸ F.keep hne
theorem ObjC.put' {sl : Nat} {v' : Value} (F : ObjC Z c C) (e : c' = c.setSlot sl v') : ObjC Z c' C := e ▸ F.put
theorem fits_isref (ht : ty.isReference = true) (hv : v.isRef = true) : fits ty v = true := by cases ty <;> first | (cases ht; done) | (cases v <;> first | (cases hv; done) | rfl)
theorem ArrC.put {i : Nat} {v' : Value} (F : ArrC Z c ty vs) (hf : fits ty v' = true) : ArrC Z (c.setSlot i v') ty (vs.set i v') := by
  obtain ⟨h1, h2, h3, h4, h5⟩ := F
  refine ⟨h1, h2, by simp [Cell.setSlot, h3], fun v hv => ?_, by simpa using h5⟩
  rcases List.mem_or_eq_of_mem_set hv with q | q
  · exact h4 v q
  · rw [q]; exact hf
end CellLaws
/-! ## own: steps that read or make or write cells, and calls, in the Go form -/
section HeapLaws
variable {l : Launch} {Z : State} {a0 : Array Value} {EL : List (String × Nat)} {R : Room} {own : String} {bytes : ByteArray} {maxL : Nat} {ret : Option FieldType} {nm : String} {X : Ctx} {σ ρ : HL} {T : State} {k n K N : Nat} {Q : Option Value → HL → HL → Prop} {pc pc' : Nat} {Ls : Array Slot} {st : List Value} {a : Addr} {c : Cell} {vs : List Value}
theorem Go.new (W : Wk l Z EL R own bytes maxL ret nm X σ ρ T k n) {C : String} {ix cnt : Nat} (w : (Jvm.Cond.classLink own ix C).before a0 Z = true) (wi : (Jvm.Cond.instantiable C cnt).before a0 Z = true) (wz : (Jvm.Cond.initialized C).before a0 Z = true)
    (hd : decode bytes pc = .ok (.new ix, 3)) (hp : pc + 3 = pc') (hk : k + 1 ≤ R.cells) (hn : n + cnt ≤ R.slots)
    (r : ∀ (T' : State) (a : Addr) (c : Cell), Wk l Z EL R own bytes maxL ret nm X ((a, c) :: σ) ρ T' (k + 1) (n + cnt) → ObjC Z c C → (∀ {O nm d : String} {ty : FieldType}, Laid Z a0 C O nm d → parseFieldDescriptor d = some ty → FldC Z c O nm d (defaultValue ty)) → Go Z EL K N Q X T' pc' Ls (.ref a :: st)) :
    Go Z EL K N Q X T pc Ls st := by
  obtain ⟨w0, vm0, k0, locs, Y, hS, hk0, hZ, hown, hFr, H⟩ := W
  obtain ⟨T', h', Y', e', E, A, D, ⟨cl, hcl, -⟩, stp⟩ := newO Y w0.1 hZ hown w wi wz rfl (g := mkF X.m pc Ls st) rfl (by rw [w0.2.1]; exact hd) hk hn
  subst e'
  refine Go.by stp (by subst hp; exact r T' T.heap.size cl ⟨w0, vm0, k0, locs, Y', hS, Nat.le_trans hk0 E.1, hZ, hown, hFr, H.alloc E hcl⟩ (ObjC.of A hcl) fun L ht => FldC.of (D L ht) hcl)
theorem fits_default (ty : FieldType) : fits ty (defaultValue ty) = true := by cases ty <;> rfl
theorem Go.newarr (W : Wk l Z EL R own bytes maxL ret nm X σ ρ T k n) {aty : ArrayType} {z : Int32} (ty : FieldType) (hty : newarray.typeOf aty = ty) (len : Nat) (w : (Jvm.Cond.arrayClass ty).before a0 Z = true) (hd : decode bytes pc = .ok (.newarray aty, 2)) (hp : pc + 2 = pc')
    (hz : ¬ z < 0) (hl : z.toNatClampNeg = len) (hb : len * 8 ≤ 536870912) (hk : k + 1 ≤ R.cells) (hn : n + len ≤ R.slots)
    (r : ∀ (T' : State) (a : Addr) (c : Cell), Wk l Z EL R own bytes maxL ret nm X ((a, c) :: σ) ρ T' (k + 1) (n + len) → ArrC Z c ty (List.replicate len (defaultValue ty)) → Go Z EL K N Q X T' pc' Ls (.ref a :: st)) :
    Go Z EL K N Q X T pc Ls (.int z :: st) := by
  subst hty
  obtain ⟨w0, vm0, k0, locs, Y, hS, hk0, hZ, hown, hFr, H⟩ := W
  obtain ⟨T', h', cA, Y', e', E, A, stp⟩ := newP Y w0.1 hZ w rfl (g := mkF X.m pc Ls (.int z :: st)) rfl (by rw [w0.2.1]; exact hd) rfl hz (cap := len) (Nat.le_of_eq hl) hb hk hn
  subst e' hp
  have hfd : ∀ v ∈ List.replicate len (defaultValue (newarray.typeOf aty)), fits (newarray.typeOf aty) v = true := fun v hv => by rw [(List.mem_replicate.mp hv).2]; exact fits_default _
  exact Go.by stp (r T' T.heap.size _ ⟨w0, vm0, k0, locs, Y', hS, Nat.le_trans hk0 E.1, hZ, hown, hFr, H.alloc E A.1⟩ ⟨A.2.1, A.2.2, by simp [newA, hl], hfd, by simp; omega⟩)
theorem Go.arrlen (W : Wk l Z EL R own bytes maxL ret nm X σ ρ T k n) (hm : (a, c) ∈ σ ∨ (a, c) ∈ ρ ∨ Z.heap[a]? = some c) {ty : FieldType} (A : ArrC Z c ty vs) (z : Int32) (hz : vs.length.toInt32 = z) (hd : decode bytes pc = .ok (.arraylength, 1)) (hp : pc + 1 = pc')
    (r : Go Z EL K N Q X T pc' Ls (.int z :: st)) : Go Z EL K N Q X T pc Ls (.ref a :: st) := by
  have hc := W.cell hm
  obtain ⟨w0, vm0, k0, locs, Y, hS, hk0, hZ, hown, hFr, H⟩ := W
  refine Go.by (fun t kk => Y.arraylength w0.1 (cell := c) hc (State.isArrayOf_alike hZ.alike A.1) (g := mkF X.m pc Ls (.ref a :: st)) rfl rfl (by rw [w0.2.1]; exact hd) t ?_) r
  rw [A.size, hz]; subst hp; exact kk
theorem arr_in' {ty : FieldType} (A : ArrC Z c ty vs) {j : Int32} {i : Nat} (hj : ¬ j < 0) (hi : j.toNatClampNeg = i) (hl : i < vs.length) : ¬ (j < 0 ∨ c.slots.size ≤ j.toNatClampNeg) := by
  rw [A.size, hi]; rintro (q | q)
  · exact hj q
  · omega
theorem Go.caload (W : Wk l Z EL R own bytes maxL ret nm X σ ρ T k n) (hm : (a, c) ∈ σ ∨ (a, c) ∈ ρ ∨ Z.heap[a]? = some c) (A : ArrC Z c .char vs) {j : Int32} (i : Nat) {v : Value} (hj : ¬ j < 0) (hi : j.toNatClampNeg = i) (hv : vs[i]? = some v) (hd : decode bytes pc = .ok (.caload, 1)) (hp : pc + 1 = pc')
    (r : Go Z EL K N Q X T pc' Ls (v :: st)) : Go Z EL K N Q X T pc Ls (.int j :: .ref a :: st) := by
  have hc := W.cell hm
  obtain ⟨w0, vm0, k0, locs, Y, hS, hk0, hZ, hown, hFr, H⟩ := W
  exact Go.by (fun t kk => Y.caload w0.1 hc (State.isArrayOf_alike hZ.alike A.1) A.2.1 (arr_in' A hj hi (List.getElem?_eq_some_iff.mp hv).1) (by rw [hi, A.get, hv]) (g := mkF X.m pc Ls (.int j :: .ref a :: st)) rfl rfl (by rw [w0.2.1]; exact hd) t (by subst hp; exact kk)) r
theorem Go.baload (W : Wk l Z EL R own bytes maxL ret nm X σ ρ T k n) (hm : (a, c) ∈ σ ∨ (a, c) ∈ ρ ∨ Z.heap[a]? = some c) (A : ArrC Z c .byte vs) {j : Int32} (i : Nat) {v : Value} (hj : ¬ j < 0) (hi : j.toNatClampNeg = i) (hv : vs[i]? = some v) (hd : decode bytes pc = .ok (.baload, 1)) (hp : pc + 1 = pc')
    (r : Go Z EL K N Q X T pc' Ls (v :: st)) : Go Z EL K N Q X T pc Ls (.int j :: .ref a :: st) := by
  have hc := W.cell hm
  obtain ⟨w0, vm0, k0, locs, Y, hS, hk0, hZ, hown, hFr, H⟩ := W
  exact Go.by (fun t kk => Y.baloadBytes w0.1 hc (State.isArrayOf_alike hZ.alike A.1) A.2.1 (arr_in' A hj hi (List.getElem?_eq_some_iff.mp hv).1) (by rw [hi, A.get, hv]) (g := mkF X.m pc Ls (.int j :: .ref a :: st)) rfl rfl (by rw [w0.2.1]; exact hd) t (by subst hp; exact kk)) r
theorem Go.aaload (W : Wk l Z EL R own bytes maxL ret nm X σ ρ T k n) (hm : (a, c) ∈ σ ∨ (a, c) ∈ ρ ∨ Z.heap[a]? = some c) {ty : FieldType} (A : ArrC Z c ty vs) (hty : ty.isReference = true) {j : Int32} (i : Nat) {v : Value} (hj : ¬ j < 0) (hi : j.toNatClampNeg = i) (hv : vs[i]? = some v) (hd : decode bytes pc = .ok (.aaload, 1)) (hp : pc + 1 = pc')
    (r : Go Z EL K N Q X T pc' Ls (v :: st)) : Go Z EL K N Q X T pc Ls (.int j :: .ref a :: st) := by
  have hc := W.cell hm
  obtain ⟨w0, vm0, k0, locs, Y, hS, hk0, hZ, hown, hFr, H⟩ := W
  exact Go.by (fun t kk => Y.aaload w0.1 hc (State.isArrayOf_alike hZ.alike A.1) hty A.2.1 (arr_in' A hj hi (List.getElem?_eq_some_iff.mp hv).1) (by rw [hi, A.get, hv]) (g := mkF X.m pc Ls (.int j :: .ref a :: st)) rfl rfl (by rw [w0.2.1]; exact hd) t (by subst hp; exact kk)) r
/-- the step of one write: the point behind it -/
theorem Wk.wrote (W : Wk l Z EL R own bytes maxL ret nm X σ ρ T k n) {i : Nat} (hi : σ[i]? = some (a, c)) {vm0 : Vm} {k0 : Nat} {locs : List Loc} {T' : State} {sl : Nat} {v : Value}
    (hS : X.s.Since vm0 k0) (hk0 : k0 ≤ T.heap.size) (hZ : Z.Warmed39 vm0) (hown : vm0.findClass own = some X.m.cls) (hFr : Fr Z.heap.size locs) (H : Hp Z EL X.so X.ro X.s σ ρ vm0 T.heap)
    (Y' : Stand X.p l X.e R (X.s.setVm vm0) X.m X.args X.below X.meth X.c T' (locs ++ [⟨a, sl⟩]) k n) (Wr' : Wr T.heap T'.heap a sl v) : Wk l Z EL R own bytes maxL ret nm X (σ.set i (a, c.setSlot sl v)) ρ T' k n := by
  obtain ⟨cl, h1, -, -, h4⟩ := Wr'
  have hmem : (a, c) ∈ σ := List.mem_of_getElem? hi
  cases (H.2.1 _ hmem).symm.trans h1
  exact ⟨W.1, vm0, k0, _, Y', hS, by rw [h4]; simpa using hk0, hZ, hown, hFr.app fun y hy => by cases List.mem_singleton.mp hy; exact (H.2.2.2.2.1 _ hmem).1, H.write hi h4⟩
theorem Go.castore (W : Wk l Z EL R own bytes maxL ret nm X σ ρ T k n) (ix : Nat) (hm : σ[ix]? = some (a, c)) (A : ArrC Z c .char vs) {j x : Int32} (i : Nat) (x' : Int32) (hx : nar .char x = x') (hj : ¬ j < 0) (hi : j.toNatClampNeg = i) (hl : i < vs.length) (hd : decode bytes pc = .ok (.castore, 1)) (hp : pc + 1 = pc')
    (r : ∀ (T' : State) (c' : Cell), Wk l Z EL R own bytes maxL ret nm X (σ.set ix (a, c')) ρ T' k n → ArrC Z c' .char (vs.set i (.int x')) → Go Z EL K N Q X T' pc' Ls st) : Go Z EL K N Q X T pc Ls (.int x :: .int j :: .ref a :: st) := by
  have hc := W.cell (Or.inl (List.mem_of_getElem? hm))
  have W1 := W
  obtain ⟨w0, vm0, k0, locs, Y, hS, hk0, hZ, hown, hFr, H⟩ := W
  obtain ⟨T', h', Y', e', Wr', stp⟩ := stC Y w0.1 hZ rfl (A.arr hc) (arr_in' A hj hi hl) (g := mkF X.m pc Ls (.int x :: .int j :: .ref a :: st)) rfl rfl (by rw [w0.2.1]; exact hd)
  subst e' hp hi hx
  exact Go.by stp (r T' _ (W1.wrote hm hS hk0 hZ hown hFr H Y' Wr') (A.put (fits_nar_char x)))
theorem Go.bastore (W : Wk l Z EL R own bytes maxL ret nm X σ ρ T k n) (ix : Nat) (hm : σ[ix]? = some (a, c)) (A : ArrC Z c .byte vs) {j x : Int32} (i : Nat) (hj : ¬ j < 0) (hi : j.toNatClampNeg = i) (hl : i < vs.length) (hd : decode bytes pc = .ok (.bastore, 1)) (hp : pc + 1 = pc')
    (r : ∀ (T' : State) (c' : Cell), Wk l Z EL R own bytes maxL ret nm X (σ.set ix (a, c')) ρ T' k n → ArrC Z c' .byte (vs.set i (.int x.toInt8.toInt32)) → Go Z EL K N Q X T' pc' Ls st) : Go Z EL K N Q X T pc Ls (.int x :: .int j :: .ref a :: st) := by
  have hc := W.cell (Or.inl (List.mem_of_getElem? hm))
  have W1 := W
  obtain ⟨w0, vm0, k0, locs, Y, hS, hk0, hZ, hown, hFr, H⟩ := W
  obtain ⟨T', h', Y', e', Wr', stp⟩ := stB Y w0.1 hZ rfl (A.arr hc) (arr_in' A hj hi hl) (g := mkF X.m pc Ls (.int x :: .int j :: .ref a :: st)) rfl rfl (by rw [w0.2.1]; exact hd)
  subst e' hp hi
  exact Go.by stp (r T' _ (W1.wrote hm hS hk0 hZ hown hFr H Y' Wr') (A.put (fits_nar_byte x)))
theorem Go.aastore (W : Wk l Z EL R own bytes maxL ret nm X σ ρ T k n) (ix : Nat) (hm : σ[ix]? = some (a, c)) {ty : FieldType} (A : ArrC Z c ty vs) (hty : ty.isReference = true) {j : Int32} {v : Value} (i : Nat) (hj : ¬ j < 0) (hi : j.toNatClampNeg = i) (hl : i < vs.length) (hf : fits ty v = true) (F : Sto Z T.heap a v) (hd : decode bytes pc = .ok (.aastore, 1)) (hp : pc + 1 = pc')
    (r : ∀ (T' : State) (c' : Cell), Wk l Z EL R own bytes maxL ret nm X (σ.set ix (a, c')) ρ T' k n → ArrC Z c' ty (vs.set i v) → c'.cls = c.cls → Go Z EL K N Q X T' pc' Ls st) : Go Z EL K N Q X T pc Ls (v :: .int j :: .ref a :: st) := by
  have hc := W.cell (Or.inl (List.mem_of_getElem? hm))
  have W1 := W
  obtain ⟨w0, vm0, k0, locs, Y, hS, hk0, hZ, hown, hFr, H⟩ := W
  obtain ⟨T', h', Y', e', Wr', stp⟩ := stR Y w0.1 hZ rfl (A.arr hc) (arr_in' A hj hi hl) hty F (g := mkF X.m pc Ls (v :: .int j :: .ref a :: st)) rfl rfl (by rw [w0.2.1]; exact hd)
  subst e' hp hi
  exact Go.by stp (r T' _ (W1.wrote hm hS hk0 hZ hown hFr H Y' Wr') (A.put hf) rfl)
/-- a step that changes nothing of the heap -/
theorem Wk.same {vm0 : Vm} {k0 : Nat} {locs : List Loc} {T' : State} (W : Wk l Z EL R own bytes maxL ret nm X σ ρ T k n)
    (hS : X.s.Since vm0 k0) (hk0 : k0 ≤ T.heap.size) (hZ : Z.Warmed39 vm0) (hown : vm0.findClass own = some X.m.cls) (hFr : Fr Z.heap.size locs) (H : Hp Z EL X.so X.ro X.s σ ρ vm0 T.heap)
    (Y' : Stand X.p l X.e R (X.s.setVm vm0) X.m X.args X.below X.meth X.c T' locs k n) (e : T'.heap = T.heap) : Wk l Z EL R own bytes maxL ret nm X σ ρ T' k n :=
  ⟨W.1, vm0, k0, locs, Y', hS, by rw [e]; exact hk0, hZ, hown, hFr, by rw [e]; exact H⟩
theorem Go.getfield (W : Wk l Z EL R own bytes maxL ret nm X σ ρ T k n) (hm : (a, c) ∈ σ ∨ (a, c) ∈ ρ ∨ Z.heap[a]? = some c) {R0 O nF d : String} {ix : Nat} {v : Value} (w : (Jvm.Cond.fieldLink own ix R0 nF d).before a0 Z = true) (via : Via Z R0 O nF d) (F : FldC Z c O nF d v) (hd : decode bytes pc = .ok (.getfield ix, 3)) (hp : pc + 3 = pc')
    (r : ∀ T' : State, Wk l Z EL R own bytes maxL ret nm X σ ρ T' k n → Go Z EL K N Q X T' pc' Ls (v :: st)) : Go Z EL K N Q X T pc Ls (.ref a :: st) := by
  have hc := W.cell hm
  have W1 := W
  obtain ⟨w0, vm0, k0, locs, Y, hS, hk0, hZ, hown, hFr, H⟩ := W
  obtain ⟨T', Y', e', stp⟩ := getF Y w0.1 hZ hown (host := "") (Or.inl w) via rfl (F.fld hc) (g := mkF X.m pc Ls (.ref a :: st)) rfl rfl (by rw [w0.2.1]; exact hd)
  subst hp
  exact Go.by stp (r T' (W1.same hS hk0 hZ hown hFr H Y' e'))
theorem Go.getstatic (W : Wk l Z EL R own bytes maxL ret nm X σ ρ T k n) {R0 O nF d : String} {ix : Nat} {v : Value} (w : (Jvm.Cond.fieldLink own ix R0 nF d).before a0 Z = true) (via : Via Z R0 O nF d) (F : Sta Z Z.heap O nF d v) (hd : decode bytes pc = .ok (.getstatic ix, 3)) (hp : pc + 3 = pc')
    (r : ∀ T' : State, Wk l Z EL R own bytes maxL ret nm X σ ρ T' k n → Go Z EL K N Q X T' pc' Ls (v :: st)) : Go Z EL K N Q X T pc Ls st := by
  have hE := W.ext
  have W1 := W
  obtain ⟨w0, vm0, k0, locs, Y, hS, hk0, hZ, hown, hFr, H⟩ := W
  obtain ⟨T', Y', e', stp⟩ := getS Y w0.1 hZ (host := "") hown w via rfl (F.ext hE) (g := mkF X.m pc Ls st) rfl (by rw [w0.2.1]; exact hd)
  subst hp
  exact Go.by stp (r T' (W1.same hS hk0 hZ hown hFr H Y' e'))
theorem Go.putfield (W : Wk l Z EL R own bytes maxL ret nm X σ ρ T k n) (i : Nat) (hm : σ[i]? = some (a, c)) {R0 O nF d C : String} {ix kk : Nat} {ty : FieldType} {v v' old : Value} (w : (Jvm.Cond.fieldLink own ix R0 nF d).before a0 Z = true) (via : Via Z R0 O nF d) (F : FldC Z c O nF d old) (E : ObjC Z c C)
    (L : (Jvm.Cond.lays C O nF d).before a0 Z = true ∨ ((Jvm.Cond.laysFinal C O nF d).before a0 Z = true ∧ own = O ∧ nm = "<init>")) (wi : (Jvm.Cond.instantiable C kk).before a0 Z = true) (hty : parseFieldDescriptor d = some ty) (hn : narrow ty v = v') (hf : fits ty v' = true)
    (hd : decode bytes pc = .ok (.putfield ix, 3)) (hp : pc + 3 = pc')
    (r : ∀ (T' : State) (c' : Cell), c' = c.setSlot (Jvm.RoadKit.slotOf Z O nF d) v' → Wk l Z EL R own bytes maxL ret nm X (σ.set i (a, c')) ρ T' k n → Go Z EL K N Q X T' pc' Ls st) : Go Z EL K N Q X T pc Ls (v :: .ref a :: st) := by
  have hc := W.cell (Or.inl (List.mem_of_getElem? hm))
  have W1 := W
  obtain ⟨w0, vm0, k0, locs, Y, hS, hk0, hZ, hown, hFr, H⟩ := W
  obtain ⟨T', h', Y', e', Wr', stp⟩ := putFN Y w0.1 hZ hown w via rfl (F.fld hc) (E.exa hc) (L.imp id fun q => ⟨q.1, q.2.1, by rw [w0.2.2.2.2.2.1]; exact q.2.2⟩) wi hty hn hf (g := mkF X.m pc Ls (v :: .ref a :: st)) rfl rfl (by rw [w0.2.1]; exact hd)
  subst e' hp
  exact Go.by stp (r T' _ rfl (W1.wrote hm hS hk0 hZ hown hFr H Y' Wr'))
theorem Go.objInit (W : Wk l Z EL R own bytes maxL ret nm X σ ρ T k n) {ix : Nat} (w1 : (Jvm.Cond.methodLink own ix Lib.objectInit).before a0 Z = true) (w2 : (Jvm.Cond.instanceMethod Lib.objectInit).before a0 Z = true) (w3 : (Jvm.Cond.code Lib.objectInit ⟨#[0xb1]⟩ 1 none).before a0 Z = true) (hLs : Ls.size = maxL)
    (hd : decode bytes pc = .ok (.invokespecial ix, 3)) (hp : pc + 3 = pc') (hf : 1 ≤ R.frames) (hl : (st.map fun v => v.category).sum + 12 ≤ R.locals)
    (r : ∀ T' : State, Wk l Z EL R own bytes maxL ret nm X σ ρ T' k n → Go Z EL K N Q X T' pc' Ls st) : Go Z EL K N Q X T pc Ls (.ref a :: st) := by
  have W1 := W
  obtain ⟨w0, vm0, k0, locs, Y, hS, hk0, hZ, hown, hFr, H⟩ := W
  obtain ⟨T', Y', e', stp⟩ := initO Y w0.1 hZ hown w1 w2 w3 rfl (g := mkF X.m pc Ls (.ref a :: st)) rfl (by show Ls.size = _; rw [hLs, w0.2.2.1]) rfl (by rw [w0.2.1]; exact hd) hf (W := (st.map fun v => v.category).sum) (by show 2 * 0 + _ ≤ _; omega) hl
  subst hp
  exact Go.by stp (r T' (W1.same hS hk0 hZ hown hFr H Y' e'))
theorem Go.ldcInt (W : Wk l Z EL R own bytes maxL ret nm X σ ρ T k n) {ix : Nat} {v : Int32} (w : (Jvm.Cond.constant own ix v).before a0 Z = true) (hd : decode bytes pc = .ok (.ldc ix, 2)) (hp : pc + 2 = pc') (r : Go Z EL K N Q X T pc' Ls (.int v :: st)) : Go Z EL K N Q X T pc Ls st := by
  obtain ⟨w0, vm0, k0, locs, Y, hS, hk0, hZ, hown, hFr, H⟩ := W
  exact Go.by (fun t kk => Y.ldcI w0.1 hown (mvT hZ w) (g := mkF X.m pc Ls st) rfl (by rw [w0.2.1]; exact hd) (by subst hp; exact kk)) r
theorem Go.ldcwInt (W : Wk l Z EL R own bytes maxL ret nm X σ ρ T k n) {ix : Nat} {v : Int32} (w : (Jvm.Cond.constant own ix v).before a0 Z = true) (hd : decode bytes pc = .ok (.ldc_w ix, 3)) (hp : pc + 3 = pc') (r : Go Z EL K N Q X T pc' Ls (.int v :: st)) : Go Z EL K N Q X T pc Ls st := by
  obtain ⟨w0, vm0, k0, locs, Y, hS, hk0, hZ, hown, hFr, H⟩ := W
  exact Go.by (fun t kk => Y.ldcWI w0.1 hown (mvT hZ w) (g := mkF X.m pc Ls st) rfl (by rw [w0.2.1]; exact hd) (by subst hp; exact kk)) r
theorem Go.ldc2 (W : Wk l Z EL R own bytes maxL ret nm X σ ρ T k n) {ix : Nat} {v : Int64} (w : (Jvm.Cond.constantLong own ix v).before a0 Z = true) (hd : decode bytes pc = .ok (.ldc2_w ix, 3)) (hp : pc + 3 = pc') (r : Go Z EL K N Q X T pc' Ls (.long v :: st)) : Go Z EL K N Q X T pc Ls st := by
  obtain ⟨w0, vm0, k0, locs, Y, hS, hk0, hZ, hown, hFr, H⟩ := W
  exact Go.by (fun t kk => Y.ldc2J w0.1 hown (mvT hZ w) (g := mkF X.m pc Ls st) rfl (by rw [w0.2.1]; exact hd) (by subst hp; exact kk)) r
/-- a literal that may be made: what it holds -/
theorem Go.ldcStr (W : Wk l Z EL R own bytes maxL ret nm X σ ρ T k n) (hEL : EW Z a0 EL) {text : String} {ix : Nat} (w : (Jvm.Cond.stringLink own ix text).before a0 Z = true) (wS : ∀ d ∈ Bundle.stringAtoms, d.before a0 Z = true) (hmem : (own, ix) ∈ EL)
    {bs : List Value} {z : Int32} (ht : (∀ c ∈ text.toList, c.toNat < 256) ∧ text.toList.map (fun c => Value.int (Jvm.Lit.byteI c.toNat.toUInt16)) = bs) (hz : ¬ z < 0) (hl : z.toNatClampNeg = bs.length) (hbl : bs.length < 2147483648)
    (hd : decode bytes pc = .ok (.ldc ix, 2)) (hp : pc + 2 = pc') {m : Nat} (hm : 4 * text.toList.length ≤ m) (hbig : m ≤ 536870912) (hk : k + 2 ≤ R.cells) (hn : n + (m + 4) ≤ R.slots)
    (r : ∀ (T' : State) (a b : Addr) (c cb : Cell), Wk l Z EL R own bytes maxL ret nm X σ ((a, c) :: (b, cb) :: ρ) T' (k + 2) (n + (m + 4)) → ObjC Z c "java/lang/String" → FldC Z c "java/lang/String" "coder" "B" (.int 0) → FldC Z c "java/lang/String" "value" "[B" (.ref b) → ArrC Z cb .byte bs → Go Z EL K N Q X T' pc' Ls (.ref a :: st)) :
    Go Z EL K N Q X T pc Ls st := by
  obtain ⟨w0, vm0, k0, locs, Y, hS, hk0, hZ, hown, hFr, H⟩ := W
  obtain ⟨a, T', h', k1, b, kc, Y', e', E, hS', hk1, hZ', hown', A1, F1, F2, V1, la, lb, C, -, hne, stp⟩ := ldcCH Y w0.1 hZ hown w wS rfl hS hk0 hEL hmem H.1.1 ht hz hl (g := mkF X.m pc Ls st) rfl (by rw [w0.2.1]; exact hd) hm hbig hk hn
  subst e' hp
  obtain ⟨cb, Ab, -, sz, -, hh, hfit⟩ := V1
  have hcb : T'.heap[b]? = some cb := Ab.1
  obtain ⟨c, hc⟩ : ∃ c, T'.heap[a]? = some c := by obtain ⟨c, _, q, -⟩ := A1; exact ⟨c, q⟩
  have H2 := ((H.later C E).lit hcb fun x q => (hne x q).2).lit hc fun x q => (hne x q).1
  have hlen : cb.slots.size = bs.length := by rw [sz, hl]
  have hsl : cb.slots.toList = bs := by
    apply List.ext_getElem?
    intro i
    by_cases q : i < bs.length
    · have := hh i (by omega)
      rw [Array.getElem?_toList, this, List.getD_eq_getElem?_getD, List.getElem?_eq_getElem q]; rfl
    · rw [Array.getElem?_toList, Array.getElem?_eq_none (by omega), List.getElem?_eq_none (by omega)]
  refine Go.by stp (r T' a b c cb ⟨w0, T'.vm, k1, locs, Y', hS', hk1, hZ', hown', hFr, H2⟩ (ObjC.of A1 hc) (FldC.of F1 hc) (FldC.of F2 hc) ⟨Ab.2.1, Ab.2.2, hsl, fun v hv => ?_, hbl⟩)
  obtain ⟨i, hi⟩ := List.mem_iff_getElem?.mp hv
  have hlt := (List.getElem?_eq_some_iff.mp hi).1
  have q := hfit i (by omega)
  rw [List.getD_eq_getElem?_getD, hi] at q
  exact q
end HeapLaws
/-! ## own: calls and returns in the Go form -/
section CallLaws
variable {l : Launch} {Z : State} {a0 : Array Value} {EL : List (String × Nat)} {R : Room} {own : String} {bytes : ByteArray} {maxL : Nat} {ret : Option FieldType} {nm : String} {X : Ctx} {σ ρ : HL} {T : State} {k n K N : Nat} {Q Q' : Option Value → HL → HL → Prop} {pc pc' : Nat} {Ls : Array Slot} {st rest : List Value} {a : Addr} {c : Cell}
  {y y' : MethodName} {by' : ByteArray} {mL : Nat} {rt : Option FieldType} {rm : Room} {as' : Array Value} {σi σf ρi : HL}
/-- the point behind a call -/
theorem Wk.called (W : Wk l Z EL R own bytes maxL ret nm X σ ρ T k n) {vm0 : Vm} {k0 : Nat} {locs L : List Loc} (hS : X.s.Since vm0 k0) (hk0 : k0 ≤ T.heap.size) (hZ : Z.Warmed39 vm0) (hown : vm0.findClass own = some X.m.cls) (hFr : Fr Z.heap.size locs) (B : Pt) {σ' ρ' : HL}
    (Y' : Stand X.p l X.e R ((X.s.setVm vm0).setVm B.U.vm) X.m X.args X.below X.meth X.c B.U B.locs B.cells B.slots) (hS2 : (X.s.setVm vm0).Since B.U.vm B.U.heap.size) (g : T.heap.size ≤ B.U.heap.size) (hL : Fr Z.heap.size L) (H : Hp Z EL X.so X.ro X.s σ' ρ' B.U.vm B.U.heap)
    (e1 : B.locs = locs ++ L) (e2 : B.cells = k + rm.cells) (e3 : B.slots = n + rm.slots) : Wk l Z EL R own bytes maxL ret nm X σ' ρ' B.U (k + rm.cells) (n + rm.slots) := by
  obtain ⟨U, Lo, c1, s1⟩ := B
  dsimp only [Pt.U, Pt.locs, Pt.cells, Pt.slots] at *
  subst e1 e2 e3
  exact ⟨W.1, U.vm, U.heap.size, _, Y', hS.trans hS2 (Nat.le_trans hk0 g), Nat.le_refl _, State.Warmed39.trans (t := X.s.setVm vm0) hZ hS2.1, by rw [hS2.1.alike.findClass]; exact hown, hFr.app hL, H⟩
theorem Go.static (W : Wk l Z EL R own bytes maxL ret nm X σ ρ T k n) {ix : Nat} (M : Met l Z EL y by' mL rt rm as' σi ρi Q') (w1 : (Jvm.Cond.methodLink own ix y).before a0 Z = true) (w2 : (Jvm.Cond.static y).before a0 Z = true) (w3 : (Jvm.Cond.initialized y.cls).before a0 Z = true) (w4 : (Jvm.Cond.code y by' mL rt).before a0 Z = true)
    (hy : y.cls ≠ "java/lang/invoke/MethodHandle" ∧ y.cls ≠ "java/lang/invoke/VarHandle") (is js : List Nat) (hσ : pick is σ = some (σi, σf)) (hρ : roOf js ρ ρi) (argsL : List Value) (rest : List Value) (has : argsL.toArray = as') (hlen : ∀ sig, parseMethodDescriptor y.desc = some sig → argsL.length = sig.parameters.length) (hst : st = argsL.reverse ++ rest)
    (hLs : Ls.size = maxL) (hd : decode bytes pc = .ok (.invokestatic ix, 3)) (hp : pc + 3 = pc') (hf : rm.frames + 1 ≤ R.frames) (hl : (rest.map fun v => v.category).sum + (mL + 11) + rm.locals ≤ R.locals) (hk : k + rm.cells ≤ R.cells) (hn : n + rm.slots ≤ R.slots)
    (r : ∀ (v : Option Value) (σ' ρ' : HL) (T' : State), Q' v σ' ρ' → Wk l Z EL R own bytes maxL ret nm X (σ' ++ σf) (ρ' ++ ρ) T' (k + rm.cells) (n + rm.slots) → Go Z EL K N Q X T' pc' Ls (v.toList ++ rest)) : Go Z EL K N Q X T pc Ls st := by
  have W1 := W
  obtain ⟨w0, vm0, k0, locs, Y, hS, hk0, hZ, hown, hFr, H⟩ := W
  obtain ⟨ae, hEL⟩ := w0.2.2.2.2.2.2
  subst has hst
  have B1 := M.back (R := R) (p := X.p) (e := X.e) (below := X.below) (args := X.args) (len := 3) (W := (rest.map fun v => v.category).sum) hZ w4 w3 hf hl hEL (H.perm (pick_perm _ _ _ _ hσ)) hρ.mem
  obtain ⟨v, vm1, B, -, Y', hS2, g, ⟨σ', ρ', L, q, hL, H', e1, e2, e3⟩, stp⟩ := callSS Y w0.1 hown (mvT hZ w1) (mvT hZ w2) (mvT hZ w3) (mvT hZ w4) hy B1 (g := mkF X.m pc Ls (argsL.reverse ++ rest)) rfl (by show Ls.size = _; rw [hLs, w0.2.2.1]) (argsL := argsL) (rest := rest) hlen rfl (by show 2 * 0 + _ ≤ _; omega) (by rw [w0.2.1]; exact hd) (fun _ _ => ⟨rfl, rfl, hk, hn⟩)
  subst hp
  exact Go.by (fun t kk => stp.trans kk) (r v σ' ρ' B.U q (W1.called hS hk0 hZ hown hFr B Y' hS2 g hL H' e1 e2 e3))
theorem Go.special (W : Wk l Z EL R own bytes maxL ret nm X σ ρ T k n) {ix : Nat} (M : Met l Z EL y by' mL none rm as' σi ρi Q') (hy1 : y.name = "<init>") (w1 : (Jvm.Cond.methodLink own ix y).before a0 Z = true) (w2 : (Jvm.Cond.instanceMethod y).before a0 Z = true) (w3 : (Jvm.Cond.initialized y.cls).before a0 Z = true) (w4 : (Jvm.Cond.code y by' mL none).before a0 Z = true)
    (hy : y.cls ≠ "java/lang/invoke/MethodHandle" ∧ y.cls ≠ "java/lang/invoke/VarHandle") (is js : List Nat) (hσ : pick is σ = some (σi, σf)) (hρ : roOf js ρ ρi) (argsL : List Value) (rest : List Value) (has : (.ref a :: argsL).toArray = as') (hlen : ∀ sig, parseMethodDescriptor y.desc = some sig → argsL.length = sig.parameters.length) (hst : st = argsL.reverse ++ .ref a :: rest)
    (hLs : Ls.size = maxL) (hd : decode bytes pc = .ok (.invokespecial ix, 3)) (hp : pc + 3 = pc') (hf : rm.frames + 1 ≤ R.frames) (hl : (rest.map fun v => v.category).sum + (mL + 11) + rm.locals ≤ R.locals) (hk : k + rm.cells ≤ R.cells) (hn : n + rm.slots ≤ R.slots)
    (r : ∀ (v : Option Value) (σ' ρ' : HL) (T' : State), Q' v σ' ρ' → Wk l Z EL R own bytes maxL ret nm X (σ' ++ σf) (ρ' ++ ρ) T' (k + rm.cells) (n + rm.slots) → Go Z EL K N Q X T' pc' Ls (v.toList ++ rest)) : Go Z EL K N Q X T pc Ls st := by
  have W1 := W
  obtain ⟨w0, vm0, k0, locs, Y, hS, hk0, hZ, hown, hFr, H⟩ := W
  obtain ⟨ae, hEL⟩ := w0.2.2.2.2.2.2
  subst has hst
  have B1 := M.back (R := R) (p := X.p) (e := X.e) (below := X.below) (args := X.args) (len := 3) (W := (rest.map fun v => v.category).sum) hZ w4 w3 hf hl hEL (H.perm (pick_perm _ _ _ _ hσ)) hρ.mem
  obtain ⟨v, vm1, B, -, Y', hS2, g, ⟨σ', ρ', L, q, hL, H', e1, e2, e3⟩, stp⟩ := Y.specialBackS w0.1 hy1 hown (mvT hZ w1) (mvT hZ w2) (mvT hZ w4) hy B1 (g := mkF X.m pc Ls (argsL.reverse ++ .ref a :: rest)) rfl (by show Ls.size = _; rw [hLs, w0.2.2.1]) (Steps.refl _) (a := a) (argsL := argsL) (rest := rest) hlen rfl (by show 2 * 0 + _ ≤ _; omega) (by rw [w0.2.1]; exact hd) (fun _ _ => ⟨rfl, rfl, hk, hn⟩)
  subst hp
  exact Go.by (fun t kk => stp.trans kk) (r v σ' ρ' B.U q (W1.called hS hk0 hZ hown hFr B Y' hS2 g hL H' e1 e2 e3))
theorem Go.virtual (W : Wk l Z EL R own bytes maxL ret nm X σ ρ T k n) {ix : Nat} {C : String} (M : Met l Z EL y by' mL rt rm as' σi ρi Q') (hm : (a, c) ∈ σ ∨ (a, c) ∈ ρ ∨ Z.heap[a]? = some c) (O : ObjC Z c C) (w1 : (Jvm.Cond.methodLink own ix y).before a0 Z = true) (wd : (Jvm.Cond.declares y).before a0 Z = true) (ws : (Jvm.Cond.selects C y y).before a0 Z = true) (w2 : (Jvm.Cond.instanceMethod y).before a0 Z = true) (w3 : (Jvm.Cond.initialized y.cls).before a0 Z = true) (w4 : (Jvm.Cond.code y by' mL rt).before a0 Z = true)
    (hy : y.cls ≠ "java/lang/invoke/MethodHandle" ∧ y.cls ≠ "java/lang/invoke/VarHandle") (is js : List Nat) (hσ : pick is σ = some (σi, σf)) (hρ : roOf js ρ ρi) (argsL : List Value) (rest : List Value) (has : (.ref a :: argsL).toArray = as') (hlen : ∀ sig, parseMethodDescriptor y.desc = some sig → argsL.length = sig.parameters.length) (hst : st = argsL.reverse ++ .ref a :: rest)
    (hLs : Ls.size = maxL) (hd : decode bytes pc = .ok (.invokevirtual ix, 3)) (hp : pc + 3 = pc') (hf : rm.frames + 1 ≤ R.frames) (hl : (rest.map fun v => v.category).sum + (mL + 11) + rm.locals ≤ R.locals) (hk : k + rm.cells ≤ R.cells) (hn : n + rm.slots ≤ R.slots)
    (r : ∀ (v : Option Value) (σ' ρ' : HL) (T' : State), Q' v σ' ρ' → Wk l Z EL R own bytes maxL ret nm X (σ' ++ σf) (ρ' ++ ρ) T' (k + rm.cells) (n + rm.slots) → Go Z EL K N Q X T' pc' Ls (v.toList ++ rest)) : Go Z EL K N Q X T pc Ls st := by
  have W1 := W
  have hc := W.cell hm
  obtain ⟨w0, vm0, k0, locs, Y, hS, hk0, hZ, hown, hFr, H⟩ := W
  obtain ⟨ae, hEL⟩ := w0.2.2.2.2.2.2
  subst has hst
  have B1 := M.back (R := R) (p := X.p) (e := X.e) (below := X.below) (args := X.args) (len := 3) (W := (rest.map fun v => v.category).sum) hZ w4 w3 hf hl hEL (H.perm (pick_perm _ _ _ _ hσ)) hρ.mem
  obtain ⟨cq, kq, qa, qb, qc⟩ := isOf (s := X.s.setVm vm0) hZ rfl (O.exa hc)
  obtain ⟨v, vm1, B, -, Y', hS2, g, ⟨σ', ρ', L, q, hL, H', e1, e2, e3⟩, stp⟩ := Y.virtualBackS w0.1 hown (mvT hZ w1) (mvT hZ wd) (notFace_of_selects (args := #[]) (mvT hZ ws)) (mvT hZ ws) (mvT hZ w2) hy B1 qa qc (g := mkF X.m pc Ls (argsL.reverse ++ .ref a :: rest)) rfl (by show Ls.size = _; rw [hLs, w0.2.2.1]) (Steps.refl _) (argsL := argsL) (rest := rest) hlen rfl (by show 2 * 0 + _ ≤ _; omega) (by rw [w0.2.1]; exact hd) (fun _ _ => ⟨rfl, rfl, hk, hn⟩)
  subst hp
  exact Go.by (fun t kk => stp.trans kk) (r v σ' ρ' B.U q (W1.called hS hk0 hZ hown hFr B Y' hS2 g hL H' e1 e2 e3))
/-! returns -/
theorem Go.leave (W : Wk l Z EL R own bytes maxL ret nm X σ ρ T k n) (v : Option Value) (hv : ret = none → v = none) (hk : k ≤ K) (hn : n ≤ N) (q : Q v σ ρ)
    (hstep : ∀ (fs : List Frame) (vm0 : Vm) (locs : List Loc), Stand X.p l X.e R (X.s.setVm vm0) X.m X.args X.below X.meth X.c T locs K N → (∀ (f : JFrame) (acts : List Action), f.method = X.m → f.locked = none → f.entered = [] → (doReturn X.e (T.setTop f) acts v).1 = T.setFrames fs) → Steps X.p.tables X.e X.below (T.setTop (mkF X.m pc Ls st)) (T.setFrames fs)) :
    Go Z EL K N Q X T pc Ls st := by
  obtain ⟨w0, vm0, k0, locs, Y, hS, hk0, hZ, hown, hFr, H⟩ := W
  obtain ⟨ae, hEL⟩ := w0.2.2.2.2.2.2
  have Y2 := Y.more hk hn
  obtain ⟨fs, h1, h2, h3, h4⟩ := Y2.leaveW hS hk0 (v := v) (fun h => hv (by rw [← w0.2.2.2.1]; exact h)) w0.2.2.2.2.1
  have H2 : Hp Z EL X.so X.ro X.s σ ρ T.vm T.heap := H.later (CHv.at Y hZ hEL H.1.1) ⟨Nat.le_refl _, fun _ _ z => z⟩
  exact ⟨T.setFrames fs, _, hstep fs vm0 locs Y2 h1, h2, h3, v, σ, ρ, locs, rfl, q, hFr, H2, h4⟩
theorem Go.retV (W : Wk l Z EL R own bytes maxL none nm X σ ρ T k n) (hd : decode bytes pc = .ok (.return_, 1)) (hk : k ≤ K) (hn : n ≤ N) (q : Q none σ ρ) : Go Z EL K N Q X T pc Ls [] := by
  refine Go.leave W none (fun _ => rfl) hk hn q fun fs vm0 locs Y h => ?_
  exact Y.returnOut W.hx W.1.2.2.2.1 (W.hb hd) h
theorem Go.iret (W : Wk l Z EL R own bytes maxL (some .int) nm X σ ρ T k n) {z : Int32} (hd : decode bytes pc = .ok (.ireturn, 1)) (hk : k ≤ K) (hn : n ≤ N) (q : Q (some (.int z)) σ ρ) : Go Z EL K N Q X T pc Ls (.int z :: st) := by
  refine Go.leave W (some (.int z)) (fun h => nomatch h) hk hn q fun fs vm0 locs Y h => ?_
  exact retOut Y W.hx W.1.2.2.2.1 rfl (Or.inl ⟨rfl, Or.inl rfl, z, rfl⟩) (W.hb hd) h
theorem Go.nret (W : Wk l Z EL R own bytes maxL (some t) nm X σ ρ T k n) {z z' : Int32} (ht : t = .boolean ∨ t = .byte ∨ t = .char ∨ t = .short) (hz : nar t z = z') (hd : decode bytes pc = .ok (.ireturn, 1)) (hk : k ≤ K) (hn : n ≤ N) (q : Q (some (.int z')) σ ρ) : Go Z EL K N Q X T pc Ls (.int z :: st) := by
  subst hz
  refine Go.leave W (some (.int (nar t z))) (fun h => nomatch h) hk hn q fun fs vm0 locs Y h => ?_
  exact retN Y W.hx W.1.2.2.2.1 ht (W.hb hd) h
theorem Go.lret (W : Wk l Z EL R own bytes maxL (some .long) nm X σ ρ T k n) {z : Int64} (hd : decode bytes pc = .ok (.lreturn, 1)) (hk : k ≤ K) (hn : n ≤ N) (q : Q (some (.long z)) σ ρ) : Go Z EL K N Q X T pc Ls (.long z :: st) := by
  refine Go.leave W (some (.long z)) (fun h => nomatch h) hk hn q fun fs vm0 locs Y h => ?_
  exact retOut Y W.hx W.1.2.2.2.1 rfl (Or.inr (Or.inl ⟨rfl, rfl, z, rfl⟩)) (W.hb hd) h
theorem narrow_ref {t : FieldType} (ht : t.isReference = true) (w : Value) : narrow t w = w := by cases t <;> first | (cases ht; done) | rfl
theorem Go.aret (W : Wk l Z EL R own bytes maxL (some t) nm X σ ρ T k n) {w : Value} (hw : w.isRef = true) (ht : t.isReference = true) (hd : decode bytes pc = .ok (.areturn, 1)) (hk : k ≤ K) (hn : n ≤ N) (q : Q (some w) σ ρ) : Go Z EL K N Q X T pc Ls (w :: st) := by
  refine Go.leave W (some w) (fun h => nomatch h) hk hn q fun fs vm0 locs Y h => ?_
  exact retOut Y W.hx W.1.2.2.2.1 (narrow_ref ht w) (Or.inr (Or.inr (Or.inr (Or.inr ⟨rfl, ht, hw⟩)))) (W.hb hd) h
end CallLaws
/-! ## own: numbers and lists for the loops over arrays -/
theorem i32_toInt {i : Nat} (hi : i < 2147483648) : i.toInt32.toInt = (i : Int) := by
  rw [show i.toInt32 = Int32.ofNat i from rfl, Int32.toInt_ofNat_of_lt (by omega)]
theorem i32_lt {i n : Nat} (hi : i < 2147483648) (hn : n < 2147483648) : i.toInt32 < n.toInt32 ↔ i < n := by
  rw [Int32.lt_iff_toInt_lt, i32_toInt hi, i32_toInt hn]; omega
theorem i32_nn {i : Nat} (hi : i < 2147483648) : ¬ i.toInt32 < 0 := by
  rw [Int32.lt_iff_toInt_lt, i32_toInt hi]
  have : (0 : Int32).toInt = 0 := by decide
  omega
theorem i32_clamp {i : Nat} (hi : i < 2147483648) : i.toInt32.toNatClampNeg = i := by
  have h := nat_of (i32_nn hi)
  rw [i32_toInt hi] at h
  omega
theorem i32_succ {i : Nat} (hi : i + 1 < 2147483648) : i.toInt32 + 1 = (i + 1).toInt32 := by
  apply Int32.toInt_inj.mp
  have h := c_iadd i.toInt32 1
  rw [i32_toInt (by omega)] at h
  rw [i32_toInt hi]
  have h1 : (1 : Int32).toInt = 1 := by decide
  rw [h1] at h
  have r := rng32 (i.toInt32 + 1)
  omega
theorem i32_inj {i n : Nat} (hi : i < 2147483648) (hn : n < 2147483648) : i.toInt32 = n.toInt32 ↔ i = n := by
  constructor
  · intro h
    have := congrArg Int32.toInt h
    rw [i32_toInt hi, i32_toInt hn] at this
    omega
  · intro h; rw [h]
/-- a char's low byte, as a byte[] holds it -/
abbrev lo8 (x : Int32) : Value := .int x.toInt8.toInt32
abbrev latB (cs : List Int32) : List Value := cs.map lo8
abbrev chV (cs : List Int32) : List Value := cs.map Value.int
/-- each is a Latin-1 char -/
def Lat (cs : List Int32) : Prop := ∀ x ∈ cs, ¬ x < 0 ∧ ¬ (255 : Int32) < x
theorem Lat.nil : Lat [] := fun _ h => nomatch h
theorem Lat.cons {x : Int32} {cs : List Int32} (h : ¬ x < 0 ∧ ¬ (255 : Int32) < x) (r : Lat cs) : Lat (x :: cs) := fun y hy => by
  rcases List.mem_cons.mp hy with rfl | hy
  · exact h
  · exact r y hy
/-- a Latin-1 String's two cells -/
def StrL (Z : State) (c : Cell) (b : Addr) (cb : Cell) (cs : List Int32) : Prop :=
  ObjC Z c "java/lang/String" ∧ FldC Z c "java/lang/String" "coder" "B" (.int 0) ∧ FldC Z c "java/lang/String" "value" "[B" (.ref b) ∧ ArrC Z cb .byte (latB cs) ∧ Lat cs
theorem take_succ' {α : Type} {l : List α} {i : Nat} {x : α} (h : l[i]? = some x) : l.take (i + 1) = l.take i ++ [x] := by
  rw [List.take_add_one, h]; rfl
theorem set_next {cs : List Int32} {i j : Nat} {x : Int32} (hx : cs[i]? = some x) : (latB (cs.take i) ++ List.replicate (j + 1) (.int 0 : Value)).set i (lo8 x) = latB (cs.take (i + 1)) ++ List.replicate j (.int 0) := by
  have hi : i < cs.length := (List.getElem?_eq_some_iff.mp hx).1
  have hl : (latB (cs.take i)).length = i := by simp; omega
  rw [List.set_append_right _ _ (by omega), hl, Nat.sub_self, List.replicate_succ, List.set_cons_zero, take_succ' hx]
  simp [latB]
theorem and255 (x : Int32) : ¬ (x &&& 255) < 0 ∧ ¬ (255 : Int32) < (x &&& 255) := by
  have h := c_and x 255 (by decide)
  have h0 : (0 : Int32).toInt = 0 := by decide
  have h1 : (255 : Int32).toInt = 255 := by decide
  rw [Int32.lt_iff_toInt_lt, Int32.lt_iff_toInt_lt, h0]
  rw [h1] at h ⊢
  omega
/-- a char stays a char -/
theorem i2c_id {x : Int32} (h0 : ¬ x < 0) (h1 : ¬ (65535 : Int32) < x) : x.toUInt32.toUInt16.toUInt32.toInt32 = x := by
  apply Int32.toInt_inj.mp
  have h := c_i2c x
  rw [Int32.lt_iff_toInt_lt] at h0 h1
  have e0 : (0 : Int32).toInt = 0 := by decide
  have e1 : (65535 : Int32).toInt = 65535 := by decide
  rw [e0] at h0
  rw [e1] at h1
  omega
theorem lat_char {x : Int32} (h : ¬ x < 0 ∧ ¬ (255 : Int32) < x) : ¬ x < 0 ∧ ¬ (65535 : Int32) < x := by
  obtain ⟨h0, h1⟩ := h
  refine ⟨h0, ?_⟩
  rw [Int32.lt_iff_toInt_lt] at h1 ⊢
  have e0 : (255 : Int32).toInt = 255 := by decide
  have e1 : (65535 : Int32).toInt = 65535 := by decide
  rw [e0] at h1
  rw [e1]
  omega
theorem nar_char_id {x : Int32} (h : ¬ x < 0 ∧ ¬ (65535 : Int32) < x) : nar .char x = x := i2c_id h.1 h.2
/-- a byte read back with & 255 -/
theorem byte_back {x : Int32} (h : ¬ x < 0 ∧ ¬ (255 : Int32) < x) : x.toInt8.toInt32 &&& 255 = x := by
  apply Int32.toInt_inj.mp
  rw [c_mask _ 255 8 (by decide) (by decide)]
  have hb := c_i2b x
  obtain ⟨h0, h1⟩ := h
  rw [Int32.lt_iff_toInt_lt] at h0 h1
  have e0 : (0 : Int32).toInt = 0 := by decide
  have e1 : (255 : Int32).toInt = 255 := by decide
  rw [e0] at h0
  rw [e1] at h1
  omega
theorem lo8_inj {x y : Int32} (hx : ¬ x < 0 ∧ ¬ (255 : Int32) < x) (hy : ¬ y < 0 ∧ ¬ (255 : Int32) < y) (h : x.toInt8.toInt32 = y.toInt8.toInt32) : x = y := by
  rw [← byte_back hx, ← byte_back hy, h]
theorem i8_i8 (x : Int32) : x.toInt8.toInt32.toInt8.toInt32 = x.toInt8.toInt32 := by
  apply Int32.toInt_inj.mp
  have h1 := c_i2b x
  have h2 := c_i2b x.toInt8.toInt32
  omega
theorem andchr (x m : Int32) (h0 : 0 ≤ m.toInt) (h1 : m.toInt ≤ 65535) : ¬ (x &&& m) < 0 ∧ ¬ (65535 : Int32) < (x &&& m) := by
  have h := c_and x m h0
  have e0 : (0 : Int32).toInt = 0 := by decide
  have e1 : (65535 : Int32).toInt = 65535 := by decide
  rw [Int32.lt_iff_toInt_lt, Int32.lt_iff_toInt_lt, e0, e1]
  omega
/-! ## own: casts and comparisons of references in the Go form -/
section RefLaws
variable {l : Launch} {Z : State} {a0 : Array Value} {EL : List (String × Nat)} {R : Room} {own : String} {bytes : ByteArray} {maxL : Nat} {ret : Option FieldType} {nm : String} {X : Ctx} {σ ρ : HL} {T : State} {k n K N : Nat} {Q : Option Value → HL → HL → Prop} {pc pc' : Nat} {Ls : Array Slot} {st : List Value} {a : Addr} {c : Cell}
theorem Go.instY (W : Wk l Z EL R own bytes maxL ret nm X σ ρ T k n) (hm : (a, c) ∈ σ ∨ (a, c) ∈ ρ ∨ Z.heap[a]? = some c) {C : String} {ix : Nat} (O : ObjC Z c C) (w : (Jvm.Cond.classLink own ix C).before a0 Z = true) (hd : decode bytes pc = .ok (.instanceof ix, 3)) (hp : pc + 3 = pc')
    (r : ∀ T' : State, Wk l Z EL R own bytes maxL ret nm X σ ρ T' k n → Go Z EL K N Q X T' pc' Ls (.int 1 :: st)) : Go Z EL K N Q X T pc Ls (.ref a :: st) := by
  have hc := W.cell hm
  have W1 := W
  obtain ⟨w0, vm0, k0, locs, Y, hS, hk0, hZ, hown, hFr, H⟩ := W
  obtain ⟨T', Y', e', stp⟩ := Jvm.RoadKit.instY Y w0.1 hZ hown w rfl (Ins.self (O.exa hc)) (g := mkF X.m pc Ls (.ref a :: st)) rfl rfl (by rw [w0.2.1]; exact hd)
  subst hp
  exact Go.by stp (r T' (W1.same hS hk0 hZ hown hFr H Y' e'))
theorem Go.castY (W : Wk l Z EL R own bytes maxL ret nm X σ ρ T k n) (hm : (a, c) ∈ σ ∨ (a, c) ∈ ρ ∨ Z.heap[a]? = some c) {C : String} {ix : Nat} (O : ObjC Z c C) (w : (Jvm.Cond.classLink own ix C).before a0 Z = true) (hd : decode bytes pc = .ok (.checkcast ix, 3)) (hp : pc + 3 = pc')
    (r : ∀ T' : State, Wk l Z EL R own bytes maxL ret nm X σ ρ T' k n → Go Z EL K N Q X T' pc' Ls (.ref a :: st)) : Go Z EL K N Q X T pc Ls (.ref a :: st) := by
  have hc := W.cell hm
  have W1 := W
  obtain ⟨w0, vm0, k0, locs, Y, hS, hk0, hZ, hown, hFr, H⟩ := W
  obtain ⟨T', Y', e', stp⟩ := Jvm.RoadKit.castY Y w0.1 hZ hown w rfl (Ins.self (O.exa hc)) (g := mkF X.m pc Ls (.ref a :: st)) rfl rfl (by rw [w0.2.1]; exact hd)
  subst hp
  exact Go.by stp (r T' (W1.same hS hk0 hZ hown hFr H Y' e'))
theorem Go.acmp_ne (W : Wk l Z EL R own bytes maxL ret nm X σ ρ T k n) {x y : Value} {o : Int} (pcY : Nat) (h1 : x.isRef = true) (h2 : y.isRef = true) (hd : decode bytes pc = .ok (.if_acmp .ne o, 3)) (hy : (pc : Int) + o = (pcY : Nat)) (hp : pc + 3 = pc')
    (rY : ¬ x = y → Go Z EL K N Q X T pcY Ls st) (rN : x = y → Go Z EL K N Q X T pc' Ls st) : Go Z EL K N Q X T pc Ls (y :: x :: st) := by
  obtain ⟨w0, vm0, k0, locs, Y, hS, hk0, hZ, hown, hFr, H⟩ := W
  by_cases q : x = y
  · exact Go.by (fun t kk => acmp Y w0.1 (g := mkF X.m pc Ls (y :: x :: st)) rfl h1 h2 (pc0 := pc) (pc' := pc') (same := true) rfl (by rw [w0.2.1]; exact hd) rfl (by simp [q]) (by omega) (by subst hp; rfl) kk) (rN q)
  · exact Go.by (fun t kk => acmp Y w0.1 (g := mkF X.m pc Ls (y :: x :: st)) rfl h1 h2 (pc0 := pc) (pc' := pcY) (same := false) rfl (by rw [w0.2.1]; exact hd) rfl (by simp [q]) (by omega) (by simp [acV]; omega) kk) (rY q)
theorem Go.acmp_eq (W : Wk l Z EL R own bytes maxL ret nm X σ ρ T k n) {x y : Value} {o : Int} (pcY : Nat) (h1 : x.isRef = true) (h2 : y.isRef = true) (hd : decode bytes pc = .ok (.if_acmp .eq o, 3)) (hy : (pc : Int) + o = (pcY : Nat)) (hp : pc + 3 = pc')
    (rY : x = y → Go Z EL K N Q X T pcY Ls st) (rN : ¬ x = y → Go Z EL K N Q X T pc' Ls st) : Go Z EL K N Q X T pc Ls (y :: x :: st) := by
  obtain ⟨w0, vm0, k0, locs, Y, hS, hk0, hZ, hown, hFr, H⟩ := W
  by_cases q : x = y
  · exact Go.by (fun t kk => acmp Y w0.1 (g := mkF X.m pc Ls (y :: x :: st)) rfl h1 h2 (pc0 := pc) (pc' := pcY) (same := true) rfl (by rw [w0.2.1]; exact hd) rfl (by simp [q]) (by omega) (by simp [acV]; omega) kk) (rY q)
  · exact Go.by (fun t kk => acmp Y w0.1 (g := mkF X.m pc Ls (y :: x :: st)) rfl h1 h2 (pc0 := pc) (pc' := pc') (same := false) rfl (by rw [w0.2.1]; exact hd) rfl (by simp [q]) (by omega) (by subst hp; rfl) kk) (rN q)
theorem Go.instNull (W : Wk l Z EL R own bytes maxL ret nm X σ ρ T k n) {ix : Nat} (hd : decode bytes pc = .ok (.instanceof ix, 3)) (hp : pc + 3 = pc') (r : Go Z EL K N Q X T pc' Ls (.int 0 :: st)) : Go Z EL K N Q X T pc Ls (.null :: st) := by
  obtain ⟨w0, vm0, k0, locs, Y, hS, hk0, hZ, hown, hFr, H⟩ := W
  exact Go.by (fun t kk => Y.instanceofNull w0.1 (g := mkF X.m pc Ls (.null :: st)) rfl rfl (by rw [w0.2.1]; exact hd) t (by subst hp; exact kk)) r
theorem Go.castNull (W : Wk l Z EL R own bytes maxL ret nm X σ ρ T k n) {ix : Nat} (hd : decode bytes pc = .ok (.checkcast ix, 3)) (hp : pc + 3 = pc') (r : Go Z EL K N Q X T pc' Ls (.null :: st)) : Go Z EL K N Q X T pc Ls (.null :: st) := by
  obtain ⟨w0, vm0, k0, locs, Y, hS, hk0, hZ, hown, hFr, H⟩ := W
  exact Go.by (fun t kk => Y.checkcastNull w0.1 (g := mkF X.m pc Ls (.null :: st)) rfl rfl (by rw [w0.2.1]; exact hd) t (by subst hp; exact kk)) r
end RefLaws
/-! ## own: two Strings at one address -/
theorem FldC.uniq {Z : State} {c : Cell} {C n d : String} {v w : Value} (F : FldC Z c C n d v) (F' : FldC Z c C n d w) : v = w := by
  obtain ⟨cf, k, i, f, h1, -, -, -, -, h6⟩ := F
  obtain ⟨cf', k', i', f', g1, -, -, -, -, g6⟩ := F'
  cases h1.symm.trans g1
  exact Option.some.inj (h6.symm.trans g6)
theorem latB_inj {cs ds : List Int32} (hc : Lat cs) (hd : Lat ds) (h : cs.map (fun x => x.toInt8.toInt32) = ds.map (fun x => x.toInt8.toInt32)) : cs = ds := by
  induction cs generalizing ds with
  | nil => cases ds with
    | nil => rfl
    | cons y ds => simp at h
  | cons x cs ih => cases ds with
    | nil => simp at h
    | cons y ds =>
      simp only [List.map_cons, List.cons.injEq] at h
      rw [lo8_inj (hc x (by simp)) (hd y (by simp)) h.1, ih (fun z hz => hc z (by simp [hz])) (fun z hz => hd z (by simp [hz])) h.2]
theorem latB_eq (cs : List Int32) : latB cs = chV (cs.map fun x => x.toInt8.toInt32) := by simp [latB, chV, lo8]
theorem chV_inj {xs ys : List Int32} (h : chV xs = chV ys) : xs = ys := by
  induction xs generalizing ys with
  | nil => cases ys with
    | nil => rfl
    | cons y ys => simp at h
  | cons x xs ih => cases ys with
    | nil => simp at h
    | cons y ys =>
      simp only [chV, List.map_cons, List.cons.injEq, Value.int.injEq] at h
      rw [h.1, ih h.2]
theorem StrL.uniq {Z : State} {h : Heap} {a b b' : Addr} {c c' cb cb' : Cell} {cs ds : List Int32} (S : StrL Z c b cb cs) (S' : StrL Z c' b' cb' ds) (h1 : h[a]? = some c) (h2 : h[a]? = some c') (h3 : h[b]? = some cb) (h4 : h[b']? = some cb') : cs = ds := by
  cases h1.symm.trans h2
  have e : b = b' := Value.ref.inj (S.2.2.1.uniq S'.2.2.1)
  subst e
  cases h3.symm.trans h4
  have q : latB cs = latB ds := S.2.2.2.1.2.2.1.symm.trans S'.2.2.2.1.2.2.1
  rw [latB_eq, latB_eq] at q
  exact latB_inj S.2.2.2.2 S'.2.2.2.2 (chV_inj q)

theorem len0 {Z : State} {cb : Cell} {cs : List Int32} (A : ArrC Z cb .byte (latB cs)) (h : cs.length.toInt32 = 0) : cs = [] := by
  have hn : cs.length < 2147483648 := by have := A.2.2.2.2; rwa [latB, List.length_map] at this
  have := (i32_inj hn (n := 0) (by decide)).mp h
  exact List.length_eq_zero_iff.mp this
theorem shr0 (x : Int32) : x >>> ((0 : Int32) &&& 31) = x := by
  apply Int32.toInt_inj.mp
  rw [c_ishr x 0 0 (by decide)]
  simp
abbrev EL1 : List (String × Nat) := consts_1
def Cl (Z : State) (a0 : Array Value) : Prop := (∀ d ∈ tables_1, d.before a0 Z = true) ∧ EW Z a0 EL1 ∧ (∃ cv : Int32, Sta Z Z.heap "java/lang/String" "COMPACT_STRINGS" "Z" (.int cv) ∧ ¬ cv = 0) ∧ (∃ fv : Value, Sta Z Z.heap "jdk/internal/util/Preconditions" "SIOOBE_FORMATTER" "Ljava/util/function/BiFunction;" fv ∧ fv.isRef = true) ∧ True
theorem strAtoms {Z : State} {a0 : Array Value} (G : Cl Z a0) : ∀ d ∈ Bundle.stringAtoms, d.before a0 Z = true := fun d hd => G.1 d ((by decide +kernel : ∀ d ∈ Bundle.stringAtoms, d ∈ tables_1) d hd)
theorem d_jdk_52_method_21_code_0 : decode jdk_52_method_21_code 0 = .ok (.iconst 0, 1) := by decide +kernel
theorem d_jdk_52_method_21_code_1 : decode jdk_52_method_21_code 1 = .ok (.istore 5, 2) := by decide +kernel
theorem d_jdk_52_method_21_code_3 : decode jdk_52_method_21_code 3 = .ok (.iload 5, 2) := by decide +kernel
theorem d_jdk_52_method_21_code_5 : decode jdk_52_method_21_code 5 = .ok (.iload 4, 2) := by decide +kernel
theorem d_jdk_52_method_21_code_7 : decode jdk_52_method_21_code 7 = .ok (.if_icmp .ge 37, 3) := by decide +kernel
theorem d_jdk_52_method_21_code_10 : decode jdk_52_method_21_code 10 = .ok (.aload_n 0, 1) := by decide +kernel
theorem d_jdk_52_method_21_code_11 : decode jdk_52_method_21_code 11 = .ok (.iload_n 1, 1) := by decide +kernel
theorem d_jdk_52_method_21_code_12 : decode jdk_52_method_21_code 12 = .ok (.caload, 1) := by decide +kernel
theorem d_jdk_52_method_21_code_13 : decode jdk_52_method_21_code 13 = .ok (.istore 6, 2) := by decide +kernel
theorem d_jdk_52_method_21_code_15 : decode jdk_52_method_21_code 15 = .ok (.iload 6, 2) := by decide +kernel
theorem d_jdk_52_method_21_code_17 : decode jdk_52_method_21_code 17 = .ok (.sipush 255, 3) := by decide +kernel
theorem d_jdk_52_method_21_code_20 : decode jdk_52_method_21_code 20 = .ok (.if_icmp .le 6, 3) := by decide +kernel
theorem d_jdk_52_method_21_code_23 : decode jdk_52_method_21_code 23 = .ok (.iload 5, 2) := by decide +kernel
theorem d_jdk_52_method_21_code_25 : decode jdk_52_method_21_code 25 = .ok (.ireturn, 1) := by decide +kernel
theorem d_jdk_52_method_21_code_26 : decode jdk_52_method_21_code 26 = .ok (.aload_n 2, 1) := by decide +kernel
theorem d_jdk_52_method_21_code_27 : decode jdk_52_method_21_code 27 = .ok (.iload_n 3, 1) := by decide +kernel
theorem d_jdk_52_method_21_code_28 : decode jdk_52_method_21_code 28 = .ok (.iload 6, 2) := by decide +kernel
theorem d_jdk_52_method_21_code_30 : decode jdk_52_method_21_code 30 = .ok (.i2b, 1) := by decide +kernel
theorem d_jdk_52_method_21_code_31 : decode jdk_52_method_21_code 31 = .ok (.bastore, 1) := by decide +kernel
theorem d_jdk_52_method_21_code_32 : decode jdk_52_method_21_code 32 = .ok (.iinc 1 1, 3) := by decide +kernel
theorem d_jdk_52_method_21_code_35 : decode jdk_52_method_21_code 35 = .ok (.iinc 3 1, 3) := by decide +kernel
theorem d_jdk_52_method_21_code_38 : decode jdk_52_method_21_code 38 = .ok (.iinc 5 1, 3) := by decide +kernel
theorem d_jdk_52_method_21_code_41 : decode jdk_52_method_21_code 41 = .ok (.goto (-38), 3) := by decide +kernel
theorem d_jdk_52_method_21_code_44 : decode jdk_52_method_21_code 44 = .ok (.iload 4, 2) := by decide +kernel
theorem d_jdk_52_method_21_code_46 : decode jdk_52_method_21_code 46 = .ok (.ireturn, 1) := by decide +kernel
theorem lp_cmp5 {l : Launch} {Z : State} {X : Ctx} {ac b : Addr} {cc : Cell} {cs : List Int32} (A : ArrC Z cc .char (chV cs)) (hl : Lat cs) (hn : cs.length < 2147483648) :
    ∀ (j i : Nat), i + j = cs.length → ∀ (o6 : Slot), One o6 → ∀ (T : State) (cb : Cell), Wk l Z EL1 ({ frames := 0, cells := 0, slots := 0, locals := 0 } : Room) "java/lang/StringUTF16" jdk_52_method_21_code 7 (some .int) "compress" X [(ac, cc), (b, cb)] [] T 0 0 → ArrC Z cb .byte (latB (cs.take i) ++ List.replicate j (.int 0)) →
      Go Z EL1 0 0 (fun v σ ρ => ∃ cb', v = some (.int cs.length.toInt32) ∧ σ = [(ac, cc), (b, cb')] ∧ ρ = [] ∧ ArrC Z cb' .byte (latB cs)) X T 3 #[.val (.ref ac), .val (.int i.toInt32), .val (.ref b), .val (.int i.toInt32), .val (.int cs.length.toInt32), .val (.int i.toInt32), o6] []
  | 0, i, hij, o6, ho, T, cb, W, B => by
    obtain rfl : i = cs.length := by omega
    refine Go.iload (pc' := 5) W d_jdk_52_method_21_code_3 rfl rfl ?_
    refine Go.iload (pc' := 7) W d_jdk_52_method_21_code_5 rfl rfl ?_
    refine Go.icmp_ge (pc' := 10) W 44 d_jdk_52_method_21_code_7 (by decide) rfl (fun _ => ?_) (fun q => absurd q (by rw [i32_lt hn hn]; omega))
    refine Go.iload (pc' := 46) W d_jdk_52_method_21_code_44 rfl rfl ?_
    refine Go.iret W d_jdk_52_method_21_code_46 (by decide) (by decide) ⟨cb, rfl, rfl, rfl, ?_⟩
    simpa using B
  | j + 1, i, hij, o6, ho, T, cb, W, B => by
    have hi : i < cs.length := by omega
    obtain ⟨x, hx⟩ : ∃ x, cs[i]? = some x := ⟨_, List.getElem?_eq_getElem hi⟩
    have hL := hl x (List.mem_of_getElem? hx)
    have hlen : i < (latB (cs.take i) ++ List.replicate (j + 1) (.int 0 : Value)).length := by simp; omega
    refine Go.iload (pc' := 5) W d_jdk_52_method_21_code_3 rfl rfl ?_
    refine Go.iload (pc' := 7) W d_jdk_52_method_21_code_5 rfl rfl ?_
    refine Go.icmp_ge (pc' := 10) W 44 d_jdk_52_method_21_code_7 (by decide) rfl (fun q => absurd ((i32_lt (by omega) hn).mpr hi) q) (fun _ => ?_)
    refine Go.aloadN (pc' := 11) W d_jdk_52_method_21_code_10 rfl rfl rfl ?_
    refine Go.iloadN (pc' := 12) W d_jdk_52_method_21_code_11 rfl rfl ?_
    refine Go.caload (pc' := 13) W (Or.inl (List.mem_of_getElem? (i := 0) rfl)) A i (i32_nn (by omega)) (i32_clamp (by omega)) (v := .int x) (by rw [chV, List.getElem?_map, hx]; rfl) d_jdk_52_method_21_code_12 rfl ?_
    refine Go.istore (pc' := 15) W #[.val (.ref ac), .val (.int i.toInt32), .val (.ref b), .val (.int i.toInt32), .val (.int cs.length.toInt32), .val (.int i.toInt32), .val (.int x)] d_jdk_52_method_21_code_13 (XS.store1 (o := o6) rfl ho rfl) rfl ?_
    refine Go.iload (pc' := 17) W d_jdk_52_method_21_code_15 rfl rfl ?_
    refine Go.sipush (pc' := 20) W (255 : Int32) d_jdk_52_method_21_code_17 (by decide) rfl ?_
    refine Go.icmp_le (pc' := 23) W 26 d_jdk_52_method_21_code_20 (by decide) rfl (fun _ => ?_) (fun q => absurd q hL.2)
    refine Go.aloadN (pc' := 27) W d_jdk_52_method_21_code_26 rfl rfl rfl ?_
    refine Go.iloadN (pc' := 28) W d_jdk_52_method_21_code_27 rfl rfl ?_
    refine Go.iload (pc' := 30) W d_jdk_52_method_21_code_28 rfl rfl ?_
    refine Go.i2b (pc' := 31) W d_jdk_52_method_21_code_30 rfl ?_
    refine Go.bastore (pc' := 32) W 1 rfl B i (i32_nn (by omega)) (i32_clamp (by omega)) hlen d_jdk_52_method_21_code_31 rfl (fun T2 cb2 W2 B2 => ?_)
    rw [i8_i8, set_next hx] at B2
    refine Go.iinc (pc' := 35) W2 (1 : Int32) #[.val (.ref ac), .val (.int (i.toInt32 + 1)), .val (.ref b), .val (.int i.toInt32), .val (.int cs.length.toInt32), .val (.int i.toInt32), .val (.int x)] d_jdk_52_method_21_code_32 rfl (by decide) rfl rfl ?_
    refine Go.iinc (pc' := 38) W2 (1 : Int32) #[.val (.ref ac), .val (.int (i.toInt32 + 1)), .val (.ref b), .val (.int (i.toInt32 + 1)), .val (.int cs.length.toInt32), .val (.int i.toInt32), .val (.int x)] d_jdk_52_method_21_code_35 rfl (by decide) rfl rfl ?_
    refine Go.iinc (pc' := 41) W2 (1 : Int32) #[.val (.ref ac), .val (.int (i.toInt32 + 1)), .val (.ref b), .val (.int (i.toInt32 + 1)), .val (.int cs.length.toInt32), .val (.int (i.toInt32 + 1)), .val (.int x)] d_jdk_52_method_21_code_38 rfl (by decide) rfl rfl ?_
    refine Go.goto W2 3 d_jdk_52_method_21_code_41 (by decide) ?_
    rw [i32_succ (by omega)]
    exact lp_cmp5 A hl hn j (i + 1) (by omega) _ (One.val rfl) T2 cb2 W2 B2
theorem pn_0 : plainName "java/lang/StringUTF16" = true := by first | (simp [plainName, overriddenIn]; done) | decide +kernel
theorem rm_cmp5 {l : Launch} {Z : State} {a0 : Array Value} (G : Cl Z a0) (ac b : Addr) (cc cb : Cell) (cs : List Int32) (A : ArrC Z cc .char (chV cs)) (hl : Lat cs) (hn : cs.length < 2147483648) (B : ArrC Z cb .byte (List.replicate cs.length (.int 0))) :
    Met l Z EL1 (⟨"java/lang/StringUTF16", "compress", "([CI[BII)I"⟩ : MethodName) jdk_52_method_21_code 7 (some .int) ({ frames := 0, cells := 0, slots := 0, locals := 0 } : Room) #[.ref ac, .int 0, .ref b, .int 0, .int cs.length.toInt32] [(ac, cc), (b, cb)] [] (fun v σ ρ => ∃ cb', v = some (.int cs.length.toInt32) ∧ σ = [(ac, cc), (b, cb')] ∧ ρ = [] ∧ ArrC Z cb' .byte (latB cs)) := by
  refine Met.walk G.2.1 pn_0 #[.val (.ref ac), .val (.int 0), .val (.ref b), .val (.int 0), .val (.int cs.length.toInt32), .unset, .unset] (fun m => by first | (simp [entryFrame, mkF, argsToLocals, Value.category]; done) | rfl) ?_
  intro X T W
  refine Go.iconst (pc' := 1) W (0 : Int32) d_jdk_52_method_21_code_0 (by decide) rfl ?_
  refine Go.istore (pc' := 3) W #[.val (.ref ac), .val (.int 0), .val (.ref b), .val (.int 0), .val (.int cs.length.toInt32), .val (.int 0), .unset] d_jdk_52_method_21_code_1 rfl rfl ?_
  exact lp_cmp5 A hl hn cs.length 0 (by omega) .unset One.u T cb W (by simpa using B)
theorem d_jdk_52_method_16_code_0 : decode jdk_52_method_16_code 0 = .ok (.iload_n 2, 1) := by decide +kernel
theorem w_25 {Z : State} {a0 : Array Value} (G : Cl Z a0) : (Jvm.Cond.arrayClass .byte).before a0 Z = true := G.1 _ (List.mem_of_getElem? (l := tables_1) (i := 25) rfl)
theorem d_jdk_52_method_16_code_1 : decode jdk_52_method_16_code 1 = .ok (.newarray .byte, 2) := by decide +kernel
theorem d_jdk_52_method_16_code_3 : decode jdk_52_method_16_code 3 = .ok (.astore_n 3, 1) := by decide +kernel
theorem d_jdk_52_method_16_code_4 : decode jdk_52_method_16_code 4 = .ok (.aload_n 0, 1) := by decide +kernel
theorem d_jdk_52_method_16_code_5 : decode jdk_52_method_16_code 5 = .ok (.iload_n 1, 1) := by decide +kernel
theorem d_jdk_52_method_16_code_6 : decode jdk_52_method_16_code 6 = .ok (.aload_n 3, 1) := by decide +kernel
theorem d_jdk_52_method_16_code_7 : decode jdk_52_method_16_code 7 = .ok (.iconst 0, 1) := by decide +kernel
theorem d_jdk_52_method_16_code_8 : decode jdk_52_method_16_code 8 = .ok (.iload_n 2, 1) := by decide +kernel
theorem w_40 {Z : State} {a0 : Array Value} (G : Cl Z a0) : (Jvm.Cond.methodLink "java/lang/StringUTF16" 115 (⟨"java/lang/StringUTF16", "compress", "([CI[BII)I"⟩ : MethodName)).before a0 Z = true := G.1 _ (List.mem_of_getElem? (l := tables_1) (i := 40) rfl)
theorem w_41 {Z : State} {a0 : Array Value} (G : Cl Z a0) : (Jvm.Cond.static (⟨"java/lang/StringUTF16", "compress", "([CI[BII)I"⟩ : MethodName)).before a0 Z = true := G.1 _ (List.mem_of_getElem? (l := tables_1) (i := 41) rfl)
theorem w_38 {Z : State} {a0 : Array Value} (G : Cl Z a0) : (Jvm.Cond.initialized "java/lang/StringUTF16").before a0 Z = true := G.1 _ (List.mem_of_getElem? (l := tables_1) (i := 38) rfl)
theorem w_42 {Z : State} {a0 : Array Value} (G : Cl Z a0) : (Jvm.Cond.code (⟨"java/lang/StringUTF16", "compress", "([CI[BII)I"⟩ : MethodName) jdk_52_method_21_code 7 (some .int)).before a0 Z = true := G.1 _ (List.mem_of_getElem? (l := tables_1) (i := 42) rfl)
theorem pd_1 : parseMethodDescriptor "([CI[BII)I" = some ⟨[(.array .char), .int, (.array .byte), .int, .int], some .int⟩ := by decide +kernel
theorem d_jdk_52_method_16_code_9 : decode jdk_52_method_16_code 9 = .ok (.invokestatic 115, 3) := by decide +kernel
theorem d_jdk_52_method_16_code_12 : decode jdk_52_method_16_code 12 = .ok (.istore 4, 2) := by decide +kernel
theorem d_jdk_52_method_16_code_14 : decode jdk_52_method_16_code 14 = .ok (.iload 4, 2) := by decide +kernel
theorem d_jdk_52_method_16_code_16 : decode jdk_52_method_16_code 16 = .ok (.iload_n 2, 1) := by decide +kernel
theorem d_jdk_52_method_16_code_17 : decode jdk_52_method_16_code 17 = .ok (.if_icmp .eq 40, 3) := by decide +kernel
theorem d_jdk_52_method_16_code_57 : decode jdk_52_method_16_code 57 = .ok (.aload_n 3, 1) := by decide +kernel
theorem d_jdk_52_method_16_code_58 : decode jdk_52_method_16_code 58 = .ok (.areturn, 1) := by decide +kernel
theorem rm_cmp3 {l : Launch} {Z : State} {a0 : Array Value} (G : Cl Z a0) (ac : Addr) (cc : Cell) (cs : List Int32) (A : ArrC Z cc .char (chV cs)) (hl : Lat cs) (hn : cs.length < 65536) :
    Met l Z EL1 (⟨"java/lang/StringUTF16", "compress", "([CII)[B"⟩ : MethodName) jdk_52_method_16_code 6 (some (.array .byte)) ({ frames := 1, cells := 1, slots := cs.length, locals := 18 } : Room) #[.ref ac, .int 0, .int cs.length.toInt32] [(ac, cc)] [] (fun v σ ρ => ∃ b cb, v = some (.ref b) ∧ σ = [(ac, cc), (b, cb)] ∧ ρ = [] ∧ ArrC Z cb .byte (latB cs)) := by
  refine Met.walk G.2.1 pn_0 #[.val (.ref ac), .val (.int 0), .val (.int cs.length.toInt32), .unset, .unset, .unset] (fun m => by first | (simp [entryFrame, mkF, argsToLocals, Value.category]; done) | rfl) ?_
  intro X T0 W0
  refine Go.iloadN (pc' := 1) W0 d_jdk_52_method_16_code_0 rfl rfl ?_
  refine Go.newarr (pc' := 3) W0 .byte rfl cs.length (w_25 G) d_jdk_52_method_16_code_1 rfl (i32_nn (by omega)) (i32_clamp (by omega)) (by omega) (by first | exact Nat.le_of_ble_eq_true rfl | (simp; done) | (simp; omega) | omega) (by first | exact Nat.le_of_ble_eq_true rfl | (simp; done) | (simp; omega) | omega) (fun T1 b cb W1 B => ?_)
  refine Go.astoreN (pc' := 4) W1 #[.val (.ref ac), .val (.int 0), .val (.int cs.length.toInt32), .val (.ref b), .unset, .unset] d_jdk_52_method_16_code_3 rfl rfl rfl ?_
  refine Go.aloadN (pc' := 5) W1 d_jdk_52_method_16_code_4 rfl rfl rfl ?_
  refine Go.iloadN (pc' := 6) W1 d_jdk_52_method_16_code_5 rfl rfl ?_
  refine Go.aloadN (pc' := 7) W1 d_jdk_52_method_16_code_6 rfl rfl rfl ?_
  refine Go.iconst (pc' := 8) W1 (0 : Int32) d_jdk_52_method_16_code_7 (by decide) rfl ?_
  refine Go.iloadN (pc' := 9) W1 d_jdk_52_method_16_code_8 rfl rfl ?_
  refine Go.static (pc' := 12) W1 (rm_cmp5 G ac b cc cb cs A hl (by omega) B) (w_40 G) (w_41 G) (w_38 G) (w_42 G) (by decide) [1, 0] [] (σf := []) rfl rfl [.ref ac, .int 0, .ref b, .int 0, .int cs.length.toInt32] [] rfl (lenOf pd_1 rfl) rfl rfl d_jdk_52_method_16_code_9 rfl (by first | exact Nat.le_of_ble_eq_true rfl | (simp; done) | (simp; omega) | omega) (by first | exact Nat.le_of_ble_eq_true rfl | (simp; done) | (simp; omega) | omega) (by first | exact Nat.le_of_ble_eq_true rfl | (simp; done) | (simp; omega) | omega) (by first | exact Nat.le_of_ble_eq_true rfl | (simp; done) | (simp; omega) | omega) ?_
  rintro _ _ _ T2 ⟨cb2, rfl, rfl, rfl, B2⟩ W2
  refine Go.istore (pc' := 14) W2 #[.val (.ref ac), .val (.int 0), .val (.int cs.length.toInt32), .val (.ref b), .val (.int cs.length.toInt32), .unset] d_jdk_52_method_16_code_12 rfl rfl ?_
  refine Go.iload (pc' := 16) W2 d_jdk_52_method_16_code_14 rfl rfl ?_
  refine Go.iloadN (pc' := 17) W2 d_jdk_52_method_16_code_16 rfl rfl ?_
  refine Go.icmp_eq (pc' := 20) W2 57 d_jdk_52_method_16_code_17 (by decide) rfl (fun _ => ?_) (fun q => absurd rfl q)
  refine Go.aloadN (pc' := 58) W2 d_jdk_52_method_16_code_57 rfl rfl rfl ?_
  exact Go.aret W2 rfl rfl d_jdk_52_method_16_code_58 (by first | exact Nat.le_of_ble_eq_true rfl | (simp; done) | (simp; omega) | omega) (by first | exact Nat.le_of_ble_eq_true rfl | (simp; done) | (simp; omega) | omega) ⟨b, cb2, rfl, rfl, rfl, B2⟩
theorem d_jdk_52_method_15_code_0 : decode jdk_52_method_15_code 0 = .ok (.iload_n 1, 1) := by decide +kernel
theorem d_jdk_52_method_15_code_1 : decode jdk_52_method_15_code 1 = .ok (.aload_n 0, 1) := by decide +kernel
theorem d_jdk_52_method_15_code_2 : decode jdk_52_method_15_code 2 = .ok (.arraylength, 1) := by decide +kernel
theorem d_jdk_52_method_15_code_3 : decode jdk_52_method_15_code 3 = .ok (.isub, 1) := by decide +kernel
theorem d_jdk_52_method_15_code_4 : decode jdk_52_method_15_code 4 = .ok (.bipush 31, 2) := by decide +kernel
theorem d_jdk_52_method_15_code_6 : decode jdk_52_method_15_code 6 = .ok (.iushr, 1) := by decide +kernel
theorem d_jdk_52_method_15_code_7 : decode jdk_52_method_15_code 7 = .ok (.i2b, 1) := by decide +kernel
theorem d_jdk_52_method_15_code_8 : decode jdk_52_method_15_code 8 = .ok (.ireturn, 1) := by decide +kernel
theorem rm_cod {l : Launch} {Z : State} {a0 : Array Value} (G : Cl Z a0) (b : Addr) (cb : Cell) (cs : List Int32) (B : ArrC Z cb .byte (latB cs)) :
    Met l Z EL1 (⟨"java/lang/StringUTF16", "coderFromArrayLen", "([BI)B"⟩ : MethodName) jdk_52_method_15_code 2 (some .byte) ({ frames := 0, cells := 0, slots := 0, locals := 0 } : Room) #[.ref b, .int cs.length.toInt32] [(b, cb)] [] (fun v σ ρ => v = some (.int 0) ∧ σ = [(b, cb)] ∧ ρ = []) := by
  refine Met.walk G.2.1 pn_0 #[.val (.ref b), .val (.int cs.length.toInt32)] (fun m => by first | (simp [entryFrame, mkF, argsToLocals, Value.category]; done) | rfl) ?_
  intro X T0 W0
  refine Go.iloadN (pc' := 1) W0 d_jdk_52_method_15_code_0 rfl rfl ?_
  refine Go.aloadN (pc' := 2) W0 d_jdk_52_method_15_code_1 rfl rfl rfl ?_
  refine Go.arrlen (pc' := 3) W0 (Or.inl (List.mem_of_getElem? (i := 0) rfl)) B cs.length.toInt32 (by rw [latB, List.length_map]) d_jdk_52_method_15_code_2 rfl ?_
  refine Go.isub (pc' := 4) W0 d_jdk_52_method_15_code_3 rfl ?_
  rw [Int32.sub_self]
  refine Go.bipush (pc' := 6) W0 (31 : Int32) d_jdk_52_method_15_code_4 (by decide) rfl ?_
  refine Go.iushr (pc' := 7) W0 d_jdk_52_method_15_code_6 rfl ?_
  refine Go.i2b (pc' := 8) W0 d_jdk_52_method_15_code_7 rfl ?_
  exact Go.nret (z' := 0) W0 (by simp) (by decide) d_jdk_52_method_15_code_8 (by decide) (by decide) ⟨rfl, rfl, rfl⟩
theorem pn_2 : plainName "java/lang/String" = true := by first | (simp [plainName, overriddenIn]; done) | decide +kernel
theorem d_jdk_42_method_149_code_0 : decode jdk_42_method_149_code 0 = .ok (.aload_n 0, 1) := by decide +kernel
theorem d_jdk_42_method_149_code_1 : decode jdk_42_method_149_code 1 = .ok (.invokespecial 1, 3) := by decide +kernel
theorem w_21 {Z : State} {a0 : Array Value} (G : Cl Z a0) : (Jvm.Cond.methodLink "java/lang/String" 1 (⟨"java/lang/Object", "<init>", "()V"⟩ : MethodName)).before a0 Z = true := G.1 _ (List.mem_of_getElem? (l := tables_1) (i := 21) rfl)
theorem w_22 {Z : State} {a0 : Array Value} (G : Cl Z a0) : (Jvm.Cond.instanceMethod (⟨"java/lang/Object", "<init>", "()V"⟩ : MethodName)).before a0 Z = true := G.1 _ (List.mem_of_getElem? (l := tables_1) (i := 22) rfl)
theorem w_23 {Z : State} {a0 : Array Value} (G : Cl Z a0) : (Jvm.Cond.code (⟨"java/lang/Object", "<init>", "()V"⟩ : MethodName) object_method_1_code 1 none).before a0 Z = true := G.1 _ (List.mem_of_getElem? (l := tables_1) (i := 23) rfl)
theorem d_jdk_42_method_149_code_4 : decode jdk_42_method_149_code 4 = .ok (.iload_n 3, 1) := by decide +kernel
theorem d_jdk_42_method_149_code_5 : decode jdk_42_method_149_code 5 = .ok (.ifCond .ne 22, 3) := by decide +kernel
theorem d_jdk_42_method_149_code_27 : decode jdk_42_method_149_code 27 = .ok (.getstatic 38, 3) := by decide +kernel
theorem w_35 {Z : State} {a0 : Array Value} (G : Cl Z a0) : (Jvm.Cond.fieldLink "java/lang/String" 38 "java/lang/String" "COMPACT_STRINGS" "Z").before a0 Z = true := G.1 _ (List.mem_of_getElem? (l := tables_1) (i := 35) rfl)
theorem d_jdk_42_method_149_code_30 : decode jdk_42_method_149_code 30 = .ok (.ifCond .eq 28, 3) := by decide +kernel
theorem d_jdk_42_method_149_code_33 : decode jdk_42_method_149_code 33 = .ok (.aload_n 1, 1) := by decide +kernel
theorem d_jdk_42_method_149_code_34 : decode jdk_42_method_149_code 34 = .ok (.iload_n 2, 1) := by decide +kernel
theorem d_jdk_42_method_149_code_35 : decode jdk_42_method_149_code 35 = .ok (.iload_n 3, 1) := by decide +kernel
theorem d_jdk_42_method_149_code_36 : decode jdk_42_method_149_code 36 = .ok (.invokestatic 177, 3) := by decide +kernel
theorem w_36 {Z : State} {a0 : Array Value} (G : Cl Z a0) : (Jvm.Cond.methodLink "java/lang/String" 177 (⟨"java/lang/StringUTF16", "compress", "([CII)[B"⟩ : MethodName)).before a0 Z = true := G.1 _ (List.mem_of_getElem? (l := tables_1) (i := 36) rfl)
theorem w_39 {Z : State} {a0 : Array Value} (G : Cl Z a0) : (Jvm.Cond.code (⟨"java/lang/StringUTF16", "compress", "([CII)[B"⟩ : MethodName) jdk_52_method_16_code 6 (some (.array .byte))).before a0 Z = true := G.1 _ (List.mem_of_getElem? (l := tables_1) (i := 39) rfl)
theorem pd_3 : parseMethodDescriptor "([CII)[B" = some ⟨[(.array .char), .int, .int], some (.array .byte)⟩ := by decide +kernel
theorem w_37 {Z : State} {a0 : Array Value} (G : Cl Z a0) : (Jvm.Cond.static (⟨"java/lang/StringUTF16", "compress", "([CII)[B"⟩ : MethodName)).before a0 Z = true := G.1 _ (List.mem_of_getElem? (l := tables_1) (i := 37) rfl)
theorem d_jdk_42_method_149_code_39 : decode jdk_42_method_149_code 39 = .ok (.astore 5, 2) := by decide +kernel
theorem d_jdk_42_method_149_code_41 : decode jdk_42_method_149_code 41 = .ok (.aload_n 0, 1) := by decide +kernel
theorem d_jdk_42_method_149_code_42 : decode jdk_42_method_149_code 42 = .ok (.aload 5, 2) := by decide +kernel
theorem d_jdk_42_method_149_code_44 : decode jdk_42_method_149_code 44 = .ok (.iload_n 3, 1) := by decide +kernel
theorem d_jdk_42_method_149_code_45 : decode jdk_42_method_149_code 45 = .ok (.invokestatic 47, 3) := by decide +kernel
theorem w_43 {Z : State} {a0 : Array Value} (G : Cl Z a0) : (Jvm.Cond.methodLink "java/lang/String" 47 (⟨"java/lang/StringUTF16", "coderFromArrayLen", "([BI)B"⟩ : MethodName)).before a0 Z = true := G.1 _ (List.mem_of_getElem? (l := tables_1) (i := 43) rfl)
theorem w_45 {Z : State} {a0 : Array Value} (G : Cl Z a0) : (Jvm.Cond.code (⟨"java/lang/StringUTF16", "coderFromArrayLen", "([BI)B"⟩ : MethodName) jdk_52_method_15_code 2 (some .byte)).before a0 Z = true := G.1 _ (List.mem_of_getElem? (l := tables_1) (i := 45) rfl)
theorem pd_4 : parseMethodDescriptor "([BI)B" = some ⟨[(.array .byte), .int], some .byte⟩ := by decide +kernel
theorem w_44 {Z : State} {a0 : Array Value} (G : Cl Z a0) : (Jvm.Cond.static (⟨"java/lang/StringUTF16", "coderFromArrayLen", "([BI)B"⟩ : MethodName)).before a0 Z = true := G.1 _ (List.mem_of_getElem? (l := tables_1) (i := 44) rfl)
theorem d_jdk_42_method_149_code_48 : decode jdk_42_method_149_code 48 = .ok (.putfield 15, 3) := by decide +kernel
theorem w_31 {Z : State} {a0 : Array Value} (G : Cl Z a0) : (Jvm.Cond.fieldLink "java/lang/String" 15 "java/lang/String" "coder" "B").before a0 Z = true := G.1 _ (List.mem_of_getElem? (l := tables_1) (i := 31) rfl)
theorem w_27 {Z : State} {a0 : Array Value} (G : Cl Z a0) : (Jvm.Cond.laysFinal "java/lang/String" "java/lang/String" "coder" "B").before a0 Z = true := G.1 _ (List.mem_of_getElem? (l := tables_1) (i := 27) rfl)
theorem w_11 {Z : State} {a0 : Array Value} (G : Cl Z a0) : (Jvm.Cond.instantiable "java/lang/String" 4).before a0 Z = true := G.1 _ (List.mem_of_getElem? (l := tables_1) (i := 11) rfl)
theorem w_26 {Z : State} {a0 : Array Value} (G : Cl Z a0) : (Jvm.Cond.laysFinal "java/lang/String" "java/lang/String" "value" "[B").before a0 Z = true := G.1 _ (List.mem_of_getElem? (l := tables_1) (i := 26) rfl)
theorem d_jdk_42_method_149_code_51 : decode jdk_42_method_149_code 51 = .ok (.aload_n 0, 1) := by decide +kernel
theorem d_jdk_42_method_149_code_52 : decode jdk_42_method_149_code 52 = .ok (.aload 5, 2) := by decide +kernel
theorem d_jdk_42_method_149_code_54 : decode jdk_42_method_149_code 54 = .ok (.putfield 9, 3) := by decide +kernel
theorem w_30 {Z : State} {a0 : Array Value} (G : Cl Z a0) : (Jvm.Cond.fieldLink "java/lang/String" 9 "java/lang/String" "value" "[B").before a0 Z = true := G.1 _ (List.mem_of_getElem? (l := tables_1) (i := 30) rfl)
theorem d_jdk_42_method_149_code_57 : decode jdk_42_method_149_code 57 = .ok (.return_, 1) := by decide +kernel
set_option maxRecDepth 65536 in
set_option maxHeartbeats 40000000 in
theorem rm_initV {l : Launch} {Z : State} {a0 : Array Value} (G : Cl Z a0) (a ac : Addr) (c cc : Cell) (cs : List Int32) (A : ArrC Z cc .char (chV cs)) (hO : ObjC Z c "java/lang/String") (hC : FldC Z c "java/lang/String" "coder" "B" (.int 0)) (hV : FldC Z c "java/lang/String" "value" "[B" .null) (hl : Lat cs) (hn : cs.length < 65536) (h0 : ¬ cs.length.toInt32 = 0) :
    Met l Z EL1 (⟨"java/lang/String", "<init>", "([CIILjava/lang/Void;)V"⟩ : MethodName) jdk_42_method_149_code 6 none ({ frames := 2, cells := 1, slots := cs.length, locals := 35 } : Room) #[.ref a, .ref ac, .int (0 : Int32), .int cs.length.toInt32, .null] [(a, c), (ac, cc)] [] (fun v σ ρ => ∃ c' b cb, v = none ∧ σ = [(ac, cc)] ∧ ρ = [(a, c'), (b, cb)] ∧ StrL Z c' b cb cs) := by
  refine Met.walk G.2.1 pn_2 #[.val (.ref a), .val (.ref ac), .val (.int (0 : Int32)), .val (.int cs.length.toInt32), .val (.null), .unset] (fun m => by first | (simp [entryFrame, mkF, argsToLocals, Value.category]; done) | rfl) ?_
  intro X T0 W0
  obtain ⟨cv, Scv, hcv⟩ := G.2.2.1
  refine Go.aloadN (pc' := 1) W0 d_jdk_42_method_149_code_0 rfl rfl rfl ?_
  refine Go.objInit (pc' := 4) W0 (w_21 G) (w_22 G) (w_23 G) rfl d_jdk_42_method_149_code_1 rfl (by first | exact Nat.le_of_ble_eq_true rfl | (simp; done) | (simp; omega) | omega) (by first | exact Nat.le_of_ble_eq_true rfl | (simp; done) | (simp; omega) | omega) (fun T1 W2 => ?_)
  refine Go.iloadN (pc' := 5) W2 d_jdk_42_method_149_code_4 rfl rfl ?_
  refine Go.if_ne (pc' := 8) W2 27 d_jdk_42_method_149_code_5 (by decide) rfl (fun _ => ?_) (fun q => absurd q h0)
  refine Go.getstatic (pc' := 30) W2 (w_35 G) Via.refl Scv d_jdk_42_method_149_code_27 rfl (fun T3 W4 => ?_)
  refine Go.if_eq (pc' := 33) W4 58 d_jdk_42_method_149_code_30 (by decide) rfl (fun q => absurd q hcv) (fun _ => ?_)
  refine Go.aloadN (pc' := 34) W4 d_jdk_42_method_149_code_33 rfl rfl rfl ?_
  refine Go.iloadN (pc' := 35) W4 d_jdk_42_method_149_code_34 rfl rfl ?_
  refine Go.iloadN (pc' := 36) W4 d_jdk_42_method_149_code_35 rfl rfl ?_
  refine Go.static (pc' := 39) W4 (rm_cmp3 G ac cc cs A hl hn) (w_36 G) (w_37 G) (w_38 G) (w_39 G) (by decide) [1] [] (σf := [(a, c)]) rfl rfl [(.ref ac), (.int (0 : Int32)), (.int cs.length.toInt32)] [] rfl (lenOf pd_3 rfl) rfl rfl d_jdk_42_method_149_code_36 rfl (by first | exact Nat.le_of_ble_eq_true rfl | (simp; done) | (simp; omega) | omega) (by first | exact Nat.le_of_ble_eq_true rfl | (simp; done) | (simp; omega) | omega) (by first | exact Nat.le_of_ble_eq_true rfl | (simp; done) | (simp; omega) | omega) (by first | exact Nat.le_of_ble_eq_true rfl | (simp; done) | (simp; omega) | omega) ?_
  rintro _ _ _ T5 ⟨b, cb, rfl, rfl, rfl, B⟩ W6
  replace W6 : Wk l Z EL1 ({ frames := 2, cells := 1, slots := cs.length, locals := 35 } : Room) "java/lang/String" jdk_42_method_149_code 6 none "<init>" X [(ac, cc), (b, cb), (a, c)] [] T5 1 (0 + cs.length) := W6
  show Go Z EL1 _ _ _ X T5 39 #[.val (.ref a), .val (.ref ac), .val (.int (0 : Int32)), .val (.int cs.length.toInt32), .val (.null), .unset] [(.ref b)]
  refine Go.astore (pc' := 41) W6 #[.val (.ref a), .val (.ref ac), .val (.int (0 : Int32)), .val (.int cs.length.toInt32), .val (.null), .val (.ref b)] d_jdk_42_method_149_code_39 rfl rfl rfl ?_
  refine Go.aloadN (pc' := 42) W6 d_jdk_42_method_149_code_41 rfl rfl rfl ?_
  refine Go.aload (pc' := 44) W6 d_jdk_42_method_149_code_42 rfl rfl rfl ?_
  refine Go.iloadN (pc' := 45) W6 d_jdk_42_method_149_code_44 rfl rfl ?_
  refine Go.static (pc' := 48) W6 (rm_cod G b cb cs B) (w_43 G) (w_44 G) (w_38 G) (w_45 G) (by decide) [1] [] (σf := [(ac, cc), (a, c)]) rfl rfl [(.ref b), (.int cs.length.toInt32)] [(.ref a)] rfl (lenOf pd_4 rfl) rfl rfl d_jdk_42_method_149_code_45 rfl (by first | exact Nat.le_of_ble_eq_true rfl | (simp; done) | (simp; omega) | omega) (by first | exact Nat.le_of_ble_eq_true rfl | (simp; done) | (simp; omega) | omega) (by first | exact Nat.le_of_ble_eq_true rfl | (simp; done) | (simp; omega) | omega) (by first | exact Nat.le_of_ble_eq_true rfl | (simp; done) | (simp; omega) | omega) ?_
  rintro _ _ _ T7 ⟨rfl, rfl, rfl⟩ W8
  replace W8 : Wk l Z EL1 ({ frames := 2, cells := 1, slots := cs.length, locals := 35 } : Room) "java/lang/String" jdk_42_method_149_code 6 none "<init>" X [(b, cb), (ac, cc), (a, c)] [] T7 1 (0 + cs.length + 0) := W8
  show Go Z EL1 _ _ _ X T7 48 #[.val (.ref a), .val (.ref ac), .val (.int (0 : Int32)), .val (.int cs.length.toInt32), .val (.null), .val (.ref b)] [(.int (0 : Int32)), (.ref a)]
  refine Go.putfield (pc' := 51) W8 2 rfl (w_31 G) Via.refl hC hO (Or.inr ⟨(w_27 G), rfl, rfl⟩) (w_11 G) (ty := .byte) (v' := .int (0 : Int32)) (by decide) rfl rfl d_jdk_42_method_149_code_48 rfl (fun T9 c11 q12 W10 => ?_)
  replace W10 : Wk l Z EL1 ({ frames := 2, cells := 1, slots := cs.length, locals := 35 } : Room) "java/lang/String" jdk_42_method_149_code 6 none "<init>" X [(b, cb), (ac, cc), (a, c11)] [] T9 1 (0 + cs.length + 0) := W10
  have O13 := hO.put' q12
  have F14 := hC.put' q12
  have F15 := hV.keep' q12 (slot_ne (Or.inr (w_26 G)) (Or.inr (w_27 G)) (by decide) (t := (.array .byte)) (t' := .byte) (by decide) (by decide))
  refine Go.aloadN (pc' := 52) W10 d_jdk_42_method_149_code_51 rfl rfl rfl ?_
  refine Go.aload (pc' := 54) W10 d_jdk_42_method_149_code_52 rfl rfl rfl ?_
  refine Go.putfield (pc' := 57) W10 2 rfl (w_30 G) Via.refl F15 O13 (Or.inr ⟨(w_26 G), rfl, rfl⟩) (w_11 G) (ty := (.array .byte)) (v' := .ref b) (by decide) rfl rfl d_jdk_42_method_149_code_54 rfl (fun T16 c18 q19 W17 => ?_)
  replace W17 : Wk l Z EL1 ({ frames := 2, cells := 1, slots := cs.length, locals := 35 } : Room) "java/lang/String" jdk_42_method_149_code 6 none "<init>" X [(b, cb), (ac, cc), (a, c18)] [] T16 1 (0 + cs.length + 0) := W17
  have O20 := O13.put' q19
  have F21 := F14.keep' q19 (slot_ne (Or.inr (w_27 G)) (Or.inr (w_26 G)) (by decide) (t := .byte) (t' := (.array .byte)) (by decide) (by decide))
  have F22 := F15.put' q19
  have W23 := W17.freeze [2, 0] (σi := [(a, c18), (b, cb)]) (σf := [(ac, cc)]) rfl
  replace W23 : Wk l Z EL1 ({ frames := 2, cells := 1, slots := cs.length, locals := 35 } : Room) "java/lang/String" jdk_42_method_149_code 6 none "<init>" X [(ac, cc)] [(a, c18), (b, cb)] T16 1 (0 + cs.length + 0) := W23
  refine Go.retV W23 d_jdk_42_method_149_code_57 (by first | exact Nat.le_of_ble_eq_true rfl | (simp; done) | (simp; omega) | omega) (by first | exact Nat.le_of_ble_eq_true rfl | (simp; done) | (simp; omega) | omega) ?_
  exact ⟨_, b, cb, rfl, rfl, rfl, O20, F21, F22, B, hl⟩
theorem d_jdk_42_method_149_code_8 : decode jdk_42_method_149_code 8 = .ok (.aload_n 0, 1) := by decide +kernel
theorem d_jdk_42_method_149_code_9 : decode jdk_42_method_149_code 9 = .ok (.ldc 7, 2) := by decide +kernel
theorem w_24 {Z : State} {a0 : Array Value} (G : Cl Z a0) : (Jvm.Cond.stringLink "java/lang/String" 7 "").before a0 Z = true := G.1 _ (List.mem_of_getElem? (l := tables_1) (i := 24) rfl)
theorem d_jdk_42_method_149_code_11 : decode jdk_42_method_149_code 11 = .ok (.getfield 9, 3) := by decide +kernel
theorem d_jdk_42_method_149_code_14 : decode jdk_42_method_149_code 14 = .ok (.putfield 9, 3) := by decide +kernel
theorem d_jdk_42_method_149_code_17 : decode jdk_42_method_149_code 17 = .ok (.aload_n 0, 1) := by decide +kernel
theorem d_jdk_42_method_149_code_18 : decode jdk_42_method_149_code 18 = .ok (.ldc 7, 2) := by decide +kernel
theorem d_jdk_42_method_149_code_20 : decode jdk_42_method_149_code 20 = .ok (.getfield 15, 3) := by decide +kernel
theorem d_jdk_42_method_149_code_23 : decode jdk_42_method_149_code 23 = .ok (.putfield 15, 3) := by decide +kernel
theorem d_jdk_42_method_149_code_26 : decode jdk_42_method_149_code 26 = .ok (.return_, 1) := by decide +kernel
set_option maxRecDepth 65536 in
set_option maxHeartbeats 40000000 in
theorem rm_initV0 {l : Launch} {Z : State} {a0 : Array Value} (G : Cl Z a0) (a ac : Addr) (c cc : Cell) (A : ArrC Z cc .char []) (hO : ObjC Z c "java/lang/String") (hC : FldC Z c "java/lang/String" "coder" "B" (.int 0)) (hV : FldC Z c "java/lang/String" "value" "[B" .null) :
    Met l Z EL1 (⟨"java/lang/String", "<init>", "([CIILjava/lang/Void;)V"⟩ : MethodName) jdk_42_method_149_code 6 none ({ frames := 1, cells := 4, slots := 8, locals := 12 } : Room) #[.ref a, .ref ac, .int (0 : Int32), .int (0 : Int32), .null] [(a, c), (ac, cc)] [] (fun v σ ρ => ∃ c' b cb, v = none ∧ σ = [(ac, cc)] ∧ ρ = [(a, c'), (b, cb)] ∧ StrL Z c' b cb []) := by
  refine Met.walk G.2.1 pn_2 #[.val (.ref a), .val (.ref ac), .val (.int (0 : Int32)), .val (.int (0 : Int32)), .val (.null), .unset] (fun m => by first | (simp [entryFrame, mkF, argsToLocals, Value.category]; done) | rfl) ?_
  intro X T0 W0
  refine Go.aloadN (pc' := 1) W0 d_jdk_42_method_149_code_0 rfl rfl rfl ?_
  refine Go.objInit (pc' := 4) W0 (w_21 G) (w_22 G) (w_23 G) rfl d_jdk_42_method_149_code_1 rfl (by first | exact Nat.le_of_ble_eq_true rfl | (simp; done) | (simp; omega) | omega) (by first | exact Nat.le_of_ble_eq_true rfl | (simp; done) | (simp; omega) | omega) (fun T1 W2 => ?_)
  refine Go.iloadN (pc' := 5) W2 d_jdk_42_method_149_code_4 rfl rfl ?_
  refine Go.if_ne (pc' := 8) W2 27 d_jdk_42_method_149_code_5 (by decide) rfl (fun q => absurd (by decide) q) (fun _ => ?_)
  refine Go.aloadN (pc' := 9) W2 d_jdk_42_method_149_code_8 rfl rfl rfl ?_
  refine Go.ldcStr (pc' := 11) W2 G.2.1 (w_24 G) (strAtoms G) (by decide) (bs := []) (z := 0) (by decide +kernel) (by decide) (by decide) (by decide) d_jdk_42_method_149_code_9 rfl (m := 0) (by decide +kernel) (by decide) (by first | exact Nat.le_of_ble_eq_true rfl | (simp; done) | (simp; omega) | omega) (by first | exact Nat.le_of_ble_eq_true rfl | (simp; done) | (simp; omega) | omega) (fun T3 a5 b6 c7 c8 W4 O9 F10 F11 A12 => ?_)
  replace W4 : Wk l Z EL1 ({ frames := 1, cells := 4, slots := 8, locals := 12 } : Room) "java/lang/String" jdk_42_method_149_code 6 none "<init>" X [(a, c), (ac, cc)] [(a5, c7), (b6, c8)] T3 2 (4) := W4
  refine Go.getfield (pc' := 14) W4 (Or.inr (Or.inl (List.mem_of_getElem? (i := 0) rfl))) (w_30 G) Via.refl F11 d_jdk_42_method_149_code_11 rfl (fun T13 W14 => ?_)
  refine Go.putfield (pc' := 17) W14 0 rfl (w_30 G) Via.refl hV hO (Or.inr ⟨(w_26 G), rfl, rfl⟩) (w_11 G) (ty := (.array .byte)) (v' := .ref b6) (by decide) rfl rfl d_jdk_42_method_149_code_14 rfl (fun T15 c17 q18 W16 => ?_)
  replace W16 : Wk l Z EL1 ({ frames := 1, cells := 4, slots := 8, locals := 12 } : Room) "java/lang/String" jdk_42_method_149_code 6 none "<init>" X [(a, c17), (ac, cc)] [(a5, c7), (b6, c8)] T15 2 (4) := W16
  have O19 := hO.put' q18
  have F20 := hC.keep' q18 (slot_ne (Or.inr (w_27 G)) (Or.inr (w_26 G)) (by decide) (t := .byte) (t' := (.array .byte)) (by decide) (by decide))
  have F21 := hV.put' q18
  refine Go.aloadN (pc' := 18) W16 d_jdk_42_method_149_code_17 rfl rfl rfl ?_
  refine Go.ldcStr (pc' := 20) W16 G.2.1 (w_24 G) (strAtoms G) (by decide) (bs := []) (z := 0) (by decide +kernel) (by decide) (by decide) (by decide) d_jdk_42_method_149_code_18 rfl (m := 0) (by decide +kernel) (by decide) (by first | exact Nat.le_of_ble_eq_true rfl | (simp; done) | (simp; omega) | omega) (by first | exact Nat.le_of_ble_eq_true rfl | (simp; done) | (simp; omega) | omega) (fun T22 a24 b25 c26 c27 W23 O28 F29 F30 A31 => ?_)
  replace W23 : Wk l Z EL1 ({ frames := 1, cells := 4, slots := 8, locals := 12 } : Room) "java/lang/String" jdk_42_method_149_code 6 none "<init>" X [(a, c17), (ac, cc)] [(a24, c26), (b25, c27), (a5, c7), (b6, c8)] T22 4 (8) := W23
  refine Go.getfield (pc' := 23) W23 (Or.inr (Or.inl (List.mem_of_getElem? (i := 0) rfl))) (w_31 G) Via.refl F29 d_jdk_42_method_149_code_20 rfl (fun T32 W33 => ?_)
  refine Go.putfield (pc' := 26) W33 0 rfl (w_31 G) Via.refl F20 O19 (Or.inr ⟨(w_27 G), rfl, rfl⟩) (w_11 G) (ty := .byte) (v' := .int (0 : Int32)) (by decide) rfl rfl d_jdk_42_method_149_code_23 rfl (fun T34 c36 q37 W35 => ?_)
  replace W35 : Wk l Z EL1 ({ frames := 1, cells := 4, slots := 8, locals := 12 } : Room) "java/lang/String" jdk_42_method_149_code 6 none "<init>" X [(a, c36), (ac, cc)] [(a24, c26), (b25, c27), (a5, c7), (b6, c8)] T34 4 (8) := W35
  have O38 := O19.put' q37
  have F39 := F20.put' q37
  have F40 := F21.keep' q37 (slot_ne (Or.inr (w_26 G)) (Or.inr (w_27 G)) (by decide) (t := (.array .byte)) (t' := .byte) (by decide) (by decide))
  have W41 := W35.freeze [0] (σi := [(a, c36)]) (σf := [(ac, cc)]) rfl
  replace W41 : Wk l Z EL1 ({ frames := 1, cells := 4, slots := 8, locals := 12 } : Room) "java/lang/String" jdk_42_method_149_code 6 none "<init>" X [(ac, cc)] [(a, c36), (a24, c26), (b25, c27), (a5, c7), (b6, c8)] T34 4 (8) := W41
  have W42 := W41.keepRo [0, 4] (ρ' := [(a, c36), (b6, c8)]) rfl
  replace W42 : Wk l Z EL1 ({ frames := 1, cells := 4, slots := 8, locals := 12 } : Room) "java/lang/String" jdk_42_method_149_code 6 none "<init>" X [(ac, cc)] [(a, c36), (b6, c8)] T34 4 (8) := W42
  refine Go.retV W42 d_jdk_42_method_149_code_26 (by first | exact Nat.le_of_ble_eq_true rfl | (simp; done) | (simp; omega) | omega) (by first | exact Nat.le_of_ble_eq_true rfl | (simp; done) | (simp; omega) | omega) ?_
  exact ⟨_, b6, c8, rfl, rfl, rfl, O38, F39, F40, A12, Lat.nil⟩
theorem d_jdk_42_method_3_code_0 : decode jdk_42_method_3_code 0 = .ok (.aload_n 0, 1) := by decide +kernel
theorem d_jdk_42_method_3_code_1 : decode jdk_42_method_3_code 1 = .ok (.aload_n 1, 1) := by decide +kernel
theorem d_jdk_42_method_3_code_2 : decode jdk_42_method_3_code 2 = .ok (.iconst 0, 1) := by decide +kernel
theorem d_jdk_42_method_3_code_3 : decode jdk_42_method_3_code 3 = .ok (.aload_n 1, 1) := by decide +kernel
theorem d_jdk_42_method_3_code_4 : decode jdk_42_method_3_code 4 = .ok (.arraylength, 1) := by decide +kernel
theorem d_jdk_42_method_3_code_5 : decode jdk_42_method_3_code 5 = .ok (.aconst_null, 1) := by decide +kernel
theorem d_jdk_42_method_3_code_6 : decode jdk_42_method_3_code 6 = .ok (.invokespecial 27, 3) := by decide +kernel
theorem w_17 {Z : State} {a0 : Array Value} (G : Cl Z a0) : (Jvm.Cond.methodLink "java/lang/String" 27 (⟨"java/lang/String", "<init>", "([CIILjava/lang/Void;)V"⟩ : MethodName)).before a0 Z = true := G.1 _ (List.mem_of_getElem? (l := tables_1) (i := 17) rfl)
theorem w_12 {Z : State} {a0 : Array Value} (G : Cl Z a0) : (Jvm.Cond.initialized "java/lang/String").before a0 Z = true := G.1 _ (List.mem_of_getElem? (l := tables_1) (i := 12) rfl)
theorem w_20 {Z : State} {a0 : Array Value} (G : Cl Z a0) : (Jvm.Cond.code (⟨"java/lang/String", "<init>", "([CIILjava/lang/Void;)V"⟩ : MethodName) jdk_42_method_149_code 6 none).before a0 Z = true := G.1 _ (List.mem_of_getElem? (l := tables_1) (i := 20) rfl)
theorem pd_5 : parseMethodDescriptor "([CIILjava/lang/Void;)V" = some ⟨[(.array .char), .int, .int, (.object "java/lang/Void")], none⟩ := by decide +kernel
theorem w_18 {Z : State} {a0 : Array Value} (G : Cl Z a0) : (Jvm.Cond.instanceMethod (⟨"java/lang/String", "<init>", "([CIILjava/lang/Void;)V"⟩ : MethodName)).before a0 Z = true := G.1 _ (List.mem_of_getElem? (l := tables_1) (i := 18) rfl)
theorem d_jdk_42_method_3_code_9 : decode jdk_42_method_3_code 9 = .ok (.return_, 1) := by decide +kernel
set_option maxRecDepth 65536 in
set_option maxHeartbeats 40000000 in
theorem rm_initC0 {l : Launch} {Z : State} {a0 : Array Value} (G : Cl Z a0) (a ac : Addr) (c cc : Cell) (A : ArrC Z cc .char []) (hO : ObjC Z c "java/lang/String") (hC : FldC Z c "java/lang/String" "coder" "B" (.int 0)) (hV : FldC Z c "java/lang/String" "value" "[B" .null) :
    Met l Z EL1 (⟨"java/lang/String", "<init>", "([C)V"⟩ : MethodName) jdk_42_method_3_code 2 none ({ frames := 2, cells := 4, slots := 8, locals := 29 } : Room) #[.ref a, .ref ac] [(a, c), (ac, cc)] [] (fun v σ ρ => ∃ c' b cb, v = none ∧ σ = [(ac, cc)] ∧ ρ = [(a, c'), (b, cb)] ∧ StrL Z c' b cb []) := by
  refine Met.walk G.2.1 pn_2 #[.val (.ref a), .val (.ref ac)] (fun m => by first | (simp [entryFrame, mkF, argsToLocals, Value.category]; done) | rfl) ?_
  intro X T0 W0
  refine Go.aloadN (pc' := 1) W0 d_jdk_42_method_3_code_0 rfl rfl rfl ?_
  refine Go.aloadN (pc' := 2) W0 d_jdk_42_method_3_code_1 rfl rfl rfl ?_
  refine Go.iconst (pc' := 3) W0 (0 : Int32) d_jdk_42_method_3_code_2 (by decide) rfl ?_
  refine Go.aloadN (pc' := 4) W0 d_jdk_42_method_3_code_3 rfl rfl rfl ?_
  refine Go.arrlen (pc' := 5) W0 (Or.inl (List.mem_of_getElem? (i := 1) rfl)) A (0 : Int32) rfl d_jdk_42_method_3_code_4 rfl ?_
  refine Go.aconstNull (pc' := 6) W0 d_jdk_42_method_3_code_5 rfl ?_
  refine Go.special (pc' := 9) W0 (a := a) (rm_initV0 G a ac c cc A hO hC hV) rfl (w_17 G) (w_18 G) (w_12 G) (w_20 G) (by decide) [0, 0] [] (σf := []) rfl rfl [(.ref ac), (.int (0 : Int32)), (.int (0 : Int32)), (.null)] [] rfl (lenOf pd_5 rfl) rfl rfl d_jdk_42_method_3_code_6 rfl (by first | exact Nat.le_of_ble_eq_true rfl | (simp; done) | (simp; omega) | omega) (by first | exact Nat.le_of_ble_eq_true rfl | (simp; done) | (simp; omega) | omega) (by first | exact Nat.le_of_ble_eq_true rfl | (simp; done) | (simp; omega) | omega) (by first | exact Nat.le_of_ble_eq_true rfl | (simp; done) | (simp; omega) | omega) ?_
  rintro _ _ _ T1 ⟨c', b, cb, rfl, rfl, rfl, S⟩ W2
  replace W2 : Wk l Z EL1 ({ frames := 2, cells := 4, slots := 8, locals := 29 } : Room) "java/lang/String" jdk_42_method_3_code 2 none "<init>" X [(ac, cc)] [(a, c'), (b, cb)] T1 4 (8) := W2
  show Go Z EL1 _ _ _ X T1 9 #[.val (.ref a), .val (.ref ac)] []
  refine Go.retV W2 d_jdk_42_method_3_code_9 (by first | exact Nat.le_of_ble_eq_true rfl | (simp; done) | (simp; omega) | omega) (by first | exact Nat.le_of_ble_eq_true rfl | (simp; done) | (simp; omega) | omega) ?_
  exact ⟨c', b, cb, rfl, rfl, rfl, S⟩
set_option maxRecDepth 65536 in
set_option maxHeartbeats 40000000 in
theorem rm_initC {l : Launch} {Z : State} {a0 : Array Value} (G : Cl Z a0) (a ac : Addr) (c cc : Cell) (cs : List Int32) (A : ArrC Z cc .char (chV cs)) (hO : ObjC Z c "java/lang/String") (hC : FldC Z c "java/lang/String" "coder" "B" (.int 0)) (hV : FldC Z c "java/lang/String" "value" "[B" .null) (hl : Lat cs) (hn : cs.length < 65536) (h0 : ¬ cs.length.toInt32 = 0) :
    Met l Z EL1 (⟨"java/lang/String", "<init>", "([C)V"⟩ : MethodName) jdk_42_method_3_code 2 none ({ frames := 3, cells := 1, slots := cs.length, locals := 52 } : Room) #[.ref a, .ref ac] [(a, c), (ac, cc)] [] (fun v σ ρ => ∃ c' b cb, v = none ∧ σ = [(ac, cc)] ∧ ρ = [(a, c'), (b, cb)] ∧ StrL Z c' b cb cs) := by
  refine Met.walk G.2.1 pn_2 #[.val (.ref a), .val (.ref ac)] (fun m => by first | (simp [entryFrame, mkF, argsToLocals, Value.category]; done) | rfl) ?_
  intro X T0 W0
  refine Go.aloadN (pc' := 1) W0 d_jdk_42_method_3_code_0 rfl rfl rfl ?_
  refine Go.aloadN (pc' := 2) W0 d_jdk_42_method_3_code_1 rfl rfl rfl ?_
  refine Go.iconst (pc' := 3) W0 (0 : Int32) d_jdk_42_method_3_code_2 (by decide) rfl ?_
  refine Go.aloadN (pc' := 4) W0 d_jdk_42_method_3_code_3 rfl rfl rfl ?_
  refine Go.arrlen (pc' := 5) W0 (Or.inl (List.mem_of_getElem? (i := 1) rfl)) A cs.length.toInt32 (by rw [chV, List.length_map]) d_jdk_42_method_3_code_4 rfl ?_
  refine Go.aconstNull (pc' := 6) W0 d_jdk_42_method_3_code_5 rfl ?_
  refine Go.special (pc' := 9) W0 (a := a) (rm_initV G a ac c cc cs A hO hC hV hl hn h0) rfl (w_17 G) (w_18 G) (w_12 G) (w_20 G) (by decide) [0, 0] [] (σf := []) rfl rfl [(.ref ac), (.int (0 : Int32)), (.int cs.length.toInt32), (.null)] [] rfl (lenOf pd_5 rfl) rfl rfl d_jdk_42_method_3_code_6 rfl (by first | exact Nat.le_of_ble_eq_true rfl | (simp; done) | (simp; omega) | omega) (by first | exact Nat.le_of_ble_eq_true rfl | (simp; done) | (simp; omega) | omega) (by first | exact Nat.le_of_ble_eq_true rfl | (simp; done) | (simp; omega) | omega) (by first | exact Nat.le_of_ble_eq_true rfl | (simp; done) | (simp; omega) | omega) ?_
  rintro _ _ _ T1 ⟨c', b, cb, rfl, rfl, rfl, S⟩ W2
  replace W2 : Wk l Z EL1 ({ frames := 3, cells := 1, slots := cs.length, locals := 52 } : Room) "java/lang/String" jdk_42_method_3_code 2 none "<init>" X [(ac, cc)] [(a, c'), (b, cb)] T1 1 (0 + cs.length) := W2
  show Go Z EL1 _ _ _ X T1 9 #[.val (.ref a), .val (.ref ac)] []
  refine Go.retV W2 d_jdk_42_method_3_code_9 (by first | exact Nat.le_of_ble_eq_true rfl | (simp; done) | (simp; omega) | omega) (by first | exact Nat.le_of_ble_eq_true rfl | (simp; done) | (simp; omega) | omega) ?_
  exact ⟨c', b, cb, rfl, rfl, rfl, S⟩
theorem d_jdk_43_method_13_code_0 : decode jdk_43_method_13_code 0 = .ok (.aload_n 0, 1) := by decide +kernel
theorem d_jdk_43_method_13_code_1 : decode jdk_43_method_13_code 1 = .ok (.arraylength, 1) := by decide +kernel
theorem d_jdk_43_method_13_code_2 : decode jdk_43_method_13_code 2 = .ok (.aload_n 1, 1) := by decide +kernel
theorem d_jdk_43_method_13_code_3 : decode jdk_43_method_13_code 3 = .ok (.arraylength, 1) := by decide +kernel
theorem d_jdk_43_method_13_code_4 : decode jdk_43_method_13_code 4 = .ok (.if_icmp .ne 30, 3) := by decide +kernel
theorem d_jdk_43_method_13_code_7 : decode jdk_43_method_13_code 7 = .ok (.iconst 0, 1) := by decide +kernel
theorem d_jdk_43_method_13_code_8 : decode jdk_43_method_13_code 8 = .ok (.istore_n 2, 1) := by decide +kernel
theorem d_jdk_43_method_13_code_9 : decode jdk_43_method_13_code 9 = .ok (.iload_n 2, 1) := by decide +kernel
theorem d_jdk_43_method_13_code_10 : decode jdk_43_method_13_code 10 = .ok (.aload_n 0, 1) := by decide +kernel
theorem d_jdk_43_method_13_code_11 : decode jdk_43_method_13_code 11 = .ok (.arraylength, 1) := by decide +kernel
theorem d_jdk_43_method_13_code_12 : decode jdk_43_method_13_code 12 = .ok (.if_icmp .ge 20, 3) := by decide +kernel
theorem d_jdk_43_method_13_code_15 : decode jdk_43_method_13_code 15 = .ok (.aload_n 0, 1) := by decide +kernel
theorem d_jdk_43_method_13_code_16 : decode jdk_43_method_13_code 16 = .ok (.iload_n 2, 1) := by decide +kernel
theorem d_jdk_43_method_13_code_17 : decode jdk_43_method_13_code 17 = .ok (.baload, 1) := by decide +kernel
theorem d_jdk_43_method_13_code_18 : decode jdk_43_method_13_code 18 = .ok (.aload_n 1, 1) := by decide +kernel
theorem d_jdk_43_method_13_code_19 : decode jdk_43_method_13_code 19 = .ok (.iload_n 2, 1) := by decide +kernel
theorem d_jdk_43_method_13_code_20 : decode jdk_43_method_13_code 20 = .ok (.baload, 1) := by decide +kernel
theorem d_jdk_43_method_13_code_21 : decode jdk_43_method_13_code 21 = .ok (.if_icmp .eq 5, 3) := by decide +kernel
theorem d_jdk_43_method_13_code_24 : decode jdk_43_method_13_code 24 = .ok (.iconst 0, 1) := by decide +kernel
theorem d_jdk_43_method_13_code_25 : decode jdk_43_method_13_code 25 = .ok (.ireturn, 1) := by decide +kernel
theorem d_jdk_43_method_13_code_26 : decode jdk_43_method_13_code 26 = .ok (.iinc 2 1, 3) := by decide +kernel
theorem d_jdk_43_method_13_code_29 : decode jdk_43_method_13_code 29 = .ok (.goto (-20), 3) := by decide +kernel
theorem d_jdk_43_method_13_code_32 : decode jdk_43_method_13_code 32 = .ok (.iconst 1, 1) := by decide +kernel
theorem d_jdk_43_method_13_code_33 : decode jdk_43_method_13_code 33 = .ok (.ireturn, 1) := by decide +kernel
theorem d_jdk_43_method_13_code_34 : decode jdk_43_method_13_code 34 = .ok (.iconst 0, 1) := by decide +kernel
theorem d_jdk_43_method_13_code_35 : decode jdk_43_method_13_code 35 = .ok (.ireturn, 1) := by decide +kernel
theorem lp_leq {l : Launch} {Z : State} {X : Ctx} {b b' : Addr} {cb cb' : Cell} {xs ys : List Int32} (A : ArrC Z cb .byte (chV xs)) (B : ArrC Z cb' .byte (chV ys)) (hn : xs.length < 2147483648) (he : xs.length = ys.length) :
    ∀ (j i : Nat), i + j = xs.length → xs.take i = ys.take i → ∀ (T : State), Wk l Z EL1 ({ frames := 0, cells := 0, slots := 0, locals := 0 } : Room) "java/lang/StringLatin1" jdk_43_method_13_code 3 (some .boolean) "equals" X [] [(b, cb), (b', cb')] T 0 0 → Go Z EL1 0 0 (fun v σ ρ => v = some (.int (if xs = ys then 1 else 0)) ∧ σ = [] ∧ ρ = [(b, cb), (b', cb')]) X T 9 #[.val (.ref b), .val (.ref b'), .val (.int i.toInt32)] []
  | 0, i, hij, ht, T, W => by
    obtain rfl : i = xs.length := by omega
    have hxy : xs = ys := by rw [List.take_length, he, List.take_length] at ht; exact ht
    refine Go.iloadN (pc' := 10) W d_jdk_43_method_13_code_9 rfl rfl ?_
    refine Go.aloadN (pc' := 11) W d_jdk_43_method_13_code_10 rfl rfl rfl ?_
    refine Go.arrlen (pc' := 12) W (Or.inr (Or.inl (List.mem_of_getElem? (i := 0) rfl))) A xs.length.toInt32 (by rw [chV, List.length_map]) d_jdk_43_method_13_code_11 rfl ?_
    refine Go.icmp_ge (pc' := 15) W 32 d_jdk_43_method_13_code_12 (by decide) rfl (fun _ => ?_) (fun q => absurd q (by rw [i32_lt hn hn]; omega))
    refine Go.iconst (pc' := 33) W (1 : Int32) d_jdk_43_method_13_code_32 (by decide) rfl ?_
    exact Go.nret (z' := 1) W (by simp) (by decide) d_jdk_43_method_13_code_33 (by decide) (by decide) ⟨by rw [if_pos hxy], rfl, rfl⟩
  | j + 1, i, hij, ht, T, W => by
    have hi : i < xs.length := by omega
    obtain ⟨x, hx⟩ : ∃ x, xs[i]? = some x := ⟨_, List.getElem?_eq_getElem hi⟩
    obtain ⟨y, hy⟩ : ∃ y, ys[i]? = some y := ⟨_, List.getElem?_eq_getElem (by omega)⟩
    refine Go.iloadN (pc' := 10) W d_jdk_43_method_13_code_9 rfl rfl ?_
    refine Go.aloadN (pc' := 11) W d_jdk_43_method_13_code_10 rfl rfl rfl ?_
    refine Go.arrlen (pc' := 12) W (Or.inr (Or.inl (List.mem_of_getElem? (i := 0) rfl))) A xs.length.toInt32 (by rw [chV, List.length_map]) d_jdk_43_method_13_code_11 rfl ?_
    refine Go.icmp_ge (pc' := 15) W 32 d_jdk_43_method_13_code_12 (by decide) rfl (fun q => absurd ((i32_lt (by omega) hn).mpr hi) q) (fun _ => ?_)
    refine Go.aloadN (pc' := 16) W d_jdk_43_method_13_code_15 rfl rfl rfl ?_
    refine Go.iloadN (pc' := 17) W d_jdk_43_method_13_code_16 rfl rfl ?_
    refine Go.baload (pc' := 18) W (Or.inr (Or.inl (List.mem_of_getElem? (i := 0) rfl))) A i (i32_nn (by omega)) (i32_clamp (by omega)) (v := .int x) (by rw [chV, List.getElem?_map, hx]; rfl) d_jdk_43_method_13_code_17 rfl ?_
    refine Go.aloadN (pc' := 19) W d_jdk_43_method_13_code_18 rfl rfl rfl ?_
    refine Go.iloadN (pc' := 20) W d_jdk_43_method_13_code_19 rfl rfl ?_
    refine Go.baload (pc' := 21) W (Or.inr (Or.inl (List.mem_of_getElem? (i := 1) rfl))) B i (i32_nn (by omega)) (i32_clamp (by omega)) (v := .int y) (by rw [chV, List.getElem?_map, hy]; rfl) d_jdk_43_method_13_code_20 rfl ?_
    refine Go.icmp_eq (pc' := 24) W 26 d_jdk_43_method_13_code_21 (by decide) rfl (fun (c : x = y) => ?_) (fun (c : ¬ x = y) => ?_)
    · refine Go.iinc (pc' := 29) W (1 : Int32) #[.val (.ref b), .val (.ref b'), .val (.int (i.toInt32 + 1))] d_jdk_43_method_13_code_26 rfl (by decide) rfl rfl ?_
      refine Go.goto W 9 d_jdk_43_method_13_code_29 (by decide) ?_
      rw [i32_succ (by omega)]
      exact lp_leq A B hn he j (i + 1) (by omega) (by rw [take_succ' hx, take_succ' hy, ht, c]) T W
    · refine Go.iconst (pc' := 25) W (0 : Int32) d_jdk_43_method_13_code_24 (by decide) rfl ?_
      refine Go.nret (z' := 0) W (by simp) (by decide) d_jdk_43_method_13_code_25 (by decide) (by decide) ⟨?_, rfl, rfl⟩
      rw [if_neg]
      rintro rfl
      exact c (Option.some.inj (hx.symm.trans hy))
theorem pn_6 : plainName "java/lang/StringLatin1" = true := by first | (simp [plainName, overriddenIn]; done) | decide +kernel
theorem rm_leq {l : Launch} {Z : State} {a0 : Array Value} (G : Cl Z a0) (b b' : Addr) (cb cb' : Cell) (xs ys : List Int32) (A : ArrC Z cb .byte (chV xs)) (B : ArrC Z cb' .byte (chV ys)) :
    Met l Z EL1 (⟨"java/lang/StringLatin1", "equals", "([B[B)Z"⟩ : MethodName) jdk_43_method_13_code 3 (some .boolean) ({ frames := 0, cells := 0, slots := 0, locals := 0 } : Room) #[.ref b, .ref b'] [] [(b, cb), (b', cb')] (fun v σ ρ => v = some (.int (if xs = ys then 1 else 0)) ∧ σ = [] ∧ ρ = [(b, cb), (b', cb')]) := by
  have hn : xs.length < 2147483648 := by have := A.2.2.2.2; rwa [chV, List.length_map] at this
  have hn' : ys.length < 2147483648 := by have := B.2.2.2.2; rwa [chV, List.length_map] at this
  refine Met.walk G.2.1 pn_6 #[.val (.ref b), .val (.ref b'), .unset] (fun m => by first | (simp [entryFrame, mkF, argsToLocals, Value.category]; done) | rfl) ?_
  intro X T W
  refine Go.aloadN (pc' := 1) W d_jdk_43_method_13_code_0 rfl rfl rfl ?_
  refine Go.arrlen (pc' := 2) W (Or.inr (Or.inl (List.mem_of_getElem? (i := 0) rfl))) A xs.length.toInt32 (by rw [chV, List.length_map]) d_jdk_43_method_13_code_1 rfl ?_
  refine Go.aloadN (pc' := 3) W d_jdk_43_method_13_code_2 rfl rfl rfl ?_
  refine Go.arrlen (pc' := 4) W (Or.inr (Or.inl (List.mem_of_getElem? (i := 1) rfl))) B ys.length.toInt32 (by rw [chV, List.length_map]) d_jdk_43_method_13_code_3 rfl ?_
  refine Go.icmp_ne (pc' := 7) W 34 d_jdk_43_method_13_code_4 (by decide) rfl (fun (c : ¬ xs.length.toInt32 = ys.length.toInt32) => ?_) (fun (c : xs.length.toInt32 = ys.length.toInt32) => ?_)
  · refine Go.iconst (pc' := 35) W (0 : Int32) d_jdk_43_method_13_code_34 (by decide) rfl ?_
    refine Go.nret (z' := 0) W (by simp) (by decide) d_jdk_43_method_13_code_35 (by decide) (by decide) ⟨?_, rfl, rfl⟩
    rw [if_neg]
    rintro rfl
    exact c rfl
  · refine Go.iconst (pc' := 8) W (0 : Int32) d_jdk_43_method_13_code_7 (by decide) rfl ?_
    refine Go.istoreN (pc' := 9) W #[.val (.ref b), .val (.ref b'), .val (.int 0)] d_jdk_43_method_13_code_8 rfl rfl ?_
    exact lp_leq A B hn ((i32_inj hn hn').mp c) xs.length 0 (by omega) rfl T W
theorem d_jdk_42_method_66_code_0 : decode jdk_42_method_66_code 0 = .ok (.aload_n 0, 1) := by decide +kernel
theorem d_jdk_42_method_66_code_1 : decode jdk_42_method_66_code 1 = .ok (.aload_n 1, 1) := by decide +kernel
theorem d_jdk_42_method_66_code_2 : decode jdk_42_method_66_code 2 = .ok (.if_acmp .ne 5, 3) := by decide +kernel
theorem d_jdk_42_method_66_code_5 : decode jdk_42_method_66_code 5 = .ok (.iconst 1, 1) := by decide +kernel
theorem d_jdk_42_method_66_code_6 : decode jdk_42_method_66_code 6 = .ok (.ireturn, 1) := by decide +kernel
theorem d_jdk_42_method_66_code_7 : decode jdk_42_method_66_code 7 = .ok (.aload_n 1, 1) := by decide +kernel
theorem d_jdk_42_method_66_code_8 : decode jdk_42_method_66_code 8 = .ok (.instanceof 10, 3) := by decide +kernel
theorem w_72 {Z : State} {a0 : Array Value} (G : Cl Z a0) : (Jvm.Cond.classLink "java/lang/String" 10 "java/lang/String").before a0 Z = true := G.1 _ (List.mem_of_getElem? (l := tables_1) (i := 72) rfl)
theorem d_jdk_42_method_66_code_11 : decode jdk_42_method_66_code 11 = .ok (.ifCond .eq 43, 3) := by decide +kernel
theorem d_jdk_42_method_66_code_14 : decode jdk_42_method_66_code 14 = .ok (.aload_n 1, 1) := by decide +kernel
theorem d_jdk_42_method_66_code_15 : decode jdk_42_method_66_code 15 = .ok (.checkcast 10, 3) := by decide +kernel
theorem d_jdk_42_method_66_code_18 : decode jdk_42_method_66_code 18 = .ok (.astore_n 2, 1) := by decide +kernel
theorem d_jdk_42_method_66_code_19 : decode jdk_42_method_66_code 19 = .ok (.getstatic 38, 3) := by decide +kernel
theorem d_jdk_42_method_66_code_22 : decode jdk_42_method_66_code 22 = .ok (.ifCond .eq 14, 3) := by decide +kernel
theorem d_jdk_42_method_66_code_25 : decode jdk_42_method_66_code 25 = .ok (.aload_n 0, 1) := by decide +kernel
theorem d_jdk_42_method_66_code_26 : decode jdk_42_method_66_code 26 = .ok (.getfield 15, 3) := by decide +kernel
theorem d_jdk_42_method_66_code_29 : decode jdk_42_method_66_code 29 = .ok (.aload_n 2, 1) := by decide +kernel
theorem d_jdk_42_method_66_code_30 : decode jdk_42_method_66_code 30 = .ok (.getfield 15, 3) := by decide +kernel
theorem d_jdk_42_method_66_code_33 : decode jdk_42_method_66_code 33 = .ok (.if_icmp .ne 21, 3) := by decide +kernel
theorem d_jdk_42_method_66_code_36 : decode jdk_42_method_66_code 36 = .ok (.aload_n 0, 1) := by decide +kernel
theorem d_jdk_42_method_66_code_37 : decode jdk_42_method_66_code 37 = .ok (.getfield 9, 3) := by decide +kernel
theorem d_jdk_42_method_66_code_40 : decode jdk_42_method_66_code 40 = .ok (.aload_n 2, 1) := by decide +kernel
theorem d_jdk_42_method_66_code_41 : decode jdk_42_method_66_code 41 = .ok (.getfield 9, 3) := by decide +kernel
theorem d_jdk_42_method_66_code_44 : decode jdk_42_method_66_code 44 = .ok (.invokestatic 541, 3) := by decide +kernel
theorem w_73 {Z : State} {a0 : Array Value} (G : Cl Z a0) : (Jvm.Cond.methodLink "java/lang/String" 541 (⟨"java/lang/StringLatin1", "equals", "([B[B)Z"⟩ : MethodName)).before a0 Z = true := G.1 _ (List.mem_of_getElem? (l := tables_1) (i := 73) rfl)
theorem w_75 {Z : State} {a0 : Array Value} (G : Cl Z a0) : (Jvm.Cond.initialized "java/lang/StringLatin1").before a0 Z = true := G.1 _ (List.mem_of_getElem? (l := tables_1) (i := 75) rfl)
theorem w_76 {Z : State} {a0 : Array Value} (G : Cl Z a0) : (Jvm.Cond.code (⟨"java/lang/StringLatin1", "equals", "([B[B)Z"⟩ : MethodName) jdk_43_method_13_code 3 (some .boolean)).before a0 Z = true := G.1 _ (List.mem_of_getElem? (l := tables_1) (i := 76) rfl)
theorem pd_7 : parseMethodDescriptor "([B[B)Z" = some ⟨[(.array .byte), (.array .byte)], some .boolean⟩ := by decide +kernel
theorem w_74 {Z : State} {a0 : Array Value} (G : Cl Z a0) : (Jvm.Cond.static (⟨"java/lang/StringLatin1", "equals", "([B[B)Z"⟩ : MethodName)).before a0 Z = true := G.1 _ (List.mem_of_getElem? (l := tables_1) (i := 74) rfl)
theorem d_jdk_42_method_66_code_47 : decode jdk_42_method_66_code 47 = .ok (.ifCond .eq 7, 3) := by decide +kernel
theorem d_jdk_42_method_66_code_54 : decode jdk_42_method_66_code 54 = .ok (.iconst 0, 1) := by decide +kernel
theorem d_jdk_42_method_66_code_55 : decode jdk_42_method_66_code 55 = .ok (.ireturn, 1) := by decide +kernel
theorem d_jdk_42_method_66_code_50 : decode jdk_42_method_66_code 50 = .ok (.iconst 1, 1) := by decide +kernel
theorem d_jdk_42_method_66_code_51 : decode jdk_42_method_66_code 51 = .ok (.goto 4, 3) := by decide +kernel
set_option maxRecDepth 65536 in
set_option maxHeartbeats 40000000 in
theorem rm_eqs {l : Launch} {Z : State} {a0 : Array Value} (G : Cl Z a0) (a a' b b' : Addr) (c c' cb cb' : Cell) (cs ds : List Int32) (S : StrL Z c b cb cs) (S' : StrL Z c' b' cb' ds) :
    Met l Z EL1 (⟨"java/lang/String", "equals", "(Ljava/lang/Object;)Z"⟩ : MethodName) jdk_42_method_66_code 3 (some .boolean) ({ frames := 1, cells := 0, slots := 0, locals := 14 } : Room) #[.ref a, .ref a'] [] [(a, c), (b, cb), (a', c'), (b', cb')] (fun v σ ρ => v = some (.int (if cs = ds then 1 else 0)) ∧ σ = [] ∧ ρ = []) := by
  refine Met.walk G.2.1 pn_2 #[.val (.ref a), .val (.ref a'), .unset] (fun m => by first | (simp [entryFrame, mkF, argsToLocals, Value.category]; done) | rfl) ?_
  intro X T0 W0
  obtain ⟨cv, Scv, hcv⟩ := G.2.2.1
  refine Go.aloadN (pc' := 1) W0 d_jdk_42_method_66_code_0 rfl rfl rfl ?_
  refine Go.aloadN (pc' := 2) W0 d_jdk_42_method_66_code_1 rfl rfl rfl ?_
  refine Go.acmp_ne (pc' := 5) W0 7 rfl rfl d_jdk_42_method_66_code_2 (by decide) rfl (fun _ => ?_) (fun hq => ?_)
  rotate_left
  · refine Go.iconst (pc' := 6) W0 (1 : Int32) d_jdk_42_method_66_code_5 (by decide) rfl ?_
    have W1 := W0.keepRo [] (ρ' := []) rfl
    replace W1 : Wk l Z EL1 ({ frames := 1, cells := 0, slots := 0, locals := 14 } : Room) "java/lang/String" jdk_42_method_66_code 3 (some .boolean) "equals" X [] [] T0 0 (0) := W1
    refine Go.nret (z' := (1 : Int32)) W1 (by simp) (by decide) d_jdk_42_method_66_code_6 (by first | exact Nat.le_of_ble_eq_true rfl | (simp; done) | (simp; omega) | omega) (by first | exact Nat.le_of_ble_eq_true rfl | (simp; done) | (simp; omega) | omega) ?_
    exact ⟨by rw [if_pos (StrL.uniq S S' (W0.cell (q := (a, c)) (Or.inr (Or.inl (List.mem_of_getElem? (i := 0) rfl)))) (by have e := Value.ref.inj hq; rw [e]; exact W0.cell (q := (a', c')) (Or.inr (Or.inl (List.mem_of_getElem? (i := 2) rfl)))) (W0.cell (q := (b, cb)) (Or.inr (Or.inl (List.mem_of_getElem? (i := 1) rfl)))) (W0.cell (q := (b', cb')) (Or.inr (Or.inl (List.mem_of_getElem? (i := 3) rfl)))))], rfl, rfl⟩
  refine Go.aloadN (pc' := 8) W0 d_jdk_42_method_66_code_7 rfl rfl rfl ?_
  refine Go.instY (pc' := 11) W0 (Or.inr (Or.inl (List.mem_of_getElem? (i := 2) rfl))) S'.1 (w_72 G) d_jdk_42_method_66_code_8 rfl (fun T2 W3 => ?_)
  refine Go.if_eq (pc' := 14) W3 54 d_jdk_42_method_66_code_11 (by decide) rfl (fun q => absurd q (by decide)) (fun _ => ?_)
  refine Go.aloadN (pc' := 15) W3 d_jdk_42_method_66_code_14 rfl rfl rfl ?_
  refine Go.castY (pc' := 18) W3 (Or.inr (Or.inl (List.mem_of_getElem? (i := 2) rfl))) S'.1 (w_72 G) d_jdk_42_method_66_code_15 rfl (fun T4 W5 => ?_)
  refine Go.astoreN (pc' := 19) W5 #[.val (.ref a), .val (.ref a'), .val (.ref a')] d_jdk_42_method_66_code_18 rfl rfl rfl ?_
  refine Go.getstatic (pc' := 22) W5 (w_35 G) Via.refl Scv d_jdk_42_method_66_code_19 rfl (fun T6 W7 => ?_)
  refine Go.if_eq (pc' := 25) W7 36 d_jdk_42_method_66_code_22 (by decide) rfl (fun q => absurd q hcv) (fun _ => ?_)
  refine Go.aloadN (pc' := 26) W7 d_jdk_42_method_66_code_25 rfl rfl rfl ?_
  refine Go.getfield (pc' := 29) W7 (Or.inr (Or.inl (List.mem_of_getElem? (i := 0) rfl))) (w_31 G) Via.refl S.2.1 d_jdk_42_method_66_code_26 rfl (fun T8 W9 => ?_)
  refine Go.aloadN (pc' := 30) W9 d_jdk_42_method_66_code_29 rfl rfl rfl ?_
  refine Go.getfield (pc' := 33) W9 (Or.inr (Or.inl (List.mem_of_getElem? (i := 2) rfl))) (w_31 G) Via.refl S'.2.1 d_jdk_42_method_66_code_30 rfl (fun T10 W11 => ?_)
  refine Go.icmp_ne (pc' := 36) W11 54 d_jdk_42_method_66_code_33 (by decide) rfl (fun q => absurd (by decide) q) (fun _ => ?_)
  refine Go.aloadN (pc' := 37) W11 d_jdk_42_method_66_code_36 rfl rfl rfl ?_
  refine Go.getfield (pc' := 40) W11 (Or.inr (Or.inl (List.mem_of_getElem? (i := 0) rfl))) (w_30 G) Via.refl S.2.2.1 d_jdk_42_method_66_code_37 rfl (fun T12 W13 => ?_)
  refine Go.aloadN (pc' := 41) W13 d_jdk_42_method_66_code_40 rfl rfl rfl ?_
  refine Go.getfield (pc' := 44) W13 (Or.inr (Or.inl (List.mem_of_getElem? (i := 2) rfl))) (w_30 G) Via.refl S'.2.2.1 d_jdk_42_method_66_code_41 rfl (fun T14 W15 => ?_)
  refine Go.static (pc' := 47) W15 (rm_leq G b b' cb cb' (cs.map fun x => x.toInt8.toInt32) (ds.map fun x => x.toInt8.toInt32) (latB_eq cs ▸ S.2.2.2.1) (latB_eq ds ▸ S'.2.2.2.1)) (w_73 G) (w_74 G) (w_75 G) (w_76 G) (by decide) [] [1, 3] (σf := []) rfl rfl [(.ref b), (.ref b')] [] rfl (lenOf pd_7 rfl) rfl rfl d_jdk_42_method_66_code_44 rfl (by first | exact Nat.le_of_ble_eq_true rfl | (simp; done) | (simp; omega) | omega) (by first | exact Nat.le_of_ble_eq_true rfl | (simp; done) | (simp; omega) | omega) (by first | exact Nat.le_of_ble_eq_true rfl | (simp; done) | (simp; omega) | omega) (by first | exact Nat.le_of_ble_eq_true rfl | (simp; done) | (simp; omega) | omega) ?_
  rintro _ _ _ T16 ⟨rfl, rfl, rfl⟩ W17
  replace W17 : Wk l Z EL1 ({ frames := 1, cells := 0, slots := 0, locals := 14 } : Room) "java/lang/String" jdk_42_method_66_code 3 (some .boolean) "equals" X [] [(b, cb), (b', cb'), (a, c), (b, cb), (a', c'), (b', cb')] T16 0 (0) := W17
  show Go Z EL1 _ _ _ X T16 47 #[.val (.ref a), .val (.ref a'), .val (.ref a')] [(.int (if cs.map (fun x => x.toInt8.toInt32) = ds.map (fun x => x.toInt8.toInt32) then 1 else 0))]
  refine Go.if_eq (pc' := 50) W17 54 d_jdk_42_method_66_code_47 (by decide) rfl (fun (c18 : (if cs.map (fun x => x.toInt8.toInt32) = ds.map (fun x => x.toInt8.toInt32) then 1 else 0) = 0) => ?_) (fun (c18 : ¬ ((if cs.map (fun x => x.toInt8.toInt32) = ds.map (fun x => x.toInt8.toInt32) then 1 else 0) = 0)) => ?_)
  · refine Go.iconst (pc' := 55) W17 (0 : Int32) d_jdk_42_method_66_code_54 (by decide) rfl ?_
    have W19 := W17.keepRo [] (ρ' := []) rfl
    replace W19 : Wk l Z EL1 ({ frames := 1, cells := 0, slots := 0, locals := 14 } : Room) "java/lang/String" jdk_42_method_66_code 3 (some .boolean) "equals" X [] [] T16 0 (0) := W19
    refine Go.nret (z' := (0 : Int32)) W19 (by simp) (by decide) d_jdk_42_method_66_code_55 (by first | exact Nat.le_of_ble_eq_true rfl | (simp; done) | (simp; omega) | omega) (by first | exact Nat.le_of_ble_eq_true rfl | (simp; done) | (simp; omega) | omega) ?_
    refine ⟨?_, rfl, rfl⟩
    rw [if_neg]
    rintro rfl
    simp at c18
  · refine Go.iconst (pc' := 51) W17 (1 : Int32) d_jdk_42_method_66_code_50 (by decide) rfl ?_
    refine Go.goto W17 55 d_jdk_42_method_66_code_51 (by decide) ?_
    have W20 := W17.keepRo [] (ρ' := []) rfl
    replace W20 : Wk l Z EL1 ({ frames := 1, cells := 0, slots := 0, locals := 14 } : Room) "java/lang/String" jdk_42_method_66_code 3 (some .boolean) "equals" X [] [] T16 0 (0) := W20
    refine Go.nret (z' := (1 : Int32)) W20 (by simp) (by decide) d_jdk_42_method_66_code_55 (by first | exact Nat.le_of_ble_eq_true rfl | (simp; done) | (simp; omega) | omega) (by first | exact Nat.le_of_ble_eq_true rfl | (simp; done) | (simp; omega) | omega) ?_
    refine ⟨?_, rfl, rfl⟩
    rw [if_pos]
    refine latB_inj S.2.2.2.2 S'.2.2.2.2 (Classical.byContradiction fun h => c18 (if_neg h))
set_option maxRecDepth 65536 in
set_option maxHeartbeats 40000000 in
theorem rm_eqn {l : Launch} {Z : State} {a0 : Array Value} (G : Cl Z a0) (a : Addr) :
    Met l Z EL1 (⟨"java/lang/String", "equals", "(Ljava/lang/Object;)Z"⟩ : MethodName) jdk_42_method_66_code 3 (some .boolean) ({ frames := 0, cells := 0, slots := 0, locals := 0 } : Room) #[.ref a, .null] [] [] (fun v σ ρ => v = some (.int 0) ∧ σ = [] ∧ ρ = []) := by
  refine Met.walk G.2.1 pn_2 #[.val (.ref a), .val (.null), .unset] (fun m => by first | (simp [entryFrame, mkF, argsToLocals, Value.category]; done) | rfl) ?_
  intro X T0 W0
  refine Go.aloadN (pc' := 1) W0 d_jdk_42_method_66_code_0 rfl rfl rfl ?_
  refine Go.aloadN (pc' := 2) W0 d_jdk_42_method_66_code_1 rfl rfl rfl ?_
  refine Go.acmp_ne (pc' := 5) W0 7 rfl rfl d_jdk_42_method_66_code_2 (by decide) rfl (fun _ => ?_) (fun hq => nomatch hq)
  refine Go.aloadN (pc' := 8) W0 d_jdk_42_method_66_code_7 rfl rfl rfl ?_
  refine Go.instNull (pc' := 11) W0 d_jdk_42_method_66_code_8 rfl ?_
  refine Go.if_eq (pc' := 14) W0 54 d_jdk_42_method_66_code_11 (by decide) rfl (fun _ => ?_) (fun q => absurd (by decide) q)
  refine Go.iconst (pc' := 55) W0 (0 : Int32) d_jdk_42_method_66_code_54 (by decide) rfl ?_
  refine Go.nret (z' := (0 : Int32)) W0 (by simp) (by decide) d_jdk_42_method_66_code_55 (by first | exact Nat.le_of_ble_eq_true rfl | (simp; done) | (simp; omega) | omega) (by first | exact Nat.le_of_ble_eq_true rfl | (simp; done) | (simp; omega) | omega) ?_
  exact ⟨rfl, rfl, rfl⟩
theorem pn_8 : plainName "java/lang/Record" = true := by first | (simp [plainName, overriddenIn]; done) | decide +kernel
theorem d_jdk_30_method_1_code_0 : decode jdk_30_method_1_code 0 = .ok (.aload_n 0, 1) := by decide +kernel
theorem d_jdk_30_method_1_code_1 : decode jdk_30_method_1_code 1 = .ok (.invokespecial 1, 3) := by decide +kernel
theorem w_54 {Z : State} {a0 : Array Value} (G : Cl Z a0) : (Jvm.Cond.methodLink "java/lang/Record" 1 (⟨"java/lang/Object", "<init>", "()V"⟩ : MethodName)).before a0 Z = true := G.1 _ (List.mem_of_getElem? (l := tables_1) (i := 54) rfl)
theorem d_jdk_30_method_1_code_4 : decode jdk_30_method_1_code 4 = .ok (.return_, 1) := by decide +kernel
set_option maxRecDepth 65536 in
set_option maxHeartbeats 40000000 in
theorem rm_rec {l : Launch} {Z : State} {a0 : Array Value} (G : Cl Z a0) (a : Addr) :
    Met l Z EL1 (⟨"java/lang/Record", "<init>", "()V"⟩ : MethodName) jdk_30_method_1_code 1 none ({ frames := 1, cells := 0, slots := 0, locals := 12 } : Room) #[.ref a] [] [] (fun v σ ρ => v = none ∧ σ = [] ∧ ρ = []) := by
  refine Met.walk G.2.1 pn_8 #[.val (.ref a)] (fun m => by first | (simp [entryFrame, mkF, argsToLocals, Value.category]; done) | rfl) ?_
  intro X T0 W0
  refine Go.aloadN (pc' := 1) W0 d_jdk_30_method_1_code_0 rfl rfl rfl ?_
  refine Go.objInit (pc' := 4) W0 (w_54 G) (w_22 G) (w_23 G) rfl d_jdk_30_method_1_code_1 rfl (by first | exact Nat.le_of_ble_eq_true rfl | (simp; done) | (simp; omega) | omega) (by first | exact Nat.le_of_ble_eq_true rfl | (simp; done) | (simp; omega) | omega) (fun T1 W2 => ?_)
  refine Go.retV W2 d_jdk_30_method_1_code_4 (by first | exact Nat.le_of_ble_eq_true rfl | (simp; done) | (simp; omega) | omega) (by first | exact Nat.le_of_ble_eq_true rfl | (simp; done) | (simp; omega) | omega) ?_
  exact ⟨rfl, rfl, rfl⟩
def chF (p i : Int32) : Int32 := (p.toUInt32 >>> (((2 : Int32) + ((8 : Int32) * i)) &&& 31).toUInt32).toInt32 &&& (255 : Int32)
theorem chF_lat (p i : Int32) : ¬ chF p i < 0 ∧ ¬ (255 : Int32) < chF p i := and255 _
def nzF (p : Int32) : Int32 := (p.toUInt32 >>> ((26 : Int32) &&& 31).toUInt32).toInt32 &&& (1 : Int32)
def strF (p : Int32) : List Int32 := if p &&& 3 = 0 then [] else if p &&& 3 = 1 then [chF p 0] else if p &&& 3 = 2 then [chF p 0, chF p 1] else [chF p 0, chF p 1, chF p 2]
theorem and3 (p : Int32) : p &&& 3 = 0 ∨ p &&& 3 = 1 ∨ p &&& 3 = 2 ∨ p &&& 3 = 3 := by
  have h := c_and p 3 (by decide)
  have e : (3 : Int32).toInt = 3 := by decide
  rw [e] at h
  have k : (p &&& 3).toInt = 0 ∨ (p &&& 3).toInt = 1 ∨ (p &&& 3).toInt = 2 ∨ (p &&& 3).toInt = 3 := by omega
  rcases k with k | k | k | k
  · exact Or.inl (Int32.toInt_inj.mp k)
  · exact Or.inr (Or.inl (Int32.toInt_inj.mp k))
  · exact Or.inr (Or.inr (Or.inl (Int32.toInt_inj.mp k)))
  · exact Or.inr (Or.inr (Or.inr (Int32.toInt_inj.mp k)))
theorem pn_9 : plainName "com/example/slicewise/slicewise/ThrownMatchesPinLaw" = true := by first | (simp [plainName, overriddenIn]; done) | decide +kernel
theorem d_method_2_code_0 : decode method_2_code 0 = .ok (.iload_n 0, 1) := by decide +kernel
theorem d_method_2_code_1 : decode method_2_code 1 = .ok (.iconst 2, 1) := by decide +kernel
theorem d_method_2_code_2 : decode method_2_code 2 = .ok (.bipush 8, 2) := by decide +kernel
theorem d_method_2_code_4 : decode method_2_code 4 = .ok (.iload_n 1, 1) := by decide +kernel
theorem d_method_2_code_5 : decode method_2_code 5 = .ok (.imul, 1) := by decide +kernel
theorem d_method_2_code_6 : decode method_2_code 6 = .ok (.iadd, 1) := by decide +kernel
theorem d_method_2_code_7 : decode method_2_code 7 = .ok (.iushr, 1) := by decide +kernel
theorem d_method_2_code_8 : decode method_2_code 8 = .ok (.sipush 255, 3) := by decide +kernel
theorem d_method_2_code_11 : decode method_2_code 11 = .ok (.iand, 1) := by decide +kernel
theorem d_method_2_code_12 : decode method_2_code 12 = .ok (.ireturn, 1) := by decide +kernel
set_option maxRecDepth 65536 in
set_option maxHeartbeats 40000000 in
theorem rm_ch {l : Launch} {Z : State} {a0 : Array Value} (G : Cl Z a0) (p i : Int32) :
    Met l Z EL1 (⟨"com/example/slicewise/slicewise/ThrownMatchesPinLaw", "ch", "(II)I"⟩ : MethodName) method_2_code 2 (some .int) ({ frames := 0, cells := 0, slots := 0, locals := 0 } : Room) #[.int p, .int i] [] [] (fun v σ ρ => v = some (.int (chF p i)) ∧ σ = [] ∧ ρ = []) := by
  refine Met.walk G.2.1 pn_9 #[.val (.int p), .val (.int i)] (fun m => by first | (simp [entryFrame, mkF, argsToLocals, Value.category]; done) | rfl) ?_
  intro X T0 W0
  refine Go.iloadN (pc' := 1) W0 d_method_2_code_0 rfl rfl ?_
  refine Go.iconst (pc' := 2) W0 (2 : Int32) d_method_2_code_1 (by decide) rfl ?_
  refine Go.bipush (pc' := 4) W0 (8 : Int32) d_method_2_code_2 (by decide) rfl ?_
  refine Go.iloadN (pc' := 5) W0 d_method_2_code_4 rfl rfl ?_
  refine Go.imul (pc' := 6) W0 d_method_2_code_5 rfl ?_
  refine Go.iadd (pc' := 7) W0 d_method_2_code_6 rfl ?_
  refine Go.iushr (pc' := 8) W0 d_method_2_code_7 rfl ?_
  refine Go.sipush (pc' := 11) W0 (255 : Int32) d_method_2_code_8 (by decide) rfl ?_
  refine Go.iand (pc' := 12) W0 d_method_2_code_11 rfl ?_
  refine Go.iret W0 d_method_2_code_12 (by first | exact Nat.le_of_ble_eq_true rfl | (simp; done) | (simp; omega) | omega) (by first | exact Nat.le_of_ble_eq_true rfl | (simp; done) | (simp; omega) | omega) ?_
  exact ⟨rfl, rfl, rfl⟩
theorem d_method_4_code_0 : decode method_4_code 0 = .ok (.iload_n 0, 1) := by decide +kernel
theorem d_method_4_code_1 : decode method_4_code 1 = .ok (.bipush 26, 2) := by decide +kernel
theorem d_method_4_code_3 : decode method_4_code 3 = .ok (.iushr, 1) := by decide +kernel
theorem d_method_4_code_4 : decode method_4_code 4 = .ok (.iconst 1, 1) := by decide +kernel
theorem d_method_4_code_5 : decode method_4_code 5 = .ok (.iand, 1) := by decide +kernel
theorem d_method_4_code_6 : decode method_4_code 6 = .ok (.ifCond .eq 7, 3) := by decide +kernel
theorem d_method_4_code_13 : decode method_4_code 13 = .ok (.iconst 0, 1) := by decide +kernel
theorem d_method_4_code_14 : decode method_4_code 14 = .ok (.ireturn, 1) := by decide +kernel
theorem d_method_4_code_9 : decode method_4_code 9 = .ok (.iconst 1, 1) := by decide +kernel
theorem d_method_4_code_10 : decode method_4_code 10 = .ok (.goto 4, 3) := by decide +kernel
set_option maxRecDepth 65536 in
set_option maxHeartbeats 40000000 in
theorem rm_isNull {l : Launch} {Z : State} {a0 : Array Value} (G : Cl Z a0) (p : Int32) :
    Met l Z EL1 (⟨"com/example/slicewise/slicewise/ThrownMatchesPinLaw", "isNull", "(I)Z"⟩ : MethodName) method_4_code 1 (some .boolean) ({ frames := 0, cells := 0, slots := 0, locals := 0 } : Room) #[.int p] [] [] (fun v σ ρ => v = some (.int (if nzF p = 0 then 0 else 1)) ∧ σ = [] ∧ ρ = []) := by
  refine Met.walk G.2.1 pn_9 #[.val (.int p)] (fun m => by first | (simp [entryFrame, mkF, argsToLocals, Value.category]; done) | rfl) ?_
  intro X T0 W0
  refine Go.iloadN (pc' := 1) W0 d_method_4_code_0 rfl rfl ?_
  refine Go.bipush (pc' := 3) W0 (26 : Int32) d_method_4_code_1 (by decide) rfl ?_
  refine Go.iushr (pc' := 4) W0 d_method_4_code_3 rfl ?_
  refine Go.iconst (pc' := 5) W0 (1 : Int32) d_method_4_code_4 (by decide) rfl ?_
  refine Go.iand (pc' := 6) W0 d_method_4_code_5 rfl ?_
  refine Go.if_eq (pc' := 9) W0 13 d_method_4_code_6 (by decide) rfl (fun (c1 : (((p.toUInt32 >>> ((26 : Int32) &&& 31).toUInt32).toInt32) &&& (1 : Int32)) = 0) => ?_) (fun (c1 : ¬ ((((p.toUInt32 >>> ((26 : Int32) &&& 31).toUInt32).toInt32) &&& (1 : Int32)) = 0)) => ?_)
  · refine Go.iconst (pc' := 14) W0 (0 : Int32) d_method_4_code_13 (by decide) rfl ?_
    refine Go.nret (z' := (0 : Int32)) W0 (by simp) (by decide) d_method_4_code_14 (by first | exact Nat.le_of_ble_eq_true rfl | (simp; done) | (simp; omega) | omega) (by first | exact Nat.le_of_ble_eq_true rfl | (simp; done) | (simp; omega) | omega) ?_
    exact ⟨by rw [if_pos (show nzF p = 0 from c1)], rfl, rfl⟩
  · refine Go.iconst (pc' := 10) W0 (1 : Int32) d_method_4_code_9 (by decide) rfl ?_
    refine Go.goto W0 14 d_method_4_code_10 (by decide) ?_
    refine Go.nret (z' := (1 : Int32)) W0 (by simp) (by decide) d_method_4_code_14 (by first | exact Nat.le_of_ble_eq_true rfl | (simp; done) | (simp; omega) | omega) (by first | exact Nat.le_of_ble_eq_true rfl | (simp; done) | (simp; omega) | omega) ?_
    exact ⟨by rw [if_neg (show ¬ nzF p = 0 from c1)], rfl, rfl⟩
theorem d_method_3_code_0 : decode method_3_code 0 = .ok (.iload_n 0, 1) := by decide +kernel
theorem d_method_3_code_1 : decode method_3_code 1 = .ok (.iconst 3, 1) := by decide +kernel
theorem d_method_3_code_2 : decode method_3_code 2 = .ok (.iand, 1) := by decide +kernel
theorem d_method_3_code_3 : decode method_3_code 3 = .ok (.istore_n 1, 1) := by decide +kernel
theorem d_method_3_code_4 : decode method_3_code 4 = .ok (.iload_n 0, 1) := by decide +kernel
theorem d_method_3_code_5 : decode method_3_code 5 = .ok (.iconst 0, 1) := by decide +kernel
theorem d_method_3_code_6 : decode method_3_code 6 = .ok (.invokestatic 7, 3) := by decide +kernel
theorem w_7 {Z : State} {a0 : Array Value} (G : Cl Z a0) : (Jvm.Cond.methodLink "com/example/slicewise/slicewise/ThrownMatchesPinLaw" 7 (⟨"com/example/slicewise/slicewise/ThrownMatchesPinLaw", "ch", "(II)I"⟩ : MethodName)).before a0 Z = true := G.1 _ (List.mem_of_getElem? (l := tables_1) (i := 7) rfl)
theorem w_5 {Z : State} {a0 : Array Value} (G : Cl Z a0) : (Jvm.Cond.initialized "com/example/slicewise/slicewise/ThrownMatchesPinLaw").before a0 Z = true := G.1 _ (List.mem_of_getElem? (l := tables_1) (i := 5) rfl)
theorem w_9 {Z : State} {a0 : Array Value} (G : Cl Z a0) : (Jvm.Cond.code (⟨"com/example/slicewise/slicewise/ThrownMatchesPinLaw", "ch", "(II)I"⟩ : MethodName) method_2_code 2 (some .int)).before a0 Z = true := G.1 _ (List.mem_of_getElem? (l := tables_1) (i := 9) rfl)
theorem pd_10 : parseMethodDescriptor "(II)I" = some ⟨[.int, .int], some .int⟩ := by decide +kernel
theorem w_8 {Z : State} {a0 : Array Value} (G : Cl Z a0) : (Jvm.Cond.static (⟨"com/example/slicewise/slicewise/ThrownMatchesPinLaw", "ch", "(II)I"⟩ : MethodName)).before a0 Z = true := G.1 _ (List.mem_of_getElem? (l := tables_1) (i := 8) rfl)
theorem d_method_3_code_9 : decode method_3_code 9 = .ok (.i2c, 1) := by decide +kernel
theorem d_method_3_code_10 : decode method_3_code 10 = .ok (.istore_n 2, 1) := by decide +kernel
theorem d_method_3_code_11 : decode method_3_code 11 = .ok (.iload_n 0, 1) := by decide +kernel
theorem d_method_3_code_12 : decode method_3_code 12 = .ok (.iconst 1, 1) := by decide +kernel
theorem d_method_3_code_13 : decode method_3_code 13 = .ok (.invokestatic 7, 3) := by decide +kernel
theorem d_method_3_code_16 : decode method_3_code 16 = .ok (.i2c, 1) := by decide +kernel
theorem d_method_3_code_17 : decode method_3_code 17 = .ok (.istore_n 3, 1) := by decide +kernel
theorem d_method_3_code_18 : decode method_3_code 18 = .ok (.iload_n 0, 1) := by decide +kernel
theorem d_method_3_code_19 : decode method_3_code 19 = .ok (.iconst 2, 1) := by decide +kernel
theorem d_method_3_code_20 : decode method_3_code 20 = .ok (.invokestatic 7, 3) := by decide +kernel
theorem d_method_3_code_23 : decode method_3_code 23 = .ok (.i2c, 1) := by decide +kernel
theorem d_method_3_code_24 : decode method_3_code 24 = .ok (.istore 4, 2) := by decide +kernel
theorem d_method_3_code_26 : decode method_3_code 26 = .ok (.iload_n 1, 1) := by decide +kernel
theorem d_method_3_code_27 : decode method_3_code 27 = .ok (.ifCond .ne 14, 3) := by decide +kernel
theorem d_method_3_code_41 : decode method_3_code 41 = .ok (.iload_n 1, 1) := by decide +kernel
theorem d_method_3_code_42 : decode method_3_code 42 = .ok (.iconst 1, 1) := by decide +kernel
theorem d_method_3_code_43 : decode method_3_code 43 = .ok (.if_icmp .ne 18, 3) := by decide +kernel
theorem d_method_3_code_61 : decode method_3_code 61 = .ok (.iload_n 1, 1) := by decide +kernel
theorem d_method_3_code_62 : decode method_3_code 62 = .ok (.iconst 2, 1) := by decide +kernel
theorem d_method_3_code_63 : decode method_3_code 63 = .ok (.if_icmp .ne 22, 3) := by decide +kernel
theorem d_method_3_code_85 : decode method_3_code 85 = .ok (.new 13, 3) := by decide +kernel
theorem w_10 {Z : State} {a0 : Array Value} (G : Cl Z a0) : (Jvm.Cond.classLink "com/example/slicewise/slicewise/ThrownMatchesPinLaw" 13 "java/lang/String").before a0 Z = true := G.1 _ (List.mem_of_getElem? (l := tables_1) (i := 10) rfl)
theorem d_method_3_code_88 : decode method_3_code 88 = .ok (.dup, 1) := by decide +kernel
theorem d_method_3_code_89 : decode method_3_code 89 = .ok (.iconst 3, 1) := by decide +kernel
theorem d_method_3_code_90 : decode method_3_code 90 = .ok (.newarray .char, 2) := by decide +kernel
theorem w_13 {Z : State} {a0 : Array Value} (G : Cl Z a0) : (Jvm.Cond.arrayClass .char).before a0 Z = true := G.1 _ (List.mem_of_getElem? (l := tables_1) (i := 13) rfl)
theorem d_method_3_code_92 : decode method_3_code 92 = .ok (.dup, 1) := by decide +kernel
theorem d_method_3_code_93 : decode method_3_code 93 = .ok (.iconst 0, 1) := by decide +kernel
theorem d_method_3_code_94 : decode method_3_code 94 = .ok (.iload_n 2, 1) := by decide +kernel
theorem d_method_3_code_95 : decode method_3_code 95 = .ok (.castore, 1) := by decide +kernel
theorem d_method_3_code_96 : decode method_3_code 96 = .ok (.dup, 1) := by decide +kernel
theorem d_method_3_code_97 : decode method_3_code 97 = .ok (.iconst 1, 1) := by decide +kernel
theorem d_method_3_code_98 : decode method_3_code 98 = .ok (.iload_n 3, 1) := by decide +kernel
theorem d_method_3_code_99 : decode method_3_code 99 = .ok (.castore, 1) := by decide +kernel
theorem d_method_3_code_100 : decode method_3_code 100 = .ok (.dup, 1) := by decide +kernel
theorem d_method_3_code_101 : decode method_3_code 101 = .ok (.iconst 2, 1) := by decide +kernel
theorem d_method_3_code_102 : decode method_3_code 102 = .ok (.iload 4, 2) := by decide +kernel
theorem d_method_3_code_104 : decode method_3_code 104 = .ok (.castore, 1) := by decide +kernel
theorem d_method_3_code_105 : decode method_3_code 105 = .ok (.invokespecial 15, 3) := by decide +kernel
theorem w_14 {Z : State} {a0 : Array Value} (G : Cl Z a0) : (Jvm.Cond.methodLink "com/example/slicewise/slicewise/ThrownMatchesPinLaw" 15 (⟨"java/lang/String", "<init>", "([C)V"⟩ : MethodName)).before a0 Z = true := G.1 _ (List.mem_of_getElem? (l := tables_1) (i := 14) rfl)
theorem w_16 {Z : State} {a0 : Array Value} (G : Cl Z a0) : (Jvm.Cond.code (⟨"java/lang/String", "<init>", "([C)V"⟩ : MethodName) jdk_42_method_3_code 2 none).before a0 Z = true := G.1 _ (List.mem_of_getElem? (l := tables_1) (i := 16) rfl)
theorem pd_11 : parseMethodDescriptor "([C)V" = some ⟨[(.array .char)], none⟩ := by decide +kernel
theorem w_15 {Z : State} {a0 : Array Value} (G : Cl Z a0) : (Jvm.Cond.instanceMethod (⟨"java/lang/String", "<init>", "([C)V"⟩ : MethodName)).before a0 Z = true := G.1 _ (List.mem_of_getElem? (l := tables_1) (i := 15) rfl)
theorem d_method_3_code_108 : decode method_3_code 108 = .ok (.areturn, 1) := by decide +kernel
theorem d_method_3_code_66 : decode method_3_code 66 = .ok (.new 13, 3) := by decide +kernel
theorem d_method_3_code_69 : decode method_3_code 69 = .ok (.dup, 1) := by decide +kernel
theorem d_method_3_code_70 : decode method_3_code 70 = .ok (.iconst 2, 1) := by decide +kernel
theorem d_method_3_code_71 : decode method_3_code 71 = .ok (.newarray .char, 2) := by decide +kernel
theorem d_method_3_code_73 : decode method_3_code 73 = .ok (.dup, 1) := by decide +kernel
theorem d_method_3_code_74 : decode method_3_code 74 = .ok (.iconst 0, 1) := by decide +kernel
theorem d_method_3_code_75 : decode method_3_code 75 = .ok (.iload_n 2, 1) := by decide +kernel
theorem d_method_3_code_76 : decode method_3_code 76 = .ok (.castore, 1) := by decide +kernel
theorem d_method_3_code_77 : decode method_3_code 77 = .ok (.dup, 1) := by decide +kernel
theorem d_method_3_code_78 : decode method_3_code 78 = .ok (.iconst 1, 1) := by decide +kernel
theorem d_method_3_code_79 : decode method_3_code 79 = .ok (.iload_n 3, 1) := by decide +kernel
theorem d_method_3_code_80 : decode method_3_code 80 = .ok (.castore, 1) := by decide +kernel
theorem d_method_3_code_81 : decode method_3_code 81 = .ok (.invokespecial 15, 3) := by decide +kernel
theorem d_method_3_code_84 : decode method_3_code 84 = .ok (.areturn, 1) := by decide +kernel
theorem d_method_3_code_46 : decode method_3_code 46 = .ok (.new 13, 3) := by decide +kernel
theorem d_method_3_code_49 : decode method_3_code 49 = .ok (.dup, 1) := by decide +kernel
theorem d_method_3_code_50 : decode method_3_code 50 = .ok (.iconst 1, 1) := by decide +kernel
theorem d_method_3_code_51 : decode method_3_code 51 = .ok (.newarray .char, 2) := by decide +kernel
theorem d_method_3_code_53 : decode method_3_code 53 = .ok (.dup, 1) := by decide +kernel
theorem d_method_3_code_54 : decode method_3_code 54 = .ok (.iconst 0, 1) := by decide +kernel
theorem d_method_3_code_55 : decode method_3_code 55 = .ok (.iload_n 2, 1) := by decide +kernel
theorem d_method_3_code_56 : decode method_3_code 56 = .ok (.castore, 1) := by decide +kernel
theorem d_method_3_code_57 : decode method_3_code 57 = .ok (.invokespecial 15, 3) := by decide +kernel
theorem d_method_3_code_60 : decode method_3_code 60 = .ok (.areturn, 1) := by decide +kernel
theorem d_method_3_code_30 : decode method_3_code 30 = .ok (.new 13, 3) := by decide +kernel
theorem d_method_3_code_33 : decode method_3_code 33 = .ok (.dup, 1) := by decide +kernel
theorem d_method_3_code_34 : decode method_3_code 34 = .ok (.iconst 0, 1) := by decide +kernel
theorem d_method_3_code_35 : decode method_3_code 35 = .ok (.newarray .char, 2) := by decide +kernel
theorem d_method_3_code_37 : decode method_3_code 37 = .ok (.invokespecial 15, 3) := by decide +kernel
theorem d_method_3_code_40 : decode method_3_code 40 = .ok (.areturn, 1) := by decide +kernel
set_option maxRecDepth 65536 in
set_option maxHeartbeats 40000000 in
theorem rm_str {l : Launch} {Z : State} {a0 : Array Value} (G : Cl Z a0) (p : Int32) :
    Met l Z EL1 (⟨"com/example/slicewise/slicewise/ThrownMatchesPinLaw", "str", "(I)Ljava/lang/String;"⟩ : MethodName) method_3_code 5 (some (.object "java/lang/String")) ({ frames := 4, cells := 6, slots := 12, locals := 66 } : Room) #[.int p] [] [] (fun v σ ρ => ∃ a c b cb, v = some (.ref a) ∧ σ = [] ∧ ρ = [(a, c), (b, cb)] ∧ StrL Z c b cb (strF p)) := by
  refine Met.walk G.2.1 pn_9 #[.val (.int p), .unset, .unset, .unset, .unset] (fun m => by first | (simp [entryFrame, mkF, argsToLocals, Value.category]; done) | rfl) ?_
  intro X T0 W0
  refine Go.iloadN (pc' := 1) W0 d_method_3_code_0 rfl rfl ?_
  refine Go.iconst (pc' := 2) W0 (3 : Int32) d_method_3_code_1 (by decide) rfl ?_
  refine Go.iand (pc' := 3) W0 d_method_3_code_2 rfl ?_
  refine Go.istoreN (pc' := 4) W0 #[.val (.int p), .val (.int (p &&& (3 : Int32))), .unset, .unset, .unset] d_method_3_code_3 rfl rfl ?_
  refine Go.iloadN (pc' := 5) W0 d_method_3_code_4 rfl rfl ?_
  refine Go.iconst (pc' := 6) W0 (0 : Int32) d_method_3_code_5 (by decide) rfl ?_
  refine Go.static (pc' := 9) W0 (rm_ch G p (0 : Int32)) (w_7 G) (w_8 G) (w_5 G) (w_9 G) (by decide) [] [] (σf := []) rfl rfl [(.int p), (.int (0 : Int32))] [] rfl (lenOf pd_10 rfl) rfl rfl d_method_3_code_6 rfl (by first | exact Nat.le_of_ble_eq_true rfl | (simp; done) | (simp; omega) | omega) (by first | exact Nat.le_of_ble_eq_true rfl | (simp; done) | (simp; omega) | omega) (by first | exact Nat.le_of_ble_eq_true rfl | (simp; done) | (simp; omega) | omega) (by first | exact Nat.le_of_ble_eq_true rfl | (simp; done) | (simp; omega) | omega) ?_
  rintro _ _ _ T1 ⟨rfl, rfl, rfl⟩ W2
  replace W2 : Wk l Z EL1 ({ frames := 4, cells := 6, slots := 12, locals := 66 } : Room) "com/example/slicewise/slicewise/ThrownMatchesPinLaw" method_3_code 5 (some (.object "java/lang/String")) "str" X [] [] T1 0 (0) := W2
  show Go Z EL1 _ _ _ X T1 9 #[.val (.int p), .val (.int (p &&& (3 : Int32))), .unset, .unset, .unset] [(.int (chF p (0 : Int32)))]
  refine Go.i2c (pc' := 10) W2 d_method_3_code_9 rfl ?_
  rw [i2c_id (lat_char (chF_lat _ _)).1 (lat_char (chF_lat _ _)).2]
  refine Go.istoreN (pc' := 11) W2 #[.val (.int p), .val (.int (p &&& (3 : Int32))), .val (.int (chF p (0 : Int32))), .unset, .unset] d_method_3_code_10 rfl rfl ?_
  refine Go.iloadN (pc' := 12) W2 d_method_3_code_11 rfl rfl ?_
  refine Go.iconst (pc' := 13) W2 (1 : Int32) d_method_3_code_12 (by decide) rfl ?_
  refine Go.static (pc' := 16) W2 (rm_ch G p (1 : Int32)) (w_7 G) (w_8 G) (w_5 G) (w_9 G) (by decide) [] [] (σf := []) rfl rfl [(.int p), (.int (1 : Int32))] [] rfl (lenOf pd_10 rfl) rfl rfl d_method_3_code_13 rfl (by first | exact Nat.le_of_ble_eq_true rfl | (simp; done) | (simp; omega) | omega) (by first | exact Nat.le_of_ble_eq_true rfl | (simp; done) | (simp; omega) | omega) (by first | exact Nat.le_of_ble_eq_true rfl | (simp; done) | (simp; omega) | omega) (by first | exact Nat.le_of_ble_eq_true rfl | (simp; done) | (simp; omega) | omega) ?_
  rintro _ _ _ T3 ⟨rfl, rfl, rfl⟩ W4
  replace W4 : Wk l Z EL1 ({ frames := 4, cells := 6, slots := 12, locals := 66 } : Room) "com/example/slicewise/slicewise/ThrownMatchesPinLaw" method_3_code 5 (some (.object "java/lang/String")) "str" X [] [] T3 0 (0) := W4
  show Go Z EL1 _ _ _ X T3 16 #[.val (.int p), .val (.int (p &&& (3 : Int32))), .val (.int (chF p (0 : Int32))), .unset, .unset] [(.int (chF p (1 : Int32)))]
  refine Go.i2c (pc' := 17) W4 d_method_3_code_16 rfl ?_
  rw [i2c_id (lat_char (chF_lat _ _)).1 (lat_char (chF_lat _ _)).2]
  refine Go.istoreN (pc' := 18) W4 #[.val (.int p), .val (.int (p &&& (3 : Int32))), .val (.int (chF p (0 : Int32))), .val (.int (chF p (1 : Int32))), .unset] d_method_3_code_17 rfl rfl ?_
  refine Go.iloadN (pc' := 19) W4 d_method_3_code_18 rfl rfl ?_
  refine Go.iconst (pc' := 20) W4 (2 : Int32) d_method_3_code_19 (by decide) rfl ?_
  refine Go.static (pc' := 23) W4 (rm_ch G p (2 : Int32)) (w_7 G) (w_8 G) (w_5 G) (w_9 G) (by decide) [] [] (σf := []) rfl rfl [(.int p), (.int (2 : Int32))] [] rfl (lenOf pd_10 rfl) rfl rfl d_method_3_code_20 rfl (by first | exact Nat.le_of_ble_eq_true rfl | (simp; done) | (simp; omega) | omega) (by first | exact Nat.le_of_ble_eq_true rfl | (simp; done) | (simp; omega) | omega) (by first | exact Nat.le_of_ble_eq_true rfl | (simp; done) | (simp; omega) | omega) (by first | exact Nat.le_of_ble_eq_true rfl | (simp; done) | (simp; omega) | omega) ?_
  rintro _ _ _ T5 ⟨rfl, rfl, rfl⟩ W6
  replace W6 : Wk l Z EL1 ({ frames := 4, cells := 6, slots := 12, locals := 66 } : Room) "com/example/slicewise/slicewise/ThrownMatchesPinLaw" method_3_code 5 (some (.object "java/lang/String")) "str" X [] [] T5 0 (0) := W6
  show Go Z EL1 _ _ _ X T5 23 #[.val (.int p), .val (.int (p &&& (3 : Int32))), .val (.int (chF p (0 : Int32))), .val (.int (chF p (1 : Int32))), .unset] [(.int (chF p (2 : Int32)))]
  refine Go.i2c (pc' := 24) W6 d_method_3_code_23 rfl ?_
  rw [i2c_id (lat_char (chF_lat _ _)).1 (lat_char (chF_lat _ _)).2]
  refine Go.istore (pc' := 26) W6 #[.val (.int p), .val (.int (p &&& (3 : Int32))), .val (.int (chF p (0 : Int32))), .val (.int (chF p (1 : Int32))), .val (.int (chF p (2 : Int32)))] d_method_3_code_24 rfl rfl ?_
  refine Go.iloadN (pc' := 27) W6 d_method_3_code_26 rfl rfl ?_
  refine Go.if_ne (pc' := 30) W6 41 d_method_3_code_27 (by decide) rfl (fun (c7 : ¬ ((p &&& (3 : Int32)) = 0)) => ?_) (fun (c7 : (p &&& (3 : Int32)) = 0) => ?_)
  · refine Go.iloadN (pc' := 42) W6 d_method_3_code_41 rfl rfl ?_
    refine Go.iconst (pc' := 43) W6 (1 : Int32) d_method_3_code_42 (by decide) rfl ?_
    refine Go.icmp_ne (pc' := 46) W6 61 d_method_3_code_43 (by decide) rfl (fun (c8 : ¬ ((p &&& (3 : Int32)) = (1 : Int32))) => ?_) (fun (c8 : (p &&& (3 : Int32)) = (1 : Int32)) => ?_)
    · refine Go.iloadN (pc' := 62) W6 d_method_3_code_61 rfl rfl ?_
      refine Go.iconst (pc' := 63) W6 (2 : Int32) d_method_3_code_62 (by decide) rfl ?_
      refine Go.icmp_ne (pc' := 66) W6 85 d_method_3_code_63 (by decide) rfl (fun (c9 : ¬ ((p &&& (3 : Int32)) = (2 : Int32))) => ?_) (fun (c9 : (p &&& (3 : Int32)) = (2 : Int32)) => ?_)
      · refine Go.new (pc' := 88) W6 (w_10 G) (w_11 G) (w_12 G) d_method_3_code_85 rfl (by first | exact Nat.le_of_ble_eq_true rfl | (simp; done) | (simp; omega) | omega) (by first | exact Nat.le_of_ble_eq_true rfl | (simp; done) | (simp; omega) | omega) (fun T10 a12 c13 W11 O14 D15 => ?_)
        replace W11 : Wk l Z EL1 ({ frames := 4, cells := 6, slots := 12, locals := 66 } : Room) "com/example/slicewise/slicewise/ThrownMatchesPinLaw" method_3_code 5 (some (.object "java/lang/String")) "str" X [(a12, c13)] [] T10 1 (4) := W11
        have F16 : FldC Z c13 "java/lang/String" "value" "[B" (.null) := D15 (Or.inr (w_26 G)) (ty := (.array .byte)) (by decide)
        have F17 : FldC Z c13 "java/lang/String" "coder" "B" (.int (0 : Int32)) := D15 (Or.inr (w_27 G)) (ty := .byte) (by decide)
        refine Go.dup (pc' := 89) W11 d_method_3_code_88 rfl rfl ?_
        refine Go.iconst (pc' := 90) W11 (3 : Int32) d_method_3_code_89 (by decide) rfl ?_
        refine Go.newarr (pc' := 92) W11 .char rfl 3 (w_13 G) d_method_3_code_90 rfl (by decide) (by decide) (by decide) (by first | exact Nat.le_of_ble_eq_true rfl | (simp; done) | (simp; omega) | omega) (by first | exact Nat.le_of_ble_eq_true rfl | (simp; done) | (simp; omega) | omega) (fun T18 a20 c21 W19 A22 => ?_)
        replace W19 : Wk l Z EL1 ({ frames := 4, cells := 6, slots := 12, locals := 66 } : Room) "com/example/slicewise/slicewise/ThrownMatchesPinLaw" method_3_code 5 (some (.object "java/lang/String")) "str" X [(a20, c21), (a12, c13)] [] T18 2 (7) := W19
        replace A22 : ArrC Z c21 .char [(.int (0 : Int32)), (.int (0 : Int32)), (.int (0 : Int32))] := A22
        refine Go.dup (pc' := 93) W19 d_method_3_code_92 rfl rfl ?_
        refine Go.iconst (pc' := 94) W19 (0 : Int32) d_method_3_code_93 (by decide) rfl ?_
        refine Go.iloadN (pc' := 95) W19 d_method_3_code_94 rfl rfl ?_
        refine Go.castore (pc' := 96) W19 0 rfl A22 0 (chF p (0 : Int32)) (nar_char_id (lat_char (chF_lat _ _))) (by decide) (by decide) (by simp) d_method_3_code_95 rfl (fun T23 c25 W24 A26 => ?_)
        replace W24 : Wk l Z EL1 ({ frames := 4, cells := 6, slots := 12, locals := 66 } : Room) "com/example/slicewise/slicewise/ThrownMatchesPinLaw" method_3_code 5 (some (.object "java/lang/String")) "str" X [(a20, c25), (a12, c13)] [] T23 2 (7) := W24
        replace A26 : ArrC Z c25 .char [(.int (chF p (0 : Int32))), (.int (0 : Int32)), (.int (0 : Int32))] := A26
        refine Go.dup (pc' := 97) W24 d_method_3_code_96 rfl rfl ?_
        refine Go.iconst (pc' := 98) W24 (1 : Int32) d_method_3_code_97 (by decide) rfl ?_
        refine Go.iloadN (pc' := 99) W24 d_method_3_code_98 rfl rfl ?_
        refine Go.castore (pc' := 100) W24 0 rfl A26 1 (chF p (1 : Int32)) (nar_char_id (lat_char (chF_lat _ _))) (by decide) (by decide) (by simp) d_method_3_code_99 rfl (fun T27 c29 W28 A30 => ?_)
        replace W28 : Wk l Z EL1 ({ frames := 4, cells := 6, slots := 12, locals := 66 } : Room) "com/example/slicewise/slicewise/ThrownMatchesPinLaw" method_3_code 5 (some (.object "java/lang/String")) "str" X [(a20, c29), (a12, c13)] [] T27 2 (7) := W28
        replace A30 : ArrC Z c29 .char [(.int (chF p (0 : Int32))), (.int (chF p (1 : Int32))), (.int (0 : Int32))] := A30
        refine Go.dup (pc' := 101) W28 d_method_3_code_100 rfl rfl ?_
        refine Go.iconst (pc' := 102) W28 (2 : Int32) d_method_3_code_101 (by decide) rfl ?_
        refine Go.iload (pc' := 104) W28 d_method_3_code_102 rfl rfl ?_
        refine Go.castore (pc' := 105) W28 0 rfl A30 2 (chF p (2 : Int32)) (nar_char_id (lat_char (chF_lat _ _))) (by decide) (by decide) (by simp) d_method_3_code_104 rfl (fun T31 c33 W32 A34 => ?_)
        replace W32 : Wk l Z EL1 ({ frames := 4, cells := 6, slots := 12, locals := 66 } : Room) "com/example/slicewise/slicewise/ThrownMatchesPinLaw" method_3_code 5 (some (.object "java/lang/String")) "str" X [(a20, c33), (a12, c13)] [] T31 2 (7) := W32
        replace A34 : ArrC Z c33 .char [(.int (chF p (0 : Int32))), (.int (chF p (1 : Int32))), (.int (chF p (2 : Int32)))] := A34
        refine Go.special (pc' := 108) W32 (a := a12) (rm_initC G a12 a20 c13 c33 [chF p (0 : Int32), chF p (1 : Int32), chF p (2 : Int32)] A34 O14 F17 F16 (Lat.cons (chF_lat _ _) (Lat.cons (chF_lat _ _) (Lat.cons (chF_lat _ _) Lat.nil))) (by simp) (show ¬ (3 : Nat).toInt32 = 0 by decide)) rfl (w_14 G) (w_15 G) (w_12 G) (w_16 G) (by decide) [1, 0] [] (σf := []) rfl rfl [(.ref a20)] [(.ref a12)] rfl (lenOf pd_11 rfl) rfl rfl d_method_3_code_105 rfl (by first | exact Nat.le_of_ble_eq_true rfl | (simp; done) | (simp; omega) | omega) (by first | exact Nat.le_of_ble_eq_true rfl | (simp; done) | (simp; omega) | omega) (by first | exact Nat.le_of_ble_eq_true rfl | (simp; done) | (simp; omega) | omega) (by first | exact Nat.le_of_ble_eq_true rfl | (simp; done) | (simp; omega) | omega) ?_
        rintro _ _ _ T39 ⟨c35, b36, c37, rfl, rfl, rfl, S38⟩ W40
        replace W40 : Wk l Z EL1 ({ frames := 4, cells := 6, slots := 12, locals := 66 } : Room) "com/example/slicewise/slicewise/ThrownMatchesPinLaw" method_3_code 5 (some (.object "java/lang/String")) "str" X [(a20, c33)] [(a12, c35), (b36, c37)] T39 3 (10) := W40
        show Go Z EL1 _ _ _ X T39 108 #[.val (.int p), .val (.int (p &&& (3 : Int32))), .val (.int (chF p (0 : Int32))), .val (.int (chF p (1 : Int32))), .val (.int (chF p (2 : Int32)))] [(.ref a12)]
        have W41 := W40.drop [0] (σi := [(a20, c33)]) (σf := []) rfl
        replace W41 : Wk l Z EL1 ({ frames := 4, cells := 6, slots := 12, locals := 66 } : Room) "com/example/slicewise/slicewise/ThrownMatchesPinLaw" method_3_code 5 (some (.object "java/lang/String")) "str" X [] [(a12, c35), (b36, c37)] T39 3 (10) := W41
        have W42 := W41.keepRo [0, 1] (ρ' := [(a12, c35), (b36, c37)]) rfl
        replace W42 : Wk l Z EL1 ({ frames := 4, cells := 6, slots := 12, locals := 66 } : Room) "com/example/slicewise/slicewise/ThrownMatchesPinLaw" method_3_code 5 (some (.object "java/lang/String")) "str" X [] [(a12, c35), (b36, c37)] T39 3 (10) := W42
        refine Go.aret W42 rfl rfl d_method_3_code_108 (by first | exact Nat.le_of_ble_eq_true rfl | (simp; done) | (simp; omega) | omega) (by first | exact Nat.le_of_ble_eq_true rfl | (simp; done) | (simp; omega) | omega) ?_
        refine ⟨a12, c35, b36, c37, rfl, rfl, rfl, ?_⟩
        have hs : strF p = [chF p (0 : Int32), chF p (1 : Int32), chF p (2 : Int32)] := by simp [strF, c7, c8, c9]
        rw [hs]; exact S38
      · refine Go.new (pc' := 69) W6 (w_10 G) (w_11 G) (w_12 G) d_method_3_code_66 rfl (by first | exact Nat.le_of_ble_eq_true rfl | (simp; done) | (simp; omega) | omega) (by first | exact Nat.le_of_ble_eq_true rfl | (simp; done) | (simp; omega) | omega) (fun T43 a45 c46 W44 O47 D48 => ?_)
        replace W44 : Wk l Z EL1 ({ frames := 4, cells := 6, slots := 12, locals := 66 } : Room) "com/example/slicewise/slicewise/ThrownMatchesPinLaw" method_3_code 5 (some (.object "java/lang/String")) "str" X [(a45, c46)] [] T43 1 (4) := W44
        have F49 : FldC Z c46 "java/lang/String" "value" "[B" (.null) := D48 (Or.inr (w_26 G)) (ty := (.array .byte)) (by decide)
        have F50 : FldC Z c46 "java/lang/String" "coder" "B" (.int (0 : Int32)) := D48 (Or.inr (w_27 G)) (ty := .byte) (by decide)
        refine Go.dup (pc' := 70) W44 d_method_3_code_69 rfl rfl ?_
        refine Go.iconst (pc' := 71) W44 (2 : Int32) d_method_3_code_70 (by decide) rfl ?_
        refine Go.newarr (pc' := 73) W44 .char rfl 2 (w_13 G) d_method_3_code_71 rfl (by decide) (by decide) (by decide) (by first | exact Nat.le_of_ble_eq_true rfl | (simp; done) | (simp; omega) | omega) (by first | exact Nat.le_of_ble_eq_true rfl | (simp; done) | (simp; omega) | omega) (fun T51 a53 c54 W52 A55 => ?_)
        replace W52 : Wk l Z EL1 ({ frames := 4, cells := 6, slots := 12, locals := 66 } : Room) "com/example/slicewise/slicewise/ThrownMatchesPinLaw" method_3_code 5 (some (.object "java/lang/String")) "str" X [(a53, c54), (a45, c46)] [] T51 2 (6) := W52
        replace A55 : ArrC Z c54 .char [(.int (0 : Int32)), (.int (0 : Int32))] := A55
        refine Go.dup (pc' := 74) W52 d_method_3_code_73 rfl rfl ?_
        refine Go.iconst (pc' := 75) W52 (0 : Int32) d_method_3_code_74 (by decide) rfl ?_
        refine Go.iloadN (pc' := 76) W52 d_method_3_code_75 rfl rfl ?_
        refine Go.castore (pc' := 77) W52 0 rfl A55 0 (chF p (0 : Int32)) (nar_char_id (lat_char (chF_lat _ _))) (by decide) (by decide) (by simp) d_method_3_code_76 rfl (fun T56 c58 W57 A59 => ?_)
        replace W57 : Wk l Z EL1 ({ frames := 4, cells := 6, slots := 12, locals := 66 } : Room) "com/example/slicewise/slicewise/ThrownMatchesPinLaw" method_3_code 5 (some (.object "java/lang/String")) "str" X [(a53, c58), (a45, c46)] [] T56 2 (6) := W57
        replace A59 : ArrC Z c58 .char [(.int (chF p (0 : Int32))), (.int (0 : Int32))] := A59
        refine Go.dup (pc' := 78) W57 d_method_3_code_77 rfl rfl ?_
        refine Go.iconst (pc' := 79) W57 (1 : Int32) d_method_3_code_78 (by decide) rfl ?_
        refine Go.iloadN (pc' := 80) W57 d_method_3_code_79 rfl rfl ?_
        refine Go.castore (pc' := 81) W57 0 rfl A59 1 (chF p (1 : Int32)) (nar_char_id (lat_char (chF_lat _ _))) (by decide) (by decide) (by simp) d_method_3_code_80 rfl (fun T60 c62 W61 A63 => ?_)
        replace W61 : Wk l Z EL1 ({ frames := 4, cells := 6, slots := 12, locals := 66 } : Room) "com/example/slicewise/slicewise/ThrownMatchesPinLaw" method_3_code 5 (some (.object "java/lang/String")) "str" X [(a53, c62), (a45, c46)] [] T60 2 (6) := W61
        replace A63 : ArrC Z c62 .char [(.int (chF p (0 : Int32))), (.int (chF p (1 : Int32)))] := A63
        refine Go.special (pc' := 84) W61 (a := a45) (rm_initC G a45 a53 c46 c62 [chF p (0 : Int32), chF p (1 : Int32)] A63 O47 F50 F49 (Lat.cons (chF_lat _ _) (Lat.cons (chF_lat _ _) Lat.nil)) (by simp) (show ¬ (2 : Nat).toInt32 = 0 by decide)) rfl (w_14 G) (w_15 G) (w_12 G) (w_16 G) (by decide) [1, 0] [] (σf := []) rfl rfl [(.ref a53)] [(.ref a45)] rfl (lenOf pd_11 rfl) rfl rfl d_method_3_code_81 rfl (by first | exact Nat.le_of_ble_eq_true rfl | (simp; done) | (simp; omega) | omega) (by first | exact Nat.le_of_ble_eq_true rfl | (simp; done) | (simp; omega) | omega) (by first | exact Nat.le_of_ble_eq_true rfl | (simp; done) | (simp; omega) | omega) (by first | exact Nat.le_of_ble_eq_true rfl | (simp; done) | (simp; omega) | omega) ?_
        rintro _ _ _ T68 ⟨c64, b65, c66, rfl, rfl, rfl, S67⟩ W69
        replace W69 : Wk l Z EL1 ({ frames := 4, cells := 6, slots := 12, locals := 66 } : Room) "com/example/slicewise/slicewise/ThrownMatchesPinLaw" method_3_code 5 (some (.object "java/lang/String")) "str" X [(a53, c62)] [(a45, c64), (b65, c66)] T68 3 (8) := W69
        show Go Z EL1 _ _ _ X T68 84 #[.val (.int p), .val (.int (p &&& (3 : Int32))), .val (.int (chF p (0 : Int32))), .val (.int (chF p (1 : Int32))), .val (.int (chF p (2 : Int32)))] [(.ref a45)]
        have W70 := W69.drop [0] (σi := [(a53, c62)]) (σf := []) rfl
        replace W70 : Wk l Z EL1 ({ frames := 4, cells := 6, slots := 12, locals := 66 } : Room) "com/example/slicewise/slicewise/ThrownMatchesPinLaw" method_3_code 5 (some (.object "java/lang/String")) "str" X [] [(a45, c64), (b65, c66)] T68 3 (8) := W70
        have W71 := W70.keepRo [0, 1] (ρ' := [(a45, c64), (b65, c66)]) rfl
        replace W71 : Wk l Z EL1 ({ frames := 4, cells := 6, slots := 12, locals := 66 } : Room) "com/example/slicewise/slicewise/ThrownMatchesPinLaw" method_3_code 5 (some (.object "java/lang/String")) "str" X [] [(a45, c64), (b65, c66)] T68 3 (8) := W71
        refine Go.aret W71 rfl rfl d_method_3_code_84 (by first | exact Nat.le_of_ble_eq_true rfl | (simp; done) | (simp; omega) | omega) (by first | exact Nat.le_of_ble_eq_true rfl | (simp; done) | (simp; omega) | omega) ?_
        refine ⟨a45, c64, b65, c66, rfl, rfl, rfl, ?_⟩
        have hs : strF p = [chF p (0 : Int32), chF p (1 : Int32)] := by simp [strF, c7, c8, c9]
        rw [hs]; exact S67
    · refine Go.new (pc' := 49) W6 (w_10 G) (w_11 G) (w_12 G) d_method_3_code_46 rfl (by first | exact Nat.le_of_ble_eq_true rfl | (simp; done) | (simp; omega) | omega) (by first | exact Nat.le_of_ble_eq_true rfl | (simp; done) | (simp; omega) | omega) (fun T72 a74 c75 W73 O76 D77 => ?_)
      replace W73 : Wk l Z EL1 ({ frames := 4, cells := 6, slots := 12, locals := 66 } : Room) "com/example/slicewise/slicewise/ThrownMatchesPinLaw" method_3_code 5 (some (.object "java/lang/String")) "str" X [(a74, c75)] [] T72 1 (4) := W73
      have F78 : FldC Z c75 "java/lang/String" "value" "[B" (.null) := D77 (Or.inr (w_26 G)) (ty := (.array .byte)) (by decide)
      have F79 : FldC Z c75 "java/lang/String" "coder" "B" (.int (0 : Int32)) := D77 (Or.inr (w_27 G)) (ty := .byte) (by decide)
      refine Go.dup (pc' := 50) W73 d_method_3_code_49 rfl rfl ?_
      refine Go.iconst (pc' := 51) W73 (1 : Int32) d_method_3_code_50 (by decide) rfl ?_
      refine Go.newarr (pc' := 53) W73 .char rfl 1 (w_13 G) d_method_3_code_51 rfl (by decide) (by decide) (by decide) (by first | exact Nat.le_of_ble_eq_true rfl | (simp; done) | (simp; omega) | omega) (by first | exact Nat.le_of_ble_eq_true rfl | (simp; done) | (simp; omega) | omega) (fun T80 a82 c83 W81 A84 => ?_)
      replace W81 : Wk l Z EL1 ({ frames := 4, cells := 6, slots := 12, locals := 66 } : Room) "com/example/slicewise/slicewise/ThrownMatchesPinLaw" method_3_code 5 (some (.object "java/lang/String")) "str" X [(a82, c83), (a74, c75)] [] T80 2 (5) := W81
      replace A84 : ArrC Z c83 .char [(.int (0 : Int32))] := A84
      refine Go.dup (pc' := 54) W81 d_method_3_code_53 rfl rfl ?_
      refine Go.iconst (pc' := 55) W81 (0 : Int32) d_method_3_code_54 (by decide) rfl ?_
      refine Go.iloadN (pc' := 56) W81 d_method_3_code_55 rfl rfl ?_
      refine Go.castore (pc' := 57) W81 0 rfl A84 0 (chF p (0 : Int32)) (nar_char_id (lat_char (chF_lat _ _))) (by decide) (by decide) (by simp) d_method_3_code_56 rfl (fun T85 c87 W86 A88 => ?_)
      replace W86 : Wk l Z EL1 ({ frames := 4, cells := 6, slots := 12, locals := 66 } : Room) "com/example/slicewise/slicewise/ThrownMatchesPinLaw" method_3_code 5 (some (.object "java/lang/String")) "str" X [(a82, c87), (a74, c75)] [] T85 2 (5) := W86
      replace A88 : ArrC Z c87 .char [(.int (chF p (0 : Int32)))] := A88
      refine Go.special (pc' := 60) W86 (a := a74) (rm_initC G a74 a82 c75 c87 [chF p (0 : Int32)] A88 O76 F79 F78 (Lat.cons (chF_lat _ _) Lat.nil) (by simp) (show ¬ (1 : Nat).toInt32 = 0 by decide)) rfl (w_14 G) (w_15 G) (w_12 G) (w_16 G) (by decide) [1, 0] [] (σf := []) rfl rfl [(.ref a82)] [(.ref a74)] rfl (lenOf pd_11 rfl) rfl rfl d_method_3_code_57 rfl (by first | exact Nat.le_of_ble_eq_true rfl | (simp; done) | (simp; omega) | omega) (by first | exact Nat.le_of_ble_eq_true rfl | (simp; done) | (simp; omega) | omega) (by first | exact Nat.le_of_ble_eq_true rfl | (simp; done) | (simp; omega) | omega) (by first | exact Nat.le_of_ble_eq_true rfl | (simp; done) | (simp; omega) | omega) ?_
      rintro _ _ _ T93 ⟨c89, b90, c91, rfl, rfl, rfl, S92⟩ W94
      replace W94 : Wk l Z EL1 ({ frames := 4, cells := 6, slots := 12, locals := 66 } : Room) "com/example/slicewise/slicewise/ThrownMatchesPinLaw" method_3_code 5 (some (.object "java/lang/String")) "str" X [(a82, c87)] [(a74, c89), (b90, c91)] T93 3 (6) := W94
      show Go Z EL1 _ _ _ X T93 60 #[.val (.int p), .val (.int (p &&& (3 : Int32))), .val (.int (chF p (0 : Int32))), .val (.int (chF p (1 : Int32))), .val (.int (chF p (2 : Int32)))] [(.ref a74)]
      have W95 := W94.drop [0] (σi := [(a82, c87)]) (σf := []) rfl
      replace W95 : Wk l Z EL1 ({ frames := 4, cells := 6, slots := 12, locals := 66 } : Room) "com/example/slicewise/slicewise/ThrownMatchesPinLaw" method_3_code 5 (some (.object "java/lang/String")) "str" X [] [(a74, c89), (b90, c91)] T93 3 (6) := W95
      have W96 := W95.keepRo [0, 1] (ρ' := [(a74, c89), (b90, c91)]) rfl
      replace W96 : Wk l Z EL1 ({ frames := 4, cells := 6, slots := 12, locals := 66 } : Room) "com/example/slicewise/slicewise/ThrownMatchesPinLaw" method_3_code 5 (some (.object "java/lang/String")) "str" X [] [(a74, c89), (b90, c91)] T93 3 (6) := W96
      refine Go.aret W96 rfl rfl d_method_3_code_60 (by first | exact Nat.le_of_ble_eq_true rfl | (simp; done) | (simp; omega) | omega) (by first | exact Nat.le_of_ble_eq_true rfl | (simp; done) | (simp; omega) | omega) ?_
      refine ⟨a74, c89, b90, c91, rfl, rfl, rfl, ?_⟩
      have hs : strF p = [chF p (0 : Int32)] := by simp [strF, c7, c8]
      rw [hs]; exact S92
  · refine Go.new (pc' := 33) W6 (w_10 G) (w_11 G) (w_12 G) d_method_3_code_30 rfl (by first | exact Nat.le_of_ble_eq_true rfl | (simp; done) | (simp; omega) | omega) (by first | exact Nat.le_of_ble_eq_true rfl | (simp; done) | (simp; omega) | omega) (fun T97 a99 c100 W98 O101 D102 => ?_)
    replace W98 : Wk l Z EL1 ({ frames := 4, cells := 6, slots := 12, locals := 66 } : Room) "com/example/slicewise/slicewise/ThrownMatchesPinLaw" method_3_code 5 (some (.object "java/lang/String")) "str" X [(a99, c100)] [] T97 1 (4) := W98
    have F103 : FldC Z c100 "java/lang/String" "value" "[B" (.null) := D102 (Or.inr (w_26 G)) (ty := (.array .byte)) (by decide)
    have F104 : FldC Z c100 "java/lang/String" "coder" "B" (.int (0 : Int32)) := D102 (Or.inr (w_27 G)) (ty := .byte) (by decide)
    refine Go.dup (pc' := 34) W98 d_method_3_code_33 rfl rfl ?_
    refine Go.iconst (pc' := 35) W98 (0 : Int32) d_method_3_code_34 (by decide) rfl ?_
    refine Go.newarr (pc' := 37) W98 .char rfl 0 (w_13 G) d_method_3_code_35 rfl (by decide) (by decide) (by decide) (by first | exact Nat.le_of_ble_eq_true rfl | (simp; done) | (simp; omega) | omega) (by first | exact Nat.le_of_ble_eq_true rfl | (simp; done) | (simp; omega) | omega) (fun T105 a107 c108 W106 A109 => ?_)
    replace W106 : Wk l Z EL1 ({ frames := 4, cells := 6, slots := 12, locals := 66 } : Room) "com/example/slicewise/slicewise/ThrownMatchesPinLaw" method_3_code 5 (some (.object "java/lang/String")) "str" X [(a107, c108), (a99, c100)] [] T105 2 (4) := W106
    replace A109 : ArrC Z c108 .char [] := A109
    refine Go.special (pc' := 40) W106 (a := a99) (rm_initC0 G a99 a107 c100 c108 A109 O101 F104 F103) rfl (w_14 G) (w_15 G) (w_12 G) (w_16 G) (by decide) [1, 0] [] (σf := []) rfl rfl [(.ref a107)] [(.ref a99)] rfl (lenOf pd_11 rfl) rfl rfl d_method_3_code_37 rfl (by first | exact Nat.le_of_ble_eq_true rfl | (simp; done) | (simp; omega) | omega) (by first | exact Nat.le_of_ble_eq_true rfl | (simp; done) | (simp; omega) | omega) (by first | exact Nat.le_of_ble_eq_true rfl | (simp; done) | (simp; omega) | omega) (by first | exact Nat.le_of_ble_eq_true rfl | (simp; done) | (simp; omega) | omega) ?_
    rintro _ _ _ T114 ⟨c110, b111, c112, rfl, rfl, rfl, S113⟩ W115
    replace W115 : Wk l Z EL1 ({ frames := 4, cells := 6, slots := 12, locals := 66 } : Room) "com/example/slicewise/slicewise/ThrownMatchesPinLaw" method_3_code 5 (some (.object "java/lang/String")) "str" X [(a107, c108)] [(a99, c110), (b111, c112)] T114 6 (12) := W115
    show Go Z EL1 _ _ _ X T114 40 #[.val (.int p), .val (.int (p &&& (3 : Int32))), .val (.int (chF p (0 : Int32))), .val (.int (chF p (1 : Int32))), .val (.int (chF p (2 : Int32)))] [(.ref a99)]
    have W116 := W115.drop [0] (σi := [(a107, c108)]) (σf := []) rfl
    replace W116 : Wk l Z EL1 ({ frames := 4, cells := 6, slots := 12, locals := 66 } : Room) "com/example/slicewise/slicewise/ThrownMatchesPinLaw" method_3_code 5 (some (.object "java/lang/String")) "str" X [] [(a99, c110), (b111, c112)] T114 6 (12) := W116
    have W117 := W116.keepRo [0, 1] (ρ' := [(a99, c110), (b111, c112)]) rfl
    replace W117 : Wk l Z EL1 ({ frames := 4, cells := 6, slots := 12, locals := 66 } : Room) "com/example/slicewise/slicewise/ThrownMatchesPinLaw" method_3_code 5 (some (.object "java/lang/String")) "str" X [] [(a99, c110), (b111, c112)] T114 6 (12) := W117
    refine Go.aret W117 rfl rfl d_method_3_code_40 (by first | exact Nat.le_of_ble_eq_true rfl | (simp; done) | (simp; omega) | omega) (by first | exact Nat.le_of_ble_eq_true rfl | (simp; done) | (simp; omega) | omega) ?_
    refine ⟨a99, c110, b111, c112, rfl, rfl, rfl, ?_⟩
    have hs : strF p = [] := by simp [strF, c7]
    rw [hs]; exact S113
theorem d_method_5_code_0 : decode method_5_code 0 = .ok (.iload_n 0, 1) := by decide +kernel
theorem d_method_5_code_1 : decode method_5_code 1 = .ok (.iconst 3, 1) := by decide +kernel
theorem d_method_5_code_2 : decode method_5_code 2 = .ok (.iand, 1) := by decide +kernel
theorem d_method_5_code_3 : decode method_5_code 3 = .ok (.istore_n 2, 1) := by decide +kernel
theorem d_method_5_code_4 : decode method_5_code 4 = .ok (.iload_n 1, 1) := by decide +kernel
theorem d_method_5_code_5 : decode method_5_code 5 = .ok (.iconst 3, 1) := by decide +kernel
theorem d_method_5_code_6 : decode method_5_code 6 = .ok (.iand, 1) := by decide +kernel
theorem d_method_5_code_7 : decode method_5_code 7 = .ok (.istore_n 3, 1) := by decide +kernel
theorem d_method_5_code_8 : decode method_5_code 8 = .ok (.iload_n 2, 1) := by decide +kernel
theorem d_method_5_code_9 : decode method_5_code 9 = .ok (.iload_n 3, 1) := by decide +kernel
theorem d_method_5_code_10 : decode method_5_code 10 = .ok (.if_icmp .eq 5, 3) := by decide +kernel
theorem d_method_5_code_15 : decode method_5_code 15 = .ok (.iload_n 2, 1) := by decide +kernel
theorem d_method_5_code_16 : decode method_5_code 16 = .ok (.iconst 1, 1) := by decide +kernel
theorem d_method_5_code_17 : decode method_5_code 17 = .ok (.if_icmp .lt 18, 3) := by decide +kernel
theorem d_method_5_code_35 : decode method_5_code 35 = .ok (.iload_n 2, 1) := by decide +kernel
theorem d_method_5_code_36 : decode method_5_code 36 = .ok (.iconst 2, 1) := by decide +kernel
theorem d_method_5_code_37 : decode method_5_code 37 = .ok (.if_icmp .lt 18, 3) := by decide +kernel
theorem d_method_5_code_55 : decode method_5_code 55 = .ok (.iload_n 2, 1) := by decide +kernel
theorem d_method_5_code_56 : decode method_5_code 56 = .ok (.iconst 3, 1) := by decide +kernel
theorem d_method_5_code_57 : decode method_5_code 57 = .ok (.if_icmp .lt 18, 3) := by decide +kernel
theorem d_method_5_code_75 : decode method_5_code 75 = .ok (.iconst 1, 1) := by decide +kernel
theorem d_method_5_code_76 : decode method_5_code 76 = .ok (.ireturn, 1) := by decide +kernel
theorem d_method_5_code_60 : decode method_5_code 60 = .ok (.iload_n 0, 1) := by decide +kernel
theorem d_method_5_code_61 : decode method_5_code 61 = .ok (.iconst 2, 1) := by decide +kernel
theorem d_method_5_code_62 : decode method_5_code 62 = .ok (.invokestatic 7, 3) := by decide +kernel
theorem d_method_5_code_65 : decode method_5_code 65 = .ok (.iload_n 1, 1) := by decide +kernel
theorem d_method_5_code_66 : decode method_5_code 66 = .ok (.iconst 2, 1) := by decide +kernel
theorem d_method_5_code_67 : decode method_5_code 67 = .ok (.invokestatic 7, 3) := by decide +kernel
theorem d_method_5_code_70 : decode method_5_code 70 = .ok (.if_icmp .eq 5, 3) := by decide +kernel
theorem d_method_5_code_73 : decode method_5_code 73 = .ok (.iconst 0, 1) := by decide +kernel
theorem d_method_5_code_74 : decode method_5_code 74 = .ok (.ireturn, 1) := by decide +kernel
theorem d_method_5_code_40 : decode method_5_code 40 = .ok (.iload_n 0, 1) := by decide +kernel
theorem d_method_5_code_41 : decode method_5_code 41 = .ok (.iconst 1, 1) := by decide +kernel
theorem d_method_5_code_42 : decode method_5_code 42 = .ok (.invokestatic 7, 3) := by decide +kernel
theorem d_method_5_code_45 : decode method_5_code 45 = .ok (.iload_n 1, 1) := by decide +kernel
theorem d_method_5_code_46 : decode method_5_code 46 = .ok (.iconst 1, 1) := by decide +kernel
theorem d_method_5_code_47 : decode method_5_code 47 = .ok (.invokestatic 7, 3) := by decide +kernel
theorem d_method_5_code_50 : decode method_5_code 50 = .ok (.if_icmp .eq 5, 3) := by decide +kernel
theorem d_method_5_code_53 : decode method_5_code 53 = .ok (.iconst 0, 1) := by decide +kernel
theorem d_method_5_code_54 : decode method_5_code 54 = .ok (.ireturn, 1) := by decide +kernel
theorem d_method_5_code_20 : decode method_5_code 20 = .ok (.iload_n 0, 1) := by decide +kernel
theorem d_method_5_code_21 : decode method_5_code 21 = .ok (.iconst 0, 1) := by decide +kernel
theorem d_method_5_code_22 : decode method_5_code 22 = .ok (.invokestatic 7, 3) := by decide +kernel
theorem d_method_5_code_25 : decode method_5_code 25 = .ok (.iload_n 1, 1) := by decide +kernel
theorem d_method_5_code_26 : decode method_5_code 26 = .ok (.iconst 0, 1) := by decide +kernel
theorem d_method_5_code_27 : decode method_5_code 27 = .ok (.invokestatic 7, 3) := by decide +kernel
theorem d_method_5_code_30 : decode method_5_code 30 = .ok (.if_icmp .eq 5, 3) := by decide +kernel
theorem d_method_5_code_33 : decode method_5_code 33 = .ok (.iconst 0, 1) := by decide +kernel
theorem d_method_5_code_34 : decode method_5_code 34 = .ok (.ireturn, 1) := by decide +kernel
theorem d_method_5_code_13 : decode method_5_code 13 = .ok (.iconst 0, 1) := by decide +kernel
theorem d_method_5_code_14 : decode method_5_code 14 = .ok (.ireturn, 1) := by decide +kernel
set_option maxRecDepth 65536 in
set_option maxHeartbeats 40000000 in
theorem rm_same {l : Launch} {Z : State} {a0 : Array Value} (G : Cl Z a0) (p q : Int32) :
    Met l Z EL1 (⟨"com/example/slicewise/slicewise/ThrownMatchesPinLaw", "same", "(II)Z"⟩ : MethodName) method_5_code 4 (some .boolean) ({ frames := 1, cells := 0, slots := 0, locals := 14 } : Room) #[.int p, .int q] [] [] (fun v σ ρ => v = some (.int (if strF p = strF q then 1 else 0)) ∧ σ = [] ∧ ρ = []) := by
  refine Met.walk G.2.1 pn_9 #[.val (.int p), .val (.int q), .unset, .unset] (fun m => by first | (simp [entryFrame, mkF, argsToLocals, Value.category]; done) | rfl) ?_
  intro X T0 W0
  refine Go.iloadN (pc' := 1) W0 d_method_5_code_0 rfl rfl ?_
  refine Go.iconst (pc' := 2) W0 (3 : Int32) d_method_5_code_1 (by decide) rfl ?_
  refine Go.iand (pc' := 3) W0 d_method_5_code_2 rfl ?_
  refine Go.istoreN (pc' := 4) W0 #[.val (.int p), .val (.int q), .val (.int (p &&& (3 : Int32))), .unset] d_method_5_code_3 rfl rfl ?_
  refine Go.iloadN (pc' := 5) W0 d_method_5_code_4 rfl rfl ?_
  refine Go.iconst (pc' := 6) W0 (3 : Int32) d_method_5_code_5 (by decide) rfl ?_
  refine Go.iand (pc' := 7) W0 d_method_5_code_6 rfl ?_
  refine Go.istoreN (pc' := 8) W0 #[.val (.int p), .val (.int q), .val (.int (p &&& (3 : Int32))), .val (.int (q &&& (3 : Int32)))] d_method_5_code_7 rfl rfl ?_
  refine Go.iloadN (pc' := 9) W0 d_method_5_code_8 rfl rfl ?_
  refine Go.iloadN (pc' := 10) W0 d_method_5_code_9 rfl rfl ?_
  refine Go.icmp_eq (pc' := 13) W0 15 d_method_5_code_10 (by decide) rfl (fun (c1 : (p &&& (3 : Int32)) = (q &&& (3 : Int32))) => ?_) (fun (c1 : ¬ ((p &&& (3 : Int32)) = (q &&& (3 : Int32)))) => ?_)
  · refine Go.iloadN (pc' := 16) W0 d_method_5_code_15 rfl rfl ?_
    refine Go.iconst (pc' := 17) W0 (1 : Int32) d_method_5_code_16 (by decide) rfl ?_
    refine Go.icmp_lt (pc' := 20) W0 35 d_method_5_code_17 (by decide) rfl (fun (c2 : (p &&& (3 : Int32)) < (1 : Int32)) => ?_) (fun (c2 : ¬ ((p &&& (3 : Int32)) < (1 : Int32))) => ?_)
    · refine Go.iloadN (pc' := 36) W0 d_method_5_code_35 rfl rfl ?_
      refine Go.iconst (pc' := 37) W0 (2 : Int32) d_method_5_code_36 (by decide) rfl ?_
      refine Go.icmp_lt (pc' := 40) W0 55 d_method_5_code_37 (by decide) rfl (fun (c3 : (p &&& (3 : Int32)) < (2 : Int32)) => ?_) (fun (c3 : ¬ ((p &&& (3 : Int32)) < (2 : Int32))) => ?_)
      · refine Go.iloadN (pc' := 56) W0 d_method_5_code_55 rfl rfl ?_
        refine Go.iconst (pc' := 57) W0 (3 : Int32) d_method_5_code_56 (by decide) rfl ?_
        refine Go.icmp_lt (pc' := 60) W0 75 d_method_5_code_57 (by decide) rfl (fun (c4 : (p &&& (3 : Int32)) < (3 : Int32)) => ?_) (fun (c4 : ¬ ((p &&& (3 : Int32)) < (3 : Int32))) => ?_)
        · refine Go.iconst (pc' := 76) W0 (1 : Int32) d_method_5_code_75 (by decide) rfl ?_
          refine Go.nret (z' := (1 : Int32)) W0 (by simp) (by decide) d_method_5_code_76 (by first | exact Nat.le_of_ble_eq_true rfl | (simp; done) | (simp; omega) | omega) (by first | exact Nat.le_of_ble_eq_true rfl | (simp; done) | (simp; omega) | omega) ?_
          refine ⟨?_, rfl, rfl⟩
          rcases and3 p with h | h | h | h <;> rcases and3 q with h' | h' | h' | h' <;> simp_all [strF]
        · refine Go.iloadN (pc' := 61) W0 d_method_5_code_60 rfl rfl ?_
          refine Go.iconst (pc' := 62) W0 (2 : Int32) d_method_5_code_61 (by decide) rfl ?_
          refine Go.static (pc' := 65) W0 (rm_ch G p (2 : Int32)) (w_7 G) (w_8 G) (w_5 G) (w_9 G) (by decide) [] [] (σf := []) rfl rfl [(.int p), (.int (2 : Int32))] [] rfl (lenOf pd_10 rfl) rfl rfl d_method_5_code_62 rfl (by first | exact Nat.le_of_ble_eq_true rfl | (simp; done) | (simp; omega) | omega) (by first | exact Nat.le_of_ble_eq_true rfl | (simp; done) | (simp; omega) | omega) (by first | exact Nat.le_of_ble_eq_true rfl | (simp; done) | (simp; omega) | omega) (by first | exact Nat.le_of_ble_eq_true rfl | (simp; done) | (simp; omega) | omega) ?_
          rintro _ _ _ T5 ⟨rfl, rfl, rfl⟩ W6
          replace W6 : Wk l Z EL1 ({ frames := 1, cells := 0, slots := 0, locals := 14 } : Room) "com/example/slicewise/slicewise/ThrownMatchesPinLaw" method_5_code 4 (some .boolean) "same" X [] [] T5 0 (0) := W6
          show Go Z EL1 _ _ _ X T5 65 #[.val (.int p), .val (.int q), .val (.int (p &&& (3 : Int32))), .val (.int (q &&& (3 : Int32)))] [(.int (chF p (2 : Int32)))]
          refine Go.iloadN (pc' := 66) W6 d_method_5_code_65 rfl rfl ?_
          refine Go.iconst (pc' := 67) W6 (2 : Int32) d_method_5_code_66 (by decide) rfl ?_
          refine Go.static (pc' := 70) W6 (rm_ch G q (2 : Int32)) (w_7 G) (w_8 G) (w_5 G) (w_9 G) (by decide) [] [] (σf := []) rfl rfl [(.int q), (.int (2 : Int32))] [(.int (chF p (2 : Int32)))] rfl (lenOf pd_10 rfl) rfl rfl d_method_5_code_67 rfl (by first | exact Nat.le_of_ble_eq_true rfl | (simp; done) | (simp; omega) | omega) (by first | exact Nat.le_of_ble_eq_true rfl | (simp; done) | (simp; omega) | omega) (by first | exact Nat.le_of_ble_eq_true rfl | (simp; done) | (simp; omega) | omega) (by first | exact Nat.le_of_ble_eq_true rfl | (simp; done) | (simp; omega) | omega) ?_
          rintro _ _ _ T7 ⟨rfl, rfl, rfl⟩ W8
          replace W8 : Wk l Z EL1 ({ frames := 1, cells := 0, slots := 0, locals := 14 } : Room) "com/example/slicewise/slicewise/ThrownMatchesPinLaw" method_5_code 4 (some .boolean) "same" X [] [] T7 0 (0) := W8
          show Go Z EL1 _ _ _ X T7 70 #[.val (.int p), .val (.int q), .val (.int (p &&& (3 : Int32))), .val (.int (q &&& (3 : Int32)))] [(.int (chF q (2 : Int32))), (.int (chF p (2 : Int32)))]
          refine Go.icmp_eq (pc' := 73) W8 75 d_method_5_code_70 (by decide) rfl (fun (c9 : (chF p (2 : Int32)) = (chF q (2 : Int32))) => ?_) (fun (c9 : ¬ ((chF p (2 : Int32)) = (chF q (2 : Int32)))) => ?_)
          · refine Go.iconst (pc' := 76) W8 (1 : Int32) d_method_5_code_75 (by decide) rfl ?_
            refine Go.nret (z' := (1 : Int32)) W8 (by simp) (by decide) d_method_5_code_76 (by first | exact Nat.le_of_ble_eq_true rfl | (simp; done) | (simp; omega) | omega) (by first | exact Nat.le_of_ble_eq_true rfl | (simp; done) | (simp; omega) | omega) ?_
            refine ⟨?_, rfl, rfl⟩
            rcases and3 p with h | h | h | h <;> rcases and3 q with h' | h' | h' | h' <;> simp_all [strF]
          · refine Go.iconst (pc' := 74) W8 (0 : Int32) d_method_5_code_73 (by decide) rfl ?_
            refine Go.nret (z' := (0 : Int32)) W8 (by simp) (by decide) d_method_5_code_74 (by first | exact Nat.le_of_ble_eq_true rfl | (simp; done) | (simp; omega) | omega) (by first | exact Nat.le_of_ble_eq_true rfl | (simp; done) | (simp; omega) | omega) ?_
            refine ⟨?_, rfl, rfl⟩
            rcases and3 p with h | h | h | h <;> rcases and3 q with h' | h' | h' | h' <;> simp_all [strF]
      · refine Go.iloadN (pc' := 41) W0 d_method_5_code_40 rfl rfl ?_
        refine Go.iconst (pc' := 42) W0 (1 : Int32) d_method_5_code_41 (by decide) rfl ?_
        refine Go.static (pc' := 45) W0 (rm_ch G p (1 : Int32)) (w_7 G) (w_8 G) (w_5 G) (w_9 G) (by decide) [] [] (σf := []) rfl rfl [(.int p), (.int (1 : Int32))] [] rfl (lenOf pd_10 rfl) rfl rfl d_method_5_code_42 rfl (by first | exact Nat.le_of_ble_eq_true rfl | (simp; done) | (simp; omega) | omega) (by first | exact Nat.le_of_ble_eq_true rfl | (simp; done) | (simp; omega) | omega) (by first | exact Nat.le_of_ble_eq_true rfl | (simp; done) | (simp; omega) | omega) (by first | exact Nat.le_of_ble_eq_true rfl | (simp; done) | (simp; omega) | omega) ?_
        rintro _ _ _ T10 ⟨rfl, rfl, rfl⟩ W11
        replace W11 : Wk l Z EL1 ({ frames := 1, cells := 0, slots := 0, locals := 14 } : Room) "com/example/slicewise/slicewise/ThrownMatchesPinLaw" method_5_code 4 (some .boolean) "same" X [] [] T10 0 (0) := W11
        show Go Z EL1 _ _ _ X T10 45 #[.val (.int p), .val (.int q), .val (.int (p &&& (3 : Int32))), .val (.int (q &&& (3 : Int32)))] [(.int (chF p (1 : Int32)))]
        refine Go.iloadN (pc' := 46) W11 d_method_5_code_45 rfl rfl ?_
        refine Go.iconst (pc' := 47) W11 (1 : Int32) d_method_5_code_46 (by decide) rfl ?_
        refine Go.static (pc' := 50) W11 (rm_ch G q (1 : Int32)) (w_7 G) (w_8 G) (w_5 G) (w_9 G) (by decide) [] [] (σf := []) rfl rfl [(.int q), (.int (1 : Int32))] [(.int (chF p (1 : Int32)))] rfl (lenOf pd_10 rfl) rfl rfl d_method_5_code_47 rfl (by first | exact Nat.le_of_ble_eq_true rfl | (simp; done) | (simp; omega) | omega) (by first | exact Nat.le_of_ble_eq_true rfl | (simp; done) | (simp; omega) | omega) (by first | exact Nat.le_of_ble_eq_true rfl | (simp; done) | (simp; omega) | omega) (by first | exact Nat.le_of_ble_eq_true rfl | (simp; done) | (simp; omega) | omega) ?_
        rintro _ _ _ T12 ⟨rfl, rfl, rfl⟩ W13
        replace W13 : Wk l Z EL1 ({ frames := 1, cells := 0, slots := 0, locals := 14 } : Room) "com/example/slicewise/slicewise/ThrownMatchesPinLaw" method_5_code 4 (some .boolean) "same" X [] [] T12 0 (0) := W13
        show Go Z EL1 _ _ _ X T12 50 #[.val (.int p), .val (.int q), .val (.int (p &&& (3 : Int32))), .val (.int (q &&& (3 : Int32)))] [(.int (chF q (1 : Int32))), (.int (chF p (1 : Int32)))]
        refine Go.icmp_eq (pc' := 53) W13 55 d_method_5_code_50 (by decide) rfl (fun (c14 : (chF p (1 : Int32)) = (chF q (1 : Int32))) => ?_) (fun (c14 : ¬ ((chF p (1 : Int32)) = (chF q (1 : Int32)))) => ?_)
        · refine Go.iloadN (pc' := 56) W13 d_method_5_code_55 rfl rfl ?_
          refine Go.iconst (pc' := 57) W13 (3 : Int32) d_method_5_code_56 (by decide) rfl ?_
          refine Go.icmp_lt (pc' := 60) W13 75 d_method_5_code_57 (by decide) rfl (fun (c15 : (p &&& (3 : Int32)) < (3 : Int32)) => ?_) (fun (c15 : ¬ ((p &&& (3 : Int32)) < (3 : Int32))) => ?_)
          · refine Go.iconst (pc' := 76) W13 (1 : Int32) d_method_5_code_75 (by decide) rfl ?_
            refine Go.nret (z' := (1 : Int32)) W13 (by simp) (by decide) d_method_5_code_76 (by first | exact Nat.le_of_ble_eq_true rfl | (simp; done) | (simp; omega) | omega) (by first | exact Nat.le_of_ble_eq_true rfl | (simp; done) | (simp; omega) | omega) ?_
            refine ⟨?_, rfl, rfl⟩
            rcases and3 p with h | h | h | h <;> rcases and3 q with h' | h' | h' | h' <;> simp_all [strF]
          · refine Go.iloadN (pc' := 61) W13 d_method_5_code_60 rfl rfl ?_
            refine Go.iconst (pc' := 62) W13 (2 : Int32) d_method_5_code_61 (by decide) rfl ?_
            refine Go.static (pc' := 65) W13 (rm_ch G p (2 : Int32)) (w_7 G) (w_8 G) (w_5 G) (w_9 G) (by decide) [] [] (σf := []) rfl rfl [(.int p), (.int (2 : Int32))] [] rfl (lenOf pd_10 rfl) rfl rfl d_method_5_code_62 rfl (by first | exact Nat.le_of_ble_eq_true rfl | (simp; done) | (simp; omega) | omega) (by first | exact Nat.le_of_ble_eq_true rfl | (simp; done) | (simp; omega) | omega) (by first | exact Nat.le_of_ble_eq_true rfl | (simp; done) | (simp; omega) | omega) (by first | exact Nat.le_of_ble_eq_true rfl | (simp; done) | (simp; omega) | omega) ?_
            rintro _ _ _ T16 ⟨rfl, rfl, rfl⟩ W17
            replace W17 : Wk l Z EL1 ({ frames := 1, cells := 0, slots := 0, locals := 14 } : Room) "com/example/slicewise/slicewise/ThrownMatchesPinLaw" method_5_code 4 (some .boolean) "same" X [] [] T16 0 (0) := W17
            show Go Z EL1 _ _ _ X T16 65 #[.val (.int p), .val (.int q), .val (.int (p &&& (3 : Int32))), .val (.int (q &&& (3 : Int32)))] [(.int (chF p (2 : Int32)))]
            refine Go.iloadN (pc' := 66) W17 d_method_5_code_65 rfl rfl ?_
            refine Go.iconst (pc' := 67) W17 (2 : Int32) d_method_5_code_66 (by decide) rfl ?_
            refine Go.static (pc' := 70) W17 (rm_ch G q (2 : Int32)) (w_7 G) (w_8 G) (w_5 G) (w_9 G) (by decide) [] [] (σf := []) rfl rfl [(.int q), (.int (2 : Int32))] [(.int (chF p (2 : Int32)))] rfl (lenOf pd_10 rfl) rfl rfl d_method_5_code_67 rfl (by first | exact Nat.le_of_ble_eq_true rfl | (simp; done) | (simp; omega) | omega) (by first | exact Nat.le_of_ble_eq_true rfl | (simp; done) | (simp; omega) | omega) (by first | exact Nat.le_of_ble_eq_true rfl | (simp; done) | (simp; omega) | omega) (by first | exact Nat.le_of_ble_eq_true rfl | (simp; done) | (simp; omega) | omega) ?_
            rintro _ _ _ T18 ⟨rfl, rfl, rfl⟩ W19
            replace W19 : Wk l Z EL1 ({ frames := 1, cells := 0, slots := 0, locals := 14 } : Room) "com/example/slicewise/slicewise/ThrownMatchesPinLaw" method_5_code 4 (some .boolean) "same" X [] [] T18 0 (0) := W19
            show Go Z EL1 _ _ _ X T18 70 #[.val (.int p), .val (.int q), .val (.int (p &&& (3 : Int32))), .val (.int (q &&& (3 : Int32)))] [(.int (chF q (2 : Int32))), (.int (chF p (2 : Int32)))]
            refine Go.icmp_eq (pc' := 73) W19 75 d_method_5_code_70 (by decide) rfl (fun (c20 : (chF p (2 : Int32)) = (chF q (2 : Int32))) => ?_) (fun (c20 : ¬ ((chF p (2 : Int32)) = (chF q (2 : Int32)))) => ?_)
            · refine Go.iconst (pc' := 76) W19 (1 : Int32) d_method_5_code_75 (by decide) rfl ?_
              refine Go.nret (z' := (1 : Int32)) W19 (by simp) (by decide) d_method_5_code_76 (by first | exact Nat.le_of_ble_eq_true rfl | (simp; done) | (simp; omega) | omega) (by first | exact Nat.le_of_ble_eq_true rfl | (simp; done) | (simp; omega) | omega) ?_
              refine ⟨?_, rfl, rfl⟩
              rcases and3 p with h | h | h | h <;> rcases and3 q with h' | h' | h' | h' <;> simp_all [strF]
            · refine Go.iconst (pc' := 74) W19 (0 : Int32) d_method_5_code_73 (by decide) rfl ?_
              refine Go.nret (z' := (0 : Int32)) W19 (by simp) (by decide) d_method_5_code_74 (by first | exact Nat.le_of_ble_eq_true rfl | (simp; done) | (simp; omega) | omega) (by first | exact Nat.le_of_ble_eq_true rfl | (simp; done) | (simp; omega) | omega) ?_
              refine ⟨?_, rfl, rfl⟩
              rcases and3 p with h | h | h | h <;> rcases and3 q with h' | h' | h' | h' <;> simp_all [strF]
        · refine Go.iconst (pc' := 54) W13 (0 : Int32) d_method_5_code_53 (by decide) rfl ?_
          refine Go.nret (z' := (0 : Int32)) W13 (by simp) (by decide) d_method_5_code_54 (by first | exact Nat.le_of_ble_eq_true rfl | (simp; done) | (simp; omega) | omega) (by first | exact Nat.le_of_ble_eq_true rfl | (simp; done) | (simp; omega) | omega) ?_
          refine ⟨?_, rfl, rfl⟩
          rcases and3 p with h | h | h | h <;> rcases and3 q with h' | h' | h' | h' <;> simp_all [strF]
    · refine Go.iloadN (pc' := 21) W0 d_method_5_code_20 rfl rfl ?_
      refine Go.iconst (pc' := 22) W0 (0 : Int32) d_method_5_code_21 (by decide) rfl ?_
      refine Go.static (pc' := 25) W0 (rm_ch G p (0 : Int32)) (w_7 G) (w_8 G) (w_5 G) (w_9 G) (by decide) [] [] (σf := []) rfl rfl [(.int p), (.int (0 : Int32))] [] rfl (lenOf pd_10 rfl) rfl rfl d_method_5_code_22 rfl (by first | exact Nat.le_of_ble_eq_true rfl | (simp; done) | (simp; omega) | omega) (by first | exact Nat.le_of_ble_eq_true rfl | (simp; done) | (simp; omega) | omega) (by first | exact Nat.le_of_ble_eq_true rfl | (simp; done) | (simp; omega) | omega) (by first | exact Nat.le_of_ble_eq_true rfl | (simp; done) | (simp; omega) | omega) ?_
      rintro _ _ _ T21 ⟨rfl, rfl, rfl⟩ W22
      replace W22 : Wk l Z EL1 ({ frames := 1, cells := 0, slots := 0, locals := 14 } : Room) "com/example/slicewise/slicewise/ThrownMatchesPinLaw" method_5_code 4 (some .boolean) "same" X [] [] T21 0 (0) := W22
      show Go Z EL1 _ _ _ X T21 25 #[.val (.int p), .val (.int q), .val (.int (p &&& (3 : Int32))), .val (.int (q &&& (3 : Int32)))] [(.int (chF p (0 : Int32)))]
      refine Go.iloadN (pc' := 26) W22 d_method_5_code_25 rfl rfl ?_
      refine Go.iconst (pc' := 27) W22 (0 : Int32) d_method_5_code_26 (by decide) rfl ?_
      refine Go.static (pc' := 30) W22 (rm_ch G q (0 : Int32)) (w_7 G) (w_8 G) (w_5 G) (w_9 G) (by decide) [] [] (σf := []) rfl rfl [(.int q), (.int (0 : Int32))] [(.int (chF p (0 : Int32)))] rfl (lenOf pd_10 rfl) rfl rfl d_method_5_code_27 rfl (by first | exact Nat.le_of_ble_eq_true rfl | (simp; done) | (simp; omega) | omega) (by first | exact Nat.le_of_ble_eq_true rfl | (simp; done) | (simp; omega) | omega) (by first | exact Nat.le_of_ble_eq_true rfl | (simp; done) | (simp; omega) | omega) (by first | exact Nat.le_of_ble_eq_true rfl | (simp; done) | (simp; omega) | omega) ?_
      rintro _ _ _ T23 ⟨rfl, rfl, rfl⟩ W24
      replace W24 : Wk l Z EL1 ({ frames := 1, cells := 0, slots := 0, locals := 14 } : Room) "com/example/slicewise/slicewise/ThrownMatchesPinLaw" method_5_code 4 (some .boolean) "same" X [] [] T23 0 (0) := W24
      show Go Z EL1 _ _ _ X T23 30 #[.val (.int p), .val (.int q), .val (.int (p &&& (3 : Int32))), .val (.int (q &&& (3 : Int32)))] [(.int (chF q (0 : Int32))), (.int (chF p (0 : Int32)))]
      refine Go.icmp_eq (pc' := 33) W24 35 d_method_5_code_30 (by decide) rfl (fun (c25 : (chF p (0 : Int32)) = (chF q (0 : Int32))) => ?_) (fun (c25 : ¬ ((chF p (0 : Int32)) = (chF q (0 : Int32)))) => ?_)
      · refine Go.iloadN (pc' := 36) W24 d_method_5_code_35 rfl rfl ?_
        refine Go.iconst (pc' := 37) W24 (2 : Int32) d_method_5_code_36 (by decide) rfl ?_
        refine Go.icmp_lt (pc' := 40) W24 55 d_method_5_code_37 (by decide) rfl (fun (c26 : (p &&& (3 : Int32)) < (2 : Int32)) => ?_) (fun (c26 : ¬ ((p &&& (3 : Int32)) < (2 : Int32))) => ?_)
        · refine Go.iloadN (pc' := 56) W24 d_method_5_code_55 rfl rfl ?_
          refine Go.iconst (pc' := 57) W24 (3 : Int32) d_method_5_code_56 (by decide) rfl ?_
          refine Go.icmp_lt (pc' := 60) W24 75 d_method_5_code_57 (by decide) rfl (fun (c27 : (p &&& (3 : Int32)) < (3 : Int32)) => ?_) (fun (c27 : ¬ ((p &&& (3 : Int32)) < (3 : Int32))) => ?_)
          · refine Go.iconst (pc' := 76) W24 (1 : Int32) d_method_5_code_75 (by decide) rfl ?_
            refine Go.nret (z' := (1 : Int32)) W24 (by simp) (by decide) d_method_5_code_76 (by first | exact Nat.le_of_ble_eq_true rfl | (simp; done) | (simp; omega) | omega) (by first | exact Nat.le_of_ble_eq_true rfl | (simp; done) | (simp; omega) | omega) ?_
            refine ⟨?_, rfl, rfl⟩
            rcases and3 p with h | h | h | h <;> rcases and3 q with h' | h' | h' | h' <;> simp_all [strF]
          · refine Go.iloadN (pc' := 61) W24 d_method_5_code_60 rfl rfl ?_
            refine Go.iconst (pc' := 62) W24 (2 : Int32) d_method_5_code_61 (by decide) rfl ?_
            refine Go.static (pc' := 65) W24 (rm_ch G p (2 : Int32)) (w_7 G) (w_8 G) (w_5 G) (w_9 G) (by decide) [] [] (σf := []) rfl rfl [(.int p), (.int (2 : Int32))] [] rfl (lenOf pd_10 rfl) rfl rfl d_method_5_code_62 rfl (by first | exact Nat.le_of_ble_eq_true rfl | (simp; done) | (simp; omega) | omega) (by first | exact Nat.le_of_ble_eq_true rfl | (simp; done) | (simp; omega) | omega) (by first | exact Nat.le_of_ble_eq_true rfl | (simp; done) | (simp; omega) | omega) (by first | exact Nat.le_of_ble_eq_true rfl | (simp; done) | (simp; omega) | omega) ?_
            rintro _ _ _ T28 ⟨rfl, rfl, rfl⟩ W29
            replace W29 : Wk l Z EL1 ({ frames := 1, cells := 0, slots := 0, locals := 14 } : Room) "com/example/slicewise/slicewise/ThrownMatchesPinLaw" method_5_code 4 (some .boolean) "same" X [] [] T28 0 (0) := W29
            show Go Z EL1 _ _ _ X T28 65 #[.val (.int p), .val (.int q), .val (.int (p &&& (3 : Int32))), .val (.int (q &&& (3 : Int32)))] [(.int (chF p (2 : Int32)))]
            refine Go.iloadN (pc' := 66) W29 d_method_5_code_65 rfl rfl ?_
            refine Go.iconst (pc' := 67) W29 (2 : Int32) d_method_5_code_66 (by decide) rfl ?_
            refine Go.static (pc' := 70) W29 (rm_ch G q (2 : Int32)) (w_7 G) (w_8 G) (w_5 G) (w_9 G) (by decide) [] [] (σf := []) rfl rfl [(.int q), (.int (2 : Int32))] [(.int (chF p (2 : Int32)))] rfl (lenOf pd_10 rfl) rfl rfl d_method_5_code_67 rfl (by first | exact Nat.le_of_ble_eq_true rfl | (simp; done) | (simp; omega) | omega) (by first | exact Nat.le_of_ble_eq_true rfl | (simp; done) | (simp; omega) | omega) (by first | exact Nat.le_of_ble_eq_true rfl | (simp; done) | (simp; omega) | omega) (by first | exact Nat.le_of_ble_eq_true rfl | (simp; done) | (simp; omega) | omega) ?_
            rintro _ _ _ T30 ⟨rfl, rfl, rfl⟩ W31
            replace W31 : Wk l Z EL1 ({ frames := 1, cells := 0, slots := 0, locals := 14 } : Room) "com/example/slicewise/slicewise/ThrownMatchesPinLaw" method_5_code 4 (some .boolean) "same" X [] [] T30 0 (0) := W31
            show Go Z EL1 _ _ _ X T30 70 #[.val (.int p), .val (.int q), .val (.int (p &&& (3 : Int32))), .val (.int (q &&& (3 : Int32)))] [(.int (chF q (2 : Int32))), (.int (chF p (2 : Int32)))]
            refine Go.icmp_eq (pc' := 73) W31 75 d_method_5_code_70 (by decide) rfl (fun (c32 : (chF p (2 : Int32)) = (chF q (2 : Int32))) => ?_) (fun (c32 : ¬ ((chF p (2 : Int32)) = (chF q (2 : Int32)))) => ?_)
            · refine Go.iconst (pc' := 76) W31 (1 : Int32) d_method_5_code_75 (by decide) rfl ?_
              refine Go.nret (z' := (1 : Int32)) W31 (by simp) (by decide) d_method_5_code_76 (by first | exact Nat.le_of_ble_eq_true rfl | (simp; done) | (simp; omega) | omega) (by first | exact Nat.le_of_ble_eq_true rfl | (simp; done) | (simp; omega) | omega) ?_
              refine ⟨?_, rfl, rfl⟩
              rcases and3 p with h | h | h | h <;> rcases and3 q with h' | h' | h' | h' <;> simp_all [strF]
            · refine Go.iconst (pc' := 74) W31 (0 : Int32) d_method_5_code_73 (by decide) rfl ?_
              refine Go.nret (z' := (0 : Int32)) W31 (by simp) (by decide) d_method_5_code_74 (by first | exact Nat.le_of_ble_eq_true rfl | (simp; done) | (simp; omega) | omega) (by first | exact Nat.le_of_ble_eq_true rfl | (simp; done) | (simp; omega) | omega) ?_
              refine ⟨?_, rfl, rfl⟩
              rcases and3 p with h | h | h | h <;> rcases and3 q with h' | h' | h' | h' <;> simp_all [strF]
        · refine Go.iloadN (pc' := 41) W24 d_method_5_code_40 rfl rfl ?_
          refine Go.iconst (pc' := 42) W24 (1 : Int32) d_method_5_code_41 (by decide) rfl ?_
          refine Go.static (pc' := 45) W24 (rm_ch G p (1 : Int32)) (w_7 G) (w_8 G) (w_5 G) (w_9 G) (by decide) [] [] (σf := []) rfl rfl [(.int p), (.int (1 : Int32))] [] rfl (lenOf pd_10 rfl) rfl rfl d_method_5_code_42 rfl (by first | exact Nat.le_of_ble_eq_true rfl | (simp; done) | (simp; omega) | omega) (by first | exact Nat.le_of_ble_eq_true rfl | (simp; done) | (simp; omega) | omega) (by first | exact Nat.le_of_ble_eq_true rfl | (simp; done) | (simp; omega) | omega) (by first | exact Nat.le_of_ble_eq_true rfl | (simp; done) | (simp; omega) | omega) ?_
          rintro _ _ _ T33 ⟨rfl, rfl, rfl⟩ W34
          replace W34 : Wk l Z EL1 ({ frames := 1, cells := 0, slots := 0, locals := 14 } : Room) "com/example/slicewise/slicewise/ThrownMatchesPinLaw" method_5_code 4 (some .boolean) "same" X [] [] T33 0 (0) := W34
          show Go Z EL1 _ _ _ X T33 45 #[.val (.int p), .val (.int q), .val (.int (p &&& (3 : Int32))), .val (.int (q &&& (3 : Int32)))] [(.int (chF p (1 : Int32)))]
          refine Go.iloadN (pc' := 46) W34 d_method_5_code_45 rfl rfl ?_
          refine Go.iconst (pc' := 47) W34 (1 : Int32) d_method_5_code_46 (by decide) rfl ?_
          refine Go.static (pc' := 50) W34 (rm_ch G q (1 : Int32)) (w_7 G) (w_8 G) (w_5 G) (w_9 G) (by decide) [] [] (σf := []) rfl rfl [(.int q), (.int (1 : Int32))] [(.int (chF p (1 : Int32)))] rfl (lenOf pd_10 rfl) rfl rfl d_method_5_code_47 rfl (by first | exact Nat.le_of_ble_eq_true rfl | (simp; done) | (simp; omega) | omega) (by first | exact Nat.le_of_ble_eq_true rfl | (simp; done) | (simp; omega) | omega) (by first | exact Nat.le_of_ble_eq_true rfl | (simp; done) | (simp; omega) | omega) (by first | exact Nat.le_of_ble_eq_true rfl | (simp; done) | (simp; omega) | omega) ?_
          rintro _ _ _ T35 ⟨rfl, rfl, rfl⟩ W36
          replace W36 : Wk l Z EL1 ({ frames := 1, cells := 0, slots := 0, locals := 14 } : Room) "com/example/slicewise/slicewise/ThrownMatchesPinLaw" method_5_code 4 (some .boolean) "same" X [] [] T35 0 (0) := W36
          show Go Z EL1 _ _ _ X T35 50 #[.val (.int p), .val (.int q), .val (.int (p &&& (3 : Int32))), .val (.int (q &&& (3 : Int32)))] [(.int (chF q (1 : Int32))), (.int (chF p (1 : Int32)))]
          refine Go.icmp_eq (pc' := 53) W36 55 d_method_5_code_50 (by decide) rfl (fun (c37 : (chF p (1 : Int32)) = (chF q (1 : Int32))) => ?_) (fun (c37 : ¬ ((chF p (1 : Int32)) = (chF q (1 : Int32)))) => ?_)
          · refine Go.iloadN (pc' := 56) W36 d_method_5_code_55 rfl rfl ?_
            refine Go.iconst (pc' := 57) W36 (3 : Int32) d_method_5_code_56 (by decide) rfl ?_
            refine Go.icmp_lt (pc' := 60) W36 75 d_method_5_code_57 (by decide) rfl (fun (c38 : (p &&& (3 : Int32)) < (3 : Int32)) => ?_) (fun (c38 : ¬ ((p &&& (3 : Int32)) < (3 : Int32))) => ?_)
            · refine Go.iconst (pc' := 76) W36 (1 : Int32) d_method_5_code_75 (by decide) rfl ?_
              refine Go.nret (z' := (1 : Int32)) W36 (by simp) (by decide) d_method_5_code_76 (by first | exact Nat.le_of_ble_eq_true rfl | (simp; done) | (simp; omega) | omega) (by first | exact Nat.le_of_ble_eq_true rfl | (simp; done) | (simp; omega) | omega) ?_
              refine ⟨?_, rfl, rfl⟩
              rcases and3 p with h | h | h | h <;> rcases and3 q with h' | h' | h' | h' <;> simp_all [strF]
            · refine Go.iloadN (pc' := 61) W36 d_method_5_code_60 rfl rfl ?_
              refine Go.iconst (pc' := 62) W36 (2 : Int32) d_method_5_code_61 (by decide) rfl ?_
              refine Go.static (pc' := 65) W36 (rm_ch G p (2 : Int32)) (w_7 G) (w_8 G) (w_5 G) (w_9 G) (by decide) [] [] (σf := []) rfl rfl [(.int p), (.int (2 : Int32))] [] rfl (lenOf pd_10 rfl) rfl rfl d_method_5_code_62 rfl (by first | exact Nat.le_of_ble_eq_true rfl | (simp; done) | (simp; omega) | omega) (by first | exact Nat.le_of_ble_eq_true rfl | (simp; done) | (simp; omega) | omega) (by first | exact Nat.le_of_ble_eq_true rfl | (simp; done) | (simp; omega) | omega) (by first | exact Nat.le_of_ble_eq_true rfl | (simp; done) | (simp; omega) | omega) ?_
              rintro _ _ _ T39 ⟨rfl, rfl, rfl⟩ W40
              replace W40 : Wk l Z EL1 ({ frames := 1, cells := 0, slots := 0, locals := 14 } : Room) "com/example/slicewise/slicewise/ThrownMatchesPinLaw" method_5_code 4 (some .boolean) "same" X [] [] T39 0 (0) := W40
              show Go Z EL1 _ _ _ X T39 65 #[.val (.int p), .val (.int q), .val (.int (p &&& (3 : Int32))), .val (.int (q &&& (3 : Int32)))] [(.int (chF p (2 : Int32)))]
              refine Go.iloadN (pc' := 66) W40 d_method_5_code_65 rfl rfl ?_
              refine Go.iconst (pc' := 67) W40 (2 : Int32) d_method_5_code_66 (by decide) rfl ?_
              refine Go.static (pc' := 70) W40 (rm_ch G q (2 : Int32)) (w_7 G) (w_8 G) (w_5 G) (w_9 G) (by decide) [] [] (σf := []) rfl rfl [(.int q), (.int (2 : Int32))] [(.int (chF p (2 : Int32)))] rfl (lenOf pd_10 rfl) rfl rfl d_method_5_code_67 rfl (by first | exact Nat.le_of_ble_eq_true rfl | (simp; done) | (simp; omega) | omega) (by first | exact Nat.le_of_ble_eq_true rfl | (simp; done) | (simp; omega) | omega) (by first | exact Nat.le_of_ble_eq_true rfl | (simp; done) | (simp; omega) | omega) (by first | exact Nat.le_of_ble_eq_true rfl | (simp; done) | (simp; omega) | omega) ?_
              rintro _ _ _ T41 ⟨rfl, rfl, rfl⟩ W42
              replace W42 : Wk l Z EL1 ({ frames := 1, cells := 0, slots := 0, locals := 14 } : Room) "com/example/slicewise/slicewise/ThrownMatchesPinLaw" method_5_code 4 (some .boolean) "same" X [] [] T41 0 (0) := W42
              show Go Z EL1 _ _ _ X T41 70 #[.val (.int p), .val (.int q), .val (.int (p &&& (3 : Int32))), .val (.int (q &&& (3 : Int32)))] [(.int (chF q (2 : Int32))), (.int (chF p (2 : Int32)))]
              refine Go.icmp_eq (pc' := 73) W42 75 d_method_5_code_70 (by decide) rfl (fun (c43 : (chF p (2 : Int32)) = (chF q (2 : Int32))) => ?_) (fun (c43 : ¬ ((chF p (2 : Int32)) = (chF q (2 : Int32)))) => ?_)
              · refine Go.iconst (pc' := 76) W42 (1 : Int32) d_method_5_code_75 (by decide) rfl ?_
                refine Go.nret (z' := (1 : Int32)) W42 (by simp) (by decide) d_method_5_code_76 (by first | exact Nat.le_of_ble_eq_true rfl | (simp; done) | (simp; omega) | omega) (by first | exact Nat.le_of_ble_eq_true rfl | (simp; done) | (simp; omega) | omega) ?_
                refine ⟨?_, rfl, rfl⟩
                rcases and3 p with h | h | h | h <;> rcases and3 q with h' | h' | h' | h' <;> simp_all [strF]
              · refine Go.iconst (pc' := 74) W42 (0 : Int32) d_method_5_code_73 (by decide) rfl ?_
                refine Go.nret (z' := (0 : Int32)) W42 (by simp) (by decide) d_method_5_code_74 (by first | exact Nat.le_of_ble_eq_true rfl | (simp; done) | (simp; omega) | omega) (by first | exact Nat.le_of_ble_eq_true rfl | (simp; done) | (simp; omega) | omega) ?_
                refine ⟨?_, rfl, rfl⟩
                rcases and3 p with h | h | h | h <;> rcases and3 q with h' | h' | h' | h' <;> simp_all [strF]
          · refine Go.iconst (pc' := 54) W36 (0 : Int32) d_method_5_code_53 (by decide) rfl ?_
            refine Go.nret (z' := (0 : Int32)) W36 (by simp) (by decide) d_method_5_code_54 (by first | exact Nat.le_of_ble_eq_true rfl | (simp; done) | (simp; omega) | omega) (by first | exact Nat.le_of_ble_eq_true rfl | (simp; done) | (simp; omega) | omega) ?_
            refine ⟨?_, rfl, rfl⟩
            rcases and3 p with h | h | h | h <;> rcases and3 q with h' | h' | h' | h' <;> simp_all [strF]
      · refine Go.iconst (pc' := 34) W24 (0 : Int32) d_method_5_code_33 (by decide) rfl ?_
        refine Go.nret (z' := (0 : Int32)) W24 (by simp) (by decide) d_method_5_code_34 (by first | exact Nat.le_of_ble_eq_true rfl | (simp; done) | (simp; omega) | omega) (by first | exact Nat.le_of_ble_eq_true rfl | (simp; done) | (simp; omega) | omega) ?_
        refine ⟨?_, rfl, rfl⟩
        rcases and3 p with h | h | h | h <;> rcases and3 q with h' | h' | h' | h' <;> simp_all [strF]
  · refine Go.iconst (pc' := 14) W0 (0 : Int32) d_method_5_code_13 (by decide) rfl ?_
    refine Go.nret (z' := (0 : Int32)) W0 (by simp) (by decide) d_method_5_code_14 (by first | exact Nat.le_of_ble_eq_true rfl | (simp; done) | (simp; omega) | omega) (by first | exact Nat.le_of_ble_eq_true rfl | (simp; done) | (simp; omega) | omega) ?_
    refine ⟨?_, rfl, rfl⟩
    rcases and3 p with h | h | h | h <;> rcases and3 q with h' | h' | h' | h' <;> simp_all [strF]
def ThrC (Z : State) (c : Cell) (t w : Value) : Prop := ObjC Z c "com/example/slicewise/slicewise/Thrown" ∧ FldC Z c "com/example/slicewise/slicewise/Thrown" "type" "Ljava/lang/String;" t ∧ FldC Z c "com/example/slicewise/slicewise/Thrown" "where" "Ljava/lang/String;" w
theorem pn_12 : plainName "com/example/slicewise/slicewise/Thrown" = true := by first | (simp [plainName, overriddenIn]; done) | decide +kernel
theorem d_prog_14_method_1_code_0 : decode prog_14_method_1_code 0 = .ok (.aload_n 0, 1) := by decide +kernel
theorem d_prog_14_method_1_code_1 : decode prog_14_method_1_code 1 = .ok (.invokespecial 1, 3) := by decide +kernel
theorem w_49 {Z : State} {a0 : Array Value} (G : Cl Z a0) : (Jvm.Cond.methodLink "com/example/slicewise/slicewise/Thrown" 1 (⟨"java/lang/Record", "<init>", "()V"⟩ : MethodName)).before a0 Z = true := G.1 _ (List.mem_of_getElem? (l := tables_1) (i := 49) rfl)
theorem w_52 {Z : State} {a0 : Array Value} (G : Cl Z a0) : (Jvm.Cond.initialized "java/lang/Record").before a0 Z = true := G.1 _ (List.mem_of_getElem? (l := tables_1) (i := 52) rfl)
theorem w_53 {Z : State} {a0 : Array Value} (G : Cl Z a0) : (Jvm.Cond.code (⟨"java/lang/Record", "<init>", "()V"⟩ : MethodName) jdk_30_method_1_code 1 none).before a0 Z = true := G.1 _ (List.mem_of_getElem? (l := tables_1) (i := 53) rfl)
theorem pd_13 : parseMethodDescriptor "()V" = some ⟨[], none⟩ := by decide +kernel
theorem w_50 {Z : State} {a0 : Array Value} (G : Cl Z a0) : (Jvm.Cond.instanceMethod (⟨"java/lang/Record", "<init>", "()V"⟩ : MethodName)).before a0 Z = true := G.1 _ (List.mem_of_getElem? (l := tables_1) (i := 50) rfl)
theorem d_prog_14_method_1_code_4 : decode prog_14_method_1_code 4 = .ok (.aload_n 0, 1) := by decide +kernel
theorem d_prog_14_method_1_code_5 : decode prog_14_method_1_code 5 = .ok (.aload_n 1, 1) := by decide +kernel
theorem d_prog_14_method_1_code_6 : decode prog_14_method_1_code 6 = .ok (.putfield 7, 3) := by decide +kernel
theorem w_55 {Z : State} {a0 : Array Value} (G : Cl Z a0) : (Jvm.Cond.fieldLink "com/example/slicewise/slicewise/Thrown" 7 "com/example/slicewise/slicewise/Thrown" "type" "Ljava/lang/String;").before a0 Z = true := G.1 _ (List.mem_of_getElem? (l := tables_1) (i := 55) rfl)
theorem w_56 {Z : State} {a0 : Array Value} (G : Cl Z a0) : (Jvm.Cond.laysFinal "com/example/slicewise/slicewise/Thrown" "com/example/slicewise/slicewise/Thrown" "type" "Ljava/lang/String;").before a0 Z = true := G.1 _ (List.mem_of_getElem? (l := tables_1) (i := 56) rfl)
theorem w_1 {Z : State} {a0 : Array Value} (G : Cl Z a0) : (Jvm.Cond.instantiable "com/example/slicewise/slicewise/Thrown" 2).before a0 Z = true := G.1 _ (List.mem_of_getElem? (l := tables_1) (i := 1) rfl)
theorem w_58 {Z : State} {a0 : Array Value} (G : Cl Z a0) : (Jvm.Cond.laysFinal "com/example/slicewise/slicewise/Thrown" "com/example/slicewise/slicewise/Thrown" "where" "Ljava/lang/String;").before a0 Z = true := G.1 _ (List.mem_of_getElem? (l := tables_1) (i := 58) rfl)
theorem d_prog_14_method_1_code_9 : decode prog_14_method_1_code 9 = .ok (.aload_n 0, 1) := by decide +kernel
theorem d_prog_14_method_1_code_10 : decode prog_14_method_1_code 10 = .ok (.aload_n 2, 1) := by decide +kernel
theorem d_prog_14_method_1_code_11 : decode prog_14_method_1_code 11 = .ok (.putfield 13, 3) := by decide +kernel
theorem w_57 {Z : State} {a0 : Array Value} (G : Cl Z a0) : (Jvm.Cond.fieldLink "com/example/slicewise/slicewise/Thrown" 13 "com/example/slicewise/slicewise/Thrown" "where" "Ljava/lang/String;").before a0 Z = true := G.1 _ (List.mem_of_getElem? (l := tables_1) (i := 57) rfl)
theorem d_prog_14_method_1_code_14 : decode prog_14_method_1_code 14 = .ok (.return_, 1) := by decide +kernel
set_option maxRecDepth 65536 in
set_option maxHeartbeats 40000000 in
theorem rm_thr {l : Launch} {Z : State} {a0 : Array Value} (G : Cl Z a0) (a t : Addr) (c : Cell) (wv : Value) (hw : wv.isRef = true) (T : ThrC Z c .null .null) :
    Met l Z EL1 (⟨"com/example/slicewise/slicewise/Thrown", "<init>", "(Ljava/lang/String;Ljava/lang/String;)V"⟩ : MethodName) prog_14_method_1_code 3 none ({ frames := 2, cells := 0, slots := 0, locals := 24 } : Room) #[.ref a, .ref t, wv] [(a, c)] [] (fun v σ ρ => ∃ c', v = none ∧ σ = [(a, c')] ∧ ρ = [] ∧ ThrC Z c' (.ref t) wv) := by
  refine Met.walk G.2.1 pn_12 #[.val (.ref a), .val (.ref t), .val (wv)] (fun m => by rcases ref_cases hw with rfl | ⟨_, rfl⟩ <;> first | (simp [entryFrame, mkF, argsToLocals, Value.category]; done) | rfl) ?_
  intro X T0 W0
  refine Go.aloadN (pc' := 1) W0 d_prog_14_method_1_code_0 rfl rfl rfl ?_
  refine Go.special (pc' := 4) W0 (a := a) (rm_rec G a) rfl (w_49 G) (w_50 G) (w_52 G) (w_53 G) (by decide) [] [] (σf := [(a, c)]) rfl rfl [] [] rfl (lenOf pd_13 rfl) rfl rfl d_prog_14_method_1_code_1 rfl (by first | exact Nat.le_of_ble_eq_true rfl | (simp; done) | (simp; omega) | omega) (by first | exact Nat.le_of_ble_eq_true rfl | (simp; done) | (simp; omega) | omega) (by first | exact Nat.le_of_ble_eq_true rfl | (simp; done) | (simp; omega) | omega) (by first | exact Nat.le_of_ble_eq_true rfl | (simp; done) | (simp; omega) | omega) ?_
  rintro _ _ _ T1 ⟨rfl, rfl, rfl⟩ W2
  replace W2 : Wk l Z EL1 ({ frames := 2, cells := 0, slots := 0, locals := 24 } : Room) "com/example/slicewise/slicewise/Thrown" prog_14_method_1_code 3 none "<init>" X [(a, c)] [] T1 0 (0) := W2
  show Go Z EL1 _ _ _ X T1 4 #[.val (.ref a), .val (.ref t), .val (wv)] []
  refine Go.aloadN (pc' := 5) W2 d_prog_14_method_1_code_4 rfl rfl rfl ?_
  refine Go.aloadN (pc' := 6) W2 d_prog_14_method_1_code_5 rfl rfl rfl ?_
  refine Go.putfield (pc' := 9) W2 0 rfl (w_55 G) Via.refl T.2.1 T.1 (Or.inr ⟨(w_56 G), rfl, rfl⟩) (w_1 G) (ty := (.object "java/lang/String")) (v' := .ref t) (by decide) rfl rfl d_prog_14_method_1_code_6 rfl (fun T3 c5 q6 W4 => ?_)
  replace W4 : Wk l Z EL1 ({ frames := 2, cells := 0, slots := 0, locals := 24 } : Room) "com/example/slicewise/slicewise/Thrown" prog_14_method_1_code 3 none "<init>" X [(a, c5)] [] T3 0 (0) := W4
  have O7 := T.1.put' q6
  have F8 := T.2.1.put' q6
  have F9 := T.2.2.keep' q6 (slot_ne (Or.inr (w_58 G)) (Or.inr (w_56 G)) (by decide) (t := (.object "java/lang/String")) (t' := (.object "java/lang/String")) (by decide) (by decide))
  refine Go.aloadN (pc' := 10) W4 d_prog_14_method_1_code_9 rfl rfl rfl ?_
  refine Go.aloadN (pc' := 11) W4 d_prog_14_method_1_code_10 rfl hw rfl ?_
  refine Go.putfield (pc' := 14) W4 0 rfl (w_57 G) Via.refl F9 O7 (Or.inr ⟨(w_58 G), rfl, rfl⟩) (w_1 G) (ty := (.object "java/lang/String")) (v' := wv) (by decide) (narrow_ref rfl _) (fits_isref rfl hw) d_prog_14_method_1_code_11 rfl (fun T10 c12 q13 W11 => ?_)
  replace W11 : Wk l Z EL1 ({ frames := 2, cells := 0, slots := 0, locals := 24 } : Room) "com/example/slicewise/slicewise/Thrown" prog_14_method_1_code 3 none "<init>" X [(a, c12)] [] T10 0 (0) := W11
  have O14 := O7.put' q13
  have F15 := F8.keep' q13 (slot_ne (Or.inr (w_56 G)) (Or.inr (w_58 G)) (by decide) (t := (.object "java/lang/String")) (t' := (.object "java/lang/String")) (by decide) (by decide))
  have F16 := F9.put' q13
  refine Go.retV W11 d_prog_14_method_1_code_14 (by first | exact Nat.le_of_ble_eq_true rfl | (simp; done) | (simp; omega) | omega) (by first | exact Nat.le_of_ble_eq_true rfl | (simp; done) | (simp; omega) | omega) ?_
  exact ⟨_, rfl, rfl, rfl, O14, F15, F16⟩
theorem d_prog_14_method_3_code_0 : decode prog_14_method_3_code 0 = .ok (.aload_n 0, 1) := by decide +kernel
theorem d_prog_14_method_3_code_1 : decode prog_14_method_3_code 1 = .ok (.getfield 7, 3) := by decide +kernel
theorem d_prog_14_method_3_code_4 : decode prog_14_method_3_code 4 = .ok (.aload_n 1, 1) := by decide +kernel
theorem d_prog_14_method_3_code_5 : decode prog_14_method_3_code 5 = .ok (.getfield 7, 3) := by decide +kernel
theorem d_prog_14_method_3_code_8 : decode prog_14_method_3_code 8 = .ok (.invokevirtual 50, 3) := by decide +kernel
theorem w_67 {Z : State} {a0 : Array Value} (G : Cl Z a0) : (Jvm.Cond.methodLink "com/example/slicewise/slicewise/Thrown" 50 (⟨"java/lang/String", "equals", "(Ljava/lang/Object;)Z"⟩ : MethodName)).before a0 Z = true := G.1 _ (List.mem_of_getElem? (l := tables_1) (i := 67) rfl)
theorem w_71 {Z : State} {a0 : Array Value} (G : Cl Z a0) : (Jvm.Cond.code (⟨"java/lang/String", "equals", "(Ljava/lang/Object;)Z"⟩ : MethodName) jdk_42_method_66_code 3 (some .boolean)).before a0 Z = true := G.1 _ (List.mem_of_getElem? (l := tables_1) (i := 71) rfl)
theorem pd_14 : parseMethodDescriptor "(Ljava/lang/Object;)Z" = some ⟨[(.object "java/lang/Object")], some .boolean⟩ := by decide +kernel
theorem w_68 {Z : State} {a0 : Array Value} (G : Cl Z a0) : (Jvm.Cond.declares (⟨"java/lang/String", "equals", "(Ljava/lang/Object;)Z"⟩ : MethodName)).before a0 Z = true := G.1 _ (List.mem_of_getElem? (l := tables_1) (i := 68) rfl)
theorem w_70 {Z : State} {a0 : Array Value} (G : Cl Z a0) : (Jvm.Cond.selects "java/lang/String" (⟨"java/lang/String", "equals", "(Ljava/lang/Object;)Z"⟩ : MethodName) (⟨"java/lang/String", "equals", "(Ljava/lang/Object;)Z"⟩ : MethodName)).before a0 Z = true := G.1 _ (List.mem_of_getElem? (l := tables_1) (i := 70) rfl)
theorem w_69 {Z : State} {a0 : Array Value} (G : Cl Z a0) : (Jvm.Cond.instanceMethod (⟨"java/lang/String", "equals", "(Ljava/lang/Object;)Z"⟩ : MethodName)).before a0 Z = true := G.1 _ (List.mem_of_getElem? (l := tables_1) (i := 69) rfl)
theorem d_prog_14_method_3_code_11 : decode prog_14_method_3_code 11 = .ok (.ifCond .eq 28, 3) := by decide +kernel
theorem d_prog_14_method_3_code_39 : decode prog_14_method_3_code 39 = .ok (.iconst 0, 1) := by decide +kernel
theorem d_prog_14_method_3_code_40 : decode prog_14_method_3_code 40 = .ok (.ireturn, 1) := by decide +kernel
theorem d_prog_14_method_3_code_14 : decode prog_14_method_3_code 14 = .ok (.aload_n 0, 1) := by decide +kernel
theorem d_prog_14_method_3_code_15 : decode prog_14_method_3_code 15 = .ok (.getfield 13, 3) := by decide +kernel
theorem d_prog_14_method_3_code_18 : decode prog_14_method_3_code 18 = .ok (.ifnull 17, 3) := by decide +kernel
theorem d_prog_14_method_3_code_35 : decode prog_14_method_3_code 35 = .ok (.iconst 1, 1) := by decide +kernel
theorem d_prog_14_method_3_code_36 : decode prog_14_method_3_code 36 = .ok (.goto 4, 3) := by decide +kernel
set_option maxRecDepth 65536 in
set_option maxHeartbeats 40000000 in
theorem rm_mat1 {l : Launch} {Z : State} {a0 : Array Value} (G : Cl Z a0) (a a' t t' bt bt' : Addr) (c c' ct ct' cbt cbt' : Cell) (xs ys : List Int32) (St : StrL Z ct bt cbt xs) (St' : StrL Z ct' bt' cbt' ys) (T : ThrC Z c (.ref t) (.null)) (T' : ThrC Z c' (.ref t') (.null)) :
    Met l Z EL1 (⟨"com/example/slicewise/slicewise/Thrown", "matches", "(Lcom/example/slicewise/slicewise/Thrown;)Z"⟩ : MethodName) prog_14_method_3_code 2 (some .boolean) ({ frames := 2, cells := 0, slots := 0, locals := 28 } : Room) #[.ref a, .ref a'] [] [(a, c), (a', c'), (t, ct), (bt, cbt), (t', ct'), (bt', cbt')] (fun v σ ρ => v = some (.int (if xs = ys then 1 else 0)) ∧ σ = [] ∧ ρ = []) := by
  refine Met.walk G.2.1 pn_12 #[.val (.ref a), .val (.ref a')] (fun m => by first | (simp [entryFrame, mkF, argsToLocals, Value.category]; done) | rfl) ?_
  intro X T0 W0
  refine Go.aloadN (pc' := 1) W0 d_prog_14_method_3_code_0 rfl rfl rfl ?_
  refine Go.getfield (pc' := 4) W0 (Or.inr (Or.inl (List.mem_of_getElem? (i := 0) rfl))) (w_55 G) Via.refl T.2.1 d_prog_14_method_3_code_1 rfl (fun T1 W2 => ?_)
  refine Go.aloadN (pc' := 5) W2 d_prog_14_method_3_code_4 rfl rfl rfl ?_
  refine Go.getfield (pc' := 8) W2 (Or.inr (Or.inl (List.mem_of_getElem? (i := 1) rfl))) (w_55 G) Via.refl T'.2.1 d_prog_14_method_3_code_5 rfl (fun T3 W4 => ?_)
  refine Go.virtual (pc' := 11) W4 (rm_eqs G t t' bt bt' ct ct' cbt cbt' _ _ St St') (Or.inr (Or.inl (List.mem_of_getElem? (i := 2) rfl))) St.1 (w_67 G) (w_68 G) (w_70 G) (w_69 G) (w_12 G) (w_71 G) (by decide) [] [2, 3, 4, 5] (σf := []) rfl rfl [(.ref t')] [] rfl (lenOf pd_14 rfl) rfl rfl d_prog_14_method_3_code_8 rfl (by first | exact Nat.le_of_ble_eq_true rfl | (simp; done) | (simp; omega) | omega) (by first | exact Nat.le_of_ble_eq_true rfl | (simp; done) | (simp; omega) | omega) (by first | exact Nat.le_of_ble_eq_true rfl | (simp; done) | (simp; omega) | omega) (by first | exact Nat.le_of_ble_eq_true rfl | (simp; done) | (simp; omega) | omega) ?_
  rintro _ _ _ T5 ⟨rfl, rfl, rfl⟩ W6
  replace W6 : Wk l Z EL1 ({ frames := 2, cells := 0, slots := 0, locals := 28 } : Room) "com/example/slicewise/slicewise/Thrown" prog_14_method_3_code 2 (some .boolean) "matches" X [] [(a, c), (a', c'), (t, ct), (bt, cbt), (t', ct'), (bt', cbt')] T5 0 (0) := W6
  show Go Z EL1 _ _ _ X T5 11 #[.val (.ref a), .val (.ref a')] [(.int (if xs = ys then 1 else 0))]
  refine Go.if_eq (pc' := 14) W6 39 d_prog_14_method_3_code_11 (by decide) rfl (fun (c7 : (if xs = ys then 1 else 0) = 0) => ?_) (fun (c7 : ¬ ((if xs = ys then 1 else 0) = 0)) => ?_)
  · refine Go.iconst (pc' := 40) W6 (0 : Int32) d_prog_14_method_3_code_39 (by decide) rfl ?_
    have W8 := W6.keepRo [] (ρ' := []) rfl
    replace W8 : Wk l Z EL1 ({ frames := 2, cells := 0, slots := 0, locals := 28 } : Room) "com/example/slicewise/slicewise/Thrown" prog_14_method_3_code 2 (some .boolean) "matches" X [] [] T5 0 (0) := W8
    refine Go.nret (z' := (0 : Int32)) W8 (by simp) (by decide) d_prog_14_method_3_code_40 (by first | exact Nat.le_of_ble_eq_true rfl | (simp; done) | (simp; omega) | omega) (by first | exact Nat.le_of_ble_eq_true rfl | (simp; done) | (simp; omega) | omega) ?_
    exact ⟨by simp_all, rfl, rfl⟩
  · refine Go.aloadN (pc' := 15) W6 d_prog_14_method_3_code_14 rfl rfl rfl ?_
    refine Go.getfield (pc' := 18) W6 (Or.inr (Or.inl (List.mem_of_getElem? (i := 0) rfl))) (w_57 G) Via.refl T.2.2 d_prog_14_method_3_code_15 rfl (fun T9 W10 => ?_)
    refine Go.ifnull_yes W10 35 d_prog_14_method_3_code_18 (by decide) ?_
    refine Go.iconst (pc' := 36) W10 (1 : Int32) d_prog_14_method_3_code_35 (by decide) rfl ?_
    refine Go.goto W10 40 d_prog_14_method_3_code_36 (by decide) ?_
    have W11 := W10.keepRo [] (ρ' := []) rfl
    replace W11 : Wk l Z EL1 ({ frames := 2, cells := 0, slots := 0, locals := 28 } : Room) "com/example/slicewise/slicewise/Thrown" prog_14_method_3_code 2 (some .boolean) "matches" X [] [] T9 0 (0) := W11
    refine Go.nret (z' := (1 : Int32)) W11 (by simp) (by decide) d_prog_14_method_3_code_40 (by first | exact Nat.le_of_ble_eq_true rfl | (simp; done) | (simp; omega) | omega) (by first | exact Nat.le_of_ble_eq_true rfl | (simp; done) | (simp; omega) | omega) ?_
    exact ⟨by simp_all, rfl, rfl⟩
theorem d_prog_14_method_3_code_21 : decode prog_14_method_3_code 21 = .ok (.aload_n 0, 1) := by decide +kernel
theorem d_prog_14_method_3_code_22 : decode prog_14_method_3_code 22 = .ok (.getfield 13, 3) := by decide +kernel
theorem d_prog_14_method_3_code_25 : decode prog_14_method_3_code 25 = .ok (.aload_n 1, 1) := by decide +kernel
theorem d_prog_14_method_3_code_26 : decode prog_14_method_3_code 26 = .ok (.getfield 13, 3) := by decide +kernel
theorem d_prog_14_method_3_code_29 : decode prog_14_method_3_code 29 = .ok (.invokevirtual 50, 3) := by decide +kernel
theorem d_prog_14_method_3_code_32 : decode prog_14_method_3_code 32 = .ok (.ifCond .eq 7, 3) := by decide +kernel
set_option maxRecDepth 65536 in
set_option maxHeartbeats 40000000 in
theorem rm_mat2 {l : Launch} {Z : State} {a0 : Array Value} (G : Cl Z a0) (a a' t t' bt bt' : Addr) (c c' ct ct' cbt cbt' : Cell) (xs ys : List Int32) (St : StrL Z ct bt cbt xs) (St' : StrL Z ct' bt' cbt' ys) (u bu : Addr) (cu cbu : Cell) (us : List Int32) (Su : StrL Z cu bu cbu us) (T : ThrC Z c (.ref t) (.ref u)) (T' : ThrC Z c' (.ref t') (.null)) :
    Met l Z EL1 (⟨"com/example/slicewise/slicewise/Thrown", "matches", "(Lcom/example/slicewise/slicewise/Thrown;)Z"⟩ : MethodName) prog_14_method_3_code 2 (some .boolean) ({ frames := 2, cells := 0, slots := 0, locals := 28 } : Room) #[.ref a, .ref a'] [] [(a, c), (a', c'), (t, ct), (bt, cbt), (t', ct'), (bt', cbt'), (u, cu), (bu, cbu)] (fun v σ ρ => v = some (.int (0)) ∧ σ = [] ∧ ρ = []) := by
  refine Met.walk G.2.1 pn_12 #[.val (.ref a), .val (.ref a')] (fun m => by first | (simp [entryFrame, mkF, argsToLocals, Value.category]; done) | rfl) ?_
  intro X T0 W0
  refine Go.aloadN (pc' := 1) W0 d_prog_14_method_3_code_0 rfl rfl rfl ?_
  refine Go.getfield (pc' := 4) W0 (Or.inr (Or.inl (List.mem_of_getElem? (i := 0) rfl))) (w_55 G) Via.refl T.2.1 d_prog_14_method_3_code_1 rfl (fun T1 W2 => ?_)
  refine Go.aloadN (pc' := 5) W2 d_prog_14_method_3_code_4 rfl rfl rfl ?_
  refine Go.getfield (pc' := 8) W2 (Or.inr (Or.inl (List.mem_of_getElem? (i := 1) rfl))) (w_55 G) Via.refl T'.2.1 d_prog_14_method_3_code_5 rfl (fun T3 W4 => ?_)
  refine Go.virtual (pc' := 11) W4 (rm_eqs G t t' bt bt' ct ct' cbt cbt' _ _ St St') (Or.inr (Or.inl (List.mem_of_getElem? (i := 2) rfl))) St.1 (w_67 G) (w_68 G) (w_70 G) (w_69 G) (w_12 G) (w_71 G) (by decide) [] [2, 3, 4, 5] (σf := []) rfl rfl [(.ref t')] [] rfl (lenOf pd_14 rfl) rfl rfl d_prog_14_method_3_code_8 rfl (by first | exact Nat.le_of_ble_eq_true rfl | (simp; done) | (simp; omega) | omega) (by first | exact Nat.le_of_ble_eq_true rfl | (simp; done) | (simp; omega) | omega) (by first | exact Nat.le_of_ble_eq_true rfl | (simp; done) | (simp; omega) | omega) (by first | exact Nat.le_of_ble_eq_true rfl | (simp; done) | (simp; omega) | omega) ?_
  rintro _ _ _ T5 ⟨rfl, rfl, rfl⟩ W6
  replace W6 : Wk l Z EL1 ({ frames := 2, cells := 0, slots := 0, locals := 28 } : Room) "com/example/slicewise/slicewise/Thrown" prog_14_method_3_code 2 (some .boolean) "matches" X [] [(a, c), (a', c'), (t, ct), (bt, cbt), (t', ct'), (bt', cbt'), (u, cu), (bu, cbu)] T5 0 (0) := W6
  show Go Z EL1 _ _ _ X T5 11 #[.val (.ref a), .val (.ref a')] [(.int (if xs = ys then 1 else 0))]
  refine Go.if_eq (pc' := 14) W6 39 d_prog_14_method_3_code_11 (by decide) rfl (fun (c7 : (if xs = ys then 1 else 0) = 0) => ?_) (fun (c7 : ¬ ((if xs = ys then 1 else 0) = 0)) => ?_)
  · refine Go.iconst (pc' := 40) W6 (0 : Int32) d_prog_14_method_3_code_39 (by decide) rfl ?_
    have W8 := W6.keepRo [] (ρ' := []) rfl
    replace W8 : Wk l Z EL1 ({ frames := 2, cells := 0, slots := 0, locals := 28 } : Room) "com/example/slicewise/slicewise/Thrown" prog_14_method_3_code 2 (some .boolean) "matches" X [] [] T5 0 (0) := W8
    refine Go.nret (z' := (0 : Int32)) W8 (by simp) (by decide) d_prog_14_method_3_code_40 (by first | exact Nat.le_of_ble_eq_true rfl | (simp; done) | (simp; omega) | omega) (by first | exact Nat.le_of_ble_eq_true rfl | (simp; done) | (simp; omega) | omega) ?_
    exact ⟨by simp_all, rfl, rfl⟩
  · refine Go.aloadN (pc' := 15) W6 d_prog_14_method_3_code_14 rfl rfl rfl ?_
    refine Go.getfield (pc' := 18) W6 (Or.inr (Or.inl (List.mem_of_getElem? (i := 0) rfl))) (w_57 G) Via.refl T.2.2 d_prog_14_method_3_code_15 rfl (fun T9 W10 => ?_)
    refine Go.ifnull_no (pc' := 21) W10 d_prog_14_method_3_code_18 rfl ?_
    refine Go.aloadN (pc' := 22) W10 d_prog_14_method_3_code_21 rfl rfl rfl ?_
    refine Go.getfield (pc' := 25) W10 (Or.inr (Or.inl (List.mem_of_getElem? (i := 0) rfl))) (w_57 G) Via.refl T.2.2 d_prog_14_method_3_code_22 rfl (fun T11 W12 => ?_)
    refine Go.aloadN (pc' := 26) W12 d_prog_14_method_3_code_25 rfl rfl rfl ?_
    refine Go.getfield (pc' := 29) W12 (Or.inr (Or.inl (List.mem_of_getElem? (i := 1) rfl))) (w_57 G) Via.refl T'.2.2 d_prog_14_method_3_code_26 rfl (fun T13 W14 => ?_)
    refine Go.virtual (pc' := 32) W14 (rm_eqn G u) (Or.inr (Or.inl (List.mem_of_getElem? (i := 6) rfl))) Su.1 (w_67 G) (w_68 G) (w_70 G) (w_69 G) (w_12 G) (w_71 G) (by decide) [] [] (σf := []) rfl rfl [(.null)] [] rfl (lenOf pd_14 rfl) rfl rfl d_prog_14_method_3_code_29 rfl (by first | exact Nat.le_of_ble_eq_true rfl | (simp; done) | (simp; omega) | omega) (by first | exact Nat.le_of_ble_eq_true rfl | (simp; done) | (simp; omega) | omega) (by first | exact Nat.le_of_ble_eq_true rfl | (simp; done) | (simp; omega) | omega) (by first | exact Nat.le_of_ble_eq_true rfl | (simp; done) | (simp; omega) | omega) ?_
    rintro _ _ _ T15 ⟨rfl, rfl, rfl⟩ W16
    replace W16 : Wk l Z EL1 ({ frames := 2, cells := 0, slots := 0, locals := 28 } : Room) "com/example/slicewise/slicewise/Thrown" prog_14_method_3_code 2 (some .boolean) "matches" X [] [(a, c), (a', c'), (t, ct), (bt, cbt), (t', ct'), (bt', cbt'), (u, cu), (bu, cbu)] T15 0 (0) := W16
    show Go Z EL1 _ _ _ X T15 32 #[.val (.ref a), .val (.ref a')] [(.int (0 : Int32))]
    refine Go.if_eq (pc' := 35) W16 39 d_prog_14_method_3_code_32 (by decide) rfl (fun _ => ?_) (fun q => absurd (by decide) q)
    refine Go.iconst (pc' := 40) W16 (0 : Int32) d_prog_14_method_3_code_39 (by decide) rfl ?_
    have W17 := W16.keepRo [] (ρ' := []) rfl
    replace W17 : Wk l Z EL1 ({ frames := 2, cells := 0, slots := 0, locals := 28 } : Room) "com/example/slicewise/slicewise/Thrown" prog_14_method_3_code 2 (some .boolean) "matches" X [] [] T15 0 (0) := W17
    refine Go.nret (z' := (0 : Int32)) W17 (by simp) (by decide) d_prog_14_method_3_code_40 (by first | exact Nat.le_of_ble_eq_true rfl | (simp; done) | (simp; omega) | omega) (by first | exact Nat.le_of_ble_eq_true rfl | (simp; done) | (simp; omega) | omega) ?_
    exact ⟨by simp_all, rfl, rfl⟩
set_option maxRecDepth 65536 in
set_option maxHeartbeats 40000000 in
theorem rm_mat3 {l : Launch} {Z : State} {a0 : Array Value} (G : Cl Z a0) (a a' t t' bt bt' : Addr) (c c' ct ct' cbt cbt' : Cell) (xs ys : List Int32) (St : StrL Z ct bt cbt xs) (St' : StrL Z ct' bt' cbt' ys) (u bu : Addr) (cu cbu : Cell) (us : List Int32) (Su : StrL Z cu bu cbu us) (u' bu' : Addr) (cu' cbu' : Cell) (us' : List Int32) (Su' : StrL Z cu' bu' cbu' us') (T : ThrC Z c (.ref t) (.ref u)) (T' : ThrC Z c' (.ref t') (.ref u')) :
    Met l Z EL1 (⟨"com/example/slicewise/slicewise/Thrown", "matches", "(Lcom/example/slicewise/slicewise/Thrown;)Z"⟩ : MethodName) prog_14_method_3_code 2 (some .boolean) ({ frames := 2, cells := 0, slots := 0, locals := 28 } : Room) #[.ref a, .ref a'] [] [(a, c), (a', c'), (t, ct), (bt, cbt), (t', ct'), (bt', cbt'), (u, cu), (bu, cbu), (u', cu'), (bu', cbu')] (fun v σ ρ => v = some (.int (if xs = ys ∧ us = us' then 1 else 0)) ∧ σ = [] ∧ ρ = []) := by
  refine Met.walk G.2.1 pn_12 #[.val (.ref a), .val (.ref a')] (fun m => by first | (simp [entryFrame, mkF, argsToLocals, Value.category]; done) | rfl) ?_
  intro X T0 W0
  refine Go.aloadN (pc' := 1) W0 d_prog_14_method_3_code_0 rfl rfl rfl ?_
  refine Go.getfield (pc' := 4) W0 (Or.inr (Or.inl (List.mem_of_getElem? (i := 0) rfl))) (w_55 G) Via.refl T.2.1 d_prog_14_method_3_code_1 rfl (fun T1 W2 => ?_)
  refine Go.aloadN (pc' := 5) W2 d_prog_14_method_3_code_4 rfl rfl rfl ?_
  refine Go.getfield (pc' := 8) W2 (Or.inr (Or.inl (List.mem_of_getElem? (i := 1) rfl))) (w_55 G) Via.refl T'.2.1 d_prog_14_method_3_code_5 rfl (fun T3 W4 => ?_)
  refine Go.virtual (pc' := 11) W4 (rm_eqs G t t' bt bt' ct ct' cbt cbt' _ _ St St') (Or.inr (Or.inl (List.mem_of_getElem? (i := 2) rfl))) St.1 (w_67 G) (w_68 G) (w_70 G) (w_69 G) (w_12 G) (w_71 G) (by decide) [] [2, 3, 4, 5] (σf := []) rfl rfl [(.ref t')] [] rfl (lenOf pd_14 rfl) rfl rfl d_prog_14_method_3_code_8 rfl (by first | exact Nat.le_of_ble_eq_true rfl | (simp; done) | (simp; omega) | omega) (by first | exact Nat.le_of_ble_eq_true rfl | (simp; done) | (simp; omega) | omega) (by first | exact Nat.le_of_ble_eq_true rfl | (simp; done) | (simp; omega) | omega) (by first | exact Nat.le_of_ble_eq_true rfl | (simp; done) | (simp; omega) | omega) ?_
  rintro _ _ _ T5 ⟨rfl, rfl, rfl⟩ W6
  replace W6 : Wk l Z EL1 ({ frames := 2, cells := 0, slots := 0, locals := 28 } : Room) "com/example/slicewise/slicewise/Thrown" prog_14_method_3_code 2 (some .boolean) "matches" X [] [(a, c), (a', c'), (t, ct), (bt, cbt), (t', ct'), (bt', cbt'), (u, cu), (bu, cbu), (u', cu'), (bu', cbu')] T5 0 (0) := W6
  show Go Z EL1 _ _ _ X T5 11 #[.val (.ref a), .val (.ref a')] [(.int (if xs = ys then 1 else 0))]
  refine Go.if_eq (pc' := 14) W6 39 d_prog_14_method_3_code_11 (by decide) rfl (fun (c7 : (if xs = ys then 1 else 0) = 0) => ?_) (fun (c7 : ¬ ((if xs = ys then 1 else 0) = 0)) => ?_)
  · refine Go.iconst (pc' := 40) W6 (0 : Int32) d_prog_14_method_3_code_39 (by decide) rfl ?_
    have W8 := W6.keepRo [] (ρ' := []) rfl
    replace W8 : Wk l Z EL1 ({ frames := 2, cells := 0, slots := 0, locals := 28 } : Room) "com/example/slicewise/slicewise/Thrown" prog_14_method_3_code 2 (some .boolean) "matches" X [] [] T5 0 (0) := W8
    refine Go.nret (z' := (0 : Int32)) W8 (by simp) (by decide) d_prog_14_method_3_code_40 (by first | exact Nat.le_of_ble_eq_true rfl | (simp; done) | (simp; omega) | omega) (by first | exact Nat.le_of_ble_eq_true rfl | (simp; done) | (simp; omega) | omega) ?_
    exact ⟨by simp_all, rfl, rfl⟩
  · refine Go.aloadN (pc' := 15) W6 d_prog_14_method_3_code_14 rfl rfl rfl ?_
    refine Go.getfield (pc' := 18) W6 (Or.inr (Or.inl (List.mem_of_getElem? (i := 0) rfl))) (w_57 G) Via.refl T.2.2 d_prog_14_method_3_code_15 rfl (fun T9 W10 => ?_)
    refine Go.ifnull_no (pc' := 21) W10 d_prog_14_method_3_code_18 rfl ?_
    refine Go.aloadN (pc' := 22) W10 d_prog_14_method_3_code_21 rfl rfl rfl ?_
    refine Go.getfield (pc' := 25) W10 (Or.inr (Or.inl (List.mem_of_getElem? (i := 0) rfl))) (w_57 G) Via.refl T.2.2 d_prog_14_method_3_code_22 rfl (fun T11 W12 => ?_)
    refine Go.aloadN (pc' := 26) W12 d_prog_14_method_3_code_25 rfl rfl rfl ?_
    refine Go.getfield (pc' := 29) W12 (Or.inr (Or.inl (List.mem_of_getElem? (i := 1) rfl))) (w_57 G) Via.refl T'.2.2 d_prog_14_method_3_code_26 rfl (fun T13 W14 => ?_)
    refine Go.virtual (pc' := 32) W14 (rm_eqs G u u' bu bu' cu cu' cbu cbu' _ _ Su Su') (Or.inr (Or.inl (List.mem_of_getElem? (i := 6) rfl))) Su.1 (w_67 G) (w_68 G) (w_70 G) (w_69 G) (w_12 G) (w_71 G) (by decide) [] [6, 7, 8, 9] (σf := []) rfl rfl [(.ref u')] [] rfl (lenOf pd_14 rfl) rfl rfl d_prog_14_method_3_code_29 rfl (by first | exact Nat.le_of_ble_eq_true rfl | (simp; done) | (simp; omega) | omega) (by first | exact Nat.le_of_ble_eq_true rfl | (simp; done) | (simp; omega) | omega) (by first | exact Nat.le_of_ble_eq_true rfl | (simp; done) | (simp; omega) | omega) (by first | exact Nat.le_of_ble_eq_true rfl | (simp; done) | (simp; omega) | omega) ?_
    rintro _ _ _ T15 ⟨rfl, rfl, rfl⟩ W16
    replace W16 : Wk l Z EL1 ({ frames := 2, cells := 0, slots := 0, locals := 28 } : Room) "com/example/slicewise/slicewise/Thrown" prog_14_method_3_code 2 (some .boolean) "matches" X [] [(a, c), (a', c'), (t, ct), (bt, cbt), (t', ct'), (bt', cbt'), (u, cu), (bu, cbu), (u', cu'), (bu', cbu')] T15 0 (0) := W16
    show Go Z EL1 _ _ _ X T15 32 #[.val (.ref a), .val (.ref a')] [(.int (if us = us' then 1 else 0))]
    refine Go.if_eq (pc' := 35) W16 39 d_prog_14_method_3_code_32 (by decide) rfl (fun (c17 : (if us = us' then 1 else 0) = 0) => ?_) (fun (c17 : ¬ ((if us = us' then 1 else 0) = 0)) => ?_)
    · refine Go.iconst (pc' := 40) W16 (0 : Int32) d_prog_14_method_3_code_39 (by decide) rfl ?_
      have W18 := W16.keepRo [] (ρ' := []) rfl
      replace W18 : Wk l Z EL1 ({ frames := 2, cells := 0, slots := 0, locals := 28 } : Room) "com/example/slicewise/slicewise/Thrown" prog_14_method_3_code 2 (some .boolean) "matches" X [] [] T15 0 (0) := W18
      refine Go.nret (z' := (0 : Int32)) W18 (by simp) (by decide) d_prog_14_method_3_code_40 (by first | exact Nat.le_of_ble_eq_true rfl | (simp; done) | (simp; omega) | omega) (by first | exact Nat.le_of_ble_eq_true rfl | (simp; done) | (simp; omega) | omega) ?_
      exact ⟨by simp_all, rfl, rfl⟩
    · refine Go.iconst (pc' := 36) W16 (1 : Int32) d_prog_14_method_3_code_35 (by decide) rfl ?_
      refine Go.goto W16 40 d_prog_14_method_3_code_36 (by decide) ?_
      have W19 := W16.keepRo [] (ρ' := []) rfl
      replace W19 : Wk l Z EL1 ({ frames := 2, cells := 0, slots := 0, locals := 28 } : Room) "com/example/slicewise/slicewise/Thrown" prog_14_method_3_code 2 (some .boolean) "matches" X [] [] T15 0 (0) := W19
      refine Go.nret (z' := (1 : Int32)) W19 (by simp) (by decide) d_prog_14_method_3_code_40 (by first | exact Nat.le_of_ble_eq_true rfl | (simp; done) | (simp; omega) | omega) (by first | exact Nat.le_of_ble_eq_true rfl | (simp; done) | (simp; omega) | omega) ?_
      exact ⟨by simp_all, rfl, rfl⟩
set_option maxRecDepth 65536 in
set_option maxHeartbeats 40000000 in
theorem rm_mat4 {l : Launch} {Z : State} {a0 : Array Value} (G : Cl Z a0) (a a' t t' bt bt' : Addr) (c c' ct ct' cbt cbt' : Cell) (xs ys : List Int32) (St : StrL Z ct bt cbt xs) (St' : StrL Z ct' bt' cbt' ys) (u' bu' : Addr) (cu' cbu' : Cell) (us' : List Int32) (Su' : StrL Z cu' bu' cbu' us') (T : ThrC Z c (.ref t) (.null)) (T' : ThrC Z c' (.ref t') (.ref u')) :
    Met l Z EL1 (⟨"com/example/slicewise/slicewise/Thrown", "matches", "(Lcom/example/slicewise/slicewise/Thrown;)Z"⟩ : MethodName) prog_14_method_3_code 2 (some .boolean) ({ frames := 2, cells := 0, slots := 0, locals := 28 } : Room) #[.ref a, .ref a'] [] [(a, c), (a', c'), (t, ct), (bt, cbt), (t', ct'), (bt', cbt'), (u', cu'), (bu', cbu')] (fun v σ ρ => v = some (.int (if xs = ys then 1 else 0)) ∧ σ = [] ∧ ρ = []) := by
  refine Met.walk G.2.1 pn_12 #[.val (.ref a), .val (.ref a')] (fun m => by first | (simp [entryFrame, mkF, argsToLocals, Value.category]; done) | rfl) ?_
  intro X T0 W0
  refine Go.aloadN (pc' := 1) W0 d_prog_14_method_3_code_0 rfl rfl rfl ?_
  refine Go.getfield (pc' := 4) W0 (Or.inr (Or.inl (List.mem_of_getElem? (i := 0) rfl))) (w_55 G) Via.refl T.2.1 d_prog_14_method_3_code_1 rfl (fun T1 W2 => ?_)
  refine Go.aloadN (pc' := 5) W2 d_prog_14_method_3_code_4 rfl rfl rfl ?_
  refine Go.getfield (pc' := 8) W2 (Or.inr (Or.inl (List.mem_of_getElem? (i := 1) rfl))) (w_55 G) Via.refl T'.2.1 d_prog_14_method_3_code_5 rfl (fun T3 W4 => ?_)
  refine Go.virtual (pc' := 11) W4 (rm_eqs G t t' bt bt' ct ct' cbt cbt' _ _ St St') (Or.inr (Or.inl (List.mem_of_getElem? (i := 2) rfl))) St.1 (w_67 G) (w_68 G) (w_70 G) (w_69 G) (w_12 G) (w_71 G) (by decide) [] [2, 3, 4, 5] (σf := []) rfl rfl [(.ref t')] [] rfl (lenOf pd_14 rfl) rfl rfl d_prog_14_method_3_code_8 rfl (by first | exact Nat.le_of_ble_eq_true rfl | (simp; done) | (simp; omega) | omega) (by first | exact Nat.le_of_ble_eq_true rfl | (simp; done) | (simp; omega) | omega) (by first | exact Nat.le_of_ble_eq_true rfl | (simp; done) | (simp; omega) | omega) (by first | exact Nat.le_of_ble_eq_true rfl | (simp; done) | (simp; omega) | omega) ?_
  rintro _ _ _ T5 ⟨rfl, rfl, rfl⟩ W6
  replace W6 : Wk l Z EL1 ({ frames := 2, cells := 0, slots := 0, locals := 28 } : Room) "com/example/slicewise/slicewise/Thrown" prog_14_method_3_code 2 (some .boolean) "matches" X [] [(a, c), (a', c'), (t, ct), (bt, cbt), (t', ct'), (bt', cbt'), (u', cu'), (bu', cbu')] T5 0 (0) := W6
  show Go Z EL1 _ _ _ X T5 11 #[.val (.ref a), .val (.ref a')] [(.int (if xs = ys then 1 else 0))]
  refine Go.if_eq (pc' := 14) W6 39 d_prog_14_method_3_code_11 (by decide) rfl (fun (c7 : (if xs = ys then 1 else 0) = 0) => ?_) (fun (c7 : ¬ ((if xs = ys then 1 else 0) = 0)) => ?_)
  · refine Go.iconst (pc' := 40) W6 (0 : Int32) d_prog_14_method_3_code_39 (by decide) rfl ?_
    have W8 := W6.keepRo [] (ρ' := []) rfl
    replace W8 : Wk l Z EL1 ({ frames := 2, cells := 0, slots := 0, locals := 28 } : Room) "com/example/slicewise/slicewise/Thrown" prog_14_method_3_code 2 (some .boolean) "matches" X [] [] T5 0 (0) := W8
    refine Go.nret (z' := (0 : Int32)) W8 (by simp) (by decide) d_prog_14_method_3_code_40 (by first | exact Nat.le_of_ble_eq_true rfl | (simp; done) | (simp; omega) | omega) (by first | exact Nat.le_of_ble_eq_true rfl | (simp; done) | (simp; omega) | omega) ?_
    exact ⟨by simp_all, rfl, rfl⟩
  · refine Go.aloadN (pc' := 15) W6 d_prog_14_method_3_code_14 rfl rfl rfl ?_
    refine Go.getfield (pc' := 18) W6 (Or.inr (Or.inl (List.mem_of_getElem? (i := 0) rfl))) (w_57 G) Via.refl T.2.2 d_prog_14_method_3_code_15 rfl (fun T9 W10 => ?_)
    refine Go.ifnull_yes W10 35 d_prog_14_method_3_code_18 (by decide) ?_
    refine Go.iconst (pc' := 36) W10 (1 : Int32) d_prog_14_method_3_code_35 (by decide) rfl ?_
    refine Go.goto W10 40 d_prog_14_method_3_code_36 (by decide) ?_
    have W11 := W10.keepRo [] (ρ' := []) rfl
    replace W11 : Wk l Z EL1 ({ frames := 2, cells := 0, slots := 0, locals := 28 } : Room) "com/example/slicewise/slicewise/Thrown" prog_14_method_3_code 2 (some .boolean) "matches" X [] [] T9 0 (0) := W11
    refine Go.nret (z' := (1 : Int32)) W11 (by simp) (by decide) d_prog_14_method_3_code_40 (by first | exact Nat.le_of_ble_eq_true rfl | (simp; done) | (simp; omega) | omega) (by first | exact Nat.le_of_ble_eq_true rfl | (simp; done) | (simp; omega) | omega) ?_
    exact ⟨by simp_all, rfl, rfl⟩
theorem d_code_28 : decode code 28 = .ok (.new 18, 3) := by decide +kernel
theorem w_0 {Z : State} {a0 : Array Value} (G : Cl Z a0) : (Jvm.Cond.classLink "com/example/slicewise/slicewise/ThrownMatchesPinLaw" 18 "com/example/slicewise/slicewise/Thrown").before a0 Z = true := G.1 _ (List.mem_of_getElem? (l := tables_1) (i := 0) rfl)
theorem w_2 {Z : State} {a0 : Array Value} (G : Cl Z a0) : (Jvm.Cond.initialized "com/example/slicewise/slicewise/Thrown").before a0 Z = true := G.1 _ (List.mem_of_getElem? (l := tables_1) (i := 2) rfl)
theorem d_code_31 : decode code 31 = .ok (.dup, 1) := by decide +kernel
theorem d_code_32 : decode code 32 = .ok (.iload_n 0, 1) := by decide +kernel
theorem d_code_33 : decode code 33 = .ok (.invokestatic 20, 3) := by decide +kernel
theorem w_3 {Z : State} {a0 : Array Value} (G : Cl Z a0) : (Jvm.Cond.methodLink "com/example/slicewise/slicewise/ThrownMatchesPinLaw" 20 (⟨"com/example/slicewise/slicewise/ThrownMatchesPinLaw", "str", "(I)Ljava/lang/String;"⟩ : MethodName)).before a0 Z = true := G.1 _ (List.mem_of_getElem? (l := tables_1) (i := 3) rfl)
theorem w_6 {Z : State} {a0 : Array Value} (G : Cl Z a0) : (Jvm.Cond.code (⟨"com/example/slicewise/slicewise/ThrownMatchesPinLaw", "str", "(I)Ljava/lang/String;"⟩ : MethodName) method_3_code 5 (some (.object "java/lang/String"))).before a0 Z = true := G.1 _ (List.mem_of_getElem? (l := tables_1) (i := 6) rfl)
theorem pd_15 : parseMethodDescriptor "(I)Ljava/lang/String;" = some ⟨[.int], some (.object "java/lang/String")⟩ := by decide +kernel
theorem w_4 {Z : State} {a0 : Array Value} (G : Cl Z a0) : (Jvm.Cond.static (⟨"com/example/slicewise/slicewise/ThrownMatchesPinLaw", "str", "(I)Ljava/lang/String;"⟩ : MethodName)).before a0 Z = true := G.1 _ (List.mem_of_getElem? (l := tables_1) (i := 4) rfl)
theorem d_code_36 : decode code 36 = .ok (.iload_n 1, 1) := by decide +kernel
theorem d_code_37 : decode code 37 = .ok (.invokestatic 24, 3) := by decide +kernel
theorem w_32 {Z : State} {a0 : Array Value} (G : Cl Z a0) : (Jvm.Cond.methodLink "com/example/slicewise/slicewise/ThrownMatchesPinLaw" 24 (⟨"com/example/slicewise/slicewise/ThrownMatchesPinLaw", "isNull", "(I)Z"⟩ : MethodName)).before a0 Z = true := G.1 _ (List.mem_of_getElem? (l := tables_1) (i := 32) rfl)
theorem w_34 {Z : State} {a0 : Array Value} (G : Cl Z a0) : (Jvm.Cond.code (⟨"com/example/slicewise/slicewise/ThrownMatchesPinLaw", "isNull", "(I)Z"⟩ : MethodName) method_4_code 1 (some .boolean)).before a0 Z = true := G.1 _ (List.mem_of_getElem? (l := tables_1) (i := 34) rfl)
theorem pd_16 : parseMethodDescriptor "(I)Z" = some ⟨[.int], some .boolean⟩ := by decide +kernel
theorem w_33 {Z : State} {a0 : Array Value} (G : Cl Z a0) : (Jvm.Cond.static (⟨"com/example/slicewise/slicewise/ThrownMatchesPinLaw", "isNull", "(I)Z"⟩ : MethodName)).before a0 Z = true := G.1 _ (List.mem_of_getElem? (l := tables_1) (i := 33) rfl)
theorem d_code_40 : decode code 40 = .ok (.ifCond .eq 7, 3) := by decide +kernel
theorem d_code_47 : decode code 47 = .ok (.iload_n 1, 1) := by decide +kernel
theorem d_code_48 : decode code 48 = .ok (.invokestatic 20, 3) := by decide +kernel
theorem d_code_51 : decode code 51 = .ok (.invokespecial 28, 3) := by decide +kernel
theorem w_46 {Z : State} {a0 : Array Value} (G : Cl Z a0) : (Jvm.Cond.methodLink "com/example/slicewise/slicewise/ThrownMatchesPinLaw" 28 (⟨"com/example/slicewise/slicewise/Thrown", "<init>", "(Ljava/lang/String;Ljava/lang/String;)V"⟩ : MethodName)).before a0 Z = true := G.1 _ (List.mem_of_getElem? (l := tables_1) (i := 46) rfl)
theorem w_48 {Z : State} {a0 : Array Value} (G : Cl Z a0) : (Jvm.Cond.code (⟨"com/example/slicewise/slicewise/Thrown", "<init>", "(Ljava/lang/String;Ljava/lang/String;)V"⟩ : MethodName) prog_14_method_1_code 3 none).before a0 Z = true := G.1 _ (List.mem_of_getElem? (l := tables_1) (i := 48) rfl)
theorem pd_17 : parseMethodDescriptor "(Ljava/lang/String;Ljava/lang/String;)V" = some ⟨[(.object "java/lang/String"), (.object "java/lang/String")], none⟩ := by decide +kernel
theorem w_47 {Z : State} {a0 : Array Value} (G : Cl Z a0) : (Jvm.Cond.instanceMethod (⟨"com/example/slicewise/slicewise/Thrown", "<init>", "(Ljava/lang/String;Ljava/lang/String;)V"⟩ : MethodName)).before a0 Z = true := G.1 _ (List.mem_of_getElem? (l := tables_1) (i := 47) rfl)
theorem d_code_54 : decode code 54 = .ok (.astore 7, 2) := by decide +kernel
theorem d_code_56 : decode code 56 = .ok (.new 18, 3) := by decide +kernel
theorem d_code_59 : decode code 59 = .ok (.dup, 1) := by decide +kernel
theorem d_code_60 : decode code 60 = .ok (.iload 5, 2) := by decide +kernel
theorem d_code_62 : decode code 62 = .ok (.invokestatic 20, 3) := by decide +kernel
theorem d_code_65 : decode code 65 = .ok (.iload 6, 2) := by decide +kernel
theorem d_code_67 : decode code 67 = .ok (.invokestatic 24, 3) := by decide +kernel
theorem d_code_70 : decode code 70 = .ok (.ifCond .eq 7, 3) := by decide +kernel
theorem d_code_77 : decode code 77 = .ok (.iload 6, 2) := by decide +kernel
theorem d_code_79 : decode code 79 = .ok (.invokestatic 20, 3) := by decide +kernel
theorem d_code_82 : decode code 82 = .ok (.invokespecial 28, 3) := by decide +kernel
theorem d_code_85 : decode code 85 = .ok (.astore 8, 2) := by decide +kernel
theorem d_code_87 : decode code 87 = .ok (.iload_n 0, 1) := by decide +kernel
theorem d_code_88 : decode code 88 = .ok (.iload 5, 2) := by decide +kernel
theorem d_code_90 : decode code 90 = .ok (.invokestatic 31, 3) := by decide +kernel
theorem w_59 {Z : State} {a0 : Array Value} (G : Cl Z a0) : (Jvm.Cond.methodLink "com/example/slicewise/slicewise/ThrownMatchesPinLaw" 31 (⟨"com/example/slicewise/slicewise/ThrownMatchesPinLaw", "same", "(II)Z"⟩ : MethodName)).before a0 Z = true := G.1 _ (List.mem_of_getElem? (l := tables_1) (i := 59) rfl)
theorem w_61 {Z : State} {a0 : Array Value} (G : Cl Z a0) : (Jvm.Cond.code (⟨"com/example/slicewise/slicewise/ThrownMatchesPinLaw", "same", "(II)Z"⟩ : MethodName) method_5_code 4 (some .boolean)).before a0 Z = true := G.1 _ (List.mem_of_getElem? (l := tables_1) (i := 61) rfl)
theorem pd_18 : parseMethodDescriptor "(II)Z" = some ⟨[.int, .int], some .boolean⟩ := by decide +kernel
theorem w_60 {Z : State} {a0 : Array Value} (G : Cl Z a0) : (Jvm.Cond.static (⟨"com/example/slicewise/slicewise/ThrownMatchesPinLaw", "same", "(II)Z"⟩ : MethodName)).before a0 Z = true := G.1 _ (List.mem_of_getElem? (l := tables_1) (i := 60) rfl)
theorem d_code_93 : decode code 93 = .ok (.ifCond .eq 31, 3) := by decide +kernel
theorem d_code_124 : decode code 124 = .ok (.iconst 0, 1) := by decide +kernel
theorem d_code_125 : decode code 125 = .ok (.istore 9, 2) := by decide +kernel
theorem d_code_127 : decode code 127 = .ok (.aload 7, 2) := by decide +kernel
theorem d_code_129 : decode code 129 = .ok (.aload 8, 2) := by decide +kernel
theorem d_code_131 : decode code 131 = .ok (.invokevirtual 35, 3) := by decide +kernel
theorem w_62 {Z : State} {a0 : Array Value} (G : Cl Z a0) : (Jvm.Cond.methodLink "com/example/slicewise/slicewise/ThrownMatchesPinLaw" 35 (⟨"com/example/slicewise/slicewise/Thrown", "matches", "(Lcom/example/slicewise/slicewise/Thrown;)Z"⟩ : MethodName)).before a0 Z = true := G.1 _ (List.mem_of_getElem? (l := tables_1) (i := 62) rfl)
theorem w_66 {Z : State} {a0 : Array Value} (G : Cl Z a0) : (Jvm.Cond.code (⟨"com/example/slicewise/slicewise/Thrown", "matches", "(Lcom/example/slicewise/slicewise/Thrown;)Z"⟩ : MethodName) prog_14_method_3_code 2 (some .boolean)).before a0 Z = true := G.1 _ (List.mem_of_getElem? (l := tables_1) (i := 66) rfl)
theorem pd_19 : parseMethodDescriptor "(Lcom/example/slicewise/slicewise/Thrown;)Z" = some ⟨[(.object "com/example/slicewise/slicewise/Thrown")], some .boolean⟩ := by decide +kernel
theorem w_63 {Z : State} {a0 : Array Value} (G : Cl Z a0) : (Jvm.Cond.declares (⟨"com/example/slicewise/slicewise/Thrown", "matches", "(Lcom/example/slicewise/slicewise/Thrown;)Z"⟩ : MethodName)).before a0 Z = true := G.1 _ (List.mem_of_getElem? (l := tables_1) (i := 63) rfl)
theorem w_65 {Z : State} {a0 : Array Value} (G : Cl Z a0) : (Jvm.Cond.selects "com/example/slicewise/slicewise/Thrown" (⟨"com/example/slicewise/slicewise/Thrown", "matches", "(Lcom/example/slicewise/slicewise/Thrown;)Z"⟩ : MethodName) (⟨"com/example/slicewise/slicewise/Thrown", "matches", "(Lcom/example/slicewise/slicewise/Thrown;)Z"⟩ : MethodName)).before a0 Z = true := G.1 _ (List.mem_of_getElem? (l := tables_1) (i := 65) rfl)
theorem w_64 {Z : State} {a0 : Array Value} (G : Cl Z a0) : (Jvm.Cond.instanceMethod (⟨"com/example/slicewise/slicewise/Thrown", "matches", "(Lcom/example/slicewise/slicewise/Thrown;)Z"⟩ : MethodName)).before a0 Z = true := G.1 _ (List.mem_of_getElem? (l := tables_1) (i := 64) rfl)
theorem d_code_134 : decode code 134 = .ok (.iload 9, 2) := by decide +kernel
theorem d_code_136 : decode code 136 = .ok (.if_icmp .ne 7, 3) := by decide +kernel
theorem d_code_143 : decode code 143 = .ok (.iconst 0, 1) := by decide +kernel
theorem d_code_144 : decode code 144 = .ok (.ireturn, 1) := by decide +kernel
theorem d_code_139 : decode code 139 = .ok (.iconst 1, 1) := by decide +kernel
theorem d_code_140 : decode code 140 = .ok (.goto 4, 3) := by decide +kernel
theorem d_code_96 : decode code 96 = .ok (.iload_n 1, 1) := by decide +kernel
theorem d_code_97 : decode code 97 = .ok (.invokestatic 24, 3) := by decide +kernel
theorem d_code_100 : decode code 100 = .ok (.ifCond .ne 20, 3) := by decide +kernel
theorem d_code_103 : decode code 103 = .ok (.iload 6, 2) := by decide +kernel
theorem d_code_105 : decode code 105 = .ok (.invokestatic 24, 3) := by decide +kernel
theorem d_code_108 : decode code 108 = .ok (.ifCond .ne 16, 3) := by decide +kernel
theorem d_code_111 : decode code 111 = .ok (.iload_n 1, 1) := by decide +kernel
theorem d_code_112 : decode code 112 = .ok (.iload 6, 2) := by decide +kernel
theorem d_code_114 : decode code 114 = .ok (.invokestatic 31, 3) := by decide +kernel
theorem d_code_117 : decode code 117 = .ok (.ifCond .eq 7, 3) := by decide +kernel
theorem d_code_120 : decode code 120 = .ok (.iconst 1, 1) := by decide +kernel
theorem d_code_121 : decode code 121 = .ok (.goto 4, 3) := by decide +kernel
theorem d_code_73 : decode code 73 = .ok (.aconst_null, 1) := by decide +kernel
theorem d_code_74 : decode code 74 = .ok (.goto 8, 3) := by decide +kernel
theorem d_code_43 : decode code 43 = .ok (.aconst_null, 1) := by decide +kernel
theorem d_code_44 : decode code 44 = .ok (.goto 7, 3) := by decide +kernel
set_option maxRecDepth 65536 in
set_option maxHeartbeats 40000000 in
theorem rm_tail {l : Launch} {Z : State} {a0 : Array Value} (G : Cl Z a0) (t1 w1 t2 w2 mode tt2 ww2 : Int32) {X : Ctx} {T0 : State} (W0 : Wk l Z EL1 ({ frames := 8, cells := 40, slots := 1216, locals := 192 } : Room) "com/example/slicewise/slicewise/ThrownMatchesPinLaw" code 10 (some .boolean) "law" X [] [] T0 0 (0)) :
    Go Z EL1 40 1216 (fun v _ _ => v = some (.int 1)) X T0 28 #[.val (.int t1), .val (.int w1), .val (.int t2), .val (.int w2), .val (.int mode), .val (.int tt2), .val (.int ww2), .unset, .unset, .unset] [] := by
  refine Go.new (pc' := 31) W0 (w_0 G) (w_1 G) (w_2 G) d_code_28 rfl (by first | exact Nat.le_of_ble_eq_true rfl | (simp; done) | (simp; omega) | omega) (by first | exact Nat.le_of_ble_eq_true rfl | (simp; done) | (simp; omega) | omega) (fun T1 a3 c4 W2 O5 D6 => ?_)
  replace W2 : Wk l Z EL1 ({ frames := 8, cells := 40, slots := 1216, locals := 192 } : Room) "com/example/slicewise/slicewise/ThrownMatchesPinLaw" code 10 (some .boolean) "law" X [(a3, c4)] [] T1 1 (2) := W2
  have F7 : FldC Z c4 "com/example/slicewise/slicewise/Thrown" "type" "Ljava/lang/String;" (.null) := D6 (Or.inr (w_56 G)) (ty := (.object "java/lang/String")) (by decide)
  have F8 : FldC Z c4 "com/example/slicewise/slicewise/Thrown" "where" "Ljava/lang/String;" (.null) := D6 (Or.inr (w_58 G)) (ty := (.object "java/lang/String")) (by decide)
  refine Go.dup (pc' := 32) W2 d_code_31 rfl rfl ?_
  refine Go.iloadN (pc' := 33) W2 d_code_32 rfl rfl ?_
  refine Go.static (pc' := 36) W2 (rm_str G t1) (w_3 G) (w_4 G) (w_5 G) (w_6 G) (by decide) [] [] (σf := [(a3, c4)]) rfl rfl [(.int t1)] [(.ref a3), (.ref a3)] rfl (lenOf pd_15 rfl) rfl rfl d_code_33 rfl (by first | exact Nat.le_of_ble_eq_true rfl | (simp; done) | (simp; omega) | omega) (by first | exact Nat.le_of_ble_eq_true rfl | (simp; done) | (simp; omega) | omega) (by first | exact Nat.le_of_ble_eq_true rfl | (simp; done) | (simp; omega) | omega) (by first | exact Nat.le_of_ble_eq_true rfl | (simp; done) | (simp; omega) | omega) ?_
  rintro _ _ _ T14 ⟨a9, c10, b11, c12, rfl, rfl, rfl, S13⟩ W15
  replace W15 : Wk l Z EL1 ({ frames := 8, cells := 40, slots := 1216, locals := 192 } : Room) "com/example/slicewise/slicewise/ThrownMatchesPinLaw" code 10 (some .boolean) "law" X [(a3, c4)] [(a9, c10), (b11, c12)] T14 7 (14) := W15
  show Go Z EL1 _ _ _ X T14 36 #[.val (.int t1), .val (.int w1), .val (.int t2), .val (.int w2), .val (.int mode), .val (.int tt2), .val (.int ww2), .unset, .unset, .unset] [(.ref a9), (.ref a3), (.ref a3)]
  refine Go.iloadN (pc' := 37) W15 d_code_36 rfl rfl ?_
  refine Go.static (pc' := 40) W15 (rm_isNull G w1) (w_32 G) (w_33 G) (w_5 G) (w_34 G) (by decide) [] [] (σf := [(a3, c4)]) rfl rfl [(.int w1)] [(.ref a9), (.ref a3), (.ref a3)] rfl (lenOf pd_16 rfl) rfl rfl d_code_37 rfl (by first | exact Nat.le_of_ble_eq_true rfl | (simp; done) | (simp; omega) | omega) (by first | exact Nat.le_of_ble_eq_true rfl | (simp; done) | (simp; omega) | omega) (by first | exact Nat.le_of_ble_eq_true rfl | (simp; done) | (simp; omega) | omega) (by first | exact Nat.le_of_ble_eq_true rfl | (simp; done) | (simp; omega) | omega) ?_
  rintro _ _ _ T16 ⟨rfl, rfl, rfl⟩ W17
  replace W17 : Wk l Z EL1 ({ frames := 8, cells := 40, slots := 1216, locals := 192 } : Room) "com/example/slicewise/slicewise/ThrownMatchesPinLaw" code 10 (some .boolean) "law" X [(a3, c4)] [(a9, c10), (b11, c12)] T16 7 (14) := W17
  show Go Z EL1 _ _ _ X T16 40 #[.val (.int t1), .val (.int w1), .val (.int t2), .val (.int w2), .val (.int mode), .val (.int tt2), .val (.int ww2), .unset, .unset, .unset] [(.int (if nzF w1 = 0 then 0 else 1)), (.ref a9), (.ref a3), (.ref a3)]
  refine Go.if_eq (pc' := 43) W17 47 d_code_40 (by decide) rfl (fun (c18 : (if nzF w1 = 0 then 0 else 1) = 0) => ?_) (fun (c18 : ¬ ((if nzF w1 = 0 then 0 else 1) = 0)) => ?_)
  · refine Go.iloadN (pc' := 48) W17 d_code_47 rfl rfl ?_
    refine Go.static (pc' := 51) W17 (rm_str G w1) (w_3 G) (w_4 G) (w_5 G) (w_6 G) (by decide) [] [] (σf := [(a3, c4)]) rfl rfl [(.int w1)] [(.ref a9), (.ref a3), (.ref a3)] rfl (lenOf pd_15 rfl) rfl rfl d_code_48 rfl (by first | exact Nat.le_of_ble_eq_true rfl | (simp; done) | (simp; omega) | omega) (by first | exact Nat.le_of_ble_eq_true rfl | (simp; done) | (simp; omega) | omega) (by first | exact Nat.le_of_ble_eq_true rfl | (simp; done) | (simp; omega) | omega) (by first | exact Nat.le_of_ble_eq_true rfl | (simp; done) | (simp; omega) | omega) ?_
    rintro _ _ _ T24 ⟨a19, c20, b21, c22, rfl, rfl, rfl, S23⟩ W25
    replace W25 : Wk l Z EL1 ({ frames := 8, cells := 40, slots := 1216, locals := 192 } : Room) "com/example/slicewise/slicewise/ThrownMatchesPinLaw" code 10 (some .boolean) "law" X [(a3, c4)] [(a19, c20), (b21, c22), (a9, c10), (b11, c12)] T24 13 (26) := W25
    show Go Z EL1 _ _ _ X T24 51 #[.val (.int t1), .val (.int w1), .val (.int t2), .val (.int w2), .val (.int mode), .val (.int tt2), .val (.int ww2), .unset, .unset, .unset] [(.ref a19), (.ref a9), (.ref a3), (.ref a3)]
    refine Go.special (pc' := 54) W25 (a := a3) (rm_thr G a3 a9 c4 (.ref a19) rfl ⟨O5, F7, F8⟩) rfl (w_46 G) (w_47 G) (w_2 G) (w_48 G) (by decide) [0] [] (σf := []) rfl rfl [(.ref a9), (.ref a19)] [(.ref a3)] rfl (lenOf pd_17 rfl) rfl rfl d_code_51 rfl (by first | exact Nat.le_of_ble_eq_true rfl | (simp; done) | (simp; omega) | omega) (by first | exact Nat.le_of_ble_eq_true rfl | (simp; done) | (simp; omega) | omega) (by first | exact Nat.le_of_ble_eq_true rfl | (simp; done) | (simp; omega) | omega) (by first | exact Nat.le_of_ble_eq_true rfl | (simp; done) | (simp; omega) | omega) ?_
    rintro _ _ _ T28 ⟨c26, rfl, rfl, rfl, R27⟩ W29
    replace W29 : Wk l Z EL1 ({ frames := 8, cells := 40, slots := 1216, locals := 192 } : Room) "com/example/slicewise/slicewise/ThrownMatchesPinLaw" code 10 (some .boolean) "law" X [(a3, c26)] [(a19, c20), (b21, c22), (a9, c10), (b11, c12)] T28 13 (26) := W29
    show Go Z EL1 _ _ _ X T28 54 #[.val (.int t1), .val (.int w1), .val (.int t2), .val (.int w2), .val (.int mode), .val (.int tt2), .val (.int ww2), .unset, .unset, .unset] [(.ref a3)]
    have W30 := W29.freeze [0] (σi := [(a3, c26)]) (σf := []) rfl
    replace W30 : Wk l Z EL1 ({ frames := 8, cells := 40, slots := 1216, locals := 192 } : Room) "com/example/slicewise/slicewise/ThrownMatchesPinLaw" code 10 (some .boolean) "law" X [] [(a3, c26), (a19, c20), (b21, c22), (a9, c10), (b11, c12)] T28 13 (26) := W30
    refine Go.astore (pc' := 56) W30 #[.val (.int t1), .val (.int w1), .val (.int t2), .val (.int w2), .val (.int mode), .val (.int tt2), .val (.int ww2), .val (.ref a3), .unset, .unset] d_code_54 rfl rfl rfl ?_
    refine Go.new (pc' := 59) W30 (w_0 G) (w_1 G) (w_2 G) d_code_56 rfl (by first | exact Nat.le_of_ble_eq_true rfl | (simp; done) | (simp; omega) | omega) (by first | exact Nat.le_of_ble_eq_true rfl | (simp; done) | (simp; omega) | omega) (fun T31 a33 c34 W32 O35 D36 => ?_)
    replace W32 : Wk l Z EL1 ({ frames := 8, cells := 40, slots := 1216, locals := 192 } : Room) "com/example/slicewise/slicewise/ThrownMatchesPinLaw" code 10 (some .boolean) "law" X [(a33, c34)] [(a3, c26), (a19, c20), (b21, c22), (a9, c10), (b11, c12)] T31 14 (28) := W32
    have F37 : FldC Z c34 "com/example/slicewise/slicewise/Thrown" "type" "Ljava/lang/String;" (.null) := D36 (Or.inr (w_56 G)) (ty := (.object "java/lang/String")) (by decide)
    have F38 : FldC Z c34 "com/example/slicewise/slicewise/Thrown" "where" "Ljava/lang/String;" (.null) := D36 (Or.inr (w_58 G)) (ty := (.object "java/lang/String")) (by decide)
    refine Go.dup (pc' := 60) W32 d_code_59 rfl rfl ?_
    refine Go.iload (pc' := 62) W32 d_code_60 rfl rfl ?_
    refine Go.static (pc' := 65) W32 (rm_str G tt2) (w_3 G) (w_4 G) (w_5 G) (w_6 G) (by decide) [] [] (σf := [(a33, c34)]) rfl rfl [(.int tt2)] [(.ref a33), (.ref a33)] rfl (lenOf pd_15 rfl) rfl rfl d_code_62 rfl (by first | exact Nat.le_of_ble_eq_true rfl | (simp; done) | (simp; omega) | omega) (by first | exact Nat.le_of_ble_eq_true rfl | (simp; done) | (simp; omega) | omega) (by first | exact Nat.le_of_ble_eq_true rfl | (simp; done) | (simp; omega) | omega) (by first | exact Nat.le_of_ble_eq_true rfl | (simp; done) | (simp; omega) | omega) ?_
    rintro _ _ _ T44 ⟨a39, c40, b41, c42, rfl, rfl, rfl, S43⟩ W45
    replace W45 : Wk l Z EL1 ({ frames := 8, cells := 40, slots := 1216, locals := 192 } : Room) "com/example/slicewise/slicewise/ThrownMatchesPinLaw" code 10 (some .boolean) "law" X [(a33, c34)] [(a39, c40), (b41, c42), (a3, c26), (a19, c20), (b21, c22), (a9, c10), (b11, c12)] T44 20 (40) := W45
    show Go Z EL1 _ _ _ X T44 65 #[.val (.int t1), .val (.int w1), .val (.int t2), .val (.int w2), .val (.int mode), .val (.int tt2), .val (.int ww2), .val (.ref a3), .unset, .unset] [(.ref a39), (.ref a33), (.ref a33)]
    refine Go.iload (pc' := 67) W45 d_code_65 rfl rfl ?_
    refine Go.static (pc' := 70) W45 (rm_isNull G ww2) (w_32 G) (w_33 G) (w_5 G) (w_34 G) (by decide) [] [] (σf := [(a33, c34)]) rfl rfl [(.int ww2)] [(.ref a39), (.ref a33), (.ref a33)] rfl (lenOf pd_16 rfl) rfl rfl d_code_67 rfl (by first | exact Nat.le_of_ble_eq_true rfl | (simp; done) | (simp; omega) | omega) (by first | exact Nat.le_of_ble_eq_true rfl | (simp; done) | (simp; omega) | omega) (by first | exact Nat.le_of_ble_eq_true rfl | (simp; done) | (simp; omega) | omega) (by first | exact Nat.le_of_ble_eq_true rfl | (simp; done) | (simp; omega) | omega) ?_
    rintro _ _ _ T46 ⟨rfl, rfl, rfl⟩ W47
    replace W47 : Wk l Z EL1 ({ frames := 8, cells := 40, slots := 1216, locals := 192 } : Room) "com/example/slicewise/slicewise/ThrownMatchesPinLaw" code 10 (some .boolean) "law" X [(a33, c34)] [(a39, c40), (b41, c42), (a3, c26), (a19, c20), (b21, c22), (a9, c10), (b11, c12)] T46 20 (40) := W47
    show Go Z EL1 _ _ _ X T46 70 #[.val (.int t1), .val (.int w1), .val (.int t2), .val (.int w2), .val (.int mode), .val (.int tt2), .val (.int ww2), .val (.ref a3), .unset, .unset] [(.int (if nzF ww2 = 0 then 0 else 1)), (.ref a39), (.ref a33), (.ref a33)]
    refine Go.if_eq (pc' := 73) W47 77 d_code_70 (by decide) rfl (fun (c48 : (if nzF ww2 = 0 then 0 else 1) = 0) => ?_) (fun (c48 : ¬ ((if nzF ww2 = 0 then 0 else 1) = 0)) => ?_)
    · refine Go.iload (pc' := 79) W47 d_code_77 rfl rfl ?_
      refine Go.static (pc' := 82) W47 (rm_str G ww2) (w_3 G) (w_4 G) (w_5 G) (w_6 G) (by decide) [] [] (σf := [(a33, c34)]) rfl rfl [(.int ww2)] [(.ref a39), (.ref a33), (.ref a33)] rfl (lenOf pd_15 rfl) rfl rfl d_code_79 rfl (by first | exact Nat.le_of_ble_eq_true rfl | (simp; done) | (simp; omega) | omega) (by first | exact Nat.le_of_ble_eq_true rfl | (simp; done) | (simp; omega) | omega) (by first | exact Nat.le_of_ble_eq_true rfl | (simp; done) | (simp; omega) | omega) (by first | exact Nat.le_of_ble_eq_true rfl | (simp; done) | (simp; omega) | omega) ?_
      rintro _ _ _ T54 ⟨a49, c50, b51, c52, rfl, rfl, rfl, S53⟩ W55
      replace W55 : Wk l Z EL1 ({ frames := 8, cells := 40, slots := 1216, locals := 192 } : Room) "com/example/slicewise/slicewise/ThrownMatchesPinLaw" code 10 (some .boolean) "law" X [(a33, c34)] [(a49, c50), (b51, c52), (a39, c40), (b41, c42), (a3, c26), (a19, c20), (b21, c22), (a9, c10), (b11, c12)] T54 26 (52) := W55
      show Go Z EL1 _ _ _ X T54 82 #[.val (.int t1), .val (.int w1), .val (.int t2), .val (.int w2), .val (.int mode), .val (.int tt2), .val (.int ww2), .val (.ref a3), .unset, .unset] [(.ref a49), (.ref a39), (.ref a33), (.ref a33)]
      refine Go.special (pc' := 85) W55 (a := a33) (rm_thr G a33 a39 c34 (.ref a49) rfl ⟨O35, F37, F38⟩) rfl (w_46 G) (w_47 G) (w_2 G) (w_48 G) (by decide) [0] [] (σf := []) rfl rfl [(.ref a39), (.ref a49)] [(.ref a33)] rfl (lenOf pd_17 rfl) rfl rfl d_code_82 rfl (by first | exact Nat.le_of_ble_eq_true rfl | (simp; done) | (simp; omega) | omega) (by first | exact Nat.le_of_ble_eq_true rfl | (simp; done) | (simp; omega) | omega) (by first | exact Nat.le_of_ble_eq_true rfl | (simp; done) | (simp; omega) | omega) (by first | exact Nat.le_of_ble_eq_true rfl | (simp; done) | (simp; omega) | omega) ?_
      rintro _ _ _ T58 ⟨c56, rfl, rfl, rfl, R57⟩ W59
      replace W59 : Wk l Z EL1 ({ frames := 8, cells := 40, slots := 1216, locals := 192 } : Room) "com/example/slicewise/slicewise/ThrownMatchesPinLaw" code 10 (some .boolean) "law" X [(a33, c56)] [(a49, c50), (b51, c52), (a39, c40), (b41, c42), (a3, c26), (a19, c20), (b21, c22), (a9, c10), (b11, c12)] T58 26 (52) := W59
      show Go Z EL1 _ _ _ X T58 85 #[.val (.int t1), .val (.int w1), .val (.int t2), .val (.int w2), .val (.int mode), .val (.int tt2), .val (.int ww2), .val (.ref a3), .unset, .unset] [(.ref a33)]
      have W60 := W59.freeze [0] (σi := [(a33, c56)]) (σf := []) rfl
      replace W60 : Wk l Z EL1 ({ frames := 8, cells := 40, slots := 1216, locals := 192 } : Room) "com/example/slicewise/slicewise/ThrownMatchesPinLaw" code 10 (some .boolean) "law" X [] [(a33, c56), (a49, c50), (b51, c52), (a39, c40), (b41, c42), (a3, c26), (a19, c20), (b21, c22), (a9, c10), (b11, c12)] T58 26 (52) := W60
      refine Go.astore (pc' := 87) W60 #[.val (.int t1), .val (.int w1), .val (.int t2), .val (.int w2), .val (.int mode), .val (.int tt2), .val (.int ww2), .val (.ref a3), .val (.ref a33), .unset] d_code_85 rfl rfl rfl ?_
      refine Go.iloadN (pc' := 88) W60 d_code_87 rfl rfl ?_
      refine Go.iload (pc' := 90) W60 d_code_88 rfl rfl ?_
      refine Go.static (pc' := 93) W60 (rm_same G t1 tt2) (w_59 G) (w_60 G) (w_5 G) (w_61 G) (by decide) [] [] (σf := []) rfl rfl [(.int t1), (.int tt2)] [] rfl (lenOf pd_18 rfl) rfl rfl d_code_90 rfl (by first | exact Nat.le_of_ble_eq_true rfl | (simp; done) | (simp; omega) | omega) (by first | exact Nat.le_of_ble_eq_true rfl | (simp; done) | (simp; omega) | omega) (by first | exact Nat.le_of_ble_eq_true rfl | (simp; done) | (simp; omega) | omega) (by first | exact Nat.le_of_ble_eq_true rfl | (simp; done) | (simp; omega) | omega) ?_
      rintro _ _ _ T61 ⟨rfl, rfl, rfl⟩ W62
      replace W62 : Wk l Z EL1 ({ frames := 8, cells := 40, slots := 1216, locals := 192 } : Room) "com/example/slicewise/slicewise/ThrownMatchesPinLaw" code 10 (some .boolean) "law" X [] [(a33, c56), (a49, c50), (b51, c52), (a39, c40), (b41, c42), (a3, c26), (a19, c20), (b21, c22), (a9, c10), (b11, c12)] T61 26 (52) := W62
      show Go Z EL1 _ _ _ X T61 93 #[.val (.int t1), .val (.int w1), .val (.int t2), .val (.int w2), .val (.int mode), .val (.int tt2), .val (.int ww2), .val (.ref a3), .val (.ref a33), .unset] [(.int (if strF t1 = strF tt2 then 1 else 0))]
      refine Go.if_eq (pc' := 96) W62 124 d_code_93 (by decide) rfl (fun (c63 : (if strF t1 = strF tt2 then 1 else 0) = 0) => ?_) (fun (c63 : ¬ ((if strF t1 = strF tt2 then 1 else 0) = 0)) => ?_)
      · refine Go.iconst (pc' := 125) W62 (0 : Int32) d_code_124 (by decide) rfl ?_
        refine Go.istore (pc' := 127) W62 #[.val (.int t1), .val (.int w1), .val (.int t2), .val (.int w2), .val (.int mode), .val (.int tt2), .val (.int ww2), .val (.ref a3), .val (.ref a33), .val (.int (0 : Int32))] d_code_125 rfl rfl ?_
        refine Go.aload (pc' := 129) W62 d_code_127 rfl rfl rfl ?_
        refine Go.aload (pc' := 131) W62 d_code_129 rfl rfl rfl ?_
        refine Go.virtual (pc' := 134) W62 (rm_mat3 G a3 a33 a9 a39 b11 b41 c26 c56 c10 c40 c12 c42 _ _ S13 S43 a19 b21 c20 c22 _ S23 a49 b51 c50 c52 _ S53 R27 R57) (Or.inr (Or.inl (List.mem_of_getElem? (i := 5) rfl))) R27.1 (w_62 G) (w_63 G) (w_65 G) (w_64 G) (w_2 G) (w_66 G) (by decide) [] [5, 0, 8, 9, 3, 4, 6, 7, 1, 2] (σf := []) rfl rfl [(.ref a33)] [] rfl (lenOf pd_19 rfl) rfl rfl d_code_131 rfl (by first | exact Nat.le_of_ble_eq_true rfl | (simp; done) | (simp; omega) | omega) (by first | exact Nat.le_of_ble_eq_true rfl | (simp; done) | (simp; omega) | omega) (by first | exact Nat.le_of_ble_eq_true rfl | (simp; done) | (simp; omega) | omega) (by first | exact Nat.le_of_ble_eq_true rfl | (simp; done) | (simp; omega) | omega) ?_
        rintro _ _ _ T64 ⟨rfl, rfl, rfl⟩ W65
        replace W65 : Wk l Z EL1 ({ frames := 8, cells := 40, slots := 1216, locals := 192 } : Room) "com/example/slicewise/slicewise/ThrownMatchesPinLaw" code 10 (some .boolean) "law" X [] [(a33, c56), (a49, c50), (b51, c52), (a39, c40), (b41, c42), (a3, c26), (a19, c20), (b21, c22), (a9, c10), (b11, c12)] T64 26 (52) := W65
        show Go Z EL1 _ _ _ X T64 134 #[.val (.int t1), .val (.int w1), .val (.int t2), .val (.int w2), .val (.int mode), .val (.int tt2), .val (.int ww2), .val (.ref a3), .val (.ref a33), .val (.int (0 : Int32))] [(.int (if strF t1 = strF tt2 ∧ strF w1 = strF ww2 then 1 else 0))]
        refine Go.iload (pc' := 136) W65 d_code_134 rfl rfl ?_
        refine Go.icmp_ne (pc' := 139) W65 143 d_code_136 (by decide) rfl (fun (c66 : ¬ ((if strF t1 = strF tt2 ∧ strF w1 = strF ww2 then 1 else 0) = (0 : Int32))) => ?_) (fun (c66 : (if strF t1 = strF tt2 ∧ strF w1 = strF ww2 then 1 else 0) = (0 : Int32)) => ?_)
        · refine Go.iconst (pc' := 144) W65 (0 : Int32) d_code_143 (by decide) rfl ?_
          refine Go.nret (z' := (0 : Int32)) W65 (by simp) (by decide) d_code_144 (by first | exact Nat.le_of_ble_eq_true rfl | (simp; done) | (simp; omega) | omega) (by first | exact Nat.le_of_ble_eq_true rfl | (simp; done) | (simp; omega) | omega) ?_
          first | rfl | (exfalso; simp_all)
        · refine Go.iconst (pc' := 140) W65 (1 : Int32) d_code_139 (by decide) rfl ?_
          refine Go.goto W65 144 d_code_140 (by decide) ?_
          refine Go.nret (z' := (1 : Int32)) W65 (by simp) (by decide) d_code_144 (by first | exact Nat.le_of_ble_eq_true rfl | (simp; done) | (simp; omega) | omega) (by first | exact Nat.le_of_ble_eq_true rfl | (simp; done) | (simp; omega) | omega) ?_
          first | rfl | (exfalso; simp_all)
      · refine Go.iloadN (pc' := 97) W62 d_code_96 rfl rfl ?_
        refine Go.static (pc' := 100) W62 (rm_isNull G w1) (w_32 G) (w_33 G) (w_5 G) (w_34 G) (by decide) [] [] (σf := []) rfl rfl [(.int w1)] [] rfl (lenOf pd_16 rfl) rfl rfl d_code_97 rfl (by first | exact Nat.le_of_ble_eq_true rfl | (simp; done) | (simp; omega) | omega) (by first | exact Nat.le_of_ble_eq_true rfl | (simp; done) | (simp; omega) | omega) (by first | exact Nat.le_of_ble_eq_true rfl | (simp; done) | (simp; omega) | omega) (by first | exact Nat.le_of_ble_eq_true rfl | (simp; done) | (simp; omega) | omega) ?_
        rintro _ _ _ T67 ⟨rfl, rfl, rfl⟩ W68
        replace W68 : Wk l Z EL1 ({ frames := 8, cells := 40, slots := 1216, locals := 192 } : Room) "com/example/slicewise/slicewise/ThrownMatchesPinLaw" code 10 (some .boolean) "law" X [] [(a33, c56), (a49, c50), (b51, c52), (a39, c40), (b41, c42), (a3, c26), (a19, c20), (b21, c22), (a9, c10), (b11, c12)] T67 26 (52) := W68
        show Go Z EL1 _ _ _ X T67 100 #[.val (.int t1), .val (.int w1), .val (.int t2), .val (.int w2), .val (.int mode), .val (.int tt2), .val (.int ww2), .val (.ref a3), .val (.ref a33), .unset] [(.int (if nzF w1 = 0 then 0 else 1))]
        refine Go.if_ne (pc' := 103) W68 120 d_code_100 (by decide) rfl (fun q => absurd c18 q) (fun _ => ?_)
        refine Go.iload (pc' := 105) W68 d_code_103 rfl rfl ?_
        refine Go.static (pc' := 108) W68 (rm_isNull G ww2) (w_32 G) (w_33 G) (w_5 G) (w_34 G) (by decide) [] [] (σf := []) rfl rfl [(.int ww2)] [] rfl (lenOf pd_16 rfl) rfl rfl d_code_105 rfl (by first | exact Nat.le_of_ble_eq_true rfl | (simp; done) | (simp; omega) | omega) (by first | exact Nat.le_of_ble_eq_true rfl | (simp; done) | (simp; omega) | omega) (by first | exact Nat.le_of_ble_eq_true rfl | (simp; done) | (simp; omega) | omega) (by first | exact Nat.le_of_ble_eq_true rfl | (simp; done) | (simp; omega) | omega) ?_
        rintro _ _ _ T69 ⟨rfl, rfl, rfl⟩ W70
        replace W70 : Wk l Z EL1 ({ frames := 8, cells := 40, slots := 1216, locals := 192 } : Room) "com/example/slicewise/slicewise/ThrownMatchesPinLaw" code 10 (some .boolean) "law" X [] [(a33, c56), (a49, c50), (b51, c52), (a39, c40), (b41, c42), (a3, c26), (a19, c20), (b21, c22), (a9, c10), (b11, c12)] T69 26 (52) := W70
        show Go Z EL1 _ _ _ X T69 108 #[.val (.int t1), .val (.int w1), .val (.int t2), .val (.int w2), .val (.int mode), .val (.int tt2), .val (.int ww2), .val (.ref a3), .val (.ref a33), .unset] [(.int (if nzF ww2 = 0 then 0 else 1))]
        refine Go.if_ne (pc' := 111) W70 124 d_code_108 (by decide) rfl (fun q => absurd c48 q) (fun _ => ?_)
        refine Go.iloadN (pc' := 112) W70 d_code_111 rfl rfl ?_
        refine Go.iload (pc' := 114) W70 d_code_112 rfl rfl ?_
        refine Go.static (pc' := 117) W70 (rm_same G w1 ww2) (w_59 G) (w_60 G) (w_5 G) (w_61 G) (by decide) [] [] (σf := []) rfl rfl [(.int w1), (.int ww2)] [] rfl (lenOf pd_18 rfl) rfl rfl d_code_114 rfl (by first | exact Nat.le_of_ble_eq_true rfl | (simp; done) | (simp; omega) | omega) (by first | exact Nat.le_of_ble_eq_true rfl | (simp; done) | (simp; omega) | omega) (by first | exact Nat.le_of_ble_eq_true rfl | (simp; done) | (simp; omega) | omega) (by first | exact Nat.le_of_ble_eq_true rfl | (simp; done) | (simp; omega) | omega) ?_
        rintro _ _ _ T71 ⟨rfl, rfl, rfl⟩ W72
        replace W72 : Wk l Z EL1 ({ frames := 8, cells := 40, slots := 1216, locals := 192 } : Room) "com/example/slicewise/slicewise/ThrownMatchesPinLaw" code 10 (some .boolean) "law" X [] [(a33, c56), (a49, c50), (b51, c52), (a39, c40), (b41, c42), (a3, c26), (a19, c20), (b21, c22), (a9, c10), (b11, c12)] T71 26 (52) := W72
        show Go Z EL1 _ _ _ X T71 117 #[.val (.int t1), .val (.int w1), .val (.int t2), .val (.int w2), .val (.int mode), .val (.int tt2), .val (.int ww2), .val (.ref a3), .val (.ref a33), .unset] [(.int (if strF w1 = strF ww2 then 1 else 0))]
        refine Go.if_eq (pc' := 120) W72 124 d_code_117 (by decide) rfl (fun (c73 : (if strF w1 = strF ww2 then 1 else 0) = 0) => ?_) (fun (c73 : ¬ ((if strF w1 = strF ww2 then 1 else 0) = 0)) => ?_)
        · refine Go.iconst (pc' := 125) W72 (0 : Int32) d_code_124 (by decide) rfl ?_
          refine Go.istore (pc' := 127) W72 #[.val (.int t1), .val (.int w1), .val (.int t2), .val (.int w2), .val (.int mode), .val (.int tt2), .val (.int ww2), .val (.ref a3), .val (.ref a33), .val (.int (0 : Int32))] d_code_125 rfl rfl ?_
          refine Go.aload (pc' := 129) W72 d_code_127 rfl rfl rfl ?_
          refine Go.aload (pc' := 131) W72 d_code_129 rfl rfl rfl ?_
          refine Go.virtual (pc' := 134) W72 (rm_mat3 G a3 a33 a9 a39 b11 b41 c26 c56 c10 c40 c12 c42 _ _ S13 S43 a19 b21 c20 c22 _ S23 a49 b51 c50 c52 _ S53 R27 R57) (Or.inr (Or.inl (List.mem_of_getElem? (i := 5) rfl))) R27.1 (w_62 G) (w_63 G) (w_65 G) (w_64 G) (w_2 G) (w_66 G) (by decide) [] [5, 0, 8, 9, 3, 4, 6, 7, 1, 2] (σf := []) rfl rfl [(.ref a33)] [] rfl (lenOf pd_19 rfl) rfl rfl d_code_131 rfl (by first | exact Nat.le_of_ble_eq_true rfl | (simp; done) | (simp; omega) | omega) (by first | exact Nat.le_of_ble_eq_true rfl | (simp; done) | (simp; omega) | omega) (by first | exact Nat.le_of_ble_eq_true rfl | (simp; done) | (simp; omega) | omega) (by first | exact Nat.le_of_ble_eq_true rfl | (simp; done) | (simp; omega) | omega) ?_
          rintro _ _ _ T74 ⟨rfl, rfl, rfl⟩ W75
          replace W75 : Wk l Z EL1 ({ frames := 8, cells := 40, slots := 1216, locals := 192 } : Room) "com/example/slicewise/slicewise/ThrownMatchesPinLaw" code 10 (some .boolean) "law" X [] [(a33, c56), (a49, c50), (b51, c52), (a39, c40), (b41, c42), (a3, c26), (a19, c20), (b21, c22), (a9, c10), (b11, c12)] T74 26 (52) := W75
          show Go Z EL1 _ _ _ X T74 134 #[.val (.int t1), .val (.int w1), .val (.int t2), .val (.int w2), .val (.int mode), .val (.int tt2), .val (.int ww2), .val (.ref a3), .val (.ref a33), .val (.int (0 : Int32))] [(.int (if strF t1 = strF tt2 ∧ strF w1 = strF ww2 then 1 else 0))]
          refine Go.iload (pc' := 136) W75 d_code_134 rfl rfl ?_
          refine Go.icmp_ne (pc' := 139) W75 143 d_code_136 (by decide) rfl (fun (c76 : ¬ ((if strF t1 = strF tt2 ∧ strF w1 = strF ww2 then 1 else 0) = (0 : Int32))) => ?_) (fun (c76 : (if strF t1 = strF tt2 ∧ strF w1 = strF ww2 then 1 else 0) = (0 : Int32)) => ?_)
          · refine Go.iconst (pc' := 144) W75 (0 : Int32) d_code_143 (by decide) rfl ?_
            refine Go.nret (z' := (0 : Int32)) W75 (by simp) (by decide) d_code_144 (by first | exact Nat.le_of_ble_eq_true rfl | (simp; done) | (simp; omega) | omega) (by first | exact Nat.le_of_ble_eq_true rfl | (simp; done) | (simp; omega) | omega) ?_
            first | rfl | (exfalso; simp_all)
          · refine Go.iconst (pc' := 140) W75 (1 : Int32) d_code_139 (by decide) rfl ?_
            refine Go.goto W75 144 d_code_140 (by decide) ?_
            refine Go.nret (z' := (1 : Int32)) W75 (by simp) (by decide) d_code_144 (by first | exact Nat.le_of_ble_eq_true rfl | (simp; done) | (simp; omega) | omega) (by first | exact Nat.le_of_ble_eq_true rfl | (simp; done) | (simp; omega) | omega) ?_
            first | rfl | (exfalso; simp_all)
        · refine Go.iconst (pc' := 121) W72 (1 : Int32) d_code_120 (by decide) rfl ?_
          refine Go.goto W72 125 d_code_121 (by decide) ?_
          refine Go.istore (pc' := 127) W72 #[.val (.int t1), .val (.int w1), .val (.int t2), .val (.int w2), .val (.int mode), .val (.int tt2), .val (.int ww2), .val (.ref a3), .val (.ref a33), .val (.int (1 : Int32))] d_code_125 rfl rfl ?_
          refine Go.aload (pc' := 129) W72 d_code_127 rfl rfl rfl ?_
          refine Go.aload (pc' := 131) W72 d_code_129 rfl rfl rfl ?_
          refine Go.virtual (pc' := 134) W72 (rm_mat3 G a3 a33 a9 a39 b11 b41 c26 c56 c10 c40 c12 c42 _ _ S13 S43 a19 b21 c20 c22 _ S23 a49 b51 c50 c52 _ S53 R27 R57) (Or.inr (Or.inl (List.mem_of_getElem? (i := 5) rfl))) R27.1 (w_62 G) (w_63 G) (w_65 G) (w_64 G) (w_2 G) (w_66 G) (by decide) [] [5, 0, 8, 9, 3, 4, 6, 7, 1, 2] (σf := []) rfl rfl [(.ref a33)] [] rfl (lenOf pd_19 rfl) rfl rfl d_code_131 rfl (by first | exact Nat.le_of_ble_eq_true rfl | (simp; done) | (simp; omega) | omega) (by first | exact Nat.le_of_ble_eq_true rfl | (simp; done) | (simp; omega) | omega) (by first | exact Nat.le_of_ble_eq_true rfl | (simp; done) | (simp; omega) | omega) (by first | exact Nat.le_of_ble_eq_true rfl | (simp; done) | (simp; omega) | omega) ?_
          rintro _ _ _ T77 ⟨rfl, rfl, rfl⟩ W78
          replace W78 : Wk l Z EL1 ({ frames := 8, cells := 40, slots := 1216, locals := 192 } : Room) "com/example/slicewise/slicewise/ThrownMatchesPinLaw" code 10 (some .boolean) "law" X [] [(a33, c56), (a49, c50), (b51, c52), (a39, c40), (b41, c42), (a3, c26), (a19, c20), (b21, c22), (a9, c10), (b11, c12)] T77 26 (52) := W78
          show Go Z EL1 _ _ _ X T77 134 #[.val (.int t1), .val (.int w1), .val (.int t2), .val (.int w2), .val (.int mode), .val (.int tt2), .val (.int ww2), .val (.ref a3), .val (.ref a33), .val (.int (1 : Int32))] [(.int (if strF t1 = strF tt2 ∧ strF w1 = strF ww2 then 1 else 0))]
          refine Go.iload (pc' := 136) W78 d_code_134 rfl rfl ?_
          refine Go.icmp_ne (pc' := 139) W78 143 d_code_136 (by decide) rfl (fun (c79 : ¬ ((if strF t1 = strF tt2 ∧ strF w1 = strF ww2 then 1 else 0) = (1 : Int32))) => ?_) (fun (c79 : (if strF t1 = strF tt2 ∧ strF w1 = strF ww2 then 1 else 0) = (1 : Int32)) => ?_)
          · refine Go.iconst (pc' := 144) W78 (0 : Int32) d_code_143 (by decide) rfl ?_
            refine Go.nret (z' := (0 : Int32)) W78 (by simp) (by decide) d_code_144 (by first | exact Nat.le_of_ble_eq_true rfl | (simp; done) | (simp; omega) | omega) (by first | exact Nat.le_of_ble_eq_true rfl | (simp; done) | (simp; omega) | omega) ?_
            first | rfl | (exfalso; simp_all)
          · refine Go.iconst (pc' := 140) W78 (1 : Int32) d_code_139 (by decide) rfl ?_
            refine Go.goto W78 144 d_code_140 (by decide) ?_
            refine Go.nret (z' := (1 : Int32)) W78 (by simp) (by decide) d_code_144 (by first | exact Nat.le_of_ble_eq_true rfl | (simp; done) | (simp; omega) | omega) (by first | exact Nat.le_of_ble_eq_true rfl | (simp; done) | (simp; omega) | omega) ?_
            first | rfl | (exfalso; simp_all)
    · refine Go.aconstNull (pc' := 74) W47 d_code_73 rfl ?_
      refine Go.goto W47 82 d_code_74 (by decide) ?_
      refine Go.special (pc' := 85) W47 (a := a33) (rm_thr G a33 a39 c34 (.null) rfl ⟨O35, F37, F38⟩) rfl (w_46 G) (w_47 G) (w_2 G) (w_48 G) (by decide) [0] [] (σf := []) rfl rfl [(.ref a39), (.null)] [(.ref a33)] rfl (lenOf pd_17 rfl) rfl rfl d_code_82 rfl (by first | exact Nat.le_of_ble_eq_true rfl | (simp; done) | (simp; omega) | omega) (by first | exact Nat.le_of_ble_eq_true rfl | (simp; done) | (simp; omega) | omega) (by first | exact Nat.le_of_ble_eq_true rfl | (simp; done) | (simp; omega) | omega) (by first | exact Nat.le_of_ble_eq_true rfl | (simp; done) | (simp; omega) | omega) ?_
      rintro _ _ _ T82 ⟨c80, rfl, rfl, rfl, R81⟩ W83
      replace W83 : Wk l Z EL1 ({ frames := 8, cells := 40, slots := 1216, locals := 192 } : Room) "com/example/slicewise/slicewise/ThrownMatchesPinLaw" code 10 (some .boolean) "law" X [(a33, c80)] [(a39, c40), (b41, c42), (a3, c26), (a19, c20), (b21, c22), (a9, c10), (b11, c12)] T82 20 (40) := W83
      show Go Z EL1 _ _ _ X T82 85 #[.val (.int t1), .val (.int w1), .val (.int t2), .val (.int w2), .val (.int mode), .val (.int tt2), .val (.int ww2), .val (.ref a3), .unset, .unset] [(.ref a33)]
      have W84 := W83.freeze [0] (σi := [(a33, c80)]) (σf := []) rfl
      replace W84 : Wk l Z EL1 ({ frames := 8, cells := 40, slots := 1216, locals := 192 } : Room) "com/example/slicewise/slicewise/ThrownMatchesPinLaw" code 10 (some .boolean) "law" X [] [(a33, c80), (a39, c40), (b41, c42), (a3, c26), (a19, c20), (b21, c22), (a9, c10), (b11, c12)] T82 20 (40) := W84
      refine Go.astore (pc' := 87) W84 #[.val (.int t1), .val (.int w1), .val (.int t2), .val (.int w2), .val (.int mode), .val (.int tt2), .val (.int ww2), .val (.ref a3), .val (.ref a33), .unset] d_code_85 rfl rfl rfl ?_
      refine Go.iloadN (pc' := 88) W84 d_code_87 rfl rfl ?_
      refine Go.iload (pc' := 90) W84 d_code_88 rfl rfl ?_
      refine Go.static (pc' := 93) W84 (rm_same G t1 tt2) (w_59 G) (w_60 G) (w_5 G) (w_61 G) (by decide) [] [] (σf := []) rfl rfl [(.int t1), (.int tt2)] [] rfl (lenOf pd_18 rfl) rfl rfl d_code_90 rfl (by first | exact Nat.le_of_ble_eq_true rfl | (simp; done) | (simp; omega) | omega) (by first | exact Nat.le_of_ble_eq_true rfl | (simp; done) | (simp; omega) | omega) (by first | exact Nat.le_of_ble_eq_true rfl | (simp; done) | (simp; omega) | omega) (by first | exact Nat.le_of_ble_eq_true rfl | (simp; done) | (simp; omega) | omega) ?_
      rintro _ _ _ T85 ⟨rfl, rfl, rfl⟩ W86
      replace W86 : Wk l Z EL1 ({ frames := 8, cells := 40, slots := 1216, locals := 192 } : Room) "com/example/slicewise/slicewise/ThrownMatchesPinLaw" code 10 (some .boolean) "law" X [] [(a33, c80), (a39, c40), (b41, c42), (a3, c26), (a19, c20), (b21, c22), (a9, c10), (b11, c12)] T85 20 (40) := W86
      show Go Z EL1 _ _ _ X T85 93 #[.val (.int t1), .val (.int w1), .val (.int t2), .val (.int w2), .val (.int mode), .val (.int tt2), .val (.int ww2), .val (.ref a3), .val (.ref a33), .unset] [(.int (if strF t1 = strF tt2 then 1 else 0))]
      refine Go.if_eq (pc' := 96) W86 124 d_code_93 (by decide) rfl (fun (c87 : (if strF t1 = strF tt2 then 1 else 0) = 0) => ?_) (fun (c87 : ¬ ((if strF t1 = strF tt2 then 1 else 0) = 0)) => ?_)
      · refine Go.iconst (pc' := 125) W86 (0 : Int32) d_code_124 (by decide) rfl ?_
        refine Go.istore (pc' := 127) W86 #[.val (.int t1), .val (.int w1), .val (.int t2), .val (.int w2), .val (.int mode), .val (.int tt2), .val (.int ww2), .val (.ref a3), .val (.ref a33), .val (.int (0 : Int32))] d_code_125 rfl rfl ?_
        refine Go.aload (pc' := 129) W86 d_code_127 rfl rfl rfl ?_
        refine Go.aload (pc' := 131) W86 d_code_129 rfl rfl rfl ?_
        refine Go.virtual (pc' := 134) W86 (rm_mat2 G a3 a33 a9 a39 b11 b41 c26 c80 c10 c40 c12 c42 _ _ S13 S43 a19 b21 c20 c22 _ S23 R27 R81) (Or.inr (Or.inl (List.mem_of_getElem? (i := 3) rfl))) R27.1 (w_62 G) (w_63 G) (w_65 G) (w_64 G) (w_2 G) (w_66 G) (by decide) [] [3, 0, 6, 7, 1, 2, 4, 5] (σf := []) rfl rfl [(.ref a33)] [] rfl (lenOf pd_19 rfl) rfl rfl d_code_131 rfl (by first | exact Nat.le_of_ble_eq_true rfl | (simp; done) | (simp; omega) | omega) (by first | exact Nat.le_of_ble_eq_true rfl | (simp; done) | (simp; omega) | omega) (by first | exact Nat.le_of_ble_eq_true rfl | (simp; done) | (simp; omega) | omega) (by first | exact Nat.le_of_ble_eq_true rfl | (simp; done) | (simp; omega) | omega) ?_
        rintro _ _ _ T88 ⟨rfl, rfl, rfl⟩ W89
        replace W89 : Wk l Z EL1 ({ frames := 8, cells := 40, slots := 1216, locals := 192 } : Room) "com/example/slicewise/slicewise/ThrownMatchesPinLaw" code 10 (some .boolean) "law" X [] [(a33, c80), (a39, c40), (b41, c42), (a3, c26), (a19, c20), (b21, c22), (a9, c10), (b11, c12)] T88 20 (40) := W89
        show Go Z EL1 _ _ _ X T88 134 #[.val (.int t1), .val (.int w1), .val (.int t2), .val (.int w2), .val (.int mode), .val (.int tt2), .val (.int ww2), .val (.ref a3), .val (.ref a33), .val (.int (0 : Int32))] [(.int (0 : Int32))]
        refine Go.iload (pc' := 136) W89 d_code_134 rfl rfl ?_
        refine Go.icmp_ne (pc' := 139) W89 143 d_code_136 (by decide) rfl (fun q => absurd (by decide) q) (fun _ => ?_)
        refine Go.iconst (pc' := 140) W89 (1 : Int32) d_code_139 (by decide) rfl ?_
        refine Go.goto W89 144 d_code_140 (by decide) ?_
        refine Go.nret (z' := (1 : Int32)) W89 (by simp) (by decide) d_code_144 (by first | exact Nat.le_of_ble_eq_true rfl | (simp; done) | (simp; omega) | omega) (by first | exact Nat.le_of_ble_eq_true rfl | (simp; done) | (simp; omega) | omega) ?_
        first | rfl | (exfalso; simp_all)
      · refine Go.iloadN (pc' := 97) W86 d_code_96 rfl rfl ?_
        refine Go.static (pc' := 100) W86 (rm_isNull G w1) (w_32 G) (w_33 G) (w_5 G) (w_34 G) (by decide) [] [] (σf := []) rfl rfl [(.int w1)] [] rfl (lenOf pd_16 rfl) rfl rfl d_code_97 rfl (by first | exact Nat.le_of_ble_eq_true rfl | (simp; done) | (simp; omega) | omega) (by first | exact Nat.le_of_ble_eq_true rfl | (simp; done) | (simp; omega) | omega) (by first | exact Nat.le_of_ble_eq_true rfl | (simp; done) | (simp; omega) | omega) (by first | exact Nat.le_of_ble_eq_true rfl | (simp; done) | (simp; omega) | omega) ?_
        rintro _ _ _ T90 ⟨rfl, rfl, rfl⟩ W91
        replace W91 : Wk l Z EL1 ({ frames := 8, cells := 40, slots := 1216, locals := 192 } : Room) "com/example/slicewise/slicewise/ThrownMatchesPinLaw" code 10 (some .boolean) "law" X [] [(a33, c80), (a39, c40), (b41, c42), (a3, c26), (a19, c20), (b21, c22), (a9, c10), (b11, c12)] T90 20 (40) := W91
        show Go Z EL1 _ _ _ X T90 100 #[.val (.int t1), .val (.int w1), .val (.int t2), .val (.int w2), .val (.int mode), .val (.int tt2), .val (.int ww2), .val (.ref a3), .val (.ref a33), .unset] [(.int (if nzF w1 = 0 then 0 else 1))]
        refine Go.if_ne (pc' := 103) W91 120 d_code_100 (by decide) rfl (fun q => absurd c18 q) (fun _ => ?_)
        refine Go.iload (pc' := 105) W91 d_code_103 rfl rfl ?_
        refine Go.static (pc' := 108) W91 (rm_isNull G ww2) (w_32 G) (w_33 G) (w_5 G) (w_34 G) (by decide) [] [] (σf := []) rfl rfl [(.int ww2)] [] rfl (lenOf pd_16 rfl) rfl rfl d_code_105 rfl (by first | exact Nat.le_of_ble_eq_true rfl | (simp; done) | (simp; omega) | omega) (by first | exact Nat.le_of_ble_eq_true rfl | (simp; done) | (simp; omega) | omega) (by first | exact Nat.le_of_ble_eq_true rfl | (simp; done) | (simp; omega) | omega) (by first | exact Nat.le_of_ble_eq_true rfl | (simp; done) | (simp; omega) | omega) ?_
        rintro _ _ _ T92 ⟨rfl, rfl, rfl⟩ W93
        replace W93 : Wk l Z EL1 ({ frames := 8, cells := 40, slots := 1216, locals := 192 } : Room) "com/example/slicewise/slicewise/ThrownMatchesPinLaw" code 10 (some .boolean) "law" X [] [(a33, c80), (a39, c40), (b41, c42), (a3, c26), (a19, c20), (b21, c22), (a9, c10), (b11, c12)] T92 20 (40) := W93
        show Go Z EL1 _ _ _ X T92 108 #[.val (.int t1), .val (.int w1), .val (.int t2), .val (.int w2), .val (.int mode), .val (.int tt2), .val (.int ww2), .val (.ref a3), .val (.ref a33), .unset] [(.int (if nzF ww2 = 0 then 0 else 1))]
        refine Go.if_ne (pc' := 111) W93 124 d_code_108 (by decide) rfl (fun _ => ?_) (fun q => absurd q c48)
        refine Go.iconst (pc' := 125) W93 (0 : Int32) d_code_124 (by decide) rfl ?_
        refine Go.istore (pc' := 127) W93 #[.val (.int t1), .val (.int w1), .val (.int t2), .val (.int w2), .val (.int mode), .val (.int tt2), .val (.int ww2), .val (.ref a3), .val (.ref a33), .val (.int (0 : Int32))] d_code_125 rfl rfl ?_
        refine Go.aload (pc' := 129) W93 d_code_127 rfl rfl rfl ?_
        refine Go.aload (pc' := 131) W93 d_code_129 rfl rfl rfl ?_
        refine Go.virtual (pc' := 134) W93 (rm_mat2 G a3 a33 a9 a39 b11 b41 c26 c80 c10 c40 c12 c42 _ _ S13 S43 a19 b21 c20 c22 _ S23 R27 R81) (Or.inr (Or.inl (List.mem_of_getElem? (i := 3) rfl))) R27.1 (w_62 G) (w_63 G) (w_65 G) (w_64 G) (w_2 G) (w_66 G) (by decide) [] [3, 0, 6, 7, 1, 2, 4, 5] (σf := []) rfl rfl [(.ref a33)] [] rfl (lenOf pd_19 rfl) rfl rfl d_code_131 rfl (by first | exact Nat.le_of_ble_eq_true rfl | (simp; done) | (simp; omega) | omega) (by first | exact Nat.le_of_ble_eq_true rfl | (simp; done) | (simp; omega) | omega) (by first | exact Nat.le_of_ble_eq_true rfl | (simp; done) | (simp; omega) | omega) (by first | exact Nat.le_of_ble_eq_true rfl | (simp; done) | (simp; omega) | omega) ?_
        rintro _ _ _ T94 ⟨rfl, rfl, rfl⟩ W95
        replace W95 : Wk l Z EL1 ({ frames := 8, cells := 40, slots := 1216, locals := 192 } : Room) "com/example/slicewise/slicewise/ThrownMatchesPinLaw" code 10 (some .boolean) "law" X [] [(a33, c80), (a39, c40), (b41, c42), (a3, c26), (a19, c20), (b21, c22), (a9, c10), (b11, c12)] T94 20 (40) := W95
        show Go Z EL1 _ _ _ X T94 134 #[.val (.int t1), .val (.int w1), .val (.int t2), .val (.int w2), .val (.int mode), .val (.int tt2), .val (.int ww2), .val (.ref a3), .val (.ref a33), .val (.int (0 : Int32))] [(.int (0 : Int32))]
        refine Go.iload (pc' := 136) W95 d_code_134 rfl rfl ?_
        refine Go.icmp_ne (pc' := 139) W95 143 d_code_136 (by decide) rfl (fun q => absurd (by decide) q) (fun _ => ?_)
        refine Go.iconst (pc' := 140) W95 (1 : Int32) d_code_139 (by decide) rfl ?_
        refine Go.goto W95 144 d_code_140 (by decide) ?_
        refine Go.nret (z' := (1 : Int32)) W95 (by simp) (by decide) d_code_144 (by first | exact Nat.le_of_ble_eq_true rfl | (simp; done) | (simp; omega) | omega) (by first | exact Nat.le_of_ble_eq_true rfl | (simp; done) | (simp; omega) | omega) ?_
        first | rfl | (exfalso; simp_all)
  · refine Go.aconstNull (pc' := 44) W17 d_code_43 rfl ?_
    refine Go.goto W17 51 d_code_44 (by decide) ?_
    refine Go.special (pc' := 54) W17 (a := a3) (rm_thr G a3 a9 c4 (.null) rfl ⟨O5, F7, F8⟩) rfl (w_46 G) (w_47 G) (w_2 G) (w_48 G) (by decide) [0] [] (σf := []) rfl rfl [(.ref a9), (.null)] [(.ref a3)] rfl (lenOf pd_17 rfl) rfl rfl d_code_51 rfl (by first | exact Nat.le_of_ble_eq_true rfl | (simp; done) | (simp; omega) | omega) (by first | exact Nat.le_of_ble_eq_true rfl | (simp; done) | (simp; omega) | omega) (by first | exact Nat.le_of_ble_eq_true rfl | (simp; done) | (simp; omega) | omega) (by first | exact Nat.le_of_ble_eq_true rfl | (simp; done) | (simp; omega) | omega) ?_
    rintro _ _ _ T98 ⟨c96, rfl, rfl, rfl, R97⟩ W99
    replace W99 : Wk l Z EL1 ({ frames := 8, cells := 40, slots := 1216, locals := 192 } : Room) "com/example/slicewise/slicewise/ThrownMatchesPinLaw" code 10 (some .boolean) "law" X [(a3, c96)] [(a9, c10), (b11, c12)] T98 7 (14) := W99
    show Go Z EL1 _ _ _ X T98 54 #[.val (.int t1), .val (.int w1), .val (.int t2), .val (.int w2), .val (.int mode), .val (.int tt2), .val (.int ww2), .unset, .unset, .unset] [(.ref a3)]
    have W100 := W99.freeze [0] (σi := [(a3, c96)]) (σf := []) rfl
    replace W100 : Wk l Z EL1 ({ frames := 8, cells := 40, slots := 1216, locals := 192 } : Room) "com/example/slicewise/slicewise/ThrownMatchesPinLaw" code 10 (some .boolean) "law" X [] [(a3, c96), (a9, c10), (b11, c12)] T98 7 (14) := W100
    refine Go.astore (pc' := 56) W100 #[.val (.int t1), .val (.int w1), .val (.int t2), .val (.int w2), .val (.int mode), .val (.int tt2), .val (.int ww2), .val (.ref a3), .unset, .unset] d_code_54 rfl rfl rfl ?_
    refine Go.new (pc' := 59) W100 (w_0 G) (w_1 G) (w_2 G) d_code_56 rfl (by first | exact Nat.le_of_ble_eq_true rfl | (simp; done) | (simp; omega) | omega) (by first | exact Nat.le_of_ble_eq_true rfl | (simp; done) | (simp; omega) | omega) (fun T101 a103 c104 W102 O105 D106 => ?_)
    replace W102 : Wk l Z EL1 ({ frames := 8, cells := 40, slots := 1216, locals := 192 } : Room) "com/example/slicewise/slicewise/ThrownMatchesPinLaw" code 10 (some .boolean) "law" X [(a103, c104)] [(a3, c96), (a9, c10), (b11, c12)] T101 8 (16) := W102
    have F107 : FldC Z c104 "com/example/slicewise/slicewise/Thrown" "type" "Ljava/lang/String;" (.null) := D106 (Or.inr (w_56 G)) (ty := (.object "java/lang/String")) (by decide)
    have F108 : FldC Z c104 "com/example/slicewise/slicewise/Thrown" "where" "Ljava/lang/String;" (.null) := D106 (Or.inr (w_58 G)) (ty := (.object "java/lang/String")) (by decide)
    refine Go.dup (pc' := 60) W102 d_code_59 rfl rfl ?_
    refine Go.iload (pc' := 62) W102 d_code_60 rfl rfl ?_
    refine Go.static (pc' := 65) W102 (rm_str G tt2) (w_3 G) (w_4 G) (w_5 G) (w_6 G) (by decide) [] [] (σf := [(a103, c104)]) rfl rfl [(.int tt2)] [(.ref a103), (.ref a103)] rfl (lenOf pd_15 rfl) rfl rfl d_code_62 rfl (by first | exact Nat.le_of_ble_eq_true rfl | (simp; done) | (simp; omega) | omega) (by first | exact Nat.le_of_ble_eq_true rfl | (simp; done) | (simp; omega) | omega) (by first | exact Nat.le_of_ble_eq_true rfl | (simp; done) | (simp; omega) | omega) (by first | exact Nat.le_of_ble_eq_true rfl | (simp; done) | (simp; omega) | omega) ?_
    rintro _ _ _ T114 ⟨a109, c110, b111, c112, rfl, rfl, rfl, S113⟩ W115
    replace W115 : Wk l Z EL1 ({ frames := 8, cells := 40, slots := 1216, locals := 192 } : Room) "com/example/slicewise/slicewise/ThrownMatchesPinLaw" code 10 (some .boolean) "law" X [(a103, c104)] [(a109, c110), (b111, c112), (a3, c96), (a9, c10), (b11, c12)] T114 14 (28) := W115
    show Go Z EL1 _ _ _ X T114 65 #[.val (.int t1), .val (.int w1), .val (.int t2), .val (.int w2), .val (.int mode), .val (.int tt2), .val (.int ww2), .val (.ref a3), .unset, .unset] [(.ref a109), (.ref a103), (.ref a103)]
    refine Go.iload (pc' := 67) W115 d_code_65 rfl rfl ?_
    refine Go.static (pc' := 70) W115 (rm_isNull G ww2) (w_32 G) (w_33 G) (w_5 G) (w_34 G) (by decide) [] [] (σf := [(a103, c104)]) rfl rfl [(.int ww2)] [(.ref a109), (.ref a103), (.ref a103)] rfl (lenOf pd_16 rfl) rfl rfl d_code_67 rfl (by first | exact Nat.le_of_ble_eq_true rfl | (simp; done) | (simp; omega) | omega) (by first | exact Nat.le_of_ble_eq_true rfl | (simp; done) | (simp; omega) | omega) (by first | exact Nat.le_of_ble_eq_true rfl | (simp; done) | (simp; omega) | omega) (by first | exact Nat.le_of_ble_eq_true rfl | (simp; done) | (simp; omega) | omega) ?_
    rintro _ _ _ T116 ⟨rfl, rfl, rfl⟩ W117
    replace W117 : Wk l Z EL1 ({ frames := 8, cells := 40, slots := 1216, locals := 192 } : Room) "com/example/slicewise/slicewise/ThrownMatchesPinLaw" code 10 (some .boolean) "law" X [(a103, c104)] [(a109, c110), (b111, c112), (a3, c96), (a9, c10), (b11, c12)] T116 14 (28) := W117
    show Go Z EL1 _ _ _ X T116 70 #[.val (.int t1), .val (.int w1), .val (.int t2), .val (.int w2), .val (.int mode), .val (.int tt2), .val (.int ww2), .val (.ref a3), .unset, .unset] [(.int (if nzF ww2 = 0 then 0 else 1)), (.ref a109), (.ref a103), (.ref a103)]
    refine Go.if_eq (pc' := 73) W117 77 d_code_70 (by decide) rfl (fun (c118 : (if nzF ww2 = 0 then 0 else 1) = 0) => ?_) (fun (c118 : ¬ ((if nzF ww2 = 0 then 0 else 1) = 0)) => ?_)
    · refine Go.iload (pc' := 79) W117 d_code_77 rfl rfl ?_
      refine Go.static (pc' := 82) W117 (rm_str G ww2) (w_3 G) (w_4 G) (w_5 G) (w_6 G) (by decide) [] [] (σf := [(a103, c104)]) rfl rfl [(.int ww2)] [(.ref a109), (.ref a103), (.ref a103)] rfl (lenOf pd_15 rfl) rfl rfl d_code_79 rfl (by first | exact Nat.le_of_ble_eq_true rfl | (simp; done) | (simp; omega) | omega) (by first | exact Nat.le_of_ble_eq_true rfl | (simp; done) | (simp; omega) | omega) (by first | exact Nat.le_of_ble_eq_true rfl | (simp; done) | (simp; omega) | omega) (by first | exact Nat.le_of_ble_eq_true rfl | (simp; done) | (simp; omega) | omega) ?_
      rintro _ _ _ T124 ⟨a119, c120, b121, c122, rfl, rfl, rfl, S123⟩ W125
      replace W125 : Wk l Z EL1 ({ frames := 8, cells := 40, slots := 1216, locals := 192 } : Room) "com/example/slicewise/slicewise/ThrownMatchesPinLaw" code 10 (some .boolean) "law" X [(a103, c104)] [(a119, c120), (b121, c122), (a109, c110), (b111, c112), (a3, c96), (a9, c10), (b11, c12)] T124 20 (40) := W125
      show Go Z EL1 _ _ _ X T124 82 #[.val (.int t1), .val (.int w1), .val (.int t2), .val (.int w2), .val (.int mode), .val (.int tt2), .val (.int ww2), .val (.ref a3), .unset, .unset] [(.ref a119), (.ref a109), (.ref a103), (.ref a103)]
      refine Go.special (pc' := 85) W125 (a := a103) (rm_thr G a103 a109 c104 (.ref a119) rfl ⟨O105, F107, F108⟩) rfl (w_46 G) (w_47 G) (w_2 G) (w_48 G) (by decide) [0] [] (σf := []) rfl rfl [(.ref a109), (.ref a119)] [(.ref a103)] rfl (lenOf pd_17 rfl) rfl rfl d_code_82 rfl (by first | exact Nat.le_of_ble_eq_true rfl | (simp; done) | (simp; omega) | omega) (by first | exact Nat.le_of_ble_eq_true rfl | (simp; done) | (simp; omega) | omega) (by first | exact Nat.le_of_ble_eq_true rfl | (simp; done) | (simp; omega) | omega) (by first | exact Nat.le_of_ble_eq_true rfl | (simp; done) | (simp; omega) | omega) ?_
      rintro _ _ _ T128 ⟨c126, rfl, rfl, rfl, R127⟩ W129
      replace W129 : Wk l Z EL1 ({ frames := 8, cells := 40, slots := 1216, locals := 192 } : Room) "com/example/slicewise/slicewise/ThrownMatchesPinLaw" code 10 (some .boolean) "law" X [(a103, c126)] [(a119, c120), (b121, c122), (a109, c110), (b111, c112), (a3, c96), (a9, c10), (b11, c12)] T128 20 (40) := W129
      show Go Z EL1 _ _ _ X T128 85 #[.val (.int t1), .val (.int w1), .val (.int t2), .val (.int w2), .val (.int mode), .val (.int tt2), .val (.int ww2), .val (.ref a3), .unset, .unset] [(.ref a103)]
      have W130 := W129.freeze [0] (σi := [(a103, c126)]) (σf := []) rfl
      replace W130 : Wk l Z EL1 ({ frames := 8, cells := 40, slots := 1216, locals := 192 } : Room) "com/example/slicewise/slicewise/ThrownMatchesPinLaw" code 10 (some .boolean) "law" X [] [(a103, c126), (a119, c120), (b121, c122), (a109, c110), (b111, c112), (a3, c96), (a9, c10), (b11, c12)] T128 20 (40) := W130
      refine Go.astore (pc' := 87) W130 #[.val (.int t1), .val (.int w1), .val (.int t2), .val (.int w2), .val (.int mode), .val (.int tt2), .val (.int ww2), .val (.ref a3), .val (.ref a103), .unset] d_code_85 rfl rfl rfl ?_
      refine Go.iloadN (pc' := 88) W130 d_code_87 rfl rfl ?_
      refine Go.iload (pc' := 90) W130 d_code_88 rfl rfl ?_
      refine Go.static (pc' := 93) W130 (rm_same G t1 tt2) (w_59 G) (w_60 G) (w_5 G) (w_61 G) (by decide) [] [] (σf := []) rfl rfl [(.int t1), (.int tt2)] [] rfl (lenOf pd_18 rfl) rfl rfl d_code_90 rfl (by first | exact Nat.le_of_ble_eq_true rfl | (simp; done) | (simp; omega) | omega) (by first | exact Nat.le_of_ble_eq_true rfl | (simp; done) | (simp; omega) | omega) (by first | exact Nat.le_of_ble_eq_true rfl | (simp; done) | (simp; omega) | omega) (by first | exact Nat.le_of_ble_eq_true rfl | (simp; done) | (simp; omega) | omega) ?_
      rintro _ _ _ T131 ⟨rfl, rfl, rfl⟩ W132
      replace W132 : Wk l Z EL1 ({ frames := 8, cells := 40, slots := 1216, locals := 192 } : Room) "com/example/slicewise/slicewise/ThrownMatchesPinLaw" code 10 (some .boolean) "law" X [] [(a103, c126), (a119, c120), (b121, c122), (a109, c110), (b111, c112), (a3, c96), (a9, c10), (b11, c12)] T131 20 (40) := W132
      show Go Z EL1 _ _ _ X T131 93 #[.val (.int t1), .val (.int w1), .val (.int t2), .val (.int w2), .val (.int mode), .val (.int tt2), .val (.int ww2), .val (.ref a3), .val (.ref a103), .unset] [(.int (if strF t1 = strF tt2 then 1 else 0))]
      refine Go.if_eq (pc' := 96) W132 124 d_code_93 (by decide) rfl (fun (c133 : (if strF t1 = strF tt2 then 1 else 0) = 0) => ?_) (fun (c133 : ¬ ((if strF t1 = strF tt2 then 1 else 0) = 0)) => ?_)
      · refine Go.iconst (pc' := 125) W132 (0 : Int32) d_code_124 (by decide) rfl ?_
        refine Go.istore (pc' := 127) W132 #[.val (.int t1), .val (.int w1), .val (.int t2), .val (.int w2), .val (.int mode), .val (.int tt2), .val (.int ww2), .val (.ref a3), .val (.ref a103), .val (.int (0 : Int32))] d_code_125 rfl rfl ?_
        refine Go.aload (pc' := 129) W132 d_code_127 rfl rfl rfl ?_
        refine Go.aload (pc' := 131) W132 d_code_129 rfl rfl rfl ?_
        refine Go.virtual (pc' := 134) W132 (rm_mat4 G a3 a103 a9 a109 b11 b111 c96 c126 c10 c110 c12 c112 _ _ S13 S113 a119 b121 c120 c122 _ S123 R97 R127) (Or.inr (Or.inl (List.mem_of_getElem? (i := 5) rfl))) R97.1 (w_62 G) (w_63 G) (w_65 G) (w_64 G) (w_2 G) (w_66 G) (by decide) [] [5, 0, 6, 7, 3, 4, 1, 2] (σf := []) rfl rfl [(.ref a103)] [] rfl (lenOf pd_19 rfl) rfl rfl d_code_131 rfl (by first | exact Nat.le_of_ble_eq_true rfl | (simp; done) | (simp; omega) | omega) (by first | exact Nat.le_of_ble_eq_true rfl | (simp; done) | (simp; omega) | omega) (by first | exact Nat.le_of_ble_eq_true rfl | (simp; done) | (simp; omega) | omega) (by first | exact Nat.le_of_ble_eq_true rfl | (simp; done) | (simp; omega) | omega) ?_
        rintro _ _ _ T134 ⟨rfl, rfl, rfl⟩ W135
        replace W135 : Wk l Z EL1 ({ frames := 8, cells := 40, slots := 1216, locals := 192 } : Room) "com/example/slicewise/slicewise/ThrownMatchesPinLaw" code 10 (some .boolean) "law" X [] [(a103, c126), (a119, c120), (b121, c122), (a109, c110), (b111, c112), (a3, c96), (a9, c10), (b11, c12)] T134 20 (40) := W135
        show Go Z EL1 _ _ _ X T134 134 #[.val (.int t1), .val (.int w1), .val (.int t2), .val (.int w2), .val (.int mode), .val (.int tt2), .val (.int ww2), .val (.ref a3), .val (.ref a103), .val (.int (0 : Int32))] [(.int (if strF t1 = strF tt2 then 1 else 0))]
        refine Go.iload (pc' := 136) W135 d_code_134 rfl rfl ?_
        refine Go.icmp_ne (pc' := 139) W135 143 d_code_136 (by decide) rfl (fun (c136 : ¬ ((if strF t1 = strF tt2 then 1 else 0) = (0 : Int32))) => ?_) (fun (c136 : (if strF t1 = strF tt2 then 1 else 0) = (0 : Int32)) => ?_)
        · refine Go.iconst (pc' := 144) W135 (0 : Int32) d_code_143 (by decide) rfl ?_
          refine Go.nret (z' := (0 : Int32)) W135 (by simp) (by decide) d_code_144 (by first | exact Nat.le_of_ble_eq_true rfl | (simp; done) | (simp; omega) | omega) (by first | exact Nat.le_of_ble_eq_true rfl | (simp; done) | (simp; omega) | omega) ?_
          first | rfl | (exfalso; simp_all)
        · refine Go.iconst (pc' := 140) W135 (1 : Int32) d_code_139 (by decide) rfl ?_
          refine Go.goto W135 144 d_code_140 (by decide) ?_
          refine Go.nret (z' := (1 : Int32)) W135 (by simp) (by decide) d_code_144 (by first | exact Nat.le_of_ble_eq_true rfl | (simp; done) | (simp; omega) | omega) (by first | exact Nat.le_of_ble_eq_true rfl | (simp; done) | (simp; omega) | omega) ?_
          first | rfl | (exfalso; simp_all)
      · refine Go.iloadN (pc' := 97) W132 d_code_96 rfl rfl ?_
        refine Go.static (pc' := 100) W132 (rm_isNull G w1) (w_32 G) (w_33 G) (w_5 G) (w_34 G) (by decide) [] [] (σf := []) rfl rfl [(.int w1)] [] rfl (lenOf pd_16 rfl) rfl rfl d_code_97 rfl (by first | exact Nat.le_of_ble_eq_true rfl | (simp; done) | (simp; omega) | omega) (by first | exact Nat.le_of_ble_eq_true rfl | (simp; done) | (simp; omega) | omega) (by first | exact Nat.le_of_ble_eq_true rfl | (simp; done) | (simp; omega) | omega) (by first | exact Nat.le_of_ble_eq_true rfl | (simp; done) | (simp; omega) | omega) ?_
        rintro _ _ _ T137 ⟨rfl, rfl, rfl⟩ W138
        replace W138 : Wk l Z EL1 ({ frames := 8, cells := 40, slots := 1216, locals := 192 } : Room) "com/example/slicewise/slicewise/ThrownMatchesPinLaw" code 10 (some .boolean) "law" X [] [(a103, c126), (a119, c120), (b121, c122), (a109, c110), (b111, c112), (a3, c96), (a9, c10), (b11, c12)] T137 20 (40) := W138
        show Go Z EL1 _ _ _ X T137 100 #[.val (.int t1), .val (.int w1), .val (.int t2), .val (.int w2), .val (.int mode), .val (.int tt2), .val (.int ww2), .val (.ref a3), .val (.ref a103), .unset] [(.int (if nzF w1 = 0 then 0 else 1))]
        refine Go.if_ne (pc' := 103) W138 120 d_code_100 (by decide) rfl (fun _ => ?_) (fun q => absurd q c18)
        refine Go.iconst (pc' := 121) W138 (1 : Int32) d_code_120 (by decide) rfl ?_
        refine Go.goto W138 125 d_code_121 (by decide) ?_
        refine Go.istore (pc' := 127) W138 #[.val (.int t1), .val (.int w1), .val (.int t2), .val (.int w2), .val (.int mode), .val (.int tt2), .val (.int ww2), .val (.ref a3), .val (.ref a103), .val (.int (1 : Int32))] d_code_125 rfl rfl ?_
        refine Go.aload (pc' := 129) W138 d_code_127 rfl rfl rfl ?_
        refine Go.aload (pc' := 131) W138 d_code_129 rfl rfl rfl ?_
        refine Go.virtual (pc' := 134) W138 (rm_mat4 G a3 a103 a9 a109 b11 b111 c96 c126 c10 c110 c12 c112 _ _ S13 S113 a119 b121 c120 c122 _ S123 R97 R127) (Or.inr (Or.inl (List.mem_of_getElem? (i := 5) rfl))) R97.1 (w_62 G) (w_63 G) (w_65 G) (w_64 G) (w_2 G) (w_66 G) (by decide) [] [5, 0, 6, 7, 3, 4, 1, 2] (σf := []) rfl rfl [(.ref a103)] [] rfl (lenOf pd_19 rfl) rfl rfl d_code_131 rfl (by first | exact Nat.le_of_ble_eq_true rfl | (simp; done) | (simp; omega) | omega) (by first | exact Nat.le_of_ble_eq_true rfl | (simp; done) | (simp; omega) | omega) (by first | exact Nat.le_of_ble_eq_true rfl | (simp; done) | (simp; omega) | omega) (by first | exact Nat.le_of_ble_eq_true rfl | (simp; done) | (simp; omega) | omega) ?_
        rintro _ _ _ T139 ⟨rfl, rfl, rfl⟩ W140
        replace W140 : Wk l Z EL1 ({ frames := 8, cells := 40, slots := 1216, locals := 192 } : Room) "com/example/slicewise/slicewise/ThrownMatchesPinLaw" code 10 (some .boolean) "law" X [] [(a103, c126), (a119, c120), (b121, c122), (a109, c110), (b111, c112), (a3, c96), (a9, c10), (b11, c12)] T139 20 (40) := W140
        show Go Z EL1 _ _ _ X T139 134 #[.val (.int t1), .val (.int w1), .val (.int t2), .val (.int w2), .val (.int mode), .val (.int tt2), .val (.int ww2), .val (.ref a3), .val (.ref a103), .val (.int (1 : Int32))] [(.int (if strF t1 = strF tt2 then 1 else 0))]
        refine Go.iload (pc' := 136) W140 d_code_134 rfl rfl ?_
        refine Go.icmp_ne (pc' := 139) W140 143 d_code_136 (by decide) rfl (fun (c141 : ¬ ((if strF t1 = strF tt2 then 1 else 0) = (1 : Int32))) => ?_) (fun (c141 : (if strF t1 = strF tt2 then 1 else 0) = (1 : Int32)) => ?_)
        · refine Go.iconst (pc' := 144) W140 (0 : Int32) d_code_143 (by decide) rfl ?_
          refine Go.nret (z' := (0 : Int32)) W140 (by simp) (by decide) d_code_144 (by first | exact Nat.le_of_ble_eq_true rfl | (simp; done) | (simp; omega) | omega) (by first | exact Nat.le_of_ble_eq_true rfl | (simp; done) | (simp; omega) | omega) ?_
          first | rfl | (exfalso; simp_all)
        · refine Go.iconst (pc' := 140) W140 (1 : Int32) d_code_139 (by decide) rfl ?_
          refine Go.goto W140 144 d_code_140 (by decide) ?_
          refine Go.nret (z' := (1 : Int32)) W140 (by simp) (by decide) d_code_144 (by first | exact Nat.le_of_ble_eq_true rfl | (simp; done) | (simp; omega) | omega) (by first | exact Nat.le_of_ble_eq_true rfl | (simp; done) | (simp; omega) | omega) ?_
          first | rfl | (exfalso; simp_all)
    · refine Go.aconstNull (pc' := 74) W117 d_code_73 rfl ?_
      refine Go.goto W117 82 d_code_74 (by decide) ?_
      refine Go.special (pc' := 85) W117 (a := a103) (rm_thr G a103 a109 c104 (.null) rfl ⟨O105, F107, F108⟩) rfl (w_46 G) (w_47 G) (w_2 G) (w_48 G) (by decide) [0] [] (σf := []) rfl rfl [(.ref a109), (.null)] [(.ref a103)] rfl (lenOf pd_17 rfl) rfl rfl d_code_82 rfl (by first | exact Nat.le_of_ble_eq_true rfl | (simp; done) | (simp; omega) | omega) (by first | exact Nat.le_of_ble_eq_true rfl | (simp; done) | (simp; omega) | omega) (by first | exact Nat.le_of_ble_eq_true rfl | (simp; done) | (simp; omega) | omega) (by first | exact Nat.le_of_ble_eq_true rfl | (simp; done) | (simp; omega) | omega) ?_
      rintro _ _ _ T144 ⟨c142, rfl, rfl, rfl, R143⟩ W145
      replace W145 : Wk l Z EL1 ({ frames := 8, cells := 40, slots := 1216, locals := 192 } : Room) "com/example/slicewise/slicewise/ThrownMatchesPinLaw" code 10 (some .boolean) "law" X [(a103, c142)] [(a109, c110), (b111, c112), (a3, c96), (a9, c10), (b11, c12)] T144 14 (28) := W145
      show Go Z EL1 _ _ _ X T144 85 #[.val (.int t1), .val (.int w1), .val (.int t2), .val (.int w2), .val (.int mode), .val (.int tt2), .val (.int ww2), .val (.ref a3), .unset, .unset] [(.ref a103)]
      have W146 := W145.freeze [0] (σi := [(a103, c142)]) (σf := []) rfl
      replace W146 : Wk l Z EL1 ({ frames := 8, cells := 40, slots := 1216, locals := 192 } : Room) "com/example/slicewise/slicewise/ThrownMatchesPinLaw" code 10 (some .boolean) "law" X [] [(a103, c142), (a109, c110), (b111, c112), (a3, c96), (a9, c10), (b11, c12)] T144 14 (28) := W146
      refine Go.astore (pc' := 87) W146 #[.val (.int t1), .val (.int w1), .val (.int t2), .val (.int w2), .val (.int mode), .val (.int tt2), .val (.int ww2), .val (.ref a3), .val (.ref a103), .unset] d_code_85 rfl rfl rfl ?_
      refine Go.iloadN (pc' := 88) W146 d_code_87 rfl rfl ?_
      refine Go.iload (pc' := 90) W146 d_code_88 rfl rfl ?_
      refine Go.static (pc' := 93) W146 (rm_same G t1 tt2) (w_59 G) (w_60 G) (w_5 G) (w_61 G) (by decide) [] [] (σf := []) rfl rfl [(.int t1), (.int tt2)] [] rfl (lenOf pd_18 rfl) rfl rfl d_code_90 rfl (by first | exact Nat.le_of_ble_eq_true rfl | (simp; done) | (simp; omega) | omega) (by first | exact Nat.le_of_ble_eq_true rfl | (simp; done) | (simp; omega) | omega) (by first | exact Nat.le_of_ble_eq_true rfl | (simp; done) | (simp; omega) | omega) (by first | exact Nat.le_of_ble_eq_true rfl | (simp; done) | (simp; omega) | omega) ?_
      rintro _ _ _ T147 ⟨rfl, rfl, rfl⟩ W148
      replace W148 : Wk l Z EL1 ({ frames := 8, cells := 40, slots := 1216, locals := 192 } : Room) "com/example/slicewise/slicewise/ThrownMatchesPinLaw" code 10 (some .boolean) "law" X [] [(a103, c142), (a109, c110), (b111, c112), (a3, c96), (a9, c10), (b11, c12)] T147 14 (28) := W148
      show Go Z EL1 _ _ _ X T147 93 #[.val (.int t1), .val (.int w1), .val (.int t2), .val (.int w2), .val (.int mode), .val (.int tt2), .val (.int ww2), .val (.ref a3), .val (.ref a103), .unset] [(.int (if strF t1 = strF tt2 then 1 else 0))]
      refine Go.if_eq (pc' := 96) W148 124 d_code_93 (by decide) rfl (fun (c149 : (if strF t1 = strF tt2 then 1 else 0) = 0) => ?_) (fun (c149 : ¬ ((if strF t1 = strF tt2 then 1 else 0) = 0)) => ?_)
      · refine Go.iconst (pc' := 125) W148 (0 : Int32) d_code_124 (by decide) rfl ?_
        refine Go.istore (pc' := 127) W148 #[.val (.int t1), .val (.int w1), .val (.int t2), .val (.int w2), .val (.int mode), .val (.int tt2), .val (.int ww2), .val (.ref a3), .val (.ref a103), .val (.int (0 : Int32))] d_code_125 rfl rfl ?_
        refine Go.aload (pc' := 129) W148 d_code_127 rfl rfl rfl ?_
        refine Go.aload (pc' := 131) W148 d_code_129 rfl rfl rfl ?_
        refine Go.virtual (pc' := 134) W148 (rm_mat1 G a3 a103 a9 a109 b11 b111 c96 c142 c10 c110 c12 c112 _ _ S13 S113 R97 R143) (Or.inr (Or.inl (List.mem_of_getElem? (i := 3) rfl))) R97.1 (w_62 G) (w_63 G) (w_65 G) (w_64 G) (w_2 G) (w_66 G) (by decide) [] [3, 0, 4, 5, 1, 2] (σf := []) rfl rfl [(.ref a103)] [] rfl (lenOf pd_19 rfl) rfl rfl d_code_131 rfl (by first | exact Nat.le_of_ble_eq_true rfl | (simp; done) | (simp; omega) | omega) (by first | exact Nat.le_of_ble_eq_true rfl | (simp; done) | (simp; omega) | omega) (by first | exact Nat.le_of_ble_eq_true rfl | (simp; done) | (simp; omega) | omega) (by first | exact Nat.le_of_ble_eq_true rfl | (simp; done) | (simp; omega) | omega) ?_
        rintro _ _ _ T150 ⟨rfl, rfl, rfl⟩ W151
        replace W151 : Wk l Z EL1 ({ frames := 8, cells := 40, slots := 1216, locals := 192 } : Room) "com/example/slicewise/slicewise/ThrownMatchesPinLaw" code 10 (some .boolean) "law" X [] [(a103, c142), (a109, c110), (b111, c112), (a3, c96), (a9, c10), (b11, c12)] T150 14 (28) := W151
        show Go Z EL1 _ _ _ X T150 134 #[.val (.int t1), .val (.int w1), .val (.int t2), .val (.int w2), .val (.int mode), .val (.int tt2), .val (.int ww2), .val (.ref a3), .val (.ref a103), .val (.int (0 : Int32))] [(.int (if strF t1 = strF tt2 then 1 else 0))]
        refine Go.iload (pc' := 136) W151 d_code_134 rfl rfl ?_
        refine Go.icmp_ne (pc' := 139) W151 143 d_code_136 (by decide) rfl (fun (c152 : ¬ ((if strF t1 = strF tt2 then 1 else 0) = (0 : Int32))) => ?_) (fun (c152 : (if strF t1 = strF tt2 then 1 else 0) = (0 : Int32)) => ?_)
        · refine Go.iconst (pc' := 144) W151 (0 : Int32) d_code_143 (by decide) rfl ?_
          refine Go.nret (z' := (0 : Int32)) W151 (by simp) (by decide) d_code_144 (by first | exact Nat.le_of_ble_eq_true rfl | (simp; done) | (simp; omega) | omega) (by first | exact Nat.le_of_ble_eq_true rfl | (simp; done) | (simp; omega) | omega) ?_
          first | rfl | (exfalso; simp_all)
        · refine Go.iconst (pc' := 140) W151 (1 : Int32) d_code_139 (by decide) rfl ?_
          refine Go.goto W151 144 d_code_140 (by decide) ?_
          refine Go.nret (z' := (1 : Int32)) W151 (by simp) (by decide) d_code_144 (by first | exact Nat.le_of_ble_eq_true rfl | (simp; done) | (simp; omega) | omega) (by first | exact Nat.le_of_ble_eq_true rfl | (simp; done) | (simp; omega) | omega) ?_
          first | rfl | (exfalso; simp_all)
      · refine Go.iloadN (pc' := 97) W148 d_code_96 rfl rfl ?_
        refine Go.static (pc' := 100) W148 (rm_isNull G w1) (w_32 G) (w_33 G) (w_5 G) (w_34 G) (by decide) [] [] (σf := []) rfl rfl [(.int w1)] [] rfl (lenOf pd_16 rfl) rfl rfl d_code_97 rfl (by first | exact Nat.le_of_ble_eq_true rfl | (simp; done) | (simp; omega) | omega) (by first | exact Nat.le_of_ble_eq_true rfl | (simp; done) | (simp; omega) | omega) (by first | exact Nat.le_of_ble_eq_true rfl | (simp; done) | (simp; omega) | omega) (by first | exact Nat.le_of_ble_eq_true rfl | (simp; done) | (simp; omega) | omega) ?_
        rintro _ _ _ T153 ⟨rfl, rfl, rfl⟩ W154
        replace W154 : Wk l Z EL1 ({ frames := 8, cells := 40, slots := 1216, locals := 192 } : Room) "com/example/slicewise/slicewise/ThrownMatchesPinLaw" code 10 (some .boolean) "law" X [] [(a103, c142), (a109, c110), (b111, c112), (a3, c96), (a9, c10), (b11, c12)] T153 14 (28) := W154
        show Go Z EL1 _ _ _ X T153 100 #[.val (.int t1), .val (.int w1), .val (.int t2), .val (.int w2), .val (.int mode), .val (.int tt2), .val (.int ww2), .val (.ref a3), .val (.ref a103), .unset] [(.int (if nzF w1 = 0 then 0 else 1))]
        refine Go.if_ne (pc' := 103) W154 120 d_code_100 (by decide) rfl (fun _ => ?_) (fun q => absurd q c18)
        refine Go.iconst (pc' := 121) W154 (1 : Int32) d_code_120 (by decide) rfl ?_
        refine Go.goto W154 125 d_code_121 (by decide) ?_
        refine Go.istore (pc' := 127) W154 #[.val (.int t1), .val (.int w1), .val (.int t2), .val (.int w2), .val (.int mode), .val (.int tt2), .val (.int ww2), .val (.ref a3), .val (.ref a103), .val (.int (1 : Int32))] d_code_125 rfl rfl ?_
        refine Go.aload (pc' := 129) W154 d_code_127 rfl rfl rfl ?_
        refine Go.aload (pc' := 131) W154 d_code_129 rfl rfl rfl ?_
        refine Go.virtual (pc' := 134) W154 (rm_mat1 G a3 a103 a9 a109 b11 b111 c96 c142 c10 c110 c12 c112 _ _ S13 S113 R97 R143) (Or.inr (Or.inl (List.mem_of_getElem? (i := 3) rfl))) R97.1 (w_62 G) (w_63 G) (w_65 G) (w_64 G) (w_2 G) (w_66 G) (by decide) [] [3, 0, 4, 5, 1, 2] (σf := []) rfl rfl [(.ref a103)] [] rfl (lenOf pd_19 rfl) rfl rfl d_code_131 rfl (by first | exact Nat.le_of_ble_eq_true rfl | (simp; done) | (simp; omega) | omega) (by first | exact Nat.le_of_ble_eq_true rfl | (simp; done) | (simp; omega) | omega) (by first | exact Nat.le_of_ble_eq_true rfl | (simp; done) | (simp; omega) | omega) (by first | exact Nat.le_of_ble_eq_true rfl | (simp; done) | (simp; omega) | omega) ?_
        rintro _ _ _ T155 ⟨rfl, rfl, rfl⟩ W156
        replace W156 : Wk l Z EL1 ({ frames := 8, cells := 40, slots := 1216, locals := 192 } : Room) "com/example/slicewise/slicewise/ThrownMatchesPinLaw" code 10 (some .boolean) "law" X [] [(a103, c142), (a109, c110), (b111, c112), (a3, c96), (a9, c10), (b11, c12)] T155 14 (28) := W156
        show Go Z EL1 _ _ _ X T155 134 #[.val (.int t1), .val (.int w1), .val (.int t2), .val (.int w2), .val (.int mode), .val (.int tt2), .val (.int ww2), .val (.ref a3), .val (.ref a103), .val (.int (1 : Int32))] [(.int (if strF t1 = strF tt2 then 1 else 0))]
        refine Go.iload (pc' := 136) W156 d_code_134 rfl rfl ?_
        refine Go.icmp_ne (pc' := 139) W156 143 d_code_136 (by decide) rfl (fun (c157 : ¬ ((if strF t1 = strF tt2 then 1 else 0) = (1 : Int32))) => ?_) (fun (c157 : (if strF t1 = strF tt2 then 1 else 0) = (1 : Int32)) => ?_)
        · refine Go.iconst (pc' := 144) W156 (0 : Int32) d_code_143 (by decide) rfl ?_
          refine Go.nret (z' := (0 : Int32)) W156 (by simp) (by decide) d_code_144 (by first | exact Nat.le_of_ble_eq_true rfl | (simp; done) | (simp; omega) | omega) (by first | exact Nat.le_of_ble_eq_true rfl | (simp; done) | (simp; omega) | omega) ?_
          first | rfl | (exfalso; simp_all)
        · refine Go.iconst (pc' := 140) W156 (1 : Int32) d_code_139 (by decide) rfl ?_
          refine Go.goto W156 144 d_code_140 (by decide) ?_
          refine Go.nret (z' := (1 : Int32)) W156 (by simp) (by decide) d_code_144 (by first | exact Nat.le_of_ble_eq_true rfl | (simp; done) | (simp; omega) | omega) (by first | exact Nat.le_of_ble_eq_true rfl | (simp; done) | (simp; omega) | omega) ?_
          first | rfl | (exfalso; simp_all)
theorem d_code_0 : decode code 0 = .ok (.iload 4, 2) := by decide +kernel
theorem d_code_2 : decode code 2 = .ok (.iconst 1, 1) := by decide +kernel
theorem d_code_3 : decode code 3 = .ok (.iand, 1) := by decide +kernel
theorem d_code_4 : decode code 4 = .ok (.ifCond .eq 7, 3) := by decide +kernel
theorem d_code_11 : decode code 11 = .ok (.iload_n 2, 1) := by decide +kernel
theorem d_code_12 : decode code 12 = .ok (.istore 5, 2) := by decide +kernel
theorem d_code_14 : decode code 14 = .ok (.iload 4, 2) := by decide +kernel
theorem d_code_16 : decode code 16 = .ok (.iconst 2, 1) := by decide +kernel
theorem d_code_17 : decode code 17 = .ok (.iand, 1) := by decide +kernel
theorem d_code_18 : decode code 18 = .ok (.ifCond .eq 7, 3) := by decide +kernel
theorem d_code_25 : decode code 25 = .ok (.iload_n 3, 1) := by decide +kernel
theorem d_code_26 : decode code 26 = .ok (.istore 6, 2) := by decide +kernel
theorem d_code_21 : decode code 21 = .ok (.iload_n 1, 1) := by decide +kernel
theorem d_code_22 : decode code 22 = .ok (.goto 4, 3) := by decide +kernel
theorem d_code_7 : decode code 7 = .ok (.iload_n 0, 1) := by decide +kernel
theorem d_code_8 : decode code 8 = .ok (.goto 4, 3) := by decide +kernel
set_option maxRecDepth 65536 in
set_option maxHeartbeats 40000000 in
theorem rm_law {l : Launch} {Z : State} {a0 : Array Value} (G : Cl Z a0) (t1 w1 t2 w2 mode : Int32) :
    Met l Z EL1 (⟨"com/example/slicewise/slicewise/ThrownMatchesPinLaw", "law", "(IIIII)Z"⟩ : MethodName) code 10 (some .boolean) ({ frames := 8, cells := 40, slots := 1216, locals := 192 } : Room) #[.int t1, .int w1, .int t2, .int w2, .int mode] [] [] (fun v _ _ => v = some (.int 1)) := by
  refine Met.walk G.2.1 pn_9 #[.val (.int t1), .val (.int w1), .val (.int t2), .val (.int w2), .val (.int mode), .unset, .unset, .unset, .unset, .unset] (fun m => by first | (simp [entryFrame, mkF, argsToLocals, Value.category]; done) | rfl) ?_
  intro X T0 W0
  refine Go.iload (pc' := 2) W0 d_code_0 rfl rfl ?_
  refine Go.iconst (pc' := 3) W0 (1 : Int32) d_code_2 (by decide) rfl ?_
  refine Go.iand (pc' := 4) W0 d_code_3 rfl ?_
  refine Go.if_eq (pc' := 7) W0 11 d_code_4 (by decide) rfl (fun (c1 : (mode &&& (1 : Int32)) = 0) => ?_) (fun (c1 : ¬ ((mode &&& (1 : Int32)) = 0)) => ?_)
  · refine Go.iloadN (pc' := 12) W0 d_code_11 rfl rfl ?_
    refine Go.istore (pc' := 14) W0 #[.val (.int t1), .val (.int w1), .val (.int t2), .val (.int w2), .val (.int mode), .val (.int t2), .unset, .unset, .unset, .unset] d_code_12 rfl rfl ?_
    refine Go.iload (pc' := 16) W0 d_code_14 rfl rfl ?_
    refine Go.iconst (pc' := 17) W0 (2 : Int32) d_code_16 (by decide) rfl ?_
    refine Go.iand (pc' := 18) W0 d_code_17 rfl ?_
    refine Go.if_eq (pc' := 21) W0 25 d_code_18 (by decide) rfl (fun (c2 : (mode &&& (2 : Int32)) = 0) => ?_) (fun (c2 : ¬ ((mode &&& (2 : Int32)) = 0)) => ?_)
    · refine Go.iloadN (pc' := 26) W0 d_code_25 rfl rfl ?_
      refine Go.istore (pc' := 28) W0 #[.val (.int t1), .val (.int w1), .val (.int t2), .val (.int w2), .val (.int mode), .val (.int t2), .val (.int w2), .unset, .unset, .unset] d_code_26 rfl rfl ?_
      exact rm_tail G t1 w1 t2 w2 mode t2 w2 W0
    · refine Go.iloadN (pc' := 22) W0 d_code_21 rfl rfl ?_
      refine Go.goto W0 26 d_code_22 (by decide) ?_
      refine Go.istore (pc' := 28) W0 #[.val (.int t1), .val (.int w1), .val (.int t2), .val (.int w2), .val (.int mode), .val (.int t2), .val (.int w1), .unset, .unset, .unset] d_code_26 rfl rfl ?_
      exact rm_tail G t1 w1 t2 w2 mode t2 w1 W0
  · refine Go.iloadN (pc' := 8) W0 d_code_7 rfl rfl ?_
    refine Go.goto W0 12 d_code_8 (by decide) ?_
    refine Go.istore (pc' := 14) W0 #[.val (.int t1), .val (.int w1), .val (.int t2), .val (.int w2), .val (.int mode), .val (.int t1), .unset, .unset, .unset, .unset] d_code_12 rfl rfl ?_
    refine Go.iload (pc' := 16) W0 d_code_14 rfl rfl ?_
    refine Go.iconst (pc' := 17) W0 (2 : Int32) d_code_16 (by decide) rfl ?_
    refine Go.iand (pc' := 18) W0 d_code_17 rfl ?_
    refine Go.if_eq (pc' := 21) W0 25 d_code_18 (by decide) rfl (fun (c3 : (mode &&& (2 : Int32)) = 0) => ?_) (fun (c3 : ¬ ((mode &&& (2 : Int32)) = 0)) => ?_)
    · refine Go.iloadN (pc' := 26) W0 d_code_25 rfl rfl ?_
      refine Go.istore (pc' := 28) W0 #[.val (.int t1), .val (.int w1), .val (.int t2), .val (.int w2), .val (.int mode), .val (.int t1), .val (.int w2), .unset, .unset, .unset] d_code_26 rfl rfl ?_
      exact rm_tail G t1 w1 t2 w2 mode t1 w2 W0
    · refine Go.iloadN (pc' := 22) W0 d_code_21 rfl rfl ?_
      refine Go.goto W0 26 d_code_22 (by decide) ?_
      refine Go.istore (pc' := 28) W0 #[.val (.int t1), .val (.int w1), .val (.int t2), .val (.int w2), .val (.int mode), .val (.int t1), .val (.int w1), .unset, .unset, .unset] d_code_26 rfl rfl ?_
      exact rm_tail G t1 w1 t2 w2 mode t1 w1 W0
set_option maxRecDepth 65536 in
set_option maxHeartbeats 40000000 in
theorem comes_1 {Post : Tables → Env → Array Value → State → Outcome → State → Prop} (hpost : ∀ tb e args s v u, (limb_1_1.after args s (.returned v) u = true ∧ limb_1_2.after args s (.returned v) u = true ∧ True) → ReturnedEndW s (.returned v) u (Jvm.fieldLocs frame_1_writes args s ++ Jvm.arrayLocs frame_1_arrays args s ++ Jvm.staticLocs frame_1_statics s) 40 1216 → Post tb e args s (.returned v) u) :
    ArmFor flags0 classFile x code maxLocals ret World_1 tables_1 room_1 Calls_1 rest_1 Pre_1 Post := by
  intro l hfl _ _ p e ha hc hk s m args below hf hA hF happ hP
  obtain ⟨hcalls, hrest, hpre⟩ := hP
  obtain ⟨-, -, -, hnamed, -, -, -, hat⟩ := (Spec.applies_iff hf).mp happ
  obtain ⟨hg, hn⟩ := and_e (Cond.before_iff.mp (show (Jvm.Cond.and given_1 narrow_1).before args s = true from hpre))
  obtain ⟨g0, h0⟩ := and_e hg
  obtain ⟨g1, h1⟩ := and_e h0
  obtain ⟨g2, h2⟩ := and_e h1
  obtain ⟨g3, h3⟩ := and_e h2
  obtain ⟨g4, h4⟩ := and_e h3
  have g5 := h4
  obtain ⟨w0, w1, w2, w3, w4, rfl⟩ : ∃ w0 w1 w2 w3 w4 : Value, args = #[w0, w1, w2, w3, w4] := by
    have hs : args.size = 5 := by simpa [Cond.value, given_1] using g0
    obtain ⟨L⟩ := args
    match L, hs with
    | [w0, w1, w2, w3, w4], _ => exact ⟨w0, w1, w2, w3, w4, rfl⟩
  have hw := fun d (hd : d ∈ tables_1) => atoms_spec (ws := Jvm.Cond.code x code maxLocals ret :: tables_1) hat d (List.mem_cons_of_mem _ hd)
  obtain ⟨hsets, hown0⟩ := atoms_of _ (rest_1_c_eq ▸ (show rest_1_c.before _ s = true from hrest))
  have hfit : Fit s := fun {y c} hc i hi => by
    obtain ⟨ha, rfl⟩ := Array.getElem?_eq_some_iff.mp hc
    have q := List.all_eq_true.mp ((Array.all_eq_true_iff_forall_mem.mp hF) _ (Array.getElem_mem ha)) i (List.mem_range.mpr hi)
    simpa [Array.getElem?_eq_getElem hi] using q
  obtain ⟨i0, e0⟩ := is_v g1
  obtain rfl : w0 = (.int i0) := Option.some.inj e0
  obtain ⟨i1, e1⟩ := is_v g2
  obtain rfl : w1 = (.int i1) := Option.some.inj e1
  obtain ⟨i2, e2⟩ := is_v g3
  obtain rfl : w2 = (.int i2) := Option.some.inj e2
  obtain ⟨i3, e3⟩ := is_v g4
  obtain rfl : w3 = (.int i3) := Option.some.inj e3
  obtain ⟨i4, e4⟩ := is_v g5
  obtain rfl : w4 = (.int i4) := Option.some.inj e4
  have n5 := not_v (Cond.before_iff.mp (hsets _ (List.mem_of_getElem? (i := 2) rfl)))
  obtain ⟨icv, ecv⟩ := is_v (Cond.before_iff.mp (hsets _ (List.mem_of_getElem? (i := 1) rfl)))
  have Scv : Sta s s.heap "java/lang/String" "COMPACT_STRINGS" "Z" (.int icv) := Sta.start ecv (Or.inl (hsets _ (List.mem_of_getElem? (i := 0) rfl)))
  have ccv : ¬ (icv = (0 : Int32)) := gotF (Cond.eq_ints ecv (Term.int_eval (0))) n5
  have hEL : EW s _ EL1 := (EW.cons (text := "") (hw _ (List.mem_of_getElem? (l := tables_1) (i := 24) rfl)) (by decide +kernel) EW.nil)
  obtain ⟨vfm, efm, rfm⟩ := isR_v (Cond.before_iff.mp (hsets _ (List.mem_of_getElem? (i := 8) rfl)))
  have Sfm : Sta s s.heap "jdk/internal/util/Preconditions" "SIOOBE_FORMATTER" "Ljava/util/function/BiFunction;" vfm := Sta.start efm (Or.inl (hsets _ (List.mem_of_getElem? (i := 7) rfl)))
  have G : Cl s _ := ⟨hw, hEL, ⟨icv, Scv, ccv⟩, ⟨vfm, Sfm, rfm⟩, trivial⟩
  have hCH : CHv s EL1 s.vm s.heap := CHv.start hEL (fun p hp => hcalls.1 p hp) (hsets _ (List.mem_of_getElem? (i := 2) rfl)) (w_25 G) (w_11 G)
  have H0 : Hp s EL1 [] [] s [] [] s.vm s.heap := ⟨CHr.refl hCH, (fun _ q => nomatch q), (fun _ q => nomatch q), List.nodup_nil, (fun _ q => nomatch q), (fun _ q => nomatch q), (fun _ _ q _ => q), Nat.le_refl _, fun _ _ q => q⟩
  have happ' : (head1 [Jvm.Cond.code x code maxLocals ret] room_1).appliesLoose x e.platform s = true := by
    obtain ⟨q1, q2, q3, q4, q5, q6, q7, q8⟩ := (Spec.appliesLoose_iff hf).mp ((Spec.applies_iff_loose hf).mp happ).1
    refine (Spec.appliesLoose_iff hf).mpr ⟨q1, q2, q3, q4, q5, q6, q7, ?_⟩
    show (Jvm.Cond.and _ .tt).before _ s = true
    rw [Cond.before_and, atoms_spec (ws := Jvm.Cond.code x code maxLocals ret :: tables_1) hat _ (List.mem_cons_self ..)]; rfl
  obtain ⟨n, o, h1, h2, h3, v, σ, ρ, L, rfl, rfl, N, -, hq⟩ := rm_law G i0 i1 i2 i3 i4  p e ha hc hk s m _ below hf happ' ⟨rfl, State.Warmed39.refl s, H0⟩ trivial
  refine ⟨n, _, h1, h2, h3, hpost _ _ _ _ _ _ ⟨Cond.after_iff.mpr rfl, Cond.after_iff.mpr (eq_i res_at (Term.int_eval (1)) rfl), trivial⟩ ⟨hq.1, hq.2.1, hq.2.2.1, (hq.2.2.2.sift fun y hy => Or.inr (N y hy)).mono (by decide) (by decide)⟩⟩
theorem main_1_1 : Claimed_1_1 := comes_1 fun _ _ _ _ _ _ h hF => ⟨h.1, hF⟩
theorem main_1_2 : Claimed_1_2 := comes_1 fun _ _ _ _ _ _ h hF => ⟨h.2.1, hF⟩
end Jvm.Pilot.@@N@@
namespace Jvm.Pilot.@@N@@
open Jvm Jvm.ClassFile Sem Op Lib Jvm.Free Jvm.Stand Jvm.Pilot.@@N@@.Jvm.D
/-! MADE BY PROGRAM (witnessworld.py) out of the Statement's table words and the real class files: 21 classes; the members and pool entries that the words name. The judged class is class 1, her method 5. -/
namespace start1
open Jvm.ClassFile
def u (s : String) : CpInfo := .utf8 (stringToUtf16 s)
/-- a pool by its gaps: so many unusable entries, then the entry; so many at the end -/
def gap : Nat → List CpInfo → List CpInfo
  | 0, r => r
  | n + 1, r => .unusable :: gap n r
def poolList (es : List (Nat × CpInfo)) (last : Nat) : List CpInfo := es.foldr (fun e r => gap e.1 (e.2 :: r)) (gap last [])
def pool (es : List (Nat × CpInfo)) (last : Nat) : Array CpInfo := ⟨poolList es last⟩
def fileOf (pool : Array CpInfo) (this : Nat) (attrs : Array Attribute := #[]) (ms : Array MethodInfo := #[]) (fl : Nat := 33) (sup : Nat := 0) (ifs : Array Nat := #[]) (fds : Array FieldInfo := #[]) : ClassFile where
  minorVersion := 0
  majorVersion := 65
  constantPool := pool
  accessFlags := fl
  thisClass := this
  superClass := sup
  interfaces := ifs
  fields := fds
  methods := ms
  attributes := attrs
def plain (name : String) (sup : Option ClassId) : Class where
  name := name
  kind := .ordinary
  loader := none
  accessFlags := 33
  super := sup
  interfaces := #[]
  cf := none
  fields := #[]
  methods := #[]
  instanceTypes := #[]
  staticTypes := #[]
  resolved := #[]
  callSites := []
  init := .initialized
  statics := none
  mirror := none

def pool0 : Array CpInfo := pool [(5, u "<init>"), (0, u "()V"), (1, .class_ 10), (1, u "java/lang/Object")] 113

def k0c0 : Code := { maxStack := 0, maxLocals := 1, code := object_method_1_code, exceptionTable := #[], attributes := #[] }
def k0m0 : Method := { name := "<init>", desc := "()V", sig := { parameters := [], returnType := none }, accessFlags := 1, code := some k0c0 }
/-- java/lang/Object -/
def k0 : Class := { plain "java/lang/Object" none with
  accessFlags := 33
  interfaces := #[]
  cf := some (fileOf pool0 8 #[] #[{ accessFlags := 1, nameIndex := 5, descriptorIndex := 6, attributes := #[] }] 33 0 #[] #[])
  fields := #[]
  methods := #[k0m0]
  instanceTypes := #[]
  staticTypes := #[]
  resolved := Array.replicate 124 none
  statics := none }

def pool1 : Array CpInfo := pool [(2, .class_ 4), (1, u "java/lang/Object"), (0, u "<init>"), (0, u "()V"), (0, .methodref 8 9), (0, .class_ 10), (0, .nameAndType 11 12), (0, u "com/example/slicewise/slicewise/ThrownMatchesPinLaw"), (0, u "ch"), (0, u "(II)I"), (0, .class_ 14), (0, u "java/lang/String"), (0, .methodref 13 16), (0, .nameAndType 5 17), (0, u "([C)V"), (0, .class_ 19), (0, u "com/example/slicewise/slicewise/Thrown"), (0, .methodref 8 21), (0, .nameAndType 22 23), (0, u "str"), (0, u "(I)Ljava/lang/String;"), (0, .methodref 8 25), (0, .nameAndType 26 27), (0, u "isNull"), (0, u "(I)Z"), (0, .methodref 18 29), (0, .nameAndType 5 30), (0, u "(Ljava/lang/String;Ljava/lang/String;)V"), (0, .methodref 8 32), (0, .nameAndType 33 34), (0, u "same"), (0, u "(II)Z"), (0, .methodref 18 36), (0, .nameAndType 37 38), (0, u "matches"), (0, u "(Lcom/example/slicewise/slicewise/Thrown;)Z"), (3, u "law"), (0, u "(IIIII)Z")] 2

def k1m0 : Method := { name := "<init>", desc := "()V", sig := { parameters := [], returnType := none }, accessFlags := 1, code := none }
def k1c1 : Code := { maxStack := 4, maxLocals := 2, code := method_2_code, exceptionTable := #[], attributes := #[] }
def k1m1 : Method := { name := "ch", desc := "(II)I", sig := { parameters := [.int, .int], returnType := some .int }, accessFlags := 10, code := some k1c1 }
def k1c2 : Code := { maxStack := 6, maxLocals := 5, code := method_3_code, exceptionTable := #[], attributes := #[] }
def k1m2 : Method := { name := "str", desc := "(I)Ljava/lang/String;", sig := { parameters := [.int], returnType := some (.object "java/lang/String") }, accessFlags := 10, code := some k1c2 }
def k1c3 : Code := { maxStack := 2, maxLocals := 1, code := method_4_code, exceptionTable := #[], attributes := #[] }
def k1m3 : Method := { name := "isNull", desc := "(I)Z", sig := { parameters := [.int], returnType := some .boolean }, accessFlags := 10, code := some k1c3 }
def k1c4 : Code := { maxStack := 3, maxLocals := 4, code := method_5_code, exceptionTable := #[], attributes := #[] }
def k1m4 : Method := { name := "same", desc := "(II)Z", sig := { parameters := [.int, .int], returnType := some .boolean }, accessFlags := 10, code := some k1c4 }
def k1c5 : Code := { maxStack := 4, maxLocals := 10, code := code, exceptionTable := #[], attributes := #[] }
def k1m5 : Method := { name := "law", desc := "(IIIII)Z", sig := { parameters := [.int, .int, .int, .int, .int], returnType := some .boolean }, accessFlags := 9, code := some k1c5 }
/-- com/example/slicewise/slicewise/ThrownMatchesPinLaw -/
def k1 : Class := { plain "com/example/slicewise/slicewise/ThrownMatchesPinLaw" (some 0) with
  accessFlags := 49
  interfaces := #[]
  cf := some (fileOf pool1 8 #[] #[{ accessFlags := 1, nameIndex := 5, descriptorIndex := 6, attributes := #[] }, { accessFlags := 10, nameIndex := 11, descriptorIndex := 12, attributes := #[] }, { accessFlags := 10, nameIndex := 22, descriptorIndex := 23, attributes := #[] }, { accessFlags := 10, nameIndex := 26, descriptorIndex := 27, attributes := #[] }, { accessFlags := 10, nameIndex := 33, descriptorIndex := 34, attributes := #[] }, { accessFlags := 9, nameIndex := 42, descriptorIndex := 43, attributes := #[] }] 49 2 #[] #[])
  fields := #[]
  methods := #[k1m0, k1m1, k1m2, k1m3, k1m4, k1m5]
  instanceTypes := #[]
  staticTypes := #[]
  resolved := Array.replicate 46 none
  statics := none }

def pool2 : Array CpInfo := pool [(1, .methodref 2 3), (0, .class_ 4), (0, .nameAndType 5 6), (0, u "java/lang/Object"), (0, u "<init>"), (0, u "()V"), (0, .class_ 8), (0, u "java/lang/Record")] 13

def k2c0 : Code := { maxStack := 1, maxLocals := 1, code := jdk_30_method_1_code, exceptionTable := #[], attributes := #[] }
def k2m0 : Method := { name := "<init>", desc := "()V", sig := { parameters := [], returnType := none }, accessFlags := 4, code := some k2c0 }
/-- java/lang/Record -/
def k2 : Class := { plain "java/lang/Record" (some 0) with
  accessFlags := 1057
  interfaces := #[]
  cf := some (fileOf pool2 7 #[] #[{ accessFlags := 4, nameIndex := 5, descriptorIndex := 6, attributes := #[] }] 1057 2 #[] #[])
  fields := #[]
  methods := #[k2m0]
  instanceTypes := #[]
  staticTypes := #[]
  resolved := Array.replicate 22 none
  statics := none }

def pool3 : Array CpInfo := pool [(1, .methodref 2 3), (0, .class_ 4), (0, .nameAndType 5 6), (0, u "java/lang/Record"), (0, u "<init>"), (0, u "()V"), (0, .fieldref 8 9), (0, .class_ 10), (0, .nameAndType 11 12), (0, u "com/example/slicewise/slicewise/Thrown"), (0, u "type"), (0, u "Ljava/lang/String;"), (0, .fieldref 8 14), (0, .nameAndType 15 12), (0, u "where"), (1, .class_ 19), (1, u "java/lang/String"), (30, .methodref 17 51), (0, .nameAndType 52 53), (0, u "equals"), (0, u "(Ljava/lang/Object;)Z"), (21, u "(Ljava/lang/String;Ljava/lang/String;)V"), (18, u "matches"), (0, u "(Lcom/example/slicewise/slicewise/Thrown;)Z")] 32

def k3c0 : Code := { maxStack := 2, maxLocals := 3, code := prog_14_method_1_code, exceptionTable := #[], attributes := #[] }
def k3m0 : Method := { name := "<init>", desc := "(Ljava/lang/String;Ljava/lang/String;)V", sig := { parameters := [(.object "java/lang/String"), (.object "java/lang/String")], returnType := none }, accessFlags := 0, code := some k3c0 }
def k3c1 : Code := { maxStack := 2, maxLocals := 2, code := prog_14_method_3_code, exceptionTable := #[], attributes := #[] }
def k3m1 : Method := { name := "matches", desc := "(Lcom/example/slicewise/slicewise/Thrown;)Z", sig := { parameters := [(.object "com/example/slicewise/slicewise/Thrown")], returnType := some .boolean }, accessFlags := 0, code := some k3c1 }
/-- com/example/slicewise/slicewise/Thrown -/
def k3 : Class := { plain "com/example/slicewise/slicewise/Thrown" (some 2) with
  accessFlags := 48
  interfaces := #[]
  cf := some (fileOf pool3 8 #[] #[{ accessFlags := 0, nameIndex := 5, descriptorIndex := 75, attributes := #[] }, { accessFlags := 0, nameIndex := 94, descriptorIndex := 95, attributes := #[] }] 48 2 #[] #[{ accessFlags := 18, nameIndex := 11, descriptorIndex := 12, attributes := #[] }, { accessFlags := 18, nameIndex := 15, descriptorIndex := 12, attributes := #[] }])
  fields := #[{ name := "type", type := (.object "java/lang/String"), accessFlags := 18, slot := 0, constantValue := 0 }, { name := "where", type := (.object "java/lang/String"), accessFlags := 18, slot := 1, constantValue := 0 }]
  methods := #[k3m0, k3m1]
  instanceTypes := #[(.object "java/lang/String"), (.object "java/lang/String")]
  staticTypes := #[]
  resolved := Array.replicate 128 none
  statics := none }

def pool4 : Array CpInfo := pool [(1, .class_ 2), (0, u "java/io/Serializable"), (0, .class_ 4), (0, u "java/lang/Object")] 2

/-- java/io/Serializable -/
def k4 : Class := { plain "java/io/Serializable" (some 0) with
  accessFlags := 1537
  interfaces := #[]
  cf := some (fileOf pool4 1 #[] #[] 1537 3 #[] #[])
  fields := #[]
  methods := #[]
  instanceTypes := #[]
  staticTypes := #[]
  resolved := Array.replicate 7 none
  statics := none }

def pool5 : Array CpInfo := pool [(1, .class_ 2), (0, u "java/lang/Comparable"), (0, .class_ 4), (0, u "java/lang/Object")] 7

/-- java/lang/Comparable -/
def k5 : Class := { plain "java/lang/Comparable" (some 0) with
  accessFlags := 1537
  interfaces := #[]
  cf := some (fileOf pool5 1 #[] #[] 1537 3 #[] #[])
  fields := #[]
  methods := #[]
  instanceTypes := #[]
  staticTypes := #[]
  resolved := Array.replicate 12 none
  statics := none }

def pool6 : Array CpInfo := pool [(2, .class_ 4), (1, u "java/lang/CharSequence"), (42, .class_ 48), (0, u "java/lang/CharSequence$1CodePointIterator"), (10, .class_ 60), (0, u "java/lang/CharSequence$1CharIterator"), (5, .class_ 67), (0, u "java/lang/Object")] 63

/-- java/lang/CharSequence -/
def k6 : Class := { plain "java/lang/CharSequence" (some 0) with
  accessFlags := 1537
  interfaces := #[]
  cf := some (fileOf pool6 2 #[.nestMembers #[47, 59]] #[] 1537 66 #[] #[])
  fields := #[]
  methods := #[]
  instanceTypes := #[]
  staticTypes := #[]
  resolved := Array.replicate 131 none
  statics := none }

def pool7 : Array CpInfo := pool [(1, .class_ 2), (0, u "java/lang/constant/Constable"), (0, .class_ 4), (0, u "java/lang/Object")] 6

/-- java/lang/constant/Constable -/
def k7 : Class := { plain "java/lang/constant/Constable" (some 0) with
  accessFlags := 1537
  interfaces := #[]
  cf := some (fileOf pool7 1 #[] #[] 1537 3 #[] #[])
  fields := #[]
  methods := #[]
  instanceTypes := #[]
  staticTypes := #[]
  resolved := Array.replicate 11 none
  statics := none }

def pool8 : Array CpInfo := pool [(1, .class_ 2), (0, u "java/lang/constant/ConstantDesc"), (0, .class_ 4), (0, u "java/lang/Object")] 32

/-- java/lang/constant/ConstantDesc -/
def k8 : Class := { plain "java/lang/constant/ConstantDesc" (some 0) with
  accessFlags := 1537
  interfaces := #[]
  cf := some (fileOf pool8 1 #[] #[] 1537 3 #[] #[])
  fields := #[]
  methods := #[]
  instanceTypes := #[]
  staticTypes := #[]
  resolved := Array.replicate 37 none
  statics := none }

def pool9 : Array CpInfo := pool [(1, .methodref 2 3), (0, .class_ 4), (0, .nameAndType 5 6), (0, u "java/lang/Object"), (0, u "<init>"), (0, u "()V"), (0, .string 8), (0, u ""), (0, .fieldref 10 11), (0, .class_ 12), (0, .nameAndType 13 14), (0, u "java/lang/String"), (0, u "value"), (0, u "[B"), (0, .fieldref 10 16), (0, .nameAndType 17 18), (0, u "coder"), (0, u "B"), (2, u "hash"), (0, u "I"), (2, u "hashIsZero"), (0, u "Z"), (0, .methodref 10 28), (0, .nameAndType 5 29), (0, u "([CIILjava/lang/Void;)V"), (8, .fieldref 10 39), (0, .nameAndType 40 26), (0, u "COMPACT_STRINGS"), (1, .class_ 44), (1, u "java/lang/StringUTF16"), (0, u "compress"), (1, .methodref 42 48), (0, .nameAndType 49 50), (0, u "coderFromArrayLen"), (0, u "([BI)B"), (56, .class_ 109), (1, u "java/lang/StringLatin1"), (67, .methodref 42 178), (0, .nameAndType 45 179), (0, u "([CII)[B"), (361, .methodref 107 542), (0, .nameAndType 543 544), (0, u "equals"), (0, u "([B[B)Z"), (28, u "(Ljava/lang/Object;)Z"), (1, .class_ 576), (0, u "java/lang/CharSequence"), (22, u "CASE_INSENSITIVE_ORDER"), (0, u "Ljava/util/Comparator;"), (409, u "([C)V"), (90, u "serialPersistentFields"), (0, u "[Ljava/io/ObjectStreamField;"), (0, .class_ 1104), (0, u "java/lang/String$CaseInsensitiveComparator"), (1, .class_ 1107), (0, u "java/io/Serializable"), (0, .class_ 1109), (0, u "java/lang/Comparable"), (0, .class_ 1111), (0, u "java/lang/constant/Constable"), (0, .class_ 1113), (0, u "java/lang/constant/ConstantDesc"), (2, u "serialVersionUID"), (0, u "J"), (3, u "REPL"), (0, u "C"), (2, u "LATIN1"), (1, u "UTF16")] 323

def k9m0 : Method := { name := "<init>", desc := "()V", sig := { parameters := [], returnType := none }, accessFlags := 1, code := none }
def k9c1 : Code := { maxStack := 5, maxLocals := 2, code := jdk_42_method_3_code, exceptionTable := #[], attributes := #[] }
def k9m1 : Method := { name := "<init>", desc := "([C)V", sig := { parameters := [(.array .char)], returnType := none }, accessFlags := 1, code := some k9c1 }
def k9c2 : Code := { maxStack := 2, maxLocals := 3, code := jdk_42_method_66_code, exceptionTable := #[], attributes := #[] }
def k9m2 : Method := { name := "equals", desc := "(Ljava/lang/Object;)Z", sig := { parameters := [(.object "java/lang/Object")], returnType := some .boolean }, accessFlags := 1, code := some k9c2 }
def k9c3 : Code := { maxStack := 4, maxLocals := 6, code := jdk_42_method_149_code, exceptionTable := #[], attributes := #[] }
def k9m3 : Method := { name := "<init>", desc := "([CIILjava/lang/Void;)V", sig := { parameters := [(.array .char), .int, .int, (.object "java/lang/Void")], returnType := none }, accessFlags := 2, code := some k9c3 }
/-- java/lang/String -/
def k9 : Class := { plain "java/lang/String" (some 0) with
  accessFlags := 49
  interfaces := #[4, 5, 6, 7, 8]
  cf := some (fileOf pool9 10 #[.nestMembers #[1103]] #[{ accessFlags := 1, nameIndex := 5, descriptorIndex := 6, attributes := #[] }, { accessFlags := 1, nameIndex := 5, descriptorIndex := 1010, attributes := #[] }, { accessFlags := 1, nameIndex := 543, descriptorIndex := 573, attributes := #[] }, { accessFlags := 2, nameIndex := 5, descriptorIndex := 29, attributes := #[] }] 49 2 #[1106, 1108, 575, 1110, 1112] #[{ accessFlags := 18, nameIndex := 13, descriptorIndex := 14, attributes := #[] }, { accessFlags := 18, nameIndex := 17, descriptorIndex := 18, attributes := #[] }, { accessFlags := 2, nameIndex := 21, descriptorIndex := 22, attributes := #[] }, { accessFlags := 2, nameIndex := 25, descriptorIndex := 26, attributes := #[] }, { accessFlags := 26, nameIndex := 1116, descriptorIndex := 1117, attributes := #[] }, { accessFlags := 24, nameIndex := 40, descriptorIndex := 26, attributes := #[] }, { accessFlags := 26, nameIndex := 1101, descriptorIndex := 1102, attributes := #[] }, { accessFlags := 26, nameIndex := 1121, descriptorIndex := 1122, attributes := #[] }, { accessFlags := 25, nameIndex := 599, descriptorIndex := 600, attributes := #[] }, { accessFlags := 24, nameIndex := 1125, descriptorIndex := 18, attributes := #[] }, { accessFlags := 24, nameIndex := 1127, descriptorIndex := 18, attributes := #[] }])
  fields := #[{ name := "value", type := (.array .byte), accessFlags := 18, slot := 0, constantValue := 0 }, { name := "coder", type := .byte, accessFlags := 18, slot := 1, constantValue := 0 }, { name := "hash", type := .int, accessFlags := 2, slot := 2, constantValue := 0 }, { name := "hashIsZero", type := .boolean, accessFlags := 2, slot := 3, constantValue := 0 }, { name := "serialVersionUID", type := .long, accessFlags := 26, slot := 0, constantValue := 0 }, { name := "COMPACT_STRINGS", type := .boolean, accessFlags := 24, slot := 1, constantValue := 0 }, { name := "serialPersistentFields", type := (.array (.object "java/io/ObjectStreamField")), accessFlags := 26, slot := 2, constantValue := 0 }, { name := "REPL", type := .char, accessFlags := 26, slot := 3, constantValue := 0 }, { name := "CASE_INSENSITIVE_ORDER", type := (.object "java/util/Comparator"), accessFlags := 25, slot := 4, constantValue := 0 }, { name := "LATIN1", type := .byte, accessFlags := 24, slot := 5, constantValue := 0 }, { name := "UTF16", type := .byte, accessFlags := 24, slot := 6, constantValue := 0 }]
  methods := #[k9m0, k9m1, k9m2, k9m3]
  instanceTypes := #[(.array .byte), .byte, .int, .boolean]
  staticTypes := #[.long, .boolean, (.array (.object "java/io/ObjectStreamField")), .char, (.object "java/util/Comparator"), .byte, .byte]
  resolved := Array.replicate 1451 none
  statics := some 0 }

def pool10 : Array CpInfo := pool [(6, .class_ 8), (1, u "java/lang/Object"), (0, u "<init>"), (0, u "()V"), (1, .class_ 14), (1, u "java/lang/StringUTF16"), (31, u "$assertionsDisabled"), (0, u "Z"), (13, u "HI_BYTE_SHIFT"), (0, u "I"), (2, u "LO_BYTE_SHIFT"), (49, .methodref 12 116), (0, .nameAndType 117 118), (0, u "compress"), (0, u "([CI[BII)I"), (3, u "([CII)[B"), (138, u "coderFromArrayLen"), (0, u "([BI)B"), (106, .class_ 371), (1, u "java/lang/StringUTF16$LinesSpliterator"), (58, u "MAX_LENGTH"), (196, .class_ 628), (0, u "java/lang/StringUTF16$CodePointsSpliterator"), (0, .class_ 630), (0, u "java/lang/StringUTF16$CharsSpliterator")] 4

def k10m0 : Method := { name := "<init>", desc := "()V", sig := { parameters := [], returnType := none }, accessFlags := 0, code := none }
def k10c1 : Code := { maxStack := 2, maxLocals := 2, code := jdk_52_method_15_code, exceptionTable := #[], attributes := #[] }
def k10m1 : Method := { name := "coderFromArrayLen", desc := "([BI)B", sig := { parameters := [(.array .byte), .int], returnType := some .byte }, accessFlags := 8, code := some k10c1 }
def k10c2 : Code := { maxStack := 5, maxLocals := 6, code := jdk_52_method_16_code, exceptionTable := #[], attributes := #[] }
def k10m2 : Method := { name := "compress", desc := "([CII)[B", sig := { parameters := [(.array .char), .int, .int], returnType := some (.array .byte) }, accessFlags := 9, code := some k10c2 }
def k10c3 : Code := { maxStack := 3, maxLocals := 7, code := jdk_52_method_21_code, exceptionTable := #[], attributes := #[] }
def k10m3 : Method := { name := "compress", desc := "([CI[BII)I", sig := { parameters := [(.array .char), .int, (.array .byte), .int, .int], returnType := some .int }, accessFlags := 9, code := some k10c3 }
/-- java/lang/StringUTF16 -/
def k10 : Class := { plain "java/lang/StringUTF16" (some 0) with
  accessFlags := 48
  interfaces := #[]
  cf := some (fileOf pool10 12 #[.nestMembers #[627, 629, 369]] #[{ accessFlags := 0, nameIndex := 9, descriptorIndex := 10, attributes := #[] }, { accessFlags := 8, nameIndex := 261, descriptorIndex := 262, attributes := #[] }, { accessFlags := 9, nameIndex := 117, descriptorIndex := 122, attributes := #[] }, { accessFlags := 9, nameIndex := 117, descriptorIndex := 118, attributes := #[] }] 48 6 #[] #[{ accessFlags := 26, nameIndex := 61, descriptorIndex := 62, attributes := #[] }, { accessFlags := 26, nameIndex := 65, descriptorIndex := 62, attributes := #[] }, { accessFlags := 24, nameIndex := 430, descriptorIndex := 62, attributes := #[] }, { accessFlags := 4120, nameIndex := 46, descriptorIndex := 47, attributes := #[] }])
  fields := #[{ name := "HI_BYTE_SHIFT", type := .int, accessFlags := 26, slot := 0, constantValue := 0 }, { name := "LO_BYTE_SHIFT", type := .int, accessFlags := 26, slot := 1, constantValue := 0 }, { name := "MAX_LENGTH", type := .int, accessFlags := 24, slot := 2, constantValue := 0 }, { name := "$assertionsDisabled", type := .boolean, accessFlags := 4120, slot := 3, constantValue := 0 }]
  methods := #[k10m0, k10m1, k10m2, k10m3]
  instanceTypes := #[]
  staticTypes := #[.int, .int, .int, .boolean]
  resolved := Array.replicate 635 none
  statics := none }

def pool11 : Array CpInfo := pool [(4, .class_ 6), (1, u "java/lang/Object"), (0, u "<init>"), (0, u "()V"), (5, .class_ 16), (1, u "java/lang/StringLatin1"), (104, u "$assertionsDisabled"), (0, u "Z"), (98, .class_ 223), (1, u "java/lang/StringLatin1$LinesSpliterator"), (57, u "equals"), (0, u "([B[B)Z"), (107, .class_ 391), (0, u "java/lang/StringLatin1$CharsSpliterator")] 3

def k11m0 : Method := { name := "<init>", desc := "()V", sig := { parameters := [], returnType := none }, accessFlags := 0, code := none }
def k11c1 : Code := { maxStack := 3, maxLocals := 3, code := jdk_43_method_13_code, exceptionTable := #[], attributes := #[] }
def k11m1 : Method := { name := "equals", desc := "([B[B)Z", sig := { parameters := [(.array .byte), (.array .byte)], returnType := some .boolean }, accessFlags := 9, code := some k11c1 }
/-- java/lang/StringLatin1 -/
def k11 : Class := { plain "java/lang/StringLatin1" (some 0) with
  accessFlags := 48
  interfaces := #[]
  cf := some (fileOf pool11 14 #[.nestMembers #[390, 221]] #[{ accessFlags := 0, nameIndex := 7, descriptorIndex := 8, attributes := #[] }, { accessFlags := 9, nameIndex := 281, descriptorIndex := 282, attributes := #[] }] 48 4 #[] #[{ accessFlags := 4120, nameIndex := 121, descriptorIndex := 122, attributes := #[] }])
  fields := #[{ name := "$assertionsDisabled", type := .boolean, accessFlags := 4120, slot := 0, constantValue := 0 }]
  methods := #[k11m0, k11m1]
  instanceTypes := #[]
  staticTypes := #[.boolean]
  resolved := Array.replicate 395 none
  statics := none }

def pool12 : Array CpInfo := pool [(2, .class_ 4), (1, u "java/lang/Object"), (0, u "<init>"), (0, u "()V"), (17, .class_ 26), (1, u "jdk/internal/util/Preconditions"), (28, .class_ 56), (0, u "jdk/internal/util/Preconditions$4"), (57, .class_ 115), (0, u "jdk/internal/util/Preconditions$1"), (7, u "SIOOBE_FORMATTER"), (0, u "Ljava/util/function/BiFunction;"), (0, .class_ 126), (0, u "jdk/internal/util/Preconditions$2"), (3, u "AIOOBE_FORMATTER"), (0, .class_ 132), (0, u "jdk/internal/util/Preconditions$3"), (3, u "IOOBE_FORMATTER")] 57

def k12m0 : Method := { name := "<init>", desc := "()V", sig := { parameters := [], returnType := none }, accessFlags := 1, code := none }
/-- jdk/internal/util/Preconditions -/
def k12 : Class := { plain "jdk/internal/util/Preconditions" (some 0) with
  accessFlags := 33
  interfaces := #[]
  cf := some (fileOf pool12 24 #[.nestMembers #[55, 131, 125, 114]] #[{ accessFlags := 1, nameIndex := 5, descriptorIndex := 6, attributes := #[] }] 33 2 #[] #[{ accessFlags := 25, nameIndex := 123, descriptorIndex := 124, attributes := #[] }, { accessFlags := 25, nameIndex := 130, descriptorIndex := 124, attributes := #[] }, { accessFlags := 25, nameIndex := 136, descriptorIndex := 124, attributes := #[] }])
  fields := #[{ name := "SIOOBE_FORMATTER", type := (.object "java/util/function/BiFunction"), accessFlags := 25, slot := 0, constantValue := 0 }, { name := "AIOOBE_FORMATTER", type := (.object "java/util/function/BiFunction"), accessFlags := 25, slot := 1, constantValue := 0 }, { name := "IOOBE_FORMATTER", type := (.object "java/util/function/BiFunction"), accessFlags := 25, slot := 2, constantValue := 0 }]
  methods := #[k12m0]
  instanceTypes := #[]
  staticTypes := #[(.object "java/util/function/BiFunction"), (.object "java/util/function/BiFunction"), (.object "java/util/function/BiFunction")]
  resolved := Array.replicate 194 none
  statics := some 1 }

def pool13 : Array CpInfo := pool [(9, u "<init>"), (6, .class_ 18), (1, u "java/lang/Object"), (0, u "()V"), (1, .class_ 23), (1, u "jdk/internal/util/ArraysSupport"), (0, u "LOG2_ARRAY_LONG_INDEX_SCALE"), (0, u "I"), (2, u "U"), (0, u "Ljdk/internal/misc/Unsafe;"), (8, u "BIG_ENDIAN"), (0, u "Z"), (8, u "LOG2_BYTE_BIT_SIZE"), (4, u "LOG2_ARRAY_INT_INDEX_SCALE"), (54, u "JLA"), (0, u "Ljdk/internal/access/JavaLangAccess;"), (11, u "LOG2_ARRAY_BOOLEAN_INDEX_SCALE"), (9, u "LOG2_ARRAY_BYTE_INDEX_SCALE"), (5, u "LOG2_ARRAY_CHAR_INDEX_SCALE"), (5, u "LOG2_ARRAY_SHORT_INDEX_SCALE"), (18, u "LOG2_ARRAY_FLOAT_INDEX_SCALE"), (24, u "LOG2_ARRAY_DOUBLE_INDEX_SCALE"), (89, u "T_BOOLEAN"), (2, u "T_CHAR"), (1, u "T_FLOAT"), (1, u "T_DOUBLE"), (1, u "T_BYTE"), (1, u "T_SHORT"), (1, u "T_INT"), (1, u "T_LONG"), (1, u "SOFT_MAX_ARRAY_LENGTH")] 83

def k13m0 : Method := { name := "<init>", desc := "()V", sig := { parameters := [], returnType := none }, accessFlags := 2, code := none }
/-- jdk/internal/util/ArraysSupport -/
def k13 : Class := { plain "jdk/internal/util/ArraysSupport" (some 0) with
  accessFlags := 33
  interfaces := #[]
  cf := some (fileOf pool13 21 #[] #[{ accessFlags := 2, nameIndex := 9, descriptorIndex := 19, attributes := #[] }] 33 16 #[] #[{ accessFlags := 24, nameIndex := 28, descriptorIndex := 29, attributes := #[] }, { accessFlags := 26, nameIndex := 38, descriptorIndex := 39, attributes := #[] }, { accessFlags := 25, nameIndex := 121, descriptorIndex := 25, attributes := #[] }, { accessFlags := 25, nameIndex := 131, descriptorIndex := 25, attributes := #[] }, { accessFlags := 25, nameIndex := 137, descriptorIndex := 25, attributes := #[] }, { accessFlags := 25, nameIndex := 143, descriptorIndex := 25, attributes := #[] }, { accessFlags := 25, nameIndex := 53, descriptorIndex := 25, attributes := #[] }, { accessFlags := 25, nameIndex := 24, descriptorIndex := 25, attributes := #[] }, { accessFlags := 25, nameIndex := 162, descriptorIndex := 25, attributes := #[] }, { accessFlags := 25, nameIndex := 187, descriptorIndex := 25, attributes := #[] }, { accessFlags := 26, nameIndex := 48, descriptorIndex := 25, attributes := #[] }, { accessFlags := 25, nameIndex := 277, descriptorIndex := 25, attributes := #[] }, { accessFlags := 25, nameIndex := 280, descriptorIndex := 25, attributes := #[] }, { accessFlags := 25, nameIndex := 282, descriptorIndex := 25, attributes := #[] }, { accessFlags := 25, nameIndex := 284, descriptorIndex := 25, attributes := #[] }, { accessFlags := 25, nameIndex := 286, descriptorIndex := 25, attributes := #[] }, { accessFlags := 25, nameIndex := 288, descriptorIndex := 25, attributes := #[] }, { accessFlags := 25, nameIndex := 290, descriptorIndex := 25, attributes := #[] }, { accessFlags := 25, nameIndex := 292, descriptorIndex := 25, attributes := #[] }, { accessFlags := 26, nameIndex := 108, descriptorIndex := 109, attributes := #[] }, { accessFlags := 25, nameIndex := 294, descriptorIndex := 25, attributes := #[] }])
  fields := #[{ name := "U", type := (.object "jdk/internal/misc/Unsafe"), accessFlags := 24, slot := 0, constantValue := 0 }, { name := "BIG_ENDIAN", type := .boolean, accessFlags := 26, slot := 1, constantValue := 0 }, { name := "LOG2_ARRAY_BOOLEAN_INDEX_SCALE", type := .int, accessFlags := 25, slot := 2, constantValue := 0 }, { name := "LOG2_ARRAY_BYTE_INDEX_SCALE", type := .int, accessFlags := 25, slot := 3, constantValue := 0 }, { name := "LOG2_ARRAY_CHAR_INDEX_SCALE", type := .int, accessFlags := 25, slot := 4, constantValue := 0 }, { name := "LOG2_ARRAY_SHORT_INDEX_SCALE", type := .int, accessFlags := 25, slot := 5, constantValue := 0 }, { name := "LOG2_ARRAY_INT_INDEX_SCALE", type := .int, accessFlags := 25, slot := 6, constantValue := 0 }, { name := "LOG2_ARRAY_LONG_INDEX_SCALE", type := .int, accessFlags := 25, slot := 7, constantValue := 0 }, { name := "LOG2_ARRAY_FLOAT_INDEX_SCALE", type := .int, accessFlags := 25, slot := 8, constantValue := 0 }, { name := "LOG2_ARRAY_DOUBLE_INDEX_SCALE", type := .int, accessFlags := 25, slot := 9, constantValue := 0 }, { name := "LOG2_BYTE_BIT_SIZE", type := .int, accessFlags := 26, slot := 10, constantValue := 0 }, { name := "T_BOOLEAN", type := .int, accessFlags := 25, slot := 11, constantValue := 0 }, { name := "T_CHAR", type := .int, accessFlags := 25, slot := 12, constantValue := 0 }, { name := "T_FLOAT", type := .int, accessFlags := 25, slot := 13, constantValue := 0 }, { name := "T_DOUBLE", type := .int, accessFlags := 25, slot := 14, constantValue := 0 }, { name := "T_BYTE", type := .int, accessFlags := 25, slot := 15, constantValue := 0 }, { name := "T_SHORT", type := .int, accessFlags := 25, slot := 16, constantValue := 0 }, { name := "T_INT", type := .int, accessFlags := 25, slot := 17, constantValue := 0 }, { name := "T_LONG", type := .int, accessFlags := 25, slot := 18, constantValue := 0 }, { name := "JLA", type := (.object "jdk/internal/access/JavaLangAccess"), accessFlags := 26, slot := 19, constantValue := 0 }, { name := "SOFT_MAX_ARRAY_LENGTH", type := .int, accessFlags := 25, slot := 20, constantValue := 0 }]
  methods := #[k13m0]
  instanceTypes := #[]
  staticTypes := #[(.object "jdk/internal/misc/Unsafe"), .boolean, .int, .int, .int, .int, .int, .int, .int, .int, .int, .int, .int, .int, .int, .int, .int, .int, .int, (.object "jdk/internal/access/JavaLangAccess"), .int]
  resolved := Array.replicate 378 none
  statics := none }

def pool14 : Array CpInfo := pool [(1, u "java/lang/Cloneable"), (0, .class_ 1), (0, u "java/lang/Object"), (0, .class_ 3)] 3

/-- java/lang/Cloneable -/
def k14 : Class := { plain "java/lang/Cloneable" (some 0) with
  accessFlags := 1537
  interfaces := #[]
  cf := some (fileOf pool14 2 #[] #[] 1537 4 #[] #[])
  fields := #[]
  methods := #[]
  instanceTypes := #[]
  staticTypes := #[]
  resolved := Array.replicate 8 none
  statics := none }

/-- the primitive byte -/
def k15 : Class := { plain "byte" none with kind := .primitive 'B', accessFlags := 0x411 }
/-- [B -/
def k16 : Class := { plain "[B" (some 0) with kind := .array 15 .byte, interfaces := #[14, 4], accessFlags := 1041 }

/-- the primitive char -/
def k17 : Class := { plain "char" none with kind := .primitive 'C', accessFlags := 0x411 }
/-- [C -/
def k18 : Class := { plain "[C" (some 0) with kind := .array 17 .char, interfaces := #[14, 4], accessFlags := 1041 }

/-- the primitive int -/
def k19 : Class := { plain "int" none with kind := .primitive 'I', accessFlags := 0x411 }
/-- [I -/
def k20 : Class := { plain "[I" (some 0) with kind := .array 19 .int, interfaces := #[14, 4], accessFlags := 1041 }

def heap : Heap := #[{ cls := 9, slots := #[.long 0, .int 1, .null, .int 0, .null, .int 0, .int 0], vm := .statics 9 },
  { cls := 12, slots := #[.null, .null, .null], vm := .statics 12 }]
def classes : Array Class := #[k0, k1, k2, k3, k4, k5, k6, k7, k8, k9, k10, k11, k12, k13, k14, k15, k16, k17, k18, k19, k20]
def interned : List (Array UInt16 × Addr) := []
def slotsUsed : Nat := 10
def theMethod : MethodId := ⟨1, 5⟩
def args0 : Array Value := #[.int 5, .int 6, .int 7, .int 8, .int 0]
def aboutOver (below : List Frame) : State where
  vm := { classes := classes, interned := interned.toArray }
  heap := heap
  slotsUsed := slotsUsed
  threads := #[{ frames := .invoking theMethod args0 :: below }]
def below0 : List Frame := [.native { method := ⟨0, 0⟩, args := #[] }]
def about1 : State := aboutOver below0
def p0 : Program := .bare "" "" ""
def e0 : Env := launch0.env 0 0 0
theorem w_frames : about1.frames = Frame.invoking theMethod args0 :: below0 := rfl
set_option maxRecDepth 65536 in
theorem w_args : argsFit about1.vm theMethod args0 = true := by decide +kernel
set_option maxRecDepth 65536 in
theorem w_heap : heapFits about1 = true := by decide +kernel
set_option maxRecDepth 65536 in
theorem w_runnable : about1.curStatus? = some .runnable := by decide +kernel
set_option maxRecDepth 65536 in
theorem w_alone : about1.alone = true := by decide +kernel
set_option maxRecDepth 65536 in
theorem w_named : about1.methodNamed? x = some theMethod := by decide +kernel
set_option maxRecDepth 65536 in
theorem w_hears : about1.hears theMethod below0 = true := by decide +kernel
set_option maxRecDepth 65536 in
theorem w_ripe : about1.ripe theMethod args0 below0 = true := by decide +kernel
theorem w_running : about1.status = .running := rfl
set_option maxRecDepth 65536 in
theorem w_room : about1.hasRoom e0.platform room_1 = true :=
  launch0.hasRoom_least _ room_1 (by decide +kernel) (by decide +kernel) (by decide +kernel) (by decide +kernel) (by decide +kernel) (by decide +kernel)
theorem allAtoms_all (ts : List Jvm.Cond) (a : Array Jvm.Value) (st : Jvm.State) : (allAtoms ts).before a st = ts.all (fun c => c.before a st) := by
  induction ts with
  | nil => rfl
  | cons c t ih =>
    show (Jvm.Cond.and c (allAtoms t)).before a st = _
    rw [Jvm.Cond.before_and, ih, List.all_cons]
def words1 : List Jvm.Cond := Jvm.Cond.code x code maxLocals ret :: tables_1
/-- a 'code' word, met by the world's own term for the bytes: nothing is compared byte by byte -/
theorem code_word {y : MethodName} {bytes : ByteArray} {mx : Nat} {rt : Option FieldType} {a : Array Value} {s : State} {m : MethodId} {meth : Method} {c : Code} (h1 : s.methodNamed? y = some m) (h2 : s.vm.method? m = some meth) (h3 : meth.code = some c) (h4 : c.code = bytes)
    (h5 : (c.maxLocals == mx && c.exceptionTable.isEmpty && decide (c.maxStack ≤ mostOperands) && decide (meth.sig.returnType = rt) && !meth.locks && decide (parseMethodDescriptor y.desc = some meth.sig)) = true) : (Jvm.Cond.code y bytes mx rt).before a s = true := by
  simp only [Bool.and_eq_true, beq_iff_eq, Bool.not_eq_true', decide_eq_true_eq] at h5
  obtain ⟨⟨⟨⟨⟨g1, g2⟩, g3⟩, g4⟩, g5⟩, g6⟩ := h5
  simp [Cond.before, Cond.holds, Cond.value, h1, h2, h3, h4, g1, g2, g3, g4, g5, g6]
def isCode : Jvm.Cond → Bool
  | .code _ _ _ _ => true
  | _ => false
theorem all_split {L : List Jvm.Cond} {P : Jvm.Cond → Bool} (h1 : L.all (fun c => isCode c || P c) = true) (h2 : ∀ c ∈ L.filter isCode, P c = true) : L.all P = true := by
  refine List.all_eq_true.mpr fun c hc => ?_
  have h := List.all_eq_true.mp h1 c hc
  rcases Bool.eq_false_or_eq_true (isCode c) with hi | hi
  · exact h2 c (List.mem_filter.mpr ⟨hc, hi⟩)
  · simpa [hi] using h
set_option maxRecDepth 65536 in
theorem w_c0 : (Jvm.Cond.code x code maxLocals ret).before args0 about1 = true := code_word (m := ⟨1, 5⟩) (meth := k1m5) (c := k1c5) (by decide +kernel) rfl rfl rfl (by decide +kernel)
set_option maxRecDepth 65536 in
theorem w_c1 : (Jvm.Cond.code ({ cls := "com/example/slicewise/slicewise/ThrownMatchesPinLaw", name := "str", desc := "(I)Ljava/lang/String;" } : Jvm.MethodName) method_3_code (5 : Nat) (Option.some (Jvm.ClassFile.FieldType.object "java/lang/String"))).before args0 about1 = true := code_word (m := ⟨1, 2⟩) (meth := k1m2) (c := k1c2) (by decide +kernel) rfl rfl rfl (by decide +kernel)
set_option maxRecDepth 65536 in
theorem w_c2 : (Jvm.Cond.code ({ cls := "com/example/slicewise/slicewise/ThrownMatchesPinLaw", name := "ch", desc := "(II)I" } : Jvm.MethodName) method_2_code (2 : Nat) (Option.some Jvm.ClassFile.FieldType.int)).before args0 about1 = true := code_word (m := ⟨1, 1⟩) (meth := k1m1) (c := k1c1) (by decide +kernel) rfl rfl rfl (by decide +kernel)
set_option maxRecDepth 65536 in
theorem w_c3 : (Jvm.Cond.code ({ cls := "java/lang/String", name := "<init>", desc := "([C)V" } : Jvm.MethodName) jdk_42_method_3_code (2 : Nat) (Option.none : Option Jvm.ClassFile.FieldType)).before args0 about1 = true := code_word (m := ⟨9, 1⟩) (meth := k9m1) (c := k9c1) (by decide +kernel) rfl rfl rfl (by decide +kernel)
set_option maxRecDepth 65536 in
theorem w_c4 : (Jvm.Cond.code ({ cls := "java/lang/String", name := "<init>", desc := "([CIILjava/lang/Void;)V" } : Jvm.MethodName) jdk_42_method_149_code (6 : Nat) (Option.none : Option Jvm.ClassFile.FieldType)).before args0 about1 = true := code_word (m := ⟨9, 3⟩) (meth := k9m3) (c := k9c3) (by decide +kernel) rfl rfl rfl (by decide +kernel)
set_option maxRecDepth 65536 in
theorem w_c5 : (Jvm.Cond.code ({ cls := "java/lang/Object", name := "<init>", desc := "()V" } : Jvm.MethodName) object_method_1_code (1 : Nat) (Option.none : Option Jvm.ClassFile.FieldType)).before args0 about1 = true := code_word (m := ⟨0, 0⟩) (meth := k0m0) (c := k0c0) (by decide +kernel) rfl rfl rfl (by decide +kernel)
set_option maxRecDepth 65536 in
theorem w_c6 : (Jvm.Cond.code ({ cls := "com/example/slicewise/slicewise/ThrownMatchesPinLaw", name := "isNull", desc := "(I)Z" } : Jvm.MethodName) method_4_code (1 : Nat) (Option.some Jvm.ClassFile.FieldType.boolean)).before args0 about1 = true := code_word (m := ⟨1, 3⟩) (meth := k1m3) (c := k1c3) (by decide +kernel) rfl rfl rfl (by decide +kernel)
set_option maxRecDepth 65536 in
theorem w_c7 : (Jvm.Cond.code ({ cls := "java/lang/StringUTF16", name := "compress", desc := "([CII)[B" } : Jvm.MethodName) jdk_52_method_16_code (6 : Nat) (Option.some (Jvm.ClassFile.FieldType.array Jvm.ClassFile.FieldType.byte))).before args0 about1 = true := code_word (m := ⟨10, 2⟩) (meth := k10m2) (c := k10c2) (by decide +kernel) rfl rfl rfl (by decide +kernel)
set_option maxRecDepth 65536 in
theorem w_c8 : (Jvm.Cond.code ({ cls := "java/lang/StringUTF16", name := "compress", desc := "([CI[BII)I" } : Jvm.MethodName) jdk_52_method_21_code (7 : Nat) (Option.some Jvm.ClassFile.FieldType.int)).before args0 about1 = true := code_word (m := ⟨10, 3⟩) (meth := k10m3) (c := k10c3) (by decide +kernel) rfl rfl rfl (by decide +kernel)
set_option maxRecDepth 65536 in
theorem w_c9 : (Jvm.Cond.code ({ cls := "java/lang/StringUTF16", name := "coderFromArrayLen", desc := "([BI)B" } : Jvm.MethodName) jdk_52_method_15_code (2 : Nat) (Option.some Jvm.ClassFile.FieldType.byte)).before args0 about1 = true := code_word (m := ⟨10, 1⟩) (meth := k10m1) (c := k10c1) (by decide +kernel) rfl rfl rfl (by decide +kernel)
set_option maxRecDepth 65536 in
theorem w_c10 : (Jvm.Cond.code ({ cls := "com/example/slicewise/slicewise/Thrown", name := "<init>", desc := "(Ljava/lang/String;Ljava/lang/String;)V" } : Jvm.MethodName) prog_14_method_1_code (3 : Nat) (Option.none : Option Jvm.ClassFile.FieldType)).before args0 about1 = true := code_word (m := ⟨3, 0⟩) (meth := k3m0) (c := k3c0) (by decide +kernel) rfl rfl rfl (by decide +kernel)
set_option maxRecDepth 65536 in
theorem w_c11 : (Jvm.Cond.code ({ cls := "java/lang/Record", name := "<init>", desc := "()V" } : Jvm.MethodName) jdk_30_method_1_code (1 : Nat) (Option.none : Option Jvm.ClassFile.FieldType)).before args0 about1 = true := code_word (m := ⟨2, 0⟩) (meth := k2m0) (c := k2c0) (by decide +kernel) rfl rfl rfl (by decide +kernel)
set_option maxRecDepth 65536 in
theorem w_c12 : (Jvm.Cond.code ({ cls := "com/example/slicewise/slicewise/ThrownMatchesPinLaw", name := "same", desc := "(II)Z" } : Jvm.MethodName) method_5_code (4 : Nat) (Option.some Jvm.ClassFile.FieldType.boolean)).before args0 about1 = true := code_word (m := ⟨1, 4⟩) (meth := k1m4) (c := k1c4) (by decide +kernel) rfl rfl rfl (by decide +kernel)
set_option maxRecDepth 65536 in
theorem w_c13 : (Jvm.Cond.code ({ cls := "com/example/slicewise/slicewise/Thrown", name := "matches", desc := "(Lcom/example/slicewise/slicewise/Thrown;)Z" } : Jvm.MethodName) prog_14_method_3_code (2 : Nat) (Option.some Jvm.ClassFile.FieldType.boolean)).before args0 about1 = true := code_word (m := ⟨3, 1⟩) (meth := k3m1) (c := k3c1) (by decide +kernel) rfl rfl rfl (by decide +kernel)
set_option maxRecDepth 65536 in
theorem w_c14 : (Jvm.Cond.code ({ cls := "java/lang/String", name := "equals", desc := "(Ljava/lang/Object;)Z" } : Jvm.MethodName) jdk_42_method_66_code (3 : Nat) (Option.some Jvm.ClassFile.FieldType.boolean)).before args0 about1 = true := code_word (m := ⟨9, 2⟩) (meth := k9m2) (c := k9c2) (by decide +kernel) rfl rfl rfl (by decide +kernel)
set_option maxRecDepth 65536 in
theorem w_c15 : (Jvm.Cond.code ({ cls := "java/lang/StringLatin1", name := "equals", desc := "([B[B)Z" } : Jvm.MethodName) jdk_43_method_13_code (3 : Nat) (Option.some Jvm.ClassFile.FieldType.boolean)).before args0 about1 = true := code_word (m := ⟨11, 1⟩) (meth := k11m1) (c := k11c1) (by decide +kernel) rfl rfl rfl (by decide +kernel)
def codes1 : List Jvm.Cond := [Jvm.Cond.code x code maxLocals ret, Jvm.Cond.code ({ cls := "com/example/slicewise/slicewise/ThrownMatchesPinLaw", name := "str", desc := "(I)Ljava/lang/String;" } : Jvm.MethodName) method_3_code (5 : Nat) (Option.some (Jvm.ClassFile.FieldType.object "java/lang/String")), Jvm.Cond.code ({ cls := "com/example/slicewise/slicewise/ThrownMatchesPinLaw", name := "ch", desc := "(II)I" } : Jvm.MethodName) method_2_code (2 : Nat) (Option.some Jvm.ClassFile.FieldType.int), Jvm.Cond.code ({ cls := "java/lang/String", name := "<init>", desc := "([C)V" } : Jvm.MethodName) jdk_42_method_3_code (2 : Nat) (Option.none : Option Jvm.ClassFile.FieldType), Jvm.Cond.code ({ cls := "java/lang/String", name := "<init>", desc := "([CIILjava/lang/Void;)V" } : Jvm.MethodName) jdk_42_method_149_code (6 : Nat) (Option.none : Option Jvm.ClassFile.FieldType), Jvm.Cond.code ({ cls := "java/lang/Object", name := "<init>", desc := "()V" } : Jvm.MethodName) object_method_1_code (1 : Nat) (Option.none : Option Jvm.ClassFile.FieldType), Jvm.Cond.code ({ cls := "com/example/slicewise/slicewise/ThrownMatchesPinLaw", name := "isNull", desc := "(I)Z" } : Jvm.MethodName) method_4_code (1 : Nat) (Option.some Jvm.ClassFile.FieldType.boolean), Jvm.Cond.code ({ cls := "java/lang/StringUTF16", name := "compress", desc := "([CII)[B" } : Jvm.MethodName) jdk_52_method_16_code (6 : Nat) (Option.some (Jvm.ClassFile.FieldType.array Jvm.ClassFile.FieldType.byte)), Jvm.Cond.code ({ cls := "java/lang/StringUTF16", name := "compress", desc := "([CI[BII)I" } : Jvm.MethodName) jdk_52_method_21_code (7 : Nat) (Option.some Jvm.ClassFile.FieldType.int), Jvm.Cond.code ({ cls := "java/lang/StringUTF16", name := "coderFromArrayLen", desc := "([BI)B" } : Jvm.MethodName) jdk_52_method_15_code (2 : Nat) (Option.some Jvm.ClassFile.FieldType.byte), Jvm.Cond.code ({ cls := "com/example/slicewise/slicewise/Thrown", name := "<init>", desc := "(Ljava/lang/String;Ljava/lang/String;)V" } : Jvm.MethodName) prog_14_method_1_code (3 : Nat) (Option.none : Option Jvm.ClassFile.FieldType), Jvm.Cond.code ({ cls := "java/lang/Record", name := "<init>", desc := "()V" } : Jvm.MethodName) jdk_30_method_1_code (1 : Nat) (Option.none : Option Jvm.ClassFile.FieldType), Jvm.Cond.code ({ cls := "com/example/slicewise/slicewise/ThrownMatchesPinLaw", name := "same", desc := "(II)Z" } : Jvm.MethodName) method_5_code (4 : Nat) (Option.some Jvm.ClassFile.FieldType.boolean), Jvm.Cond.code ({ cls := "com/example/slicewise/slicewise/Thrown", name := "matches", desc := "(Lcom/example/slicewise/slicewise/Thrown;)Z" } : Jvm.MethodName) prog_14_method_3_code (2 : Nat) (Option.some Jvm.ClassFile.FieldType.boolean), Jvm.Cond.code ({ cls := "java/lang/String", name := "equals", desc := "(Ljava/lang/Object;)Z" } : Jvm.MethodName) jdk_42_method_66_code (3 : Nat) (Option.some Jvm.ClassFile.FieldType.boolean), Jvm.Cond.code ({ cls := "java/lang/StringLatin1", name := "equals", desc := "([B[B)Z" } : Jvm.MethodName) jdk_43_method_13_code (3 : Nat) (Option.some Jvm.ClassFile.FieldType.boolean)]
set_option maxRecDepth 65536 in
theorem codes_eq : words1.filter isCode = codes1 := rfl
theorem w_codes : ∀ c ∈ words1.filter isCode, c.before args0 about1 = true := by
  rw [codes_eq]
  intro c hc
  simp only [codes1, List.mem_cons, List.not_mem_nil, or_false] at hc
  rcases hc with rfl | rfl | rfl | rfl | rfl | rfl | rfl | rfl | rfl | rfl | rfl | rfl | rfl | rfl | rfl | rfl
  · exact w_c0
  · exact w_c1
  · exact w_c2
  · exact w_c3
  · exact w_c4
  · exact w_c5
  · exact w_c6
  · exact w_c7
  · exact w_c8
  · exact w_c9
  · exact w_c10
  · exact w_c11
  · exact w_c12
  · exact w_c13
  · exact w_c14
  · exact w_c15
set_option maxRecDepth 65536 in
theorem w_t1 : (words1.take 24).all (fun c => isCode c || c.before args0 about1) = true := by decide +kernel
set_option maxRecDepth 65536 in
theorem w_t2 : ((words1.drop 24).take 24).all (fun c => isCode c || c.before args0 about1) = true := by decide +kernel
set_option maxRecDepth 65536 in
theorem w_t3 : (((words1.drop 24).drop 24).take 24).all (fun c => isCode c || c.before args0 about1) = true := by decide +kernel
set_option maxRecDepth 65536 in
theorem w_t4 : (((words1.drop 24).drop 24).drop 24).all (fun c => isCode c || c.before args0 about1) = true := by decide +kernel
theorem w_tables : (allAtoms (Jvm.Cond.code x code maxLocals ret :: tables_1)).before args0 about1 = true := by
  rw [allAtoms_all]
  show words1.all (fun c => c.before args0 about1) = true
  refine all_split ?_ w_codes
  rw [← List.take_append_drop 24 words1, List.all_append, w_t1, ← List.take_append_drop 24 (words1.drop 24), List.all_append, w_t2, ← List.take_append_drop 24 ((words1.drop 24).drop 24), List.all_append, w_t3, w_t4]
  rfl
set_option maxRecDepth 65536 in
theorem w_rest : rest_1_c.before args0 about1 = true := by decide +kernel
set_option maxRecDepth 65536 in
theorem w_case : (Jvm.Cond.and given_1 narrow_1).before args0 about1 = true := by decide +kernel
set_option maxRecDepth 65536 in
theorem w_consts : constsHeld consts_1 about1 := Jvm.Lit.constsHeldB_iff.mp (by decide +kernel)
theorem w_applies : (headSpec (Jvm.Cond.code x code maxLocals ret :: tables_1) room_1).applies x e0.platform about1 = true :=
  (Spec.applies_iff w_frames).mpr ⟨w_running, w_runnable, w_alone, w_named, w_hears, w_ripe, w_room, w_tables⟩
theorem atStart : AtStart classFile x code maxLocals ret World_1 tables_1 room_1 Calls_1 rest_1 Pre_1 launch0 p0 e0 about1 theMethod args0 below0 :=
  ⟨lists_1, trivial, launch0.admits_env _ _ _, launch0.least_env, fairChoices_fair.cas, fairChoices_fair.clock, w_frames, w_args, w_heap, w_applies, ⟨w_consts, trivial⟩, w_rest, w_case⟩
end start1
theorem witness_1 : WitnessClaimed_1 := ⟨start1.p0, start1.e0, start1.about1, start1.theMethod, start1.args0, start1.below0, start1.atStart⟩
end Jvm.Pilot.@@N@@
