import JvmDerived
import JvmDerived.Pilot.@@N@@Statement
import JvmDerived.Pilot.@@N@@Code
set_option linter.unusedVariables false
set_option linter.unusedSimpArgs false
namespace Jvm.Pilot.@@N@@
open Jvm Jvm.ClassFile Sem Op Lib Jvm.Free Jvm.Stand Jvm.LawKit Jvm.RoadKit Bundle Jvm.Pilot.@@N@@.Jvm.D
/-! ## own: a small logic of owned cells over the library's Stand -/
/-- cells by their addresses -/
abbrev HL := List (Addr × Cell)
def Own (h : Heap) (σ : HL) : Prop := ∀ q ∈ σ, h[q.1]? = some q.2
abbrev adr (σ : HL) : List Addr := σ.map Prod.fst
/-- what is known of the heap h under the tables vm, in an activation that began at s owning σ0 and reading ρ0: σ is owned, ρ is read, what stood at the law's start Z stands -/
def Hp (Z : State) (EL : List (String × Nat)) (σ0 ρ0 : HL) (s : State) (σ ρ : HL) (vm : Vm) (h : Heap) : Prop :=
  CHr Z EL s.vm s.heap vm h ∧ Own h σ ∧ Own h ρ ∧ (adr σ).Nodup ∧
  (∀ q ∈ σ, Z.heap.size ≤ q.1 ∧ (q.1 ∈ adr σ0 ∨ s.heap.size ≤ q.1) ∧ Safe Z EL vm h q.1) ∧
  (∀ q ∈ ρ, q.1 ∉ adr σ ∧ (q.1 ∈ adr ρ0 ∨ q.1 ∈ adr σ0 ∨ s.heap.size ≤ q.1 ∨ Bk Z EL s.vm s.heap q.1)) ∧
  (∀ (x : Addr) (cl : Cell), s.heap[x]? = some cl → x ∉ adr σ0 → h[x]? = some cl) ∧ Ext Z.heap h
section HpLaws
variable {Z s : State} {EL : List (String × Nat)} {σ0 ρ0 σ ρ σ' ρ' : HL} {vm vm1 : Vm} {h h' : Heap}
theorem own_lt (O : Own h σ) {q : Addr × Cell} (hq : q ∈ σ) : q.1 < h.size := (Array.getElem?_eq_some_iff.mp (O q hq)).1
theorem adr_mem {x : Addr} (hx : x ∈ adr σ) : ∃ q ∈ σ, q.1 = x := List.mem_map.mp hx
theorem mem_adr {q : Addr × Cell} (hq : q ∈ σ) : q.1 ∈ adr σ := List.mem_map.mpr ⟨q, hq, rfl⟩
theorem Own.ext (E : Ext h h') (O : Own h σ) : Own h' σ := fun q hq => E.2 _ _ (O q hq)
theorem Own.sub (O : Own h σ) (hs : ∀ q ∈ σ', q ∈ σ) : Own h σ' := fun q hq => O q (hs q hq)
theorem own_app (O : Own h σ) (O' : Own h σ') : Own h (σ ++ σ') := fun q hq => (List.mem_append.mp hq).elim (O q) (O' q)
theorem ext_tr {h2 : Heap} (E : Ext h h') (E' : Ext h' h2) : Ext h h2 := ⟨Nat.le_trans E.1 E'.1, fun a c q => E'.2 _ _ (E.2 _ _ q)⟩
/-- tables and heap go on; nothing owned or read is touched -/
theorem Hp.later (H : Hp Z EL σ0 ρ0 s σ ρ vm h) (C : CHr Z EL vm h vm1 h') (E : Ext h h') : Hp Z EL σ0 ρ0 s σ ρ vm1 h' := by
  obtain ⟨c, o, r, nd, a, b, f, z⟩ := H
  exact ⟨c.trans C, o.ext E, r.ext E, nd, fun q hq => ⟨(a q hq).1, (a q hq).2.1, C.safe (own_lt o hq) (a q hq).2.2⟩, b, fun x cl hx hn => E.2 _ _ (f x cl hx hn), ext_tr z E⟩
theorem Hp.alloc (H : Hp Z EL σ0 ρ0 s σ ρ vm h) (E : Ext h h') {c : Cell} (hc : h'[h.size]? = some c) : Hp Z EL σ0 ρ0 s ((h.size, c) :: σ) ρ vm h' := by
  have C : CHr Z EL vm h vm h' := CHr.ext E H.1.1
  have H' := H.later C E
  obtain ⟨c1, o, r, nd, a, b, f, z⟩ := H
  obtain ⟨c1', o', r', nd', a', b', f', z'⟩ := H'
  refine ⟨c1', fun q hq => ?_, r', ?_, fun q hq => ?_, fun q hq => ⟨?_, (b q hq).2⟩, f', z'⟩
  · rcases List.mem_cons.mp hq with rfl | hq
    · exact hc
    · exact o' q hq
  · refine List.nodup_cons.mpr ⟨fun hm => ?_, nd⟩
    obtain ⟨q, hq, e⟩ := adr_mem hm
    exact absurd (e ▸ own_lt o hq) (Nat.lt_irrefl _)
  · rcases List.mem_cons.mp hq with rfl | hq
    · exact ⟨z.1, Or.inr c1.2.1, Safe.ext E c1.1 (Safe.new (Nat.le_refl _))⟩
    · exact a' q hq
  · intro hm
    rcases List.mem_cons.mp hm with e | hm
    · exact absurd (e ▸ own_lt r hq) (Nat.lt_irrefl _)
    · exact (b q hq).1 hm
/-- one owned cell is written -/
theorem Hp.write (H : Hp Z EL σ0 ρ0 s σ ρ vm h) {i : Nat} {a : Addr} {c c' : Cell} (hi : σ[i]? = some (a, c)) (hw : h' = h.setIfInBounds a c') : Hp Z EL σ0 ρ0 s (σ.set i (a, c')) ρ vm h' := by
  have hmem : (a, c) ∈ σ := List.mem_of_getElem? hi
  have hadr : adr (σ.set i (a, c')) = adr σ := by
    rw [adr, List.map_set]
    apply List.ext_getElem?
    intro j
    rw [List.getElem?_set]
    split
    · rename_i e
      subst e
      simp only [List.length_map, List.getElem?_map, hi, Option.map_some]
      split
      · rfl
      · rename_i hl
        exact absurd (List.getElem?_eq_some_iff.mp hi).1 (by simpa using hl)
    · rfl
  obtain ⟨c1, o, r, nd, al, b, f, z⟩ := H
  have ha : h[a]? = some c := o _ hmem
  have hlt : a < h.size := (Array.getElem?_eq_some_iff.mp ha).1
  have hS : Safe Z EL vm h a := (al _ hmem).2.2
  have ke : ∀ y, y ≠ a → h'[y]? = h[y]? := fun y hy => by rw [hw, Array.getElem?_setIfInBounds_ne (Ne.symm hy)]
  have hsz : h'.size = h.size := by rw [hw]; simp
  have hstep := c1.1.step (h' := h') fun y B cell q => by
    rw [ke y fun e => hS (e ▸ B)]; exact q
  have C : CHr Z EL vm h vm h' := ⟨hstep.1, by rw [hsz]; exact Nat.le_refl _, fun y q => Or.inl (hstep.2 y q)⟩
  have hin : ∀ q ∈ σ.set i (a, c'), q = (a, c') ∨ (q ∈ σ ∧ q.1 ≠ a) := fun q hq => by
    obtain ⟨j, hj⟩ := List.mem_iff_getElem?.mp hq
    rw [List.getElem?_set] at hj
    split at hj
    · split at hj
      · exact Or.inl (Option.some.inj hj).symm
      · cases hj
    · rename_i hne
      refine Or.inr ⟨List.mem_of_getElem? hj, fun e => hne ?_⟩
      have h1 : (adr σ)[j]? = some a := by rw [adr, List.getElem?_map, hj]; exact congrArg some e
      have h2 : (adr σ)[i]? = some a := by rw [adr, List.getElem?_map, hi]; rfl
      obtain ⟨l1, e1⟩ := List.getElem?_eq_some_iff.mp h1
      obtain ⟨l2, e2⟩ := List.getElem?_eq_some_iff.mp h2
      exact (List.getElem_inj nd).mp (e2.trans e1.symm)
  refine ⟨c1.trans C, fun q hq => ?_, fun q hq => ?_, by rw [hadr]; exact nd, fun q hq => ?_, fun q hq => ⟨by rw [hadr]; exact (b q hq).1, (b q hq).2⟩, fun x cl hx hn => ?_, ⟨by rw [hsz]; exact z.1, fun x cl hx => ?_⟩⟩
  · rcases hin q hq with rfl | ⟨hq, hne⟩
    · show h'[a]? = some c'
      rw [hw]; simp [hlt]
    · rw [ke _ hne]; exact o q hq
  · rw [ke q.1 fun e => (b q hq).1 (by rw [e]; exact mem_adr hmem)]; exact r q hq
  · rcases hin q hq with rfl | ⟨hq, -⟩
    · exact ⟨(al _ hmem).1, (al _ hmem).2.1, C.safe hlt hS⟩
    · exact ⟨(al q hq).1, (al q hq).2.1, C.safe (own_lt o hq) (al q hq).2.2⟩
  · have hx' := f x cl hx hn
    rw [ke x]
    · exact hx'
    · rintro rfl
      rcases (al _ hmem).2.1 with q | q
      · exact hn q
      · exact absurd (Array.getElem?_eq_some_iff.mp hx).1 (Nat.not_lt.mpr q)
  · rw [ke x]
    · exact z.2 x cl hx
    · rintro rfl
      exact absurd (Array.getElem?_eq_some_iff.mp hx).1 (Nat.not_lt.mpr (al _ hmem).1)
/-- fewer, or otherwise ordered -/
theorem Hp.sub (H : Hp Z EL σ0 ρ0 s σ ρ vm h) (hs : ∀ q ∈ σ', q ∈ σ) (nd : (adr σ').Nodup) (hr : ∀ q ∈ ρ', q ∈ ρ) : Hp Z EL σ0 ρ0 s σ' ρ' vm h := by
  obtain ⟨c, o, r, -, a, b, f⟩ := H
  refine ⟨c, o.sub hs, r.sub hr, nd, fun q hq => a q (hs q hq), fun q hq => ⟨fun hm => ?_, (b q (hr q hq)).2⟩, f⟩
  obtain ⟨q', hq', e⟩ := adr_mem hm
  exact (b q (hr q hq)).1 (e ▸ mem_adr (hs q' hq'))
/-- owned cells become read-only -/
theorem Hp.freeze (H : Hp Z EL σ0 ρ0 s (σ' ++ σ) ρ vm h) : Hp Z EL σ0 ρ0 s σ (σ' ++ ρ) vm h := by
  obtain ⟨c, o, r, nd, a, b, f⟩ := H
  have nd' := nd
  rw [adr, List.map_append, List.nodup_append] at nd'
  refine ⟨c, o.sub fun q hq => List.mem_append_right _ hq, own_app (o.sub fun q hq => List.mem_append_left _ hq) r, nd'.2.1, fun q hq => a q (List.mem_append_right _ hq), fun q hq => ?_, f⟩
  rcases List.mem_append.mp hq with hq | hq
  · refine ⟨fun hm => nd'.2.2 _ (mem_adr hq) _ hm rfl, ?_⟩
    rcases (a q (List.mem_append_left _ hq)).2.1 with z | z
    · exact Or.inr (Or.inl z)
    · exact Or.inr (Or.inr (Or.inl z))
  · refine ⟨fun hm => (b q hq).1 ?_, (b q hq).2⟩
    rw [adr, List.map_append]; exact List.mem_append_right _ hm
/-- a booked literal's cells are read-only -/
theorem Hp.lit (H : Hp Z EL σ0 ρ0 s σ ρ vm h) {a : Addr} {c : Cell} (ha : h[a]? = some c) (hb : ∀ x, Safe Z EL vm h x → x ≠ a) : Hp Z EL σ0 ρ0 s σ ((a, c) :: ρ) vm h := by
  obtain ⟨c1, o, r, nd, al, b, f⟩ := H
  refine ⟨c1, o, fun q hq => ?_, nd, al, fun q hq => ?_, f⟩
  · rcases List.mem_cons.mp hq with rfl | hq
    · exact ha
    · exact r q hq
  · rcases List.mem_cons.mp hq with rfl | hq
    · refine ⟨fun hm => ?_, ?_⟩
      · obtain ⟨q, hq, e⟩ := adr_mem hm
        exact hb _ (al q hq).2.2 e
      · have hB : Bk Z EL vm h a := Classical.byContradiction fun hn => hb a hn rfl
        rcases c1.2.2 a hB with z | z
        · exact Or.inr (Or.inr (Or.inr z))
        · exact Or.inr (Or.inr (Or.inl z))
    · exact b q hq
/-- **THE FRAME RULE**: a callee that was handed σi and ρi gives back σ' and ρ' -/
theorem Hp.call {U : State} {σi σf ρi : HL} (H : Hp Z EL σ0 ρ0 s (σi ++ σf) ρ U.vm U.heap) (hρ : ∀ q ∈ ρi, q ∈ ρ) (Hc : Hp Z EL σi ρi U σ' ρ' vm1 h') : Hp Z EL σ0 ρ0 s (σ' ++ σf) (ρ' ++ ρ) vm1 h' := by
  obtain ⟨c, o, r, nd, a, b, f, z0⟩ := H
  obtain ⟨c', o', r', nd', a', b', f', z'⟩ := Hc
  have nd2 := nd
  rw [adr, List.map_append, List.nodup_append] at nd2
  have of : Own U.heap σf := o.sub fun q hq => List.mem_append_right _ hq
  have disj : ∀ x, x ∈ adr σi → x ∉ adr σf := fun x h1 h2 => nd2.2.2 x h1 x h2 rfl
  have inapp : ∀ x, x ∈ adr σi → x ∈ adr (σi ++ σf) := fun x hx => by rw [adr, List.map_append]; exact List.mem_append_left _ hx
  have inapp' : ∀ x, x ∈ adr σf → x ∈ adr (σi ++ σf) := fun x hx => by rw [adr, List.map_append]; exact List.mem_append_right _ hx
  have flt : ∀ x, x ∈ adr σf → x < U.heap.size := fun x hx => by obtain ⟨q, hq, rfl⟩ := adr_mem hx; exact own_lt of hq
  have orig : ∀ x, x ∈ adr σi → x ∈ adr σ0 ∨ s.heap.size ≤ x := fun x hx => by obtain ⟨q, hq, rfl⟩ := adr_mem hx; exact (a q (List.mem_append_left _ hq)).2.1
  have hs := c.2.1
  refine ⟨c.trans c', own_app o' fun q hq => f' _ _ (of q hq) fun hm => disj _ hm (mem_adr hq), own_app r' fun q hq => f' _ _ (r q hq) fun hm => (b q hq).1 (inapp _ hm), ?_, fun q hq => ?_, fun q hq => ?_, fun x cl hx hn => ?_, z'⟩
  · rw [adr, List.map_append, List.nodup_append]
    refine ⟨nd', nd2.2.1, fun x hx y hy e => ?_⟩
    subst e
    obtain ⟨q, hq, rfl⟩ := adr_mem hx
    rcases (a' q hq).2.1 with z | z
    · exact disj _ z hy
    · exact absurd (flt _ hy) (Nat.not_lt.mpr z)
  · rcases List.mem_append.mp hq with hq | hq
    · refine ⟨(a' q hq).1, ?_, (a' q hq).2.2⟩
      rcases (a' q hq).2.1 with z | z
      · exact orig _ z
      · exact Or.inr (Nat.le_trans hs z)
    · have z := a q (List.mem_append_right _ hq)
      exact ⟨z.1, z.2.1, c'.safe (own_lt of hq) z.2.2⟩
  · rcases List.mem_append.mp hq with hq | hq
    · have z := b' q hq
      refine ⟨fun hm => ?_, ?_⟩
      · rw [adr, List.map_append] at hm
        rcases List.mem_append.mp hm with hm | hm
        · exact z.1 hm
        · rcases z.2 with y | y | y | y
          · obtain ⟨q', hq', e⟩ := adr_mem y
            refine (b q' (hρ q' hq')).1 (inapp' _ ?_)
            rw [e]; exact hm
          · exact disj _ y hm
          · exact absurd (flt _ hm) (Nat.not_lt.mpr y)
          · obtain ⟨q', hq', e⟩ := adr_mem hm
            refine (a q' (List.mem_append_right _ hq')).2.2 ?_
            rw [e]; exact y
      · rcases z.2 with y | y | y | y
        · obtain ⟨q', hq', e⟩ := adr_mem y
          have := (b q' (hρ q' hq')).2
          rw [e] at this; exact this
        · rcases orig _ y with w | w
          · exact Or.inr (Or.inl w)
          · exact Or.inr (Or.inr (Or.inl w))
        · exact Or.inr (Or.inr (Or.inl (Nat.le_trans hs y)))
        · rcases c.2.2 _ y with w | w
          · exact Or.inr (Or.inr (Or.inr w))
          · exact Or.inr (Or.inr (Or.inl w))
    · have z := b q hq
      refine ⟨fun hm => ?_, z.2⟩
      rw [adr, List.map_append] at hm
      rcases List.mem_append.mp hm with hm | hm
      · obtain ⟨q', hq', e⟩ := adr_mem hm
        rcases (a' q' hq').2.1 with y | y
        · refine z.1 (inapp _ ?_)
          rw [← e]; exact y
        · exact absurd (own_lt r hq) (Nat.not_lt.mpr (e ▸ y))
      · exact z.1 (inapp' _ hm)
  · refine f' x cl (f x cl hx hn) fun hm => ?_
    rcases orig _ hm with z | z
    · exact hn z
    · exact absurd (Array.getElem?_eq_some_iff.mp hx).1 (Nat.not_lt.mpr z)
end HpLaws
/-! ## own: the walk's point (Wk), what is still to be reached (Go), a contract (Met) -/
abbrev Ctx := Program × Env × State × MethodId × Array Value × List Frame × Method × Code × HL × HL
abbrev Ctx.p (X : Ctx) : Program := X.1
abbrev Ctx.e (X : Ctx) : Env := X.2.1
abbrev Ctx.s (X : Ctx) : State := X.2.2.1
abbrev Ctx.m (X : Ctx) : MethodId := X.2.2.2.1
abbrev Ctx.args (X : Ctx) : Array Value := X.2.2.2.2.1
abbrev Ctx.below (X : Ctx) : List Frame := X.2.2.2.2.2.1
abbrev Ctx.meth (X : Ctx) : Method := X.2.2.2.2.2.2.1
abbrev Ctx.c (X : Ctx) : Code := X.2.2.2.2.2.2.2.1
abbrev Ctx.so (X : Ctx) : HL := X.2.2.2.2.2.2.2.2.1
abbrev Ctx.ro (X : Ctx) : HL := X.2.2.2.2.2.2.2.2.2
def Wk (l : Launch) (Z : State) (EL : List (String × Nat)) (R : Room) (own : String) (bytes : ByteArray) (maxL : Nat) (ret : Option FieldType) (nm : String) (X : Ctx) (σ ρ : HL) (T : State) (k n : Nat) : Prop :=
  (X.p.tables.exec = Jvm.exec ∧ X.c.code = bytes ∧ X.c.maxLocals = maxL ∧ X.meth.sig.returnType = ret ∧ X.meth.locks = false ∧ X.meth.name = nm ∧ ∃ a : Array Value, EW Z a EL) ∧
  ∃ (vm0 : Vm) (k0 : Nat) (locs : List Loc), Stand X.p l X.e R (X.s.setVm vm0) X.m X.args X.below X.meth X.c T locs k n ∧ X.s.Since vm0 k0 ∧ k0 ≤ T.heap.size ∧ Z.Warmed39 vm0 ∧ vm0.findClass own = some X.m.cls ∧ Fr Z.heap.size locs ∧ Hp Z EL X.so X.ro X.s σ ρ vm0 T.heap
def Go (Z : State) (EL : List (String × Nat)) (K N : Nat) (Q : Option Value → HL → HL → Prop) (X : Ctx) (T : State) (pc : Nat) (Ls : Array Slot) (st : List Value) : Prop :=
  ∃ (s₂ : State) (o : Outcome), Steps X.p.tables X.e X.below (T.setTop (mkF X.m pc Ls st)) s₂ ∧ s₂.status = .running ∧ Ended s₂ X.below o ∧
    ∃ v σ ρ L, o = .returned v ∧ Q v σ ρ ∧ Fr Z.heap.size L ∧ Hp Z EL X.so X.ro X.s σ ρ s₂.vm s₂.heap ∧ ReturnedEndW X.s o s₂ L K N
def Met (l : Launch) (Z : State) (EL : List (String × Nat)) (y : MethodName) (bytes : ByteArray) (maxL : Nat) (ret : Option FieldType) (rm : Room) (as' : Array Value) (σi ρi : HL) (Q : Option Value → HL → HL → Prop) : Prop :=
  MetFree l y (head1 [Jvm.Cond.code y bytes maxL ret] rm) (fun a U => a = as' ∧ Z.Warmed39 U.vm ∧ Hp Z EL σi ρi U σi ρi U.vm U.heap) (fun _ _ _ _ _ => True)
    (fun _ U o U' => ∃ v σ ρ L, o = .returned v ∧ Q v σ ρ ∧ Fr Z.heap.size L ∧ Hp Z EL σi ρi U σ ρ U'.vm U'.heap ∧ ReturnedEndW U o U' L rm.cells rm.slots)
section WkLaws
variable {l : Launch} {Z : State} {a0 : Array Value} {EL : List (String × Nat)} {R : Room} {own : String} {bytes : ByteArray} {maxL : Nat} {ret : Option FieldType} {nm : String} {X : Ctx} {σ ρ σ' ρ' : HL} {T T' : State} {k n K N : Nat} {Q Q' : Option Value → HL → HL → Prop} {pc pc' : Nat} {Ls Ls' : Array Slot} {st st' : List Value}
theorem Wk.here (W : Wk l Z EL R own bytes maxL ret nm X σ ρ T k n) : At T X.m X.c X.below := by obtain ⟨-, _, _, _, Y, -⟩ := W; exact Y.here
theorem Wk.hx (W : Wk l Z EL R own bytes maxL ret nm X σ ρ T k n) : X.p.tables.exec = Jvm.exec := W.1.1
theorem Wk.hb (W : Wk l Z EL R own bytes maxL ret nm X σ ρ T k n) {r : Except ClassFile.DecodeError (ClassFile.Instr × Nat)} (hd : decode bytes pc = r) : decode X.c.code pc = r := by rw [W.1.2.1]; exact hd
theorem Go.by (f : ∀ t, Steps X.p.tables X.e X.below (T'.setTop (mkF X.m pc' Ls' st')) t → Steps X.p.tables X.e X.below (T.setTop (mkF X.m pc Ls st)) t) (r : Go Z EL K N Q X T' pc' Ls' st') : Go Z EL K N Q X T pc Ls st := by
  obtain ⟨s2, o, h1, h2⟩ := r
  exact ⟨s2, o, f _ h1, h2⟩
theorem Go.mono (h : ∀ v σ ρ, Q v σ ρ → Q' v σ ρ) (r : Go Z EL K N Q X T pc Ls st) : Go Z EL K N Q' X T pc Ls st := by
  obtain ⟨s2, o, h1, h2, h3, v, a, b, L, e, q, r⟩ := r
  exact ⟨s2, o, h1, h2, h3, v, a, b, L, e, h _ _ _ q, r⟩
theorem Met.mono {y : MethodName} {rm : Room} {as' : Array Value} (h : ∀ v σ ρ, Q v σ ρ → Q' v σ ρ) (M : Met l Z EL y bytes maxL ret rm as' σ ρ Q) : Met l Z EL y bytes maxL ret rm as' σ ρ Q' :=
  fun p e ha hc hk s m args below hf happ hP hK => by
    obtain ⟨n, o, h1, h2, h3, v, s1, r1, L, e1, q, r⟩ := M p e ha hc hk s m args below hf happ hP hK
    exact ⟨n, o, h1, h2, h3, v, s1, r1, L, e1, h _ _ _ q, r⟩
theorem Hp.enter {s U : State} {σ0 ρ0 σi σf ρi : HL} (H : Hp Z EL σ0 ρ0 s (σi ++ σf) ρ U.vm U.heap) (hρ : ∀ q ∈ ρi, q ∈ ρ) : Hp Z EL σi ρi U σi ρi U.vm U.heap := by
  obtain ⟨c, o, r, nd, a, b, f, z0⟩ := H
  rw [adr, List.map_append, List.nodup_append] at nd
  refine ⟨CHr.refl c.1, o.sub fun q hq => List.mem_append_left _ hq, r.sub hρ, nd.1, fun q hq => ?_, fun q hq => ⟨fun hm => (b q (hρ q hq)).1 ?_, Or.inl (mem_adr hq)⟩, fun _ _ q _ => q, z0⟩
  · have z := a q (List.mem_append_left _ hq)
    exact ⟨z.1, Or.inl (mem_adr hq), z.2.2⟩
  · rw [adr, List.map_append]; exact List.mem_append_left _ hm
/-- a walk of the body meets the contract -/
theorem Met.walk {y : MethodName} {rm : Room} {as' : Array Value} {σi ρi : HL} (hEL : EW Z a0 EL) (hp : plainName y.cls = true) (Ls0 : Array Slot) (ent : ∀ m, entryFrame m as' maxL = mkF m 0 Ls0 [])
    (w : ∀ (X : Ctx) (T : State), Wk l Z EL rm y.cls bytes maxL ret y.name X σi ρi T 0 0 → Go Z EL rm.cells rm.slots Q X T 0 Ls0 []) : Met l Z EL y bytes maxL ret rm as' σi ρi Q := by
  refine MetFree.of_bodySF (plainFor_of_name hp) hisR ?_
  intro p e s m args below meth c s₁ Bd hml hP hK
  obtain ⟨rfl, hZ, H⟩ := hP
  have X0 : Stand p l e rm s m args below meth c s₁ [] 0 0 := Stand.of_body Bd
  have e0 : s₁.heap = s.heap := by rw [Bd.state]; rfl
  obtain ⟨s2, o, h1, h2, h3, h4⟩ := w (p, e, s, m, args, below, meth, c, σi, ρi) s₁ ⟨⟨Bd.exec, Bd.bytes, hml, Bd.returns, Bd.notSynchronized, (name_of_methodNamed Bd.named Bd.method).1, a0, hEL⟩, s.vm, s.heap.size, [], X0, (State.WarmedH.refl s).since _, by rw [e0]; exact Nat.le_refl _, hZ, findClass_of_methodNamed Bd.named, Fr.nil _, by rw [e0]; exact H⟩
  exact ⟨s2, o, castTop (ent m) h1, h2, h3, h4⟩
/-- a contract pays a call -/
theorem Met.back {p : Program} {e : Env} {below : List Frame} {s : State} {args : Array Value} {vm0 : Vm} {y : MethodName} {rm : Room} {as' : Array Value} {σi ρi σf σ0 ρ0 : HL} {len W : Nat} {h : Heap} (M : Met l Z EL y bytes maxL ret rm as' σi ρi Q)
    (hZ : Z.Warmed39 vm0) (wc : (Jvm.Cond.code y bytes maxL ret).before a0 Z = true) (wz : (Jvm.Cond.initialized y.cls).before a0 Z = true) (hf : rm.frames + 1 ≤ R.frames) (hl : W + (maxL + 11) + rm.locals ≤ R.locals) {a1 : Array Value} (hEL : EW Z a1 EL)
    (H : Hp Z EL σ0 ρ0 s (σi ++ σf) ρ vm0 h) (hρ : ∀ q ∈ ρi, q ∈ ρ) :
    BackS l R p e below (s.setVm vm0) args y len W (fun A a => a = as' ∧ A.U.heap = h ∧ A.cells + rm.cells ≤ R.cells ∧ A.slots + rm.slots ≤ R.slots)
      (fun A _ v B => ∃ σ' ρ' L, Q v σ' ρ' ∧ Fr Z.heap.size L ∧ Hp Z EL σ0 ρ0 s (σ' ++ σf) (ρ' ++ ρ) B.U.vm B.U.heap ∧ B.locs = A.locs ++ L ∧ B.cells = A.cells + rm.cells ∧ B.slots = A.slots + rm.slots) := by
  have key : ∀ m meth c (A : Pt) (g : JFrame) mk (a : Array Value), Stand p l e R (s.setVm vm0) m args below meth c A.U A.locs A.cells A.slots → A.U.heap = h → Hp Z EL σ0 ρ0 s (σi ++ σf) ρ (A.U.calling g mk a).vm (A.U.calling g mk a).heap := fun m meth c A g mk a Y hp => by
    have C := CHv.at Y hZ hEL H.1.1
    have q := H.later C ⟨Nat.le_refl _, fun _ _ z => z⟩
    show Hp Z EL σ0 ρ0 s (σi ++ σf) ρ A.U.vm A.U.heap
    rw [hp]; exact q
  refine BackS.of_freeW (bytes := bytes) (maxL := maxL) (ret := ret) (E := fun _ first o t L k n => k = rm.cells ∧ n = rm.slots ∧ ∃ v σ ρ, o = .returned v ∧ Q v σ ρ ∧ Fr Z.heap.size L ∧ Hp Z EL σi ρi first σ ρ t.vm t.heap) M hf hl
    (fun m meth c A a Y hp => have hU : Z.Warmed39 A.U.vm := wtrans (s := s.setVm vm0) hZ Y.warmed
      ⟨by show (Jvm.Cond.and _ .tt).before a A.U = true; rw [Cond.before_and, mv hU wc]; rfl, mv hU wc, mv hU wz, hp.2.2.1, hp.2.2.2⟩)
    (fun m meth c A a g mk Y hp => ⟨hp.1, wtrans (s := s.setVm vm0) hZ Y.warmed, (key m meth c A g mk a Y hp.2.1).enter hρ⟩) (fun _ _ _ _ _ _ _ _ _ => trivial)
    (fun _ _ _ _ ⟨v, s1, r1, L, h1, h2, h3, h4, h5⟩ => ⟨L, _, _, h5, rfl, rfl, v, s1, r1, h1, h2, h3, h4⟩) ?_
  intro m meth c A a g mk v t L k n Y hp _ _ ⟨e1, e2, v', s1, r1, e3, e4, e5, e6⟩
  cases e3
  subst e1 e2
  exact ⟨s1, r1, L, e4, e5, (key m meth c A g mk a Y hp.2.1).call hρ e6, rfl, rfl, rfl⟩
/-! picking out of lists -/
def takeAt {α : Type} : Nat → List α → Option (α × List α)
  | _, [] => none
  | 0, x :: l => some (x, l)
  | i + 1, x :: l => match takeAt i l with
    | none => none
    | some (y, l') => some (y, x :: l')
def pick {α : Type} : List Nat → List α → Option (List α × List α)
  | [], l => some ([], l)
  | i :: is, l => match takeAt i l with
    | none => none
    | some (x, l') => match pick is l' with
      | none => none
      | some (a, b) => some (x :: a, b)
theorem takeAt_perm {α : Type} : ∀ (i : Nat) (l : List α) (x : α) (l' : List α), takeAt i l = some (x, l') → (x :: l').Perm l
  | _, [], _, _, h => by simp [takeAt] at h
  | 0, y :: l, x, l', h => by simp [takeAt] at h; obtain ⟨rfl, rfl⟩ := h; exact List.Perm.refl _
  | i + 1, y :: l, x, l', h => by
    simp only [takeAt] at h
    cases hq : takeAt i l with
    | none => simp [hq] at h
    | some q =>
      obtain ⟨z, l2⟩ := q
      simp [hq] at h
      obtain ⟨rfl, rfl⟩ := h
      exact (List.Perm.swap _ _ _).trans ((takeAt_perm i l z l2 hq).cons y)
theorem pick_perm {α : Type} : ∀ (is : List Nat) (l a b : List α), pick is l = some (a, b) → (a ++ b).Perm l
  | [], l, a, b, h => by simp [pick] at h; obtain ⟨rfl, rfl⟩ := h; exact List.Perm.refl _
  | i :: is, l, a, b, h => by
    simp only [pick] at h
    cases hq : takeAt i l with
    | none => simp [hq] at h
    | some q =>
      obtain ⟨x, l'⟩ := q
      cases hp : pick is l' with
      | none => simp [hq, hp] at h
      | some r =>
        obtain ⟨a', b'⟩ := r
        simp [hq, hp] at h
        obtain ⟨rfl, rfl⟩ := h
        exact ((pick_perm is l' a' b' hp).cons x).trans (takeAt_perm i l x l' hq)
theorem Hp.perm {s : State} {σ0 ρ0 : HL} {vm : Vm} {h : Heap} (H : Hp Z EL σ0 ρ0 s σ ρ vm h) (hp : σ'.Perm σ) : Hp Z EL σ0 ρ0 s σ' ρ vm h :=
  H.sub (fun q hq => hp.mem_iff.mp hq) ((hp.map Prod.fst).nodup_iff.mpr H.2.2.2.1) fun _ q => q
def roOf (is : List Nat) (ρ ρi : HL) : Prop := is.map (fun i => ρ[i]?) = ρi.map some
theorem roOf.mem {is : List Nat} {ρi : HL} (h : roOf is ρ ρi) : ∀ q ∈ ρi, q ∈ ρ := fun q hq => by
  have h1 : some q ∈ ρi.map some := List.mem_map.mpr ⟨q, hq, rfl⟩
  rw [← h] at h1
  obtain ⟨i, -, e⟩ := List.mem_map.mp h1
  exact List.mem_of_getElem? e
theorem Wk.perm (W : Wk l Z EL R own bytes maxL ret nm X σ ρ T k n) (hp : σ'.Perm σ) : Wk l Z EL R own bytes maxL ret nm X σ' ρ T k n := by
  obtain ⟨w, vm0, k0, locs, a, b, c, d, e, f, H⟩ := W
  exact ⟨w, vm0, k0, locs, a, b, c, d, e, f, H.perm hp⟩
/-- owned cells become read-only -/
theorem Wk.freeze (W : Wk l Z EL R own bytes maxL ret nm X σ ρ T k n) (is : List Nat) {σi σf : HL} (hp : pick is σ = some (σi, σf)) : Wk l Z EL R own bytes maxL ret nm X σf (σi ++ ρ) T k n := by
  obtain ⟨w, vm0, k0, locs, a, b, c, d, e, f, H⟩ := W
  exact ⟨w, vm0, k0, locs, a, b, c, d, e, f, (H.perm (pick_perm _ _ _ _ hp)).freeze⟩
/-- cells forgotten -/
theorem Wk.drop (W : Wk l Z EL R own bytes maxL ret nm X σ ρ T k n) (is : List Nat) {σi σf : HL} (hp : pick is σ = some (σi, σf)) : Wk l Z EL R own bytes maxL ret nm X σf ρ T k n := by
  obtain ⟨w, vm0, k0, locs, a, b, c, d, e, f, H⟩ := W
  have H' := H.perm (pick_perm _ _ _ _ hp)
  refine ⟨w, vm0, k0, locs, a, b, c, d, e, f, H'.sub (fun q hq => List.mem_append_right _ hq) ?_ fun _ q => q⟩
  have nd := H'.2.2.2.1
  rw [adr, List.map_append, List.nodup_append] at nd
  exact nd.2.1
theorem Wk.keepRo (W : Wk l Z EL R own bytes maxL ret nm X σ ρ T k n) (is : List Nat) (hp : roOf is ρ ρ') : Wk l Z EL R own bytes maxL ret nm X σ ρ' T k n := by
  obtain ⟨w, vm0, k0, locs, a, b, c, d, e, f, H⟩ := W
  exact ⟨w, vm0, k0, locs, a, b, c, d, e, f, H.sub (fun _ q => q) H.2.2.2.1 hp.mem⟩
theorem Wk.more (W : Wk l Z EL R own bytes maxL ret nm X σ ρ T k n) {k' n' : Nat} (hk : k ≤ k') (hn : n ≤ n') : Wk l Z EL R own bytes maxL ret nm X σ ρ T k' n' := by
  obtain ⟨w, vm0, k0, locs, a, b⟩ := W
  exact ⟨w, vm0, k0, locs, a.more hk hn, b⟩
theorem Wk.ext (W : Wk l Z EL R own bytes maxL ret nm X σ ρ T k n) : Ext Z.heap T.heap := by
  obtain ⟨w, vm0, k0, locs, a, b, c, d, e, f, H⟩ := W
  exact H.2.2.2.2.2.2.2
theorem Wk.cell (W : Wk l Z EL R own bytes maxL ret nm X σ ρ T k n) {q : Addr × Cell} (hq : q ∈ σ ∨ q ∈ ρ ∨ Z.heap[q.1]? = some q.2) : T.heap[q.1]? = some q.2 := by
  obtain ⟨w, vm0, k0, locs, a, b, c, d, e, f, H⟩ := W
  exact hq.elim (H.2.1 q) fun z => z.elim (H.2.2.1 q) (H.2.2.2.2.2.2.2.2 _ _)
end WkLaws
/-! ## own: single steps in the Go form (printed by gen_steps.py) -/
section StepLaws
variable {l : Launch} {Z : State} {a0 : Array Value} {EL : List (String × Nat)} {R : Room} {own : String} {bytes : ByteArray} {maxL : Nat} {ret : Option FieldType} {nm : String} {X : Ctx} {σ ρ : HL} {T : State} {k n K N : Nat} {Q : Option Value → HL → HL → Prop} {pc pc' : Nat} {Ls : Array Slot} {st : List Value}
theorem Go.aload (W : Wk l Z EL R own bytes maxL ret nm X σ ρ T k n) {k' : Nat} {v : Value} (hd : decode bytes pc = .ok (.aload k', 2)) (hl : Ls[k']? = some (.val v)) (hv : v.isRef = true) (hp : pc + 2 = pc') (r : Go Z EL K N Q X T pc' Ls (v :: st)) : Go Z EL K N Q X T pc Ls st :=
  Go.by (fun t kk => XS.aload W.here W.hx rfl (W.hb hd) hl hv (by subst hp; exact kk)) r
theorem Go.aloadN (W : Wk l Z EL R own bytes maxL ret nm X σ ρ T k n) {k' : Fin 4} {v : Value} (hd : decode bytes pc = .ok (.aload_n k', 1)) (hl : Ls[k'.val]? = some (.val v)) (hv : v.isRef = true) (hp : pc + 1 = pc') (r : Go Z EL K N Q X T pc' Ls (v :: st)) : Go Z EL K N Q X T pc Ls st :=
  Go.by (fun t kk => XS.aloadN W.here W.hx rfl (W.hb hd) hl hv (by subst hp; exact kk)) r
theorem Go.iload (W : Wk l Z EL R own bytes maxL ret nm X σ ρ T k n) {k' : Nat} {v : Int32} (hd : decode bytes pc = .ok (.iload k', 2)) (hl : Ls[k']? = some (.val (.int v))) (hp : pc + 2 = pc') (r : Go Z EL K N Q X T pc' Ls (.int v :: st)) : Go Z EL K N Q X T pc Ls st :=
  Go.by (fun t kk => XS.iload W.here W.hx rfl (W.hb hd) hl (by subst hp; exact kk)) r
theorem Go.iloadN (W : Wk l Z EL R own bytes maxL ret nm X σ ρ T k n) {k' : Fin 4} {v : Int32} (hd : decode bytes pc = .ok (.iload_n k', 1)) (hl : Ls[k'.val]? = some (.val (.int v))) (hp : pc + 1 = pc') (r : Go Z EL K N Q X T pc' Ls (.int v :: st)) : Go Z EL K N Q X T pc Ls st :=
  Go.by (fun t kk => XS.iloadN W.here W.hx rfl (W.hb hd) hl (by subst hp; exact kk)) r
theorem Go.lload (W : Wk l Z EL R own bytes maxL ret nm X σ ρ T k n) {k' : Nat} {v : Int64} (hd : decode bytes pc = .ok (.lload k', 2)) (hl : Ls[k']? = some (.val (.long v))) (hp : pc + 2 = pc') (r : Go Z EL K N Q X T pc' Ls (.long v :: st)) : Go Z EL K N Q X T pc Ls st :=
  Go.by (fun t kk => XT.lload W.here W.hx rfl (W.hb hd) hl (by subst hp; exact kk)) r
theorem Go.lloadN (W : Wk l Z EL R own bytes maxL ret nm X σ ρ T k n) {k' : Fin 4} {v : Int64} (hd : decode bytes pc = .ok (.lload_n k', 1)) (hl : Ls[k'.val]? = some (.val (.long v))) (hp : pc + 1 = pc') (r : Go Z EL K N Q X T pc' Ls (.long v :: st)) : Go Z EL K N Q X T pc Ls st :=
  Go.by (fun t kk => XT.lloadN W.here W.hx rfl (W.hb hd) hl (by subst hp; exact kk)) r
theorem Go.istore (W : Wk l Z EL R own bytes maxL ret nm X σ ρ T k n) {k' : Nat} {x : Int32} (Ls' : Array Slot) (hd : decode bytes pc = .ok (.istore k', 2)) (hl : storeLocals Ls k' (.int x) = some Ls') (hp : pc + 2 = pc') (r : Go Z EL K N Q X T pc' Ls' st) : Go Z EL K N Q X T pc Ls (.int x :: st) :=
  Go.by (fun t kk => XS.istore W.here W.hx rfl (W.hb hd) rfl hl (by subst hp; exact kk)) r
theorem Go.istoreN (W : Wk l Z EL R own bytes maxL ret nm X σ ρ T k n) {k' : Fin 4} {x : Int32} (Ls' : Array Slot) (hd : decode bytes pc = .ok (.istore_n k', 1)) (hl : storeLocals Ls k'.val (.int x) = some Ls') (hp : pc + 1 = pc') (r : Go Z EL K N Q X T pc' Ls' st) : Go Z EL K N Q X T pc Ls (.int x :: st) :=
  Go.by (fun t kk => XS.istoreN W.here W.hx rfl (W.hb hd) rfl hl (by subst hp; exact kk)) r
theorem Go.astore (W : Wk l Z EL R own bytes maxL ret nm X σ ρ T k n) {k' : Nat} {x : Value} (Ls' : Array Slot) (hd : decode bytes pc = .ok (.astore k', 2)) (hv : x.isRef = true) (hl : storeLocals Ls k' x = some Ls') (hp : pc + 2 = pc') (r : Go Z EL K N Q X T pc' Ls' st) : Go Z EL K N Q X T pc Ls (x :: st) :=
  Go.by (fun t kk => XS.astore W.here W.hx rfl (W.hb hd) rfl hv hl (by subst hp; exact kk)) r
theorem Go.astoreN (W : Wk l Z EL R own bytes maxL ret nm X σ ρ T k n) {k' : Fin 4} {x : Value} (Ls' : Array Slot) (hd : decode bytes pc = .ok (.astore_n k', 1)) (hv : x.isRef = true) (hl : storeLocals Ls k'.val x = some Ls') (hp : pc + 1 = pc') (r : Go Z EL K N Q X T pc' Ls' st) : Go Z EL K N Q X T pc Ls (x :: st) :=
  Go.by (fun t kk => XS.astoreN W.here W.hx rfl (W.hb hd) rfl hv hl (by subst hp; exact kk)) r
theorem Go.lstore (W : Wk l Z EL R own bytes maxL ret nm X σ ρ T k n) {k' : Nat} {x : Int64} (Ls' : Array Slot) (hd : decode bytes pc = .ok (.lstore k', 2)) (hl : storeLocals Ls k' (.long x) = some Ls') (hp : pc + 2 = pc') (r : Go Z EL K N Q X T pc' Ls' st) : Go Z EL K N Q X T pc Ls (.long x :: st) :=
  Go.by (fun t kk => XT.lstore W.here W.hx rfl (W.hb hd) rfl hl (by subst hp; exact kk)) r
theorem Go.lstoreN (W : Wk l Z EL R own bytes maxL ret nm X σ ρ T k n) {k' : Fin 4} {x : Int64} (Ls' : Array Slot) (hd : decode bytes pc = .ok (.lstore_n k', 1)) (hl : storeLocals Ls k'.val (.long x) = some Ls') (hp : pc + 1 = pc') (r : Go Z EL K N Q X T pc' Ls' st) : Go Z EL K N Q X T pc Ls (.long x :: st) :=
  Go.by (fun t kk => XT.lstoreN W.here W.hx rfl (W.hb hd) rfl hl (by subst hp; exact kk)) r
theorem Go.iconst (W : Wk l Z EL R own bytes maxL ret nm X σ ρ T k n) {i : Int} (v : Int32) (hd : decode bytes pc = .ok (.iconst i, 1)) (hv : Int32.ofInt i = v) (hp : pc + 1 = pc') (r : Go Z EL K N Q X T pc' Ls (.int v :: st)) : Go Z EL K N Q X T pc Ls st :=
  Go.by (fun t kk => XS.iconst W.here W.hx rfl (W.hb hd)  (by subst hp; subst hv; exact kk)) r
theorem Go.bipush (W : Wk l Z EL R own bytes maxL ret nm X σ ρ T k n) {i : Int} (v : Int32) (hd : decode bytes pc = .ok (.bipush i, 2)) (hv : (Int8.ofInt i).toInt32 = v) (hp : pc + 2 = pc') (r : Go Z EL K N Q X T pc' Ls (.int v :: st)) : Go Z EL K N Q X T pc Ls st :=
  Go.by (fun t kk => XS.bipush W.here W.hx rfl (W.hb hd)  (by subst hp; subst hv; exact kk)) r
theorem Go.sipush (W : Wk l Z EL R own bytes maxL ret nm X σ ρ T k n) {i : Int} (v : Int32) (hd : decode bytes pc = .ok (.sipush i, 3)) (hv : (Int16.ofInt i).toInt32 = v) (hp : pc + 3 = pc') (r : Go Z EL K N Q X T pc' Ls (.int v :: st)) : Go Z EL K N Q X T pc Ls st :=
  Go.by (fun t kk => XS.sipush W.here W.hx rfl (W.hb hd)  (by subst hp; subst hv; exact kk)) r
theorem Go.lconst (W : Wk l Z EL R own bytes maxL ret nm X σ ρ T k n) {i : Fin 2} (v : Int64) (hd : decode bytes pc = .ok (.lconst i, 1)) (hv : Int64.ofNat i = v) (hp : pc + 1 = pc') (r : Go Z EL K N Q X T pc' Ls (.long v :: st)) : Go Z EL K N Q X T pc Ls st :=
  Go.by (fun t kk => XT.lconst W.here W.hx rfl (W.hb hd)  (by subst hp; subst hv; exact kk)) r
theorem Go.aconstNull (W : Wk l Z EL R own bytes maxL ret nm X σ ρ T k n)  (hd : decode bytes pc = .ok (.aconst_null, 1))  (hp : pc + 1 = pc') (r : Go Z EL K N Q X T pc' Ls (.null :: st)) : Go Z EL K N Q X T pc Ls st :=
  Go.by (fun t kk => XS.aconstNull W.here W.hx rfl (W.hb hd)  (by subst hp; exact kk)) r
theorem Go.iadd (W : Wk l Z EL R own bytes maxL ret nm X σ ρ T k n) {x y : Int32} (hd : decode bytes pc = .ok (.iadd, 1))  (hp : pc + 1 = pc') (r : Go Z EL K N Q X T pc' Ls (.int (x + y) :: st)) : Go Z EL K N Q X T pc Ls (.int y :: .int x :: st) :=
  Go.by (fun t kk => XS.iadd W.here W.hx rfl (W.hb hd) rfl (by subst hp; exact kk)) r
theorem Go.isub (W : Wk l Z EL R own bytes maxL ret nm X σ ρ T k n) {x y : Int32} (hd : decode bytes pc = .ok (.isub, 1))  (hp : pc + 1 = pc') (r : Go Z EL K N Q X T pc' Ls (.int (x - y) :: st)) : Go Z EL K N Q X T pc Ls (.int y :: .int x :: st) :=
  Go.by (fun t kk => XS.isub W.here W.hx rfl (W.hb hd) rfl (by subst hp; exact kk)) r
theorem Go.imul (W : Wk l Z EL R own bytes maxL ret nm X σ ρ T k n) {x y : Int32} (hd : decode bytes pc = .ok (.imul, 1))  (hp : pc + 1 = pc') (r : Go Z EL K N Q X T pc' Ls (.int (x * y) :: st)) : Go Z EL K N Q X T pc Ls (.int y :: .int x :: st) :=
  Go.by (fun t kk => XS.imul W.here W.hx rfl (W.hb hd) rfl (by subst hp; exact kk)) r
theorem Go.iand (W : Wk l Z EL R own bytes maxL ret nm X σ ρ T k n) {x y : Int32} (hd : decode bytes pc = .ok (.iand, 1))  (hp : pc + 1 = pc') (r : Go Z EL K N Q X T pc' Ls (.int (x &&& y) :: st)) : Go Z EL K N Q X T pc Ls (.int y :: .int x :: st) :=
  Go.by (fun t kk => XS.iand W.here W.hx rfl (W.hb hd) rfl (by subst hp; exact kk)) r
theorem Go.ior (W : Wk l Z EL R own bytes maxL ret nm X σ ρ T k n) {x y : Int32} (hd : decode bytes pc = .ok (.ior, 1))  (hp : pc + 1 = pc') (r : Go Z EL K N Q X T pc' Ls (.int (x ||| y) :: st)) : Go Z EL K N Q X T pc Ls (.int y :: .int x :: st) :=
  Go.by (fun t kk => XT.ior W.here W.hx rfl (W.hb hd) rfl (by subst hp; exact kk)) r
theorem Go.ixor (W : Wk l Z EL R own bytes maxL ret nm X σ ρ T k n) {x y : Int32} (hd : decode bytes pc = .ok (.ixor, 1))  (hp : pc + 1 = pc') (r : Go Z EL K N Q X T pc' Ls (.int (x ^^^ y) :: st)) : Go Z EL K N Q X T pc Ls (.int y :: .int x :: st) :=
  Go.by (fun t kk => XT.ixor W.here W.hx rfl (W.hb hd) rfl (by subst hp; exact kk)) r
theorem Go.ishl (W : Wk l Z EL R own bytes maxL ret nm X σ ρ T k n) {x y : Int32} (hd : decode bytes pc = .ok (.ishl, 1))  (hp : pc + 1 = pc') (r : Go Z EL K N Q X T pc' Ls (.int (x <<< (y &&& 31)) :: st)) : Go Z EL K N Q X T pc Ls (.int y :: .int x :: st) :=
  Go.by (fun t kk => XT.ishl W.here W.hx rfl (W.hb hd) rfl (by subst hp; exact kk)) r
theorem Go.ishr (W : Wk l Z EL R own bytes maxL ret nm X σ ρ T k n) {x y : Int32} (hd : decode bytes pc = .ok (.ishr, 1))  (hp : pc + 1 = pc') (r : Go Z EL K N Q X T pc' Ls (.int (x >>> (y &&& 31)) :: st)) : Go Z EL K N Q X T pc Ls (.int y :: .int x :: st) :=
  Go.by (fun t kk => XT.ishr W.here W.hx rfl (W.hb hd) rfl (by subst hp; exact kk)) r
theorem Go.iushr (W : Wk l Z EL R own bytes maxL ret nm X σ ρ T k n) {x y : Int32} (hd : decode bytes pc = .ok (.iushr, 1))  (hp : pc + 1 = pc') (r : Go Z EL K N Q X T pc' Ls (.int ((x.toUInt32 >>> (y &&& 31).toUInt32).toInt32) :: st)) : Go Z EL K N Q X T pc Ls (.int y :: .int x :: st) :=
  Go.by (fun t kk => XT.iushr W.here W.hx rfl (W.hb hd) rfl (by subst hp; exact kk)) r
theorem Go.idiv (W : Wk l Z EL R own bytes maxL ret nm X σ ρ T k n) {x y : Int32} (hd : decode bytes pc = .ok (.idiv, 1)) (hy : y ≠ 0) (hp : pc + 1 = pc') (r : Go Z EL K N Q X T pc' Ls (.int (x / y) :: st)) : Go Z EL K N Q X T pc Ls (.int y :: .int x :: st) :=
  Go.by (fun t kk => XS.idiv W.here W.hx rfl (W.hb hd) rfl hy (by subst hp; exact kk)) r
theorem Go.irem (W : Wk l Z EL R own bytes maxL ret nm X σ ρ T k n) {x y : Int32} (hd : decode bytes pc = .ok (.irem, 1)) (hy : y ≠ 0) (hp : pc + 1 = pc') (r : Go Z EL K N Q X T pc' Ls (.int (x % y) :: st)) : Go Z EL K N Q X T pc Ls (.int y :: .int x :: st) :=
  Go.by (fun t kk => XS.irem W.here W.hx rfl (W.hb hd) rfl hy (by subst hp; rw [irem_eq_mod x y]; exact kk)) r
theorem Go.ineg (W : Wk l Z EL R own bytes maxL ret nm X σ ρ T k n) {x : Int32} (hd : decode bytes pc = .ok (.ineg, 1))  (hp : pc + 1 = pc') (r : Go Z EL K N Q X T pc' Ls (.int (-x) :: st)) : Go Z EL K N Q X T pc Ls (.int x :: st) :=
  Go.by (fun t kk => XS.ineg W.here W.hx rfl (W.hb hd) rfl (by subst hp; exact kk)) r
theorem Go.i2b (W : Wk l Z EL R own bytes maxL ret nm X σ ρ T k n) {x : Int32} (hd : decode bytes pc = .ok (.i2b, 1))  (hp : pc + 1 = pc') (r : Go Z EL K N Q X T pc' Ls (.int x.toInt8.toInt32 :: st)) : Go Z EL K N Q X T pc Ls (.int x :: st) :=
  Go.by (fun t kk => XT.i2b W.here W.hx rfl (W.hb hd) rfl (by subst hp; exact kk)) r
theorem Go.i2c (W : Wk l Z EL R own bytes maxL ret nm X σ ρ T k n) {x : Int32} (hd : decode bytes pc = .ok (.i2c, 1))  (hp : pc + 1 = pc') (r : Go Z EL K N Q X T pc' Ls (.int x.toUInt32.toUInt16.toUInt32.toInt32 :: st)) : Go Z EL K N Q X T pc Ls (.int x :: st) :=
  Go.by (fun t kk => XT.i2c W.here W.hx rfl (W.hb hd) rfl (by subst hp; exact kk)) r
theorem Go.i2s (W : Wk l Z EL R own bytes maxL ret nm X σ ρ T k n) {x : Int32} (hd : decode bytes pc = .ok (.i2s, 1))  (hp : pc + 1 = pc') (r : Go Z EL K N Q X T pc' Ls (.int x.toInt16.toInt32 :: st)) : Go Z EL K N Q X T pc Ls (.int x :: st) :=
  Go.by (fun t kk => XT.i2s W.here W.hx rfl (W.hb hd) rfl (by subst hp; exact kk)) r
theorem Go.i2l (W : Wk l Z EL R own bytes maxL ret nm X σ ρ T k n) {x : Int32} (hd : decode bytes pc = .ok (.i2l, 1))  (hp : pc + 1 = pc') (r : Go Z EL K N Q X T pc' Ls (.long x.toInt64 :: st)) : Go Z EL K N Q X T pc Ls (.int x :: st) :=
  Go.by (fun t kk => XT.i2l W.here W.hx rfl (W.hb hd) rfl (by subst hp; exact kk)) r
theorem Go.l2i (W : Wk l Z EL R own bytes maxL ret nm X σ ρ T k n) {x : Int64} (hd : decode bytes pc = .ok (.l2i, 1))  (hp : pc + 1 = pc') (r : Go Z EL K N Q X T pc' Ls (.int x.toInt32 :: st)) : Go Z EL K N Q X T pc Ls (.long x :: st) :=
  Go.by (fun t kk => XT.l2i W.here W.hx rfl (W.hb hd) rfl (by subst hp; exact kk)) r
theorem Go.ladd (W : Wk l Z EL R own bytes maxL ret nm X σ ρ T k n) {x y : Int64} (hd : decode bytes pc = .ok (.ladd, 1))  (hp : pc + 1 = pc') (r : Go Z EL K N Q X T pc' Ls (.long (x + y) :: st)) : Go Z EL K N Q X T pc Ls (.long y :: .long x :: st) :=
  Go.by (fun t kk => XT.ladd W.here W.hx rfl (W.hb hd) rfl (by subst hp; exact kk)) r
theorem Go.lsub (W : Wk l Z EL R own bytes maxL ret nm X σ ρ T k n) {x y : Int64} (hd : decode bytes pc = .ok (.lsub, 1))  (hp : pc + 1 = pc') (r : Go Z EL K N Q X T pc' Ls (.long (x - y) :: st)) : Go Z EL K N Q X T pc Ls (.long y :: .long x :: st) :=
  Go.by (fun t kk => XT.lsub W.here W.hx rfl (W.hb hd) rfl (by subst hp; exact kk)) r
theorem Go.lmul (W : Wk l Z EL R own bytes maxL ret nm X σ ρ T k n) {x y : Int64} (hd : decode bytes pc = .ok (.lmul, 1))  (hp : pc + 1 = pc') (r : Go Z EL K N Q X T pc' Ls (.long (x * y) :: st)) : Go Z EL K N Q X T pc Ls (.long y :: .long x :: st) :=
  Go.by (fun t kk => XT.lmul W.here W.hx rfl (W.hb hd) rfl (by subst hp; exact kk)) r
theorem Go.land (W : Wk l Z EL R own bytes maxL ret nm X σ ρ T k n) {x y : Int64} (hd : decode bytes pc = .ok (.land, 1))  (hp : pc + 1 = pc') (r : Go Z EL K N Q X T pc' Ls (.long (x &&& y) :: st)) : Go Z EL K N Q X T pc Ls (.long y :: .long x :: st) :=
  Go.by (fun t kk => XT.land W.here W.hx rfl (W.hb hd) rfl (by subst hp; exact kk)) r
theorem Go.lor (W : Wk l Z EL R own bytes maxL ret nm X σ ρ T k n) {x y : Int64} (hd : decode bytes pc = .ok (.lor, 1))  (hp : pc + 1 = pc') (r : Go Z EL K N Q X T pc' Ls (.long (x ||| y) :: st)) : Go Z EL K N Q X T pc Ls (.long y :: .long x :: st) :=
  Go.by (fun t kk => XT.lor W.here W.hx rfl (W.hb hd) rfl (by subst hp; exact kk)) r
theorem Go.lxor (W : Wk l Z EL R own bytes maxL ret nm X σ ρ T k n) {x y : Int64} (hd : decode bytes pc = .ok (.lxor, 1))  (hp : pc + 1 = pc') (r : Go Z EL K N Q X T pc' Ls (.long (x ^^^ y) :: st)) : Go Z EL K N Q X T pc Ls (.long y :: .long x :: st) :=
  Go.by (fun t kk => XT.lxor W.here W.hx rfl (W.hb hd) rfl (by subst hp; exact kk)) r
theorem Go.ldiv (W : Wk l Z EL R own bytes maxL ret nm X σ ρ T k n) {x y : Int64} (hd : decode bytes pc = .ok (.ldiv, 1)) (hy : y ≠ 0) (hp : pc + 1 = pc') (r : Go Z EL K N Q X T pc' Ls (.long (x / y) :: st)) : Go Z EL K N Q X T pc Ls (.long y :: .long x :: st) :=
  Go.by (fun t kk => XT.ldiv W.here W.hx rfl (W.hb hd) rfl hy (by subst hp; exact kk)) r
theorem Go.lrem (W : Wk l Z EL R own bytes maxL ret nm X σ ρ T k n) {x y : Int64} (hd : decode bytes pc = .ok (.lrem, 1)) (hy : y ≠ 0) (hp : pc + 1 = pc') (r : Go Z EL K N Q X T pc' Ls (.long (x % y) :: st)) : Go Z EL K N Q X T pc Ls (.long y :: .long x :: st) :=
  Go.by (fun t kk => XT.lrem W.here W.hx rfl (W.hb hd) rfl hy (by subst hp; rw [lrem_mod x y]; exact kk)) r
theorem Go.lneg (W : Wk l Z EL R own bytes maxL ret nm X σ ρ T k n) {x : Int64} (hd : decode bytes pc = .ok (.lneg, 1))  (hp : pc + 1 = pc') (r : Go Z EL K N Q X T pc' Ls (.long (-x) :: st)) : Go Z EL K N Q X T pc Ls (.long x :: st) :=
  Go.by (fun t kk => XT.lneg W.here W.hx rfl (W.hb hd) rfl (by subst hp; exact kk)) r
theorem Go.lushr (W : Wk l Z EL R own bytes maxL ret nm X σ ρ T k n) {x : Int64} {y : Int32} (hd : decode bytes pc = .ok (.lushr, 1))  (hp : pc + 1 = pc') (r : Go Z EL K N Q X T pc' Ls (.long (Jvm.Free.XT.ushrL x y) :: st)) : Go Z EL K N Q X T pc Ls (.int y :: .long x :: st) :=
  Go.by (fun t kk => XT.lushr W.here W.hx rfl (W.hb hd) rfl (by subst hp; exact kk)) r
theorem Go.lcmp (W : Wk l Z EL R own bytes maxL ret nm X σ ρ T k n) {x y : Int64} (hd : decode bytes pc = .ok (.lcmp, 1))  (hp : pc + 1 = pc') (r : Go Z EL K N Q X T pc' Ls (.int (lcmpW x y) :: st)) : Go Z EL K N Q X T pc Ls (.long y :: .long x :: st) :=
  Go.by (fun t kk => XT.lcmp W.here W.hx rfl (W.hb hd) rfl (by subst hp; exact kk)) r
theorem Go.dup (W : Wk l Z EL R own bytes maxL ret nm X σ ρ T k n) {x : Value} (hd : decode bytes pc = .ok (.dup, 1)) (hc : x.category = 1) (hp : pc + 1 = pc') (r : Go Z EL K N Q X T pc' Ls (x :: x :: st)) : Go Z EL K N Q X T pc Ls (x :: st) :=
  Go.by (fun t kk => XS.dup W.here W.hx rfl (W.hb hd) rfl hc (by subst hp; exact kk)) r
theorem Go.dupX1 (W : Wk l Z EL R own bytes maxL ret nm X σ ρ T k n) {x y : Value} (hd : decode bytes pc = .ok (.dup_x1, 1)) (hc : x.category = 1) (hc' : y.category = 1) (hp : pc + 1 = pc') (r : Go Z EL K N Q X T pc' Ls (x :: y :: x :: st)) : Go Z EL K N Q X T pc Ls (x :: y :: st) :=
  Go.by (fun t kk => XT.dupX1 W.here W.hx rfl (W.hb hd) rfl hc hc' (by subst hp; exact kk)) r
theorem Go.dup2 (W : Wk l Z EL R own bytes maxL ret nm X σ ρ T k n) {x y : Value} (hd : decode bytes pc = .ok (.dup2, 1)) (hc : x.category = 1) (hc' : y.category = 1) (hp : pc + 1 = pc') (r : Go Z EL K N Q X T pc' Ls (x :: y :: x :: y :: st)) : Go Z EL K N Q X T pc Ls (x :: y :: st) :=
  Go.by (fun t kk => XT.dup2 W.here W.hx rfl (W.hb hd) rfl hc hc' (by subst hp; exact kk)) r
theorem Go.pop (W : Wk l Z EL R own bytes maxL ret nm X σ ρ T k n) {x : Value} (hd : decode bytes pc = .ok (.pop, 1)) (hc : x.category = 1) (hp : pc + 1 = pc') (r : Go Z EL K N Q X T pc' Ls st) : Go Z EL K N Q X T pc Ls (x :: st) :=
  Go.by (fun t kk => XT.pop W.here W.hx rfl (W.hb hd) rfl hc (by subst hp; exact kk)) r
theorem Go.iinc (W : Wk l Z EL R own bytes maxL ret nm X σ ρ T k n) {k' : Nat} {cst : Int} {x : Int32} (v : Int32) (Ls' : Array Slot) (hd : decode bytes pc = .ok (.iinc k' cst, 3)) (hl : Ls[k']? = some (.val (.int x))) (hv : Int32.ofInt cst = v) (hl' : storeLocals Ls k' (.int (x + v)) = some Ls') (hp : pc + 3 = pc') (r : Go Z EL K N Q X T pc' Ls' st) : Go Z EL K N Q X T pc Ls st :=
  Go.by (fun t kk => XS.iinc W.here W.hx rfl (W.hb hd) hl (by rw [hv]; exact hl') (by subst hp; exact kk)) r
theorem Go.goto (W : Wk l Z EL R own bytes maxL ret nm X σ ρ T k n) {o : Int} (pcY : Nat) (hd : decode bytes pc = .ok (.goto o, 3)) (hy : (pc : Int) + o = (pcY : Nat)) (r : Go Z EL K N Q X T pcY Ls st) : Go Z EL K N Q X T pc Ls st :=
  Go.by (fun t kk => XS.goto W.here W.hx rfl (pc0 := pc) (pc' := pcY) rfl (W.hb hd) (by omega) (by omega) kk) r
theorem Go.icmp_eq (W : Wk l Z EL R own bytes maxL ret nm X σ ρ T k n) {x y : Int32} {o : Int} (pcY : Nat) (hd : decode bytes pc = .ok (.if_icmp .eq o, 3)) (hy : (pc : Int) + o = (pcY : Nat)) (hp : pc + 3 = pc') (rY : (x = y) → Go Z EL K N Q X T pcY Ls st) (rN : (¬ x = y) → Go Z EL K N Q X T pc' Ls st) : Go Z EL K N Q X T pc Ls (.int y :: .int x :: st) := by
  by_cases q : x = y
  · exact Go.by (fun t kk => XS.icmpYes W.here W.hx rfl (pc0 := pc) (pc' := pcY) rfl (W.hb hd) rfl (teq q).1 (by omega) (by omega) kk) (rY q)
  · exact Go.by (fun t kk => XS.icmpNo W.here W.hx rfl (W.hb hd) rfl (feq q).1 (by subst hp; exact kk)) (rN q)
theorem Go.if_eq (W : Wk l Z EL R own bytes maxL ret nm X σ ρ T k n) {x : Int32} {o : Int} (pcY : Nat) (hd : decode bytes pc = .ok (.ifCond .eq o, 3)) (hy : (pc : Int) + o = (pcY : Nat)) (hp : pc + 3 = pc') (rY : (x = 0) → Go Z EL K N Q X T pcY Ls st) (rN : (¬ x = 0) → Go Z EL K N Q X T pc' Ls st) : Go Z EL K N Q X T pc Ls (.int x :: st) := by
  by_cases q : x = 0
  · exact Go.by (fun t kk => XS.ifYes W.here W.hx rfl (pc0 := pc) (pc' := pcY) rfl (W.hb hd) rfl ((if0 .eq x).trans (teq q).1) (by omega) (by omega) kk) (rY q)
  · exact Go.by (fun t kk => XS.ifNo W.here W.hx rfl (W.hb hd) rfl ((if0 .eq x).trans (feq q).1) (by subst hp; exact kk)) (rN q)
theorem Go.icmp_ne (W : Wk l Z EL R own bytes maxL ret nm X σ ρ T k n) {x y : Int32} {o : Int} (pcY : Nat) (hd : decode bytes pc = .ok (.if_icmp .ne o, 3)) (hy : (pc : Int) + o = (pcY : Nat)) (hp : pc + 3 = pc') (rY : (¬ x = y) → Go Z EL K N Q X T pcY Ls st) (rN : (x = y) → Go Z EL K N Q X T pc' Ls st) : Go Z EL K N Q X T pc Ls (.int y :: .int x :: st) := by
  by_cases q : x = y
  · exact Go.by (fun t kk => XS.icmpNo W.here W.hx rfl (W.hb hd) rfl (teq q).2 (by subst hp; exact kk)) (rN q)
  · exact Go.by (fun t kk => XS.icmpYes W.here W.hx rfl (pc0 := pc) (pc' := pcY) rfl (W.hb hd) rfl (feq q).2 (by omega) (by omega) kk) (rY q)
theorem Go.if_ne (W : Wk l Z EL R own bytes maxL ret nm X σ ρ T k n) {x : Int32} {o : Int} (pcY : Nat) (hd : decode bytes pc = .ok (.ifCond .ne o, 3)) (hy : (pc : Int) + o = (pcY : Nat)) (hp : pc + 3 = pc') (rY : (¬ x = 0) → Go Z EL K N Q X T pcY Ls st) (rN : (x = 0) → Go Z EL K N Q X T pc' Ls st) : Go Z EL K N Q X T pc Ls (.int x :: st) := by
  by_cases q : x = 0
  · exact Go.by (fun t kk => XS.ifNo W.here W.hx rfl (W.hb hd) rfl ((if0 .ne x).trans (teq q).2) (by subst hp; exact kk)) (rN q)
  · exact Go.by (fun t kk => XS.ifYes W.here W.hx rfl (pc0 := pc) (pc' := pcY) rfl (W.hb hd) rfl ((if0 .ne x).trans (feq q).2) (by omega) (by omega) kk) (rY q)
theorem Go.icmp_lt (W : Wk l Z EL R own bytes maxL ret nm X σ ρ T k n) {x y : Int32} {o : Int} (pcY : Nat) (hd : decode bytes pc = .ok (.if_icmp .lt o, 3)) (hy : (pc : Int) + o = (pcY : Nat)) (hp : pc + 3 = pc') (rY : (x < y) → Go Z EL K N Q X T pcY Ls st) (rN : (¬ x < y) → Go Z EL K N Q X T pc' Ls st) : Go Z EL K N Q X T pc Ls (.int y :: .int x :: st) := by
  by_cases q : x < y
  · exact Go.by (fun t kk => XS.icmpYes W.here W.hx rfl (pc0 := pc) (pc' := pcY) rfl (W.hb hd) rfl (tlt q).1 (by omega) (by omega) kk) (rY q)
  · exact Go.by (fun t kk => XS.icmpNo W.here W.hx rfl (W.hb hd) rfl (flt q).1 (by subst hp; exact kk)) (rN q)
theorem Go.if_lt (W : Wk l Z EL R own bytes maxL ret nm X σ ρ T k n) {x : Int32} {o : Int} (pcY : Nat) (hd : decode bytes pc = .ok (.ifCond .lt o, 3)) (hy : (pc : Int) + o = (pcY : Nat)) (hp : pc + 3 = pc') (rY : (x < 0) → Go Z EL K N Q X T pcY Ls st) (rN : (¬ x < 0) → Go Z EL K N Q X T pc' Ls st) : Go Z EL K N Q X T pc Ls (.int x :: st) := by
  by_cases q : x < 0
  · exact Go.by (fun t kk => XS.ifYes W.here W.hx rfl (pc0 := pc) (pc' := pcY) rfl (W.hb hd) rfl ((if0 .lt x).trans (tlt q).1) (by omega) (by omega) kk) (rY q)
  · exact Go.by (fun t kk => XS.ifNo W.here W.hx rfl (W.hb hd) rfl ((if0 .lt x).trans (flt q).1) (by subst hp; exact kk)) (rN q)
theorem Go.icmp_ge (W : Wk l Z EL R own bytes maxL ret nm X σ ρ T k n) {x y : Int32} {o : Int} (pcY : Nat) (hd : decode bytes pc = .ok (.if_icmp .ge o, 3)) (hy : (pc : Int) + o = (pcY : Nat)) (hp : pc + 3 = pc') (rY : (¬ x < y) → Go Z EL K N Q X T pcY Ls st) (rN : (x < y) → Go Z EL K N Q X T pc' Ls st) : Go Z EL K N Q X T pc Ls (.int y :: .int x :: st) := by
  by_cases q : x < y
  · exact Go.by (fun t kk => XS.icmpNo W.here W.hx rfl (W.hb hd) rfl (tlt q).2.1 (by subst hp; exact kk)) (rN q)
  · exact Go.by (fun t kk => XS.icmpYes W.here W.hx rfl (pc0 := pc) (pc' := pcY) rfl (W.hb hd) rfl (flt q).2.1 (by omega) (by omega) kk) (rY q)
theorem Go.if_ge (W : Wk l Z EL R own bytes maxL ret nm X σ ρ T k n) {x : Int32} {o : Int} (pcY : Nat) (hd : decode bytes pc = .ok (.ifCond .ge o, 3)) (hy : (pc : Int) + o = (pcY : Nat)) (hp : pc + 3 = pc') (rY : (¬ x < 0) → Go Z EL K N Q X T pcY Ls st) (rN : (x < 0) → Go Z EL K N Q X T pc' Ls st) : Go Z EL K N Q X T pc Ls (.int x :: st) := by
  by_cases q : x < 0
  · exact Go.by (fun t kk => XS.ifNo W.here W.hx rfl (W.hb hd) rfl ((if0 .ge x).trans (tlt q).2.1) (by subst hp; exact kk)) (rN q)
  · exact Go.by (fun t kk => XS.ifYes W.here W.hx rfl (pc0 := pc) (pc' := pcY) rfl (W.hb hd) rfl ((if0 .ge x).trans (flt q).2.1) (by omega) (by omega) kk) (rY q)
theorem Go.icmp_gt (W : Wk l Z EL R own bytes maxL ret nm X σ ρ T k n) {x y : Int32} {o : Int} (pcY : Nat) (hd : decode bytes pc = .ok (.if_icmp .gt o, 3)) (hy : (pc : Int) + o = (pcY : Nat)) (hp : pc + 3 = pc') (rY : (y < x) → Go Z EL K N Q X T pcY Ls st) (rN : (¬ y < x) → Go Z EL K N Q X T pc' Ls st) : Go Z EL K N Q X T pc Ls (.int y :: .int x :: st) := by
  by_cases q : y < x
  · exact Go.by (fun t kk => XS.icmpYes W.here W.hx rfl (pc0 := pc) (pc' := pcY) rfl (W.hb hd) rfl (tlt q).2.2.1 (by omega) (by omega) kk) (rY q)
  · exact Go.by (fun t kk => XS.icmpNo W.here W.hx rfl (W.hb hd) rfl (flt q).2.2.1 (by subst hp; exact kk)) (rN q)
theorem Go.if_gt (W : Wk l Z EL R own bytes maxL ret nm X σ ρ T k n) {x : Int32} {o : Int} (pcY : Nat) (hd : decode bytes pc = .ok (.ifCond .gt o, 3)) (hy : (pc : Int) + o = (pcY : Nat)) (hp : pc + 3 = pc') (rY : (0 < x) → Go Z EL K N Q X T pcY Ls st) (rN : (¬ 0 < x) → Go Z EL K N Q X T pc' Ls st) : Go Z EL K N Q X T pc Ls (.int x :: st) := by
  by_cases q : 0 < x
  · exact Go.by (fun t kk => XS.ifYes W.here W.hx rfl (pc0 := pc) (pc' := pcY) rfl (W.hb hd) rfl ((if0 .gt x).trans (tlt q).2.2.1) (by omega) (by omega) kk) (rY q)
  · exact Go.by (fun t kk => XS.ifNo W.here W.hx rfl (W.hb hd) rfl ((if0 .gt x).trans (flt q).2.2.1) (by subst hp; exact kk)) (rN q)
theorem Go.icmp_le (W : Wk l Z EL R own bytes maxL ret nm X σ ρ T k n) {x y : Int32} {o : Int} (pcY : Nat) (hd : decode bytes pc = .ok (.if_icmp .le o, 3)) (hy : (pc : Int) + o = (pcY : Nat)) (hp : pc + 3 = pc') (rY : (¬ y < x) → Go Z EL K N Q X T pcY Ls st) (rN : (y < x) → Go Z EL K N Q X T pc' Ls st) : Go Z EL K N Q X T pc Ls (.int y :: .int x :: st) := by
  by_cases q : y < x
  · exact Go.by (fun t kk => XS.icmpNo W.here W.hx rfl (W.hb hd) rfl (tlt q).2.2.2 (by subst hp; exact kk)) (rN q)
  · exact Go.by (fun t kk => XS.icmpYes W.here W.hx rfl (pc0 := pc) (pc' := pcY) rfl (W.hb hd) rfl (flt q).2.2.2 (by omega) (by omega) kk) (rY q)
theorem Go.if_le (W : Wk l Z EL R own bytes maxL ret nm X σ ρ T k n) {x : Int32} {o : Int} (pcY : Nat) (hd : decode bytes pc = .ok (.ifCond .le o, 3)) (hy : (pc : Int) + o = (pcY : Nat)) (hp : pc + 3 = pc') (rY : (¬ 0 < x) → Go Z EL K N Q X T pcY Ls st) (rN : (0 < x) → Go Z EL K N Q X T pc' Ls st) : Go Z EL K N Q X T pc Ls (.int x :: st) := by
  by_cases q : 0 < x
  · exact Go.by (fun t kk => XS.ifNo W.here W.hx rfl (W.hb hd) rfl ((if0 .le x).trans (tlt q).2.2.2) (by subst hp; exact kk)) (rN q)
  · exact Go.by (fun t kk => XS.ifYes W.here W.hx rfl (pc0 := pc) (pc' := pcY) rfl (W.hb hd) rfl ((if0 .le x).trans (flt q).2.2.2) (by omega) (by omega) kk) (rY q)
theorem Go.ifnull_yes (W : Wk l Z EL R own bytes maxL ret nm X σ ρ T k n) {o : Int} (pcY : Nat) (hd : decode bytes pc = .ok (.ifnull o, 3)) (hy : (pc : Int) + o = (pcY : Nat)) (r : Go Z EL K N Q X T pcY Ls st) : Go Z EL K N Q X T pc Ls (.null :: st) :=
  Go.by (fun t kk => XS.ifnullYes W.here W.hx rfl (pc0 := pc) (pc' := pcY) rfl (W.hb hd) rfl (by omega) (by omega) kk) r
theorem Go.ifnull_no (W : Wk l Z EL R own bytes maxL ret nm X σ ρ T k n) {b : Addr} {o : Int} (hd : decode bytes pc = .ok (.ifnull o, 3)) (hp : pc + 3 = pc') (r : Go Z EL K N Q X T pc' Ls st) : Go Z EL K N Q X T pc Ls (.ref b :: st) :=
  Go.by (fun t kk => XS.ifnullNo W.here W.hx rfl (W.hb hd) rfl (by subst hp; exact kk)) r
theorem Go.ifnonnull_yes (W : Wk l Z EL R own bytes maxL ret nm X σ ρ T k n) {b : Addr} {o : Int} (pcY : Nat) (hd : decode bytes pc = .ok (.ifnonnull o, 3)) (hy : (pc : Int) + o = (pcY : Nat)) (r : Go Z EL K N Q X T pcY Ls st) : Go Z EL K N Q X T pc Ls (.ref b :: st) :=
  Go.by (fun t kk => XT.ifnonnullYes W.here W.hx rfl (pc0 := pc) (pc' := pcY) rfl (W.hb hd) rfl (by omega) (by omega) kk) r
theorem Go.ifnonnull_no (W : Wk l Z EL R own bytes maxL ret nm X σ ρ T k n) {o : Int} (hd : decode bytes pc = .ok (.ifnonnull o, 3)) (hp : pc + 3 = pc') (r : Go Z EL K N Q X T pc' Ls st) : Go Z EL K N Q X T pc Ls (.null :: st) :=
  Go.by (fun t kk => XT.ifnonnullNo W.here W.hx rfl (W.hb hd) rfl (by subst hp; exact kk)) r
end StepLaws
/-! ## own: what is known of one cell -/
def ObjC (Z : State) (c : Cell) (C : String) : Prop := ∃ k : Class, Z.vm.findClass C = some c.cls ∧ Z.vm.classes[c.cls]? = some k ∧ c.vm.isStatics = false ∧ (k.kind = .ordinary → c.slots.size = k.instanceTypes.size)
def FldC (Z : State) (c : Cell) (C n d : String) (v : Value) : Prop := ∃ (cf : ClassId) (k : Class) (i : Nat) (f : Field), Z.fieldFound? C n d = some (cf, k, i, f) ∧ f.isStatic = false ∧ c.vm ≠ .unknown ∧ c.vm.isStatics = false ∧ Z.vm.assignable c.cls cf = true ∧ c.slots[f.slot]? = some v
def ArrC (Z : State) (c : Cell) (ty : FieldType) (vs : List Value) : Prop := Z.isArrayOf c ty ∧ c.vm ≠ .unknown ∧ c.slots.toList = vs ∧ (∀ v ∈ vs, fits ty v = true) ∧ vs.length < 2147483648
section CellLaws
variable {Z : State} {c c' : Cell} {C n d C' n' d' : String} {v w : Value} {h : Heap} {a : Addr} {ty : FieldType} {vs : List Value}
theorem ObjC.exa (F : ObjC Z c C) (ha : h[a]? = some c) : Exa Z h a C := by obtain ⟨k, h1, h2, h3, h4⟩ := F; exact ⟨c, k, ha, h1, h2, h3, h4⟩
theorem ObjC.of (F : Exa Z h a C) (ha : h[a]? = some c) : ObjC Z c C := by
  obtain ⟨c', k, h0, h1, h2, h3, h4⟩ := F
  cases ha.symm.trans h0
  exact ⟨k, h1, h2, h3, h4⟩
theorem FldC.fld (F : FldC Z c C n d v) (ha : h[a]? = some c) : Fld Z h a C n d v := by obtain ⟨cf, k, i, f, r⟩ := F; exact ⟨c, cf, k, i, f, ha, r⟩
theorem FldC.of (F : Fld Z h a C n d v) (ha : h[a]? = some c) : FldC Z c C n d v := by
  obtain ⟨c', cf, k, i, f, h0, r⟩ := F
  cases ha.symm.trans h0
  exact ⟨cf, k, i, f, r⟩
theorem ArrC.arr (F : ArrC Z c ty vs) (ha : h[a]? = some c) : Arr Z h a c ty := ⟨ha, F.1, F.2.1⟩
theorem ArrC.size (F : ArrC Z c ty vs) : c.slots.size = vs.length := by rw [← F.2.2.1]; simp
theorem ArrC.get (F : ArrC Z c ty vs) (i : Nat) : c.slots[i]? = vs[i]? := by rw [← F.2.2.1]; simp
theorem FldC.put {v' : Value} (F : FldC Z c C n d v) : FldC Z (c.setSlot (Jvm.RoadKit.slotOf Z C n d) v') C n d v' := by
  obtain ⟨cf, k, i, f, h1, h2, h3, h4, h5, h6⟩ := F
  have hlt := (Array.getElem?_eq_some_iff.mp h6).1
  exact ⟨cf, k, i, f, h1, h2, h3, h4, h5, by simp [Cell.setSlot, Jvm.RoadKit.slotOf, h1, hlt]⟩
theorem FldC.keep {sl : Nat} {v' : Value} (F : FldC Z c C n d v) (hne : Jvm.RoadKit.slotOf Z C n d ≠ sl) : FldC Z (c.setSlot sl v') C n d v := by
  obtain ⟨cf, k, i, f, h1, h2, h3, h4, h5, h6⟩ := F
  have e : Jvm.RoadKit.slotOf Z C n d = f.slot := by simp [Jvm.RoadKit.slotOf, h1]
  rw [e] at hne
  exact ⟨cf, k, i, f, h1, h2, h3, h4, h5, by show (c.slots.setIfInBounds sl v')[f.slot]? = _; rw [Array.getElem?_setIfInBounds_ne (Ne.symm hne)]; exact h6⟩
theorem ObjC.put {sl : Nat} {v' : Value} (F : ObjC Z c C) : ObjC Z (c.setSlot sl v') C := by
  obtain ⟨k, h1, h2, h3, h4⟩ := F
  exact ⟨k, h1, h2, h3, fun q => by rw [← h4 q]; simp [Cell.setSlot]⟩
theorem FldC.put' {v' : Value} (F : FldC Z c C n d v) (e : c' = c.setSlot (Jvm.RoadKit.slotOf Z C n d) v') : FldC Z c' C n d v' := e ▸ F.put
theorem FldC.keep' {sl : Nat} {v' : Value} (F : FldC Z c C n d v) (e : c' = c.setSlot sl v') (hne : Jvm.RoadKit.slotOf Z C n d ≠ sl) : FldC Z c' C n d v := e ▸ F.keep hne
theorem ObjC.put' {sl : Nat} {v' : Value} (F : ObjC Z c C) (e : c' = c.setSlot sl v') : ObjC Z c' C := e ▸ F.put
theorem fits_isref (ht : ty.isReference = true) (hv : v.isRef = true) : fits ty v = true := by cases ty <;> first | (cases ht; done) | (cases v <;> first | (cases hv; done) | rfl)
theorem ArrC.put {i : Nat} {v' : Value} (F : ArrC Z c ty vs) (hf : fits ty v' = true) : ArrC Z (c.setSlot i v') ty (vs.set i v') := by
  obtain ⟨h1, h2, h3, h4, h5⟩ := F
  refine ⟨h1, h2, by simp [Cell.setSlot, h3], fun v hv => ?_, by simpa using h5⟩
  rcases List.mem_or_eq_of_mem_set hv with q | q
  · exact h4 v q
  · rw [q]; exact hf
end CellLaws
/-! ## own: steps that read or make or write cells, and calls, in the Go form -/
section HeapLaws
variable {l : Launch} {Z : State} {a0 : Array Value} {EL : List (String × Nat)} {R : Room} {own : String} {bytes : ByteArray} {maxL : Nat} {ret : Option FieldType} {nm : String} {X : Ctx} {σ ρ : HL} {T : State} {k n K N : Nat} {Q : Option Value → HL → HL → Prop} {pc pc' : Nat} {Ls : Array Slot} {st : List Value} {a : Addr} {c : Cell} {vs : List Value}
theorem Go.new (W : Wk l Z EL R own bytes maxL ret nm X σ ρ T k n) {C : String} {ix cnt : Nat} (w : (Jvm.Cond.classLink own ix C).before a0 Z = true) (wi : (Jvm.Cond.instantiable C cnt).before a0 Z = true) (wz : (Jvm.Cond.initialized C).before a0 Z = true)
    (hd : decode bytes pc = .ok (.new ix, 3)) (hp : pc + 3 = pc') (hk : k + 1 ≤ R.cells) (hn : n + cnt ≤ R.slots)
    (r : ∀ (T' : State) (a : Addr) (c : Cell), Wk l Z EL R own bytes maxL ret nm X ((a, c) :: σ) ρ T' (k + 1) (n + cnt) → ObjC Z c C → (∀ {O nm d : String} {ty : FieldType}, Laid Z a0 C O nm d → parseFieldDescriptor d = some ty → FldC Z c O nm d (defaultValue ty)) → Go Z EL K N Q X T' pc' Ls (.ref a :: st)) :
    Go Z EL K N Q X T pc Ls st := by
  obtain ⟨w0, vm0, k0, locs, Y, hS, hk0, hZ, hown, hFr, H⟩ := W
  obtain ⟨T', h', Y', e', E, A, D, ⟨cl, hcl, -⟩, stp⟩ := newO Y w0.1 hZ hown w wi wz rfl (g := mkF X.m pc Ls st) rfl (by rw [w0.2.1]; exact hd) hk hn
  subst e'
  refine Go.by stp (by subst hp; exact r T' T.heap.size cl ⟨w0, vm0, k0, locs, Y', hS, Nat.le_trans hk0 E.1, hZ, hown, hFr, H.alloc E hcl⟩ (ObjC.of A hcl) fun L ht => FldC.of (D L ht) hcl)
theorem fits_default (ty : FieldType) : fits ty (defaultValue ty) = true := by cases ty <;> rfl
theorem Go.newarr (W : Wk l Z EL R own bytes maxL ret nm X σ ρ T k n) {aty : ArrayType} {z : Int32} (ty : FieldType) (hty : newarray.typeOf aty = ty) (len : Nat) (w : (Jvm.Cond.arrayClass ty).before a0 Z = true) (hd : decode bytes pc = .ok (.newarray aty, 2)) (hp : pc + 2 = pc')
    (hz : ¬ z < 0) (hl : z.toNatClampNeg = len) (hb : len * 8 ≤ 536870912) (hk : k + 1 ≤ R.cells) (hn : n + len ≤ R.slots)
    (r : ∀ (T' : State) (a : Addr) (c : Cell), Wk l Z EL R own bytes maxL ret nm X ((a, c) :: σ) ρ T' (k + 1) (n + len) → ArrC Z c ty (List.replicate len (defaultValue ty)) → Go Z EL K N Q X T' pc' Ls (.ref a :: st)) :
    Go Z EL K N Q X T pc Ls (.int z :: st) := by
  subst hty
  obtain ⟨w0, vm0, k0, locs, Y, hS, hk0, hZ, hown, hFr, H⟩ := W
  obtain ⟨T', h', cA, Y', e', E, A, stp⟩ := newP Y w0.1 hZ w rfl (g := mkF X.m pc Ls (.int z :: st)) rfl (by rw [w0.2.1]; exact hd) rfl hz (cap := len) (Nat.le_of_eq hl) hb hk hn
  subst e' hp
  have hfd : ∀ v ∈ List.replicate len (defaultValue (newarray.typeOf aty)), fits (newarray.typeOf aty) v = true := fun v hv => by rw [(List.mem_replicate.mp hv).2]; exact fits_default _
  exact Go.by stp (r T' T.heap.size _ ⟨w0, vm0, k0, locs, Y', hS, Nat.le_trans hk0 E.1, hZ, hown, hFr, H.alloc E A.1⟩ ⟨A.2.1, A.2.2, by simp [newA, hl], hfd, by simp; omega⟩)
theorem Go.arrlen (W : Wk l Z EL R own bytes maxL ret nm X σ ρ T k n) (hm : (a, c) ∈ σ ∨ (a, c) ∈ ρ ∨ Z.heap[a]? = some c) {ty : FieldType} (A : ArrC Z c ty vs) (z : Int32) (hz : vs.length.toInt32 = z) (hd : decode bytes pc = .ok (.arraylength, 1)) (hp : pc + 1 = pc')
    (r : Go Z EL K N Q X T pc' Ls (.int z :: st)) : Go Z EL K N Q X T pc Ls (.ref a :: st) := by
  have hc := W.cell hm
  obtain ⟨w0, vm0, k0, locs, Y, hS, hk0, hZ, hown, hFr, H⟩ := W
  refine Go.by (fun t kk => Y.arraylength w0.1 (cell := c) hc (State.isArrayOf_alike hZ.alike A.1) (g := mkF X.m pc Ls (.ref a :: st)) rfl rfl (by rw [w0.2.1]; exact hd) t ?_) r
  rw [A.size, hz]; subst hp; exact kk
theorem arr_in' {ty : FieldType} (A : ArrC Z c ty vs) {j : Int32} {i : Nat} (hj : ¬ j < 0) (hi : j.toNatClampNeg = i) (hl : i < vs.length) : ¬ (j < 0 ∨ c.slots.size ≤ j.toNatClampNeg) := by
  rw [A.size, hi]; rintro (q | q)
  · exact hj q
  · omega
theorem Go.caload (W : Wk l Z EL R own bytes maxL ret nm X σ ρ T k n) (hm : (a, c) ∈ σ ∨ (a, c) ∈ ρ ∨ Z.heap[a]? = some c) (A : ArrC Z c .char vs) {j : Int32} (i : Nat) {v : Value} (hj : ¬ j < 0) (hi : j.toNatClampNeg = i) (hv : vs[i]? = some v) (hd : decode bytes pc = .ok (.caload, 1)) (hp : pc + 1 = pc')
    (r : Go Z EL K N Q X T pc' Ls (v :: st)) : Go Z EL K N Q X T pc Ls (.int j :: .ref a :: st) := by
  have hc := W.cell hm
  obtain ⟨w0, vm0, k0, locs, Y, hS, hk0, hZ, hown, hFr, H⟩ := W
  exact Go.by (fun t kk => Y.caload w0.1 hc (State.isArrayOf_alike hZ.alike A.1) A.2.1 (arr_in' A hj hi (List.getElem?_eq_some_iff.mp hv).1) (by rw [hi, A.get, hv]) (g := mkF X.m pc Ls (.int j :: .ref a :: st)) rfl rfl (by rw [w0.2.1]; exact hd) t (by subst hp; exact kk)) r
theorem Go.baload (W : Wk l Z EL R own bytes maxL ret nm X σ ρ T k n) (hm : (a, c) ∈ σ ∨ (a, c) ∈ ρ ∨ Z.heap[a]? = some c) (A : ArrC Z c .byte vs) {j : Int32} (i : Nat) {v : Value} (hj : ¬ j < 0) (hi : j.toNatClampNeg = i) (hv : vs[i]? = some v) (hd : decode bytes pc = .ok (.baload, 1)) (hp : pc + 1 = pc')
    (r : Go Z EL K N Q X T pc' Ls (v :: st)) : Go Z EL K N Q X T pc Ls (.int j :: .ref a :: st) := by
  have hc := W.cell hm
  obtain ⟨w0, vm0, k0, locs, Y, hS, hk0, hZ, hown, hFr, H⟩ := W
  exact Go.by (fun t kk => Y.baloadBytes w0.1 hc (State.isArrayOf_alike hZ.alike A.1) A.2.1 (arr_in' A hj hi (List.getElem?_eq_some_iff.mp hv).1) (by rw [hi, A.get, hv]) (g := mkF X.m pc Ls (.int j :: .ref a :: st)) rfl rfl (by rw [w0.2.1]; exact hd) t (by subst hp; exact kk)) r
theorem Go.aaload (W : Wk l Z EL R own bytes maxL ret nm X σ ρ T k n) (hm : (a, c) ∈ σ ∨ (a, c) ∈ ρ ∨ Z.heap[a]? = some c) {ty : FieldType} (A : ArrC Z c ty vs) (hty : ty.isReference = true) {j : Int32} (i : Nat) {v : Value} (hj : ¬ j < 0) (hi : j.toNatClampNeg = i) (hv : vs[i]? = some v) (hd : decode bytes pc = .ok (.aaload, 1)) (hp : pc + 1 = pc')
    (r : Go Z EL K N Q X T pc' Ls (v :: st)) : Go Z EL K N Q X T pc Ls (.int j :: .ref a :: st) := by
  have hc := W.cell hm
  obtain ⟨w0, vm0, k0, locs, Y, hS, hk0, hZ, hown, hFr, H⟩ := W
  exact Go.by (fun t kk => Y.aaload w0.1 hc (State.isArrayOf_alike hZ.alike A.1) hty A.2.1 (arr_in' A hj hi (List.getElem?_eq_some_iff.mp hv).1) (by rw [hi, A.get, hv]) (g := mkF X.m pc Ls (.int j :: .ref a :: st)) rfl rfl (by rw [w0.2.1]; exact hd) t (by subst hp; exact kk)) r
/-- the step of one write: the point behind it -/
theorem Wk.wrote (W : Wk l Z EL R own bytes maxL ret nm X σ ρ T k n) {i : Nat} (hi : σ[i]? = some (a, c)) {vm0 : Vm} {k0 : Nat} {locs : List Loc} {T' : State} {sl : Nat} {v : Value}
    (hS : X.s.Since vm0 k0) (hk0 : k0 ≤ T.heap.size) (hZ : Z.Warmed39 vm0) (hown : vm0.findClass own = some X.m.cls) (hFr : Fr Z.heap.size locs) (H : Hp Z EL X.so X.ro X.s σ ρ vm0 T.heap)
    (Y' : Stand X.p l X.e R (X.s.setVm vm0) X.m X.args X.below X.meth X.c T' (locs ++ [⟨a, sl⟩]) k n) (Wr' : Wr T.heap T'.heap a sl v) : Wk l Z EL R own bytes maxL ret nm X (σ.set i (a, c.setSlot sl v)) ρ T' k n := by
  obtain ⟨cl, h1, -, -, h4⟩ := Wr'
  have hmem : (a, c) ∈ σ := List.mem_of_getElem? hi
  cases (H.2.1 _ hmem).symm.trans h1
  exact ⟨W.1, vm0, k0, _, Y', hS, by rw [h4]; simpa using hk0, hZ, hown, hFr.app fun y hy => by cases List.mem_singleton.mp hy; exact (H.2.2.2.2.1 _ hmem).1, H.write hi h4⟩
theorem Go.castore (W : Wk l Z EL R own bytes maxL ret nm X σ ρ T k n) (ix : Nat) (hm : σ[ix]? = some (a, c)) (A : ArrC Z c .char vs) {j x : Int32} (i : Nat) (x' : Int32) (hx : nar .char x = x') (hj : ¬ j < 0) (hi : j.toNatClampNeg = i) (hl : i < vs.length) (hd : decode bytes pc = .ok (.castore, 1)) (hp : pc + 1 = pc')
    (r : ∀ (T' : State) (c' : Cell), Wk l Z EL R own bytes maxL ret nm X (σ.set ix (a, c')) ρ T' k n → ArrC Z c' .char (vs.set i (.int x')) → Go Z EL K N Q X T' pc' Ls st) : Go Z EL K N Q X T pc Ls (.int x :: .int j :: .ref a :: st) := by
  have hc := W.cell (Or.inl (List.mem_of_getElem? hm))
  have W1 := W
  obtain ⟨w0, vm0, k0, locs, Y, hS, hk0, hZ, hown, hFr, H⟩ := W
  obtain ⟨T', h', Y', e', Wr', stp⟩ := stC Y w0.1 hZ rfl (A.arr hc) (arr_in' A hj hi hl) (g := mkF X.m pc Ls (.int x :: .int j :: .ref a :: st)) rfl rfl (by rw [w0.2.1]; exact hd)
  subst e' hp hi hx
  exact Go.by stp (r T' _ (W1.wrote hm hS hk0 hZ hown hFr H Y' Wr') (A.put (fits_nar_char x)))
theorem Go.bastore (W : Wk l Z EL R own bytes maxL ret nm X σ ρ T k n) (ix : Nat) (hm : σ[ix]? = some (a, c)) (A : ArrC Z c .byte vs) {j x : Int32} (i : Nat) (hj : ¬ j < 0) (hi : j.toNatClampNeg = i) (hl : i < vs.length) (hd : decode bytes pc = .ok (.bastore, 1)) (hp : pc + 1 = pc')
    (r : ∀ (T' : State) (c' : Cell), Wk l Z EL R own bytes maxL ret nm X (σ.set ix (a, c')) ρ T' k n → ArrC Z c' .byte (vs.set i (.int x.toInt8.toInt32)) → Go Z EL K N Q X T' pc' Ls st) : Go Z EL K N Q X T pc Ls (.int x :: .int j :: .ref a :: st) := by
  have hc := W.cell (Or.inl (List.mem_of_getElem? hm))
  have W1 := W
  obtain ⟨w0, vm0, k0, locs, Y, hS, hk0, hZ, hown, hFr, H⟩ := W
  obtain ⟨T', h', Y', e', Wr', stp⟩ := stB Y w0.1 hZ rfl (A.arr hc) (arr_in' A hj hi hl) (g := mkF X.m pc Ls (.int x :: .int j :: .ref a :: st)) rfl rfl (by rw [w0.2.1]; exact hd)
  subst e' hp hi
  exact Go.by stp (r T' _ (W1.wrote hm hS hk0 hZ hown hFr H Y' Wr') (A.put (fits_nar_byte x)))
theorem Go.aastore (W : Wk l Z EL R own bytes maxL ret nm X σ ρ T k n) (ix : Nat) (hm : σ[ix]? = some (a, c)) {ty : FieldType} (A : ArrC Z c ty vs) (hty : ty.isReference = true) {j : Int32} {v : Value} (i : Nat) (hj : ¬ j < 0) (hi : j.toNatClampNeg = i) (hl : i < vs.length) (hf : fits ty v = true) (F : Sto Z T.heap a v) (hd : decode bytes pc = .ok (.aastore, 1)) (hp : pc + 1 = pc')
    (r : ∀ (T' : State) (c' : Cell), Wk l Z EL R own bytes maxL ret nm X (σ.set ix (a, c')) ρ T' k n → ArrC Z c' ty (vs.set i v) → c'.cls = c.cls → Go Z EL K N Q X T' pc' Ls st) : Go Z EL K N Q X T pc Ls (v :: .int j :: .ref a :: st) := by
  have hc := W.cell (Or.inl (List.mem_of_getElem? hm))
  have W1 := W
  obtain ⟨w0, vm0, k0, locs, Y, hS, hk0, hZ, hown, hFr, H⟩ := W
  obtain ⟨T', h', Y', e', Wr', stp⟩ := stR Y w0.1 hZ rfl (A.arr hc) (arr_in' A hj hi hl) hty F (g := mkF X.m pc Ls (v :: .int j :: .ref a :: st)) rfl rfl (by rw [w0.2.1]; exact hd)
  subst e' hp hi
  exact Go.by stp (r T' _ (W1.wrote hm hS hk0 hZ hown hFr H Y' Wr') (A.put hf) rfl)
/-- a step that changes nothing of the heap -/
theorem Wk.same {vm0 : Vm} {k0 : Nat} {locs : List Loc} {T' : State} (W : Wk l Z EL R own bytes maxL ret nm X σ ρ T k n)
    (hS : X.s.Since vm0 k0) (hk0 : k0 ≤ T.heap.size) (hZ : Z.Warmed39 vm0) (hown : vm0.findClass own = some X.m.cls) (hFr : Fr Z.heap.size locs) (H : Hp Z EL X.so X.ro X.s σ ρ vm0 T.heap)
    (Y' : Stand X.p l X.e R (X.s.setVm vm0) X.m X.args X.below X.meth X.c T' locs k n) (e : T'.heap = T.heap) : Wk l Z EL R own bytes maxL ret nm X σ ρ T' k n :=
  ⟨W.1, vm0, k0, locs, Y', hS, by rw [e]; exact hk0, hZ, hown, hFr, by rw [e]; exact H⟩
theorem Go.getfield (W : Wk l Z EL R own bytes maxL ret nm X σ ρ T k n) (hm : (a, c) ∈ σ ∨ (a, c) ∈ ρ ∨ Z.heap[a]? = some c) {R0 O nF d : String} {ix : Nat} {v : Value} (w : (Jvm.Cond.fieldLink own ix R0 nF d).before a0 Z = true) (via : Via Z R0 O nF d) (F : FldC Z c O nF d v) (hd : decode bytes pc = .ok (.getfield ix, 3)) (hp : pc + 3 = pc')
    (r : ∀ T' : State, Wk l Z EL R own bytes maxL ret nm X σ ρ T' k n → Go Z EL K N Q X T' pc' Ls (v :: st)) : Go Z EL K N Q X T pc Ls (.ref a :: st) := by
  have hc := W.cell hm
  have W1 := W
  obtain ⟨w0, vm0, k0, locs, Y, hS, hk0, hZ, hown, hFr, H⟩ := W
  obtain ⟨T', Y', e', stp⟩ := getF Y w0.1 hZ hown (host := "") (Or.inl w) via rfl (F.fld hc) (g := mkF X.m pc Ls (.ref a :: st)) rfl rfl (by rw [w0.2.1]; exact hd)
  subst hp
  exact Go.by stp (r T' (W1.same hS hk0 hZ hown hFr H Y' e'))
theorem Go.getstatic (W : Wk l Z EL R own bytes maxL ret nm X σ ρ T k n) {R0 O nF d : String} {ix : Nat} {v : Value} (w : (Jvm.Cond.fieldLink own ix R0 nF d).before a0 Z = true) (via : Via Z R0 O nF d) (F : Sta Z Z.heap O nF d v) (hd : decode bytes pc = .ok (.getstatic ix, 3)) (hp : pc + 3 = pc')
    (r : ∀ T' : State, Wk l Z EL R own bytes maxL ret nm X σ ρ T' k n → Go Z EL K N Q X T' pc' Ls (v :: st)) : Go Z EL K N Q X T pc Ls st := by
  have hE := W.ext
  have W1 := W
  obtain ⟨w0, vm0, k0, locs, Y, hS, hk0, hZ, hown, hFr, H⟩ := W
  obtain ⟨T', Y', e', stp⟩ := getS Y w0.1 hZ (host := "") hown w via rfl (F.ext hE) (g := mkF X.m pc Ls st) rfl (by rw [w0.2.1]; exact hd)
  subst hp
  exact Go.by stp (r T' (W1.same hS hk0 hZ hown hFr H Y' e'))
theorem Go.putfield (W : Wk l Z EL R own bytes maxL ret nm X σ ρ T k n) (i : Nat) (hm : σ[i]? = some (a, c)) {R0 O nF d C : String} {ix kk : Nat} {ty : FieldType} {v v' old : Value} (w : (Jvm.Cond.fieldLink own ix R0 nF d).before a0 Z = true) (via : Via Z R0 O nF d) (F : FldC Z c O nF d old) (E : ObjC Z c C)
    (L : (Jvm.Cond.lays C O nF d).before a0 Z = true ∨ ((Jvm.Cond.laysFinal C O nF d).before a0 Z = true ∧ own = O ∧ nm = "<init>")) (wi : (Jvm.Cond.instantiable C kk).before a0 Z = true) (hty : parseFieldDescriptor d = some ty) (hn : narrow ty v = v') (hf : fits ty v' = true)
    (hd : decode bytes pc = .ok (.putfield ix, 3)) (hp : pc + 3 = pc')
    (r : ∀ (T' : State) (c' : Cell), c' = c.setSlot (Jvm.RoadKit.slotOf Z O nF d) v' → Wk l Z EL R own bytes maxL ret nm X (σ.set i (a, c')) ρ T' k n → Go Z EL K N Q X T' pc' Ls st) : Go Z EL K N Q X T pc Ls (v :: .ref a :: st) := by
  have hc := W.cell (Or.inl (List.mem_of_getElem? hm))
  have W1 := W
  obtain ⟨w0, vm0, k0, locs, Y, hS, hk0, hZ, hown, hFr, H⟩ := W
  obtain ⟨T', h', Y', e', Wr', stp⟩ := putFN Y w0.1 hZ hown w via rfl (F.fld hc) (E.exa hc) (L.imp id fun q => ⟨q.1, q.2.1, by rw [w0.2.2.2.2.2.1]; exact q.2.2⟩) wi hty hn hf (g := mkF X.m pc Ls (v :: .ref a :: st)) rfl rfl (by rw [w0.2.1]; exact hd)
  subst e' hp
  exact Go.by stp (r T' _ rfl (W1.wrote hm hS hk0 hZ hown hFr H Y' Wr'))
theorem Go.objInit (W : Wk l Z EL R own bytes maxL ret nm X σ ρ T k n) {ix : Nat} (w1 : (Jvm.Cond.methodLink own ix Lib.objectInit).before a0 Z = true) (w2 : (Jvm.Cond.instanceMethod Lib.objectInit).before a0 Z = true) (w3 : (Jvm.Cond.code Lib.objectInit ⟨#[0xb1]⟩ 1 none).before a0 Z = true) (hLs : Ls.size = maxL)
    (hd : decode bytes pc = .ok (.invokespecial ix, 3)) (hp : pc + 3 = pc') (hf : 1 ≤ R.frames) (hl : (st.map fun v => v.category).sum + 12 ≤ R.locals)
    (r : ∀ T' : State, Wk l Z EL R own bytes maxL ret nm X σ ρ T' k n → Go Z EL K N Q X T' pc' Ls st) : Go Z EL K N Q X T pc Ls (.ref a :: st) := by
  have W1 := W
  obtain ⟨w0, vm0, k0, locs, Y, hS, hk0, hZ, hown, hFr, H⟩ := W
  obtain ⟨T', Y', e', stp⟩ := initO Y w0.1 hZ hown w1 w2 w3 rfl (g := mkF X.m pc Ls (.ref a :: st)) rfl (by show Ls.size = _; rw [hLs, w0.2.2.1]) rfl (by rw [w0.2.1]; exact hd) hf (W := (st.map fun v => v.category).sum) (by show 2 * 0 + _ ≤ _; omega) hl
  subst hp
  exact Go.by stp (r T' (W1.same hS hk0 hZ hown hFr H Y' e'))
theorem Go.ldcInt (W : Wk l Z EL R own bytes maxL ret nm X σ ρ T k n) {ix : Nat} {v : Int32} (w : (Jvm.Cond.constant own ix v).before a0 Z = true) (hd : decode bytes pc = .ok (.ldc ix, 2)) (hp : pc + 2 = pc') (r : Go Z EL K N Q X T pc' Ls (.int v :: st)) : Go Z EL K N Q X T pc Ls st := by
  obtain ⟨w0, vm0, k0, locs, Y, hS, hk0, hZ, hown, hFr, H⟩ := W
  exact Go.by (fun t kk => Y.ldcI w0.1 hown (mvT hZ w) (g := mkF X.m pc Ls st) rfl (by rw [w0.2.1]; exact hd) (by subst hp; exact kk)) r
theorem Go.ldcwInt (W : Wk l Z EL R own bytes maxL ret nm X σ ρ T k n) {ix : Nat} {v : Int32} (w : (Jvm.Cond.constant own ix v).before a0 Z = true) (hd : decode bytes pc = .ok (.ldc_w ix, 3)) (hp : pc + 3 = pc') (r : Go Z EL K N Q X T pc' Ls (.int v :: st)) : Go Z EL K N Q X T pc Ls st := by
  obtain ⟨w0, vm0, k0, locs, Y, hS, hk0, hZ, hown, hFr, H⟩ := W
  exact Go.by (fun t kk => Y.ldcWI w0.1 hown (mvT hZ w) (g := mkF X.m pc Ls st) rfl (by rw [w0.2.1]; exact hd) (by subst hp; exact kk)) r
theorem Go.ldc2 (W : Wk l Z EL R own bytes maxL ret nm X σ ρ T k n) {ix : Nat} {v : Int64} (w : (Jvm.Cond.constantLong own ix v).before a0 Z = true) (hd : decode bytes pc = .ok (.ldc2_w ix, 3)) (hp : pc + 3 = pc') (r : Go Z EL K N Q X T pc' Ls (.long v :: st)) : Go Z EL K N Q X T pc Ls st := by
  obtain ⟨w0, vm0, k0, locs, Y, hS, hk0, hZ, hown, hFr, H⟩ := W
  exact Go.by (fun t kk => Y.ldc2J w0.1 hown (mvT hZ w) (g := mkF X.m pc Ls st) rfl (by rw [w0.2.1]; exact hd) (by subst hp; exact kk)) r
/-- a literal that may be made: what it holds -/
theorem Go.ldcStr (W : Wk l Z EL R own bytes maxL ret nm X σ ρ T k n) (hEL : EW Z a0 EL) {text : String} {ix : Nat} (w : (Jvm.Cond.stringLink own ix text).before a0 Z = true) (wS : ∀ d ∈ Bundle.stringAtoms, d.before a0 Z = true) (hmem : (own, ix) ∈ EL)
    {bs : List Value} {z : Int32} (ht : (∀ c ∈ text.toList, c.toNat < 256) ∧ text.toList.map (fun c => Value.int (Jvm.Lit.byteI c.toNat.toUInt16)) = bs) (hz : ¬ z < 0) (hl : z.toNatClampNeg = bs.length) (hbl : bs.length < 2147483648)
    (hd : decode bytes pc = .ok (.ldc ix, 2)) (hp : pc + 2 = pc') {m : Nat} (hm : 4 * text.toList.length ≤ m) (hbig : m ≤ 536870912) (hk : k + 2 ≤ R.cells) (hn : n + (m + 4) ≤ R.slots)
    (r : ∀ (T' : State) (a b : Addr) (c cb : Cell), Wk l Z EL R own bytes maxL ret nm X σ ((a, c) :: (b, cb) :: ρ) T' (k + 2) (n + (m + 4)) → ObjC Z c "java/lang/String" → FldC Z c "java/lang/String" "coder" "B" (.int 0) → FldC Z c "java/lang/String" "value" "[B" (.ref b) → ArrC Z cb .byte bs → Go Z EL K N Q X T' pc' Ls (.ref a :: st)) :
    Go Z EL K N Q X T pc Ls st := by
  obtain ⟨w0, vm0, k0, locs, Y, hS, hk0, hZ, hown, hFr, H⟩ := W
  obtain ⟨a, T', h', k1, b, kc, Y', e', E, hS', hk1, hZ', hown', A1, F1, F2, V1, la, lb, C, -, hne, stp⟩ := ldcCH Y w0.1 hZ hown w wS rfl hS hk0 hEL hmem H.1.1 ht hz hl (g := mkF X.m pc Ls st) rfl (by rw [w0.2.1]; exact hd) hm hbig hk hn
  subst e' hp
  obtain ⟨cb, Ab, -, sz, -, hh, hfit⟩ := V1
  have hcb : T'.heap[b]? = some cb := Ab.1
  obtain ⟨c, hc⟩ : ∃ c, T'.heap[a]? = some c := by obtain ⟨c, _, q, -⟩ := A1; exact ⟨c, q⟩
  have H2 := ((H.later C E).lit hcb fun x q => (hne x q).2).lit hc fun x q => (hne x q).1
  have hlen : cb.slots.size = bs.length := by rw [sz, hl]
  have hsl : cb.slots.toList = bs := by
    apply List.ext_getElem?
    intro i
    by_cases q : i < bs.length
    · have := hh i (by omega)
      rw [Array.getElem?_toList, this, List.getD_eq_getElem?_getD, List.getElem?_eq_getElem q]; rfl
    · rw [Array.getElem?_toList, Array.getElem?_eq_none (by omega), List.getElem?_eq_none (by omega)]
  refine Go.by stp (r T' a b c cb ⟨w0, T'.vm, k1, locs, Y', hS', hk1, hZ', hown', hFr, H2⟩ (ObjC.of A1 hc) (FldC.of F1 hc) (FldC.of F2 hc) ⟨Ab.2.1, Ab.2.2, hsl, fun v hv => ?_, hbl⟩)
  obtain ⟨i, hi⟩ := List.mem_iff_getElem?.mp hv
  have hlt := (List.getElem?_eq_some_iff.mp hi).1
  have q := hfit i (by omega)
  rw [List.getD_eq_getElem?_getD, hi] at q
  exact q
end HeapLaws
/-! ## own: calls and returns in the Go form -/
section CallLaws
variable {l : Launch} {Z : State} {a0 : Array Value} {EL : List (String × Nat)} {R : Room} {own : String} {bytes : ByteArray} {maxL : Nat} {ret : Option FieldType} {nm : String} {X : Ctx} {σ ρ : HL} {T : State} {k n K N : Nat} {Q Q' : Option Value → HL → HL → Prop} {pc pc' : Nat} {Ls : Array Slot} {st rest : List Value} {a : Addr} {c : Cell}
  {y y' : MethodName} {by' : ByteArray} {mL : Nat} {rt : Option FieldType} {rm : Room} {as' : Array Value} {σi σf ρi : HL}
/-- the point behind a call -/
theorem Wk.called (W : Wk l Z EL R own bytes maxL ret nm X σ ρ T k n) {vm0 : Vm} {k0 : Nat} {locs L : List Loc} (hS : X.s.Since vm0 k0) (hk0 : k0 ≤ T.heap.size) (hZ : Z.Warmed39 vm0) (hown : vm0.findClass own = some X.m.cls) (hFr : Fr Z.heap.size locs) (B : Pt) {σ' ρ' : HL}
    (Y' : Stand X.p l X.e R ((X.s.setVm vm0).setVm B.U.vm) X.m X.args X.below X.meth X.c B.U B.locs B.cells B.slots) (hS2 : (X.s.setVm vm0).Since B.U.vm B.U.heap.size) (g : T.heap.size ≤ B.U.heap.size) (hL : Fr Z.heap.size L) (H : Hp Z EL X.so X.ro X.s σ' ρ' B.U.vm B.U.heap)
    (e1 : B.locs = locs ++ L) (e2 : B.cells = k + rm.cells) (e3 : B.slots = n + rm.slots) : Wk l Z EL R own bytes maxL ret nm X σ' ρ' B.U (k + rm.cells) (n + rm.slots) := by
  obtain ⟨U, Lo, c1, s1⟩ := B
  dsimp only [Pt.U, Pt.locs, Pt.cells, Pt.slots] at *
  subst e1 e2 e3
  exact ⟨W.1, U.vm, U.heap.size, _, Y', hS.trans hS2 (Nat.le_trans hk0 g), Nat.le_refl _, State.Warmed39.trans (t := X.s.setVm vm0) hZ hS2.1, by rw [hS2.1.alike.findClass]; exact hown, hFr.app hL, H⟩
theorem Go.static (W : Wk l Z EL R own bytes maxL ret nm X σ ρ T k n) {ix : Nat} (M : Met l Z EL y by' mL rt rm as' σi ρi Q') (w1 : (Jvm.Cond.methodLink own ix y).before a0 Z = true) (w2 : (Jvm.Cond.static y).before a0 Z = true) (w3 : (Jvm.Cond.initialized y.cls).before a0 Z = true) (w4 : (Jvm.Cond.code y by' mL rt).before a0 Z = true)
    (hy : y.cls ≠ "java/lang/invoke/MethodHandle" ∧ y.cls ≠ "java/lang/invoke/VarHandle") (is js : List Nat) (hσ : pick is σ = some (σi, σf)) (hρ : roOf js ρ ρi) (argsL : List Value) (rest : List Value) (has : argsL.toArray = as') (hlen : ∀ sig, parseMethodDescriptor y.desc = some sig → argsL.length = sig.parameters.length) (hst : st = argsL.reverse ++ rest)
    (hLs : Ls.size = maxL) (hd : decode bytes pc = .ok (.invokestatic ix, 3)) (hp : pc + 3 = pc') (hf : rm.frames + 1 ≤ R.frames) (hl : (rest.map fun v => v.category).sum + (mL + 11) + rm.locals ≤ R.locals) (hk : k + rm.cells ≤ R.cells) (hn : n + rm.slots ≤ R.slots)
    (r : ∀ (v : Option Value) (σ' ρ' : HL) (T' : State), Q' v σ' ρ' → Wk l Z EL R own bytes maxL ret nm X (σ' ++ σf) (ρ' ++ ρ) T' (k + rm.cells) (n + rm.slots) → Go Z EL K N Q X T' pc' Ls (v.toList ++ rest)) : Go Z EL K N Q X T pc Ls st := by
  have W1 := W
  obtain ⟨w0, vm0, k0, locs, Y, hS, hk0, hZ, hown, hFr, H⟩ := W
  obtain ⟨ae, hEL⟩ := w0.2.2.2.2.2.2
  subst has hst
  have B1 := M.back (R := R) (p := X.p) (e := X.e) (below := X.below) (args := X.args) (len := 3) (W := (rest.map fun v => v.category).sum) hZ w4 w3 hf hl hEL (H.perm (pick_perm _ _ _ _ hσ)) hρ.mem
  obtain ⟨v, vm1, B, -, Y', hS2, g, ⟨σ', ρ', L, q, hL, H', e1, e2, e3⟩, stp⟩ := callSS Y w0.1 hown (mvT hZ w1) (mvT hZ w2) (mvT hZ w3) (mvT hZ w4) hy B1 (g := mkF X.m pc Ls (argsL.reverse ++ rest)) rfl (by show Ls.size = _; rw [hLs, w0.2.2.1]) (argsL := argsL) (rest := rest) hlen rfl (by show 2 * 0 + _ ≤ _; omega) (by rw [w0.2.1]; exact hd) (fun _ _ => ⟨rfl, rfl, hk, hn⟩)
  subst hp
  exact Go.by (fun t kk => stp.trans kk) (r v σ' ρ' B.U q (W1.called hS hk0 hZ hown hFr B Y' hS2 g hL H' e1 e2 e3))
theorem Go.special (W : Wk l Z EL R own bytes maxL ret nm X σ ρ T k n) {ix : Nat} (M : Met l Z EL y by' mL none rm as' σi ρi Q') (hy1 : y.name = "<init>") (w1 : (Jvm.Cond.methodLink own ix y).before a0 Z = true) (w2 : (Jvm.Cond.instanceMethod y).before a0 Z = true) (w3 : (Jvm.Cond.initialized y.cls).before a0 Z = true) (w4 : (Jvm.Cond.code y by' mL none).before a0 Z = true)
    (hy : y.cls ≠ "java/lang/invoke/MethodHandle" ∧ y.cls ≠ "java/lang/invoke/VarHandle") (is js : List Nat) (hσ : pick is σ = some (σi, σf)) (hρ : roOf js ρ ρi) (argsL : List Value) (rest : List Value) (has : (.ref a :: argsL).toArray = as') (hlen : ∀ sig, parseMethodDescriptor y.desc = some sig → argsL.length = sig.parameters.length) (hst : st = argsL.reverse ++ .ref a :: rest)
    (hLs : Ls.size = maxL) (hd : decode bytes pc = .ok (.invokespecial ix, 3)) (hp : pc + 3 = pc') (hf : rm.frames + 1 ≤ R.frames) (hl : (rest.map fun v => v.category).sum + (mL + 11) + rm.locals ≤ R.locals) (hk : k + rm.cells ≤ R.cells) (hn : n + rm.slots ≤ R.slots)
    (r : ∀ (v : Option Value) (σ' ρ' : HL) (T' : State), Q' v σ' ρ' → Wk l Z EL R own bytes maxL ret nm X (σ' ++ σf) (ρ' ++ ρ) T' (k + rm.cells) (n + rm.slots) → Go Z EL K N Q X T' pc' Ls (v.toList ++ rest)) : Go Z EL K N Q X T pc Ls st := by
  have W1 := W
  obtain ⟨w0, vm0, k0, locs, Y, hS, hk0, hZ, hown, hFr, H⟩ := W
  obtain ⟨ae, hEL⟩ := w0.2.2.2.2.2.2
  subst has hst
  have B1 := M.back (R := R) (p := X.p) (e := X.e) (below := X.below) (args := X.args) (len := 3) (W := (rest.map fun v => v.category).sum) hZ w4 w3 hf hl hEL (H.perm (pick_perm _ _ _ _ hσ)) hρ.mem
  obtain ⟨v, vm1, B, -, Y', hS2, g, ⟨σ', ρ', L, q, hL, H', e1, e2, e3⟩, stp⟩ := Y.specialBackS w0.1 hy1 hown (mvT hZ w1) (mvT hZ w2) (mvT hZ w4) hy B1 (g := mkF X.m pc Ls (argsL.reverse ++ .ref a :: rest)) rfl (by show Ls.size = _; rw [hLs, w0.2.2.1]) (Steps.refl _) (a := a) (argsL := argsL) (rest := rest) hlen rfl (by show 2 * 0 + _ ≤ _; omega) (by rw [w0.2.1]; exact hd) (fun _ _ => ⟨rfl, rfl, hk, hn⟩)
  subst hp
  exact Go.by (fun t kk => stp.trans kk) (r v σ' ρ' B.U q (W1.called hS hk0 hZ hown hFr B Y' hS2 g hL H' e1 e2 e3))
theorem Go.virtual (W : Wk l Z EL R own bytes maxL ret nm X σ ρ T k n) {ix : Nat} {C : String} (M : Met l Z EL y by' mL rt rm as' σi ρi Q') (hm : (a, c) ∈ σ ∨ (a, c) ∈ ρ ∨ Z.heap[a]? = some c) (O : ObjC Z c C) (w1 : (Jvm.Cond.methodLink own ix y).before a0 Z = true) (wd : (Jvm.Cond.declares y).before a0 Z = true) (ws : (Jvm.Cond.selects C y y).before a0 Z = true) (w2 : (Jvm.Cond.instanceMethod y).before a0 Z = true) (w3 : (Jvm.Cond.initialized y.cls).before a0 Z = true) (w4 : (Jvm.Cond.code y by' mL rt).before a0 Z = true)
    (hy : y.cls ≠ "java/lang/invoke/MethodHandle" ∧ y.cls ≠ "java/lang/invoke/VarHandle") (is js : List Nat) (hσ : pick is σ = some (σi, σf)) (hρ : roOf js ρ ρi) (argsL : List Value) (rest : List Value) (has : (.ref a :: argsL).toArray = as') (hlen : ∀ sig, parseMethodDescriptor y.desc = some sig → argsL.length = sig.parameters.length) (hst : st = argsL.reverse ++ .ref a :: rest)
    (hLs : Ls.size = maxL) (hd : decode bytes pc = .ok (.invokevirtual ix, 3)) (hp : pc + 3 = pc') (hf : rm.frames + 1 ≤ R.frames) (hl : (rest.map fun v => v.category).sum + (mL + 11) + rm.locals ≤ R.locals) (hk : k + rm.cells ≤ R.cells) (hn : n + rm.slots ≤ R.slots)
    (r : ∀ (v : Option Value) (σ' ρ' : HL) (T' : State), Q' v σ' ρ' → Wk l Z EL R own bytes maxL ret nm X (σ' ++ σf) (ρ' ++ ρ) T' (k + rm.cells) (n + rm.slots) → Go Z EL K N Q X T' pc' Ls (v.toList ++ rest)) : Go Z EL K N Q X T pc Ls st := by
  have W1 := W
  have hc := W.cell hm
  obtain ⟨w0, vm0, k0, locs, Y, hS, hk0, hZ, hown, hFr, H⟩ := W
  obtain ⟨ae, hEL⟩ := w0.2.2.2.2.2.2
  subst has hst
  have B1 := M.back (R := R) (p := X.p) (e := X.e) (below := X.below) (args := X.args) (len := 3) (W := (rest.map fun v => v.category).sum) hZ w4 w3 hf hl hEL (H.perm (pick_perm _ _ _ _ hσ)) hρ.mem
  obtain ⟨cq, kq, qa, qb, qc⟩ := isOf (s := X.s.setVm vm0) hZ rfl (O.exa hc)
  obtain ⟨v, vm1, B, -, Y', hS2, g, ⟨σ', ρ', L, q, hL, H', e1, e2, e3⟩, stp⟩ := Y.virtualBackS w0.1 hown (mvT hZ w1) (mvT hZ wd) (notFace_of_selects (args := #[]) (mvT hZ ws)) (mvT hZ ws) (mvT hZ w2) hy B1 qa qc (g := mkF X.m pc Ls (argsL.reverse ++ .ref a :: rest)) rfl (by show Ls.size = _; rw [hLs, w0.2.2.1]) (Steps.refl _) (argsL := argsL) (rest := rest) hlen rfl (by show 2 * 0 + _ ≤ _; omega) (by rw [w0.2.1]; exact hd) (fun _ _ => ⟨rfl, rfl, hk, hn⟩)
  subst hp
  exact Go.by (fun t kk => stp.trans kk) (r v σ' ρ' B.U q (W1.called hS hk0 hZ hown hFr B Y' hS2 g hL H' e1 e2 e3))
/-! returns -/
theorem Go.leave (W : Wk l Z EL R own bytes maxL ret nm X σ ρ T k n) (v : Option Value) (hv : ret = none → v = none) (hk : k ≤ K) (hn : n ≤ N) (q : Q v σ ρ)
    (hstep : ∀ (fs : List Frame) (vm0 : Vm) (locs : List Loc), Stand X.p l X.e R (X.s.setVm vm0) X.m X.args X.below X.meth X.c T locs K N → (∀ (f : JFrame) (acts : List Action), f.method = X.m → f.locked = none → f.entered = [] → (doReturn X.e (T.setTop f) acts v).1 = T.setFrames fs) → Steps X.p.tables X.e X.below (T.setTop (mkF X.m pc Ls st)) (T.setFrames fs)) :
    Go Z EL K N Q X T pc Ls st := by
  obtain ⟨w0, vm0, k0, locs, Y, hS, hk0, hZ, hown, hFr, H⟩ := W
  obtain ⟨ae, hEL⟩ := w0.2.2.2.2.2.2
  have Y2 := Y.more hk hn
  obtain ⟨fs, h1, h2, h3, h4⟩ := Y2.leaveW hS hk0 (v := v) (fun h => hv (by rw [← w0.2.2.2.1]; exact h)) w0.2.2.2.2.1
  have H2 : Hp Z EL X.so X.ro X.s σ ρ T.vm T.heap := H.later (CHv.at Y hZ hEL H.1.1) ⟨Nat.le_refl _, fun _ _ z => z⟩
  exact ⟨T.setFrames fs, _, hstep fs vm0 locs Y2 h1, h2, h3, v, σ, ρ, locs, rfl, q, hFr, H2, h4⟩
theorem Go.retV (W : Wk l Z EL R own bytes maxL none nm X σ ρ T k n) (hd : decode bytes pc = .ok (.return_, 1)) (hk : k ≤ K) (hn : n ≤ N) (q : Q none σ ρ) : Go Z EL K N Q X T pc Ls [] := by
  refine Go.leave W none (fun _ => rfl) hk hn q fun fs vm0 locs Y h => ?_
  exact Y.returnOut W.hx W.1.2.2.2.1 (W.hb hd) h
theorem Go.iret (W : Wk l Z EL R own bytes maxL (some .int) nm X σ ρ T k n) {z : Int32} (hd : decode bytes pc = .ok (.ireturn, 1)) (hk : k ≤ K) (hn : n ≤ N) (q : Q (some (.int z)) σ ρ) : Go Z EL K N Q X T pc Ls (.int z :: st) := by
  refine Go.leave W (some (.int z)) (fun h => nomatch h) hk hn q fun fs vm0 locs Y h => ?_
  exact retOut Y W.hx W.1.2.2.2.1 rfl (Or.inl ⟨rfl, Or.inl rfl, z, rfl⟩) (W.hb hd) h
theorem Go.nret (W : Wk l Z EL R own bytes maxL (some t) nm X σ ρ T k n) {z z' : Int32} (ht : t = .boolean ∨ t = .byte ∨ t = .char ∨ t = .short) (hz : nar t z = z') (hd : decode bytes pc = .ok (.ireturn, 1)) (hk : k ≤ K) (hn : n ≤ N) (q : Q (some (.int z')) σ ρ) : Go Z EL K N Q X T pc Ls (.int z :: st) := by
  subst hz
  refine Go.leave W (some (.int (nar t z))) (fun h => nomatch h) hk hn q fun fs vm0 locs Y h => ?_
  exact retN Y W.hx W.1.2.2.2.1 ht (W.hb hd) h
theorem Go.lret (W : Wk l Z EL R own bytes maxL (some .long) nm X σ ρ T k n) {z : Int64} (hd : decode bytes pc = .ok (.lreturn, 1)) (hk : k ≤ K) (hn : n ≤ N) (q : Q (some (.long z)) σ ρ) : Go Z EL K N Q X T pc Ls (.long z :: st) := by
  refine Go.leave W (some (.long z)) (fun h => nomatch h) hk hn q fun fs vm0 locs Y h => ?_
  exact retOut Y W.hx W.1.2.2.2.1 rfl (Or.inr (Or.inl ⟨rfl, rfl, z, rfl⟩)) (W.hb hd) h
theorem narrow_ref {t : FieldType} (ht : t.isReference = true) (w : Value) : narrow t w = w := by cases t <;> first | (cases ht; done) | rfl
theorem Go.aret (W : Wk l Z EL R own bytes maxL (some t) nm X σ ρ T k n) {w : Value} (hw : w.isRef = true) (ht : t.isReference = true) (hd : decode bytes pc = .ok (.areturn, 1)) (hk : k ≤ K) (hn : n ≤ N) (q : Q (some w) σ ρ) : Go Z EL K N Q X T pc Ls (w :: st) := by
  refine Go.leave W (some w) (fun h => nomatch h) hk hn q fun fs vm0 locs Y h => ?_
  exact retOut Y W.hx W.1.2.2.2.1 (narrow_ref ht w) (Or.inr (Or.inr (Or.inr (Or.inr ⟨rfl, ht, hw⟩)))) (W.hb hd) h
end CallLaws
/-! ## own: numbers and lists for the loops over arrays -/
theorem i32_toInt {i : Nat} (hi : i < 2147483648) : i.toInt32.toInt = (i : Int) := by
  rw [show i.toInt32 = Int32.ofNat i from rfl, Int32.toInt_ofNat_of_lt (by omega)]
theorem i32_lt {i n : Nat} (hi : i < 2147483648) (hn : n < 2147483648) : i.toInt32 < n.toInt32 ↔ i < n := by
  rw [Int32.lt_iff_toInt_lt, i32_toInt hi, i32_toInt hn]; omega
theorem i32_nn {i : Nat} (hi : i < 2147483648) : ¬ i.toInt32 < 0 := by
  rw [Int32.lt_iff_toInt_lt, i32_toInt hi]
  have : (0 : Int32).toInt = 0 := by decide
  omega
theorem i32_clamp {i : Nat} (hi : i < 2147483648) : i.toInt32.toNatClampNeg = i := by
  have h := nat_of (i32_nn hi)
  rw [i32_toInt hi] at h
  omega
theorem i32_succ {i : Nat} (hi : i + 1 < 2147483648) : i.toInt32 + 1 = (i + 1).toInt32 := by
  apply Int32.toInt_inj.mp
  have h := c_iadd i.toInt32 1
  rw [i32_toInt (by omega)] at h
  rw [i32_toInt hi]
  have h1 : (1 : Int32).toInt = 1 := by decide
  rw [h1] at h
  have r := rng32 (i.toInt32 + 1)
  omega
theorem i32_inj {i n : Nat} (hi : i < 2147483648) (hn : n < 2147483648) : i.toInt32 = n.toInt32 ↔ i = n := by
  constructor
  · intro h
    have := congrArg Int32.toInt h
    rw [i32_toInt hi, i32_toInt hn] at this
    omega
  · intro h; rw [h]
/-- a char's low byte, as a byte[] holds it -/
abbrev lo8 (x : Int32) : Value := .int x.toInt8.toInt32
abbrev latB (cs : List Int32) : List Value := cs.map lo8
abbrev chV (cs : List Int32) : List Value := cs.map Value.int
/-- each is a Latin-1 char -/
def Lat (cs : List Int32) : Prop := ∀ x ∈ cs, ¬ x < 0 ∧ ¬ (255 : Int32) < x
theorem Lat.nil : Lat [] := fun _ h => nomatch h
theorem Lat.cons {x : Int32} {cs : List Int32} (h : ¬ x < 0 ∧ ¬ (255 : Int32) < x) (r : Lat cs) : Lat (x :: cs) := fun y hy => by
  rcases List.mem_cons.mp hy with rfl | hy
  · exact h
  · exact r y hy
/-- a Latin-1 String's two cells -/
def StrL (Z : State) (c : Cell) (b : Addr) (cb : Cell) (cs : List Int32) : Prop :=
  ObjC Z c "java/lang/String" ∧ FldC Z c "java/lang/String" "coder" "B" (.int 0) ∧ FldC Z c "java/lang/String" "value" "[B" (.ref b) ∧ ArrC Z cb .byte (latB cs) ∧ Lat cs
theorem take_succ' {α : Type} {l : List α} {i : Nat} {x : α} (h : l[i]? = some x) : l.take (i + 1) = l.take i ++ [x] := by
  rw [List.take_add_one, h]; rfl
theorem set_next {cs : List Int32} {i j : Nat} {x : Int32} (hx : cs[i]? = some x) : (latB (cs.take i) ++ List.replicate (j + 1) (.int 0 : Value)).set i (lo8 x) = latB (cs.take (i + 1)) ++ List.replicate j (.int 0) := by
  have hi : i < cs.length := (List.getElem?_eq_some_iff.mp hx).1
  have hl : (latB (cs.take i)).length = i := by simp; omega
  rw [List.set_append_right _ _ (by omega), hl, Nat.sub_self, List.replicate_succ, List.set_cons_zero, take_succ' hx]
  simp [latB]
theorem and255 (x : Int32) : ¬ (x &&& 255) < 0 ∧ ¬ (255 : Int32) < (x &&& 255) := by
  have h := c_and x 255 (by decide)
  have h0 : (0 : Int32).toInt = 0 := by decide
  have h1 : (255 : Int32).toInt = 255 := by decide
  rw [Int32.lt_iff_toInt_lt, Int32.lt_iff_toInt_lt, h0]
  rw [h1] at h ⊢
  omega
/-- a char stays a char -/
theorem i2c_id {x : Int32} (h0 : ¬ x < 0) (h1 : ¬ (65535 : Int32) < x) : x.toUInt32.toUInt16.toUInt32.toInt32 = x := by
  apply Int32.toInt_inj.mp
  have h := c_i2c x
  rw [Int32.lt_iff_toInt_lt] at h0 h1
  have e0 : (0 : Int32).toInt = 0 := by decide
  have e1 : (65535 : Int32).toInt = 65535 := by decide
  rw [e0] at h0
  rw [e1] at h1
  omega
theorem lat_char {x : Int32} (h : ¬ x < 0 ∧ ¬ (255 : Int32) < x) : ¬ x < 0 ∧ ¬ (65535 : Int32) < x := by
  obtain ⟨h0, h1⟩ := h
  refine ⟨h0, ?_⟩
  rw [Int32.lt_iff_toInt_lt] at h1 ⊢
  have e0 : (255 : Int32).toInt = 255 := by decide
  have e1 : (65535 : Int32).toInt = 65535 := by decide
  rw [e0] at h1
  rw [e1]
  omega
theorem nar_char_id {x : Int32} (h : ¬ x < 0 ∧ ¬ (65535 : Int32) < x) : nar .char x = x := i2c_id h.1 h.2
/-- a byte read back with & 255 -/
theorem byte_back {x : Int32} (h : ¬ x < 0 ∧ ¬ (255 : Int32) < x) : x.toInt8.toInt32 &&& 255 = x := by
  apply Int32.toInt_inj.mp
  rw [c_mask _ 255 8 (by decide) (by decide)]
  have hb := c_i2b x
  obtain ⟨h0, h1⟩ := h
  rw [Int32.lt_iff_toInt_lt] at h0 h1
  have e0 : (0 : Int32).toInt = 0 := by decide
  have e1 : (255 : Int32).toInt = 255 := by decide
  rw [e0] at h0
  rw [e1] at h1
  omega
theorem lo8_inj {x y : Int32} (hx : ¬ x < 0 ∧ ¬ (255 : Int32) < x) (hy : ¬ y < 0 ∧ ¬ (255 : Int32) < y) (h : x.toInt8.toInt32 = y.toInt8.toInt32) : x = y := by
  rw [← byte_back hx, ← byte_back hy, h]
theorem i8_i8 (x : Int32) : x.toInt8.toInt32.toInt8.toInt32 = x.toInt8.toInt32 := by
  apply Int32.toInt_inj.mp
  have h1 := c_i2b x
  have h2 := c_i2b x.toInt8.toInt32
  omega
theorem andchr (x m : Int32) (h0 : 0 ≤ m.toInt) (h1 : m.toInt ≤ 65535) : ¬ (x &&& m) < 0 ∧ ¬ (65535 : Int32) < (x &&& m) := by
  have h := c_and x m h0
  have e0 : (0 : Int32).toInt = 0 := by decide
  have e1 : (65535 : Int32).toInt = 65535 := by decide
  rw [Int32.lt_iff_toInt_lt, Int32.lt_iff_toInt_lt, e0, e1]
  omega
/-! ## own: casts and comparisons of references in the Go form -/
section RefLaws
variable {l : Launch} {Z : State} {a0 : Array Value} {EL : List (String × Nat)} {R : Room} {own : String} {bytes : ByteArray} {maxL : Nat} {ret : Option FieldType} {nm : String} {X : Ctx} {σ ρ : HL} {T : State} {k n K N : Nat} {Q : Option Value → HL → HL → Prop} {pc pc' : Nat} {Ls : Array Slot} {st : List Value} {a : Addr} {c : Cell}
theorem Go.instY (W : Wk l Z EL R own bytes maxL ret nm X σ ρ T k n) (hm : (a, c) ∈ σ ∨ (a, c) ∈ ρ ∨ Z.heap[a]? = some c) {C : String} {ix : Nat} (O : ObjC Z c C) (w : (Jvm.Cond.classLink own ix C).before a0 Z = true) (hd : decode bytes pc = .ok (.instanceof ix, 3)) (hp : pc + 3 = pc')
    (r : ∀ T' : State, Wk l Z EL R own bytes maxL ret nm X σ ρ T' k n → Go Z EL K N Q X T' pc' Ls (.int 1 :: st)) : Go Z EL K N Q X T pc Ls (.ref a :: st) := by
  have hc := W.cell hm
  have W1 := W
  obtain ⟨w0, vm0, k0, locs, Y, hS, hk0, hZ, hown, hFr, H⟩ := W
  obtain ⟨T', Y', e', stp⟩ := Jvm.RoadKit.instY Y w0.1 hZ hown w rfl (Ins.self (O.exa hc)) (g := mkF X.m pc Ls (.ref a :: st)) rfl rfl (by rw [w0.2.1]; exact hd)
  subst hp
  exact Go.by stp (r T' (W1.same hS hk0 hZ hown hFr H Y' e'))
theorem Go.castY (W : Wk l Z EL R own bytes maxL ret nm X σ ρ T k n) (hm : (a, c) ∈ σ ∨ (a, c) ∈ ρ ∨ Z.heap[a]? = some c) {C : String} {ix : Nat} (O : ObjC Z c C) (w : (Jvm.Cond.classLink own ix C).before a0 Z = true) (hd : decode bytes pc = .ok (.checkcast ix, 3)) (hp : pc + 3 = pc')
    (r : ∀ T' : State, Wk l Z EL R own bytes maxL ret nm X σ ρ T' k n → Go Z EL K N Q X T' pc' Ls (.ref a :: st)) : Go Z EL K N Q X T pc Ls (.ref a :: st) := by
  have hc := W.cell hm
  have W1 := W
  obtain ⟨w0, vm0, k0, locs, Y, hS, hk0, hZ, hown, hFr, H⟩ := W
  obtain ⟨T', Y', e', stp⟩ := Jvm.RoadKit.castY Y w0.1 hZ hown w rfl (Ins.self (O.exa hc)) (g := mkF X.m pc Ls (.ref a :: st)) rfl rfl (by rw [w0.2.1]; exact hd)
  subst hp
  exact Go.by stp (r T' (W1.same hS hk0 hZ hown hFr H Y' e'))
theorem Go.acmp_ne (W : Wk l Z EL R own bytes maxL ret nm X σ ρ T k n) {x y : Value} {o : Int} (pcY : Nat) (h1 : x.isRef = true) (h2 : y.isRef = true) (hd : decode bytes pc = .ok (.if_acmp .ne o, 3)) (hy : (pc : Int) + o = (pcY : Nat)) (hp : pc + 3 = pc')
    (rY : ¬ x = y → Go Z EL K N Q X T pcY Ls st) (rN : x = y → Go Z EL K N Q X T pc' Ls st) : Go Z EL K N Q X T pc Ls (y :: x :: st) := by
  obtain ⟨w0, vm0, k0, locs, Y, hS, hk0, hZ, hown, hFr, H⟩ := W
  by_cases q : x = y
  · exact Go.by (fun t kk => acmp Y w0.1 (g := mkF X.m pc Ls (y :: x :: st)) rfl h1 h2 (pc0 := pc) (pc' := pc') (same := true) rfl (by rw [w0.2.1]; exact hd) rfl (by simp [q]) (by omega) (by subst hp; rfl) kk) (rN q)
  · exact Go.by (fun t kk => acmp Y w0.1 (g := mkF X.m pc Ls (y :: x :: st)) rfl h1 h2 (pc0 := pc) (pc' := pcY) (same := false) rfl (by rw [w0.2.1]; exact hd) rfl (by simp [q]) (by omega) (by simp [acV]; omega) kk) (rY q)
theorem Go.acmp_eq (W : Wk l Z EL R own bytes maxL ret nm X σ ρ T k n) {x y : Value} {o : Int} (pcY : Nat) (h1 : x.isRef = true) (h2 : y.isRef = true) (hd : decode bytes pc = .ok (.if_acmp .eq o, 3)) (hy : (pc : Int) + o = (pcY : Nat)) (hp : pc + 3 = pc')
    (rY : x = y → Go Z EL K N Q X T pcY Ls st) (rN : ¬ x = y → Go Z EL K N Q X T pc' Ls st) : Go Z EL K N Q X T pc Ls (y :: x :: st) := by
  obtain ⟨w0, vm0, k0, locs, Y, hS, hk0, hZ, hown, hFr, H⟩ := W
  by_cases q : x = y
  · exact Go.by (fun t kk => acmp Y w0.1 (g := mkF X.m pc Ls (y :: x :: st)) rfl h1 h2 (pc0 := pc) (pc' := pcY) (same := true) rfl (by rw [w0.2.1]; exact hd) rfl (by simp [q]) (by omega) (by simp [acV]; omega) kk) (rY q)
  · exact Go.by (fun t kk => acmp Y w0.1 (g := mkF X.m pc Ls (y :: x :: st)) rfl h1 h2 (pc0 := pc) (pc' := pc') (same := false) rfl (by rw [w0.2.1]; exact hd) rfl (by simp [q]) (by omega) (by subst hp; rfl) kk) (rN q)
theorem Go.instNull (W : Wk l Z EL R own bytes maxL ret nm X σ ρ T k n) {ix : Nat} (hd : decode bytes pc = .ok (.instanceof ix, 3)) (hp : pc + 3 = pc') (r : Go Z EL K N Q X T pc' Ls (.int 0 :: st)) : Go Z EL K N Q X T pc Ls (.null :: st) := by
  obtain ⟨w0, vm0, k0, locs, Y, hS, hk0, hZ, hown, hFr, H⟩ := W
  exact Go.by (fun t kk => Y.instanceofNull w0.1 (g := mkF X.m pc Ls (.null :: st)) rfl rfl (by rw [w0.2.1]; exact hd) t (by subst hp; exact kk)) r
theorem Go.castNull (W : Wk l Z EL R own bytes maxL ret nm X σ ρ T k n) {ix : Nat} (hd : decode bytes pc = .ok (.checkcast ix, 3)) (hp : pc + 3 = pc') (r : Go Z EL K N Q X T pc' Ls (.null :: st)) : Go Z EL K N Q X T pc Ls (.null :: st) := by
  obtain ⟨w0, vm0, k0, locs, Y, hS, hk0, hZ, hown, hFr, H⟩ := W
  exact Go.by (fun t kk => Y.checkcastNull w0.1 (g := mkF X.m pc Ls (.null :: st)) rfl rfl (by rw [w0.2.1]; exact hd) t (by subst hp; exact kk)) r
end RefLaws
/-! ## own: two Strings at one address -/
theorem FldC.uniq {Z : State} {c : Cell} {C n d : String} {v w : Value} (F : FldC Z c C n d v) (F' : FldC Z c C n d w) : v = w := by
  obtain ⟨cf, k, i, f, h1, -, -, -, -, h6⟩ := F
  obtain ⟨cf', k', i', f', g1, -, -, -, -, g6⟩ := F'
  cases h1.symm.trans g1
  exact Option.some.inj (h6.symm.trans g6)
theorem latB_inj {cs ds : List Int32} (hc : Lat cs) (hd : Lat ds) (h : cs.map (fun x => x.toInt8.toInt32) = ds.map (fun x => x.toInt8.toInt32)) : cs = ds := by
  induction cs generalizing ds with
  | nil => cases ds with
    | nil => rfl
    | cons y ds => simp at h
  | cons x cs ih => cases ds with
    | nil => simp at h
    | cons y ds =>
      simp only [List.map_cons, List.cons.injEq] at h
      rw [lo8_inj (hc x (by simp)) (hd y (by simp)) h.1, ih (fun z hz => hc z (by simp [hz])) (fun z hz => hd z (by simp [hz])) h.2]
theorem latB_eq (cs : List Int32) : latB cs = chV (cs.map fun x => x.toInt8.toInt32) := by simp [latB, chV, lo8]
theorem chV_inj {xs ys : List Int32} (h : chV xs = chV ys) : xs = ys := by
  induction xs generalizing ys with
  | nil => cases ys with
    | nil => rfl
    | cons y ys => simp at h
  | cons x xs ih => cases ys with
    | nil => simp at h
    | cons y ys =>
      simp only [chV, List.map_cons, List.cons.injEq, Value.int.injEq] at h
      rw [h.1, ih h.2]
theorem StrL.uniq {Z : State} {h : Heap} {a b b' : Addr} {c c' cb cb' : Cell} {cs ds : List Int32} (S : StrL Z c b cb cs) (S' : StrL Z c' b' cb' ds) (h1 : h[a]? = some c) (h2 : h[a]? = some c') (h3 : h[b]? = some cb) (h4 : h[b']? = some cb') : cs = ds := by
  cases h1.symm.trans h2
  have e : b = b' := Value.ref.inj (S.2.2.1.uniq S'.2.2.1)
  subst e
  cases h3.symm.trans h4
  have q : latB cs = latB ds := S.2.2.2.1.2.2.1.symm.trans S'.2.2.2.1.2.2.1
  rw [latB_eq, latB_eq] at q
  exact latB_inj S.2.2.2.2 S'.2.2.2.2 (chV_inj q)

theorem len0 {Z : State} {cb : Cell} {cs : List Int32} (A : ArrC Z cb .byte (latB cs)) (h : cs.length.toInt32 = 0) : cs = [] := by
  have hn : cs.length < 2147483648 := by have := A.2.2.2.2; rwa [latB, List.length_map] at this
  have := (i32_inj hn (n := 0) (by decide)).mp h
  exact List.length_eq_zero_iff.mp this
theorem shr0 (x : Int32) : x >>> ((0 : Int32) &&& 31) = x := by
  apply Int32.toInt_inj.mp
  rw [c_ishr x 0 0 (by decide)]
  simp
abbrev EL1 : List (String × Nat) := consts_1
def Cl (Z : State) (a0 : Array Value) : Prop := (∀ d ∈ tables_1, d.before a0 Z = true) ∧ EW Z a0 EL1 ∧ (∃ cv : Int32, Sta Z Z.heap "java/lang/String" "COMPACT_STRINGS" "Z" (.int cv) ∧ ¬ cv = 0) ∧ (∃ fv : Value, Sta Z Z.heap "jdk/internal/util/Preconditions" "SIOOBE_FORMATTER" "Ljava/util/function/BiFunction;" fv ∧ fv.isRef = true) ∧ True
theorem strAtoms {Z : State} {a0 : Array Value} (G : Cl Z a0) : ∀ d ∈ Bundle.stringAtoms, d.before a0 Z = true := fun d hd => G.1 d ((by decide +kernel : ∀ d ∈ Bundle.stringAtoms, d ∈ tables_1) d hd)
theorem d_jdk_52_method_21_code_0 : decode jdk_52_method_21_code 0 = .ok (.iconst 0, 1) := by decide +kernel
theorem d_jdk_52_method_21_code_1 : decode jdk_52_method_21_code 1 = .ok (.istore 5, 2) := by decide +kernel
theorem d_jdk_52_method_21_code_3 : decode jdk_52_method_21_code 3 = .ok (.iload 5, 2) := by decide +kernel
theorem d_jdk_52_method_21_code_5 : decode jdk_52_method_21_code 5 = .ok (.iload 4, 2) := by decide +kernel
theorem d_jdk_52_method_21_code_7 : decode jdk_52_method_21_code 7 = .ok (.if_icmp .ge 37, 3) := by decide +kernel
theorem d_jdk_52_method_21_code_10 : decode jdk_52_method_21_code 10 = .ok (.aload_n 0, 1) := by decide +kernel
theorem d_jdk_52_method_21_code_11 : decode jdk_52_method_21_code 11 = .ok (.iload_n 1, 1) := by decide +kernel
theorem d_jdk_52_method_21_code_12 : decode jdk_52_method_21_code 12 = .ok (.caload, 1) := by decide +kernel
theorem d_jdk_52_method_21_code_13 : decode jdk_52_method_21_code 13 = .ok (.istore 6, 2) := by decide +kernel
theorem d_jdk_52_method_21_code_15 : decode jdk_52_method_21_code 15 = .ok (.iload 6, 2) := by decide +kernel
theorem d_jdk_52_method_21_code_17 : decode jdk_52_method_21_code 17 = .ok (.sipush 255, 3) := by decide +kernel
theorem d_jdk_52_method_21_code_20 : decode jdk_52_method_21_code 20 = .ok (.if_icmp .le 6, 3) := by decide +kernel
theorem d_jdk_52_method_21_code_23 : decode jdk_52_method_21_code 23 = .ok (.iload 5, 2) := by decide +kernel
theorem d_jdk_52_method_21_code_25 : decode jdk_52_method_21_code 25 = .ok (.ireturn, 1) := by decide +kernel
theorem d_jdk_52_method_21_code_26 : decode jdk_52_method_21_code 26 = .ok (.aload_n 2, 1) := by decide +kernel
theorem d_jdk_52_method_21_code_27 : decode jdk_52_method_21_code 27 = .ok (.iload_n 3, 1) := by decide +kernel
theorem d_jdk_52_method_21_code_28 : decode jdk_52_method_21_code 28 = .ok (.iload 6, 2) := by decide +kernel
theorem d_jdk_52_method_21_code_30 : decode jdk_52_method_21_code 30 = .ok (.i2b, 1) := by decide +kernel
theorem d_jdk_52_method_21_code_31 : decode jdk_52_method_21_code 31 = .ok (.bastore, 1) := by decide +kernel
theorem d_jdk_52_method_21_code_32 : decode jdk_52_method_21_code 32 = .ok (.iinc 1 1, 3) := by decide +kernel
theorem d_jdk_52_method_21_code_35 : decode jdk_52_method_21_code 35 = .ok (.iinc 3 1, 3) := by decide +kernel
theorem d_jdk_52_method_21_code_38 : decode jdk_52_method_21_code 38 = .ok (.iinc 5 1, 3) := by decide +kernel
theorem d_jdk_52_method_21_code_41 : decode jdk_52_method_21_code 41 = .ok (.goto (-38), 3) := by decide +kernel
theorem d_jdk_52_method_21_code_44 : decode jdk_52_method_21_code 44 = .ok (.iload 4, 2) := by decide +kernel
theorem d_jdk_52_method_21_code_46 : decode jdk_52_method_21_code 46 = .ok (.ireturn, 1) := by decide +kernel
theorem lp_cmp5 {l : Launch} {Z : State} {X : Ctx} {ac b : Addr} {cc : Cell} {cs : List Int32} (A : ArrC Z cc .char (chV cs)) (hl : Lat cs) (hn : cs.length < 2147483648) :
    ∀ (j i : Nat), i + j = cs.length → ∀ (o6 : Slot), One o6 → ∀ (T : State) (cb : Cell), Wk l Z EL1 ({ frames := 0, cells := 0, slots := 0, locals := 0 } : Room) "java/lang/StringUTF16" jdk_52_method_21_code 7 (some .int) "compress" X [(ac, cc), (b, cb)] [] T 0 0 → ArrC Z cb .byte (latB (cs.take i) ++ List.replicate j (.int 0)) →
      Go Z EL1 0 0 (fun v σ ρ => ∃ cb', v = some (.int cs.length.toInt32) ∧ σ = [(ac, cc), (b, cb')] ∧ ρ = [] ∧ ArrC Z cb' .byte (latB cs)) X T 3 #[.val (.ref ac), .val (.int i.toInt32), .val (.ref b), .val (.int i.toInt32), .val (.int cs.length.toInt32), .val (.int i.toInt32), o6] []
  | 0, i, hij, o6, ho, T, cb, W, B => by
    obtain rfl : i = cs.length := by omega
    refine Go.iload (pc' := 5) W d_jdk_52_method_21_code_3 rfl rfl ?_
    refine Go.iload (pc' := 7) W d_jdk_52_method_21_code_5 rfl rfl ?_
    refine Go.icmp_ge (pc' := 10) W 44 d_jdk_52_method_21_code_7 (by decide) rfl (fun _ => ?_) (fun q => absurd q (by rw [i32_lt hn hn]; omega))
    refine Go.iload (pc' := 46) W d_jdk_52_method_21_code_44 rfl rfl ?_
    refine Go.iret W d_jdk_52_method_21_code_46 (by decide) (by decide) ⟨cb, rfl, rfl, rfl, ?_⟩
    simpa using B
  | j + 1, i, hij, o6, ho, T, cb, W, B => by
    have hi : i < cs.length := by omega
    obtain ⟨x, hx⟩ : ∃ x, cs[i]? = some x := ⟨_, List.getElem?_eq_getElem hi⟩
    have hL := hl x (List.mem_of_getElem? hx)
    have hlen : i < (latB (cs.take i) ++ List.replicate (j + 1) (.int 0 : Value)).length := by simp; omega
    refine Go.iload (pc' := 5) W d_jdk_52_method_21_code_3 rfl rfl ?_
    refine Go.iload (pc' := 7) W d_jdk_52_method_21_code_5 rfl rfl ?_
    refine Go.icmp_ge (pc' := 10) W 44 d_jdk_52_method_21_code_7 (by decide) rfl (fun q => absurd ((i32_lt (by omega) hn).mpr hi) q) (fun _ => ?_)
    refine Go.aloadN (pc' := 11) W d_jdk_52_method_21_code_10 rfl rfl rfl ?_
    refine Go.iloadN (pc' := 12) W d_jdk_52_method_21_code_11 rfl rfl ?_
    refine Go.caload (pc' := 13) W (Or.inl (List.mem_of_getElem? (i := 0) rfl)) A i (i32_nn (by omega)) (i32_clamp (by omega)) (v := .int x) (by rw [chV, List.getElem?_map, hx]; rfl) d_jdk_52_method_21_code_12 rfl ?_
    refine Go.istore (pc' := 15) W #[.val (.ref ac), .val (.int i.toInt32), .val (.ref b), .val (.int i.toInt32), .val (.int cs.length.toInt32), .val (.int i.toInt32), .val (.int x)] d_jdk_52_method_21_code_13 (XS.store1 (o := o6) rfl ho rfl) rfl ?_
    refine Go.iload (pc' := 17) W d_jdk_52_method_21_code_15 rfl rfl ?_
    refine Go.sipush (pc' := 20) W (255 : Int32) d_jdk_52_method_21_code_17 (by decide) rfl ?_
    refine Go.icmp_le (pc' := 23) W 26 d_jdk_52_method_21_code_20 (by decide) rfl (fun _ => ?_) (fun q => absurd q hL.2)
    refine Go.aloadN (pc' := 27) W d_jdk_52_method_21_code_26 rfl rfl rfl ?_
    refine Go.iloadN (pc' := 28) W d_jdk_52_method_21_code_27 rfl rfl ?_
    refine Go.iload (pc' := 30) W d_jdk_52_method_21_code_28 rfl rfl ?_
    refine Go.i2b (pc' := 31) W d_jdk_52_method_21_code_30 rfl ?_
    refine Go.bastore (pc' := 32) W 1 rfl B i (i32_nn (by omega)) (i32_clamp (by omega)) hlen d_jdk_52_method_21_code_31 rfl (fun T2 cb2 W2 B2 => ?_)
    rw [i8_i8, set_next hx] at B2
    refine Go.iinc (pc' := 35) W2 (1 : Int32) #[.val (.ref ac), .val (.int (i.toInt32 + 1)), .val (.ref b), .val (.int i.toInt32), .val (.int cs.length.toInt32), .val (.int i.toInt32), .val (.int x)] d_jdk_52_method_21_code_32 rfl (by decide) rfl rfl ?_
    refine Go.iinc (pc' := 38) W2 (1 : Int32) #[.val (.ref ac), .val (.int (i.toInt32 + 1)), .val (.ref b), .val (.int (i.toInt32 + 1)), .val (.int cs.length.toInt32), .val (.int i.toInt32), .val (.int x)] d_jdk_52_method_21_code_35 rfl (by decide) rfl rfl ?_
    refine Go.iinc (pc' := 41) W2 (1 : Int32) #[.val (.ref ac), .val (.int (i.toInt32 + 1)), .val (.ref b), .val (.int (i.toInt32 + 1)), .val (.int cs.length.toInt32), .val (.int (i.toInt32 + 1)), .val (.int x)] d_jdk_52_method_21_code_38 rfl (by decide) rfl rfl ?_
    refine Go.goto W2 3 d_jdk_52_method_21_code_41 (by decide) ?_
    rw [i32_succ (by omega)]
    exact lp_cmp5 A hl hn j (i + 1) (by omega) _ (One.val rfl) T2 cb2 W2 B2
theorem pn_0 : plainName "java/lang/StringUTF16" = true := by first | (simp [plainName, overriddenIn]; done) | decide +kernel
theorem rm_cmp5 {l : Launch} {Z : State} {a0 : Array Value} (G : Cl Z a0) (ac b : Addr) (cc cb : Cell) (cs : List Int32) (A : ArrC Z cc .char (chV cs)) (hl : Lat cs) (hn : cs.length < 2147483648) (B : ArrC Z cb .byte (List.replicate cs.length (.int 0))) :
    Met l Z EL1 (⟨"java/lang/StringUTF16", "compress", "([CI[BII)I"⟩ : MethodName) jdk_52_method_21_code 7 (some .int) ({ frames := 0, cells := 0, slots := 0, locals := 0 } : Room) #[.ref ac, .int 0, .ref b, .int 0, .int cs.length.toInt32] [(ac, cc), (b, cb)] [] (fun v σ ρ => ∃ cb', v = some (.int cs.length.toInt32) ∧ σ = [(ac, cc), (b, cb')] ∧ ρ = [] ∧ ArrC Z cb' .byte (latB cs)) := by
  refine Met.walk G.2.1 pn_0 #[.val (.ref ac), .val (.int 0), .val (.ref b), .val (.int 0), .val (.int cs.length.toInt32), .unset, .unset] (fun m => by first | (simp [entryFrame, mkF, argsToLocals, Value.category]; done) | rfl) ?_
  intro X T W
  refine Go.iconst (pc' := 1) W (0 : Int32) d_jdk_52_method_21_code_0 (by decide) rfl ?_
  refine Go.istore (pc' := 3) W #[.val (.ref ac), .val (.int 0), .val (.ref b), .val (.int 0), .val (.int cs.length.toInt32), .val (.int 0), .unset] d_jdk_52_method_21_code_1 rfl rfl ?_
  exact lp_cmp5 A hl hn cs.length 0 (by omega) .unset One.u T cb W (by simpa using B)
theorem d_jdk_52_method_16_code_0 : decode jdk_52_method_16_code 0 = .ok (.iload_n 2, 1) := by decide +kernel
theorem w_19 {Z : State} {a0 : Array Value} (G : Cl Z a0) : (Jvm.Cond.arrayClass .byte).before a0 Z = true := G.1 _ (List.mem_of_getElem? (l := tables_1) (i := 19) rfl)
theorem d_jdk_52_method_16_code_1 : decode jdk_52_method_16_code 1 = .ok (.newarray .byte, 2) := by decide +kernel
theorem d_jdk_52_method_16_code_3 : decode jdk_52_method_16_code 3 = .ok (.astore_n 3, 1) := by decide +kernel
theorem d_jdk_52_method_16_code_4 : decode jdk_52_method_16_code 4 = .ok (.aload_n 0, 1) := by decide +kernel
theorem d_jdk_52_method_16_code_5 : decode jdk_52_method_16_code 5 = .ok (.iload_n 1, 1) := by decide +kernel
theorem d_jdk_52_method_16_code_6 : decode jdk_52_method_16_code 6 = .ok (.aload_n 3, 1) := by decide +kernel
theorem d_jdk_52_method_16_code_7 : decode jdk_52_method_16_code 7 = .ok (.iconst 0, 1) := by decide +kernel
theorem d_jdk_52_method_16_code_8 : decode jdk_52_method_16_code 8 = .ok (.iload_n 2, 1) := by decide +kernel
theorem w_80 {Z : State} {a0 : Array Value} (G : Cl Z a0) : (Jvm.Cond.methodLink "java/lang/StringUTF16" 115 (⟨"java/lang/StringUTF16", "compress", "([CI[BII)I"⟩ : MethodName)).before a0 Z = true := G.1 _ (List.mem_of_getElem? (l := tables_1) (i := 80) rfl)
theorem w_81 {Z : State} {a0 : Array Value} (G : Cl Z a0) : (Jvm.Cond.static (⟨"java/lang/StringUTF16", "compress", "([CI[BII)I"⟩ : MethodName)).before a0 Z = true := G.1 _ (List.mem_of_getElem? (l := tables_1) (i := 81) rfl)
theorem w_78 {Z : State} {a0 : Array Value} (G : Cl Z a0) : (Jvm.Cond.initialized "java/lang/StringUTF16").before a0 Z = true := G.1 _ (List.mem_of_getElem? (l := tables_1) (i := 78) rfl)
theorem w_82 {Z : State} {a0 : Array Value} (G : Cl Z a0) : (Jvm.Cond.code (⟨"java/lang/StringUTF16", "compress", "([CI[BII)I"⟩ : MethodName) jdk_52_method_21_code 7 (some .int)).before a0 Z = true := G.1 _ (List.mem_of_getElem? (l := tables_1) (i := 82) rfl)
theorem pd_1 : parseMethodDescriptor "([CI[BII)I" = some ⟨[(.array .char), .int, (.array .byte), .int, .int], some .int⟩ := by decide +kernel
theorem d_jdk_52_method_16_code_9 : decode jdk_52_method_16_code 9 = .ok (.invokestatic 115, 3) := by decide +kernel
theorem d_jdk_52_method_16_code_12 : decode jdk_52_method_16_code 12 = .ok (.istore 4, 2) := by decide +kernel
theorem d_jdk_52_method_16_code_14 : decode jdk_52_method_16_code 14 = .ok (.iload 4, 2) := by decide +kernel
theorem d_jdk_52_method_16_code_16 : decode jdk_52_method_16_code 16 = .ok (.iload_n 2, 1) := by decide +kernel
theorem d_jdk_52_method_16_code_17 : decode jdk_52_method_16_code 17 = .ok (.if_icmp .eq 40, 3) := by decide +kernel
theorem d_jdk_52_method_16_code_57 : decode jdk_52_method_16_code 57 = .ok (.aload_n 3, 1) := by decide +kernel
theorem d_jdk_52_method_16_code_58 : decode jdk_52_method_16_code 58 = .ok (.areturn, 1) := by decide +kernel
theorem rm_cmp3 {l : Launch} {Z : State} {a0 : Array Value} (G : Cl Z a0) (ac : Addr) (cc : Cell) (cs : List Int32) (A : ArrC Z cc .char (chV cs)) (hl : Lat cs) (hn : cs.length < 65536) :
    Met l Z EL1 (⟨"java/lang/StringUTF16", "compress", "([CII)[B"⟩ : MethodName) jdk_52_method_16_code 6 (some (.array .byte)) ({ frames := 1, cells := 1, slots := cs.length, locals := 18 } : Room) #[.ref ac, .int 0, .int cs.length.toInt32] [(ac, cc)] [] (fun v σ ρ => ∃ b cb, v = some (.ref b) ∧ σ = [(ac, cc), (b, cb)] ∧ ρ = [] ∧ ArrC Z cb .byte (latB cs)) := by
  refine Met.walk G.2.1 pn_0 #[.val (.ref ac), .val (.int 0), .val (.int cs.length.toInt32), .unset, .unset, .unset] (fun m => by first | (simp [entryFrame, mkF, argsToLocals, Value.category]; done) | rfl) ?_
  intro X T0 W0
  refine Go.iloadN (pc' := 1) W0 d_jdk_52_method_16_code_0 rfl rfl ?_
  refine Go.newarr (pc' := 3) W0 .byte rfl cs.length (w_19 G) d_jdk_52_method_16_code_1 rfl (i32_nn (by omega)) (i32_clamp (by omega)) (by omega) (by first | exact Nat.le_of_ble_eq_true rfl | (simp; done) | (simp; omega) | omega) (by first | exact Nat.le_of_ble_eq_true rfl | (simp; done) | (simp; omega) | omega) (fun T1 b cb W1 B => ?_)
  refine Go.astoreN (pc' := 4) W1 #[.val (.ref ac), .val (.int 0), .val (.int cs.length.toInt32), .val (.ref b), .unset, .unset] d_jdk_52_method_16_code_3 rfl rfl rfl ?_
  refine Go.aloadN (pc' := 5) W1 d_jdk_52_method_16_code_4 rfl rfl rfl ?_
  refine Go.iloadN (pc' := 6) W1 d_jdk_52_method_16_code_5 rfl rfl ?_
  refine Go.aloadN (pc' := 7) W1 d_jdk_52_method_16_code_6 rfl rfl rfl ?_
  refine Go.iconst (pc' := 8) W1 (0 : Int32) d_jdk_52_method_16_code_7 (by decide) rfl ?_
  refine Go.iloadN (pc' := 9) W1 d_jdk_52_method_16_code_8 rfl rfl ?_
  refine Go.static (pc' := 12) W1 (rm_cmp5 G ac b cc cb cs A hl (by omega) B) (w_80 G) (w_81 G) (w_78 G) (w_82 G) (by decide) [1, 0] [] (σf := []) rfl rfl [.ref ac, .int 0, .ref b, .int 0, .int cs.length.toInt32] [] rfl (lenOf pd_1 rfl) rfl rfl d_jdk_52_method_16_code_9 rfl (by first | exact Nat.le_of_ble_eq_true rfl | (simp; done) | (simp; omega) | omega) (by first | exact Nat.le_of_ble_eq_true rfl | (simp; done) | (simp; omega) | omega) (by first | exact Nat.le_of_ble_eq_true rfl | (simp; done) | (simp; omega) | omega) (by first | exact Nat.le_of_ble_eq_true rfl | (simp; done) | (simp; omega) | omega) ?_
  rintro _ _ _ T2 ⟨cb2, rfl, rfl, rfl, B2⟩ W2
  refine Go.istore (pc' := 14) W2 #[.val (.ref ac), .val (.int 0), .val (.int cs.length.toInt32), .val (.ref b), .val (.int cs.length.toInt32), .unset] d_jdk_52_method_16_code_12 rfl rfl ?_
  refine Go.iload (pc' := 16) W2 d_jdk_52_method_16_code_14 rfl rfl ?_
  refine Go.iloadN (pc' := 17) W2 d_jdk_52_method_16_code_16 rfl rfl ?_
  refine Go.icmp_eq (pc' := 20) W2 57 d_jdk_52_method_16_code_17 (by decide) rfl (fun _ => ?_) (fun q => absurd rfl q)
  refine Go.aloadN (pc' := 58) W2 d_jdk_52_method_16_code_57 rfl rfl rfl ?_
  exact Go.aret W2 rfl rfl d_jdk_52_method_16_code_58 (by first | exact Nat.le_of_ble_eq_true rfl | (simp; done) | (simp; omega) | omega) (by first | exact Nat.le_of_ble_eq_true rfl | (simp; done) | (simp; omega) | omega) ⟨b, cb2, rfl, rfl, rfl, B2⟩
theorem d_jdk_52_method_15_code_0 : decode jdk_52_method_15_code 0 = .ok (.iload_n 1, 1) := by decide +kernel
theorem d_jdk_52_method_15_code_1 : decode jdk_52_method_15_code 1 = .ok (.aload_n 0, 1) := by decide +kernel
theorem d_jdk_52_method_15_code_2 : decode jdk_52_method_15_code 2 = .ok (.arraylength, 1) := by decide +kernel
theorem d_jdk_52_method_15_code_3 : decode jdk_52_method_15_code 3 = .ok (.isub, 1) := by decide +kernel
theorem d_jdk_52_method_15_code_4 : decode jdk_52_method_15_code 4 = .ok (.bipush 31, 2) := by decide +kernel
theorem d_jdk_52_method_15_code_6 : decode jdk_52_method_15_code 6 = .ok (.iushr, 1) := by decide +kernel
theorem d_jdk_52_method_15_code_7 : decode jdk_52_method_15_code 7 = .ok (.i2b, 1) := by decide +kernel
theorem d_jdk_52_method_15_code_8 : decode jdk_52_method_15_code 8 = .ok (.ireturn, 1) := by decide +kernel
theorem rm_cod {l : Launch} {Z : State} {a0 : Array Value} (G : Cl Z a0) (b : Addr) (cb : Cell) (cs : List Int32) (B : ArrC Z cb .byte (latB cs)) :
    Met l Z EL1 (⟨"java/lang/StringUTF16", "coderFromArrayLen", "([BI)B"⟩ : MethodName) jdk_52_method_15_code 2 (some .byte) ({ frames := 0, cells := 0, slots := 0, locals := 0 } : Room) #[.ref b, .int cs.length.toInt32] [(b, cb)] [] (fun v σ ρ => v = some (.int 0) ∧ σ = [(b, cb)] ∧ ρ = []) := by
  refine Met.walk G.2.1 pn_0 #[.val (.ref b), .val (.int cs.length.toInt32)] (fun m => by first | (simp [entryFrame, mkF, argsToLocals, Value.category]; done) | rfl) ?_
  intro X T0 W0
  refine Go.iloadN (pc' := 1) W0 d_jdk_52_method_15_code_0 rfl rfl ?_
  refine Go.aloadN (pc' := 2) W0 d_jdk_52_method_15_code_1 rfl rfl rfl ?_
  refine Go.arrlen (pc' := 3) W0 (Or.inl (List.mem_of_getElem? (i := 0) rfl)) B cs.length.toInt32 (by rw [latB, List.length_map]) d_jdk_52_method_15_code_2 rfl ?_
  refine Go.isub (pc' := 4) W0 d_jdk_52_method_15_code_3 rfl ?_
  rw [Int32.sub_self]
  refine Go.bipush (pc' := 6) W0 (31 : Int32) d_jdk_52_method_15_code_4 (by decide) rfl ?_
  refine Go.iushr (pc' := 7) W0 d_jdk_52_method_15_code_6 rfl ?_
  refine Go.i2b (pc' := 8) W0 d_jdk_52_method_15_code_7 rfl ?_
  exact Go.nret (z' := 0) W0 (by simp) (by decide) d_jdk_52_method_15_code_8 (by decide) (by decide) ⟨rfl, rfl, rfl⟩
theorem pn_2 : plainName "java/lang/String" = true := by first | (simp [plainName, overriddenIn]; done) | decide +kernel
theorem d_jdk_42_method_149_code_0 : decode jdk_42_method_149_code 0 = .ok (.aload_n 0, 1) := by decide +kernel
theorem d_jdk_42_method_149_code_1 : decode jdk_42_method_149_code 1 = .ok (.invokespecial 1, 3) := by decide +kernel
theorem w_15 {Z : State} {a0 : Array Value} (G : Cl Z a0) : (Jvm.Cond.methodLink "java/lang/String" 1 (⟨"java/lang/Object", "<init>", "()V"⟩ : MethodName)).before a0 Z = true := G.1 _ (List.mem_of_getElem? (l := tables_1) (i := 15) rfl)
theorem w_16 {Z : State} {a0 : Array Value} (G : Cl Z a0) : (Jvm.Cond.instanceMethod (⟨"java/lang/Object", "<init>", "()V"⟩ : MethodName)).before a0 Z = true := G.1 _ (List.mem_of_getElem? (l := tables_1) (i := 16) rfl)
theorem w_17 {Z : State} {a0 : Array Value} (G : Cl Z a0) : (Jvm.Cond.code (⟨"java/lang/Object", "<init>", "()V"⟩ : MethodName) object_method_1_code 1 none).before a0 Z = true := G.1 _ (List.mem_of_getElem? (l := tables_1) (i := 17) rfl)
theorem d_jdk_42_method_149_code_4 : decode jdk_42_method_149_code 4 = .ok (.iload_n 3, 1) := by decide +kernel
theorem d_jdk_42_method_149_code_5 : decode jdk_42_method_149_code 5 = .ok (.ifCond .ne 22, 3) := by decide +kernel
theorem d_jdk_42_method_149_code_27 : decode jdk_42_method_149_code 27 = .ok (.getstatic 38, 3) := by decide +kernel
theorem w_29 {Z : State} {a0 : Array Value} (G : Cl Z a0) : (Jvm.Cond.fieldLink "java/lang/String" 38 "java/lang/String" "COMPACT_STRINGS" "Z").before a0 Z = true := G.1 _ (List.mem_of_getElem? (l := tables_1) (i := 29) rfl)
theorem d_jdk_42_method_149_code_30 : decode jdk_42_method_149_code 30 = .ok (.ifCond .eq 28, 3) := by decide +kernel
theorem d_jdk_42_method_149_code_33 : decode jdk_42_method_149_code 33 = .ok (.aload_n 1, 1) := by decide +kernel
theorem d_jdk_42_method_149_code_34 : decode jdk_42_method_149_code 34 = .ok (.iload_n 2, 1) := by decide +kernel
theorem d_jdk_42_method_149_code_35 : decode jdk_42_method_149_code 35 = .ok (.iload_n 3, 1) := by decide +kernel
theorem d_jdk_42_method_149_code_36 : decode jdk_42_method_149_code 36 = .ok (.invokestatic 177, 3) := by decide +kernel
theorem w_76 {Z : State} {a0 : Array Value} (G : Cl Z a0) : (Jvm.Cond.methodLink "java/lang/String" 177 (⟨"java/lang/StringUTF16", "compress", "([CII)[B"⟩ : MethodName)).before a0 Z = true := G.1 _ (List.mem_of_getElem? (l := tables_1) (i := 76) rfl)
theorem w_79 {Z : State} {a0 : Array Value} (G : Cl Z a0) : (Jvm.Cond.code (⟨"java/lang/StringUTF16", "compress", "([CII)[B"⟩ : MethodName) jdk_52_method_16_code 6 (some (.array .byte))).before a0 Z = true := G.1 _ (List.mem_of_getElem? (l := tables_1) (i := 79) rfl)
theorem pd_3 : parseMethodDescriptor "([CII)[B" = some ⟨[(.array .char), .int, .int], some (.array .byte)⟩ := by decide +kernel
theorem w_77 {Z : State} {a0 : Array Value} (G : Cl Z a0) : (Jvm.Cond.static (⟨"java/lang/StringUTF16", "compress", "([CII)[B"⟩ : MethodName)).before a0 Z = true := G.1 _ (List.mem_of_getElem? (l := tables_1) (i := 77) rfl)
theorem d_jdk_42_method_149_code_39 : decode jdk_42_method_149_code 39 = .ok (.astore 5, 2) := by decide +kernel
theorem d_jdk_42_method_149_code_41 : decode jdk_42_method_149_code 41 = .ok (.aload_n 0, 1) := by decide +kernel
theorem d_jdk_42_method_149_code_42 : decode jdk_42_method_149_code 42 = .ok (.aload 5, 2) := by decide +kernel
theorem d_jdk_42_method_149_code_44 : decode jdk_42_method_149_code 44 = .ok (.iload_n 3, 1) := by decide +kernel
theorem d_jdk_42_method_149_code_45 : decode jdk_42_method_149_code 45 = .ok (.invokestatic 47, 3) := by decide +kernel
theorem w_83 {Z : State} {a0 : Array Value} (G : Cl Z a0) : (Jvm.Cond.methodLink "java/lang/String" 47 (⟨"java/lang/StringUTF16", "coderFromArrayLen", "([BI)B"⟩ : MethodName)).before a0 Z = true := G.1 _ (List.mem_of_getElem? (l := tables_1) (i := 83) rfl)
theorem w_85 {Z : State} {a0 : Array Value} (G : Cl Z a0) : (Jvm.Cond.code (⟨"java/lang/StringUTF16", "coderFromArrayLen", "([BI)B"⟩ : MethodName) jdk_52_method_15_code 2 (some .byte)).before a0 Z = true := G.1 _ (List.mem_of_getElem? (l := tables_1) (i := 85) rfl)
theorem pd_4 : parseMethodDescriptor "([BI)B" = some ⟨[(.array .byte), .int], some .byte⟩ := by decide +kernel
theorem w_84 {Z : State} {a0 : Array Value} (G : Cl Z a0) : (Jvm.Cond.static (⟨"java/lang/StringUTF16", "coderFromArrayLen", "([BI)B"⟩ : MethodName)).before a0 Z = true := G.1 _ (List.mem_of_getElem? (l := tables_1) (i := 84) rfl)
theorem d_jdk_42_method_149_code_48 : decode jdk_42_method_149_code 48 = .ok (.putfield 15, 3) := by decide +kernel
theorem w_25 {Z : State} {a0 : Array Value} (G : Cl Z a0) : (Jvm.Cond.fieldLink "java/lang/String" 15 "java/lang/String" "coder" "B").before a0 Z = true := G.1 _ (List.mem_of_getElem? (l := tables_1) (i := 25) rfl)
theorem w_21 {Z : State} {a0 : Array Value} (G : Cl Z a0) : (Jvm.Cond.laysFinal "java/lang/String" "java/lang/String" "coder" "B").before a0 Z = true := G.1 _ (List.mem_of_getElem? (l := tables_1) (i := 21) rfl)
theorem w_5 {Z : State} {a0 : Array Value} (G : Cl Z a0) : (Jvm.Cond.instantiable "java/lang/String" 4).before a0 Z = true := G.1 _ (List.mem_of_getElem? (l := tables_1) (i := 5) rfl)
theorem w_20 {Z : State} {a0 : Array Value} (G : Cl Z a0) : (Jvm.Cond.laysFinal "java/lang/String" "java/lang/String" "value" "[B").before a0 Z = true := G.1 _ (List.mem_of_getElem? (l := tables_1) (i := 20) rfl)
theorem d_jdk_42_method_149_code_51 : decode jdk_42_method_149_code 51 = .ok (.aload_n 0, 1) := by decide +kernel
theorem d_jdk_42_method_149_code_52 : decode jdk_42_method_149_code 52 = .ok (.aload 5, 2) := by decide +kernel
theorem d_jdk_42_method_149_code_54 : decode jdk_42_method_149_code 54 = .ok (.putfield 9, 3) := by decide +kernel
theorem w_24 {Z : State} {a0 : Array Value} (G : Cl Z a0) : (Jvm.Cond.fieldLink "java/lang/String" 9 "java/lang/String" "value" "[B").before a0 Z = true := G.1 _ (List.mem_of_getElem? (l := tables_1) (i := 24) rfl)
theorem d_jdk_42_method_149_code_57 : decode jdk_42_method_149_code 57 = .ok (.return_, 1) := by decide +kernel
set_option maxRecDepth 65536 in
set_option maxHeartbeats 40000000 in
theorem rm_initV {l : Launch} {Z : State} {a0 : Array Value} (G : Cl Z a0) (a ac : Addr) (c cc : Cell) (cs : List Int32) (A : ArrC Z cc .char (chV cs)) (hO : ObjC Z c "java/lang/String") (hC : FldC Z c "java/lang/String" "coder" "B" (.int 0)) (hV : FldC Z c "java/lang/String" "value" "[B" .null) (hl : Lat cs) (hn : cs.length < 65536) (h0 : ¬ cs.length.toInt32 = 0) :
    Met l Z EL1 (⟨"java/lang/String", "<init>", "([CIILjava/lang/Void;)V"⟩ : MethodName) jdk_42_method_149_code 6 none ({ frames := 2, cells := 1, slots := cs.length, locals := 35 } : Room) #[.ref a, .ref ac, .int (0 : Int32), .int cs.length.toInt32, .null] [(a, c), (ac, cc)] [] (fun v σ ρ => ∃ c' b cb, v = none ∧ σ = [(ac, cc)] ∧ ρ = [(a, c'), (b, cb)] ∧ StrL Z c' b cb cs) := by
  refine Met.walk G.2.1 pn_2 #[.val (.ref a), .val (.ref ac), .val (.int (0 : Int32)), .val (.int cs.length.toInt32), .val (.null), .unset] (fun m => by first | (simp [entryFrame, mkF, argsToLocals, Value.category]; done) | rfl) ?_
  intro X T0 W0
  obtain ⟨cv, Scv, hcv⟩ := G.2.2.1
  refine Go.aloadN (pc' := 1) W0 d_jdk_42_method_149_code_0 rfl rfl rfl ?_
  refine Go.objInit (pc' := 4) W0 (w_15 G) (w_16 G) (w_17 G) rfl d_jdk_42_method_149_code_1 rfl (by first | exact Nat.le_of_ble_eq_true rfl | (simp; done) | (simp; omega) | omega) (by first | exact Nat.le_of_ble_eq_true rfl | (simp; done) | (simp; omega) | omega) (fun T1 W2 => ?_)
  refine Go.iloadN (pc' := 5) W2 d_jdk_42_method_149_code_4 rfl rfl ?_
  refine Go.if_ne (pc' := 8) W2 27 d_jdk_42_method_149_code_5 (by decide) rfl (fun _ => ?_) (fun q => absurd q h0)
  refine Go.getstatic (pc' := 30) W2 (w_29 G) Via.refl Scv d_jdk_42_method_149_code_27 rfl (fun T3 W4 => ?_)
  refine Go.if_eq (pc' := 33) W4 58 d_jdk_42_method_149_code_30 (by decide) rfl (fun q => absurd q hcv) (fun _ => ?_)
  refine Go.aloadN (pc' := 34) W4 d_jdk_42_method_149_code_33 rfl rfl rfl ?_
  refine Go.iloadN (pc' := 35) W4 d_jdk_42_method_149_code_34 rfl rfl ?_
  refine Go.iloadN (pc' := 36) W4 d_jdk_42_method_149_code_35 rfl rfl ?_
  refine Go.static (pc' := 39) W4 (rm_cmp3 G ac cc cs A hl hn) (w_76 G) (w_77 G) (w_78 G) (w_79 G) (by decide) [1] [] (σf := [(a, c)]) rfl rfl [(.ref ac), (.int (0 : Int32)), (.int cs.length.toInt32)] [] rfl (lenOf pd_3 rfl) rfl rfl d_jdk_42_method_149_code_36 rfl (by first | exact Nat.le_of_ble_eq_true rfl | (simp; done) | (simp; omega) | omega) (by first | exact Nat.le_of_ble_eq_true rfl | (simp; done) | (simp; omega) | omega) (by first | exact Nat.le_of_ble_eq_true rfl | (simp; done) | (simp; omega) | omega) (by first | exact Nat.le_of_ble_eq_true rfl | (simp; done) | (simp; omega) | omega) ?_
  rintro _ _ _ T5 ⟨b, cb, rfl, rfl, rfl, B⟩ W6
  replace W6 : Wk l Z EL1 ({ frames := 2, cells := 1, slots := cs.length, locals := 35 } : Room) "java/lang/String" jdk_42_method_149_code 6 none "<init>" X [(ac, cc), (b, cb), (a, c)] [] T5 1 (0 + cs.length) := W6
  show Go Z EL1 _ _ _ X T5 39 #[.val (.ref a), .val (.ref ac), .val (.int (0 : Int32)), .val (.int cs.length.toInt32), .val (.null), .unset] [(.ref b)]
  refine Go.astore (pc' := 41) W6 #[.val (.ref a), .val (.ref ac), .val (.int (0 : Int32)), .val (.int cs.length.toInt32), .val (.null), .val (.ref b)] d_jdk_42_method_149_code_39 rfl rfl rfl ?_
  refine Go.aloadN (pc' := 42) W6 d_jdk_42_method_149_code_41 rfl rfl rfl ?_
  refine Go.aload (pc' := 44) W6 d_jdk_42_method_149_code_42 rfl rfl rfl ?_
  refine Go.iloadN (pc' := 45) W6 d_jdk_42_method_149_code_44 rfl rfl ?_
  refine Go.static (pc' := 48) W6 (rm_cod G b cb cs B) (w_83 G) (w_84 G) (w_78 G) (w_85 G) (by decide) [1] [] (σf := [(ac, cc), (a, c)]) rfl rfl [(.ref b), (.int cs.length.toInt32)] [(.ref a)] rfl (lenOf pd_4 rfl) rfl rfl d_jdk_42_method_149_code_45 rfl (by first | exact Nat.le_of_ble_eq_true rfl | (simp; done) | (simp; omega) | omega) (by first | exact Nat.le_of_ble_eq_true rfl | (simp; done) | (simp; omega) | omega) (by first | exact Nat.le_of_ble_eq_true rfl | (simp; done) | (simp; omega) | omega) (by first | exact Nat.le_of_ble_eq_true rfl | (simp; done) | (simp; omega) | omega) ?_
  rintro _ _ _ T7 ⟨rfl, rfl, rfl⟩ W8
  replace W8 : Wk l Z EL1 ({ frames := 2, cells := 1, slots := cs.length, locals := 35 } : Room) "java/lang/String" jdk_42_method_149_code 6 none "<init>" X [(b, cb), (ac, cc), (a, c)] [] T7 1 (0 + cs.length + 0) := W8
  show Go Z EL1 _ _ _ X T7 48 #[.val (.ref a), .val (.ref ac), .val (.int (0 : Int32)), .val (.int cs.length.toInt32), .val (.null), .val (.ref b)] [(.int (0 : Int32)), (.ref a)]
  refine Go.putfield (pc' := 51) W8 2 rfl (w_25 G) Via.refl hC hO (Or.inr ⟨(w_21 G), rfl, rfl⟩) (w_5 G) (ty := .byte) (v' := .int (0 : Int32)) (by decide) rfl rfl d_jdk_42_method_149_code_48 rfl (fun T9 c11 q12 W10 => ?_)
  replace W10 : Wk l Z EL1 ({ frames := 2, cells := 1, slots := cs.length, locals := 35 } : Room) "java/lang/String" jdk_42_method_149_code 6 none "<init>" X [(b, cb), (ac, cc), (a, c11)] [] T9 1 (0 + cs.length + 0) := W10
  have O13 := hO.put' q12
  have F14 := hC.put' q12
  have F15 := hV.keep' q12 (slot_ne (Or.inr (w_20 G)) (Or.inr (w_21 G)) (by decide) (t := (.array .byte)) (t' := .byte) (by decide) (by decide))
  refine Go.aloadN (pc' := 52) W10 d_jdk_42_method_149_code_51 rfl rfl rfl ?_
  refine Go.aload (pc' := 54) W10 d_jdk_42_method_149_code_52 rfl rfl rfl ?_
  refine Go.putfield (pc' := 57) W10 2 rfl (w_24 G) Via.refl F15 O13 (Or.inr ⟨(w_20 G), rfl, rfl⟩) (w_5 G) (ty := (.array .byte)) (v' := .ref b) (by decide) rfl rfl d_jdk_42_method_149_code_54 rfl (fun T16 c18 q19 W17 => ?_)
  replace W17 : Wk l Z EL1 ({ frames := 2, cells := 1, slots := cs.length, locals := 35 } : Room) "java/lang/String" jdk_42_method_149_code 6 none "<init>" X [(b, cb), (ac, cc), (a, c18)] [] T16 1 (0 + cs.length + 0) := W17
  have O20 := O13.put' q19
  have F21 := F14.keep' q19 (slot_ne (Or.inr (w_21 G)) (Or.inr (w_20 G)) (by decide) (t := .byte) (t' := (.array .byte)) (by decide) (by decide))
  have F22 := F15.put' q19
  have W23 := W17.freeze [2, 0] (σi := [(a, c18), (b, cb)]) (σf := [(ac, cc)]) rfl
  replace W23 : Wk l Z EL1 ({ frames := 2, cells := 1, slots := cs.length, locals := 35 } : Room) "java/lang/String" jdk_42_method_149_code 6 none "<init>" X [(ac, cc)] [(a, c18), (b, cb)] T16 1 (0 + cs.length + 0) := W23
  refine Go.retV W23 d_jdk_42_method_149_code_57 (by first | exact Nat.le_of_ble_eq_true rfl | (simp; done) | (simp; omega) | omega) (by first | exact Nat.le_of_ble_eq_true rfl | (simp; done) | (simp; omega) | omega) ?_
  exact ⟨_, b, cb, rfl, rfl, rfl, O20, F21, F22, B, hl⟩
theorem d_jdk_42_method_149_code_8 : decode jdk_42_method_149_code 8 = .ok (.aload_n 0, 1) := by decide +kernel
theorem d_jdk_42_method_149_code_9 : decode jdk_42_method_149_code 9 = .ok (.ldc 7, 2) := by decide +kernel
theorem w_18 {Z : State} {a0 : Array Value} (G : Cl Z a0) : (Jvm.Cond.stringLink "java/lang/String" 7 "").before a0 Z = true := G.1 _ (List.mem_of_getElem? (l := tables_1) (i := 18) rfl)
theorem d_jdk_42_method_149_code_11 : decode jdk_42_method_149_code 11 = .ok (.getfield 9, 3) := by decide +kernel
theorem d_jdk_42_method_149_code_14 : decode jdk_42_method_149_code 14 = .ok (.putfield 9, 3) := by decide +kernel
theorem d_jdk_42_method_149_code_17 : decode jdk_42_method_149_code 17 = .ok (.aload_n 0, 1) := by decide +kernel
theorem d_jdk_42_method_149_code_18 : decode jdk_42_method_149_code 18 = .ok (.ldc 7, 2) := by decide +kernel
theorem d_jdk_42_method_149_code_20 : decode jdk_42_method_149_code 20 = .ok (.getfield 15, 3) := by decide +kernel
theorem d_jdk_42_method_149_code_23 : decode jdk_42_method_149_code 23 = .ok (.putfield 15, 3) := by decide +kernel
theorem d_jdk_42_method_149_code_26 : decode jdk_42_method_149_code 26 = .ok (.return_, 1) := by decide +kernel
set_option maxRecDepth 65536 in
set_option maxHeartbeats 40000000 in
theorem rm_initV0 {l : Launch} {Z : State} {a0 : Array Value} (G : Cl Z a0) (a ac : Addr) (c cc : Cell) (A : ArrC Z cc .char []) (hO : ObjC Z c "java/lang/String") (hC : FldC Z c "java/lang/String" "coder" "B" (.int 0)) (hV : FldC Z c "java/lang/String" "value" "[B" .null) :
    Met l Z EL1 (⟨"java/lang/String", "<init>", "([CIILjava/lang/Void;)V"⟩ : MethodName) jdk_42_method_149_code 6 none ({ frames := 1, cells := 4, slots := 8, locals := 12 } : Room) #[.ref a, .ref ac, .int (0 : Int32), .int (0 : Int32), .null] [(a, c), (ac, cc)] [] (fun v σ ρ => ∃ c' b cb, v = none ∧ σ = [(ac, cc)] ∧ ρ = [(a, c'), (b, cb)] ∧ StrL Z c' b cb []) := by
  refine Met.walk G.2.1 pn_2 #[.val (.ref a), .val (.ref ac), .val (.int (0 : Int32)), .val (.int (0 : Int32)), .val (.null), .unset] (fun m => by first | (simp [entryFrame, mkF, argsToLocals, Value.category]; done) | rfl) ?_
  intro X T0 W0
  refine Go.aloadN (pc' := 1) W0 d_jdk_42_method_149_code_0 rfl rfl rfl ?_
  refine Go.objInit (pc' := 4) W0 (w_15 G) (w_16 G) (w_17 G) rfl d_jdk_42_method_149_code_1 rfl (by first | exact Nat.le_of_ble_eq_true rfl | (simp; done) | (simp; omega) | omega) (by first | exact Nat.le_of_ble_eq_true rfl | (simp; done) | (simp; omega) | omega) (fun T1 W2 => ?_)
  refine Go.iloadN (pc' := 5) W2 d_jdk_42_method_149_code_4 rfl rfl ?_
  refine Go.if_ne (pc' := 8) W2 27 d_jdk_42_method_149_code_5 (by decide) rfl (fun q => absurd (by decide) q) (fun _ => ?_)
  refine Go.aloadN (pc' := 9) W2 d_jdk_42_method_149_code_8 rfl rfl rfl ?_
  refine Go.ldcStr (pc' := 11) W2 G.2.1 (w_18 G) (strAtoms G) (by decide) (bs := []) (z := 0) (by decide +kernel) (by decide) (by decide) (by decide) d_jdk_42_method_149_code_9 rfl (m := 0) (by decide +kernel) (by decide) (by first | exact Nat.le_of_ble_eq_true rfl | (simp; done) | (simp; omega) | omega) (by first | exact Nat.le_of_ble_eq_true rfl | (simp; done) | (simp; omega) | omega) (fun T3 a5 b6 c7 c8 W4 O9 F10 F11 A12 => ?_)
  replace W4 : Wk l Z EL1 ({ frames := 1, cells := 4, slots := 8, locals := 12 } : Room) "java/lang/String" jdk_42_method_149_code 6 none "<init>" X [(a, c), (ac, cc)] [(a5, c7), (b6, c8)] T3 2 (4) := W4
  refine Go.getfield (pc' := 14) W4 (Or.inr (Or.inl (List.mem_of_getElem? (i := 0) rfl))) (w_24 G) Via.refl F11 d_jdk_42_method_149_code_11 rfl (fun T13 W14 => ?_)
  refine Go.putfield (pc' := 17) W14 0 rfl (w_24 G) Via.refl hV hO (Or.inr ⟨(w_20 G), rfl, rfl⟩) (w_5 G) (ty := (.array .byte)) (v' := .ref b6) (by decide) rfl rfl d_jdk_42_method_149_code_14 rfl (fun T15 c17 q18 W16 => ?_)
  replace W16 : Wk l Z EL1 ({ frames := 1, cells := 4, slots := 8, locals := 12 } : Room) "java/lang/String" jdk_42_method_149_code 6 none "<init>" X [(a, c17), (ac, cc)] [(a5, c7), (b6, c8)] T15 2 (4) := W16
  have O19 := hO.put' q18
  have F20 := hC.keep' q18 (slot_ne (Or.inr (w_21 G)) (Or.inr (w_20 G)) (by decide) (t := .byte) (t' := (.array .byte)) (by decide) (by decide))
  have F21 := hV.put' q18
  refine Go.aloadN (pc' := 18) W16 d_jdk_42_method_149_code_17 rfl rfl rfl ?_
  refine Go.ldcStr (pc' := 20) W16 G.2.1 (w_18 G) (strAtoms G) (by decide) (bs := []) (z := 0) (by decide +kernel) (by decide) (by decide) (by decide) d_jdk_42_method_149_code_18 rfl (m := 0) (by decide +kernel) (by decide) (by first | exact Nat.le_of_ble_eq_true rfl | (simp; done) | (simp; omega) | omega) (by first | exact Nat.le_of_ble_eq_true rfl | (simp; done) | (simp; omega) | omega) (fun T22 a24 b25 c26 c27 W23 O28 F29 F30 A31 => ?_)
  replace W23 : Wk l Z EL1 ({ frames := 1, cells := 4, slots := 8, locals := 12 } : Room) "java/lang/String" jdk_42_method_149_code 6 none "<init>" X [(a, c17), (ac, cc)] [(a24, c26), (b25, c27), (a5, c7), (b6, c8)] T22 4 (8) := W23
  refine Go.getfield (pc' := 23) W23 (Or.inr (Or.inl (List.mem_of_getElem? (i := 0) rfl))) (w_25 G) Via.refl F29 d_jdk_42_method_149_code_20 rfl (fun T32 W33 => ?_)
  refine Go.putfield (pc' := 26) W33 0 rfl (w_25 G) Via.refl F20 O19 (Or.inr ⟨(w_21 G), rfl, rfl⟩) (w_5 G) (ty := .byte) (v' := .int (0 : Int32)) (by decide) rfl rfl d_jdk_42_method_149_code_23 rfl (fun T34 c36 q37 W35 => ?_)
  replace W35 : Wk l Z EL1 ({ frames := 1, cells := 4, slots := 8, locals := 12 } : Room) "java/lang/String" jdk_42_method_149_code 6 none "<init>" X [(a, c36), (ac, cc)] [(a24, c26), (b25, c27), (a5, c7), (b6, c8)] T34 4 (8) := W35
  have O38 := O19.put' q37
  have F39 := F20.put' q37
  have F40 := F21.keep' q37 (slot_ne (Or.inr (w_20 G)) (Or.inr (w_21 G)) (by decide) (t := (.array .byte)) (t' := .byte) (by decide) (by decide))
  have W41 := W35.freeze [0] (σi := [(a, c36)]) (σf := [(ac, cc)]) rfl
  replace W41 : Wk l Z EL1 ({ frames := 1, cells := 4, slots := 8, locals := 12 } : Room) "java/lang/String" jdk_42_method_149_code 6 none "<init>" X [(ac, cc)] [(a, c36), (a24, c26), (b25, c27), (a5, c7), (b6, c8)] T34 4 (8) := W41
  have W42 := W41.keepRo [0, 4] (ρ' := [(a, c36), (b6, c8)]) rfl
  replace W42 : Wk l Z EL1 ({ frames := 1, cells := 4, slots := 8, locals := 12 } : Room) "java/lang/String" jdk_42_method_149_code 6 none "<init>" X [(ac, cc)] [(a, c36), (b6, c8)] T34 4 (8) := W42
  refine Go.retV W42 d_jdk_42_method_149_code_26 (by first | exact Nat.le_of_ble_eq_true rfl | (simp; done) | (simp; omega) | omega) (by first | exact Nat.le_of_ble_eq_true rfl | (simp; done) | (simp; omega) | omega) ?_
  exact ⟨_, b6, c8, rfl, rfl, rfl, O38, F39, F40, A12, Lat.nil⟩
theorem d_jdk_42_method_3_code_0 : decode jdk_42_method_3_code 0 = .ok (.aload_n 0, 1) := by decide +kernel
theorem d_jdk_42_method_3_code_1 : decode jdk_42_method_3_code 1 = .ok (.aload_n 1, 1) := by decide +kernel
theorem d_jdk_42_method_3_code_2 : decode jdk_42_method_3_code 2 = .ok (.iconst 0, 1) := by decide +kernel
theorem d_jdk_42_method_3_code_3 : decode jdk_42_method_3_code 3 = .ok (.aload_n 1, 1) := by decide +kernel
theorem d_jdk_42_method_3_code_4 : decode jdk_42_method_3_code 4 = .ok (.arraylength, 1) := by decide +kernel
theorem d_jdk_42_method_3_code_5 : decode jdk_42_method_3_code 5 = .ok (.aconst_null, 1) := by decide +kernel
theorem d_jdk_42_method_3_code_6 : decode jdk_42_method_3_code 6 = .ok (.invokespecial 27, 3) := by decide +kernel
theorem w_11 {Z : State} {a0 : Array Value} (G : Cl Z a0) : (Jvm.Cond.methodLink "java/lang/String" 27 (⟨"java/lang/String", "<init>", "([CIILjava/lang/Void;)V"⟩ : MethodName)).before a0 Z = true := G.1 _ (List.mem_of_getElem? (l := tables_1) (i := 11) rfl)
theorem w_6 {Z : State} {a0 : Array Value} (G : Cl Z a0) : (Jvm.Cond.initialized "java/lang/String").before a0 Z = true := G.1 _ (List.mem_of_getElem? (l := tables_1) (i := 6) rfl)
theorem w_14 {Z : State} {a0 : Array Value} (G : Cl Z a0) : (Jvm.Cond.code (⟨"java/lang/String", "<init>", "([CIILjava/lang/Void;)V"⟩ : MethodName) jdk_42_method_149_code 6 none).before a0 Z = true := G.1 _ (List.mem_of_getElem? (l := tables_1) (i := 14) rfl)
theorem pd_5 : parseMethodDescriptor "([CIILjava/lang/Void;)V" = some ⟨[(.array .char), .int, .int, (.object "java/lang/Void")], none⟩ := by decide +kernel
theorem w_12 {Z : State} {a0 : Array Value} (G : Cl Z a0) : (Jvm.Cond.instanceMethod (⟨"java/lang/String", "<init>", "([CIILjava/lang/Void;)V"⟩ : MethodName)).before a0 Z = true := G.1 _ (List.mem_of_getElem? (l := tables_1) (i := 12) rfl)
theorem d_jdk_42_method_3_code_9 : decode jdk_42_method_3_code 9 = .ok (.return_, 1) := by decide +kernel
set_option maxRecDepth 65536 in
set_option maxHeartbeats 40000000 in
theorem rm_initC0 {l : Launch} {Z : State} {a0 : Array Value} (G : Cl Z a0) (a ac : Addr) (c cc : Cell) (A : ArrC Z cc .char []) (hO : ObjC Z c "java/lang/String") (hC : FldC Z c "java/lang/String" "coder" "B" (.int 0)) (hV : FldC Z c "java/lang/String" "value" "[B" .null) :
    Met l Z EL1 (⟨"java/lang/String", "<init>", "([C)V"⟩ : MethodName) jdk_42_method_3_code 2 none ({ frames := 2, cells := 4, slots := 8, locals := 29 } : Room) #[.ref a, .ref ac] [(a, c), (ac, cc)] [] (fun v σ ρ => ∃ c' b cb, v = none ∧ σ = [(ac, cc)] ∧ ρ = [(a, c'), (b, cb)] ∧ StrL Z c' b cb []) := by
  refine Met.walk G.2.1 pn_2 #[.val (.ref a), .val (.ref ac)] (fun m => by first | (simp [entryFrame, mkF, argsToLocals, Value.category]; done) | rfl) ?_
  intro X T0 W0
  refine Go.aloadN (pc' := 1) W0 d_jdk_42_method_3_code_0 rfl rfl rfl ?_
  refine Go.aloadN (pc' := 2) W0 d_jdk_42_method_3_code_1 rfl rfl rfl ?_
  refine Go.iconst (pc' := 3) W0 (0 : Int32) d_jdk_42_method_3_code_2 (by decide) rfl ?_
  refine Go.aloadN (pc' := 4) W0 d_jdk_42_method_3_code_3 rfl rfl rfl ?_
  refine Go.arrlen (pc' := 5) W0 (Or.inl (List.mem_of_getElem? (i := 1) rfl)) A (0 : Int32) rfl d_jdk_42_method_3_code_4 rfl ?_
  refine Go.aconstNull (pc' := 6) W0 d_jdk_42_method_3_code_5 rfl ?_
  refine Go.special (pc' := 9) W0 (a := a) (rm_initV0 G a ac c cc A hO hC hV) rfl (w_11 G) (w_12 G) (w_6 G) (w_14 G) (by decide) [0, 0] [] (σf := []) rfl rfl [(.ref ac), (.int (0 : Int32)), (.int (0 : Int32)), (.null)] [] rfl (lenOf pd_5 rfl) rfl rfl d_jdk_42_method_3_code_6 rfl (by first | exact Nat.le_of_ble_eq_true rfl | (simp; done) | (simp; omega) | omega) (by first | exact Nat.le_of_ble_eq_true rfl | (simp; done) | (simp; omega) | omega) (by first | exact Nat.le_of_ble_eq_true rfl | (simp; done) | (simp; omega) | omega) (by first | exact Nat.le_of_ble_eq_true rfl | (simp; done) | (simp; omega) | omega) ?_
  rintro _ _ _ T1 ⟨c', b, cb, rfl, rfl, rfl, S⟩ W2
  replace W2 : Wk l Z EL1 ({ frames := 2, cells := 4, slots := 8, locals := 29 } : Room) "java/lang/String" jdk_42_method_3_code 2 none "<init>" X [(ac, cc)] [(a, c'), (b, cb)] T1 4 (8) := W2
  show Go Z EL1 _ _ _ X T1 9 #[.val (.ref a), .val (.ref ac)] []
  refine Go.retV W2 d_jdk_42_method_3_code_9 (by first | exact Nat.le_of_ble_eq_true rfl | (simp; done) | (simp; omega) | omega) (by first | exact Nat.le_of_ble_eq_true rfl | (simp; done) | (simp; omega) | omega) ?_
  exact ⟨c', b, cb, rfl, rfl, rfl, S⟩
set_option maxRecDepth 65536 in
set_option maxHeartbeats 40000000 in
theorem rm_initC {l : Launch} {Z : State} {a0 : Array Value} (G : Cl Z a0) (a ac : Addr) (c cc : Cell) (cs : List Int32) (A : ArrC Z cc .char (chV cs)) (hO : ObjC Z c "java/lang/String") (hC : FldC Z c "java/lang/String" "coder" "B" (.int 0)) (hV : FldC Z c "java/lang/String" "value" "[B" .null) (hl : Lat cs) (hn : cs.length < 65536) (h0 : ¬ cs.length.toInt32 = 0) :
    Met l Z EL1 (⟨"java/lang/String", "<init>", "([C)V"⟩ : MethodName) jdk_42_method_3_code 2 none ({ frames := 3, cells := 1, slots := cs.length, locals := 52 } : Room) #[.ref a, .ref ac] [(a, c), (ac, cc)] [] (fun v σ ρ => ∃ c' b cb, v = none ∧ σ = [(ac, cc)] ∧ ρ = [(a, c'), (b, cb)] ∧ StrL Z c' b cb cs) := by
  refine Met.walk G.2.1 pn_2 #[.val (.ref a), .val (.ref ac)] (fun m => by first | (simp [entryFrame, mkF, argsToLocals, Value.category]; done) | rfl) ?_
  intro X T0 W0
  refine Go.aloadN (pc' := 1) W0 d_jdk_42_method_3_code_0 rfl rfl rfl ?_
  refine Go.aloadN (pc' := 2) W0 d_jdk_42_method_3_code_1 rfl rfl rfl ?_
  refine Go.iconst (pc' := 3) W0 (0 : Int32) d_jdk_42_method_3_code_2 (by decide) rfl ?_
  refine Go.aloadN (pc' := 4) W0 d_jdk_42_method_3_code_3 rfl rfl rfl ?_
  refine Go.arrlen (pc' := 5) W0 (Or.inl (List.mem_of_getElem? (i := 1) rfl)) A cs.length.toInt32 (by rw [chV, List.length_map]) d_jdk_42_method_3_code_4 rfl ?_
  refine Go.aconstNull (pc' := 6) W0 d_jdk_42_method_3_code_5 rfl ?_
  refine Go.special (pc' := 9) W0 (a := a) (rm_initV G a ac c cc cs A hO hC hV hl hn h0) rfl (w_11 G) (w_12 G) (w_6 G) (w_14 G) (by decide) [0, 0] [] (σf := []) rfl rfl [(.ref ac), (.int (0 : Int32)), (.int cs.length.toInt32), (.null)] [] rfl (lenOf pd_5 rfl) rfl rfl d_jdk_42_method_3_code_6 rfl (by first | exact Nat.le_of_ble_eq_true rfl | (simp; done) | (simp; omega) | omega) (by first | exact Nat.le_of_ble_eq_true rfl | (simp; done) | (simp; omega) | omega) (by first | exact Nat.le_of_ble_eq_true rfl | (simp; done) | (simp; omega) | omega) (by first | exact Nat.le_of_ble_eq_true rfl | (simp; done) | (simp; omega) | omega) ?_
  rintro _ _ _ T1 ⟨c', b, cb, rfl, rfl, rfl, S⟩ W2
  replace W2 : Wk l Z EL1 ({ frames := 3, cells := 1, slots := cs.length, locals := 52 } : Room) "java/lang/String" jdk_42_method_3_code 2 none "<init>" X [(ac, cc)] [(a, c'), (b, cb)] T1 1 (0 + cs.length) := W2
  show Go Z EL1 _ _ _ X T1 9 #[.val (.ref a), .val (.ref ac)] []
  refine Go.retV W2 d_jdk_42_method_3_code_9 (by first | exact Nat.le_of_ble_eq_true rfl | (simp; done) | (simp; omega) | omega) (by first | exact Nat.le_of_ble_eq_true rfl | (simp; done) | (simp; omega) | omega) ?_
  exact ⟨c', b, cb, rfl, rfl, rfl, S⟩
theorem d_jdk_42_method_55_code_0 : decode jdk_42_method_55_code 0 = .ok (.aload_n 0, 1) := by decide +kernel
theorem d_jdk_42_method_55_code_1 : decode jdk_42_method_55_code 1 = .ok (.getfield 9, 3) := by decide +kernel
theorem d_jdk_42_method_55_code_4 : decode jdk_42_method_55_code 4 = .ok (.arraylength, 1) := by decide +kernel
theorem d_jdk_42_method_55_code_5 : decode jdk_42_method_55_code 5 = .ok (.ifCond .ne 7, 3) := by decide +kernel
theorem d_jdk_42_method_55_code_12 : decode jdk_42_method_55_code 12 = .ok (.iconst 0, 1) := by decide +kernel
theorem d_jdk_42_method_55_code_13 : decode jdk_42_method_55_code 13 = .ok (.ireturn, 1) := by decide +kernel
theorem d_jdk_42_method_55_code_8 : decode jdk_42_method_55_code 8 = .ok (.iconst 1, 1) := by decide +kernel
theorem d_jdk_42_method_55_code_9 : decode jdk_42_method_55_code 9 = .ok (.goto 4, 3) := by decide +kernel
set_option maxRecDepth 65536 in
set_option maxHeartbeats 40000000 in
theorem rm_ise {l : Launch} {Z : State} {a0 : Array Value} (G : Cl Z a0) (a b : Addr) (c cb : Cell) (cs : List Int32) (S : StrL Z c b cb cs) :
    Met l Z EL1 (⟨"java/lang/String", "isEmpty", "()Z"⟩ : MethodName) jdk_42_method_55_code 1 (some .boolean) ({ frames := 0, cells := 0, slots := 0, locals := 0 } : Room) #[.ref a] [] [(a, c), (b, cb)] (fun v σ ρ => v = some (.int (if cs = [] then 1 else 0)) ∧ σ = [] ∧ ρ = []) := by
  refine Met.walk G.2.1 pn_2 #[.val (.ref a)] (fun m => by first | (simp [entryFrame, mkF, argsToLocals, Value.category]; done) | rfl) ?_
  intro X T0 W0
  refine Go.aloadN (pc' := 1) W0 d_jdk_42_method_55_code_0 rfl rfl rfl ?_
  refine Go.getfield (pc' := 4) W0 (Or.inr (Or.inl (List.mem_of_getElem? (i := 0) rfl))) (w_24 G) Via.refl S.2.2.1 d_jdk_42_method_55_code_1 rfl (fun T1 W2 => ?_)
  refine Go.arrlen (pc' := 5) W2 (Or.inr (Or.inl (List.mem_of_getElem? (i := 1) rfl))) S.2.2.2.1 cs.length.toInt32 (by rw [latB, List.length_map]) d_jdk_42_method_55_code_4 rfl ?_
  refine Go.if_ne (pc' := 8) W2 12 d_jdk_42_method_55_code_5 (by decide) rfl (fun (c3 : ¬ (cs.length.toInt32 = 0)) => ?_) (fun (c3 : cs.length.toInt32 = 0) => ?_)
  · refine Go.iconst (pc' := 13) W2 (0 : Int32) d_jdk_42_method_55_code_12 (by decide) rfl ?_
    have W4 := W2.keepRo [] (ρ' := []) rfl
    replace W4 : Wk l Z EL1 ({ frames := 0, cells := 0, slots := 0, locals := 0 } : Room) "java/lang/String" jdk_42_method_55_code 1 (some .boolean) "isEmpty" X [] [] T1 0 (0) := W4
    refine Go.nret (z' := (0 : Int32)) W4 (by simp) (by decide) d_jdk_42_method_55_code_13 (by first | exact Nat.le_of_ble_eq_true rfl | (simp; done) | (simp; omega) | omega) (by first | exact Nat.le_of_ble_eq_true rfl | (simp; done) | (simp; omega) | omega) ?_
    exact ⟨by rw [if_neg (fun q => c3 (by rw [q]; rfl))], rfl, rfl⟩
  · refine Go.iconst (pc' := 9) W2 (1 : Int32) d_jdk_42_method_55_code_8 (by decide) rfl ?_
    refine Go.goto W2 13 d_jdk_42_method_55_code_9 (by decide) ?_
    have W5 := W2.keepRo [] (ρ' := []) rfl
    replace W5 : Wk l Z EL1 ({ frames := 0, cells := 0, slots := 0, locals := 0 } : Room) "java/lang/String" jdk_42_method_55_code 1 (some .boolean) "isEmpty" X [] [] T1 0 (0) := W5
    refine Go.nret (z' := (1 : Int32)) W5 (by simp) (by decide) d_jdk_42_method_55_code_13 (by first | exact Nat.le_of_ble_eq_true rfl | (simp; done) | (simp; omega) | omega) (by first | exact Nat.le_of_ble_eq_true rfl | (simp; done) | (simp; omega) | omega) ?_
    exact ⟨by rw [if_pos (len0 S.2.2.2.1 c3)], rfl, rfl⟩
theorem pn_6 : plainName "java/lang/Record" = true := by first | (simp [plainName, overriddenIn]; done) | decide +kernel
theorem d_jdk_30_method_1_code_0 : decode jdk_30_method_1_code 0 = .ok (.aload_n 0, 1) := by decide +kernel
theorem d_jdk_30_method_1_code_1 : decode jdk_30_method_1_code 1 = .ok (.invokespecial 1, 3) := by decide +kernel
theorem w_52 {Z : State} {a0 : Array Value} (G : Cl Z a0) : (Jvm.Cond.methodLink "java/lang/Record" 1 (⟨"java/lang/Object", "<init>", "()V"⟩ : MethodName)).before a0 Z = true := G.1 _ (List.mem_of_getElem? (l := tables_1) (i := 52) rfl)
theorem d_jdk_30_method_1_code_4 : decode jdk_30_method_1_code 4 = .ok (.return_, 1) := by decide +kernel
set_option maxRecDepth 65536 in
set_option maxHeartbeats 40000000 in
theorem rm_rec {l : Launch} {Z : State} {a0 : Array Value} (G : Cl Z a0) (a : Addr) :
    Met l Z EL1 (⟨"java/lang/Record", "<init>", "()V"⟩ : MethodName) jdk_30_method_1_code 1 none ({ frames := 1, cells := 0, slots := 0, locals := 12 } : Room) #[.ref a] [] [] (fun v σ ρ => v = none ∧ σ = [] ∧ ρ = []) := by
  refine Met.walk G.2.1 pn_6 #[.val (.ref a)] (fun m => by first | (simp [entryFrame, mkF, argsToLocals, Value.category]; done) | rfl) ?_
  intro X T0 W0
  refine Go.aloadN (pc' := 1) W0 d_jdk_30_method_1_code_0 rfl rfl rfl ?_
  refine Go.objInit (pc' := 4) W0 (w_52 G) (w_16 G) (w_17 G) rfl d_jdk_30_method_1_code_1 rfl (by first | exact Nat.le_of_ble_eq_true rfl | (simp; done) | (simp; omega) | omega) (by first | exact Nat.le_of_ble_eq_true rfl | (simp; done) | (simp; omega) | omega) (fun T1 W2 => ?_)
  refine Go.retV W2 d_jdk_30_method_1_code_4 (by first | exact Nat.le_of_ble_eq_true rfl | (simp; done) | (simp; omega) | omega) (by first | exact Nat.le_of_ble_eq_true rfl | (simp; done) | (simp; omega) | omega) ?_
  exact ⟨rfl, rfl, rfl⟩
theorem pn_7 : plainName "java/lang/StringLatin1" = true := by first | (simp [plainName, overriddenIn]; done) | decide +kernel
theorem d_jdk_43_method_3_code_0 : decode jdk_43_method_3_code 0 = .ok (.iload_n 0, 1) := by decide +kernel
theorem d_jdk_43_method_3_code_1 : decode jdk_43_method_3_code 1 = .ok (.sipush 255, 3) := by decide +kernel
theorem d_jdk_43_method_3_code_4 : decode jdk_43_method_3_code 4 = .ok (.if_icmp .gt 7, 3) := by decide +kernel
theorem d_jdk_43_method_3_code_7 : decode jdk_43_method_3_code 7 = .ok (.iconst 1, 1) := by decide +kernel
theorem d_jdk_43_method_3_code_8 : decode jdk_43_method_3_code 8 = .ok (.goto 4, 3) := by decide +kernel
theorem d_jdk_43_method_3_code_12 : decode jdk_43_method_3_code 12 = .ok (.ireturn, 1) := by decide +kernel
set_option maxRecDepth 65536 in
set_option maxHeartbeats 40000000 in
theorem rm_can {l : Launch} {Z : State} {a0 : Array Value} (G : Cl Z a0) (x : Int32) (hx : ¬ x < 0 ∧ ¬ (255 : Int32) < x) :
    Met l Z EL1 (⟨"java/lang/StringLatin1", "canEncode", "(C)Z"⟩ : MethodName) jdk_43_method_3_code 1 (some .boolean) ({ frames := 0, cells := 0, slots := 0, locals := 0 } : Room) #[.int x] [] [] (fun v σ ρ => v = some (.int 1) ∧ σ = [] ∧ ρ = []) := by
  refine Met.walk G.2.1 pn_7 #[.val (.int x)] (fun m => by first | (simp [entryFrame, mkF, argsToLocals, Value.category]; done) | rfl) ?_
  intro X T0 W0
  refine Go.iloadN (pc' := 1) W0 d_jdk_43_method_3_code_0 rfl rfl ?_
  refine Go.sipush (pc' := 4) W0 (255 : Int32) d_jdk_43_method_3_code_1 (by decide) rfl ?_
  refine Go.icmp_gt (pc' := 7) W0 11 d_jdk_43_method_3_code_4 (by decide) rfl (fun q => absurd q hx.2) (fun _ => ?_)
  refine Go.iconst (pc' := 8) W0 (1 : Int32) d_jdk_43_method_3_code_7 (by decide) rfl ?_
  refine Go.goto W0 12 d_jdk_43_method_3_code_8 (by decide) ?_
  refine Go.nret (z' := (1 : Int32)) W0 (by simp) (by decide) d_jdk_43_method_3_code_12 (by first | exact Nat.le_of_ble_eq_true rfl | (simp; done) | (simp; omega) | omega) (by first | exact Nat.le_of_ble_eq_true rfl | (simp; done) | (simp; omega) | omega) ?_
  exact ⟨rfl, rfl, rfl⟩
theorem d_jdk_43_method_46_code_0 : decode jdk_43_method_46_code 0 = .ok (.iconst 1, 1) := by decide +kernel
theorem d_jdk_43_method_46_code_1 : decode jdk_43_method_46_code 1 = .ok (.newarray .byte, 2) := by decide +kernel
theorem d_jdk_43_method_46_code_3 : decode jdk_43_method_46_code 3 = .ok (.dup, 1) := by decide +kernel
theorem d_jdk_43_method_46_code_4 : decode jdk_43_method_46_code 4 = .ok (.iconst 0, 1) := by decide +kernel
theorem d_jdk_43_method_46_code_5 : decode jdk_43_method_46_code 5 = .ok (.iload_n 0, 1) := by decide +kernel
theorem d_jdk_43_method_46_code_6 : decode jdk_43_method_46_code 6 = .ok (.i2b, 1) := by decide +kernel
theorem d_jdk_43_method_46_code_7 : decode jdk_43_method_46_code 7 = .ok (.bastore, 1) := by decide +kernel
theorem d_jdk_43_method_46_code_8 : decode jdk_43_method_46_code 8 = .ok (.areturn, 1) := by decide +kernel
set_option maxRecDepth 65536 in
set_option maxHeartbeats 40000000 in
theorem rm_tob {l : Launch} {Z : State} {a0 : Array Value} (G : Cl Z a0) (x : Int32) :
    Met l Z EL1 (⟨"java/lang/StringLatin1", "toBytes", "(C)[B"⟩ : MethodName) jdk_43_method_46_code 1 (some (.array .byte)) ({ frames := 0, cells := 1, slots := 1, locals := 0 } : Room) #[.int x] [] [] (fun v σ ρ => ∃ b cb, v = some (.ref b) ∧ σ = [(b, cb)] ∧ ρ = [] ∧ ArrC Z cb .byte [lo8 x]) := by
  refine Met.walk G.2.1 pn_7 #[.val (.int x)] (fun m => by first | (simp [entryFrame, mkF, argsToLocals, Value.category]; done) | rfl) ?_
  intro X T0 W0
  refine Go.iconst (pc' := 1) W0 (1 : Int32) d_jdk_43_method_46_code_0 (by decide) rfl ?_
  refine Go.newarr (pc' := 3) W0 .byte rfl 1 (w_19 G) d_jdk_43_method_46_code_1 rfl (by decide) (by decide) (by decide) (by first | exact Nat.le_of_ble_eq_true rfl | (simp; done) | (simp; omega) | omega) (by first | exact Nat.le_of_ble_eq_true rfl | (simp; done) | (simp; omega) | omega) (fun T1 a3 c4 W2 A5 => ?_)
  replace W2 : Wk l Z EL1 ({ frames := 0, cells := 1, slots := 1, locals := 0 } : Room) "java/lang/StringLatin1" jdk_43_method_46_code 1 (some (.array .byte)) "toBytes" X [(a3, c4)] [] T1 1 (1) := W2
  replace A5 : ArrC Z c4 .byte [(.int (0 : Int32))] := A5
  refine Go.dup (pc' := 4) W2 d_jdk_43_method_46_code_3 rfl rfl ?_
  refine Go.iconst (pc' := 5) W2 (0 : Int32) d_jdk_43_method_46_code_4 (by decide) rfl ?_
  refine Go.iloadN (pc' := 6) W2 d_jdk_43_method_46_code_5 rfl rfl ?_
  refine Go.i2b (pc' := 7) W2 d_jdk_43_method_46_code_6 rfl ?_
  refine Go.bastore (pc' := 8) W2 0 rfl A5 0 (by decide) (by decide) (by simp) d_jdk_43_method_46_code_7 rfl (fun T6 c8 W7 A9 => ?_)
  replace W7 : Wk l Z EL1 ({ frames := 0, cells := 1, slots := 1, locals := 0 } : Room) "java/lang/StringLatin1" jdk_43_method_46_code 1 (some (.array .byte)) "toBytes" X [(a3, c8)] [] T6 1 (1) := W7
  replace A9 : ArrC Z c8 .byte [(.int x.toInt8.toInt32.toInt8.toInt32)] := A9
  refine Go.aret W7 rfl rfl d_jdk_43_method_46_code_8 (by first | exact Nat.le_of_ble_eq_true rfl | (simp; done) | (simp; omega) | omega) (by first | exact Nat.le_of_ble_eq_true rfl | (simp; done) | (simp; omega) | omega) ?_
  exact ⟨a3, c8, rfl, rfl, rfl, by rw [i8_i8] at A9; exact A9⟩
theorem d_jdk_42_method_151_code_0 : decode jdk_42_method_151_code 0 = .ok (.aload_n 0, 1) := by decide +kernel
theorem d_jdk_42_method_151_code_1 : decode jdk_42_method_151_code 1 = .ok (.invokespecial 1, 3) := by decide +kernel
theorem d_jdk_42_method_151_code_4 : decode jdk_42_method_151_code 4 = .ok (.aload_n 0, 1) := by decide +kernel
theorem d_jdk_42_method_151_code_5 : decode jdk_42_method_151_code 5 = .ok (.aload_n 1, 1) := by decide +kernel
theorem d_jdk_42_method_151_code_6 : decode jdk_42_method_151_code 6 = .ok (.putfield 9, 3) := by decide +kernel
theorem d_jdk_42_method_151_code_9 : decode jdk_42_method_151_code 9 = .ok (.aload_n 0, 1) := by decide +kernel
theorem d_jdk_42_method_151_code_10 : decode jdk_42_method_151_code 10 = .ok (.iload_n 2, 1) := by decide +kernel
theorem d_jdk_42_method_151_code_11 : decode jdk_42_method_151_code 11 = .ok (.putfield 15, 3) := by decide +kernel
theorem d_jdk_42_method_151_code_14 : decode jdk_42_method_151_code 14 = .ok (.return_, 1) := by decide +kernel
set_option maxRecDepth 65536 in
set_option maxHeartbeats 40000000 in
theorem rm_initB {l : Launch} {Z : State} {a0 : Array Value} (G : Cl Z a0) (a b : Addr) (c : Cell) (hO : ObjC Z c "java/lang/String") (hC : FldC Z c "java/lang/String" "coder" "B" (.int 0)) (hV : FldC Z c "java/lang/String" "value" "[B" .null) :
    Met l Z EL1 (⟨"java/lang/String", "<init>", "([BB)V"⟩ : MethodName) jdk_42_method_151_code 3 none ({ frames := 1, cells := 0, slots := 0, locals := 12 } : Room) #[.ref a, .ref b, .int (0 : Int32)] [(a, c)] [] (fun v σ ρ => ∃ c', v = none ∧ σ = [(a, c')] ∧ ρ = [] ∧ ObjC Z c' "java/lang/String" ∧ FldC Z c' "java/lang/String" "coder" "B" (.int 0) ∧ FldC Z c' "java/lang/String" "value" "[B" (.ref b)) := by
  refine Met.walk G.2.1 pn_2 #[.val (.ref a), .val (.ref b), .val (.int (0 : Int32))] (fun m => by first | (simp [entryFrame, mkF, argsToLocals, Value.category]; done) | rfl) ?_
  intro X T0 W0
  refine Go.aloadN (pc' := 1) W0 d_jdk_42_method_151_code_0 rfl rfl rfl ?_
  refine Go.objInit (pc' := 4) W0 (w_15 G) (w_16 G) (w_17 G) rfl d_jdk_42_method_151_code_1 rfl (by first | exact Nat.le_of_ble_eq_true rfl | (simp; done) | (simp; omega) | omega) (by first | exact Nat.le_of_ble_eq_true rfl | (simp; done) | (simp; omega) | omega) (fun T1 W2 => ?_)
  refine Go.aloadN (pc' := 5) W2 d_jdk_42_method_151_code_4 rfl rfl rfl ?_
  refine Go.aloadN (pc' := 6) W2 d_jdk_42_method_151_code_5 rfl rfl rfl ?_
  refine Go.putfield (pc' := 9) W2 0 rfl (w_24 G) Via.refl hV hO (Or.inr ⟨(w_20 G), rfl, rfl⟩) (w_5 G) (ty := (.array .byte)) (v' := .ref b) (by decide) rfl rfl d_jdk_42_method_151_code_6 rfl (fun T3 c5 q6 W4 => ?_)
  replace W4 : Wk l Z EL1 ({ frames := 1, cells := 0, slots := 0, locals := 12 } : Room) "java/lang/String" jdk_42_method_151_code 3 none "<init>" X [(a, c5)] [] T3 0 (0) := W4
  have O7 := hO.put' q6
  have F8 := hC.keep' q6 (slot_ne (Or.inr (w_21 G)) (Or.inr (w_20 G)) (by decide) (t := .byte) (t' := (.array .byte)) (by decide) (by decide))
  have F9 := hV.put' q6
  refine Go.aloadN (pc' := 10) W4 d_jdk_42_method_151_code_9 rfl rfl rfl ?_
  refine Go.iloadN (pc' := 11) W4 d_jdk_42_method_151_code_10 rfl rfl ?_
  refine Go.putfield (pc' := 14) W4 0 rfl (w_25 G) Via.refl F8 O7 (Or.inr ⟨(w_21 G), rfl, rfl⟩) (w_5 G) (ty := .byte) (v' := .int (0 : Int32)) (by decide) rfl rfl d_jdk_42_method_151_code_11 rfl (fun T10 c12 q13 W11 => ?_)
  replace W11 : Wk l Z EL1 ({ frames := 1, cells := 0, slots := 0, locals := 12 } : Room) "java/lang/String" jdk_42_method_151_code 3 none "<init>" X [(a, c12)] [] T10 0 (0) := W11
  have O14 := O7.put' q13
  have F15 := F8.put' q13
  have F16 := F9.keep' q13 (slot_ne (Or.inr (w_20 G)) (Or.inr (w_21 G)) (by decide) (t := (.array .byte)) (t' := .byte) (by decide) (by decide))
  refine Go.retV W11 d_jdk_42_method_151_code_14 (by first | exact Nat.le_of_ble_eq_true rfl | (simp; done) | (simp; omega) | omega) (by first | exact Nat.le_of_ble_eq_true rfl | (simp; done) | (simp; omega) | omega) ?_
  exact ⟨_, rfl, rfl, rfl, O14, F15, F16⟩
theorem d_jdk_42_method_139_code_0 : decode jdk_42_method_139_code 0 = .ok (.getstatic 38, 3) := by decide +kernel
theorem d_jdk_42_method_139_code_3 : decode jdk_42_method_139_code 3 = .ok (.ifCond .eq 23, 3) := by decide +kernel
theorem d_jdk_42_method_139_code_6 : decode jdk_42_method_139_code 6 = .ok (.iload_n 0, 1) := by decide +kernel
theorem d_jdk_42_method_139_code_7 : decode jdk_42_method_139_code 7 = .ok (.invokestatic 1015, 3) := by decide +kernel
theorem w_30 {Z : State} {a0 : Array Value} (G : Cl Z a0) : (Jvm.Cond.methodLink "java/lang/String" 1015 (⟨"java/lang/StringLatin1", "canEncode", "(C)Z"⟩ : MethodName)).before a0 Z = true := G.1 _ (List.mem_of_getElem? (l := tables_1) (i := 30) rfl)
theorem w_32 {Z : State} {a0 : Array Value} (G : Cl Z a0) : (Jvm.Cond.initialized "java/lang/StringLatin1").before a0 Z = true := G.1 _ (List.mem_of_getElem? (l := tables_1) (i := 32) rfl)
theorem w_33 {Z : State} {a0 : Array Value} (G : Cl Z a0) : (Jvm.Cond.code (⟨"java/lang/StringLatin1", "canEncode", "(C)Z"⟩ : MethodName) jdk_43_method_3_code 1 (some .boolean)).before a0 Z = true := G.1 _ (List.mem_of_getElem? (l := tables_1) (i := 33) rfl)
theorem pd_8 : parseMethodDescriptor "(C)Z" = some ⟨[.char], some .boolean⟩ := by decide +kernel
theorem w_31 {Z : State} {a0 : Array Value} (G : Cl Z a0) : (Jvm.Cond.static (⟨"java/lang/StringLatin1", "canEncode", "(C)Z"⟩ : MethodName)).before a0 Z = true := G.1 _ (List.mem_of_getElem? (l := tables_1) (i := 31) rfl)
theorem d_jdk_42_method_139_code_10 : decode jdk_42_method_139_code 10 = .ok (.ifCond .eq 16, 3) := by decide +kernel
theorem d_jdk_42_method_139_code_13 : decode jdk_42_method_139_code 13 = .ok (.new 10, 3) := by decide +kernel
theorem w_34 {Z : State} {a0 : Array Value} (G : Cl Z a0) : (Jvm.Cond.classLink "java/lang/String" 10 "java/lang/String").before a0 Z = true := G.1 _ (List.mem_of_getElem? (l := tables_1) (i := 34) rfl)
theorem d_jdk_42_method_139_code_16 : decode jdk_42_method_139_code 16 = .ok (.dup, 1) := by decide +kernel
theorem d_jdk_42_method_139_code_17 : decode jdk_42_method_139_code 17 = .ok (.iload_n 0, 1) := by decide +kernel
theorem d_jdk_42_method_139_code_18 : decode jdk_42_method_139_code 18 = .ok (.invokestatic 1018, 3) := by decide +kernel
theorem w_35 {Z : State} {a0 : Array Value} (G : Cl Z a0) : (Jvm.Cond.methodLink "java/lang/String" 1018 (⟨"java/lang/StringLatin1", "toBytes", "(C)[B"⟩ : MethodName)).before a0 Z = true := G.1 _ (List.mem_of_getElem? (l := tables_1) (i := 35) rfl)
theorem w_37 {Z : State} {a0 : Array Value} (G : Cl Z a0) : (Jvm.Cond.code (⟨"java/lang/StringLatin1", "toBytes", "(C)[B"⟩ : MethodName) jdk_43_method_46_code 1 (some (.array .byte))).before a0 Z = true := G.1 _ (List.mem_of_getElem? (l := tables_1) (i := 37) rfl)
theorem pd_9 : parseMethodDescriptor "(C)[B" = some ⟨[.char], some (.array .byte)⟩ := by decide +kernel
theorem w_36 {Z : State} {a0 : Array Value} (G : Cl Z a0) : (Jvm.Cond.static (⟨"java/lang/StringLatin1", "toBytes", "(C)[B"⟩ : MethodName)).before a0 Z = true := G.1 _ (List.mem_of_getElem? (l := tables_1) (i := 36) rfl)
theorem d_jdk_42_method_139_code_21 : decode jdk_42_method_139_code 21 = .ok (.iconst 0, 1) := by decide +kernel
theorem d_jdk_42_method_139_code_22 : decode jdk_42_method_139_code 22 = .ok (.invokespecial 209, 3) := by decide +kernel
theorem w_38 {Z : State} {a0 : Array Value} (G : Cl Z a0) : (Jvm.Cond.methodLink "java/lang/String" 209 (⟨"java/lang/String", "<init>", "([BB)V"⟩ : MethodName)).before a0 Z = true := G.1 _ (List.mem_of_getElem? (l := tables_1) (i := 38) rfl)
theorem w_40 {Z : State} {a0 : Array Value} (G : Cl Z a0) : (Jvm.Cond.code (⟨"java/lang/String", "<init>", "([BB)V"⟩ : MethodName) jdk_42_method_151_code 3 none).before a0 Z = true := G.1 _ (List.mem_of_getElem? (l := tables_1) (i := 40) rfl)
theorem pd_10 : parseMethodDescriptor "([BB)V" = some ⟨[(.array .byte), .byte], none⟩ := by decide +kernel
theorem w_39 {Z : State} {a0 : Array Value} (G : Cl Z a0) : (Jvm.Cond.instanceMethod (⟨"java/lang/String", "<init>", "([BB)V"⟩ : MethodName)).before a0 Z = true := G.1 _ (List.mem_of_getElem? (l := tables_1) (i := 39) rfl)
theorem d_jdk_42_method_139_code_25 : decode jdk_42_method_139_code 25 = .ok (.areturn, 1) := by decide +kernel
set_option maxRecDepth 65536 in
set_option maxHeartbeats 40000000 in
theorem rm_voc {l : Launch} {Z : State} {a0 : Array Value} (G : Cl Z a0) (x : Int32) (hx : ¬ x < 0 ∧ ¬ (255 : Int32) < x) :
    Met l Z EL1 (⟨"java/lang/String", "valueOf", "(C)Ljava/lang/String;"⟩ : MethodName) jdk_42_method_139_code 1 (some (.object "java/lang/String")) ({ frames := 2, cells := 2, slots := 5, locals := 28 } : Room) #[.int x] [] [] (fun v σ ρ => ∃ a c b cb, v = some (.ref a) ∧ σ = [] ∧ ρ = [(a, c), (b, cb)] ∧ StrL Z c b cb [x]) := by
  refine Met.walk G.2.1 pn_2 #[.val (.int x)] (fun m => by first | (simp [entryFrame, mkF, argsToLocals, Value.category]; done) | rfl) ?_
  intro X T0 W0
  obtain ⟨cv, Scv, hcv⟩ := G.2.2.1
  refine Go.getstatic (pc' := 3) W0 (w_29 G) Via.refl Scv d_jdk_42_method_139_code_0 rfl (fun T1 W2 => ?_)
  refine Go.if_eq (pc' := 6) W2 26 d_jdk_42_method_139_code_3 (by decide) rfl (fun q => absurd q hcv) (fun _ => ?_)
  refine Go.iloadN (pc' := 7) W2 d_jdk_42_method_139_code_6 rfl rfl ?_
  refine Go.static (pc' := 10) W2 (rm_can G x hx) (w_30 G) (w_31 G) (w_32 G) (w_33 G) (by decide) [] [] (σf := []) rfl rfl [(.int x)] [] rfl (lenOf pd_8 rfl) rfl rfl d_jdk_42_method_139_code_7 rfl (by first | exact Nat.le_of_ble_eq_true rfl | (simp; done) | (simp; omega) | omega) (by first | exact Nat.le_of_ble_eq_true rfl | (simp; done) | (simp; omega) | omega) (by first | exact Nat.le_of_ble_eq_true rfl | (simp; done) | (simp; omega) | omega) (by first | exact Nat.le_of_ble_eq_true rfl | (simp; done) | (simp; omega) | omega) ?_
  rintro _ _ _ T3 ⟨rfl, rfl, rfl⟩ W4
  replace W4 : Wk l Z EL1 ({ frames := 2, cells := 2, slots := 5, locals := 28 } : Room) "java/lang/String" jdk_42_method_139_code 1 (some (.object "java/lang/String")) "valueOf" X [] [] T3 0 (0) := W4
  show Go Z EL1 _ _ _ X T3 10 #[.val (.int x)] [(.int (1 : Int32))]
  refine Go.if_eq (pc' := 13) W4 26 d_jdk_42_method_139_code_10 (by decide) rfl (fun q => absurd q (by decide)) (fun _ => ?_)
  refine Go.new (pc' := 16) W4 (w_34 G) (w_5 G) (w_6 G) d_jdk_42_method_139_code_13 rfl (by first | exact Nat.le_of_ble_eq_true rfl | (simp; done) | (simp; omega) | omega) (by first | exact Nat.le_of_ble_eq_true rfl | (simp; done) | (simp; omega) | omega) (fun T5 a7 c8 W6 O9 D10 => ?_)
  replace W6 : Wk l Z EL1 ({ frames := 2, cells := 2, slots := 5, locals := 28 } : Room) "java/lang/String" jdk_42_method_139_code 1 (some (.object "java/lang/String")) "valueOf" X [(a7, c8)] [] T5 1 (4) := W6
  have F11 : FldC Z c8 "java/lang/String" "value" "[B" (.null) := D10 (Or.inr (w_20 G)) (ty := (.array .byte)) (by decide)
  have F12 : FldC Z c8 "java/lang/String" "coder" "B" (.int (0 : Int32)) := D10 (Or.inr (w_21 G)) (ty := .byte) (by decide)
  refine Go.dup (pc' := 17) W6 d_jdk_42_method_139_code_16 rfl rfl ?_
  refine Go.iloadN (pc' := 18) W6 d_jdk_42_method_139_code_17 rfl rfl ?_
  refine Go.static (pc' := 21) W6 (rm_tob G x) (w_35 G) (w_36 G) (w_32 G) (w_37 G) (by decide) [] [] (σf := [(a7, c8)]) rfl rfl [(.int x)] [(.ref a7), (.ref a7)] rfl (lenOf pd_9 rfl) rfl rfl d_jdk_42_method_139_code_18 rfl (by first | exact Nat.le_of_ble_eq_true rfl | (simp; done) | (simp; omega) | omega) (by first | exact Nat.le_of_ble_eq_true rfl | (simp; done) | (simp; omega) | omega) (by first | exact Nat.le_of_ble_eq_true rfl | (simp; done) | (simp; omega) | omega) (by first | exact Nat.le_of_ble_eq_true rfl | (simp; done) | (simp; omega) | omega) ?_
  rintro _ _ _ T13 ⟨b, cb, rfl, rfl, rfl, B⟩ W14
  replace W14 : Wk l Z EL1 ({ frames := 2, cells := 2, slots := 5, locals := 28 } : Room) "java/lang/String" jdk_42_method_139_code 1 (some (.object "java/lang/String")) "valueOf" X [(b, cb), (a7, c8)] [] T13 2 (5) := W14
  show Go Z EL1 _ _ _ X T13 21 #[.val (.int x)] [(.ref b), (.ref a7), (.ref a7)]
  refine Go.iconst (pc' := 22) W14 (0 : Int32) d_jdk_42_method_139_code_21 (by decide) rfl ?_
  refine Go.special (pc' := 25) W14 (a := a7) (rm_initB G a7 b c8 O9 F12 F11) rfl (w_38 G) (w_39 G) (w_6 G) (w_40 G) (by decide) [1] [] (σf := [(b, cb)]) rfl rfl [(.ref b), (.int (0 : Int32))] [(.ref a7)] rfl (lenOf pd_10 rfl) rfl rfl d_jdk_42_method_139_code_22 rfl (by first | exact Nat.le_of_ble_eq_true rfl | (simp; done) | (simp; omega) | omega) (by first | exact Nat.le_of_ble_eq_true rfl | (simp; done) | (simp; omega) | omega) (by first | exact Nat.le_of_ble_eq_true rfl | (simp; done) | (simp; omega) | omega) (by first | exact Nat.le_of_ble_eq_true rfl | (simp; done) | (simp; omega) | omega) ?_
  rintro _ _ _ T15 ⟨c', rfl, rfl, rfl, hO, hC, hV⟩ W16
  replace W16 : Wk l Z EL1 ({ frames := 2, cells := 2, slots := 5, locals := 28 } : Room) "java/lang/String" jdk_42_method_139_code 1 (some (.object "java/lang/String")) "valueOf" X [(a7, c'), (b, cb)] [] T15 2 (5) := W16
  show Go Z EL1 _ _ _ X T15 25 #[.val (.int x)] [(.ref a7)]
  have W17 := W16.freeze [0, 0] (σi := [(a7, c'), (b, cb)]) (σf := []) rfl
  replace W17 : Wk l Z EL1 ({ frames := 2, cells := 2, slots := 5, locals := 28 } : Room) "java/lang/String" jdk_42_method_139_code 1 (some (.object "java/lang/String")) "valueOf" X [] [(a7, c'), (b, cb)] T15 2 (5) := W17
  refine Go.aret W17 rfl rfl d_jdk_42_method_139_code_25 (by first | exact Nat.le_of_ble_eq_true rfl | (simp; done) | (simp; omega) | omega) (by first | exact Nat.le_of_ble_eq_true rfl | (simp; done) | (simp; omega) | omega) ?_
  exact ⟨_, c', b, cb, rfl, rfl, rfl, hO, hC, hV, B, Lat.cons hx Lat.nil⟩
theorem pn_11 : plainName "java/util/Objects" = true := by first | (simp [plainName, overriddenIn]; done) | decide +kernel
theorem d_jdk_31_method_11_code_0 : decode jdk_31_method_11_code 0 = .ok (.aload_n 0, 1) := by decide +kernel
theorem d_jdk_31_method_11_code_1 : decode jdk_31_method_11_code 1 = .ok (.ifnonnull 12, 3) := by decide +kernel
theorem d_jdk_31_method_11_code_13 : decode jdk_31_method_11_code 13 = .ok (.aload_n 0, 1) := by decide +kernel
theorem d_jdk_31_method_11_code_14 : decode jdk_31_method_11_code 14 = .ok (.areturn, 1) := by decide +kernel
set_option maxRecDepth 65536 in
set_option maxHeartbeats 40000000 in
theorem rm_rnn {l : Launch} {Z : State} {a0 : Array Value} (G : Cl Z a0) (a b : Addr) :
    Met l Z EL1 (⟨"java/util/Objects", "requireNonNull", "(Ljava/lang/Object;Ljava/lang/String;)Ljava/lang/Object;"⟩ : MethodName) jdk_31_method_11_code 2 (some (.object "java/lang/Object")) ({ frames := 0, cells := 0, slots := 0, locals := 0 } : Room) #[.ref a, .ref b] [] [] (fun v σ ρ => v = some (.ref a) ∧ σ = [] ∧ ρ = []) := by
  refine Met.walk G.2.1 pn_11 #[.val (.ref a), .val (.ref b)] (fun m => by first | (simp [entryFrame, mkF, argsToLocals, Value.category]; done) | rfl) ?_
  intro X T0 W0
  refine Go.aloadN (pc' := 1) W0 d_jdk_31_method_11_code_0 rfl rfl rfl ?_
  refine Go.ifnonnull_yes W0 13 d_jdk_31_method_11_code_1 (by decide) ?_
  refine Go.aloadN (pc' := 14) W0 d_jdk_31_method_11_code_13 rfl rfl rfl ?_
  refine Go.aret W0 rfl rfl d_jdk_31_method_11_code_14 (by first | exact Nat.le_of_ble_eq_true rfl | (simp; done) | (simp; omega) | omega) (by first | exact Nat.le_of_ble_eq_true rfl | (simp; done) | (simp; omega) | omega) ?_
  exact ⟨rfl, rfl, rfl⟩
def mkF' (n x : Int32) : List Int32 := if n = 0 then [] else if n = 1 then [x &&& (255 : Int32)] else [x &&& (255 : Int32), (x.toUInt32 >>> ((8 : Int32) &&& 31).toUInt32).toInt32 &&& (255 : Int32)]
theorem mkF_nil (n x : Int32) : mkF' n x = [] ↔ n = 0 := by
  unfold mkF'
  by_cases h : n = 0
  · simp [h]
  · by_cases h1 : n = 1 <;> simp [h, h1]
theorem pn_12 : plainName "com/example/crosscut/crosscut/ModifierHasValuePinLaw" = true := by first | (simp [plainName, overriddenIn]; done) | decide +kernel
theorem d_method_2_code_0 : decode method_2_code 0 = .ok (.iload_n 1, 1) := by decide +kernel
theorem d_method_2_code_1 : decode method_2_code 1 = .ok (.sipush 255, 3) := by decide +kernel
theorem d_method_2_code_4 : decode method_2_code 4 = .ok (.iand, 1) := by decide +kernel
theorem d_method_2_code_5 : decode method_2_code 5 = .ok (.i2c, 1) := by decide +kernel
theorem d_method_2_code_6 : decode method_2_code 6 = .ok (.istore_n 2, 1) := by decide +kernel
theorem d_method_2_code_7 : decode method_2_code 7 = .ok (.iload_n 1, 1) := by decide +kernel
theorem d_method_2_code_8 : decode method_2_code 8 = .ok (.bipush 8, 2) := by decide +kernel
theorem d_method_2_code_10 : decode method_2_code 10 = .ok (.iushr, 1) := by decide +kernel
theorem d_method_2_code_11 : decode method_2_code 11 = .ok (.sipush 255, 3) := by decide +kernel
theorem d_method_2_code_14 : decode method_2_code 14 = .ok (.iand, 1) := by decide +kernel
theorem d_method_2_code_15 : decode method_2_code 15 = .ok (.i2c, 1) := by decide +kernel
theorem d_method_2_code_16 : decode method_2_code 16 = .ok (.istore_n 3, 1) := by decide +kernel
theorem d_method_2_code_17 : decode method_2_code 17 = .ok (.iload_n 0, 1) := by decide +kernel
theorem d_method_2_code_18 : decode method_2_code 18 = .ok (.ifCond .ne 14, 3) := by decide +kernel
theorem d_method_2_code_32 : decode method_2_code 32 = .ok (.iload_n 0, 1) := by decide +kernel
theorem d_method_2_code_33 : decode method_2_code 33 = .ok (.iconst 1, 1) := by decide +kernel
theorem d_method_2_code_34 : decode method_2_code 34 = .ok (.if_icmp .ne 8, 3) := by decide +kernel
theorem d_method_2_code_42 : decode method_2_code 42 = .ok (.new 7, 3) := by decide +kernel
theorem w_4 {Z : State} {a0 : Array Value} (G : Cl Z a0) : (Jvm.Cond.classLink "com/example/crosscut/crosscut/ModifierHasValuePinLaw" 7 "java/lang/String").before a0 Z = true := G.1 _ (List.mem_of_getElem? (l := tables_1) (i := 4) rfl)
theorem d_method_2_code_45 : decode method_2_code 45 = .ok (.dup, 1) := by decide +kernel
theorem d_method_2_code_46 : decode method_2_code 46 = .ok (.iconst 2, 1) := by decide +kernel
theorem d_method_2_code_47 : decode method_2_code 47 = .ok (.newarray .char, 2) := by decide +kernel
theorem w_7 {Z : State} {a0 : Array Value} (G : Cl Z a0) : (Jvm.Cond.arrayClass .char).before a0 Z = true := G.1 _ (List.mem_of_getElem? (l := tables_1) (i := 7) rfl)
theorem d_method_2_code_49 : decode method_2_code 49 = .ok (.dup, 1) := by decide +kernel
theorem d_method_2_code_50 : decode method_2_code 50 = .ok (.iconst 0, 1) := by decide +kernel
theorem d_method_2_code_51 : decode method_2_code 51 = .ok (.iload_n 2, 1) := by decide +kernel
theorem d_method_2_code_52 : decode method_2_code 52 = .ok (.castore, 1) := by decide +kernel
theorem d_method_2_code_53 : decode method_2_code 53 = .ok (.dup, 1) := by decide +kernel
theorem d_method_2_code_54 : decode method_2_code 54 = .ok (.iconst 1, 1) := by decide +kernel
theorem d_method_2_code_55 : decode method_2_code 55 = .ok (.iload_n 3, 1) := by decide +kernel
theorem d_method_2_code_56 : decode method_2_code 56 = .ok (.castore, 1) := by decide +kernel
theorem d_method_2_code_57 : decode method_2_code 57 = .ok (.invokespecial 9, 3) := by decide +kernel
theorem w_8 {Z : State} {a0 : Array Value} (G : Cl Z a0) : (Jvm.Cond.methodLink "com/example/crosscut/crosscut/ModifierHasValuePinLaw" 9 (⟨"java/lang/String", "<init>", "([C)V"⟩ : MethodName)).before a0 Z = true := G.1 _ (List.mem_of_getElem? (l := tables_1) (i := 8) rfl)
theorem w_10 {Z : State} {a0 : Array Value} (G : Cl Z a0) : (Jvm.Cond.code (⟨"java/lang/String", "<init>", "([C)V"⟩ : MethodName) jdk_42_method_3_code 2 none).before a0 Z = true := G.1 _ (List.mem_of_getElem? (l := tables_1) (i := 10) rfl)
theorem pd_13 : parseMethodDescriptor "([C)V" = some ⟨[(.array .char)], none⟩ := by decide +kernel
theorem w_9 {Z : State} {a0 : Array Value} (G : Cl Z a0) : (Jvm.Cond.instanceMethod (⟨"java/lang/String", "<init>", "([C)V"⟩ : MethodName)).before a0 Z = true := G.1 _ (List.mem_of_getElem? (l := tables_1) (i := 9) rfl)
theorem d_method_2_code_60 : decode method_2_code 60 = .ok (.areturn, 1) := by decide +kernel
theorem d_method_2_code_37 : decode method_2_code 37 = .ok (.iload_n 2, 1) := by decide +kernel
theorem d_method_2_code_38 : decode method_2_code 38 = .ok (.invokestatic 12, 3) := by decide +kernel
theorem w_26 {Z : State} {a0 : Array Value} (G : Cl Z a0) : (Jvm.Cond.methodLink "com/example/crosscut/crosscut/ModifierHasValuePinLaw" 12 (⟨"java/lang/String", "valueOf", "(C)Ljava/lang/String;"⟩ : MethodName)).before a0 Z = true := G.1 _ (List.mem_of_getElem? (l := tables_1) (i := 26) rfl)
theorem w_28 {Z : State} {a0 : Array Value} (G : Cl Z a0) : (Jvm.Cond.code (⟨"java/lang/String", "valueOf", "(C)Ljava/lang/String;"⟩ : MethodName) jdk_42_method_139_code 1 (some (.object "java/lang/String"))).before a0 Z = true := G.1 _ (List.mem_of_getElem? (l := tables_1) (i := 28) rfl)
theorem pd_14 : parseMethodDescriptor "(C)Ljava/lang/String;" = some ⟨[.char], some (.object "java/lang/String")⟩ := by decide +kernel
theorem w_27 {Z : State} {a0 : Array Value} (G : Cl Z a0) : (Jvm.Cond.static (⟨"java/lang/String", "valueOf", "(C)Ljava/lang/String;"⟩ : MethodName)).before a0 Z = true := G.1 _ (List.mem_of_getElem? (l := tables_1) (i := 27) rfl)
theorem d_method_2_code_41 : decode method_2_code 41 = .ok (.areturn, 1) := by decide +kernel
theorem d_method_2_code_21 : decode method_2_code 21 = .ok (.new 7, 3) := by decide +kernel
theorem d_method_2_code_24 : decode method_2_code 24 = .ok (.dup, 1) := by decide +kernel
theorem d_method_2_code_25 : decode method_2_code 25 = .ok (.iconst 0, 1) := by decide +kernel
theorem d_method_2_code_26 : decode method_2_code 26 = .ok (.newarray .char, 2) := by decide +kernel
theorem d_method_2_code_28 : decode method_2_code 28 = .ok (.invokespecial 9, 3) := by decide +kernel
theorem d_method_2_code_31 : decode method_2_code 31 = .ok (.areturn, 1) := by decide +kernel
set_option maxRecDepth 65536 in
set_option maxHeartbeats 40000000 in
theorem rm_mk {l : Launch} {Z : State} {a0 : Array Value} (G : Cl Z a0) (n x : Int32) :
    Met l Z EL1 (⟨"com/example/crosscut/crosscut/ModifierHasValuePinLaw", "mk", "(II)Ljava/lang/String;"⟩ : MethodName) method_2_code 4 (some (.object "java/lang/String")) ({ frames := 4, cells := 6, slots := 12, locals := 66 } : Room) #[.int n, .int x] [] [] (fun v σ ρ => ∃ a c b cb, v = some (.ref a) ∧ σ = [] ∧ ρ = [(a, c), (b, cb)] ∧ StrL Z c b cb (mkF' n x)) := by
  refine Met.walk G.2.1 pn_12 #[.val (.int n), .val (.int x), .unset, .unset] (fun m => by first | (simp [entryFrame, mkF, argsToLocals, Value.category]; done) | rfl) ?_
  intro X T0 W0
  refine Go.iloadN (pc' := 1) W0 d_method_2_code_0 rfl rfl ?_
  refine Go.sipush (pc' := 4) W0 (255 : Int32) d_method_2_code_1 (by decide) rfl ?_
  refine Go.iand (pc' := 5) W0 d_method_2_code_4 rfl ?_
  refine Go.i2c (pc' := 6) W0 d_method_2_code_5 rfl ?_
  rw [i2c_id (lat_char (and255 _)).1 (lat_char (and255 _)).2]
  refine Go.istoreN (pc' := 7) W0 #[.val (.int n), .val (.int x), .val (.int (x &&& (255 : Int32))), .unset] d_method_2_code_6 rfl rfl ?_
  refine Go.iloadN (pc' := 8) W0 d_method_2_code_7 rfl rfl ?_
  refine Go.bipush (pc' := 10) W0 (8 : Int32) d_method_2_code_8 (by decide) rfl ?_
  refine Go.iushr (pc' := 11) W0 d_method_2_code_10 rfl ?_
  refine Go.sipush (pc' := 14) W0 (255 : Int32) d_method_2_code_11 (by decide) rfl ?_
  refine Go.iand (pc' := 15) W0 d_method_2_code_14 rfl ?_
  refine Go.i2c (pc' := 16) W0 d_method_2_code_15 rfl ?_
  rw [i2c_id (lat_char (and255 _)).1 (lat_char (and255 _)).2]
  refine Go.istoreN (pc' := 17) W0 #[.val (.int n), .val (.int x), .val (.int (x &&& (255 : Int32))), .val (.int (((x.toUInt32 >>> ((8 : Int32) &&& 31).toUInt32).toInt32) &&& (255 : Int32)))] d_method_2_code_16 rfl rfl ?_
  refine Go.iloadN (pc' := 18) W0 d_method_2_code_17 rfl rfl ?_
  refine Go.if_ne (pc' := 21) W0 32 d_method_2_code_18 (by decide) rfl (fun (c1 : ¬ (n = 0)) => ?_) (fun (c1 : n = 0) => ?_)
  · refine Go.iloadN (pc' := 33) W0 d_method_2_code_32 rfl rfl ?_
    refine Go.iconst (pc' := 34) W0 (1 : Int32) d_method_2_code_33 (by decide) rfl ?_
    refine Go.icmp_ne (pc' := 37) W0 42 d_method_2_code_34 (by decide) rfl (fun (c2 : ¬ (n = (1 : Int32))) => ?_) (fun (c2 : n = (1 : Int32)) => ?_)
    · refine Go.new (pc' := 45) W0 (w_4 G) (w_5 G) (w_6 G) d_method_2_code_42 rfl (by first | exact Nat.le_of_ble_eq_true rfl | (simp; done) | (simp; omega) | omega) (by first | exact Nat.le_of_ble_eq_true rfl | (simp; done) | (simp; omega) | omega) (fun T3 a5 c6 W4 O7 D8 => ?_)
      replace W4 : Wk l Z EL1 ({ frames := 4, cells := 6, slots := 12, locals := 66 } : Room) "com/example/crosscut/crosscut/ModifierHasValuePinLaw" method_2_code 4 (some (.object "java/lang/String")) "mk" X [(a5, c6)] [] T3 1 (4) := W4
      have F9 : FldC Z c6 "java/lang/String" "value" "[B" (.null) := D8 (Or.inr (w_20 G)) (ty := (.array .byte)) (by decide)
      have F10 : FldC Z c6 "java/lang/String" "coder" "B" (.int (0 : Int32)) := D8 (Or.inr (w_21 G)) (ty := .byte) (by decide)
      refine Go.dup (pc' := 46) W4 d_method_2_code_45 rfl rfl ?_
      refine Go.iconst (pc' := 47) W4 (2 : Int32) d_method_2_code_46 (by decide) rfl ?_
      refine Go.newarr (pc' := 49) W4 .char rfl 2 (w_7 G) d_method_2_code_47 rfl (by decide) (by decide) (by decide) (by first | exact Nat.le_of_ble_eq_true rfl | (simp; done) | (simp; omega) | omega) (by first | exact Nat.le_of_ble_eq_true rfl | (simp; done) | (simp; omega) | omega) (fun T11 a13 c14 W12 A15 => ?_)
      replace W12 : Wk l Z EL1 ({ frames := 4, cells := 6, slots := 12, locals := 66 } : Room) "com/example/crosscut/crosscut/ModifierHasValuePinLaw" method_2_code 4 (some (.object "java/lang/String")) "mk" X [(a13, c14), (a5, c6)] [] T11 2 (6) := W12
      replace A15 : ArrC Z c14 .char [(.int (0 : Int32)), (.int (0 : Int32))] := A15
      refine Go.dup (pc' := 50) W12 d_method_2_code_49 rfl rfl ?_
      refine Go.iconst (pc' := 51) W12 (0 : Int32) d_method_2_code_50 (by decide) rfl ?_
      refine Go.iloadN (pc' := 52) W12 d_method_2_code_51 rfl rfl ?_
      refine Go.castore (pc' := 53) W12 0 rfl A15 0 (x &&& (255 : Int32)) (nar_char_id (lat_char (and255 _))) (by decide) (by decide) (by simp) d_method_2_code_52 rfl (fun T16 c18 W17 A19 => ?_)
      replace W17 : Wk l Z EL1 ({ frames := 4, cells := 6, slots := 12, locals := 66 } : Room) "com/example/crosscut/crosscut/ModifierHasValuePinLaw" method_2_code 4 (some (.object "java/lang/String")) "mk" X [(a13, c18), (a5, c6)] [] T16 2 (6) := W17
      replace A19 : ArrC Z c18 .char [(.int (x &&& (255 : Int32))), (.int (0 : Int32))] := A19
      refine Go.dup (pc' := 54) W17 d_method_2_code_53 rfl rfl ?_
      refine Go.iconst (pc' := 55) W17 (1 : Int32) d_method_2_code_54 (by decide) rfl ?_
      refine Go.iloadN (pc' := 56) W17 d_method_2_code_55 rfl rfl ?_
      refine Go.castore (pc' := 57) W17 0 rfl A19 1 (((x.toUInt32 >>> ((8 : Int32) &&& 31).toUInt32).toInt32) &&& (255 : Int32)) (nar_char_id (lat_char (and255 _))) (by decide) (by decide) (by simp) d_method_2_code_56 rfl (fun T20 c22 W21 A23 => ?_)
      replace W21 : Wk l Z EL1 ({ frames := 4, cells := 6, slots := 12, locals := 66 } : Room) "com/example/crosscut/crosscut/ModifierHasValuePinLaw" method_2_code 4 (some (.object "java/lang/String")) "mk" X [(a13, c22), (a5, c6)] [] T20 2 (6) := W21
      replace A23 : ArrC Z c22 .char [(.int (x &&& (255 : Int32))), (.int (((x.toUInt32 >>> ((8 : Int32) &&& 31).toUInt32).toInt32) &&& (255 : Int32)))] := A23
      refine Go.special (pc' := 60) W21 (a := a5) (rm_initC G a5 a13 c6 c22 [x &&& (255 : Int32), ((x.toUInt32 >>> ((8 : Int32) &&& 31).toUInt32).toInt32) &&& (255 : Int32)] A23 O7 F10 F9 (Lat.cons (and255 _) (Lat.cons (and255 _) Lat.nil)) (by simp) (show ¬ (2 : Nat).toInt32 = 0 by decide)) rfl (w_8 G) (w_9 G) (w_6 G) (w_10 G) (by decide) [1, 0] [] (σf := []) rfl rfl [(.ref a13)] [(.ref a5)] rfl (lenOf pd_13 rfl) rfl rfl d_method_2_code_57 rfl (by first | exact Nat.le_of_ble_eq_true rfl | (simp; done) | (simp; omega) | omega) (by first | exact Nat.le_of_ble_eq_true rfl | (simp; done) | (simp; omega) | omega) (by first | exact Nat.le_of_ble_eq_true rfl | (simp; done) | (simp; omega) | omega) (by first | exact Nat.le_of_ble_eq_true rfl | (simp; done) | (simp; omega) | omega) ?_
      rintro _ _ _ T28 ⟨c24, b25, c26, rfl, rfl, rfl, S27⟩ W29
      replace W29 : Wk l Z EL1 ({ frames := 4, cells := 6, slots := 12, locals := 66 } : Room) "com/example/crosscut/crosscut/ModifierHasValuePinLaw" method_2_code 4 (some (.object "java/lang/String")) "mk" X [(a13, c22)] [(a5, c24), (b25, c26)] T28 3 (8) := W29
      show Go Z EL1 _ _ _ X T28 60 #[.val (.int n), .val (.int x), .val (.int (x &&& (255 : Int32))), .val (.int (((x.toUInt32 >>> ((8 : Int32) &&& 31).toUInt32).toInt32) &&& (255 : Int32)))] [(.ref a5)]
      have W30 := W29.drop [0] (σi := [(a13, c22)]) (σf := []) rfl
      replace W30 : Wk l Z EL1 ({ frames := 4, cells := 6, slots := 12, locals := 66 } : Room) "com/example/crosscut/crosscut/ModifierHasValuePinLaw" method_2_code 4 (some (.object "java/lang/String")) "mk" X [] [(a5, c24), (b25, c26)] T28 3 (8) := W30
      have W31 := W30.keepRo [0, 1] (ρ' := [(a5, c24), (b25, c26)]) rfl
      replace W31 : Wk l Z EL1 ({ frames := 4, cells := 6, slots := 12, locals := 66 } : Room) "com/example/crosscut/crosscut/ModifierHasValuePinLaw" method_2_code 4 (some (.object "java/lang/String")) "mk" X [] [(a5, c24), (b25, c26)] T28 3 (8) := W31
      refine Go.aret W31 rfl rfl d_method_2_code_60 (by first | exact Nat.le_of_ble_eq_true rfl | (simp; done) | (simp; omega) | omega) (by first | exact Nat.le_of_ble_eq_true rfl | (simp; done) | (simp; omega) | omega) ?_
      refine ⟨a5, c24, b25, c26, rfl, rfl, rfl, ?_⟩
      have hs : mkF' n x = [x &&& (255 : Int32), ((x.toUInt32 >>> ((8 : Int32) &&& 31).toUInt32).toInt32) &&& (255 : Int32)] := by simp [mkF', c1, c2]
      rw [hs]; exact S27
    · refine Go.iloadN (pc' := 38) W0 d_method_2_code_37 rfl rfl ?_
      refine Go.static (pc' := 41) W0 (rm_voc G (x &&& (255 : Int32)) (and255 _)) (w_26 G) (w_27 G) (w_6 G) (w_28 G) (by decide) [] [] (σf := []) rfl rfl [(.int (x &&& (255 : Int32)))] [] rfl (lenOf pd_14 rfl) rfl rfl d_method_2_code_38 rfl (by first | exact Nat.le_of_ble_eq_true rfl | (simp; done) | (simp; omega) | omega) (by first | exact Nat.le_of_ble_eq_true rfl | (simp; done) | (simp; omega) | omega) (by first | exact Nat.le_of_ble_eq_true rfl | (simp; done) | (simp; omega) | omega) (by first | exact Nat.le_of_ble_eq_true rfl | (simp; done) | (simp; omega) | omega) ?_
      rintro _ _ _ T37 ⟨a32, c33, b34, c35, rfl, rfl, rfl, S36⟩ W38
      replace W38 : Wk l Z EL1 ({ frames := 4, cells := 6, slots := 12, locals := 66 } : Room) "com/example/crosscut/crosscut/ModifierHasValuePinLaw" method_2_code 4 (some (.object "java/lang/String")) "mk" X [] [(a32, c33), (b34, c35)] T37 2 (5) := W38
      show Go Z EL1 _ _ _ X T37 41 #[.val (.int n), .val (.int x), .val (.int (x &&& (255 : Int32))), .val (.int (((x.toUInt32 >>> ((8 : Int32) &&& 31).toUInt32).toInt32) &&& (255 : Int32)))] [(.ref a32)]
      have W39 := W38.drop [] (σi := []) (σf := []) rfl
      replace W39 : Wk l Z EL1 ({ frames := 4, cells := 6, slots := 12, locals := 66 } : Room) "com/example/crosscut/crosscut/ModifierHasValuePinLaw" method_2_code 4 (some (.object "java/lang/String")) "mk" X [] [(a32, c33), (b34, c35)] T37 2 (5) := W39
      have W40 := W39.keepRo [0, 1] (ρ' := [(a32, c33), (b34, c35)]) rfl
      replace W40 : Wk l Z EL1 ({ frames := 4, cells := 6, slots := 12, locals := 66 } : Room) "com/example/crosscut/crosscut/ModifierHasValuePinLaw" method_2_code 4 (some (.object "java/lang/String")) "mk" X [] [(a32, c33), (b34, c35)] T37 2 (5) := W40
      refine Go.aret W40 rfl rfl d_method_2_code_41 (by first | exact Nat.le_of_ble_eq_true rfl | (simp; done) | (simp; omega) | omega) (by first | exact Nat.le_of_ble_eq_true rfl | (simp; done) | (simp; omega) | omega) ?_
      refine ⟨a32, c33, b34, c35, rfl, rfl, rfl, ?_⟩
      have hs : mkF' n x = [x &&& (255 : Int32)] := by simp [mkF', c1, c2]
      rw [hs]; exact S36
  · refine Go.new (pc' := 24) W0 (w_4 G) (w_5 G) (w_6 G) d_method_2_code_21 rfl (by first | exact Nat.le_of_ble_eq_true rfl | (simp; done) | (simp; omega) | omega) (by first | exact Nat.le_of_ble_eq_true rfl | (simp; done) | (simp; omega) | omega) (fun T41 a43 c44 W42 O45 D46 => ?_)
    replace W42 : Wk l Z EL1 ({ frames := 4, cells := 6, slots := 12, locals := 66 } : Room) "com/example/crosscut/crosscut/ModifierHasValuePinLaw" method_2_code 4 (some (.object "java/lang/String")) "mk" X [(a43, c44)] [] T41 1 (4) := W42
    have F47 : FldC Z c44 "java/lang/String" "value" "[B" (.null) := D46 (Or.inr (w_20 G)) (ty := (.array .byte)) (by decide)
    have F48 : FldC Z c44 "java/lang/String" "coder" "B" (.int (0 : Int32)) := D46 (Or.inr (w_21 G)) (ty := .byte) (by decide)
    refine Go.dup (pc' := 25) W42 d_method_2_code_24 rfl rfl ?_
    refine Go.iconst (pc' := 26) W42 (0 : Int32) d_method_2_code_25 (by decide) rfl ?_
    refine Go.newarr (pc' := 28) W42 .char rfl 0 (w_7 G) d_method_2_code_26 rfl (by decide) (by decide) (by decide) (by first | exact Nat.le_of_ble_eq_true rfl | (simp; done) | (simp; omega) | omega) (by first | exact Nat.le_of_ble_eq_true rfl | (simp; done) | (simp; omega) | omega) (fun T49 a51 c52 W50 A53 => ?_)
    replace W50 : Wk l Z EL1 ({ frames := 4, cells := 6, slots := 12, locals := 66 } : Room) "com/example/crosscut/crosscut/ModifierHasValuePinLaw" method_2_code 4 (some (.object "java/lang/String")) "mk" X [(a51, c52), (a43, c44)] [] T49 2 (4) := W50
    replace A53 : ArrC Z c52 .char [] := A53
    refine Go.special (pc' := 31) W50 (a := a43) (rm_initC0 G a43 a51 c44 c52 A53 O45 F48 F47) rfl (w_8 G) (w_9 G) (w_6 G) (w_10 G) (by decide) [1, 0] [] (σf := []) rfl rfl [(.ref a51)] [(.ref a43)] rfl (lenOf pd_13 rfl) rfl rfl d_method_2_code_28 rfl (by first | exact Nat.le_of_ble_eq_true rfl | (simp; done) | (simp; omega) | omega) (by first | exact Nat.le_of_ble_eq_true rfl | (simp; done) | (simp; omega) | omega) (by first | exact Nat.le_of_ble_eq_true rfl | (simp; done) | (simp; omega) | omega) (by first | exact Nat.le_of_ble_eq_true rfl | (simp; done) | (simp; omega) | omega) ?_
    rintro _ _ _ T58 ⟨c54, b55, c56, rfl, rfl, rfl, S57⟩ W59
    replace W59 : Wk l Z EL1 ({ frames := 4, cells := 6, slots := 12, locals := 66 } : Room) "com/example/crosscut/crosscut/ModifierHasValuePinLaw" method_2_code 4 (some (.object "java/lang/String")) "mk" X [(a51, c52)] [(a43, c54), (b55, c56)] T58 6 (12) := W59
    show Go Z EL1 _ _ _ X T58 31 #[.val (.int n), .val (.int x), .val (.int (x &&& (255 : Int32))), .val (.int (((x.toUInt32 >>> ((8 : Int32) &&& 31).toUInt32).toInt32) &&& (255 : Int32)))] [(.ref a43)]
    have W60 := W59.drop [0] (σi := [(a51, c52)]) (σf := []) rfl
    replace W60 : Wk l Z EL1 ({ frames := 4, cells := 6, slots := 12, locals := 66 } : Room) "com/example/crosscut/crosscut/ModifierHasValuePinLaw" method_2_code 4 (some (.object "java/lang/String")) "mk" X [] [(a43, c54), (b55, c56)] T58 6 (12) := W60
    have W61 := W60.keepRo [0, 1] (ρ' := [(a43, c54), (b55, c56)]) rfl
    replace W61 : Wk l Z EL1 ({ frames := 4, cells := 6, slots := 12, locals := 66 } : Room) "com/example/crosscut/crosscut/ModifierHasValuePinLaw" method_2_code 4 (some (.object "java/lang/String")) "mk" X [] [(a43, c54), (b55, c56)] T58 6 (12) := W61
    refine Go.aret W61 rfl rfl d_method_2_code_31 (by first | exact Nat.le_of_ble_eq_true rfl | (simp; done) | (simp; omega) | omega) (by first | exact Nat.le_of_ble_eq_true rfl | (simp; done) | (simp; omega) | omega) ?_
    refine ⟨a43, c54, b55, c56, rfl, rfl, rfl, ?_⟩
    have hs : mkF' n x = [] := by simp [mkF', c1]
    rw [hs]; exact S57
def ModC (Z : State) (c : Cell) (t u w : Value) : Prop := ObjC Z c "com/example/crosscut/crosscut/Modifier" ∧ FldC Z c "com/example/crosscut/crosscut/Modifier" "type" "Ljava/lang/String;" t ∧ FldC Z c "com/example/crosscut/crosscut/Modifier" "comparison" "Ljava/lang/String;" u ∧ FldC Z c "com/example/crosscut/crosscut/Modifier" "value" "Ljava/lang/String;" w
theorem pn_15 : plainName "com/example/crosscut/crosscut/Modifier" = true := by first | (simp [plainName, overriddenIn]; done) | decide +kernel
theorem d_prog_10_method_1_code_0 : decode prog_10_method_1_code 0 = .ok (.aload_n 0, 1) := by decide +kernel
theorem d_prog_10_method_1_code_1 : decode prog_10_method_1_code 1 = .ok (.invokespecial 1, 3) := by decide +kernel
theorem w_47 {Z : State} {a0 : Array Value} (G : Cl Z a0) : (Jvm.Cond.methodLink "com/example/crosscut/crosscut/Modifier" 1 (⟨"java/lang/Record", "<init>", "()V"⟩ : MethodName)).before a0 Z = true := G.1 _ (List.mem_of_getElem? (l := tables_1) (i := 47) rfl)
theorem w_50 {Z : State} {a0 : Array Value} (G : Cl Z a0) : (Jvm.Cond.initialized "java/lang/Record").before a0 Z = true := G.1 _ (List.mem_of_getElem? (l := tables_1) (i := 50) rfl)
theorem w_51 {Z : State} {a0 : Array Value} (G : Cl Z a0) : (Jvm.Cond.code (⟨"java/lang/Record", "<init>", "()V"⟩ : MethodName) jdk_30_method_1_code 1 none).before a0 Z = true := G.1 _ (List.mem_of_getElem? (l := tables_1) (i := 51) rfl)
theorem pd_16 : parseMethodDescriptor "()V" = some ⟨[], none⟩ := by decide +kernel
theorem w_48 {Z : State} {a0 : Array Value} (G : Cl Z a0) : (Jvm.Cond.instanceMethod (⟨"java/lang/Record", "<init>", "()V"⟩ : MethodName)).before a0 Z = true := G.1 _ (List.mem_of_getElem? (l := tables_1) (i := 48) rfl)
theorem d_prog_10_method_1_code_4 : decode prog_10_method_1_code 4 = .ok (.aload_n 1, 1) := by decide +kernel
theorem d_prog_10_method_1_code_5 : decode prog_10_method_1_code 5 = .ok (.ldc 7, 2) := by decide +kernel
theorem w_53 {Z : State} {a0 : Array Value} (G : Cl Z a0) : (Jvm.Cond.stringLink "com/example/crosscut/crosscut/Modifier" 7 "type").before a0 Z = true := G.1 _ (List.mem_of_getElem? (l := tables_1) (i := 53) rfl)
theorem d_prog_10_method_1_code_7 : decode prog_10_method_1_code 7 = .ok (.invokestatic 9, 3) := by decide +kernel
theorem w_54 {Z : State} {a0 : Array Value} (G : Cl Z a0) : (Jvm.Cond.methodLink "com/example/crosscut/crosscut/Modifier" 9 (⟨"java/util/Objects", "requireNonNull", "(Ljava/lang/Object;Ljava/lang/String;)Ljava/lang/Object;"⟩ : MethodName)).before a0 Z = true := G.1 _ (List.mem_of_getElem? (l := tables_1) (i := 54) rfl)
theorem w_56 {Z : State} {a0 : Array Value} (G : Cl Z a0) : (Jvm.Cond.initialized "java/util/Objects").before a0 Z = true := G.1 _ (List.mem_of_getElem? (l := tables_1) (i := 56) rfl)
theorem w_57 {Z : State} {a0 : Array Value} (G : Cl Z a0) : (Jvm.Cond.code (⟨"java/util/Objects", "requireNonNull", "(Ljava/lang/Object;Ljava/lang/String;)Ljava/lang/Object;"⟩ : MethodName) jdk_31_method_11_code 2 (some (.object "java/lang/Object"))).before a0 Z = true := G.1 _ (List.mem_of_getElem? (l := tables_1) (i := 57) rfl)
theorem pd_17 : parseMethodDescriptor "(Ljava/lang/Object;Ljava/lang/String;)Ljava/lang/Object;" = some ⟨[(.object "java/lang/Object"), (.object "java/lang/String")], some (.object "java/lang/Object")⟩ := by decide +kernel
theorem w_55 {Z : State} {a0 : Array Value} (G : Cl Z a0) : (Jvm.Cond.static (⟨"java/util/Objects", "requireNonNull", "(Ljava/lang/Object;Ljava/lang/String;)Ljava/lang/Object;"⟩ : MethodName)).before a0 Z = true := G.1 _ (List.mem_of_getElem? (l := tables_1) (i := 55) rfl)
theorem d_prog_10_method_1_code_10 : decode prog_10_method_1_code 10 = .ok (.pop, 1) := by decide +kernel
theorem d_prog_10_method_1_code_11 : decode prog_10_method_1_code 11 = .ok (.aload_n 2, 1) := by decide +kernel
theorem d_prog_10_method_1_code_12 : decode prog_10_method_1_code 12 = .ok (.ldc 15, 2) := by decide +kernel
theorem w_58 {Z : State} {a0 : Array Value} (G : Cl Z a0) : (Jvm.Cond.stringLink "com/example/crosscut/crosscut/Modifier" 15 "comparison").before a0 Z = true := G.1 _ (List.mem_of_getElem? (l := tables_1) (i := 58) rfl)
theorem d_prog_10_method_1_code_14 : decode prog_10_method_1_code 14 = .ok (.invokestatic 9, 3) := by decide +kernel
theorem d_prog_10_method_1_code_17 : decode prog_10_method_1_code 17 = .ok (.pop, 1) := by decide +kernel
theorem d_prog_10_method_1_code_18 : decode prog_10_method_1_code 18 = .ok (.aload_n 3, 1) := by decide +kernel
theorem d_prog_10_method_1_code_19 : decode prog_10_method_1_code 19 = .ok (.ldc 17, 2) := by decide +kernel
theorem w_59 {Z : State} {a0 : Array Value} (G : Cl Z a0) : (Jvm.Cond.stringLink "com/example/crosscut/crosscut/Modifier" 17 "value").before a0 Z = true := G.1 _ (List.mem_of_getElem? (l := tables_1) (i := 59) rfl)
theorem d_prog_10_method_1_code_21 : decode prog_10_method_1_code 21 = .ok (.invokestatic 9, 3) := by decide +kernel
theorem d_prog_10_method_1_code_24 : decode prog_10_method_1_code 24 = .ok (.pop, 1) := by decide +kernel
theorem d_prog_10_method_1_code_25 : decode prog_10_method_1_code 25 = .ok (.aload_n 2, 1) := by decide +kernel
theorem d_prog_10_method_1_code_26 : decode prog_10_method_1_code 26 = .ok (.invokevirtual 19, 3) := by decide +kernel
theorem w_60 {Z : State} {a0 : Array Value} (G : Cl Z a0) : (Jvm.Cond.methodLink "com/example/crosscut/crosscut/Modifier" 19 (⟨"java/lang/String", "isEmpty", "()Z"⟩ : MethodName)).before a0 Z = true := G.1 _ (List.mem_of_getElem? (l := tables_1) (i := 60) rfl)
theorem w_64 {Z : State} {a0 : Array Value} (G : Cl Z a0) : (Jvm.Cond.code (⟨"java/lang/String", "isEmpty", "()Z"⟩ : MethodName) jdk_42_method_55_code 1 (some .boolean)).before a0 Z = true := G.1 _ (List.mem_of_getElem? (l := tables_1) (i := 64) rfl)
theorem pd_18 : parseMethodDescriptor "()Z" = some ⟨[], some .boolean⟩ := by decide +kernel
theorem w_61 {Z : State} {a0 : Array Value} (G : Cl Z a0) : (Jvm.Cond.declares (⟨"java/lang/String", "isEmpty", "()Z"⟩ : MethodName)).before a0 Z = true := G.1 _ (List.mem_of_getElem? (l := tables_1) (i := 61) rfl)
theorem w_63 {Z : State} {a0 : Array Value} (G : Cl Z a0) : (Jvm.Cond.selects "java/lang/String" (⟨"java/lang/String", "isEmpty", "()Z"⟩ : MethodName) (⟨"java/lang/String", "isEmpty", "()Z"⟩ : MethodName)).before a0 Z = true := G.1 _ (List.mem_of_getElem? (l := tables_1) (i := 63) rfl)
theorem w_62 {Z : State} {a0 : Array Value} (G : Cl Z a0) : (Jvm.Cond.instanceMethod (⟨"java/lang/String", "isEmpty", "()Z"⟩ : MethodName)).before a0 Z = true := G.1 _ (List.mem_of_getElem? (l := tables_1) (i := 62) rfl)
theorem d_prog_10_method_1_code_29 : decode prog_10_method_1_code 29 = .ok (.ifCond .eq 24, 3) := by decide +kernel
theorem d_prog_10_method_1_code_53 : decode prog_10_method_1_code 53 = .ok (.aload_n 0, 1) := by decide +kernel
theorem d_prog_10_method_1_code_54 : decode prog_10_method_1_code 54 = .ok (.aload_n 1, 1) := by decide +kernel
theorem d_prog_10_method_1_code_55 : decode prog_10_method_1_code 55 = .ok (.putfield 34, 3) := by decide +kernel
theorem w_65 {Z : State} {a0 : Array Value} (G : Cl Z a0) : (Jvm.Cond.fieldLink "com/example/crosscut/crosscut/Modifier" 34 "com/example/crosscut/crosscut/Modifier" "type" "Ljava/lang/String;").before a0 Z = true := G.1 _ (List.mem_of_getElem? (l := tables_1) (i := 65) rfl)
theorem w_66 {Z : State} {a0 : Array Value} (G : Cl Z a0) : (Jvm.Cond.laysFinal "com/example/crosscut/crosscut/Modifier" "com/example/crosscut/crosscut/Modifier" "type" "Ljava/lang/String;").before a0 Z = true := G.1 _ (List.mem_of_getElem? (l := tables_1) (i := 66) rfl)
theorem w_42 {Z : State} {a0 : Array Value} (G : Cl Z a0) : (Jvm.Cond.instantiable "com/example/crosscut/crosscut/Modifier" 3).before a0 Z = true := G.1 _ (List.mem_of_getElem? (l := tables_1) (i := 42) rfl)
theorem w_68 {Z : State} {a0 : Array Value} (G : Cl Z a0) : (Jvm.Cond.laysFinal "com/example/crosscut/crosscut/Modifier" "com/example/crosscut/crosscut/Modifier" "comparison" "Ljava/lang/String;").before a0 Z = true := G.1 _ (List.mem_of_getElem? (l := tables_1) (i := 68) rfl)
theorem w_70 {Z : State} {a0 : Array Value} (G : Cl Z a0) : (Jvm.Cond.laysFinal "com/example/crosscut/crosscut/Modifier" "com/example/crosscut/crosscut/Modifier" "value" "Ljava/lang/String;").before a0 Z = true := G.1 _ (List.mem_of_getElem? (l := tables_1) (i := 70) rfl)
theorem d_prog_10_method_1_code_58 : decode prog_10_method_1_code 58 = .ok (.aload_n 0, 1) := by decide +kernel
theorem d_prog_10_method_1_code_59 : decode prog_10_method_1_code 59 = .ok (.aload_n 2, 1) := by decide +kernel
theorem d_prog_10_method_1_code_60 : decode prog_10_method_1_code 60 = .ok (.putfield 39, 3) := by decide +kernel
theorem w_67 {Z : State} {a0 : Array Value} (G : Cl Z a0) : (Jvm.Cond.fieldLink "com/example/crosscut/crosscut/Modifier" 39 "com/example/crosscut/crosscut/Modifier" "comparison" "Ljava/lang/String;").before a0 Z = true := G.1 _ (List.mem_of_getElem? (l := tables_1) (i := 67) rfl)
theorem d_prog_10_method_1_code_63 : decode prog_10_method_1_code 63 = .ok (.aload_n 0, 1) := by decide +kernel
theorem d_prog_10_method_1_code_64 : decode prog_10_method_1_code 64 = .ok (.aload_n 3, 1) := by decide +kernel
theorem d_prog_10_method_1_code_65 : decode prog_10_method_1_code 65 = .ok (.putfield 41, 3) := by decide +kernel
theorem w_69 {Z : State} {a0 : Array Value} (G : Cl Z a0) : (Jvm.Cond.fieldLink "com/example/crosscut/crosscut/Modifier" 41 "com/example/crosscut/crosscut/Modifier" "value" "Ljava/lang/String;").before a0 Z = true := G.1 _ (List.mem_of_getElem? (l := tables_1) (i := 69) rfl)
theorem d_prog_10_method_1_code_68 : decode prog_10_method_1_code 68 = .ok (.return_, 1) := by decide +kernel
theorem d_prog_10_method_1_code_32 : decode prog_10_method_1_code 32 = .ok (.aload_n 3, 1) := by decide +kernel
theorem d_prog_10_method_1_code_33 : decode prog_10_method_1_code 33 = .ok (.invokevirtual 19, 3) := by decide +kernel
theorem d_prog_10_method_1_code_36 : decode prog_10_method_1_code 36 = .ok (.ifCond .ne 17, 3) := by decide +kernel
set_option maxRecDepth 65536 in
set_option maxHeartbeats 40000000 in
theorem rm_mod {l : Launch} {Z : State} {a0 : Array Value} (G : Cl Z a0) (a t u bu w bw : Addr) (c cu cbu cw cbw : Cell) (us ws : List Int32) (Su : StrL Z cu bu cbu us) (Sw : StrL Z cw bw cbw ws) (he : us = [] → ws = []) (M : ModC Z c .null .null .null) :
    Met l Z EL1 (⟨"com/example/crosscut/crosscut/Modifier", "<init>", "(Ljava/lang/String;Ljava/lang/String;Ljava/lang/String;)V"⟩ : MethodName) prog_10_method_1_code 4 none ({ frames := 2, cells := 6, slots := 88, locals := 24 } : Room) #[.ref a, .ref t, .ref u, .ref w] [(a, c)] [(u, cu), (bu, cbu), (w, cw), (bw, cbw)] (fun v σ ρ => ∃ c', v = none ∧ σ = [(a, c')] ∧ ρ = [] ∧ ModC Z c' (.ref t) (.ref u) (.ref w)) := by
  refine Met.walk G.2.1 pn_15 #[.val (.ref a), .val (.ref t), .val (.ref u), .val (.ref w)] (fun m => by first | (simp [entryFrame, mkF, argsToLocals, Value.category]; done) | rfl) ?_
  intro X T0 W0
  refine Go.aloadN (pc' := 1) W0 d_prog_10_method_1_code_0 rfl rfl rfl ?_
  refine Go.special (pc' := 4) W0 (a := a) (rm_rec G a) rfl (w_47 G) (w_48 G) (w_50 G) (w_51 G) (by decide) [] [] (σf := [(a, c)]) rfl rfl [] [] rfl (lenOf pd_16 rfl) rfl rfl d_prog_10_method_1_code_1 rfl (by first | exact Nat.le_of_ble_eq_true rfl | (simp; done) | (simp; omega) | omega) (by first | exact Nat.le_of_ble_eq_true rfl | (simp; done) | (simp; omega) | omega) (by first | exact Nat.le_of_ble_eq_true rfl | (simp; done) | (simp; omega) | omega) (by first | exact Nat.le_of_ble_eq_true rfl | (simp; done) | (simp; omega) | omega) ?_
  rintro _ _ _ T1 ⟨rfl, rfl, rfl⟩ W2
  replace W2 : Wk l Z EL1 ({ frames := 2, cells := 6, slots := 88, locals := 24 } : Room) "com/example/crosscut/crosscut/Modifier" prog_10_method_1_code 4 none "<init>" X [(a, c)] [(u, cu), (bu, cbu), (w, cw), (bw, cbw)] T1 0 (0) := W2
  show Go Z EL1 _ _ _ X T1 4 #[.val (.ref a), .val (.ref t), .val (.ref u), .val (.ref w)] []
  refine Go.aloadN (pc' := 5) W2 d_prog_10_method_1_code_4 rfl rfl rfl ?_
  refine Go.ldcStr (pc' := 7) W2 G.2.1 (w_53 G) (strAtoms G) (by decide) (bs := [(.int (116 : Int32)), (.int (121 : Int32)), (.int (112 : Int32)), (.int (101 : Int32))]) (z := 4) (by decide +kernel) (by decide) (by decide) (by decide) d_prog_10_method_1_code_5 rfl (m := 16) (by decide +kernel) (by decide) (by first | exact Nat.le_of_ble_eq_true rfl | (simp; done) | (simp; omega) | omega) (by first | exact Nat.le_of_ble_eq_true rfl | (simp; done) | (simp; omega) | omega) (fun T3 a5 b6 c7 c8 W4 O9 F10 F11 A12 => ?_)
  replace W4 : Wk l Z EL1 ({ frames := 2, cells := 6, slots := 88, locals := 24 } : Room) "com/example/crosscut/crosscut/Modifier" prog_10_method_1_code 4 none "<init>" X [(a, c)] [(a5, c7), (b6, c8), (u, cu), (bu, cbu), (w, cw), (bw, cbw)] T3 2 (20) := W4
  refine Go.static (pc' := 10) W4 (rm_rnn G t a5) (w_54 G) (w_55 G) (w_56 G) (w_57 G) (by decide) [] [] (σf := [(a, c)]) rfl rfl [(.ref t), (.ref a5)] [] rfl (lenOf pd_17 rfl) rfl rfl d_prog_10_method_1_code_7 rfl (by first | exact Nat.le_of_ble_eq_true rfl | (simp; done) | (simp; omega) | omega) (by first | exact Nat.le_of_ble_eq_true rfl | (simp; done) | (simp; omega) | omega) (by first | exact Nat.le_of_ble_eq_true rfl | (simp; done) | (simp; omega) | omega) (by first | exact Nat.le_of_ble_eq_true rfl | (simp; done) | (simp; omega) | omega) ?_
  rintro _ _ _ T13 ⟨rfl, rfl, rfl⟩ W14
  replace W14 : Wk l Z EL1 ({ frames := 2, cells := 6, slots := 88, locals := 24 } : Room) "com/example/crosscut/crosscut/Modifier" prog_10_method_1_code 4 none "<init>" X [(a, c)] [(a5, c7), (b6, c8), (u, cu), (bu, cbu), (w, cw), (bw, cbw)] T13 2 (20) := W14
  show Go Z EL1 _ _ _ X T13 10 #[.val (.ref a), .val (.ref t), .val (.ref u), .val (.ref w)] [(.ref t)]
  refine Go.pop (pc' := 11) W14 d_prog_10_method_1_code_10 rfl rfl ?_
  refine Go.aloadN (pc' := 12) W14 d_prog_10_method_1_code_11 rfl rfl rfl ?_
  refine Go.ldcStr (pc' := 14) W14 G.2.1 (w_58 G) (strAtoms G) (by decide) (bs := [(.int (99 : Int32)), (.int (111 : Int32)), (.int (109 : Int32)), (.int (112 : Int32)), (.int (97 : Int32)), (.int (114 : Int32)), (.int (105 : Int32)), (.int (115 : Int32)), (.int (111 : Int32)), (.int (110 : Int32))]) (z := 10) (by decide +kernel) (by decide) (by decide) (by decide) d_prog_10_method_1_code_12 rfl (m := 40) (by decide +kernel) (by decide) (by first | exact Nat.le_of_ble_eq_true rfl | (simp; done) | (simp; omega) | omega) (by first | exact Nat.le_of_ble_eq_true rfl | (simp; done) | (simp; omega) | omega) (fun T15 a17 b18 c19 c20 W16 O21 F22 F23 A24 => ?_)
  replace W16 : Wk l Z EL1 ({ frames := 2, cells := 6, slots := 88, locals := 24 } : Room) "com/example/crosscut/crosscut/Modifier" prog_10_method_1_code 4 none "<init>" X [(a, c)] [(a17, c19), (b18, c20), (a5, c7), (b6, c8), (u, cu), (bu, cbu), (w, cw), (bw, cbw)] T15 4 (64) := W16
  refine Go.static (pc' := 17) W16 (rm_rnn G u a17) (w_54 G) (w_55 G) (w_56 G) (w_57 G) (by decide) [] [] (σf := [(a, c)]) rfl rfl [(.ref u), (.ref a17)] [] rfl (lenOf pd_17 rfl) rfl rfl d_prog_10_method_1_code_14 rfl (by first | exact Nat.le_of_ble_eq_true rfl | (simp; done) | (simp; omega) | omega) (by first | exact Nat.le_of_ble_eq_true rfl | (simp; done) | (simp; omega) | omega) (by first | exact Nat.le_of_ble_eq_true rfl | (simp; done) | (simp; omega) | omega) (by first | exact Nat.le_of_ble_eq_true rfl | (simp; done) | (simp; omega) | omega) ?_
  rintro _ _ _ T25 ⟨rfl, rfl, rfl⟩ W26
  replace W26 : Wk l Z EL1 ({ frames := 2, cells := 6, slots := 88, locals := 24 } : Room) "com/example/crosscut/crosscut/Modifier" prog_10_method_1_code 4 none "<init>" X [(a, c)] [(a17, c19), (b18, c20), (a5, c7), (b6, c8), (u, cu), (bu, cbu), (w, cw), (bw, cbw)] T25 4 (64) := W26
  show Go Z EL1 _ _ _ X T25 17 #[.val (.ref a), .val (.ref t), .val (.ref u), .val (.ref w)] [(.ref u)]
  refine Go.pop (pc' := 18) W26 d_prog_10_method_1_code_17 rfl rfl ?_
  refine Go.aloadN (pc' := 19) W26 d_prog_10_method_1_code_18 rfl rfl rfl ?_
  refine Go.ldcStr (pc' := 21) W26 G.2.1 (w_59 G) (strAtoms G) (by decide) (bs := [(.int (118 : Int32)), (.int (97 : Int32)), (.int (108 : Int32)), (.int (117 : Int32)), (.int (101 : Int32))]) (z := 5) (by decide +kernel) (by decide) (by decide) (by decide) d_prog_10_method_1_code_19 rfl (m := 20) (by decide +kernel) (by decide) (by first | exact Nat.le_of_ble_eq_true rfl | (simp; done) | (simp; omega) | omega) (by first | exact Nat.le_of_ble_eq_true rfl | (simp; done) | (simp; omega) | omega) (fun T27 a29 b30 c31 c32 W28 O33 F34 F35 A36 => ?_)
  replace W28 : Wk l Z EL1 ({ frames := 2, cells := 6, slots := 88, locals := 24 } : Room) "com/example/crosscut/crosscut/Modifier" prog_10_method_1_code 4 none "<init>" X [(a, c)] [(a29, c31), (b30, c32), (a17, c19), (b18, c20), (a5, c7), (b6, c8), (u, cu), (bu, cbu), (w, cw), (bw, cbw)] T27 6 (88) := W28
  refine Go.static (pc' := 24) W28 (rm_rnn G w a29) (w_54 G) (w_55 G) (w_56 G) (w_57 G) (by decide) [] [] (σf := [(a, c)]) rfl rfl [(.ref w), (.ref a29)] [] rfl (lenOf pd_17 rfl) rfl rfl d_prog_10_method_1_code_21 rfl (by first | exact Nat.le_of_ble_eq_true rfl | (simp; done) | (simp; omega) | omega) (by first | exact Nat.le_of_ble_eq_true rfl | (simp; done) | (simp; omega) | omega) (by first | exact Nat.le_of_ble_eq_true rfl | (simp; done) | (simp; omega) | omega) (by first | exact Nat.le_of_ble_eq_true rfl | (simp; done) | (simp; omega) | omega) ?_
  rintro _ _ _ T37 ⟨rfl, rfl, rfl⟩ W38
  replace W38 : Wk l Z EL1 ({ frames := 2, cells := 6, slots := 88, locals := 24 } : Room) "com/example/crosscut/crosscut/Modifier" prog_10_method_1_code 4 none "<init>" X [(a, c)] [(a29, c31), (b30, c32), (a17, c19), (b18, c20), (a5, c7), (b6, c8), (u, cu), (bu, cbu), (w, cw), (bw, cbw)] T37 6 (88) := W38
  show Go Z EL1 _ _ _ X T37 24 #[.val (.ref a), .val (.ref t), .val (.ref u), .val (.ref w)] [(.ref w)]
  refine Go.pop (pc' := 25) W38 d_prog_10_method_1_code_24 rfl rfl ?_
  refine Go.aloadN (pc' := 26) W38 d_prog_10_method_1_code_25 rfl rfl rfl ?_
  refine Go.virtual (pc' := 29) W38 (rm_ise G u bu cu cbu _ Su) (Or.inr (Or.inl (List.mem_of_getElem? (i := 6) rfl))) Su.1 (w_60 G) (w_61 G) (w_63 G) (w_62 G) (w_6 G) (w_64 G) (by decide) [] [6, 7] (σf := [(a, c)]) rfl rfl [] [] rfl (lenOf pd_18 rfl) rfl rfl d_prog_10_method_1_code_26 rfl (by first | exact Nat.le_of_ble_eq_true rfl | (simp; done) | (simp; omega) | omega) (by first | exact Nat.le_of_ble_eq_true rfl | (simp; done) | (simp; omega) | omega) (by first | exact Nat.le_of_ble_eq_true rfl | (simp; done) | (simp; omega) | omega) (by first | exact Nat.le_of_ble_eq_true rfl | (simp; done) | (simp; omega) | omega) ?_
  rintro _ _ _ T39 ⟨rfl, rfl, rfl⟩ W40
  replace W40 : Wk l Z EL1 ({ frames := 2, cells := 6, slots := 88, locals := 24 } : Room) "com/example/crosscut/crosscut/Modifier" prog_10_method_1_code 4 none "<init>" X [(a, c)] [(a29, c31), (b30, c32), (a17, c19), (b18, c20), (a5, c7), (b6, c8), (u, cu), (bu, cbu), (w, cw), (bw, cbw)] T39 6 (88) := W40
  show Go Z EL1 _ _ _ X T39 29 #[.val (.ref a), .val (.ref t), .val (.ref u), .val (.ref w)] [(.int (if us = [] then 1 else 0))]
  refine Go.if_eq (pc' := 32) W40 53 d_prog_10_method_1_code_29 (by decide) rfl (fun (c41 : (if us = [] then 1 else 0) = 0) => ?_) (fun (c41 : ¬ ((if us = [] then 1 else 0) = 0)) => ?_)
  · refine Go.aloadN (pc' := 54) W40 d_prog_10_method_1_code_53 rfl rfl rfl ?_
    refine Go.aloadN (pc' := 55) W40 d_prog_10_method_1_code_54 rfl rfl rfl ?_
    refine Go.putfield (pc' := 58) W40 0 rfl (w_65 G) Via.refl M.2.1 M.1 (Or.inr ⟨(w_66 G), rfl, rfl⟩) (w_42 G) (ty := (.object "java/lang/String")) (v' := .ref t) (by decide) rfl rfl d_prog_10_method_1_code_55 rfl (fun T42 c44 q45 W43 => ?_)
    replace W43 : Wk l Z EL1 ({ frames := 2, cells := 6, slots := 88, locals := 24 } : Room) "com/example/crosscut/crosscut/Modifier" prog_10_method_1_code 4 none "<init>" X [(a, c44)] [(a29, c31), (b30, c32), (a17, c19), (b18, c20), (a5, c7), (b6, c8), (u, cu), (bu, cbu), (w, cw), (bw, cbw)] T42 6 (88) := W43
    have O46 := M.1.put' q45
    have F47 := M.2.1.put' q45
    have F48 := M.2.2.1.keep' q45 (slot_ne (Or.inr (w_68 G)) (Or.inr (w_66 G)) (by decide) (t := (.object "java/lang/String")) (t' := (.object "java/lang/String")) (by decide) (by decide))
    have F49 := M.2.2.2.keep' q45 (slot_ne (Or.inr (w_70 G)) (Or.inr (w_66 G)) (by decide) (t := (.object "java/lang/String")) (t' := (.object "java/lang/String")) (by decide) (by decide))
    refine Go.aloadN (pc' := 59) W43 d_prog_10_method_1_code_58 rfl rfl rfl ?_
    refine Go.aloadN (pc' := 60) W43 d_prog_10_method_1_code_59 rfl rfl rfl ?_
    refine Go.putfield (pc' := 63) W43 0 rfl (w_67 G) Via.refl F48 O46 (Or.inr ⟨(w_68 G), rfl, rfl⟩) (w_42 G) (ty := (.object "java/lang/String")) (v' := .ref u) (by decide) rfl rfl d_prog_10_method_1_code_60 rfl (fun T50 c52 q53 W51 => ?_)
    replace W51 : Wk l Z EL1 ({ frames := 2, cells := 6, slots := 88, locals := 24 } : Room) "com/example/crosscut/crosscut/Modifier" prog_10_method_1_code 4 none "<init>" X [(a, c52)] [(a29, c31), (b30, c32), (a17, c19), (b18, c20), (a5, c7), (b6, c8), (u, cu), (bu, cbu), (w, cw), (bw, cbw)] T50 6 (88) := W51
    have O54 := O46.put' q53
    have F55 := F47.keep' q53 (slot_ne (Or.inr (w_66 G)) (Or.inr (w_68 G)) (by decide) (t := (.object "java/lang/String")) (t' := (.object "java/lang/String")) (by decide) (by decide))
    have F56 := F48.put' q53
    have F57 := F49.keep' q53 (slot_ne (Or.inr (w_70 G)) (Or.inr (w_68 G)) (by decide) (t := (.object "java/lang/String")) (t' := (.object "java/lang/String")) (by decide) (by decide))
    refine Go.aloadN (pc' := 64) W51 d_prog_10_method_1_code_63 rfl rfl rfl ?_
    refine Go.aloadN (pc' := 65) W51 d_prog_10_method_1_code_64 rfl rfl rfl ?_
    refine Go.putfield (pc' := 68) W51 0 rfl (w_69 G) Via.refl F57 O54 (Or.inr ⟨(w_70 G), rfl, rfl⟩) (w_42 G) (ty := (.object "java/lang/String")) (v' := .ref w) (by decide) rfl rfl d_prog_10_method_1_code_65 rfl (fun T58 c60 q61 W59 => ?_)
    replace W59 : Wk l Z EL1 ({ frames := 2, cells := 6, slots := 88, locals := 24 } : Room) "com/example/crosscut/crosscut/Modifier" prog_10_method_1_code 4 none "<init>" X [(a, c60)] [(a29, c31), (b30, c32), (a17, c19), (b18, c20), (a5, c7), (b6, c8), (u, cu), (bu, cbu), (w, cw), (bw, cbw)] T58 6 (88) := W59
    have O62 := O54.put' q61
    have F63 := F55.keep' q61 (slot_ne (Or.inr (w_66 G)) (Or.inr (w_70 G)) (by decide) (t := (.object "java/lang/String")) (t' := (.object "java/lang/String")) (by decide) (by decide))
    have F64 := F56.keep' q61 (slot_ne (Or.inr (w_68 G)) (Or.inr (w_70 G)) (by decide) (t := (.object "java/lang/String")) (t' := (.object "java/lang/String")) (by decide) (by decide))
    have F65 := F57.put' q61
    have W66 := W59.keepRo [] (ρ' := []) rfl
    replace W66 : Wk l Z EL1 ({ frames := 2, cells := 6, slots := 88, locals := 24 } : Room) "com/example/crosscut/crosscut/Modifier" prog_10_method_1_code 4 none "<init>" X [(a, c60)] [] T58 6 (88) := W66
    refine Go.retV W66 d_prog_10_method_1_code_68 (by first | exact Nat.le_of_ble_eq_true rfl | (simp; done) | (simp; omega) | omega) (by first | exact Nat.le_of_ble_eq_true rfl | (simp; done) | (simp; omega) | omega) ?_
    exact ⟨_, rfl, rfl, rfl, O62, F63, F64, F65⟩
  · refine Go.aloadN (pc' := 33) W40 d_prog_10_method_1_code_32 rfl rfl rfl ?_
    refine Go.virtual (pc' := 36) W40 (rm_ise G w bw cw cbw _ Sw) (Or.inr (Or.inl (List.mem_of_getElem? (i := 8) rfl))) Sw.1 (w_60 G) (w_61 G) (w_63 G) (w_62 G) (w_6 G) (w_64 G) (by decide) [] [8, 9] (σf := [(a, c)]) rfl rfl [] [] rfl (lenOf pd_18 rfl) rfl rfl d_prog_10_method_1_code_33 rfl (by first | exact Nat.le_of_ble_eq_true rfl | (simp; done) | (simp; omega) | omega) (by first | exact Nat.le_of_ble_eq_true rfl | (simp; done) | (simp; omega) | omega) (by first | exact Nat.le_of_ble_eq_true rfl | (simp; done) | (simp; omega) | omega) (by first | exact Nat.le_of_ble_eq_true rfl | (simp; done) | (simp; omega) | omega) ?_
    rintro _ _ _ T67 ⟨rfl, rfl, rfl⟩ W68
    replace W68 : Wk l Z EL1 ({ frames := 2, cells := 6, slots := 88, locals := 24 } : Room) "com/example/crosscut/crosscut/Modifier" prog_10_method_1_code 4 none "<init>" X [(a, c)] [(a29, c31), (b30, c32), (a17, c19), (b18, c20), (a5, c7), (b6, c8), (u, cu), (bu, cbu), (w, cw), (bw, cbw)] T67 6 (88) := W68
    show Go Z EL1 _ _ _ X T67 36 #[.val (.ref a), .val (.ref t), .val (.ref u), .val (.ref w)] [(.int (if ws = [] then 1 else 0))]
    refine Go.if_ne (pc' := 39) W68 53 d_prog_10_method_1_code_36 (by decide) rfl (fun _ => ?_) (fun q => absurd q (by simp_all))
    refine Go.aloadN (pc' := 54) W68 d_prog_10_method_1_code_53 rfl rfl rfl ?_
    refine Go.aloadN (pc' := 55) W68 d_prog_10_method_1_code_54 rfl rfl rfl ?_
    refine Go.putfield (pc' := 58) W68 0 rfl (w_65 G) Via.refl M.2.1 M.1 (Or.inr ⟨(w_66 G), rfl, rfl⟩) (w_42 G) (ty := (.object "java/lang/String")) (v' := .ref t) (by decide) rfl rfl d_prog_10_method_1_code_55 rfl (fun T69 c71 q72 W70 => ?_)
    replace W70 : Wk l Z EL1 ({ frames := 2, cells := 6, slots := 88, locals := 24 } : Room) "com/example/crosscut/crosscut/Modifier" prog_10_method_1_code 4 none "<init>" X [(a, c71)] [(a29, c31), (b30, c32), (a17, c19), (b18, c20), (a5, c7), (b6, c8), (u, cu), (bu, cbu), (w, cw), (bw, cbw)] T69 6 (88) := W70
    have O73 := M.1.put' q72
    have F74 := M.2.1.put' q72
    have F75 := M.2.2.1.keep' q72 (slot_ne (Or.inr (w_68 G)) (Or.inr (w_66 G)) (by decide) (t := (.object "java/lang/String")) (t' := (.object "java/lang/String")) (by decide) (by decide))
    have F76 := M.2.2.2.keep' q72 (slot_ne (Or.inr (w_70 G)) (Or.inr (w_66 G)) (by decide) (t := (.object "java/lang/String")) (t' := (.object "java/lang/String")) (by decide) (by decide))
    refine Go.aloadN (pc' := 59) W70 d_prog_10_method_1_code_58 rfl rfl rfl ?_
    refine Go.aloadN (pc' := 60) W70 d_prog_10_method_1_code_59 rfl rfl rfl ?_
    refine Go.putfield (pc' := 63) W70 0 rfl (w_67 G) Via.refl F75 O73 (Or.inr ⟨(w_68 G), rfl, rfl⟩) (w_42 G) (ty := (.object "java/lang/String")) (v' := .ref u) (by decide) rfl rfl d_prog_10_method_1_code_60 rfl (fun T77 c79 q80 W78 => ?_)
    replace W78 : Wk l Z EL1 ({ frames := 2, cells := 6, slots := 88, locals := 24 } : Room) "com/example/crosscut/crosscut/Modifier" prog_10_method_1_code 4 none "<init>" X [(a, c79)] [(a29, c31), (b30, c32), (a17, c19), (b18, c20), (a5, c7), (b6, c8), (u, cu), (bu, cbu), (w, cw), (bw, cbw)] T77 6 (88) := W78
    have O81 := O73.put' q80
    have F82 := F74.keep' q80 (slot_ne (Or.inr (w_66 G)) (Or.inr (w_68 G)) (by decide) (t := (.object "java/lang/String")) (t' := (.object "java/lang/String")) (by decide) (by decide))
    have F83 := F75.put' q80
    have F84 := F76.keep' q80 (slot_ne (Or.inr (w_70 G)) (Or.inr (w_68 G)) (by decide) (t := (.object "java/lang/String")) (t' := (.object "java/lang/String")) (by decide) (by decide))
    refine Go.aloadN (pc' := 64) W78 d_prog_10_method_1_code_63 rfl rfl rfl ?_
    refine Go.aloadN (pc' := 65) W78 d_prog_10_method_1_code_64 rfl rfl rfl ?_
    refine Go.putfield (pc' := 68) W78 0 rfl (w_69 G) Via.refl F84 O81 (Or.inr ⟨(w_70 G), rfl, rfl⟩) (w_42 G) (ty := (.object "java/lang/String")) (v' := .ref w) (by decide) rfl rfl d_prog_10_method_1_code_65 rfl (fun T85 c87 q88 W86 => ?_)
    replace W86 : Wk l Z EL1 ({ frames := 2, cells := 6, slots := 88, locals := 24 } : Room) "com/example/crosscut/crosscut/Modifier" prog_10_method_1_code 4 none "<init>" X [(a, c87)] [(a29, c31), (b30, c32), (a17, c19), (b18, c20), (a5, c7), (b6, c8), (u, cu), (bu, cbu), (w, cw), (bw, cbw)] T85 6 (88) := W86
    have O89 := O81.put' q88
    have F90 := F82.keep' q88 (slot_ne (Or.inr (w_66 G)) (Or.inr (w_70 G)) (by decide) (t := (.object "java/lang/String")) (t' := (.object "java/lang/String")) (by decide) (by decide))
    have F91 := F83.keep' q88 (slot_ne (Or.inr (w_68 G)) (Or.inr (w_70 G)) (by decide) (t := (.object "java/lang/String")) (t' := (.object "java/lang/String")) (by decide) (by decide))
    have F92 := F84.put' q88
    have W93 := W86.keepRo [] (ρ' := []) rfl
    replace W93 : Wk l Z EL1 ({ frames := 2, cells := 6, slots := 88, locals := 24 } : Room) "com/example/crosscut/crosscut/Modifier" prog_10_method_1_code 4 none "<init>" X [(a, c87)] [] T85 6 (88) := W93
    refine Go.retV W93 d_prog_10_method_1_code_68 (by first | exact Nat.le_of_ble_eq_true rfl | (simp; done) | (simp; omega) | omega) (by first | exact Nat.le_of_ble_eq_true rfl | (simp; done) | (simp; omega) | omega) ?_
    exact ⟨_, rfl, rfl, rfl, O89, F90, F91, F92⟩
theorem d_prog_10_method_3_code_0 : decode prog_10_method_3_code 0 = .ok (.aload_n 0, 1) := by decide +kernel
theorem d_prog_10_method_3_code_1 : decode prog_10_method_3_code 1 = .ok (.getfield 39, 3) := by decide +kernel
theorem d_prog_10_method_3_code_4 : decode prog_10_method_3_code 4 = .ok (.invokevirtual 19, 3) := by decide +kernel
theorem d_prog_10_method_3_code_7 : decode prog_10_method_3_code 7 = .ok (.ifCond .ne 7, 3) := by decide +kernel
theorem d_prog_10_method_3_code_14 : decode prog_10_method_3_code 14 = .ok (.iconst 0, 1) := by decide +kernel
theorem d_prog_10_method_3_code_15 : decode prog_10_method_3_code 15 = .ok (.ireturn, 1) := by decide +kernel
theorem d_prog_10_method_3_code_10 : decode prog_10_method_3_code 10 = .ok (.iconst 1, 1) := by decide +kernel
theorem d_prog_10_method_3_code_11 : decode prog_10_method_3_code 11 = .ok (.goto 4, 3) := by decide +kernel
set_option maxRecDepth 65536 in
set_option maxHeartbeats 40000000 in
theorem rm_hv {l : Launch} {Z : State} {a0 : Array Value} (G : Cl Z a0) (a u bu : Addr) (c cu cbu : Cell) (us : List Int32) (t w : Value) (Su : StrL Z cu bu cbu us) (M : ModC Z c t (.ref u) w) :
    Met l Z EL1 (⟨"com/example/crosscut/crosscut/Modifier", "hasValue", "()Z"⟩ : MethodName) prog_10_method_3_code 1 (some .boolean) ({ frames := 1, cells := 0, slots := 0, locals := 12 } : Room) #[.ref a] [] [(a, c), (u, cu), (bu, cbu)] (fun v σ ρ => v = some (.int (if us = [] then 0 else 1)) ∧ σ = [] ∧ ρ = []) := by
  refine Met.walk G.2.1 pn_15 #[.val (.ref a)] (fun m => by first | (simp [entryFrame, mkF, argsToLocals, Value.category]; done) | rfl) ?_
  intro X T0 W0
  refine Go.aloadN (pc' := 1) W0 d_prog_10_method_3_code_0 rfl rfl rfl ?_
  refine Go.getfield (pc' := 4) W0 (Or.inr (Or.inl (List.mem_of_getElem? (i := 0) rfl))) (w_67 G) Via.refl M.2.2.1 d_prog_10_method_3_code_1 rfl (fun T1 W2 => ?_)
  refine Go.virtual (pc' := 7) W2 (rm_ise G u bu cu cbu _ Su) (Or.inr (Or.inl (List.mem_of_getElem? (i := 1) rfl))) Su.1 (w_60 G) (w_61 G) (w_63 G) (w_62 G) (w_6 G) (w_64 G) (by decide) [] [1, 2] (σf := []) rfl rfl [] [] rfl (lenOf pd_18 rfl) rfl rfl d_prog_10_method_3_code_4 rfl (by first | exact Nat.le_of_ble_eq_true rfl | (simp; done) | (simp; omega) | omega) (by first | exact Nat.le_of_ble_eq_true rfl | (simp; done) | (simp; omega) | omega) (by first | exact Nat.le_of_ble_eq_true rfl | (simp; done) | (simp; omega) | omega) (by first | exact Nat.le_of_ble_eq_true rfl | (simp; done) | (simp; omega) | omega) ?_
  rintro _ _ _ T3 ⟨rfl, rfl, rfl⟩ W4
  replace W4 : Wk l Z EL1 ({ frames := 1, cells := 0, slots := 0, locals := 12 } : Room) "com/example/crosscut/crosscut/Modifier" prog_10_method_3_code 1 (some .boolean) "hasValue" X [] [(a, c), (u, cu), (bu, cbu)] T3 0 (0) := W4
  show Go Z EL1 _ _ _ X T3 7 #[.val (.ref a)] [(.int (if us = [] then 1 else 0))]
  refine Go.if_ne (pc' := 10) W4 14 d_prog_10_method_3_code_7 (by decide) rfl (fun (c5 : ¬ ((if us = [] then 1 else 0) = 0)) => ?_) (fun (c5 : (if us = [] then 1 else 0) = 0) => ?_)
  · refine Go.iconst (pc' := 15) W4 (0 : Int32) d_prog_10_method_3_code_14 (by decide) rfl ?_
    have W6 := W4.keepRo [] (ρ' := []) rfl
    replace W6 : Wk l Z EL1 ({ frames := 1, cells := 0, slots := 0, locals := 12 } : Room) "com/example/crosscut/crosscut/Modifier" prog_10_method_3_code 1 (some .boolean) "hasValue" X [] [] T3 0 (0) := W6
    refine Go.nret (z' := (0 : Int32)) W6 (by simp) (by decide) d_prog_10_method_3_code_15 (by first | exact Nat.le_of_ble_eq_true rfl | (simp; done) | (simp; omega) | omega) (by first | exact Nat.le_of_ble_eq_true rfl | (simp; done) | (simp; omega) | omega) ?_
    exact ⟨by simp_all, rfl, rfl⟩
  · refine Go.iconst (pc' := 11) W4 (1 : Int32) d_prog_10_method_3_code_10 (by decide) rfl ?_
    refine Go.goto W4 15 d_prog_10_method_3_code_11 (by decide) ?_
    have W7 := W4.keepRo [] (ρ' := []) rfl
    replace W7 : Wk l Z EL1 ({ frames := 1, cells := 0, slots := 0, locals := 12 } : Room) "com/example/crosscut/crosscut/Modifier" prog_10_method_3_code 1 (some .boolean) "hasValue" X [] [] T3 0 (0) := W7
    refine Go.nret (z' := (1 : Int32)) W7 (by simp) (by decide) d_prog_10_method_3_code_15 (by first | exact Nat.le_of_ble_eq_true rfl | (simp; done) | (simp; omega) | omega) (by first | exact Nat.le_of_ble_eq_true rfl | (simp; done) | (simp; omega) | omega) ?_
    exact ⟨by simp_all, rfl, rfl⟩
theorem d_code_0 : decode code 0 = .ok (.iload_n 3, 1) := by decide +kernel
theorem d_code_1 : decode code 1 = .ok (.iconst 4, 1) := by decide +kernel
theorem d_code_2 : decode code 2 = .ok (.iushr, 1) := by decide +kernel
theorem d_code_3 : decode code 3 = .ok (.iconst 1, 1) := by decide +kernel
theorem d_code_4 : decode code 4 = .ok (.iand, 1) := by decide +kernel
theorem d_code_5 : decode code 5 = .ok (.istore 4, 2) := by decide +kernel
theorem d_code_7 : decode code 7 = .ok (.iload_n 3, 1) := by decide +kernel
theorem d_code_8 : decode code 8 = .ok (.iconst 3, 1) := by decide +kernel
theorem d_code_9 : decode code 9 = .ok (.iand, 1) := by decide +kernel
theorem d_code_10 : decode code 10 = .ok (.iconst 3, 1) := by decide +kernel
theorem d_code_11 : decode code 11 = .ok (.irem, 1) := by decide +kernel
theorem d_code_12 : decode code 12 = .ok (.istore 5, 2) := by decide +kernel
theorem d_code_14 : decode code 14 = .ok (.iload_n 3, 1) := by decide +kernel
theorem d_code_15 : decode code 15 = .ok (.iconst 2, 1) := by decide +kernel
theorem d_code_16 : decode code 16 = .ok (.iushr, 1) := by decide +kernel
theorem d_code_17 : decode code 17 = .ok (.iconst 3, 1) := by decide +kernel
theorem d_code_18 : decode code 18 = .ok (.iand, 1) := by decide +kernel
theorem d_code_19 : decode code 19 = .ok (.iconst 3, 1) := by decide +kernel
theorem d_code_20 : decode code 20 = .ok (.irem, 1) := by decide +kernel
theorem d_code_21 : decode code 21 = .ok (.istore 6, 2) := by decide +kernel
theorem d_code_23 : decode code 23 = .ok (.iload 5, 2) := by decide +kernel
theorem d_code_25 : decode code 25 = .ok (.ifCond .ne 6, 3) := by decide +kernel
theorem d_code_31 : decode code 31 = .ok (.iload 4, 2) := by decide +kernel
theorem d_code_33 : decode code 33 = .ok (.iload_n 0, 1) := by decide +kernel
theorem d_code_34 : decode code 34 = .ok (.invokestatic 16, 3) := by decide +kernel
theorem w_0 {Z : State} {a0 : Array Value} (G : Cl Z a0) : (Jvm.Cond.methodLink "com/example/crosscut/crosscut/ModifierHasValuePinLaw" 16 (⟨"com/example/crosscut/crosscut/ModifierHasValuePinLaw", "mk", "(II)Ljava/lang/String;"⟩ : MethodName)).before a0 Z = true := G.1 _ (List.mem_of_getElem? (l := tables_1) (i := 0) rfl)
theorem w_2 {Z : State} {a0 : Array Value} (G : Cl Z a0) : (Jvm.Cond.initialized "com/example/crosscut/crosscut/ModifierHasValuePinLaw").before a0 Z = true := G.1 _ (List.mem_of_getElem? (l := tables_1) (i := 2) rfl)
theorem w_3 {Z : State} {a0 : Array Value} (G : Cl Z a0) : (Jvm.Cond.code (⟨"com/example/crosscut/crosscut/ModifierHasValuePinLaw", "mk", "(II)Ljava/lang/String;"⟩ : MethodName) method_2_code 4 (some (.object "java/lang/String"))).before a0 Z = true := G.1 _ (List.mem_of_getElem? (l := tables_1) (i := 3) rfl)
theorem pd_19 : parseMethodDescriptor "(II)Ljava/lang/String;" = some ⟨[.int, .int], some (.object "java/lang/String")⟩ := by decide +kernel
theorem w_1 {Z : State} {a0 : Array Value} (G : Cl Z a0) : (Jvm.Cond.static (⟨"com/example/crosscut/crosscut/ModifierHasValuePinLaw", "mk", "(II)Ljava/lang/String;"⟩ : MethodName)).before a0 Z = true := G.1 _ (List.mem_of_getElem? (l := tables_1) (i := 1) rfl)
theorem d_code_37 : decode code 37 = .ok (.astore 7, 2) := by decide +kernel
theorem d_code_39 : decode code 39 = .ok (.iload 5, 2) := by decide +kernel
theorem d_code_41 : decode code 41 = .ok (.iload_n 1, 1) := by decide +kernel
theorem d_code_42 : decode code 42 = .ok (.invokestatic 16, 3) := by decide +kernel
theorem d_code_45 : decode code 45 = .ok (.astore 8, 2) := by decide +kernel
theorem d_code_47 : decode code 47 = .ok (.iload 6, 2) := by decide +kernel
theorem d_code_49 : decode code 49 = .ok (.iload_n 2, 1) := by decide +kernel
theorem d_code_50 : decode code 50 = .ok (.invokestatic 16, 3) := by decide +kernel
theorem d_code_53 : decode code 53 = .ok (.astore 9, 2) := by decide +kernel
theorem d_code_55 : decode code 55 = .ok (.new 22, 3) := by decide +kernel
theorem w_41 {Z : State} {a0 : Array Value} (G : Cl Z a0) : (Jvm.Cond.classLink "com/example/crosscut/crosscut/ModifierHasValuePinLaw" 22 "com/example/crosscut/crosscut/Modifier").before a0 Z = true := G.1 _ (List.mem_of_getElem? (l := tables_1) (i := 41) rfl)
theorem w_43 {Z : State} {a0 : Array Value} (G : Cl Z a0) : (Jvm.Cond.initialized "com/example/crosscut/crosscut/Modifier").before a0 Z = true := G.1 _ (List.mem_of_getElem? (l := tables_1) (i := 43) rfl)
theorem d_code_58 : decode code 58 = .ok (.dup, 1) := by decide +kernel
theorem d_code_59 : decode code 59 = .ok (.aload 7, 2) := by decide +kernel
theorem d_code_61 : decode code 61 = .ok (.aload 8, 2) := by decide +kernel
theorem d_code_63 : decode code 63 = .ok (.aload 9, 2) := by decide +kernel
theorem d_code_65 : decode code 65 = .ok (.invokespecial 24, 3) := by decide +kernel
theorem w_44 {Z : State} {a0 : Array Value} (G : Cl Z a0) : (Jvm.Cond.methodLink "com/example/crosscut/crosscut/ModifierHasValuePinLaw" 24 (⟨"com/example/crosscut/crosscut/Modifier", "<init>", "(Ljava/lang/String;Ljava/lang/String;Ljava/lang/String;)V"⟩ : MethodName)).before a0 Z = true := G.1 _ (List.mem_of_getElem? (l := tables_1) (i := 44) rfl)
theorem w_46 {Z : State} {a0 : Array Value} (G : Cl Z a0) : (Jvm.Cond.code (⟨"com/example/crosscut/crosscut/Modifier", "<init>", "(Ljava/lang/String;Ljava/lang/String;Ljava/lang/String;)V"⟩ : MethodName) prog_10_method_1_code 4 none).before a0 Z = true := G.1 _ (List.mem_of_getElem? (l := tables_1) (i := 46) rfl)
theorem pd_20 : parseMethodDescriptor "(Ljava/lang/String;Ljava/lang/String;Ljava/lang/String;)V" = some ⟨[(.object "java/lang/String"), (.object "java/lang/String"), (.object "java/lang/String")], none⟩ := by decide +kernel
theorem w_45 {Z : State} {a0 : Array Value} (G : Cl Z a0) : (Jvm.Cond.instanceMethod (⟨"com/example/crosscut/crosscut/Modifier", "<init>", "(Ljava/lang/String;Ljava/lang/String;Ljava/lang/String;)V"⟩ : MethodName)).before a0 Z = true := G.1 _ (List.mem_of_getElem? (l := tables_1) (i := 45) rfl)
theorem d_code_68 : decode code 68 = .ok (.astore 10, 2) := by decide +kernel
theorem d_code_70 : decode code 70 = .ok (.iload 5, 2) := by decide +kernel
theorem d_code_72 : decode code 72 = .ok (.ifCond .eq 7, 3) := by decide +kernel
theorem d_code_75 : decode code 75 = .ok (.iconst 1, 1) := by decide +kernel
theorem d_code_76 : decode code 76 = .ok (.goto 4, 3) := by decide +kernel
theorem d_code_80 : decode code 80 = .ok (.istore 11, 2) := by decide +kernel
theorem d_code_82 : decode code 82 = .ok (.aload 10, 2) := by decide +kernel
theorem d_code_84 : decode code 84 = .ok (.invokevirtual 27, 3) := by decide +kernel
theorem w_71 {Z : State} {a0 : Array Value} (G : Cl Z a0) : (Jvm.Cond.methodLink "com/example/crosscut/crosscut/ModifierHasValuePinLaw" 27 (⟨"com/example/crosscut/crosscut/Modifier", "hasValue", "()Z"⟩ : MethodName)).before a0 Z = true := G.1 _ (List.mem_of_getElem? (l := tables_1) (i := 71) rfl)
theorem w_75 {Z : State} {a0 : Array Value} (G : Cl Z a0) : (Jvm.Cond.code (⟨"com/example/crosscut/crosscut/Modifier", "hasValue", "()Z"⟩ : MethodName) prog_10_method_3_code 1 (some .boolean)).before a0 Z = true := G.1 _ (List.mem_of_getElem? (l := tables_1) (i := 75) rfl)
theorem w_72 {Z : State} {a0 : Array Value} (G : Cl Z a0) : (Jvm.Cond.declares (⟨"com/example/crosscut/crosscut/Modifier", "hasValue", "()Z"⟩ : MethodName)).before a0 Z = true := G.1 _ (List.mem_of_getElem? (l := tables_1) (i := 72) rfl)
theorem w_74 {Z : State} {a0 : Array Value} (G : Cl Z a0) : (Jvm.Cond.selects "com/example/crosscut/crosscut/Modifier" (⟨"com/example/crosscut/crosscut/Modifier", "hasValue", "()Z"⟩ : MethodName) (⟨"com/example/crosscut/crosscut/Modifier", "hasValue", "()Z"⟩ : MethodName)).before a0 Z = true := G.1 _ (List.mem_of_getElem? (l := tables_1) (i := 74) rfl)
theorem w_73 {Z : State} {a0 : Array Value} (G : Cl Z a0) : (Jvm.Cond.instanceMethod (⟨"com/example/crosscut/crosscut/Modifier", "hasValue", "()Z"⟩ : MethodName)).before a0 Z = true := G.1 _ (List.mem_of_getElem? (l := tables_1) (i := 73) rfl)
theorem d_code_87 : decode code 87 = .ok (.iload 11, 2) := by decide +kernel
theorem d_code_89 : decode code 89 = .ok (.if_icmp .ne 7, 3) := by decide +kernel
theorem d_code_96 : decode code 96 = .ok (.iconst 0, 1) := by decide +kernel
theorem d_code_97 : decode code 97 = .ok (.ireturn, 1) := by decide +kernel
theorem d_code_92 : decode code 92 = .ok (.iconst 1, 1) := by decide +kernel
theorem d_code_93 : decode code 93 = .ok (.goto 4, 3) := by decide +kernel
theorem d_code_28 : decode code 28 = .ok (.iconst 0, 1) := by decide +kernel
theorem d_code_29 : decode code 29 = .ok (.istore 6, 2) := by decide +kernel
theorem d_code_79 : decode code 79 = .ok (.iconst 0, 1) := by decide +kernel
set_option maxRecDepth 65536 in
set_option maxHeartbeats 40000000 in
theorem rm_law {l : Launch} {Z : State} {a0 : Array Value} (G : Cl Z a0) (t c v lens : Int32) :
    Met l Z EL1 (⟨"com/example/crosscut/crosscut/ModifierHasValuePinLaw", "law", "(IIII)Z"⟩ : MethodName) code 12 (some .boolean) ({ frames := 8, cells := 40, slots := 4224, locals := 192 } : Room) #[.int t, .int c, .int v, .int lens] [] [] (fun v _ _ => v = some (.int 1)) := by
  refine Met.walk G.2.1 pn_12 #[.val (.int t), .val (.int c), .val (.int v), .val (.int lens), .unset, .unset, .unset, .unset, .unset, .unset, .unset, .unset] (fun m => by first | (simp [entryFrame, mkF, argsToLocals, Value.category]; done) | rfl) ?_
  intro X T0 W0
  refine Go.iloadN (pc' := 1) W0 d_code_0 rfl rfl ?_
  refine Go.iconst (pc' := 2) W0 (4 : Int32) d_code_1 (by decide) rfl ?_
  refine Go.iushr (pc' := 3) W0 d_code_2 rfl ?_
  refine Go.iconst (pc' := 4) W0 (1 : Int32) d_code_3 (by decide) rfl ?_
  refine Go.iand (pc' := 5) W0 d_code_4 rfl ?_
  refine Go.istore (pc' := 7) W0 #[.val (.int t), .val (.int c), .val (.int v), .val (.int lens), .val (.int (((lens.toUInt32 >>> ((4 : Int32) &&& 31).toUInt32).toInt32) &&& (1 : Int32))), .unset, .unset, .unset, .unset, .unset, .unset, .unset] d_code_5 rfl rfl ?_
  refine Go.iloadN (pc' := 8) W0 d_code_7 rfl rfl ?_
  refine Go.iconst (pc' := 9) W0 (3 : Int32) d_code_8 (by decide) rfl ?_
  refine Go.iand (pc' := 10) W0 d_code_9 rfl ?_
  refine Go.iconst (pc' := 11) W0 (3 : Int32) d_code_10 (by decide) rfl ?_
  refine Go.irem (pc' := 12) W0 d_code_11 (by decide) rfl ?_
  refine Go.istore (pc' := 14) W0 #[.val (.int t), .val (.int c), .val (.int v), .val (.int lens), .val (.int (((lens.toUInt32 >>> ((4 : Int32) &&& 31).toUInt32).toInt32) &&& (1 : Int32))), .val (.int ((lens &&& (3 : Int32)) % (3 : Int32))), .unset, .unset, .unset, .unset, .unset, .unset] d_code_12 rfl rfl ?_
  refine Go.iloadN (pc' := 15) W0 d_code_14 rfl rfl ?_
  refine Go.iconst (pc' := 16) W0 (2 : Int32) d_code_15 (by decide) rfl ?_
  refine Go.iushr (pc' := 17) W0 d_code_16 rfl ?_
  refine Go.iconst (pc' := 18) W0 (3 : Int32) d_code_17 (by decide) rfl ?_
  refine Go.iand (pc' := 19) W0 d_code_18 rfl ?_
  refine Go.iconst (pc' := 20) W0 (3 : Int32) d_code_19 (by decide) rfl ?_
  refine Go.irem (pc' := 21) W0 d_code_20 (by decide) rfl ?_
  refine Go.istore (pc' := 23) W0 #[.val (.int t), .val (.int c), .val (.int v), .val (.int lens), .val (.int (((lens.toUInt32 >>> ((4 : Int32) &&& 31).toUInt32).toInt32) &&& (1 : Int32))), .val (.int ((lens &&& (3 : Int32)) % (3 : Int32))), .val (.int ((((lens.toUInt32 >>> ((2 : Int32) &&& 31).toUInt32).toInt32) &&& (3 : Int32)) % (3 : Int32))), .unset, .unset, .unset, .unset, .unset] d_code_21 rfl rfl ?_
  refine Go.iload (pc' := 25) W0 d_code_23 rfl rfl ?_
  refine Go.if_ne (pc' := 28) W0 31 d_code_25 (by decide) rfl (fun (c1 : ¬ (((lens &&& (3 : Int32)) % (3 : Int32)) = 0)) => ?_) (fun (c1 : ((lens &&& (3 : Int32)) % (3 : Int32)) = 0) => ?_)
  · refine Go.iload (pc' := 33) W0 d_code_31 rfl rfl ?_
    refine Go.iloadN (pc' := 34) W0 d_code_33 rfl rfl ?_
    refine Go.static (pc' := 37) W0 (rm_mk G (((lens.toUInt32 >>> ((4 : Int32) &&& 31).toUInt32).toInt32) &&& (1 : Int32)) t) (w_0 G) (w_1 G) (w_2 G) (w_3 G) (by decide) [] [] (σf := []) rfl rfl [(.int (((lens.toUInt32 >>> ((4 : Int32) &&& 31).toUInt32).toInt32) &&& (1 : Int32))), (.int t)] [] rfl (lenOf pd_19 rfl) rfl rfl d_code_34 rfl (by first | exact Nat.le_of_ble_eq_true rfl | (simp; done) | (simp; omega) | omega) (by first | exact Nat.le_of_ble_eq_true rfl | (simp; done) | (simp; omega) | omega) (by first | exact Nat.le_of_ble_eq_true rfl | (simp; done) | (simp; omega) | omega) (by first | exact Nat.le_of_ble_eq_true rfl | (simp; done) | (simp; omega) | omega) ?_
    rintro _ _ _ T7 ⟨a2, c3, b4, c5, rfl, rfl, rfl, S6⟩ W8
    replace W8 : Wk l Z EL1 ({ frames := 8, cells := 40, slots := 4224, locals := 192 } : Room) "com/example/crosscut/crosscut/ModifierHasValuePinLaw" code 12 (some .boolean) "law" X [] [(a2, c3), (b4, c5)] T7 6 (12) := W8
    show Go Z EL1 _ _ _ X T7 37 #[.val (.int t), .val (.int c), .val (.int v), .val (.int lens), .val (.int (((lens.toUInt32 >>> ((4 : Int32) &&& 31).toUInt32).toInt32) &&& (1 : Int32))), .val (.int ((lens &&& (3 : Int32)) % (3 : Int32))), .val (.int ((((lens.toUInt32 >>> ((2 : Int32) &&& 31).toUInt32).toInt32) &&& (3 : Int32)) % (3 : Int32))), .unset, .unset, .unset, .unset, .unset] [(.ref a2)]
    refine Go.astore (pc' := 39) W8 #[.val (.int t), .val (.int c), .val (.int v), .val (.int lens), .val (.int (((lens.toUInt32 >>> ((4 : Int32) &&& 31).toUInt32).toInt32) &&& (1 : Int32))), .val (.int ((lens &&& (3 : Int32)) % (3 : Int32))), .val (.int ((((lens.toUInt32 >>> ((2 : Int32) &&& 31).toUInt32).toInt32) &&& (3 : Int32)) % (3 : Int32))), .val (.ref a2), .unset, .unset, .unset, .unset] d_code_37 rfl rfl rfl ?_
    refine Go.iload (pc' := 41) W8 d_code_39 rfl rfl ?_
    refine Go.iloadN (pc' := 42) W8 d_code_41 rfl rfl ?_
    refine Go.static (pc' := 45) W8 (rm_mk G ((lens &&& (3 : Int32)) % (3 : Int32)) c) (w_0 G) (w_1 G) (w_2 G) (w_3 G) (by decide) [] [] (σf := []) rfl rfl [(.int ((lens &&& (3 : Int32)) % (3 : Int32))), (.int c)] [] rfl (lenOf pd_19 rfl) rfl rfl d_code_42 rfl (by first | exact Nat.le_of_ble_eq_true rfl | (simp; done) | (simp; omega) | omega) (by first | exact Nat.le_of_ble_eq_true rfl | (simp; done) | (simp; omega) | omega) (by first | exact Nat.le_of_ble_eq_true rfl | (simp; done) | (simp; omega) | omega) (by first | exact Nat.le_of_ble_eq_true rfl | (simp; done) | (simp; omega) | omega) ?_
    rintro _ _ _ T14 ⟨a9, c10, b11, c12, rfl, rfl, rfl, S13⟩ W15
    replace W15 : Wk l Z EL1 ({ frames := 8, cells := 40, slots := 4224, locals := 192 } : Room) "com/example/crosscut/crosscut/ModifierHasValuePinLaw" code 12 (some .boolean) "law" X [] [(a9, c10), (b11, c12), (a2, c3), (b4, c5)] T14 12 (24) := W15
    show Go Z EL1 _ _ _ X T14 45 #[.val (.int t), .val (.int c), .val (.int v), .val (.int lens), .val (.int (((lens.toUInt32 >>> ((4 : Int32) &&& 31).toUInt32).toInt32) &&& (1 : Int32))), .val (.int ((lens &&& (3 : Int32)) % (3 : Int32))), .val (.int ((((lens.toUInt32 >>> ((2 : Int32) &&& 31).toUInt32).toInt32) &&& (3 : Int32)) % (3 : Int32))), .val (.ref a2), .unset, .unset, .unset, .unset] [(.ref a9)]
    refine Go.astore (pc' := 47) W15 #[.val (.int t), .val (.int c), .val (.int v), .val (.int lens), .val (.int (((lens.toUInt32 >>> ((4 : Int32) &&& 31).toUInt32).toInt32) &&& (1 : Int32))), .val (.int ((lens &&& (3 : Int32)) % (3 : Int32))), .val (.int ((((lens.toUInt32 >>> ((2 : Int32) &&& 31).toUInt32).toInt32) &&& (3 : Int32)) % (3 : Int32))), .val (.ref a2), .val (.ref a9), .unset, .unset, .unset] d_code_45 rfl rfl rfl ?_
    refine Go.iload (pc' := 49) W15 d_code_47 rfl rfl ?_
    refine Go.iloadN (pc' := 50) W15 d_code_49 rfl rfl ?_
    refine Go.static (pc' := 53) W15 (rm_mk G ((((lens.toUInt32 >>> ((2 : Int32) &&& 31).toUInt32).toInt32) &&& (3 : Int32)) % (3 : Int32)) v) (w_0 G) (w_1 G) (w_2 G) (w_3 G) (by decide) [] [] (σf := []) rfl rfl [(.int ((((lens.toUInt32 >>> ((2 : Int32) &&& 31).toUInt32).toInt32) &&& (3 : Int32)) % (3 : Int32))), (.int v)] [] rfl (lenOf pd_19 rfl) rfl rfl d_code_50 rfl (by first | exact Nat.le_of_ble_eq_true rfl | (simp; done) | (simp; omega) | omega) (by first | exact Nat.le_of_ble_eq_true rfl | (simp; done) | (simp; omega) | omega) (by first | exact Nat.le_of_ble_eq_true rfl | (simp; done) | (simp; omega) | omega) (by first | exact Nat.le_of_ble_eq_true rfl | (simp; done) | (simp; omega) | omega) ?_
    rintro _ _ _ T21 ⟨a16, c17, b18, c19, rfl, rfl, rfl, S20⟩ W22
    replace W22 : Wk l Z EL1 ({ frames := 8, cells := 40, slots := 4224, locals := 192 } : Room) "com/example/crosscut/crosscut/ModifierHasValuePinLaw" code 12 (some .boolean) "law" X [] [(a16, c17), (b18, c19), (a9, c10), (b11, c12), (a2, c3), (b4, c5)] T21 18 (36) := W22
    show Go Z EL1 _ _ _ X T21 53 #[.val (.int t), .val (.int c), .val (.int v), .val (.int lens), .val (.int (((lens.toUInt32 >>> ((4 : Int32) &&& 31).toUInt32).toInt32) &&& (1 : Int32))), .val (.int ((lens &&& (3 : Int32)) % (3 : Int32))), .val (.int ((((lens.toUInt32 >>> ((2 : Int32) &&& 31).toUInt32).toInt32) &&& (3 : Int32)) % (3 : Int32))), .val (.ref a2), .val (.ref a9), .unset, .unset, .unset] [(.ref a16)]
    refine Go.astore (pc' := 55) W22 #[.val (.int t), .val (.int c), .val (.int v), .val (.int lens), .val (.int (((lens.toUInt32 >>> ((4 : Int32) &&& 31).toUInt32).toInt32) &&& (1 : Int32))), .val (.int ((lens &&& (3 : Int32)) % (3 : Int32))), .val (.int ((((lens.toUInt32 >>> ((2 : Int32) &&& 31).toUInt32).toInt32) &&& (3 : Int32)) % (3 : Int32))), .val (.ref a2), .val (.ref a9), .val (.ref a16), .unset, .unset] d_code_53 rfl rfl rfl ?_
    refine Go.new (pc' := 58) W22 (w_41 G) (w_42 G) (w_43 G) d_code_55 rfl (by first | exact Nat.le_of_ble_eq_true rfl | (simp; done) | (simp; omega) | omega) (by first | exact Nat.le_of_ble_eq_true rfl | (simp; done) | (simp; omega) | omega) (fun T23 a25 c26 W24 O27 D28 => ?_)
    replace W24 : Wk l Z EL1 ({ frames := 8, cells := 40, slots := 4224, locals := 192 } : Room) "com/example/crosscut/crosscut/ModifierHasValuePinLaw" code 12 (some .boolean) "law" X [(a25, c26)] [(a16, c17), (b18, c19), (a9, c10), (b11, c12), (a2, c3), (b4, c5)] T23 19 (39) := W24
    have F29 : FldC Z c26 "com/example/crosscut/crosscut/Modifier" "type" "Ljava/lang/String;" (.null) := D28 (Or.inr (w_66 G)) (ty := (.object "java/lang/String")) (by decide)
    have F30 : FldC Z c26 "com/example/crosscut/crosscut/Modifier" "comparison" "Ljava/lang/String;" (.null) := D28 (Or.inr (w_68 G)) (ty := (.object "java/lang/String")) (by decide)
    have F31 : FldC Z c26 "com/example/crosscut/crosscut/Modifier" "value" "Ljava/lang/String;" (.null) := D28 (Or.inr (w_70 G)) (ty := (.object "java/lang/String")) (by decide)
    refine Go.dup (pc' := 59) W24 d_code_58 rfl rfl ?_
    refine Go.aload (pc' := 61) W24 d_code_59 rfl rfl rfl ?_
    refine Go.aload (pc' := 63) W24 d_code_61 rfl rfl rfl ?_
    refine Go.aload (pc' := 65) W24 d_code_63 rfl rfl rfl ?_
    refine Go.special (pc' := 68) W24 (a := a25) (rm_mod G a25 a2 a9 b11 a16 b18 c26 c10 c12 c17 c19 _ _ S13 S20 (by simp only [mkF_nil]; intro h; simp_all) ⟨O27, F29, F30, F31⟩) rfl (w_44 G) (w_45 G) (w_43 G) (w_46 G) (by decide) [0] [2, 3, 0, 1] (σf := []) rfl rfl [(.ref a2), (.ref a9), (.ref a16)] [(.ref a25)] rfl (lenOf pd_20 rfl) rfl rfl d_code_65 rfl (by first | exact Nat.le_of_ble_eq_true rfl | (simp; done) | (simp; omega) | omega) (by first | exact Nat.le_of_ble_eq_true rfl | (simp; done) | (simp; omega) | omega) (by first | exact Nat.le_of_ble_eq_true rfl | (simp; done) | (simp; omega) | omega) (by first | exact Nat.le_of_ble_eq_true rfl | (simp; done) | (simp; omega) | omega) ?_
    rintro _ _ _ T34 ⟨c32, rfl, rfl, rfl, M33⟩ W35
    replace W35 : Wk l Z EL1 ({ frames := 8, cells := 40, slots := 4224, locals := 192 } : Room) "com/example/crosscut/crosscut/ModifierHasValuePinLaw" code 12 (some .boolean) "law" X [(a25, c32)] [(a16, c17), (b18, c19), (a9, c10), (b11, c12), (a2, c3), (b4, c5)] T34 25 (127) := W35
    show Go Z EL1 _ _ _ X T34 68 #[.val (.int t), .val (.int c), .val (.int v), .val (.int lens), .val (.int (((lens.toUInt32 >>> ((4 : Int32) &&& 31).toUInt32).toInt32) &&& (1 : Int32))), .val (.int ((lens &&& (3 : Int32)) % (3 : Int32))), .val (.int ((((lens.toUInt32 >>> ((2 : Int32) &&& 31).toUInt32).toInt32) &&& (3 : Int32)) % (3 : Int32))), .val (.ref a2), .val (.ref a9), .val (.ref a16), .unset, .unset] [(.ref a25)]
    have W36 := W35.freeze [0] (σi := [(a25, c32)]) (σf := []) rfl
    replace W36 : Wk l Z EL1 ({ frames := 8, cells := 40, slots := 4224, locals := 192 } : Room) "com/example/crosscut/crosscut/ModifierHasValuePinLaw" code 12 (some .boolean) "law" X [] [(a25, c32), (a16, c17), (b18, c19), (a9, c10), (b11, c12), (a2, c3), (b4, c5)] T34 25 (127) := W36
    refine Go.astore (pc' := 70) W36 #[.val (.int t), .val (.int c), .val (.int v), .val (.int lens), .val (.int (((lens.toUInt32 >>> ((4 : Int32) &&& 31).toUInt32).toInt32) &&& (1 : Int32))), .val (.int ((lens &&& (3 : Int32)) % (3 : Int32))), .val (.int ((((lens.toUInt32 >>> ((2 : Int32) &&& 31).toUInt32).toInt32) &&& (3 : Int32)) % (3 : Int32))), .val (.ref a2), .val (.ref a9), .val (.ref a16), .val (.ref a25), .unset] d_code_68 rfl rfl rfl ?_
    refine Go.iload (pc' := 72) W36 d_code_70 rfl rfl ?_
    refine Go.if_eq (pc' := 75) W36 79 d_code_72 (by decide) rfl (fun q => absurd q c1) (fun _ => ?_)
    refine Go.iconst (pc' := 76) W36 (1 : Int32) d_code_75 (by decide) rfl ?_
    refine Go.goto W36 80 d_code_76 (by decide) ?_
    refine Go.istore (pc' := 82) W36 #[.val (.int t), .val (.int c), .val (.int v), .val (.int lens), .val (.int (((lens.toUInt32 >>> ((4 : Int32) &&& 31).toUInt32).toInt32) &&& (1 : Int32))), .val (.int ((lens &&& (3 : Int32)) % (3 : Int32))), .val (.int ((((lens.toUInt32 >>> ((2 : Int32) &&& 31).toUInt32).toInt32) &&& (3 : Int32)) % (3 : Int32))), .val (.ref a2), .val (.ref a9), .val (.ref a16), .val (.ref a25), .val (.int (1 : Int32))] d_code_80 rfl rfl ?_
    refine Go.aload (pc' := 84) W36 d_code_82 rfl rfl rfl ?_
    refine Go.virtual (pc' := 87) W36 (rm_hv G a25 a9 b11 c32 c10 c12 _ _ _ S13 M33) (Or.inr (Or.inl (List.mem_of_getElem? (i := 0) rfl))) M33.1 (w_71 G) (w_72 G) (w_74 G) (w_73 G) (w_43 G) (w_75 G) (by decide) [] [0, 3, 4] (σf := []) rfl rfl [] [] rfl (lenOf pd_18 rfl) rfl rfl d_code_84 rfl (by first | exact Nat.le_of_ble_eq_true rfl | (simp; done) | (simp; omega) | omega) (by first | exact Nat.le_of_ble_eq_true rfl | (simp; done) | (simp; omega) | omega) (by first | exact Nat.le_of_ble_eq_true rfl | (simp; done) | (simp; omega) | omega) (by first | exact Nat.le_of_ble_eq_true rfl | (simp; done) | (simp; omega) | omega) ?_
    rintro _ _ _ T37 ⟨rfl, rfl, rfl⟩ W38
    replace W38 : Wk l Z EL1 ({ frames := 8, cells := 40, slots := 4224, locals := 192 } : Room) "com/example/crosscut/crosscut/ModifierHasValuePinLaw" code 12 (some .boolean) "law" X [] [(a25, c32), (a16, c17), (b18, c19), (a9, c10), (b11, c12), (a2, c3), (b4, c5)] T37 25 (127) := W38
    show Go Z EL1 _ _ _ X T37 87 #[.val (.int t), .val (.int c), .val (.int v), .val (.int lens), .val (.int (((lens.toUInt32 >>> ((4 : Int32) &&& 31).toUInt32).toInt32) &&& (1 : Int32))), .val (.int ((lens &&& (3 : Int32)) % (3 : Int32))), .val (.int ((((lens.toUInt32 >>> ((2 : Int32) &&& 31).toUInt32).toInt32) &&& (3 : Int32)) % (3 : Int32))), .val (.ref a2), .val (.ref a9), .val (.ref a16), .val (.ref a25), .val (.int (1 : Int32))] [(.int (if mkF' ((lens &&& (3 : Int32)) % (3 : Int32)) c = [] then 0 else 1))]
    refine Go.iload (pc' := 89) W38 d_code_87 rfl rfl ?_
    refine Go.icmp_ne (pc' := 92) W38 96 d_code_89 (by decide) rfl (fun (c39 : ¬ ((if mkF' ((lens &&& (3 : Int32)) % (3 : Int32)) c = [] then 0 else 1) = (1 : Int32))) => ?_) (fun (c39 : (if mkF' ((lens &&& (3 : Int32)) % (3 : Int32)) c = [] then 0 else 1) = (1 : Int32)) => ?_)
    · refine Go.iconst (pc' := 97) W38 (0 : Int32) d_code_96 (by decide) rfl ?_
      refine Go.nret (z' := (0 : Int32)) W38 (by simp) (by decide) d_code_97 (by first | exact Nat.le_of_ble_eq_true rfl | (simp; done) | (simp; omega) | omega) (by first | exact Nat.le_of_ble_eq_true rfl | (simp; done) | (simp; omega) | omega) ?_
      first | rfl | (exfalso; simp only [mkF_nil] at *; simp_all)
    · refine Go.iconst (pc' := 93) W38 (1 : Int32) d_code_92 (by decide) rfl ?_
      refine Go.goto W38 97 d_code_93 (by decide) ?_
      refine Go.nret (z' := (1 : Int32)) W38 (by simp) (by decide) d_code_97 (by first | exact Nat.le_of_ble_eq_true rfl | (simp; done) | (simp; omega) | omega) (by first | exact Nat.le_of_ble_eq_true rfl | (simp; done) | (simp; omega) | omega) ?_
      first | rfl | (exfalso; simp only [mkF_nil] at *; simp_all)
  · refine Go.iconst (pc' := 29) W0 (0 : Int32) d_code_28 (by decide) rfl ?_
    refine Go.istore (pc' := 31) W0 #[.val (.int t), .val (.int c), .val (.int v), .val (.int lens), .val (.int (((lens.toUInt32 >>> ((4 : Int32) &&& 31).toUInt32).toInt32) &&& (1 : Int32))), .val (.int ((lens &&& (3 : Int32)) % (3 : Int32))), .val (.int (0 : Int32)), .unset, .unset, .unset, .unset, .unset] d_code_29 rfl rfl ?_
    refine Go.iload (pc' := 33) W0 d_code_31 rfl rfl ?_
    refine Go.iloadN (pc' := 34) W0 d_code_33 rfl rfl ?_
    refine Go.static (pc' := 37) W0 (rm_mk G (((lens.toUInt32 >>> ((4 : Int32) &&& 31).toUInt32).toInt32) &&& (1 : Int32)) t) (w_0 G) (w_1 G) (w_2 G) (w_3 G) (by decide) [] [] (σf := []) rfl rfl [(.int (((lens.toUInt32 >>> ((4 : Int32) &&& 31).toUInt32).toInt32) &&& (1 : Int32))), (.int t)] [] rfl (lenOf pd_19 rfl) rfl rfl d_code_34 rfl (by first | exact Nat.le_of_ble_eq_true rfl | (simp; done) | (simp; omega) | omega) (by first | exact Nat.le_of_ble_eq_true rfl | (simp; done) | (simp; omega) | omega) (by first | exact Nat.le_of_ble_eq_true rfl | (simp; done) | (simp; omega) | omega) (by first | exact Nat.le_of_ble_eq_true rfl | (simp; done) | (simp; omega) | omega) ?_
    rintro _ _ _ T45 ⟨a40, c41, b42, c43, rfl, rfl, rfl, S44⟩ W46
    replace W46 : Wk l Z EL1 ({ frames := 8, cells := 40, slots := 4224, locals := 192 } : Room) "com/example/crosscut/crosscut/ModifierHasValuePinLaw" code 12 (some .boolean) "law" X [] [(a40, c41), (b42, c43)] T45 6 (12) := W46
    show Go Z EL1 _ _ _ X T45 37 #[.val (.int t), .val (.int c), .val (.int v), .val (.int lens), .val (.int (((lens.toUInt32 >>> ((4 : Int32) &&& 31).toUInt32).toInt32) &&& (1 : Int32))), .val (.int ((lens &&& (3 : Int32)) % (3 : Int32))), .val (.int (0 : Int32)), .unset, .unset, .unset, .unset, .unset] [(.ref a40)]
    refine Go.astore (pc' := 39) W46 #[.val (.int t), .val (.int c), .val (.int v), .val (.int lens), .val (.int (((lens.toUInt32 >>> ((4 : Int32) &&& 31).toUInt32).toInt32) &&& (1 : Int32))), .val (.int ((lens &&& (3 : Int32)) % (3 : Int32))), .val (.int (0 : Int32)), .val (.ref a40), .unset, .unset, .unset, .unset] d_code_37 rfl rfl rfl ?_
    refine Go.iload (pc' := 41) W46 d_code_39 rfl rfl ?_
    refine Go.iloadN (pc' := 42) W46 d_code_41 rfl rfl ?_
    refine Go.static (pc' := 45) W46 (rm_mk G ((lens &&& (3 : Int32)) % (3 : Int32)) c) (w_0 G) (w_1 G) (w_2 G) (w_3 G) (by decide) [] [] (σf := []) rfl rfl [(.int ((lens &&& (3 : Int32)) % (3 : Int32))), (.int c)] [] rfl (lenOf pd_19 rfl) rfl rfl d_code_42 rfl (by first | exact Nat.le_of_ble_eq_true rfl | (simp; done) | (simp; omega) | omega) (by first | exact Nat.le_of_ble_eq_true rfl | (simp; done) | (simp; omega) | omega) (by first | exact Nat.le_of_ble_eq_true rfl | (simp; done) | (simp; omega) | omega) (by first | exact Nat.le_of_ble_eq_true rfl | (simp; done) | (simp; omega) | omega) ?_
    rintro _ _ _ T52 ⟨a47, c48, b49, c50, rfl, rfl, rfl, S51⟩ W53
    replace W53 : Wk l Z EL1 ({ frames := 8, cells := 40, slots := 4224, locals := 192 } : Room) "com/example/crosscut/crosscut/ModifierHasValuePinLaw" code 12 (some .boolean) "law" X [] [(a47, c48), (b49, c50), (a40, c41), (b42, c43)] T52 12 (24) := W53
    show Go Z EL1 _ _ _ X T52 45 #[.val (.int t), .val (.int c), .val (.int v), .val (.int lens), .val (.int (((lens.toUInt32 >>> ((4 : Int32) &&& 31).toUInt32).toInt32) &&& (1 : Int32))), .val (.int ((lens &&& (3 : Int32)) % (3 : Int32))), .val (.int (0 : Int32)), .val (.ref a40), .unset, .unset, .unset, .unset] [(.ref a47)]
    refine Go.astore (pc' := 47) W53 #[.val (.int t), .val (.int c), .val (.int v), .val (.int lens), .val (.int (((lens.toUInt32 >>> ((4 : Int32) &&& 31).toUInt32).toInt32) &&& (1 : Int32))), .val (.int ((lens &&& (3 : Int32)) % (3 : Int32))), .val (.int (0 : Int32)), .val (.ref a40), .val (.ref a47), .unset, .unset, .unset] d_code_45 rfl rfl rfl ?_
    refine Go.iload (pc' := 49) W53 d_code_47 rfl rfl ?_
    refine Go.iloadN (pc' := 50) W53 d_code_49 rfl rfl ?_
    refine Go.static (pc' := 53) W53 (rm_mk G (0 : Int32) v) (w_0 G) (w_1 G) (w_2 G) (w_3 G) (by decide) [] [] (σf := []) rfl rfl [(.int (0 : Int32)), (.int v)] [] rfl (lenOf pd_19 rfl) rfl rfl d_code_50 rfl (by first | exact Nat.le_of_ble_eq_true rfl | (simp; done) | (simp; omega) | omega) (by first | exact Nat.le_of_ble_eq_true rfl | (simp; done) | (simp; omega) | omega) (by first | exact Nat.le_of_ble_eq_true rfl | (simp; done) | (simp; omega) | omega) (by first | exact Nat.le_of_ble_eq_true rfl | (simp; done) | (simp; omega) | omega) ?_
    rintro _ _ _ T59 ⟨a54, c55, b56, c57, rfl, rfl, rfl, S58⟩ W60
    replace W60 : Wk l Z EL1 ({ frames := 8, cells := 40, slots := 4224, locals := 192 } : Room) "com/example/crosscut/crosscut/ModifierHasValuePinLaw" code 12 (some .boolean) "law" X [] [(a54, c55), (b56, c57), (a47, c48), (b49, c50), (a40, c41), (b42, c43)] T59 18 (36) := W60
    show Go Z EL1 _ _ _ X T59 53 #[.val (.int t), .val (.int c), .val (.int v), .val (.int lens), .val (.int (((lens.toUInt32 >>> ((4 : Int32) &&& 31).toUInt32).toInt32) &&& (1 : Int32))), .val (.int ((lens &&& (3 : Int32)) % (3 : Int32))), .val (.int (0 : Int32)), .val (.ref a40), .val (.ref a47), .unset, .unset, .unset] [(.ref a54)]
    refine Go.astore (pc' := 55) W60 #[.val (.int t), .val (.int c), .val (.int v), .val (.int lens), .val (.int (((lens.toUInt32 >>> ((4 : Int32) &&& 31).toUInt32).toInt32) &&& (1 : Int32))), .val (.int ((lens &&& (3 : Int32)) % (3 : Int32))), .val (.int (0 : Int32)), .val (.ref a40), .val (.ref a47), .val (.ref a54), .unset, .unset] d_code_53 rfl rfl rfl ?_
    refine Go.new (pc' := 58) W60 (w_41 G) (w_42 G) (w_43 G) d_code_55 rfl (by first | exact Nat.le_of_ble_eq_true rfl | (simp; done) | (simp; omega) | omega) (by first | exact Nat.le_of_ble_eq_true rfl | (simp; done) | (simp; omega) | omega) (fun T61 a63 c64 W62 O65 D66 => ?_)
    replace W62 : Wk l Z EL1 ({ frames := 8, cells := 40, slots := 4224, locals := 192 } : Room) "com/example/crosscut/crosscut/ModifierHasValuePinLaw" code 12 (some .boolean) "law" X [(a63, c64)] [(a54, c55), (b56, c57), (a47, c48), (b49, c50), (a40, c41), (b42, c43)] T61 19 (39) := W62
    have F67 : FldC Z c64 "com/example/crosscut/crosscut/Modifier" "type" "Ljava/lang/String;" (.null) := D66 (Or.inr (w_66 G)) (ty := (.object "java/lang/String")) (by decide)
    have F68 : FldC Z c64 "com/example/crosscut/crosscut/Modifier" "comparison" "Ljava/lang/String;" (.null) := D66 (Or.inr (w_68 G)) (ty := (.object "java/lang/String")) (by decide)
    have F69 : FldC Z c64 "com/example/crosscut/crosscut/Modifier" "value" "Ljava/lang/String;" (.null) := D66 (Or.inr (w_70 G)) (ty := (.object "java/lang/String")) (by decide)
    refine Go.dup (pc' := 59) W62 d_code_58 rfl rfl ?_
    refine Go.aload (pc' := 61) W62 d_code_59 rfl rfl rfl ?_
    refine Go.aload (pc' := 63) W62 d_code_61 rfl rfl rfl ?_
    refine Go.aload (pc' := 65) W62 d_code_63 rfl rfl rfl ?_
    refine Go.special (pc' := 68) W62 (a := a63) (rm_mod G a63 a40 a47 b49 a54 b56 c64 c48 c50 c55 c57 _ _ S51 S58 (by simp only [mkF_nil]; intro h; simp_all) ⟨O65, F67, F68, F69⟩) rfl (w_44 G) (w_45 G) (w_43 G) (w_46 G) (by decide) [0] [2, 3, 0, 1] (σf := []) rfl rfl [(.ref a40), (.ref a47), (.ref a54)] [(.ref a63)] rfl (lenOf pd_20 rfl) rfl rfl d_code_65 rfl (by first | exact Nat.le_of_ble_eq_true rfl | (simp; done) | (simp; omega) | omega) (by first | exact Nat.le_of_ble_eq_true rfl | (simp; done) | (simp; omega) | omega) (by first | exact Nat.le_of_ble_eq_true rfl | (simp; done) | (simp; omega) | omega) (by first | exact Nat.le_of_ble_eq_true rfl | (simp; done) | (simp; omega) | omega) ?_
    rintro _ _ _ T72 ⟨c70, rfl, rfl, rfl, M71⟩ W73
    replace W73 : Wk l Z EL1 ({ frames := 8, cells := 40, slots := 4224, locals := 192 } : Room) "com/example/crosscut/crosscut/ModifierHasValuePinLaw" code 12 (some .boolean) "law" X [(a63, c70)] [(a54, c55), (b56, c57), (a47, c48), (b49, c50), (a40, c41), (b42, c43)] T72 25 (127) := W73
    show Go Z EL1 _ _ _ X T72 68 #[.val (.int t), .val (.int c), .val (.int v), .val (.int lens), .val (.int (((lens.toUInt32 >>> ((4 : Int32) &&& 31).toUInt32).toInt32) &&& (1 : Int32))), .val (.int ((lens &&& (3 : Int32)) % (3 : Int32))), .val (.int (0 : Int32)), .val (.ref a40), .val (.ref a47), .val (.ref a54), .unset, .unset] [(.ref a63)]
    have W74 := W73.freeze [0] (σi := [(a63, c70)]) (σf := []) rfl
    replace W74 : Wk l Z EL1 ({ frames := 8, cells := 40, slots := 4224, locals := 192 } : Room) "com/example/crosscut/crosscut/ModifierHasValuePinLaw" code 12 (some .boolean) "law" X [] [(a63, c70), (a54, c55), (b56, c57), (a47, c48), (b49, c50), (a40, c41), (b42, c43)] T72 25 (127) := W74
    refine Go.astore (pc' := 70) W74 #[.val (.int t), .val (.int c), .val (.int v), .val (.int lens), .val (.int (((lens.toUInt32 >>> ((4 : Int32) &&& 31).toUInt32).toInt32) &&& (1 : Int32))), .val (.int ((lens &&& (3 : Int32)) % (3 : Int32))), .val (.int (0 : Int32)), .val (.ref a40), .val (.ref a47), .val (.ref a54), .val (.ref a63), .unset] d_code_68 rfl rfl rfl ?_
    refine Go.iload (pc' := 72) W74 d_code_70 rfl rfl ?_
    refine Go.if_eq (pc' := 75) W74 79 d_code_72 (by decide) rfl (fun _ => ?_) (fun q => absurd c1 q)
    refine Go.iconst (pc' := 80) W74 (0 : Int32) d_code_79 (by decide) rfl ?_
    refine Go.istore (pc' := 82) W74 #[.val (.int t), .val (.int c), .val (.int v), .val (.int lens), .val (.int (((lens.toUInt32 >>> ((4 : Int32) &&& 31).toUInt32).toInt32) &&& (1 : Int32))), .val (.int ((lens &&& (3 : Int32)) % (3 : Int32))), .val (.int (0 : Int32)), .val (.ref a40), .val (.ref a47), .val (.ref a54), .val (.ref a63), .val (.int (0 : Int32))] d_code_80 rfl rfl ?_
    refine Go.aload (pc' := 84) W74 d_code_82 rfl rfl rfl ?_
    refine Go.virtual (pc' := 87) W74 (rm_hv G a63 a47 b49 c70 c48 c50 _ _ _ S51 M71) (Or.inr (Or.inl (List.mem_of_getElem? (i := 0) rfl))) M71.1 (w_71 G) (w_72 G) (w_74 G) (w_73 G) (w_43 G) (w_75 G) (by decide) [] [0, 3, 4] (σf := []) rfl rfl [] [] rfl (lenOf pd_18 rfl) rfl rfl d_code_84 rfl (by first | exact Nat.le_of_ble_eq_true rfl | (simp; done) | (simp; omega) | omega) (by first | exact Nat.le_of_ble_eq_true rfl | (simp; done) | (simp; omega) | omega) (by first | exact Nat.le_of_ble_eq_true rfl | (simp; done) | (simp; omega) | omega) (by first | exact Nat.le_of_ble_eq_true rfl | (simp; done) | (simp; omega) | omega) ?_
    rintro _ _ _ T75 ⟨rfl, rfl, rfl⟩ W76
    replace W76 : Wk l Z EL1 ({ frames := 8, cells := 40, slots := 4224, locals := 192 } : Room) "com/example/crosscut/crosscut/ModifierHasValuePinLaw" code 12 (some .boolean) "law" X [] [(a63, c70), (a54, c55), (b56, c57), (a47, c48), (b49, c50), (a40, c41), (b42, c43)] T75 25 (127) := W76
    show Go Z EL1 _ _ _ X T75 87 #[.val (.int t), .val (.int c), .val (.int v), .val (.int lens), .val (.int (((lens.toUInt32 >>> ((4 : Int32) &&& 31).toUInt32).toInt32) &&& (1 : Int32))), .val (.int ((lens &&& (3 : Int32)) % (3 : Int32))), .val (.int (0 : Int32)), .val (.ref a40), .val (.ref a47), .val (.ref a54), .val (.ref a63), .val (.int (0 : Int32))] [(.int (if mkF' ((lens &&& (3 : Int32)) % (3 : Int32)) c = [] then 0 else 1))]
    refine Go.iload (pc' := 89) W76 d_code_87 rfl rfl ?_
    refine Go.icmp_ne (pc' := 92) W76 96 d_code_89 (by decide) rfl (fun (c77 : ¬ ((if mkF' ((lens &&& (3 : Int32)) % (3 : Int32)) c = [] then 0 else 1) = (0 : Int32))) => ?_) (fun (c77 : (if mkF' ((lens &&& (3 : Int32)) % (3 : Int32)) c = [] then 0 else 1) = (0 : Int32)) => ?_)
    · refine Go.iconst (pc' := 97) W76 (0 : Int32) d_code_96 (by decide) rfl ?_
      refine Go.nret (z' := (0 : Int32)) W76 (by simp) (by decide) d_code_97 (by first | exact Nat.le_of_ble_eq_true rfl | (simp; done) | (simp; omega) | omega) (by first | exact Nat.le_of_ble_eq_true rfl | (simp; done) | (simp; omega) | omega) ?_
      first | rfl | (exfalso; simp only [mkF_nil] at *; simp_all)
    · refine Go.iconst (pc' := 93) W76 (1 : Int32) d_code_92 (by decide) rfl ?_
      refine Go.goto W76 97 d_code_93 (by decide) ?_
      refine Go.nret (z' := (1 : Int32)) W76 (by simp) (by decide) d_code_97 (by first | exact Nat.le_of_ble_eq_true rfl | (simp; done) | (simp; omega) | omega) (by first | exact Nat.le_of_ble_eq_true rfl | (simp; done) | (simp; omega) | omega) ?_
      first | rfl | (exfalso; simp only [mkF_nil] at *; simp_all)
set_option maxRecDepth 65536 in
set_option maxHeartbeats 40000000 in
theorem comes_1 {Post : Tables → Env → Array Value → State → Outcome → State → Prop} (hpost : ∀ tb e args s v u, (limb_1_1.after args s (.returned v) u = true ∧ limb_1_2.after args s (.returned v) u = true ∧ True) → ReturnedEndW s (.returned v) u (Jvm.fieldLocs frame_1_writes args s ++ Jvm.arrayLocs frame_1_arrays args s ++ Jvm.staticLocs frame_1_statics s) 40 4224 → Post tb e args s (.returned v) u) :
    ArmFor flags0 classFile x code maxLocals ret World_1 tables_1 room_1 Calls_1 rest_1 Pre_1 Post := by
  intro l hfl _ _ p e ha hc hk s m args below hf hA hF happ hP
  obtain ⟨hcalls, hrest, hpre⟩ := hP
  obtain ⟨-, -, -, hnamed, -, -, -, hat⟩ := (Spec.applies_iff hf).mp happ
  obtain ⟨hg, hn⟩ := and_e (Cond.before_iff.mp (show (Jvm.Cond.and given_1 narrow_1).before args s = true from hpre))
  obtain ⟨g0, h0⟩ := and_e hg
  obtain ⟨g1, h1⟩ := and_e h0
  obtain ⟨g2, h2⟩ := and_e h1
  obtain ⟨g3, h3⟩ := and_e h2
  have g4 := h3
  obtain ⟨w0, w1, w2, w3, rfl⟩ : ∃ w0 w1 w2 w3 : Value, args = #[w0, w1, w2, w3] := by
    have hs : args.size = 4 := by simpa [Cond.value, given_1] using g0
    obtain ⟨L⟩ := args
    match L, hs with
    | [w0, w1, w2, w3], _ => exact ⟨w0, w1, w2, w3, rfl⟩
  have hw := fun d (hd : d ∈ tables_1) => atoms_spec (ws := Jvm.Cond.code x code maxLocals ret :: tables_1) hat d (List.mem_cons_of_mem _ hd)
  obtain ⟨hsets, hown0⟩ := atoms_of _ (rest_1_c_eq ▸ (show rest_1_c.before _ s = true from hrest))
  have hfit : Fit s := fun {y c} hc i hi => by
    obtain ⟨ha, rfl⟩ := Array.getElem?_eq_some_iff.mp hc
    have q := List.all_eq_true.mp ((Array.all_eq_true_iff_forall_mem.mp hF) _ (Array.getElem_mem ha)) i (List.mem_range.mpr hi)
    simpa [Array.getElem?_eq_getElem hi] using q
  obtain ⟨i0, e0⟩ := is_v g1
  obtain rfl : w0 = (.int i0) := Option.some.inj e0
  obtain ⟨i1, e1⟩ := is_v g2
  obtain rfl : w1 = (.int i1) := Option.some.inj e1
  obtain ⟨i2, e2⟩ := is_v g3
  obtain rfl : w2 = (.int i2) := Option.some.inj e2
  obtain ⟨i3, e3⟩ := is_v g4
  obtain rfl : w3 = (.int i3) := Option.some.inj e3
  have n5 := not_v (Cond.before_iff.mp (hsets _ (List.mem_of_getElem? (i := 2) rfl)))
  obtain ⟨icv, ecv⟩ := is_v (Cond.before_iff.mp (hsets _ (List.mem_of_getElem? (i := 1) rfl)))
  have Scv : Sta s s.heap "java/lang/String" "COMPACT_STRINGS" "Z" (.int icv) := Sta.start ecv (Or.inl (hsets _ (List.mem_of_getElem? (i := 0) rfl)))
  have ccv : ¬ (icv = (0 : Int32)) := gotF (Cond.eq_ints ecv (Term.int_eval (0))) n5
  have hEL : EW s _ EL1 := (EW.cons (text := "type") (hw _ (List.mem_of_getElem? (l := tables_1) (i := 53) rfl)) (by decide +kernel) (EW.cons (text := "comparison") (hw _ (List.mem_of_getElem? (l := tables_1) (i := 58) rfl)) (by decide +kernel) (EW.cons (text := "value") (hw _ (List.mem_of_getElem? (l := tables_1) (i := 59) rfl)) (by decide +kernel) (EW.cons (text := "") (hw _ (List.mem_of_getElem? (l := tables_1) (i := 18) rfl)) (by decide +kernel) EW.nil))))
  obtain ⟨vfm, efm, rfm⟩ := isR_v (Cond.before_iff.mp (hsets _ (List.mem_of_getElem? (i := 8) rfl)))
  have Sfm : Sta s s.heap "jdk/internal/util/Preconditions" "SIOOBE_FORMATTER" "Ljava/util/function/BiFunction;" vfm := Sta.start efm (Or.inl (hsets _ (List.mem_of_getElem? (i := 7) rfl)))
  have G : Cl s _ := ⟨hw, hEL, ⟨icv, Scv, ccv⟩, ⟨vfm, Sfm, rfm⟩, trivial⟩
  have hCH : CHv s EL1 s.vm s.heap := CHv.start hEL (fun p hp => hcalls.1 p hp) (hsets _ (List.mem_of_getElem? (i := 2) rfl)) (w_19 G) (w_5 G)
  have H0 : Hp s EL1 [] [] s [] [] s.vm s.heap := ⟨CHr.refl hCH, (fun _ q => nomatch q), (fun _ q => nomatch q), List.nodup_nil, (fun _ q => nomatch q), (fun _ q => nomatch q), (fun _ _ q _ => q), Nat.le_refl _, fun _ _ q => q⟩
  have happ' : (head1 [Jvm.Cond.code x code maxLocals ret] room_1).appliesLoose x e.platform s = true := by
    obtain ⟨q1, q2, q3, q4, q5, q6, q7, q8⟩ := (Spec.appliesLoose_iff hf).mp ((Spec.applies_iff_loose hf).mp happ).1
    refine (Spec.appliesLoose_iff hf).mpr ⟨q1, q2, q3, q4, q5, q6, q7, ?_⟩
    show (Jvm.Cond.and _ .tt).before _ s = true
    rw [Cond.before_and, atoms_spec (ws := Jvm.Cond.code x code maxLocals ret :: tables_1) hat _ (List.mem_cons_self ..)]; rfl
  obtain ⟨n, o, h1, h2, h3, v, σ, ρ, L, rfl, rfl, N, -, hq⟩ := rm_law G i0 i1 i2 i3  p e ha hc hk s m _ below hf happ' ⟨rfl, State.Warmed39.refl s, H0⟩ trivial
  refine ⟨n, _, h1, h2, h3, hpost _ _ _ _ _ _ ⟨Cond.after_iff.mpr rfl, Cond.after_iff.mpr (eq_i res_at (Term.int_eval (1)) rfl), trivial⟩ ⟨hq.1, hq.2.1, hq.2.2.1, (hq.2.2.2.sift fun y hy => Or.inr (N y hy)).mono (by decide) (by decide)⟩⟩
theorem main_1_1 : Claimed_1_1 := comes_1 fun _ _ _ _ _ _ h hF => ⟨h.1, hF⟩
theorem main_1_2 : Claimed_1_2 := comes_1 fun _ _ _ _ _ _ h hF => ⟨h.2.1, hF⟩
end Jvm.Pilot.@@N@@
namespace Jvm.Pilot.@@N@@
open Jvm Jvm.ClassFile Sem Op Lib Jvm.Free Jvm.Stand Jvm.Pilot.@@N@@.Jvm.D
/-! MADE BY PROGRAM (witnessworld.py) out of the Statement's table words and the real class files: 22 classes; the members and pool entries that the words name. The judged class is class 1, her method 2. -/
namespace start1
open Jvm.ClassFile
def u (s : String) : CpInfo := .utf8 (stringToUtf16 s)
/-- a pool by its gaps: so many unusable entries, then the entry; so many at the end -/
def gap : Nat → List CpInfo → List CpInfo
  | 0, r => r
  | n + 1, r => .unusable :: gap n r
def poolList (es : List (Nat × CpInfo)) (last : Nat) : List CpInfo := es.foldr (fun e r => gap e.1 (e.2 :: r)) (gap last [])
def pool (es : List (Nat × CpInfo)) (last : Nat) : Array CpInfo := ⟨poolList es last⟩
def fileOf (pool : Array CpInfo) (this : Nat) (attrs : Array Attribute := #[]) (ms : Array MethodInfo := #[]) (fl : Nat := 33) (sup : Nat := 0) (ifs : Array Nat := #[]) (fds : Array FieldInfo := #[]) : ClassFile where
  minorVersion := 0
  majorVersion := 65
  constantPool := pool
  accessFlags := fl
  thisClass := this
  superClass := sup
  interfaces := ifs
  fields := fds
  methods := ms
  attributes := attrs
def plain (name : String) (sup : Option ClassId) : Class where
  name := name
  kind := .ordinary
  loader := none
  accessFlags := 33
  super := sup
  interfaces := #[]
  cf := none
  fields := #[]
  methods := #[]
  instanceTypes := #[]
  staticTypes := #[]
  resolved := #[]
  callSites := []
  init := .initialized
  statics := none
  mirror := none

def pool0 : Array CpInfo := pool [(5, u "<init>"), (0, u "()V"), (1, .class_ 10), (1, u "java/lang/Object")] 113

def k0c0 : Code := { maxStack := 0, maxLocals := 1, code := object_method_1_code, exceptionTable := #[], attributes := #[] }
def k0m0 : Method := { name := "<init>", desc := "()V", sig := { parameters := [], returnType := none }, accessFlags := 1, code := some k0c0 }
/-- java/lang/Object -/
def k0 : Class := { plain "java/lang/Object" none with
  accessFlags := 33
  interfaces := #[]
  cf := some (fileOf pool0 8 #[] #[{ accessFlags := 1, nameIndex := 5, descriptorIndex := 6, attributes := #[] }] 33 0 #[] #[])
  fields := #[]
  methods := #[k0m0]
  instanceTypes := #[]
  staticTypes := #[]
  resolved := Array.replicate 124 none
  statics := none }

def pool1 : Array CpInfo := pool [(2, .class_ 4), (1, u "java/lang/Object"), (0, u "<init>"), (0, u "()V"), (0, .class_ 8), (0, u "java/lang/String"), (0, .methodref 7 10), (0, .nameAndType 5 11), (0, u "([C)V"), (0, .methodref 7 13), (0, .nameAndType 14 15), (0, u "valueOf"), (0, u "(C)Ljava/lang/String;"), (0, .methodref 17 18), (0, .class_ 19), (0, .nameAndType 20 21), (0, u "com/example/crosscut/crosscut/ModifierHasValuePinLaw"), (0, u "mk"), (0, u "(II)Ljava/lang/String;"), (0, .class_ 23), (0, u "com/example/crosscut/crosscut/Modifier"), (0, .methodref 22 25), (0, .nameAndType 5 26), (0, u "(Ljava/lang/String;Ljava/lang/String;Ljava/lang/String;)V"), (0, .methodref 22 28), (0, .nameAndType 29 30), (0, u "hasValue"), (0, u "()Z"), (3, u "law"), (0, u "(IIII)Z")] 2

def k1m0 : Method := { name := "<init>", desc := "()V", sig := { parameters := [], returnType := none }, accessFlags := 1, code := none }
def k1c1 : Code := { maxStack := 6, maxLocals := 4, code := method_2_code, exceptionTable := #[], attributes := #[] }
def k1m1 : Method := { name := "mk", desc := "(II)Ljava/lang/String;", sig := { parameters := [.int, .int], returnType := some (.object "java/lang/String") }, accessFlags := 10, code := some k1c1 }
def k1c2 : Code := { maxStack := 5, maxLocals := 12, code := code, exceptionTable := #[], attributes := #[] }
def k1m2 : Method := { name := "law", desc := "(IIII)Z", sig := { parameters := [.int, .int, .int, .int], returnType := some .boolean }, accessFlags := 9, code := some k1c2 }
/-- com/example/crosscut/crosscut/ModifierHasValuePinLaw -/
def k1 : Class := { plain "com/example/crosscut/crosscut/ModifierHasValuePinLaw" (some 0) with
  accessFlags := 49
  interfaces := #[]
  cf := some (fileOf pool1 17 #[] #[{ accessFlags := 1, nameIndex := 5, descriptorIndex := 6, attributes := #[] }, { accessFlags := 10, nameIndex := 20, descriptorIndex := 21, attributes := #[] }, { accessFlags := 9, nameIndex := 34, descriptorIndex := 35, attributes := #[] }] 49 2 #[] #[])
  fields := #[]
  methods := #[k1m0, k1m1, k1m2]
  instanceTypes := #[]
  staticTypes := #[]
  resolved := Array.replicate 38 none
  statics := none }

def pool2 : Array CpInfo := pool [(1, .class_ 2), (0, u "java/io/Serializable"), (0, .class_ 4), (0, u "java/lang/Object")] 2

/-- java/io/Serializable -/
def k2 : Class := { plain "java/io/Serializable" (some 0) with
  accessFlags := 1537
  interfaces := #[]
  cf := some (fileOf pool2 1 #[] #[] 1537 3 #[] #[])
  fields := #[]
  methods := #[]
  instanceTypes := #[]
  staticTypes := #[]
  resolved := Array.replicate 7 none
  statics := none }

def pool3 : Array CpInfo := pool [(1, .class_ 2), (0, u "java/lang/Comparable"), (0, .class_ 4), (0, u "java/lang/Object")] 7

/-- java/lang/Comparable -/
def k3 : Class := { plain "java/lang/Comparable" (some 0) with
  accessFlags := 1537
  interfaces := #[]
  cf := some (fileOf pool3 1 #[] #[] 1537 3 #[] #[])
  fields := #[]
  methods := #[]
  instanceTypes := #[]
  staticTypes := #[]
  resolved := Array.replicate 12 none
  statics := none }

def pool4 : Array CpInfo := pool [(2, .class_ 4), (1, u "java/lang/CharSequence"), (42, .class_ 48), (0, u "java/lang/CharSequence$1CodePointIterator"), (10, .class_ 60), (0, u "java/lang/CharSequence$1CharIterator"), (5, .class_ 67), (0, u "java/lang/Object")] 63

/-- java/lang/CharSequence -/
def k4 : Class := { plain "java/lang/CharSequence" (some 0) with
  accessFlags := 1537
  interfaces := #[]
  cf := some (fileOf pool4 2 #[.nestMembers #[47, 59]] #[] 1537 66 #[] #[])
  fields := #[]
  methods := #[]
  instanceTypes := #[]
  staticTypes := #[]
  resolved := Array.replicate 131 none
  statics := none }

def pool5 : Array CpInfo := pool [(1, .class_ 2), (0, u "java/lang/constant/Constable"), (0, .class_ 4), (0, u "java/lang/Object")] 6

/-- java/lang/constant/Constable -/
def k5 : Class := { plain "java/lang/constant/Constable" (some 0) with
  accessFlags := 1537
  interfaces := #[]
  cf := some (fileOf pool5 1 #[] #[] 1537 3 #[] #[])
  fields := #[]
  methods := #[]
  instanceTypes := #[]
  staticTypes := #[]
  resolved := Array.replicate 11 none
  statics := none }

def pool6 : Array CpInfo := pool [(1, .class_ 2), (0, u "java/lang/constant/ConstantDesc"), (0, .class_ 4), (0, u "java/lang/Object")] 32

/-- java/lang/constant/ConstantDesc -/
def k6 : Class := { plain "java/lang/constant/ConstantDesc" (some 0) with
  accessFlags := 1537
  interfaces := #[]
  cf := some (fileOf pool6 1 #[] #[] 1537 3 #[] #[])
  fields := #[]
  methods := #[]
  instanceTypes := #[]
  staticTypes := #[]
  resolved := Array.replicate 37 none
  statics := none }

def pool7 : Array CpInfo := pool [(1, .methodref 2 3), (0, .class_ 4), (0, .nameAndType 5 6), (0, u "java/lang/Object"), (0, u "<init>"), (0, u "()V"), (0, .string 8), (0, u ""), (0, .fieldref 10 11), (0, .class_ 12), (0, .nameAndType 13 14), (0, u "java/lang/String"), (0, u "value"), (0, u "[B"), (0, .fieldref 10 16), (0, .nameAndType 17 18), (0, u "coder"), (0, u "B"), (2, u "hash"), (0, u "I"), (2, u "hashIsZero"), (0, u "Z"), (0, .methodref 10 28), (0, .nameAndType 5 29), (0, u "([CIILjava/lang/Void;)V"), (8, .fieldref 10 39), (0, .nameAndType 40 26), (0, u "COMPACT_STRINGS"), (1, .class_ 44), (1, u "java/lang/StringUTF16"), (0, u "compress"), (1, .methodref 42 48), (0, .nameAndType 49 50), (0, u "coderFromArrayLen"), (0, u "([BI)B"), (2, u "toBytes"), (53, .class_ 109), (1, u "java/lang/StringLatin1"), (32, u "()Z"), (34, .methodref 42 178), (0, .nameAndType 45 179), (0, u "([CII)[B"), (29, .methodref 10 210), (0, .nameAndType 5 211), (0, u "([BB)V"), (157, u "(C)Z"), (205, .class_ 576), (0, u "java/lang/CharSequence"), (22, u "CASE_INSENSITIVE_ORDER"), (0, u "Ljava/util/Comparator;"), (91, u "isEmpty"), (89, u "valueOf"), (0, u "(C)Ljava/lang/String;"), (226, u "([C)V"), (4, .methodref 107 1016), (0, .nameAndType 1017 369), (0, u "canEncode"), (0, .methodref 107 1019), (0, .nameAndType 53 1020), (0, u "(C)[B"), (80, u "serialPersistentFields"), (0, u "[Ljava/io/ObjectStreamField;"), (0, .class_ 1104), (0, u "java/lang/String$CaseInsensitiveComparator"), (1, .class_ 1107), (0, u "java/io/Serializable"), (0, .class_ 1109), (0, u "java/lang/Comparable"), (0, .class_ 1111), (0, u "java/lang/constant/Constable"), (0, .class_ 1113), (0, u "java/lang/constant/ConstantDesc"), (2, u "serialVersionUID"), (0, u "J"), (3, u "REPL"), (0, u "C"), (2, u "LATIN1"), (1, u "UTF16")] 323

def k7m0 : Method := { name := "<init>", desc := "()V", sig := { parameters := [], returnType := none }, accessFlags := 1, code := none }
def k7c1 : Code := { maxStack := 5, maxLocals := 2, code := jdk_42_method_3_code, exceptionTable := #[], attributes := #[] }
def k7m1 : Method := { name := "<init>", desc := "([C)V", sig := { parameters := [(.array .char)], returnType := none }, accessFlags := 1, code := some k7c1 }
def k7c2 : Code := { maxStack := 1, maxLocals := 1, code := jdk_42_method_55_code, exceptionTable := #[], attributes := #[] }
def k7m2 : Method := { name := "isEmpty", desc := "()Z", sig := { parameters := [], returnType := some .boolean }, accessFlags := 1, code := some k7c2 }
def k7c3 : Code := { maxStack := 4, maxLocals := 1, code := jdk_42_method_139_code, exceptionTable := #[], attributes := #[] }
def k7m3 : Method := { name := "valueOf", desc := "(C)Ljava/lang/String;", sig := { parameters := [.char], returnType := some (.object "java/lang/String") }, accessFlags := 9, code := some k7c3 }
def k7c4 : Code := { maxStack := 4, maxLocals := 6, code := jdk_42_method_149_code, exceptionTable := #[], attributes := #[] }
def k7m4 : Method := { name := "<init>", desc := "([CIILjava/lang/Void;)V", sig := { parameters := [(.array .char), .int, .int, (.object "java/lang/Void")], returnType := none }, accessFlags := 2, code := some k7c4 }
def k7c5 : Code := { maxStack := 2, maxLocals := 3, code := jdk_42_method_151_code, exceptionTable := #[], attributes := #[] }
def k7m5 : Method := { name := "<init>", desc := "([BB)V", sig := { parameters := [(.array .byte), .byte], returnType := none }, accessFlags := 0, code := some k7c5 }
/-- java/lang/String -/
def k7 : Class := { plain "java/lang/String" (some 0) with
  accessFlags := 49
  interfaces := #[2, 3, 4, 5, 6]
  cf := some (fileOf pool7 10 #[.nestMembers #[1103]] #[{ accessFlags := 1, nameIndex := 5, descriptorIndex := 6, attributes := #[] }, { accessFlags := 1, nameIndex := 5, descriptorIndex := 1010, attributes := #[] }, { accessFlags := 1, nameIndex := 692, descriptorIndex := 142, attributes := #[] }, { accessFlags := 9, nameIndex := 782, descriptorIndex := 783, attributes := #[] }, { accessFlags := 2, nameIndex := 5, descriptorIndex := 29, attributes := #[] }, { accessFlags := 0, nameIndex := 5, descriptorIndex := 211, attributes := #[] }] 49 2 #[1106, 1108, 575, 1110, 1112] #[{ accessFlags := 18, nameIndex := 13, descriptorIndex := 14, attributes := #[] }, { accessFlags := 18, nameIndex := 17, descriptorIndex := 18, attributes := #[] }, { accessFlags := 2, nameIndex := 21, descriptorIndex := 22, attributes := #[] }, { accessFlags := 2, nameIndex := 25, descriptorIndex := 26, attributes := #[] }, { accessFlags := 26, nameIndex := 1116, descriptorIndex := 1117, attributes := #[] }, { accessFlags := 24, nameIndex := 40, descriptorIndex := 26, attributes := #[] }, { accessFlags := 26, nameIndex := 1101, descriptorIndex := 1102, attributes := #[] }, { accessFlags := 26, nameIndex := 1121, descriptorIndex := 1122, attributes := #[] }, { accessFlags := 25, nameIndex := 599, descriptorIndex := 600, attributes := #[] }, { accessFlags := 24, nameIndex := 1125, descriptorIndex := 18, attributes := #[] }, { accessFlags := 24, nameIndex := 1127, descriptorIndex := 18, attributes := #[] }])
  fields := #[{ name := "value", type := (.array .byte), accessFlags := 18, slot := 0, constantValue := 0 }, { name := "coder", type := .byte, accessFlags := 18, slot := 1, constantValue := 0 }, { name := "hash", type := .int, accessFlags := 2, slot := 2, constantValue := 0 }, { name := "hashIsZero", type := .boolean, accessFlags := 2, slot := 3, constantValue := 0 }, { name := "serialVersionUID", type := .long, accessFlags := 26, slot := 0, constantValue := 0 }, { name := "COMPACT_STRINGS", type := .boolean, accessFlags := 24, slot := 1, constantValue := 0 }, { name := "serialPersistentFields", type := (.array (.object "java/io/ObjectStreamField")), accessFlags := 26, slot := 2, constantValue := 0 }, { name := "REPL", type := .char, accessFlags := 26, slot := 3, constantValue := 0 }, { name := "CASE_INSENSITIVE_ORDER", type := (.object "java/util/Comparator"), accessFlags := 25, slot := 4, constantValue := 0 }, { name := "LATIN1", type := .byte, accessFlags := 24, slot := 5, constantValue := 0 }, { name := "UTF16", type := .byte, accessFlags := 24, slot := 6, constantValue := 0 }]
  methods := #[k7m0, k7m1, k7m2, k7m3, k7m4, k7m5]
  instanceTypes := #[(.array .byte), .byte, .int, .boolean]
  staticTypes := #[.long, .boolean, (.array (.object "java/io/ObjectStreamField")), .char, (.object "java/util/Comparator"), .byte, .byte]
  resolved := Array.replicate 1451 none
  statics := some 0 }

def pool8 : Array CpInfo := pool [(4, .class_ 6), (1, u "java/lang/Object"), (0, u "<init>"), (0, u "()V"), (5, .class_ 16), (1, u "java/lang/StringLatin1"), (73, u "canEncode"), (14, u "(C)Z"), (15, u "$assertionsDisabled"), (0, u "Z"), (98, .class_ 223), (1, u "java/lang/StringLatin1$LinesSpliterator"), (156, u "toBytes"), (1, u "(C)[B"), (7, .class_ 391), (0, u "java/lang/StringLatin1$CharsSpliterator")] 3

def k8m0 : Method := { name := "<init>", desc := "()V", sig := { parameters := [], returnType := none }, accessFlags := 0, code := none }
def k8c1 : Code := { maxStack := 2, maxLocals := 1, code := jdk_43_method_3_code, exceptionTable := #[], attributes := #[] }
def k8m1 : Method := { name := "canEncode", desc := "(C)Z", sig := { parameters := [.char], returnType := some .boolean }, accessFlags := 9, code := some k8c1 }
def k8c2 : Code := { maxStack := 4, maxLocals := 1, code := jdk_43_method_46_code, exceptionTable := #[], attributes := #[] }
def k8m2 : Method := { name := "toBytes", desc := "(C)[B", sig := { parameters := [.char], returnType := some (.array .byte) }, accessFlags := 9, code := some k8c2 }
/-- java/lang/StringLatin1 -/
def k8 : Class := { plain "java/lang/StringLatin1" (some 0) with
  accessFlags := 48
  interfaces := #[]
  cf := some (fileOf pool8 14 #[.nestMembers #[390, 221]] #[{ accessFlags := 0, nameIndex := 7, descriptorIndex := 8, attributes := #[] }, { accessFlags := 9, nameIndex := 90, descriptorIndex := 105, attributes := #[] }, { accessFlags := 9, nameIndex := 380, descriptorIndex := 382, attributes := #[] }] 48 4 #[] #[{ accessFlags := 4120, nameIndex := 121, descriptorIndex := 122, attributes := #[] }])
  fields := #[{ name := "$assertionsDisabled", type := .boolean, accessFlags := 4120, slot := 0, constantValue := 0 }]
  methods := #[k8m0, k8m1, k8m2]
  instanceTypes := #[]
  staticTypes := #[.boolean]
  resolved := Array.replicate 395 none
  statics := none }

def pool9 : Array CpInfo := pool [(1, .methodref 2 3), (0, .class_ 4), (0, .nameAndType 5 6), (0, u "java/lang/Object"), (0, u "<init>"), (0, u "()V"), (0, .class_ 8), (0, u "java/lang/Record")] 13

def k9c0 : Code := { maxStack := 1, maxLocals := 1, code := jdk_30_method_1_code, exceptionTable := #[], attributes := #[] }
def k9m0 : Method := { name := "<init>", desc := "()V", sig := { parameters := [], returnType := none }, accessFlags := 4, code := some k9c0 }
/-- java/lang/Record -/
def k9 : Class := { plain "java/lang/Record" (some 0) with
  accessFlags := 1057
  interfaces := #[]
  cf := some (fileOf pool9 7 #[] #[{ accessFlags := 4, nameIndex := 5, descriptorIndex := 6, attributes := #[] }] 1057 2 #[] #[])
  fields := #[]
  methods := #[k9m0]
  instanceTypes := #[]
  staticTypes := #[]
  resolved := Array.replicate 22 none
  statics := none }

def pool10 : Array CpInfo := pool [(1, .methodref 2 3), (0, .class_ 4), (0, .nameAndType 5 6), (0, u "java/lang/Record"), (0, u "<init>"), (0, u "()V"), (0, .string 8), (0, u "type"), (0, .methodref 10 11), (0, .class_ 12), (0, .nameAndType 13 14), (0, u "java/util/Objects"), (0, u "requireNonNull"), (0, u "(Ljava/lang/Object;Ljava/lang/String;)Ljava/lang/Object;"), (0, .string 16), (0, u "comparison"), (0, .string 18), (0, u "value"), (0, .methodref 20 21), (0, .class_ 22), (0, .nameAndType 23 24), (0, u "java/lang/String"), (0, u "isEmpty"), (0, u "()Z"), (9, .fieldref 35 36), (0, .class_ 37), (0, .nameAndType 8 38), (0, u "com/example/crosscut/crosscut/Modifier"), (0, u "Ljava/lang/String;"), (0, .fieldref 35 40), (0, .nameAndType 16 38), (0, .fieldref 35 42), (0, .nameAndType 18 38), (4, u "(Ljava/lang/String;Ljava/lang/String;Ljava/lang/String;)V"), (18, u "hasValue")] 33

def k10c0 : Code := { maxStack := 3, maxLocals := 4, code := prog_10_method_1_code, exceptionTable := #[], attributes := #[] }
def k10m0 : Method := { name := "<init>", desc := "(Ljava/lang/String;Ljava/lang/String;Ljava/lang/String;)V", sig := { parameters := [(.object "java/lang/String"), (.object "java/lang/String"), (.object "java/lang/String")], returnType := none }, accessFlags := 1, code := some k10c0 }
def k10c1 : Code := { maxStack := 1, maxLocals := 1, code := prog_10_method_3_code, exceptionTable := #[], attributes := #[] }
def k10m1 : Method := { name := "hasValue", desc := "()Z", sig := { parameters := [], returnType := some .boolean }, accessFlags := 1, code := some k10c1 }
/-- com/example/crosscut/crosscut/Modifier -/
def k10 : Class := { plain "com/example/crosscut/crosscut/Modifier" (some 9) with
  accessFlags := 49
  interfaces := #[]
  cf := some (fileOf pool10 35 #[] #[{ accessFlags := 1, nameIndex := 5, descriptorIndex := 47, attributes := #[] }, { accessFlags := 1, nameIndex := 66, descriptorIndex := 24, attributes := #[] }] 49 2 #[] #[{ accessFlags := 18, nameIndex := 8, descriptorIndex := 38, attributes := #[] }, { accessFlags := 18, nameIndex := 16, descriptorIndex := 38, attributes := #[] }, { accessFlags := 18, nameIndex := 18, descriptorIndex := 38, attributes := #[] }])
  fields := #[{ name := "type", type := (.object "java/lang/String"), accessFlags := 18, slot := 0, constantValue := 0 }, { name := "comparison", type := (.object "java/lang/String"), accessFlags := 18, slot := 1, constantValue := 0 }, { name := "value", type := (.object "java/lang/String"), accessFlags := 18, slot := 2, constantValue := 0 }]
  methods := #[k10m0, k10m1]
  instanceTypes := #[(.object "java/lang/String"), (.object "java/lang/String"), (.object "java/lang/String")]
  staticTypes := #[]
  resolved := Array.replicate 100 none
  statics := none }

def pool11 : Array CpInfo := pool [(2, .class_ 4), (1, u "java/lang/Object"), (0, u "<init>"), (0, u "()V"), (35, .class_ 44), (1, u "java/util/Objects"), (0, u "requireNonNull"), (48, u "(Ljava/lang/Object;Ljava/lang/String;)Ljava/lang/Object;")] 89

def k11m0 : Method := { name := "<init>", desc := "()V", sig := { parameters := [], returnType := none }, accessFlags := 2, code := none }
def k11c1 : Code := { maxStack := 3, maxLocals := 2, code := jdk_31_method_11_code, exceptionTable := #[], attributes := #[] }
def k11m1 : Method := { name := "requireNonNull", desc := "(Ljava/lang/Object;Ljava/lang/String;)Ljava/lang/Object;", sig := { parameters := [(.object "java/lang/Object"), (.object "java/lang/String")], returnType := some (.object "java/lang/Object") }, accessFlags := 9, code := some k11c1 }
/-- java/util/Objects -/
def k11 : Class := { plain "java/util/Objects" (some 0) with
  accessFlags := 49
  interfaces := #[]
  cf := some (fileOf pool11 42 #[] #[{ accessFlags := 2, nameIndex := 5, descriptorIndex := 6, attributes := #[] }, { accessFlags := 9, nameIndex := 45, descriptorIndex := 94, attributes := #[] }] 49 2 #[] #[])
  fields := #[]
  methods := #[k11m0, k11m1]
  instanceTypes := #[]
  staticTypes := #[]
  resolved := Array.replicate 184 none
  statics := none }

def pool12 : Array CpInfo := pool [(6, .class_ 8), (1, u "java/lang/Object"), (0, u "<init>"), (0, u "()V"), (1, .class_ 14), (1, u "java/lang/StringUTF16"), (31, u "$assertionsDisabled"), (0, u "Z"), (13, u "HI_BYTE_SHIFT"), (0, u "I"), (2, u "LO_BYTE_SHIFT"), (49, .methodref 12 116), (0, .nameAndType 117 118), (0, u "compress"), (0, u "([CI[BII)I"), (3, u "([CII)[B"), (138, u "coderFromArrayLen"), (0, u "([BI)B"), (106, .class_ 371), (1, u "java/lang/StringUTF16$LinesSpliterator"), (58, u "MAX_LENGTH"), (196, .class_ 628), (0, u "java/lang/StringUTF16$CodePointsSpliterator"), (0, .class_ 630), (0, u "java/lang/StringUTF16$CharsSpliterator")] 4

def k12m0 : Method := { name := "<init>", desc := "()V", sig := { parameters := [], returnType := none }, accessFlags := 0, code := none }
def k12c1 : Code := { maxStack := 2, maxLocals := 2, code := jdk_52_method_15_code, exceptionTable := #[], attributes := #[] }
def k12m1 : Method := { name := "coderFromArrayLen", desc := "([BI)B", sig := { parameters := [(.array .byte), .int], returnType := some .byte }, accessFlags := 8, code := some k12c1 }
def k12c2 : Code := { maxStack := 5, maxLocals := 6, code := jdk_52_method_16_code, exceptionTable := #[], attributes := #[] }
def k12m2 : Method := { name := "compress", desc := "([CII)[B", sig := { parameters := [(.array .char), .int, .int], returnType := some (.array .byte) }, accessFlags := 9, code := some k12c2 }
def k12c3 : Code := { maxStack := 3, maxLocals := 7, code := jdk_52_method_21_code, exceptionTable := #[], attributes := #[] }
def k12m3 : Method := { name := "compress", desc := "([CI[BII)I", sig := { parameters := [(.array .char), .int, (.array .byte), .int, .int], returnType := some .int }, accessFlags := 9, code := some k12c3 }
/-- java/lang/StringUTF16 -/
def k12 : Class := { plain "java/lang/StringUTF16" (some 0) with
  accessFlags := 48
  interfaces := #[]
  cf := some (fileOf pool12 12 #[.nestMembers #[627, 629, 369]] #[{ accessFlags := 0, nameIndex := 9, descriptorIndex := 10, attributes := #[] }, { accessFlags := 8, nameIndex := 261, descriptorIndex := 262, attributes := #[] }, { accessFlags := 9, nameIndex := 117, descriptorIndex := 122, attributes := #[] }, { accessFlags := 9, nameIndex := 117, descriptorIndex := 118, attributes := #[] }] 48 6 #[] #[{ accessFlags := 26, nameIndex := 61, descriptorIndex := 62, attributes := #[] }, { accessFlags := 26, nameIndex := 65, descriptorIndex := 62, attributes := #[] }, { accessFlags := 24, nameIndex := 430, descriptorIndex := 62, attributes := #[] }, { accessFlags := 4120, nameIndex := 46, descriptorIndex := 47, attributes := #[] }])
  fields := #[{ name := "HI_BYTE_SHIFT", type := .int, accessFlags := 26, slot := 0, constantValue := 0 }, { name := "LO_BYTE_SHIFT", type := .int, accessFlags := 26, slot := 1, constantValue := 0 }, { name := "MAX_LENGTH", type := .int, accessFlags := 24, slot := 2, constantValue := 0 }, { name := "$assertionsDisabled", type := .boolean, accessFlags := 4120, slot := 3, constantValue := 0 }]
  methods := #[k12m0, k12m1, k12m2, k12m3]
  instanceTypes := #[]
  staticTypes := #[.int, .int, .int, .boolean]
  resolved := Array.replicate 635 none
  statics := none }

def pool13 : Array CpInfo := pool [(2, .class_ 4), (1, u "java/lang/Object"), (0, u "<init>"), (0, u "()V"), (17, .class_ 26), (1, u "jdk/internal/util/Preconditions"), (28, .class_ 56), (0, u "jdk/internal/util/Preconditions$4"), (57, .class_ 115), (0, u "jdk/internal/util/Preconditions$1"), (7, u "SIOOBE_FORMATTER"), (0, u "Ljava/util/function/BiFunction;"), (0, .class_ 126), (0, u "jdk/internal/util/Preconditions$2"), (3, u "AIOOBE_FORMATTER"), (0, .class_ 132), (0, u "jdk/internal/util/Preconditions$3"), (3, u "IOOBE_FORMATTER")] 57

def k13m0 : Method := { name := "<init>", desc := "()V", sig := { parameters := [], returnType := none }, accessFlags := 1, code := none }
/-- jdk/internal/util/Preconditions -/
def k13 : Class := { plain "jdk/internal/util/Preconditions" (some 0) with
  accessFlags := 33
  interfaces := #[]
  cf := some (fileOf pool13 24 #[.nestMembers #[55, 131, 125, 114]] #[{ accessFlags := 1, nameIndex := 5, descriptorIndex := 6, attributes := #[] }] 33 2 #[] #[{ accessFlags := 25, nameIndex := 123, descriptorIndex := 124, attributes := #[] }, { accessFlags := 25, nameIndex := 130, descriptorIndex := 124, attributes := #[] }, { accessFlags := 25, nameIndex := 136, descriptorIndex := 124, attributes := #[] }])
  fields := #[{ name := "SIOOBE_FORMATTER", type := (.object "java/util/function/BiFunction"), accessFlags := 25, slot := 0, constantValue := 0 }, { name := "AIOOBE_FORMATTER", type := (.object "java/util/function/BiFunction"), accessFlags := 25, slot := 1, constantValue := 0 }, { name := "IOOBE_FORMATTER", type := (.object "java/util/function/BiFunction"), accessFlags := 25, slot := 2, constantValue := 0 }]
  methods := #[k13m0]
  instanceTypes := #[]
  staticTypes := #[(.object "java/util/function/BiFunction"), (.object "java/util/function/BiFunction"), (.object "java/util/function/BiFunction")]
  resolved := Array.replicate 194 none
  statics := some 1 }

def pool14 : Array CpInfo := pool [(9, u "<init>"), (6, .class_ 18), (1, u "java/lang/Object"), (0, u "()V"), (1, .class_ 23), (1, u "jdk/internal/util/ArraysSupport"), (0, u "LOG2_ARRAY_LONG_INDEX_SCALE"), (0, u "I"), (2, u "U"), (0, u "Ljdk/internal/misc/Unsafe;"), (8, u "BIG_ENDIAN"), (0, u "Z"), (8, u "LOG2_BYTE_BIT_SIZE"), (4, u "LOG2_ARRAY_INT_INDEX_SCALE"), (54, u "JLA"), (0, u "Ljdk/internal/access/JavaLangAccess;"), (11, u "LOG2_ARRAY_BOOLEAN_INDEX_SCALE"), (9, u "LOG2_ARRAY_BYTE_INDEX_SCALE"), (5, u "LOG2_ARRAY_CHAR_INDEX_SCALE"), (5, u "LOG2_ARRAY_SHORT_INDEX_SCALE"), (18, u "LOG2_ARRAY_FLOAT_INDEX_SCALE"), (24, u "LOG2_ARRAY_DOUBLE_INDEX_SCALE"), (89, u "T_BOOLEAN"), (2, u "T_CHAR"), (1, u "T_FLOAT"), (1, u "T_DOUBLE"), (1, u "T_BYTE"), (1, u "T_SHORT"), (1, u "T_INT"), (1, u "T_LONG"), (1, u "SOFT_MAX_ARRAY_LENGTH")] 83

def k14m0 : Method := { name := "<init>", desc := "()V", sig := { parameters := [], returnType := none }, accessFlags := 2, code := none }
/-- jdk/internal/util/ArraysSupport -/
def k14 : Class := { plain "jdk/internal/util/ArraysSupport" (some 0) with
  accessFlags := 33
  interfaces := #[]
  cf := some (fileOf pool14 21 #[] #[{ accessFlags := 2, nameIndex := 9, descriptorIndex := 19, attributes := #[] }] 33 16 #[] #[{ accessFlags := 24, nameIndex := 28, descriptorIndex := 29, attributes := #[] }, { accessFlags := 26, nameIndex := 38, descriptorIndex := 39, attributes := #[] }, { accessFlags := 25, nameIndex := 121, descriptorIndex := 25, attributes := #[] }, { accessFlags := 25, nameIndex := 131, descriptorIndex := 25, attributes := #[] }, { accessFlags := 25, nameIndex := 137, descriptorIndex := 25, attributes := #[] }, { accessFlags := 25, nameIndex := 143, descriptorIndex := 25, attributes := #[] }, { accessFlags := 25, nameIndex := 53, descriptorIndex := 25, attributes := #[] }, { accessFlags := 25, nameIndex := 24, descriptorIndex := 25, attributes := #[] }, { accessFlags := 25, nameIndex := 162, descriptorIndex := 25, attributes := #[] }, { accessFlags := 25, nameIndex := 187, descriptorIndex := 25, attributes := #[] }, { accessFlags := 26, nameIndex := 48, descriptorIndex := 25, attributes := #[] }, { accessFlags := 25, nameIndex := 277, descriptorIndex := 25, attributes := #[] }, { accessFlags := 25, nameIndex := 280, descriptorIndex := 25, attributes := #[] }, { accessFlags := 25, nameIndex := 282, descriptorIndex := 25, attributes := #[] }, { accessFlags := 25, nameIndex := 284, descriptorIndex := 25, attributes := #[] }, { accessFlags := 25, nameIndex := 286, descriptorIndex := 25, attributes := #[] }, { accessFlags := 25, nameIndex := 288, descriptorIndex := 25, attributes := #[] }, { accessFlags := 25, nameIndex := 290, descriptorIndex := 25, attributes := #[] }, { accessFlags := 25, nameIndex := 292, descriptorIndex := 25, attributes := #[] }, { accessFlags := 26, nameIndex := 108, descriptorIndex := 109, attributes := #[] }, { accessFlags := 25, nameIndex := 294, descriptorIndex := 25, attributes := #[] }])
  fields := #[{ name := "U", type := (.object "jdk/internal/misc/Unsafe"), accessFlags := 24, slot := 0, constantValue := 0 }, { name := "BIG_ENDIAN", type := .boolean, accessFlags := 26, slot := 1, constantValue := 0 }, { name := "LOG2_ARRAY_BOOLEAN_INDEX_SCALE", type := .int, accessFlags := 25, slot := 2, constantValue := 0 }, { name := "LOG2_ARRAY_BYTE_INDEX_SCALE", type := .int, accessFlags := 25, slot := 3, constantValue := 0 }, { name := "LOG2_ARRAY_CHAR_INDEX_SCALE", type := .int, accessFlags := 25, slot := 4, constantValue := 0 }, { name := "LOG2_ARRAY_SHORT_INDEX_SCALE", type := .int, accessFlags := 25, slot := 5, constantValue := 0 }, { name := "LOG2_ARRAY_INT_INDEX_SCALE", type := .int, accessFlags := 25, slot := 6, constantValue := 0 }, { name := "LOG2_ARRAY_LONG_INDEX_SCALE", type := .int, accessFlags := 25, slot := 7, constantValue := 0 }, { name := "LOG2_ARRAY_FLOAT_INDEX_SCALE", type := .int, accessFlags := 25, slot := 8, constantValue := 0 }, { name := "LOG2_ARRAY_DOUBLE_INDEX_SCALE", type := .int, accessFlags := 25, slot := 9, constantValue := 0 }, { name := "LOG2_BYTE_BIT_SIZE", type := .int, accessFlags := 26, slot := 10, constantValue := 0 }, { name := "T_BOOLEAN", type := .int, accessFlags := 25, slot := 11, constantValue := 0 }, { name := "T_CHAR", type := .int, accessFlags := 25, slot := 12, constantValue := 0 }, { name := "T_FLOAT", type := .int, accessFlags := 25, slot := 13, constantValue := 0 }, { name := "T_DOUBLE", type := .int, accessFlags := 25, slot := 14, constantValue := 0 }, { name := "T_BYTE", type := .int, accessFlags := 25, slot := 15, constantValue := 0 }, { name := "T_SHORT", type := .int, accessFlags := 25, slot := 16, constantValue := 0 }, { name := "T_INT", type := .int, accessFlags := 25, slot := 17, constantValue := 0 }, { name := "T_LONG", type := .int, accessFlags := 25, slot := 18, constantValue := 0 }, { name := "JLA", type := (.object "jdk/internal/access/JavaLangAccess"), accessFlags := 26, slot := 19, constantValue := 0 }, { name := "SOFT_MAX_ARRAY_LENGTH", type := .int, accessFlags := 25, slot := 20, constantValue := 0 }]
  methods := #[k14m0]
  instanceTypes := #[]
  staticTypes := #[(.object "jdk/internal/misc/Unsafe"), .boolean, .int, .int, .int, .int, .int, .int, .int, .int, .int, .int, .int, .int, .int, .int, .int, .int, .int, (.object "jdk/internal/access/JavaLangAccess"), .int]
  resolved := Array.replicate 378 none
  statics := none }

def pool15 : Array CpInfo := pool [(1, u "java/lang/Cloneable"), (0, .class_ 1), (0, u "java/lang/Object"), (0, .class_ 3)] 3

/-- java/lang/Cloneable -/
def k15 : Class := { plain "java/lang/Cloneable" (some 0) with
  accessFlags := 1537
  interfaces := #[]
  cf := some (fileOf pool15 2 #[] #[] 1537 4 #[] #[])
  fields := #[]
  methods := #[]
  instanceTypes := #[]
  staticTypes := #[]
  resolved := Array.replicate 8 none
  statics := none }

/-- the primitive byte -/
def k16 : Class := { plain "byte" none with kind := .primitive 'B', accessFlags := 0x411 }
/-- [B -/
def k17 : Class := { plain "[B" (some 0) with kind := .array 16 .byte, interfaces := #[15, 2], accessFlags := 1041 }

/-- the primitive char -/
def k18 : Class := { plain "char" none with kind := .primitive 'C', accessFlags := 0x411 }
/-- [C -/
def k19 : Class := { plain "[C" (some 0) with kind := .array 18 .char, interfaces := #[15, 2], accessFlags := 1041 }

/-- the primitive int -/
def k20 : Class := { plain "int" none with kind := .primitive 'I', accessFlags := 0x411 }
/-- [I -/
def k21 : Class := { plain "[I" (some 0) with kind := .array 20 .int, interfaces := #[15, 2], accessFlags := 1041 }

def heap : Heap := #[{ cls := 7, slots := #[.long 0, .int 1, .null, .int 0, .null, .int 0, .int 0], vm := .statics 7 },
  { cls := 13, slots := #[.null, .null, .null], vm := .statics 13 }]
def classes : Array Class := #[k0, k1, k2, k3, k4, k5, k6, k7, k8, k9, k10, k11, k12, k13, k14, k15, k16, k17, k18, k19, k20, k21]
def interned : List (Array UInt16 × Addr) := []
def slotsUsed : Nat := 10
def theMethod : MethodId := ⟨1, 2⟩
def args0 : Array Value := #[.int 5, .int 6, .int 7, .int 5]
def aboutOver (below : List Frame) : State where
  vm := { classes := classes, interned := interned.toArray }
  heap := heap
  slotsUsed := slotsUsed
  threads := #[{ frames := .invoking theMethod args0 :: below }]
def below0 : List Frame := [.native { method := ⟨0, 0⟩, args := #[] }]
def about1 : State := aboutOver below0
def p0 : Program := .bare "" "" ""
def e0 : Env := launch0.env 0 0 0
theorem w_frames : about1.frames = Frame.invoking theMethod args0 :: below0 := rfl
set_option maxRecDepth 65536 in
theorem w_args : argsFit about1.vm theMethod args0 = true := by decide +kernel
set_option maxRecDepth 65536 in
theorem w_heap : heapFits about1 = true := by decide +kernel
set_option maxRecDepth 65536 in
theorem w_runnable : about1.curStatus? = some .runnable := by decide +kernel
set_option maxRecDepth 65536 in
theorem w_alone : about1.alone = true := by decide +kernel
set_option maxRecDepth 65536 in
theorem w_named : about1.methodNamed? x = some theMethod := by decide +kernel
set_option maxRecDepth 65536 in
theorem w_hears : about1.hears theMethod below0 = true := by decide +kernel
set_option maxRecDepth 65536 in
theorem w_ripe : about1.ripe theMethod args0 below0 = true := by decide +kernel
theorem w_running : about1.status = .running := rfl
set_option maxRecDepth 65536 in
theorem w_room : about1.hasRoom e0.platform room_1 = true :=
  launch0.hasRoom_least _ room_1 (by decide +kernel) (by decide +kernel) (by decide +kernel) (by decide +kernel) (by decide +kernel) (by decide +kernel)
theorem allAtoms_all (ts : List Jvm.Cond) (a : Array Jvm.Value) (st : Jvm.State) : (allAtoms ts).before a st = ts.all (fun c => c.before a st) := by
  induction ts with
  | nil => rfl
  | cons c t ih =>
    show (Jvm.Cond.and c (allAtoms t)).before a st = _
    rw [Jvm.Cond.before_and, ih, List.all_cons]
def words1 : List Jvm.Cond := Jvm.Cond.code x code maxLocals ret :: tables_1
/-- a 'code' word, met by the world's own term for the bytes: nothing is compared byte by byte -/
theorem code_word {y : MethodName} {bytes : ByteArray} {mx : Nat} {rt : Option FieldType} {a : Array Value} {s : State} {m : MethodId} {meth : Method} {c : Code} (h1 : s.methodNamed? y = some m) (h2 : s.vm.method? m = some meth) (h3 : meth.code = some c) (h4 : c.code = bytes)
    (h5 : (c.maxLocals == mx && c.exceptionTable.isEmpty && decide (c.maxStack ≤ mostOperands) && decide (meth.sig.returnType = rt) && !meth.locks && decide (parseMethodDescriptor y.desc = some meth.sig)) = true) : (Jvm.Cond.code y bytes mx rt).before a s = true := by
  simp only [Bool.and_eq_true, beq_iff_eq, Bool.not_eq_true', decide_eq_true_eq] at h5
  obtain ⟨⟨⟨⟨⟨g1, g2⟩, g3⟩, g4⟩, g5⟩, g6⟩ := h5
  simp [Cond.before, Cond.holds, Cond.value, h1, h2, h3, h4, g1, g2, g3, g4, g5, g6]
def isCode : Jvm.Cond → Bool
  | .code _ _ _ _ => true
  | _ => false
theorem all_split {L : List Jvm.Cond} {P : Jvm.Cond → Bool} (h1 : L.all (fun c => isCode c || P c) = true) (h2 : ∀ c ∈ L.filter isCode, P c = true) : L.all P = true := by
  refine List.all_eq_true.mpr fun c hc => ?_
  have h := List.all_eq_true.mp h1 c hc
  rcases Bool.eq_false_or_eq_true (isCode c) with hi | hi
  · exact h2 c (List.mem_filter.mpr ⟨hc, hi⟩)
  · simpa [hi] using h
set_option maxRecDepth 65536 in
theorem w_c0 : (Jvm.Cond.code x code maxLocals ret).before args0 about1 = true := code_word (m := ⟨1, 2⟩) (meth := k1m2) (c := k1c2) (by decide +kernel) rfl rfl rfl (by decide +kernel)
set_option maxRecDepth 65536 in
theorem w_c1 : (Jvm.Cond.code ({ cls := "com/example/crosscut/crosscut/ModifierHasValuePinLaw", name := "mk", desc := "(II)Ljava/lang/String;" } : Jvm.MethodName) method_2_code (4 : Nat) (Option.some (Jvm.ClassFile.FieldType.object "java/lang/String"))).before args0 about1 = true := code_word (m := ⟨1, 1⟩) (meth := k1m1) (c := k1c1) (by decide +kernel) rfl rfl rfl (by decide +kernel)
set_option maxRecDepth 65536 in
theorem w_c2 : (Jvm.Cond.code ({ cls := "java/lang/String", name := "<init>", desc := "([C)V" } : Jvm.MethodName) jdk_42_method_3_code (2 : Nat) (Option.none : Option Jvm.ClassFile.FieldType)).before args0 about1 = true := code_word (m := ⟨7, 1⟩) (meth := k7m1) (c := k7c1) (by decide +kernel) rfl rfl rfl (by decide +kernel)
set_option maxRecDepth 65536 in
theorem w_c3 : (Jvm.Cond.code ({ cls := "java/lang/String", name := "<init>", desc := "([CIILjava/lang/Void;)V" } : Jvm.MethodName) jdk_42_method_149_code (6 : Nat) (Option.none : Option Jvm.ClassFile.FieldType)).before args0 about1 = true := code_word (m := ⟨7, 4⟩) (meth := k7m4) (c := k7c4) (by decide +kernel) rfl rfl rfl (by decide +kernel)
set_option maxRecDepth 65536 in
theorem w_c4 : (Jvm.Cond.code ({ cls := "java/lang/Object", name := "<init>", desc := "()V" } : Jvm.MethodName) object_method_1_code (1 : Nat) (Option.none : Option Jvm.ClassFile.FieldType)).before args0 about1 = true := code_word (m := ⟨0, 0⟩) (meth := k0m0) (c := k0c0) (by decide +kernel) rfl rfl rfl (by decide +kernel)
set_option maxRecDepth 65536 in
theorem w_c5 : (Jvm.Cond.code ({ cls := "java/lang/String", name := "valueOf", desc := "(C)Ljava/lang/String;" } : Jvm.MethodName) jdk_42_method_139_code (1 : Nat) (Option.some (Jvm.ClassFile.FieldType.object "java/lang/String"))).before args0 about1 = true := code_word (m := ⟨7, 3⟩) (meth := k7m3) (c := k7c3) (by decide +kernel) rfl rfl rfl (by decide +kernel)
set_option maxRecDepth 65536 in
theorem w_c6 : (Jvm.Cond.code ({ cls := "java/lang/StringLatin1", name := "canEncode", desc := "(C)Z" } : Jvm.MethodName) jdk_43_method_3_code (1 : Nat) (Option.some Jvm.ClassFile.FieldType.boolean)).before args0 about1 = true := code_word (m := ⟨8, 1⟩) (meth := k8m1) (c := k8c1) (by decide +kernel) rfl rfl rfl (by decide +kernel)
set_option maxRecDepth 65536 in
theorem w_c7 : (Jvm.Cond.code ({ cls := "java/lang/StringLatin1", name := "toBytes", desc := "(C)[B" } : Jvm.MethodName) jdk_43_method_46_code (1 : Nat) (Option.some (Jvm.ClassFile.FieldType.array Jvm.ClassFile.FieldType.byte))).before args0 about1 = true := code_word (m := ⟨8, 2⟩) (meth := k8m2) (c := k8c2) (by decide +kernel) rfl rfl rfl (by decide +kernel)
set_option maxRecDepth 65536 in
theorem w_c8 : (Jvm.Cond.code ({ cls := "java/lang/String", name := "<init>", desc := "([BB)V" } : Jvm.MethodName) jdk_42_method_151_code (3 : Nat) (Option.none : Option Jvm.ClassFile.FieldType)).before args0 about1 = true := code_word (m := ⟨7, 5⟩) (meth := k7m5) (c := k7c5) (by decide +kernel) rfl rfl rfl (by decide +kernel)
set_option maxRecDepth 65536 in
theorem w_c9 : (Jvm.Cond.code ({ cls := "com/example/crosscut/crosscut/Modifier", name := "<init>", desc := "(Ljava/lang/String;Ljava/lang/String;Ljava/lang/String;)V" } : Jvm.MethodName) prog_10_method_1_code (4 : Nat) (Option.none : Option Jvm.ClassFile.FieldType)).before args0 about1 = true := code_word (m := ⟨10, 0⟩) (meth := k10m0) (c := k10c0) (by decide +kernel) rfl rfl rfl (by decide +kernel)
set_option maxRecDepth 65536 in
theorem w_c10 : (Jvm.Cond.code ({ cls := "java/lang/Record", name := "<init>", desc := "()V" } : Jvm.MethodName) jdk_30_method_1_code (1 : Nat) (Option.none : Option Jvm.ClassFile.FieldType)).before args0 about1 = true := code_word (m := ⟨9, 0⟩) (meth := k9m0) (c := k9c0) (by decide +kernel) rfl rfl rfl (by decide +kernel)
set_option maxRecDepth 65536 in
theorem w_c11 : (Jvm.Cond.code ({ cls := "java/util/Objects", name := "requireNonNull", desc := "(Ljava/lang/Object;Ljava/lang/String;)Ljava/lang/Object;" } : Jvm.MethodName) jdk_31_method_11_code (2 : Nat) (Option.some (Jvm.ClassFile.FieldType.object "java/lang/Object"))).before args0 about1 = true := code_word (m := ⟨11, 1⟩) (meth := k11m1) (c := k11c1) (by decide +kernel) rfl rfl rfl (by decide +kernel)
set_option maxRecDepth 65536 in
theorem w_c12 : (Jvm.Cond.code ({ cls := "java/lang/String", name := "isEmpty", desc := "()Z" } : Jvm.MethodName) jdk_42_method_55_code (1 : Nat) (Option.some Jvm.ClassFile.FieldType.boolean)).before args0 about1 = true := code_word (m := ⟨7, 2⟩) (meth := k7m2) (c := k7c2) (by decide +kernel) rfl rfl rfl (by decide +kernel)
set_option maxRecDepth 65536 in
theorem w_c13 : (Jvm.Cond.code ({ cls := "com/example/crosscut/crosscut/Modifier", name := "hasValue", desc := "()Z" } : Jvm.MethodName) prog_10_method_3_code (1 : Nat) (Option.some Jvm.ClassFile.FieldType.boolean)).before args0 about1 = true := code_word (m := ⟨10, 1⟩) (meth := k10m1) (c := k10c1) (by decide +kernel) rfl rfl rfl (by decide +kernel)
set_option maxRecDepth 65536 in
theorem w_c14 : (Jvm.Cond.code ({ cls := "java/lang/StringUTF16", name := "compress", desc := "([CII)[B" } : Jvm.MethodName) jdk_52_method_16_code (6 : Nat) (Option.some (Jvm.ClassFile.FieldType.array Jvm.ClassFile.FieldType.byte))).before args0 about1 = true := code_word (m := ⟨12, 2⟩) (meth := k12m2) (c := k12c2) (by decide +kernel) rfl rfl rfl (by decide +kernel)
set_option maxRecDepth 65536 in
theorem w_c15 : (Jvm.Cond.code ({ cls := "java/lang/StringUTF16", name := "compress", desc := "([CI[BII)I" } : Jvm.MethodName) jdk_52_method_21_code (7 : Nat) (Option.some Jvm.ClassFile.FieldType.int)).before args0 about1 = true := code_word (m := ⟨12, 3⟩) (meth := k12m3) (c := k12c3) (by decide +kernel) rfl rfl rfl (by decide +kernel)
set_option maxRecDepth 65536 in
theorem w_c16 : (Jvm.Cond.code ({ cls := "java/lang/StringUTF16", name := "coderFromArrayLen", desc := "([BI)B" } : Jvm.MethodName) jdk_52_method_15_code (2 : Nat) (Option.some Jvm.ClassFile.FieldType.byte)).before args0 about1 = true := code_word (m := ⟨12, 1⟩) (meth := k12m1) (c := k12c1) (by decide +kernel) rfl rfl rfl (by decide +kernel)
def codes1 : List Jvm.Cond := [Jvm.Cond.code x code maxLocals ret, Jvm.Cond.code ({ cls := "com/example/crosscut/crosscut/ModifierHasValuePinLaw", name := "mk", desc := "(II)Ljava/lang/String;" } : Jvm.MethodName) method_2_code (4 : Nat) (Option.some (Jvm.ClassFile.FieldType.object "java/lang/String")), Jvm.Cond.code ({ cls := "java/lang/String", name := "<init>", desc := "([C)V" } : Jvm.MethodName) jdk_42_method_3_code (2 : Nat) (Option.none : Option Jvm.ClassFile.FieldType), Jvm.Cond.code ({ cls := "java/lang/String", name := "<init>", desc := "([CIILjava/lang/Void;)V" } : Jvm.MethodName) jdk_42_method_149_code (6 : Nat) (Option.none : Option Jvm.ClassFile.FieldType), Jvm.Cond.code ({ cls := "java/lang/Object", name := "<init>", desc := "()V" } : Jvm.MethodName) object_method_1_code (1 : Nat) (Option.none : Option Jvm.ClassFile.FieldType), Jvm.Cond.code ({ cls := "java/lang/String", name := "valueOf", desc := "(C)Ljava/lang/String;" } : Jvm.MethodName) jdk_42_method_139_code (1 : Nat) (Option.some (Jvm.ClassFile.FieldType.object "java/lang/String")), Jvm.Cond.code ({ cls := "java/lang/StringLatin1", name := "canEncode", desc := "(C)Z" } : Jvm.MethodName) jdk_43_method_3_code (1 : Nat) (Option.some Jvm.ClassFile.FieldType.boolean), Jvm.Cond.code ({ cls := "java/lang/StringLatin1", name := "toBytes", desc := "(C)[B" } : Jvm.MethodName) jdk_43_method_46_code (1 : Nat) (Option.some (Jvm.ClassFile.FieldType.array Jvm.ClassFile.FieldType.byte)), Jvm.Cond.code ({ cls := "java/lang/String", name := "<init>", desc := "([BB)V" } : Jvm.MethodName) jdk_42_method_151_code (3 : Nat) (Option.none : Option Jvm.ClassFile.FieldType), Jvm.Cond.code ({ cls := "com/example/crosscut/crosscut/Modifier", name := "<init>", desc := "(Ljava/lang/String;Ljava/lang/String;Ljava/lang/String;)V" } : Jvm.MethodName) prog_10_method_1_code (4 : Nat) (Option.none : Option Jvm.ClassFile.FieldType), Jvm.Cond.code ({ cls := "java/lang/Record", name := "<init>", desc := "()V" } : Jvm.MethodName) jdk_30_method_1_code (1 : Nat) (Option.none : Option Jvm.ClassFile.FieldType), Jvm.Cond.code ({ cls := "java/util/Objects", name := "requireNonNull", desc := "(Ljava/lang/Object;Ljava/lang/String;)Ljava/lang/Object;" } : Jvm.MethodName) jdk_31_method_11_code (2 : Nat) (Option.some (Jvm.ClassFile.FieldType.object "java/lang/Object")), Jvm.Cond.code ({ cls := "java/lang/String", name := "isEmpty", desc := "()Z" } : Jvm.MethodName) jdk_42_method_55_code (1 : Nat) (Option.some Jvm.ClassFile.FieldType.boolean), Jvm.Cond.code ({ cls := "com/example/crosscut/crosscut/Modifier", name := "hasValue", desc := "()Z" } : Jvm.MethodName) prog_10_method_3_code (1 : Nat) (Option.some Jvm.ClassFile.FieldType.boolean), Jvm.Cond.code ({ cls := "java/lang/StringUTF16", name := "compress", desc := "([CII)[B" } : Jvm.MethodName) jdk_52_method_16_code (6 : Nat) (Option.some (Jvm.ClassFile.FieldType.array Jvm.ClassFile.FieldType.byte)), Jvm.Cond.code ({ cls := "java/lang/StringUTF16", name := "compress", desc := "([CI[BII)I" } : Jvm.MethodName) jdk_52_method_21_code (7 : Nat) (Option.some Jvm.ClassFile.FieldType.int), Jvm.Cond.code ({ cls := "java/lang/StringUTF16", name := "coderFromArrayLen", desc := "([BI)B" } : Jvm.MethodName) jdk_52_method_15_code (2 : Nat) (Option.some Jvm.ClassFile.FieldType.byte)]
set_option maxRecDepth 65536 in
theorem codes_eq : words1.filter isCode = codes1 := rfl
theorem w_codes : ∀ c ∈ words1.filter isCode, c.before args0 about1 = true := by
  rw [codes_eq]
  intro c hc
  simp only [codes1, List.mem_cons, List.not_mem_nil, or_false] at hc
  rcases hc with rfl | rfl | rfl | rfl | rfl | rfl | rfl | rfl | rfl | rfl | rfl | rfl | rfl | rfl | rfl | rfl | rfl
  · exact w_c0
  · exact w_c1
  · exact w_c2
  · exact w_c3
  · exact w_c4
  · exact w_c5
  · exact w_c6
  · exact w_c7
  · exact w_c8
  · exact w_c9
  · exact w_c10
  · exact w_c11
  · exact w_c12
  · exact w_c13
  · exact w_c14
  · exact w_c15
  · exact w_c16
set_option maxRecDepth 65536 in
theorem w_t1 : (words1.take 24).all (fun c => isCode c || c.before args0 about1) = true := by decide +kernel
set_option maxRecDepth 65536 in
theorem w_t2 : ((words1.drop 24).take 24).all (fun c => isCode c || c.before args0 about1) = true := by decide +kernel
set_option maxRecDepth 65536 in
theorem w_t3 : (((words1.drop 24).drop 24).take 24).all (fun c => isCode c || c.before args0 about1) = true := by decide +kernel
set_option maxRecDepth 65536 in
theorem w_t4 : (((words1.drop 24).drop 24).drop 24).all (fun c => isCode c || c.before args0 about1) = true := by decide +kernel
theorem w_tables : (allAtoms (Jvm.Cond.code x code maxLocals ret :: tables_1)).before args0 about1 = true := by
  rw [allAtoms_all]
  show words1.all (fun c => c.before args0 about1) = true
  refine all_split ?_ w_codes
  rw [← List.take_append_drop 24 words1, List.all_append, w_t1, ← List.take_append_drop 24 (words1.drop 24), List.all_append, w_t2, ← List.take_append_drop 24 ((words1.drop 24).drop 24), List.all_append, w_t3, w_t4]
  rfl
set_option maxRecDepth 65536 in
theorem w_rest : rest_1_c.before args0 about1 = true := by decide +kernel
set_option maxRecDepth 65536 in
theorem w_case : (Jvm.Cond.and given_1 narrow_1).before args0 about1 = true := by decide +kernel
set_option maxRecDepth 65536 in
theorem w_consts : constsHeld consts_1 about1 := Jvm.Lit.constsHeldB_iff.mp (by decide +kernel)
theorem w_applies : (headSpec (Jvm.Cond.code x code maxLocals ret :: tables_1) room_1).applies x e0.platform about1 = true :=
  (Spec.applies_iff w_frames).mpr ⟨w_running, w_runnable, w_alone, w_named, w_hears, w_ripe, w_room, w_tables⟩
theorem atStart : AtStart classFile x code maxLocals ret World_1 tables_1 room_1 Calls_1 rest_1 Pre_1 launch0 p0 e0 about1 theMethod args0 below0 :=
  ⟨lists_1, trivial, launch0.admits_env _ _ _, launch0.least_env, fairChoices_fair.cas, fairChoices_fair.clock, w_frames, w_args, w_heap, w_applies, ⟨w_consts, trivial⟩, w_rest, w_case⟩
end start1
theorem witness_1 : WitnessClaimed_1 := ⟨start1.p0, start1.e0, start1.about1, start1.theMethod, start1.args0, start1.below0, start1.atStart⟩
end Jvm.Pilot.@@N@@
