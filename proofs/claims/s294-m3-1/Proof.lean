import JvmDerived
import JvmDerived.Pilot.@@N@@Statement
import JvmDerived.Pilot.@@N@@Code
set_option linter.unusedVariables false
set_option linter.unusedSimpArgs false
namespace Jvm.Pilot.@@N@@
open Jvm Jvm.ClassFile Sem Op Lib Jvm.Free Jvm.Stand Jvm.LawKit Jvm.RoadKit Bundle Jvm.Pilot.@@N@@.Jvm.D
/-! ## own: a small logic of owned cells over the library's Stand -/
/-- cells by their addresses -/
abbrev HL := List (Addr × Cell)
def Own (h : Heap) (σ : HL) : Prop := ∀ q ∈ σ, h[q.1]? = some q.2
abbrev adr (σ : HL) : List Addr := σ.map Prod.fst
/-- what is known of the heap h under the tables vm, in an activation that began at s owning σ0 and reading ρ0: σ is owned, ρ is read, what stood at the law's start Z stands -/
def Hp (Z : State) (EL : List (String × Nat)) (σ0 ρ0 : HL) (s : State) (σ ρ : HL) (vm : Vm) (h : Heap) : Prop :=
  CHr Z EL s.vm s.heap vm h ∧ Own h σ ∧ Own h ρ ∧ (adr σ).Nodup ∧
  (∀ q ∈ σ, Z.heap.size ≤ q.1 ∧ (q.1 ∈ adr σ0 ∨ s.heap.size ≤ q.1) ∧ Safe Z EL vm h q.1) ∧
  (∀ q ∈ ρ, q.1 ∉ adr σ ∧ (q.1 ∈ adr ρ0 ∨ q.1 ∈ adr σ0 ∨ s.heap.size ≤ q.1 ∨ Bk Z EL s.vm s.heap q.1)) ∧
  (∀ (x : Addr) (cl : Cell), s.heap[x]? = some cl → x ∉ adr σ0 → h[x]? = some cl) ∧ Ext Z.heap h
section HpLaws
variable {Z s : State} {EL : List (String × Nat)} {σ0 ρ0 σ ρ σ' ρ' : HL} {vm vm1 : Vm} {h h' : Heap}
theorem own_lt (O : Own h σ) {q : Addr × Cell} (hq : q ∈ σ) : q.1 < h.size := (Array.getElem?_eq_some_iff.mp (O q hq)).1
theorem adr_mem {x : Addr} (hx : x ∈ adr σ) : ∃ q ∈ σ, q.1 = x := List.mem_map.mp hx
theorem mem_adr {q : Addr × Cell} (hq : q ∈ σ) : q.1 ∈ adr σ := List.mem_map.mpr ⟨q, hq, rfl⟩
theorem Own.ext (E : Ext h h') (O : Own h σ) : Own h' σ := fun q hq => E.2 _ _ (O q hq)
theorem Own.sub (O : Own h σ) (hs : ∀ q ∈ σ', q ∈ σ) : Own h σ' := fun q hq => O q (hs q hq)
theorem own_app (O : Own h σ) (O' : Own h σ') : Own h (σ ++ σ') := fun q hq => (List.mem_append.mp hq).elim (O q) (O' q)
theorem ext_tr {h2 : Heap} (E : Ext h h') (E' : Ext h' h2) : Ext h h2 := ⟨Nat.le_trans E.1 E'.1, fun a c q => E'.2 _ _ (E.2 _ _ q)⟩
/-- tables and heap go on; nothing owned or read is touched -/
theorem Hp.later (H : Hp Z EL σ0 ρ0 s σ ρ vm h) (C : CHr Z EL vm h vm1 h') (E : Ext h h') : Hp Z EL σ0 ρ0 s σ ρ vm1 h' := by
  obtain ⟨c, o, r, nd, a, b, f, z⟩ := H
  exact ⟨c.trans C, o.ext E, r.ext E, nd, fun q hq => ⟨(a q hq).1, (a q hq).2.1, C.safe (own_lt o hq) (a q hq).2.2⟩, b, fun x cl hx hn => E.2 _ _ (f x cl hx hn), ext_tr z E⟩
theorem Hp.alloc (H : Hp Z EL σ0 ρ0 s σ ρ vm h) (E : Ext h h') {c : Cell} (hc : h'[h.size]? = some c) : Hp Z EL σ0 ρ0 s ((h.size, c) :: σ) ρ vm h' := by
  have C : CHr Z EL vm h vm h' := CHr.ext E H.1.1
  have H' := H.later C E
  obtain ⟨c1, o, r, nd, a, b, f, z⟩ := H
  obtain ⟨c1', o', r', nd', a', b', f', z'⟩ := H'
  refine ⟨c1', fun q hq => ?_, r', ?_, fun q hq => ?_, fun q hq => ⟨?_, (b q hq).2⟩, f', z'⟩
  · rcases List.mem_cons.mp hq with rfl | hq
    · exact hc
    · exact o' q hq
  · refine List.nodup_cons.mpr ⟨fun hm => ?_, nd⟩
    obtain ⟨q, hq, e⟩ := adr_mem hm
    exact absurd (e ▸ own_lt o hq) (Nat.lt_irrefl _)
  · rcases List.mem_cons.mp hq with rfl | hq
    · exact ⟨z.1, Or.inr c1.2.1, Safe.ext E c1.1 (Safe.new (Nat.le_refl _))⟩
    · exact a' q hq
  · intro hm
    rcases List.mem_cons.mp hm with e | hm
    · exact absurd (e ▸ own_lt r hq) (Nat.lt_irrefl _)
    · exact (b q hq).1 hm
/-- one owned cell is written -/
theorem Hp.write (H : Hp Z EL σ0 ρ0 s σ ρ vm h) {i : Nat} {a : Addr} {c c' : Cell} (hi : σ[i]? = some (a, c)) (hw : h' = h.setIfInBounds a c') : Hp Z EL σ0 ρ0 s (σ.set i (a, c')) ρ vm h' := by
  have hmem : (a, c) ∈ σ := List.mem_of_getElem? hi
  have hadr : adr (σ.set i (a, c')) = adr σ := by
    rw [adr, List.map_set]
    apply List.ext_getElem?
    intro j
    rw [List.getElem?_set]
    split
    · rename_i e
      subst e
      simp only [List.length_map, List.getElem?_map, hi, Option.map_some]
      split
      · rfl
      · rename_i hl
        exact absurd (List.getElem?_eq_some_iff.mp hi).1 (by simpa using hl)
    · rfl
  obtain ⟨c1, o, r, nd, al, b, f, z⟩ := H
  have ha : h[a]? = some c := o _ hmem
  have hlt : a < h.size := (Array.getElem?_eq_some_iff.mp ha).1
  have hS : Safe Z EL vm h a := (al _ hmem).2.2
  have ke : ∀ y, y ≠ a → h'[y]? = h[y]? := fun y hy => by rw [hw, Array.getElem?_setIfInBounds_ne (Ne.symm hy)]
  have hsz : h'.size = h.size := by rw [hw]; simp
  have hstep := c1.1.step (h' := h') fun y B cell q => by
    rw [ke y fun e => hS (e ▸ B)]; exact q
  have C : CHr Z EL vm h vm h' := ⟨hstep.1, by rw [hsz]; exact Nat.le_refl _, fun y q => Or.inl (hstep.2 y q)⟩
  have hin : ∀ q ∈ σ.set i (a, c'), q = (a, c') ∨ (q ∈ σ ∧ q.1 ≠ a) := fun q hq => by
    obtain ⟨j, hj⟩ := List.mem_iff_getElem?.mp hq
    rw [List.getElem?_set] at hj
    split at hj
    · split at hj
      · exact Or.inl (Option.some.inj hj).symm
      · cases hj
    · rename_i hne
      refine Or.inr ⟨List.mem_of_getElem? hj, fun e => hne ?_⟩
      have h1 : (adr σ)[j]? = some a := by rw [adr, List.getElem?_map, hj]; exact congrArg some e
      have h2 : (adr σ)[i]? = some a := by rw [adr, List.getElem?_map, hi]; rfl
      obtain ⟨l1, e1⟩ := List.getElem?_eq_some_iff.mp h1
      obtain ⟨l2, e2⟩ := List.getElem?_eq_some_iff.mp h2
      exact (List.getElem_inj nd).mp (e2.trans e1.symm)
  refine ⟨c1.trans C, fun q hq => ?_, fun q hq => ?_, by rw [hadr]; exact nd, fun q hq => ?_, fun q hq => ⟨by rw [hadr]; exact (b q hq).1, (b q hq).2⟩, fun x cl hx hn => ?_, ⟨by rw [hsz]; exact z.1, fun x cl hx => ?_⟩⟩
  · rcases hin q hq with rfl | ⟨hq, hne⟩
    · show h'[a]? = some c'
      rw [hw]; simp [hlt]
    · rw [ke _ hne]; exact o q hq
  · rw [ke q.1 fun e => (b q hq).1 (by rw [e]; exact mem_adr hmem)]; exact r q hq
  · rcases hin q hq with rfl | ⟨hq, -⟩
    · exact ⟨(al _ hmem).1, (al _ hmem).2.1, C.safe hlt hS⟩
    · exact ⟨(al q hq).1, (al q hq).2.1, C.safe (own_lt o hq) (al q hq).2.2⟩
  · have hx' := f x cl hx hn
    rw [ke x]
    · exact hx'
    · rintro rfl
      rcases (al _ hmem).2.1 with q | q
      · exact hn q
      · exact absurd (Array.getElem?_eq_some_iff.mp hx).1 (Nat.not_lt.mpr q)
  · rw [ke x]
    · exact z.2 x cl hx
    · rintro rfl
      exact absurd (Array.getElem?_eq_some_iff.mp hx).1 (Nat.not_lt.mpr (al _ hmem).1)
/-- fewer, or otherwise ordered -/
theorem Hp.sub (H : Hp Z EL σ0 ρ0 s σ ρ vm h) (hs : ∀ q ∈ σ', q ∈ σ) (nd : (adr σ').Nodup) (hr : ∀ q ∈ ρ', q ∈ ρ) : Hp Z EL σ0 ρ0 s σ' ρ' vm h := by
  obtain ⟨c, o, r, -, a, b, f⟩ := H
  refine ⟨c, o.sub hs, r.sub hr, nd, fun q hq => a q (hs q hq), fun q hq => ⟨fun hm => ?_, (b q (hr q hq)).2⟩, f⟩
  obtain ⟨q', hq', e⟩ := adr_mem hm
  exact (b q (hr q hq)).1 (e ▸ mem_adr (hs q' hq'))
/-- owned cells become read-only -/
theorem Hp.freeze (H : Hp Z EL σ0 ρ0 s (σ' ++ σ) ρ vm h) : Hp Z EL σ0 ρ0 s σ (σ' ++ ρ) vm h := by
  obtain ⟨c, o, r, nd, a, b, f⟩ := H
  have nd' := nd
  rw [adr, List.map_append, List.nodup_append] at nd'
  refine ⟨c, o.sub fun q hq => List.mem_append_right _ hq, own_app (o.sub fun q hq => List.mem_append_left _ hq) r, nd'.2.1, fun q hq => a q (List.mem_append_right _ hq), fun q hq => ?_, f⟩
  rcases List.mem_append.mp hq with hq | hq
  · refine ⟨fun hm => nd'.2.2 _ (mem_adr hq) _ hm rfl, ?_⟩
    rcases (a q (List.mem_append_left _ hq)).2.1 with z | z
    · exact Or.inr (Or.inl z)
    · exact Or.inr (Or.inr (Or.inl z))
  · refine ⟨fun hm => (b q hq).1 ?_, (b q hq).2⟩
    rw [adr, List.map_append]; exact List.mem_append_right _ hm
/-- a booked literal's cells are read-only -/
theorem Hp.lit (H : Hp Z EL σ0 ρ0 s σ ρ vm h) {a : Addr} {c : Cell} (ha : h[a]? = some c) (hb : ∀ x, Safe Z EL vm h x → x ≠ a) : Hp Z EL σ0 ρ0 s σ ((a, c) :: ρ) vm h := by
  obtain ⟨c1, o, r, nd, al, b, f⟩ := H
  refine ⟨c1, o, fun q hq => ?_, nd, al, fun q hq => ?_, f⟩
  · rcases List.mem_cons.mp hq with rfl | hq
    · exact ha
    · exact r q hq
  · rcases List.mem_cons.mp hq with rfl | hq
    · refine ⟨fun hm => ?_, ?_⟩
      · obtain ⟨q, hq, e⟩ := adr_mem hm
        exact hb _ (al q hq).2.2 e
      · have hB : Bk Z EL vm h a := Classical.byContradiction fun hn => hb a hn rfl
        rcases c1.2.2 a hB with z | z
        · exact Or.inr (Or.inr (Or.inr z))
        · exact Or.inr (Or.inr (Or.inl z))
    · exact b q hq
/-- **THE FRAME RULE**: a callee that was handed σi and ρi gives back σ' and ρ' -/
theorem Hp.call {U : State} {σi σf ρi : HL} (H : Hp Z EL σ0 ρ0 s (σi ++ σf) ρ U.vm U.heap) (hρ : ∀ q ∈ ρi, q ∈ ρ) (Hc : Hp Z EL σi ρi U σ' ρ' vm1 h') : Hp Z EL σ0 ρ0 s (σ' ++ σf) (ρ' ++ ρ) vm1 h' := by
  obtain ⟨c, o, r, nd, a, b, f, z0⟩ := H
  obtain ⟨c', o', r', nd', a', b', f', z'⟩ := Hc
  have nd2 := nd
  rw [adr, List.map_append, List.nodup_append] at nd2
  have of : Own U.heap σf := o.sub fun q hq => List.mem_append_right _ hq
  have disj : ∀ x, x ∈ adr σi → x ∉ adr σf := fun x h1 h2 => nd2.2.2 x h1 x h2 rfl
  have inapp : ∀ x, x ∈ adr σi → x ∈ adr (σi ++ σf) := fun x hx => by rw [adr, List.map_append]; exact List.mem_append_left _ hx
  have inapp' : ∀ x, x ∈ adr σf → x ∈ adr (σi ++ σf) := fun x hx => by rw [adr, List.map_append]; exact List.mem_append_right _ hx
  have flt : ∀ x, x ∈ adr σf → x < U.heap.size := fun x hx => by obtain ⟨q, hq, rfl⟩ := adr_mem hx; exact own_lt of hq
  have orig : ∀ x, x ∈ adr σi → x ∈ adr σ0 ∨ s.heap.size ≤ x := fun x hx => by obtain ⟨q, hq, rfl⟩ := adr_mem hx; exact (a q (List.mem_append_left _ hq)).2.1
  have hs := c.2.1
  refine ⟨c.trans c', own_app o' fun q hq => f' _ _ (of q hq) fun hm => disj _ hm (mem_adr hq), own_app r' fun q hq => f' _ _ (r q hq) fun hm => (b q hq).1 (inapp _ hm), ?_, fun q hq => ?_, fun q hq => ?_, fun x cl hx hn => ?_, z'⟩
  · rw [adr, List.map_append, List.nodup_append]
    refine ⟨nd', nd2.2.1, fun x hx y hy e => ?_⟩
    subst e
    obtain ⟨q, hq, rfl⟩ := adr_mem hx
    rcases (a' q hq).2.1 with z | z
    · exact disj _ z hy
    · exact absurd (flt _ hy) (Nat.not_lt.mpr z)
  · rcases List.mem_append.mp hq with hq | hq
    · refine ⟨(a' q hq).1, ?_, (a' q hq).2.2⟩
      rcases (a' q hq).2.1 with z | z
      · exact orig _ z
      · exact Or.inr (Nat.le_trans hs z)
    · have z := a q (List.mem_append_right _ hq)
      exact ⟨z.1, z.2.1, c'.safe (own_lt of hq) z.2.2⟩
  · rcases List.mem_append.mp hq with hq | hq
    · have z := b' q hq
      refine ⟨fun hm => ?_, ?_⟩
      · rw [adr, List.map_append] at hm
        rcases List.mem_append.mp hm with hm | hm
        · exact z.1 hm
        · rcases z.2 with y | y | y | y
          · obtain ⟨q', hq', e⟩ := adr_mem y
            refine (b q' (hρ q' hq')).1 (inapp' _ ?_)
            rw [e]; exact hm
          · exact disj _ y hm
          · exact absurd (flt _ hm) (Nat.not_lt.mpr y)
          · obtain ⟨q', hq', e⟩ := adr_mem hm
            refine (a q' (List.mem_append_right _ hq')).2.2 ?_
            rw [e]; exact y
      · rcases z.2 with y | y | y | y
        · obtain ⟨q', hq', e⟩ := adr_mem y
          have := (b q' (hρ q' hq')).2
          rw [e] at this; exact this
        · rcases orig _ y with w | w
          · exact Or.inr (Or.inl w)
          · exact Or.inr (Or.inr (Or.inl w))
        · exact Or.inr (Or.inr (Or.inl (Nat.le_trans hs y)))
        · rcases c.2.2 _ y with w | w
          · exact Or.inr (Or.inr (Or.inr w))
          · exact Or.inr (Or.inr (Or.inl w))
    · have z := b q hq
      refine ⟨fun hm => ?_, z.2⟩
      rw [adr, List.map_append] at hm
      rcases List.mem_append.mp hm with hm | hm
      · obtain ⟨q', hq', e⟩ := adr_mem hm
        rcases (a' q' hq').2.1 with y | y
        · refine z.1 (inapp _ ?_)
          rw [← e]; exact y
        · exact absurd (own_lt r hq) (Nat.not_lt.mpr (e ▸ y))
      · exact z.1 (inapp' _ hm)
  · refine f' x cl (f x cl hx hn) fun hm => ?_
    rcases orig _ hm with z | z
    · exact hn z
    · exact absurd (Array.getElem?_eq_some_iff.mp hx).1 (Nat.not_lt.mpr z)
end HpLaws
/-! ## own: the walk's point (Wk), what is still to be reached (Go), a contract (Met) -/
abbrev Ctx := Program × Env × State × MethodId × Array Value × List Frame × Method × Code × HL × HL
abbrev Ctx.p (X : Ctx) : Program := X.1
abbrev Ctx.e (X : Ctx) : Env := X.2.1
abbrev Ctx.s (X : Ctx) : State := X.2.2.1
abbrev Ctx.m (X : Ctx) : MethodId := X.2.2.2.1
abbrev Ctx.args (X : Ctx) : Array Value := X.2.2.2.2.1
abbrev Ctx.below (X : Ctx) : List Frame := X.2.2.2.2.2.1
abbrev Ctx.meth (X : Ctx) : Method := X.2.2.2.2.2.2.1
abbrev Ctx.c (X : Ctx) : Code := X.2.2.2.2.2.2.2.1
abbrev Ctx.so (X : Ctx) : HL := X.2.2.2.2.2.2.2.2.1
abbrev Ctx.ro (X : Ctx) : HL := X.2.2.2.2.2.2.2.2.2
def Wk (l : Launch) (Z : State) (EL : List (String × Nat)) (R : Room) (own : String) (bytes : ByteArray) (maxL : Nat) (ret : Option FieldType) (nm : String) (X : Ctx) (σ ρ : HL) (T : State) (k n : Nat) : Prop :=
  (X.p.tables.exec = Jvm.exec ∧ X.c.code = bytes ∧ X.c.maxLocals = maxL ∧ X.meth.sig.returnType = ret ∧ X.meth.locks = false ∧ X.meth.name = nm ∧ ∃ a : Array Value, EW Z a EL) ∧
  ∃ (vm0 : Vm) (k0 : Nat) (locs : List Loc), Stand X.p l X.e R (X.s.setVm vm0) X.m X.args X.below X.meth X.c T locs k n ∧ X.s.Since vm0 k0 ∧ k0 ≤ T.heap.size ∧ Z.Warmed39 vm0 ∧ vm0.findClass own = some X.m.cls ∧ Fr Z.heap.size locs ∧ Hp Z EL X.so X.ro X.s σ ρ vm0 T.heap
def Go (Z : State) (EL : List (String × Nat)) (K N : Nat) (Q : Option Value → HL → HL → Prop) (X : Ctx) (T : State) (pc : Nat) (Ls : Array Slot) (st : List Value) : Prop :=
  ∃ (s₂ : State) (o : Outcome), Steps X.p.tables X.e X.below (T.setTop (mkF X.m pc Ls st)) s₂ ∧ s₂.status = .running ∧ Ended s₂ X.below o ∧
    ∃ v σ ρ L, o = .returned v ∧ Q v σ ρ ∧ Fr Z.heap.size L ∧ Hp Z EL X.so X.ro X.s σ ρ s₂.vm s₂.heap ∧ ReturnedEndW X.s o s₂ L K N
def Met (l : Launch) (Z : State) (EL : List (String × Nat)) (y : MethodName) (bytes : ByteArray) (maxL : Nat) (ret : Option FieldType) (rm : Room) (as' : Array Value) (σi ρi : HL) (Q : Option Value → HL → HL → Prop) : Prop :=
  MetFree l y (head1 [Jvm.Cond.code y bytes maxL ret] rm) (fun a U => a = as' ∧ Z.Warmed39 U.vm ∧ Hp Z EL σi ρi U σi ρi U.vm U.heap) (fun _ _ _ _ _ => True)
    (fun _ U o U' => ∃ v σ ρ L, o = .returned v ∧ Q v σ ρ ∧ Fr Z.heap.size L ∧ Hp Z EL σi ρi U σ ρ U'.vm U'.heap ∧ ReturnedEndW U o U' L rm.cells rm.slots)
section WkLaws
variable {l : Launch} {Z : State} {a0 : Array Value} {EL : List (String × Nat)} {R : Room} {own : String} {bytes : ByteArray} {maxL : Nat} {ret : Option FieldType} {nm : String} {X : Ctx} {σ ρ σ' ρ' : HL} {T T' : State} {k n K N : Nat} {Q Q' : Option Value → HL → HL → Prop} {pc pc' : Nat} {Ls Ls' : Array Slot} {st st' : List Value}
theorem Wk.here (W : Wk l Z EL R own bytes maxL ret nm X σ ρ T k n) : At T X.m X.c X.below := by obtain ⟨-, _, _, _, Y, -⟩ := W; exact Y.here
theorem Wk.hx (W : Wk l Z EL R own bytes maxL ret nm X σ ρ T k n) : X.p.tables.exec = Jvm.exec := W.1.1
theorem Wk.hb (W : Wk l Z EL R own bytes maxL ret nm X σ ρ T k n) {r : Except ClassFile.DecodeError (ClassFile.Instr × Nat)} (hd : decode bytes pc = r) : decode X.c.code pc = r := by rw [W.1.2.1]; exact hd
theorem Go.by (f : ∀ t, Steps X.p.tables X.e X.below (T'.setTop (mkF X.m pc' Ls' st')) t → Steps X.p.tables X.e X.below (T.setTop (mkF X.m pc Ls st)) t) (r : Go Z EL K N Q X T' pc' Ls' st') : Go Z EL K N Q X T pc Ls st := by
  obtain ⟨s2, o, h1, h2⟩ := r
  exact ⟨s2, o, f _ h1, h2⟩
theorem Go.mono (h : ∀ v σ ρ, Q v σ ρ → Q' v σ ρ) (r : Go Z EL K N Q X T pc Ls st) : Go Z EL K N Q' X T pc Ls st := by
  obtain ⟨s2, o, h1, h2, h3, v, a, b, L, e, q, r⟩ := r
  exact ⟨s2, o, h1, h2, h3, v, a, b, L, e, h _ _ _ q, r⟩
theorem Met.mono {y : MethodName} {rm : Room} {as' : Array Value} (h : ∀ v σ ρ, Q v σ ρ → Q' v σ ρ) (M : Met l Z EL y bytes maxL ret rm as' σ ρ Q) : Met l Z EL y bytes maxL ret rm as' σ ρ Q' :=
  fun p e ha hc hk s m args below hf happ hP hK => by
    obtain ⟨n, o, h1, h2, h3, v, s1, r1, L, e1, q, r⟩ := M p e ha hc hk s m args below hf happ hP hK
    exact ⟨n, o, h1, h2, h3, v, s1, r1, L, e1, h _ _ _ q, r⟩
theorem Hp.enter {s U : State} {σ0 ρ0 σi σf ρi : HL} (H : Hp Z EL σ0 ρ0 s (σi ++ σf) ρ U.vm U.heap) (hρ : ∀ q ∈ ρi, q ∈ ρ) : Hp Z EL σi ρi U σi ρi U.vm U.heap := by
  obtain ⟨c, o, r, nd, a, b, f, z0⟩ := H
  rw [adr, List.map_append, List.nodup_append] at nd
  refine ⟨CHr.refl c.1, o.sub fun q hq => List.mem_append_left _ hq, r.sub hρ, nd.1, fun q hq => ?_, fun q hq => ⟨fun hm => (b q (hρ q hq)).1 ?_, Or.inl (mem_adr hq)⟩, fun _ _ q _ => q, z0⟩
  · have z := a q (List.mem_append_left _ hq)
    exact ⟨z.1, Or.inl (mem_adr hq), z.2.2⟩
  · rw [adr, List.map_append]; exact List.mem_append_left _ hm
/-- a walk of the body meets the contract -/
theorem Met.walk {y : MethodName} {rm : Room} {as' : Array Value} {σi ρi : HL} (hEL : EW Z a0 EL) (hp : plainName y.cls = true) (Ls0 : Array Slot) (ent : ∀ m, entryFrame m as' maxL = mkF m 0 Ls0 [])
    (w : ∀ (X : Ctx) (T : State), Wk l Z EL rm y.cls bytes maxL ret y.name X σi ρi T 0 0 → Go Z EL rm.cells rm.slots Q X T 0 Ls0 []) : Met l Z EL y bytes maxL ret rm as' σi ρi Q := by
  refine MetFree.of_bodySF (plainFor_of_name hp) hisR ?_
  intro p e s m args below meth c s₁ Bd hml hP hK
  obtain ⟨rfl, hZ, H⟩ := hP
  have X0 : Stand p l e rm s m args below meth c s₁ [] 0 0 := Stand.of_body Bd
  have e0 : s₁.heap = s.heap := by rw [Bd.state]; rfl
  obtain ⟨s2, o, h1, h2, h3, h4⟩ := w (p, e, s, m, args, below, meth, c, σi, ρi) s₁ ⟨⟨Bd.exec, Bd.bytes, hml, Bd.returns, Bd.notSynchronized, (name_of_methodNamed Bd.named Bd.method).1, a0, hEL⟩, s.vm, s.heap.size, [], X0, (State.WarmedH.refl s).since _, by rw [e0]; exact Nat.le_refl _, hZ, findClass_of_methodNamed Bd.named, Fr.nil _, by rw [e0]; exact H⟩
  exact ⟨s2, o, castTop (ent m) h1, h2, h3, h4⟩
/-- a contract pays a call -/
theorem Met.back {p : Program} {e : Env} {below : List Frame} {s : State} {args : Array Value} {vm0 : Vm} {y : MethodName} {rm : Room} {as' : Array Value} {σi ρi σf σ0 ρ0 : HL} {len W : Nat} {h : Heap} (M : Met l Z EL y bytes maxL ret rm as' σi ρi Q)
    (hZ : Z.Warmed39 vm0) (wc : (Jvm.Cond.code y bytes maxL ret).before a0 Z = true) (wz : (Jvm.Cond.initialized y.cls).before a0 Z = true) (hf : rm.frames + 1 ≤ R.frames) (hl : W + (maxL + 11) + rm.locals ≤ R.locals) {a1 : Array Value} (hEL : EW Z a1 EL)
    (H : Hp Z EL σ0 ρ0 s (σi ++ σf) ρ vm0 h) (hρ : ∀ q ∈ ρi, q ∈ ρ) :
    BackS l R p e below (s.setVm vm0) args y len W (fun A a => a = as' ∧ A.U.heap = h ∧ A.cells + rm.cells ≤ R.cells ∧ A.slots + rm.slots ≤ R.slots)
      (fun A _ v B => ∃ σ' ρ' L, Q v σ' ρ' ∧ Fr Z.heap.size L ∧ Hp Z EL σ0 ρ0 s (σ' ++ σf) (ρ' ++ ρ) B.U.vm B.U.heap ∧ B.locs = A.locs ++ L ∧ B.cells = A.cells + rm.cells ∧ B.slots = A.slots + rm.slots) := by
  have key : ∀ m meth c (A : Pt) (g : JFrame) mk (a : Array Value), Stand p l e R (s.setVm vm0) m args below meth c A.U A.locs A.cells A.slots → A.U.heap = h → Hp Z EL σ0 ρ0 s (σi ++ σf) ρ (A.U.calling g mk a).vm (A.U.calling g mk a).heap := fun m meth c A g mk a Y hp => by
    have C := CHv.at Y hZ hEL H.1.1
    have q := H.later C ⟨Nat.le_refl _, fun _ _ z => z⟩
    show Hp Z EL σ0 ρ0 s (σi ++ σf) ρ A.U.vm A.U.heap
    rw [hp]; exact q
  refine BackS.of_freeW (bytes := bytes) (maxL := maxL) (ret := ret) (E := fun _ first o t L k n => k = rm.cells ∧ n = rm.slots ∧ ∃ v σ ρ, o = .returned v ∧ Q v σ ρ ∧ Fr Z.heap.size L ∧ Hp Z EL σi ρi first σ ρ t.vm t.heap) M hf hl
    (fun m meth c A a Y hp => have hU : Z.Warmed39 A.U.vm := wtrans (s := s.setVm vm0) hZ Y.warmed
      ⟨by show (Jvm.Cond.and _ .tt).before a A.U = true; rw [Cond.before_and, mv hU wc]; rfl, mv hU wc, mv hU wz, hp.2.2.1, hp.2.2.2⟩)
    (fun m meth c A a g mk Y hp => ⟨hp.1, wtrans (s := s.setVm vm0) hZ Y.warmed, (key m meth c A g mk a Y hp.2.1).enter hρ⟩) (fun _ _ _ _ _ _ _ _ _ => trivial)
    (fun _ _ _ _ ⟨v, s1, r1, L, h1, h2, h3, h4, h5⟩ => ⟨L, _, _, h5, rfl, rfl, v, s1, r1, h1, h2, h3, h4⟩) ?_
  intro m meth c A a g mk v t L k n Y hp _ _ ⟨e1, e2, v', s1, r1, e3, e4, e5, e6⟩
  cases e3
  subst e1 e2
  exact ⟨s1, r1, L, e4, e5, (key m meth c A g mk a Y hp.2.1).call hρ e6, rfl, rfl, rfl⟩
/-! picking out of lists -/
def takeAt {α : Type} : Nat → List α → Option (α × List α)
  | _, [] => none
  | 0, x :: l => some (x, l)
  | i + 1, x :: l => match takeAt i l with
    | none => none
    | some (y, l') => some (y, x :: l')
def pick {α : Type} : List Nat → List α → Option (List α × List α)
  | [], l => some ([], l)
  | i :: is, l => match takeAt i l with
    | none => none
    | some (x, l') => match pick is l' with
      | none => none
      | some (a, b) => some (x :: a, b)
theorem takeAt_perm {α : Type} : ∀ (i : Nat) (l : List α) (x : α) (l' : List α), takeAt i l = some (x, l') → (x :: l').Perm l
  | _, [], _, _, h => by simp [takeAt] at h
  | 0, y :: l, x, l', h => by simp [takeAt] at h; obtain ⟨rfl, rfl⟩ := h; exact List.Perm.refl _
  | i + 1, y :: l, x, l', h => by
    simp only [takeAt] at h
    cases hq : takeAt i l with
    | none => simp [hq] at h
    | some q =>
      obtain ⟨z, l2⟩ := q
      simp [hq] at h
      obtain ⟨rfl, rfl⟩ := h
      exact (List.Perm.swap _ _ _).trans ((takeAt_perm i l z l2 hq).cons y)
theorem pick_perm {α : Type} : ∀ (is : List Nat) (l a b : List α), pick is l = some (a, b) → (a ++ b).Perm l
  | [], l, a, b, h => by simp [pick] at h; obtain ⟨rfl, rfl⟩ := h; exact List.Perm.refl _
  | i :: is, l, a, b, h => by
    simp only [pick] at h
    cases hq : takeAt i l with
    | none => simp [hq] at h
    | some q =>
      obtain ⟨x, l'⟩ := q
      cases hp : pick is l' with
      | none => simp [hq, hp] at h
      | some r =>
        obtain ⟨a', b'⟩ := r
        simp [hq, hp] at h
        obtain ⟨rfl, rfl⟩ := h
        exact ((pick_perm is l' a' b' hp).cons x).trans (takeAt_perm i l x l' hq)
theorem Hp.perm {s : State} {σ0 ρ0 : HL} {vm : Vm} {h : Heap} (H : Hp Z EL σ0 ρ0 s σ ρ vm h) (hp : σ'.Perm σ) : Hp Z EL σ0 ρ0 s σ' ρ vm h :=
  H.sub (fun q hq => hp.mem_iff.mp hq) ((hp.map Prod.fst).nodup_iff.mpr H.2.2.2.1) fun _ q => q
def roOf (is : List Nat) (ρ ρi : HL) : Prop := is.map (fun i => ρ[i]?) = ρi.map some
theorem roOf.mem {is : List Nat} {ρi : HL} (h : roOf is ρ ρi) : ∀ q ∈ ρi, q ∈ ρ := fun q hq => by
  have h1 : some q ∈ ρi.map some := List.mem_map.mpr ⟨q, hq, rfl⟩
  rw [← h] at h1
  obtain ⟨i, -, e⟩ := List.mem_map.mp h1
  exact List.mem_of_getElem? e
theorem Wk.perm (W : Wk l Z EL R own bytes maxL ret nm X σ ρ T k n) (hp : σ'.Perm σ) : Wk l Z EL R own bytes maxL ret nm X σ' ρ T k n := by
  obtain ⟨w, vm0, k0, locs, a, b, c, d, e, f, H⟩ := W
  exact ⟨w, vm0, k0, locs, a, b, c, d, e, f, H.perm hp⟩
/-- owned cells become read-only -/
theorem Wk.freeze (W : Wk l Z EL R own bytes maxL ret nm X σ ρ T k n) (is : List Nat) {σi σf : HL} (hp : pick is σ = some (σi, σf)) : Wk l Z EL R own bytes maxL ret nm X σf (σi ++ ρ) T k n := by
  obtain ⟨w, vm0, k0, locs, a, b, c, d, e, f, H⟩ := W
  exact ⟨w, vm0, k0, locs, a, b, c, d, e, f, (H.perm (pick_perm _ _ _ _ hp)).freeze⟩
/-- cells forgotten -/
theorem Wk.drop (W : Wk l Z EL R own bytes maxL ret nm X σ ρ T k n) (is : List Nat) {σi σf : HL} (hp : pick is σ = some (σi, σf)) : Wk l Z EL R own bytes maxL ret nm X σf ρ T k n := by
  obtain ⟨w, vm0, k0, locs, a, b, c, d, e, f, H⟩ := W
  have H' := H.perm (pick_perm _ _ _ _ hp)
  refine ⟨w, vm0, k0, locs, a, b, c, d, e, f, H'.sub (fun q hq => List.mem_append_right _ hq) ?_ fun _ q => q⟩
  have nd := H'.2.2.2.1
  rw [adr, List.map_append, List.nodup_append] at nd
  exact nd.2.1
theorem Wk.keepRo (W : Wk l Z EL R own bytes maxL ret nm X σ ρ T k n) (is : List Nat) (hp : roOf is ρ ρ') : Wk l Z EL R own bytes maxL ret nm X σ ρ' T k n := by
  obtain ⟨w, vm0, k0, locs, a, b, c, d, e, f, H⟩ := W
  exact ⟨w, vm0, k0, locs, a, b, c, d, e, f, H.sub (fun _ q => q) H.2.2.2.1 hp.mem⟩
theorem Wk.more (W : Wk l Z EL R own bytes maxL ret nm X σ ρ T k n) {k' n' : Nat} (hk : k ≤ k') (hn : n ≤ n') : Wk l Z EL R own bytes maxL ret nm X σ ρ T k' n' := by
  obtain ⟨w, vm0, k0, locs, a, b⟩ := W
  exact ⟨w, vm0, k0, locs, a.more hk hn, b⟩
theorem Wk.ext (W : Wk l Z EL R own bytes maxL ret nm X σ ρ T k n) : Ext Z.heap T.heap := by
  obtain ⟨w, vm0, k0, locs, a, b, c, d, e, f, H⟩ := W
  exact H.2.2.2.2.2.2.2
theorem Wk.cell (W : Wk l Z EL R own bytes maxL ret nm X σ ρ T k n) {q : Addr × Cell} (hq : q ∈ σ ∨ q ∈ ρ ∨ Z.heap[q.1]? = some q.2) : T.heap[q.1]? = some q.2 := by
  obtain ⟨w, vm0, k0, locs, a, b, c, d, e, f, H⟩ := W
  exact hq.elim (H.2.1 q) fun z => z.elim (H.2.2.1 q) (H.2.2.2.2.2.2.2.2 _ _)
end WkLaws
/-! ## own: single steps in the Go form (printed by gen_steps.py) -/
section StepLaws
variable {l : Launch} {Z : State} {a0 : Array Value} {EL : List (String × Nat)} {R : Room} {own : String} {bytes : ByteArray} {maxL : Nat} {ret : Option FieldType} {nm : String} {X : Ctx} {σ ρ : HL} {T : State} {k n K N : Nat} {Q : Option Value → HL → HL → Prop} {pc pc' : Nat} {Ls : Array Slot} {st : List Value}
theorem Go.aload (W : Wk l Z EL R own bytes maxL ret nm X σ ρ T k n) {k' : Nat} {v : Value} (hd : decode bytes pc = .ok (.aload k', 2)) (hl : Ls[k']? = some (.val v)) (hv : v.isRef = true) (hp : pc + 2 = pc') (r : Go Z EL K N Q X T pc' Ls (v :: st)) : Go Z EL K N Q X T pc Ls st :=
  Go.by (fun t kk => XS.aload W.here W.hx rfl (W.hb hd) hl hv (by subst hp; exact kk)) r
theorem Go.aloadN (W : Wk l Z EL R own bytes maxL ret nm X σ ρ T k n) {k' : Fin 4} {v : Value} (hd : decode bytes pc = .ok (.aload_n k', 1)) (hl : Ls[k'.val]? = some (.val v)) (hv : v.isRef = true) (hp : pc + 1 = pc') (r : Go Z EL K N Q X T pc' Ls (v :: st)) : Go Z EL K N Q X T pc Ls st :=
  Go.by (fun t kk => XS.aloadN W.here W.hx rfl (W.hb hd) hl hv (by subst hp; exact kk)) r
theorem Go.iload (W : Wk l Z EL R own bytes maxL ret nm X σ ρ T k n) {k' : Nat} {v : Int32} (hd : decode bytes pc = .ok (.iload k', 2)) (hl : Ls[k']? = some (.val (.int v))) (hp : pc + 2 = pc') (r : Go Z EL K N Q X T pc' Ls (.int v :: st)) : Go Z EL K N Q X T pc Ls st :=
  Go.by (fun t kk => XS.iload W.here W.hx rfl (W.hb hd) hl (by subst hp; exact kk)) r
theorem Go.iloadN (W : Wk l Z EL R own bytes maxL ret nm X σ ρ T k n) {k' : Fin 4} {v : Int32} (hd : decode bytes pc = .ok (.iload_n k', 1)) (hl : Ls[k'.val]? = some (.val (.int v))) (hp : pc + 1 = pc') (r : Go Z EL K N Q X T pc' Ls (.int v :: st)) : Go Z EL K N Q X T pc Ls st :=
  Go.by (fun t kk => XS.iloadN W.here W.hx rfl (W.hb hd) hl (by subst hp; exact kk)) r
theorem Go.lload (W : Wk l Z EL R own bytes maxL ret nm X σ ρ T k n) {k' : Nat} {v : Int64} (hd : decode bytes pc = .ok (.lload k', 2)) (hl : Ls[k']? = some (.val (.long v))) (hp : pc + 2 = pc') (r : Go Z EL K N Q X T pc' Ls (.long v :: st)) : Go Z EL K N Q X T pc Ls st :=
  Go.by (fun t kk => XT.lload W.here W.hx rfl (W.hb hd) hl (by subst hp; exact kk)) r
theorem Go.lloadN (W : Wk l Z EL R own bytes maxL ret nm X σ ρ T k n) {k' : Fin 4} {v : Int64} (hd : decode bytes pc = .ok (.lload_n k', 1)) (hl : Ls[k'.val]? = some (.val (.long v))) (hp : pc + 1 = pc') (r : Go Z EL K N Q X T pc' Ls (.long v :: st)) : Go Z EL K N Q X T pc Ls st :=
  Go.by (fun t kk => XT.lloadN W.here W.hx rfl (W.hb hd) hl (by subst hp; exact kk)) r
theorem Go.istore (W : Wk l Z EL R own bytes maxL ret nm X σ ρ T k n) {k' : Nat} {x : Int32} (Ls' : Array Slot) (hd : decode bytes pc = .ok (.istore k', 2)) (hl : storeLocals Ls k' (.int x) = some Ls') (hp : pc + 2 = pc') (r : Go Z EL K N Q X T pc' Ls' st) : Go Z EL K N Q X T pc Ls (.int x :: st) :=
  Go.by (fun t kk => XS.istore W.here W.hx rfl (W.hb hd) rfl hl (by subst hp; exact kk)) r
theorem Go.istoreN (W : Wk l Z EL R own bytes maxL ret nm X σ ρ T k n) {k' : Fin 4} {x : Int32} (Ls' : Array Slot) (hd : decode bytes pc = .ok (.istore_n k', 1)) (hl : storeLocals Ls k'.val (.int x) = some Ls') (hp : pc + 1 = pc') (r : Go Z EL K N Q X T pc' Ls' st) : Go Z EL K N Q X T pc Ls (.int x :: st) :=
  Go.by (fun t kk => XS.istoreN W.here W.hx rfl (W.hb hd) rfl hl (by subst hp; exact kk)) r
theorem Go.astore (W : Wk l Z EL R own bytes maxL ret nm X σ ρ T k n) {k' : Nat} {x : Value} (Ls' : Array Slot) (hd : decode bytes pc = .ok (.astore k', 2)) (hv : x.isRef = true) (hl : storeLocals Ls k' x = some Ls') (hp : pc + 2 = pc') (r : Go Z EL K N Q X T pc' Ls' st) : Go Z EL K N Q X T pc Ls (x :: st) :=
  Go.by (fun t kk => XS.astore W.here W.hx rfl (W.hb hd) rfl hv hl (by subst hp; exact kk)) r
theorem Go.astoreN (W : Wk l Z EL R own bytes maxL ret nm X σ ρ T k n) {k' : Fin 4} {x : Value} (Ls' : Array Slot) (hd : decode bytes pc = .ok (.astore_n k', 1)) (hv : x.isRef = true) (hl : storeLocals Ls k'.val x = some Ls') (hp : pc + 1 = pc') (r : Go Z EL K N Q X T pc' Ls' st) : Go Z EL K N Q X T pc Ls (x :: st) :=
  Go.by (fun t kk => XS.astoreN W.here W.hx rfl (W.hb hd) rfl hv hl (by subst hp; exact kk)) r
theorem Go.lstore (W : Wk l Z EL R own bytes maxL ret nm X σ ρ T k n) {k' : Nat} {x : Int64} (Ls' : Array Slot) (hd : decode bytes pc = .ok (.lstore k', 2)) (hl : storeLocals Ls k' (.long x) = some Ls') (hp : pc + 2 = pc') (r : Go Z EL K N Q X T pc' Ls' st) : Go Z EL K N Q X T pc Ls (.long x :: st) :=
  Go.by (fun t kk => XT.lstore W.here W.hx rfl (W.hb hd) rfl hl (by subst hp; exact kk)) r
theorem Go.lstoreN (W : Wk l Z EL R own bytes maxL ret nm X σ ρ T k n) {k' : Fin 4} {x : Int64} (Ls' : Array Slot) (hd : decode bytes pc = .ok (.lstore_n k', 1)) (hl : storeLocals Ls k'.val (.long x) = some Ls') (hp : pc + 1 = pc') (r : Go Z EL K N Q X T pc' Ls' st) : Go Z EL K N Q X T pc Ls (.long x :: st) :=
  Go.by (fun t kk => XT.lstoreN W.here W.hx rfl (W.hb hd) rfl hl (by subst hp; exact kk)) r
theorem Go.iconst (W : Wk l Z EL R own bytes maxL ret nm X σ ρ T k n) {i : Int} (v : Int32) (hd : decode bytes pc = .ok (.iconst i, 1)) (hv : Int32.ofInt i = v) (hp : pc + 1 = pc') (r : Go Z EL K N Q X T pc' Ls (.int v :: st)) : Go Z EL K N Q X T pc Ls st :=
  Go.by (fun t kk => XS.iconst W.here W.hx rfl (W.hb hd)  (by subst hp; subst hv; exact kk)) r
theorem Go.bipush (W : Wk l Z EL R own bytes maxL ret nm X σ ρ T k n) {i : Int} (v : Int32) (hd : decode bytes pc = .ok (.bipush i, 2)) (hv : (Int8.ofInt i).toInt32 = v) (hp : pc + 2 = pc') (r : Go Z EL K N Q X T pc' Ls (.int v :: st)) : Go Z EL K N Q X T pc Ls st :=
  Go.by (fun t kk => XS.bipush W.here W.hx rfl (W.hb hd)  (by subst hp; subst hv; exact kk)) r
theorem Go.sipush (W : Wk l Z EL R own bytes maxL ret nm X σ ρ T k n) {i : Int} (v : Int32) (hd : decode bytes pc = .ok (.sipush i, 3)) (hv : (Int16.ofInt i).toInt32 = v) (hp : pc + 3 = pc') (r : Go Z EL K N Q X T pc' Ls (.int v :: st)) : Go Z EL K N Q X T pc Ls st :=
  Go.by (fun t kk => XS.sipush W.here W.hx rfl (W.hb hd)  (by subst hp; subst hv; exact kk)) r
theorem Go.lconst (W : Wk l Z EL R own bytes maxL ret nm X σ ρ T k n) {i : Fin 2} (v : Int64) (hd : decode bytes pc = .ok (.lconst i, 1)) (hv : Int64.ofNat i = v) (hp : pc + 1 = pc') (r : Go Z EL K N Q X T pc' Ls (.long v :: st)) : Go Z EL K N Q X T pc Ls st :=
  Go.by (fun t kk => XT.lconst W.here W.hx rfl (W.hb hd)  (by subst hp; subst hv; exact kk)) r
theorem Go.aconstNull (W : Wk l Z EL R own bytes maxL ret nm X σ ρ T k n)  (hd : decode bytes pc = .ok (.aconst_null, 1))  (hp : pc + 1 = pc') (r : Go Z EL K N Q X T pc' Ls (.null :: st)) : Go Z EL K N Q X T pc Ls st :=
  Go.by (fun t kk => XS.aconstNull W.here W.hx rfl (W.hb hd)  (by subst hp; exact kk)) r
theorem Go.iadd (W : Wk l Z EL R own bytes maxL ret nm X σ ρ T k n) {x y : Int32} (hd : decode bytes pc = .ok (.iadd, 1))  (hp : pc + 1 = pc') (r : Go Z EL K N Q X T pc' Ls (.int (x + y) :: st)) : Go Z EL K N Q X T pc Ls (.int y :: .int x :: st) :=
  Go.by (fun t kk => XS.iadd W.here W.hx rfl (W.hb hd) rfl (by subst hp; exact kk)) r
theorem Go.isub (W : Wk l Z EL R own bytes maxL ret nm X σ ρ T k n) {x y : Int32} (hd : decode bytes pc = .ok (.isub, 1))  (hp : pc + 1 = pc') (r : Go Z EL K N Q X T pc' Ls (.int (x - y) :: st)) : Go Z EL K N Q X T pc Ls (.int y :: .int x :: st) :=
  Go.by (fun t kk => XS.isub W.here W.hx rfl (W.hb hd) rfl (by subst hp; exact kk)) r
theorem Go.imul (W : Wk l Z EL R own bytes maxL ret nm X σ ρ T k n) {x y : Int32} (hd : decode bytes pc = .ok (.imul, 1))  (hp : pc + 1 = pc') (r : Go Z EL K N Q X T pc' Ls (.int (x * y) :: st)) : Go Z EL K N Q X T pc Ls (.int y :: .int x :: st) :=
  Go.by (fun t kk => XS.imul W.here W.hx rfl (W.hb hd) rfl (by subst hp; exact kk)) r
theorem Go.iand (W : Wk l Z EL R own bytes maxL ret nm X σ ρ T k n) {x y : Int32} (hd : decode bytes pc = .ok (.iand, 1))  (hp : pc + 1 = pc') (r : Go Z EL K N Q X T pc' Ls (.int (x &&& y) :: st)) : Go Z EL K N Q X T pc Ls (.int y :: .int x :: st) :=
  Go.by (fun t kk => XS.iand W.here W.hx rfl (W.hb hd) rfl (by subst hp; exact kk)) r
theorem Go.ior (W : Wk l Z EL R own bytes maxL ret nm X σ ρ T k n) {x y : Int32} (hd : decode bytes pc = .ok (.ior, 1))  (hp : pc + 1 = pc') (r : Go Z EL K N Q X T pc' Ls (.int (x ||| y) :: st)) : Go Z EL K N Q X T pc Ls (.int y :: .int x :: st) :=
  Go.by (fun t kk => XT.ior W.here W.hx rfl (W.hb hd) rfl (by subst hp; exact kk)) r
theorem Go.ixor (W : Wk l Z EL R own bytes maxL ret nm X σ ρ T k n) {x y : Int32} (hd : decode bytes pc = .ok (.ixor, 1))  (hp : pc + 1 = pc') (r : Go Z EL K N Q X T pc' Ls (.int (x ^^^ y) :: st)) : Go Z EL K N Q X T pc Ls (.int y :: .int x :: st) :=
  Go.by (fun t kk => XT.ixor W.here W.hx rfl (W.hb hd) rfl (by subst hp; exact kk)) r
theorem Go.ishl (W : Wk l Z EL R own bytes maxL ret nm X σ ρ T k n) {x y : Int32} (hd : decode bytes pc = .ok (.ishl, 1))  (hp : pc + 1 = pc') (r : Go Z EL K N Q X T pc' Ls (.int (x <<< (y &&& 31)) :: st)) : Go Z EL K N Q X T pc Ls (.int y :: .int x :: st) :=
  Go.by (fun t kk => XT.ishl W.here W.hx rfl (W.hb hd) rfl (by subst hp; exact kk)) r
theorem Go.ishr (W : Wk l Z EL R own bytes maxL ret nm X σ ρ T k n) {x y : Int32} (hd : decode bytes pc = .ok (.ishr, 1))  (hp : pc + 1 = pc') (r : Go Z EL K N Q X T pc' Ls (.int (x >>> (y &&& 31)) :: st)) : Go Z EL K N Q X T pc Ls (.int y :: .int x :: st) :=
  Go.by (fun t kk => XT.ishr W.here W.hx rfl (W.hb hd) rfl (by subst hp; exact kk)) r
theorem Go.iushr (W : Wk l Z EL R own bytes maxL ret nm X σ ρ T k n) {x y : Int32} (hd : decode bytes pc = .ok (.iushr, 1))  (hp : pc + 1 = pc') (r : Go Z EL K N Q X T pc' Ls (.int ((x.toUInt32 >>> (y &&& 31).toUInt32).toInt32) :: st)) : Go Z EL K N Q X T pc Ls (.int y :: .int x :: st) :=
  Go.by (fun t kk => XT.iushr W.here W.hx rfl (W.hb hd) rfl (by subst hp; exact kk)) r
theorem Go.idiv (W : Wk l Z EL R own bytes maxL ret nm X σ ρ T k n) {x y : Int32} (hd : decode bytes pc = .ok (.idiv, 1)) (hy : y ≠ 0) (hp : pc + 1 = pc') (r : Go Z EL K N Q X T pc' Ls (.int (x / y) :: st)) : Go Z EL K N Q X T pc Ls (.int y :: .int x :: st) :=
  Go.by (fun t kk => XS.idiv W.here W.hx rfl (W.hb hd) rfl hy (by subst hp; exact kk)) r
theorem Go.irem (W : Wk l Z EL R own bytes maxL ret nm X σ ρ T k n) {x y : Int32} (hd : decode bytes pc = .ok (.irem, 1)) (hy : y ≠ 0) (hp : pc + 1 = pc') (r : Go Z EL K N Q X T pc' Ls (.int (x % y) :: st)) : Go Z EL K N Q X T pc Ls (.int y :: .int x :: st) :=
  Go.by (fun t kk => XS.irem W.here W.hx rfl (W.hb hd) rfl hy (by subst hp; rw [irem_eq_mod x y]; exact kk)) r
theorem Go.ineg (W : Wk l Z EL R own bytes maxL ret nm X σ ρ T k n) {x : Int32} (hd : decode bytes pc = .ok (.ineg, 1))  (hp : pc + 1 = pc') (r : Go Z EL K N Q X T pc' Ls (.int (-x) :: st)) : Go Z EL K N Q X T pc Ls (.int x :: st) :=
  Go.by (fun t kk => XS.ineg W.here W.hx rfl (W.hb hd) rfl (by subst hp; exact kk)) r
theorem Go.i2b (W : Wk l Z EL R own bytes maxL ret nm X σ ρ T k n) {x : Int32} (hd : decode bytes pc = .ok (.i2b, 1))  (hp : pc + 1 = pc') (r : Go Z EL K N Q X T pc' Ls (.int x.toInt8.toInt32 :: st)) : Go Z EL K N Q X T pc Ls (.int x :: st) :=
  Go.by (fun t kk => XT.i2b W.here W.hx rfl (W.hb hd) rfl (by subst hp; exact kk)) r
theorem Go.i2c (W : Wk l Z EL R own bytes maxL ret nm X σ ρ T k n) {x : Int32} (hd : decode bytes pc = .ok (.i2c, 1))  (hp : pc + 1 = pc') (r : Go Z EL K N Q X T pc' Ls (.int x.toUInt32.toUInt16.toUInt32.toInt32 :: st)) : Go Z EL K N Q X T pc Ls (.int x :: st) :=
  Go.by (fun t kk => XT.i2c W.here W.hx rfl (W.hb hd) rfl (by subst hp; exact kk)) r
theorem Go.i2s (W : Wk l Z EL R own bytes maxL ret nm X σ ρ T k n) {x : Int32} (hd : decode bytes pc = .ok (.i2s, 1))  (hp : pc + 1 = pc') (r : Go Z EL K N Q X T pc' Ls (.int x.toInt16.toInt32 :: st)) : Go Z EL K N Q X T pc Ls (.int x :: st) :=
  Go.by (fun t kk => XT.i2s W.here W.hx rfl (W.hb hd) rfl (by subst hp; exact kk)) r
theorem Go.i2l (W : Wk l Z EL R own bytes maxL ret nm X σ ρ T k n) {x : Int32} (hd : decode bytes pc = .ok (.i2l, 1))  (hp : pc + 1 = pc') (r : Go Z EL K N Q X T pc' Ls (.long x.toInt64 :: st)) : Go Z EL K N Q X T pc Ls (.int x :: st) :=
  Go.by (fun t kk => XT.i2l W.here W.hx rfl (W.hb hd) rfl (by subst hp; exact kk)) r
theorem Go.l2i (W : Wk l Z EL R own bytes maxL ret nm X σ ρ T k n) {x : Int64} (hd : decode bytes pc = .ok (.l2i, 1))  (hp : pc + 1 = pc') (r : Go Z EL K N Q X T pc' Ls (.int x.toInt32 :: st)) : Go Z EL K N Q X T pc Ls (.long x :: st) :=
  Go.by (fun t kk => XT.l2i W.here W.hx rfl (W.hb hd) rfl (by subst hp; exact kk)) r
theorem Go.ladd (W : Wk l Z EL R own bytes maxL ret nm X σ ρ T k n) {x y : Int64} (hd : decode bytes pc = .ok (.ladd, 1))  (hp : pc + 1 = pc') (r : Go Z EL K N Q X T pc' Ls (.long (x + y) :: st)) : Go Z EL K N Q X T pc Ls (.long y :: .long x :: st) :=
  Go.by (fun t kk => XT.ladd W.here W.hx rfl (W.hb hd) rfl (by subst hp; exact kk)) r
theorem Go.lsub (W : Wk l Z EL R own bytes maxL ret nm X σ ρ T k n) {x y : Int64} (hd : decode bytes pc = .ok (.lsub, 1))  (hp : pc + 1 = pc') (r : Go Z EL K N Q X T pc' Ls (.long (x - y) :: st)) : Go Z EL K N Q X T pc Ls (.long y :: .long x :: st) :=
  Go.by (fun t kk => XT.lsub W.here W.hx rfl (W.hb hd) rfl (by subst hp; exact kk)) r
theorem Go.lmul (W : Wk l Z EL R own bytes maxL ret nm X σ ρ T k n) {x y : Int64} (hd : decode bytes pc = .ok (.lmul, 1))  (hp : pc + 1 = pc') (r : Go Z EL K N Q X T pc' Ls (.long (x * y) :: st)) : Go Z EL K N Q X T pc Ls (.long y :: .long x :: st) :=
  Go.by (fun t kk => XT.lmul W.here W.hx rfl (W.hb hd) rfl (by subst hp; exact kk)) r
theorem Go.land (W : Wk l Z EL R own bytes maxL ret nm X σ ρ T k n) {x y : Int64} (hd : decode bytes pc = .ok (.land, 1))  (hp : pc + 1 = pc') (r : Go Z EL K N Q X T pc' Ls (.long (x &&& y) :: st)) : Go Z EL K N Q X T pc Ls (.long y :: .long x :: st) :=
  Go.by (fun t kk => XT.land W.here W.hx rfl (W.hb hd) rfl (by subst hp; exact kk)) r
theorem Go.lor (W : Wk l Z EL R own bytes maxL ret nm X σ ρ T k n) {x y : Int64} (hd : decode bytes pc = .ok (.lor, 1))  (hp : pc + 1 = pc') (r : Go Z EL K N Q X T pc' Ls (.long (x ||| y) :: st)) : Go Z EL K N Q X T pc Ls (.long y :: .long x :: st) :=
  Go.by (fun t kk => XT.lor W.here W.hx rfl (W.hb hd) rfl (by subst hp; exact kk)) r
theorem Go.lxor (W : Wk l Z EL R own bytes maxL ret nm X σ ρ T k n) {x y : Int64} (hd : decode bytes pc = .ok (.lxor, 1))  (hp : pc + 1 = pc') (r : Go Z EL K N Q X T pc' Ls (.long (x ^^^ y) :: st)) : Go Z EL K N Q X T pc Ls (.long y :: .long x :: st) :=
  Go.by (fun t kk => XT.lxor W.here W.hx rfl (W.hb hd) rfl (by subst hp; exact kk)) r
theorem Go.ldiv (W : Wk l Z EL R own bytes maxL ret nm X σ ρ T k n) {x y : Int64} (hd : decode bytes pc = .ok (.ldiv, 1)) (hy : y ≠ 0) (hp : pc + 1 = pc') (r : Go Z EL K N Q X T pc' Ls (.long (x / y) :: st)) : Go Z EL K N Q X T pc Ls (.long y :: .long x :: st) :=
  Go.by (fun t kk => XT.ldiv W.here W.hx rfl (W.hb hd) rfl hy (by subst hp; exact kk)) r
theorem Go.lrem (W : Wk l Z EL R own bytes maxL ret nm X σ ρ T k n) {x y : Int64} (hd : decode bytes pc = .ok (.lrem, 1)) (hy : y ≠ 0) (hp : pc + 1 = pc') (r : Go Z EL K N Q X T pc' Ls (.long (x % y) :: st)) : Go Z EL K N Q X T pc Ls (.long y :: .long x :: st) :=
  Go.by (fun t kk => XT.lrem W.here W.hx rfl (W.hb hd) rfl hy (by subst hp; rw [lrem_mod x y]; exact kk)) r
theorem Go.lneg (W : Wk l Z EL R own bytes maxL ret nm X σ ρ T k n) {x : Int64} (hd : decode bytes pc = .ok (.lneg, 1))  (hp : pc + 1 = pc') (r : Go Z EL K N Q X T pc' Ls (.long (-x) :: st)) : Go Z EL K N Q X T pc Ls (.long x :: st) :=
  Go.by (fun t kk => XT.lneg W.here W.hx rfl (W.hb hd) rfl (by subst hp; exact kk)) r
theorem Go.lushr (W : Wk l Z EL R own bytes maxL ret nm X σ ρ T k n) {x : Int64} {y : Int32} (hd : decode bytes pc = .ok (.lushr, 1))  (hp : pc + 1 = pc') (r : Go Z EL K N Q X T pc' Ls (.long (Jvm.Free.XT.ushrL x y) :: st)) : Go Z EL K N Q X T pc Ls (.int y :: .long x :: st) :=
  Go.by (fun t kk => XT.lushr W.here W.hx rfl (W.hb hd) rfl (by subst hp; exact kk)) r
theorem Go.lcmp (W : Wk l Z EL R own bytes maxL ret nm X σ ρ T k n) {x y : Int64} (hd : decode bytes pc = .ok (.lcmp, 1))  (hp : pc + 1 = pc') (r : Go Z EL K N Q X T pc' Ls (.int (lcmpW x y) :: st)) : Go Z EL K N Q X T pc Ls (.long y :: .long x :: st) :=
  Go.by (fun t kk => XT.lcmp W.here W.hx rfl (W.hb hd) rfl (by subst hp; exact kk)) r
theorem Go.dup (W : Wk l Z EL R own bytes maxL ret nm X σ ρ T k n) {x : Value} (hd : decode bytes pc = .ok (.dup, 1)) (hc : x.category = 1) (hp : pc + 1 = pc') (r : Go Z EL K N Q X T pc' Ls (x :: x :: st)) : Go Z EL K N Q X T pc Ls (x :: st) :=
  Go.by (fun t kk => XS.dup W.here W.hx rfl (W.hb hd) rfl hc (by subst hp; exact kk)) r
theorem Go.dupX1 (W : Wk l Z EL R own bytes maxL ret nm X σ ρ T k n) {x y : Value} (hd : decode bytes pc = .ok (.dup_x1, 1)) (hc : x.category = 1) (hc' : y.category = 1) (hp : pc + 1 = pc') (r : Go Z EL K N Q X T pc' Ls (x :: y :: x :: st)) : Go Z EL K N Q X T pc Ls (x :: y :: st) :=
  Go.by (fun t kk => XT.dupX1 W.here W.hx rfl (W.hb hd) rfl hc hc' (by subst hp; exact kk)) r
theorem Go.dup2 (W : Wk l Z EL R own bytes maxL ret nm X σ ρ T k n) {x y : Value} (hd : decode bytes pc = .ok (.dup2, 1)) (hc : x.category = 1) (hc' : y.category = 1) (hp : pc + 1 = pc') (r : Go Z EL K N Q X T pc' Ls (x :: y :: x :: y :: st)) : Go Z EL K N Q X T pc Ls (x :: y :: st) :=
  Go.by (fun t kk => XT.dup2 W.here W.hx rfl (W.hb hd) rfl hc hc' (by subst hp; exact kk)) r
theorem Go.pop (W : Wk l Z EL R own bytes maxL ret nm X σ ρ T k n) {x : Value} (hd : decode bytes pc = .ok (.pop, 1)) (hc : x.category = 1) (hp : pc + 1 = pc') (r : Go Z EL K N Q X T pc' Ls st) : Go Z EL K N Q X T pc Ls (x :: st) :=
  Go.by (fun t kk => XT.pop W.here W.hx rfl (W.hb hd) rfl hc (by subst hp; exact kk)) r
theorem Go.iinc (W : Wk l Z EL R own bytes maxL ret nm X σ ρ T k n) {k' : Nat} {cst : Int} {x : Int32} (v : Int32) (Ls' : Array Slot) (hd : decode bytes pc = .ok (.iinc k' cst, 3)) (hl : Ls[k']? = some (.val (.int x))) (hv : Int32.ofInt cst = v) (hl' : storeLocals Ls k' (.int (x + v)) = some Ls') (hp : pc + 3 = pc') (r : Go Z EL K N Q X T pc' Ls' st) : Go Z EL K N Q X T pc Ls st :=
  Go.by (fun t kk => XS.iinc W.here W.hx rfl (W.hb hd) hl (by rw [hv]; exact hl') (by subst hp; exact kk)) r
theorem Go.goto (W : Wk l Z EL R own bytes maxL ret nm X σ ρ T k n) {o : Int} (pcY : Nat) (hd : decode bytes pc = .ok (.goto o, 3)) (hy : (pc : Int) + o = (pcY : Nat)) (r : Go Z EL K N Q X T pcY Ls st) : Go Z EL K N Q X T pc Ls st :=
  Go.by (fun t kk => XS.goto W.here W.hx rfl (pc0 := pc) (pc' := pcY) rfl (W.hb hd) (by omega) (by omega) kk) r
theorem Go.icmp_eq (W : Wk l Z EL R own bytes maxL ret nm X σ ρ T k n) {x y : Int32} {o : Int} (pcY : Nat) (hd : decode bytes pc = .ok (.if_icmp .eq o, 3)) (hy : (pc : Int) + o = (pcY : Nat)) (hp : pc + 3 = pc') (rY : (x = y) → Go Z EL K N Q X T pcY Ls st) (rN : (¬ x = y) → Go Z EL K N Q X T pc' Ls st) : Go Z EL K N Q X T pc Ls (.int y :: .int x :: st) := by
  by_cases q : x = y
  · exact Go.by (fun t kk => XS.icmpYes W.here W.hx rfl (pc0 := pc) (pc' := pcY) rfl (W.hb hd) rfl (teq q).1 (by omega) (by omega) kk) (rY q)
  · exact Go.by (fun t kk => XS.icmpNo W.here W.hx rfl (W.hb hd) rfl (feq q).1 (by subst hp; exact kk)) (rN q)
theorem Go.if_eq (W : Wk l Z EL R own bytes maxL ret nm X σ ρ T k n) {x : Int32} {o : Int} (pcY : Nat) (hd : decode bytes pc = .ok (.ifCond .eq o, 3)) (hy : (pc : Int) + o = (pcY : Nat)) (hp : pc + 3 = pc') (rY : (x = 0) → Go Z EL K N Q X T pcY Ls st) (rN : (¬ x = 0) → Go Z EL K N Q X T pc' Ls st) : Go Z EL K N Q X T pc Ls (.int x :: st) := by
  by_cases q : x = 0
  · exact Go.by (fun t kk => XS.ifYes W.here W.hx rfl (pc0 := pc) (pc' := pcY) rfl (W.hb hd) rfl ((if0 .eq x).trans (teq q).1) (by omega) (by omega) kk) (rY q)
  · exact Go.by (fun t kk => XS.ifNo W.here W.hx rfl (W.hb hd) rfl ((if0 .eq x).trans (feq q).1) (by subst hp; exact kk)) (rN q)
theorem Go.icmp_ne (W : Wk l Z EL R own bytes maxL ret nm X σ ρ T k n) {x y : Int32} {o : Int} (pcY : Nat) (hd : decode bytes pc = .ok (.if_icmp .ne o, 3)) (hy : (pc : Int) + o = (pcY : Nat)) (hp : pc + 3 = pc') (rY : (¬ x = y) → Go Z EL K N Q X T pcY Ls st) (rN : (x = y) → Go Z EL K N Q X T pc' Ls st) : Go Z EL K N Q X T pc Ls (.int y :: .int x :: st) := by
  by_cases q : x = y
  · exact Go.by (fun t kk => XS.icmpNo W.here W.hx rfl (W.hb hd) rfl (teq q).2 (by subst hp; exact kk)) (rN q)
  · exact Go.by (fun t kk => XS.icmpYes W.here W.hx rfl (pc0 := pc) (pc' := pcY) rfl (W.hb hd) rfl (feq q).2 (by omega) (by omega) kk) (rY q)
theorem Go.if_ne (W : Wk l Z EL R own bytes maxL ret nm X σ ρ T k n) {x : Int32} {o : Int} (pcY : Nat) (hd : decode bytes pc = .ok (.ifCond .ne o, 3)) (hy : (pc : Int) + o = (pcY : Nat)) (hp : pc + 3 = pc') (rY : (¬ x = 0) → Go Z EL K N Q X T pcY Ls st) (rN : (x = 0) → Go Z EL K N Q X T pc' Ls st) : Go Z EL K N Q X T pc Ls (.int x :: st) := by
  by_cases q : x = 0
  · exact Go.by (fun t kk => XS.ifNo W.here W.hx rfl (W.hb hd) rfl ((if0 .ne x).trans (teq q).2) (by subst hp; exact kk)) (rN q)
  · exact Go.by (fun t kk => XS.ifYes W.here W.hx rfl (pc0 := pc) (pc' := pcY) rfl (W.hb hd) rfl ((if0 .ne x).trans (feq q).2) (by omega) (by omega) kk) (rY q)
theorem Go.icmp_lt (W : Wk l Z EL R own bytes maxL ret nm X σ ρ T k n) {x y : Int32} {o : Int} (pcY : Nat) (hd : decode bytes pc = .ok (.if_icmp .lt o, 3)) (hy : (pc : Int) + o = (pcY : Nat)) (hp : pc + 3 = pc') (rY : (x < y) → Go Z EL K N Q X T pcY Ls st) (rN : (¬ x < y) → Go Z EL K N Q X T pc' Ls st) : Go Z EL K N Q X T pc Ls (.int y :: .int x :: st) := by
  by_cases q : x < y
  · exact Go.by (fun t kk => XS.icmpYes W.here W.hx rfl (pc0 := pc) (pc' := pcY) rfl (W.hb hd) rfl (tlt q).1 (by omega) (by omega) kk) (rY q)
  · exact Go.by (fun t kk => XS.icmpNo W.here W.hx rfl (W.hb hd) rfl (flt q).1 (by subst hp; exact kk)) (rN q)
theorem Go.if_lt (W : Wk l Z EL R own bytes maxL ret nm X σ ρ T k n) {x : Int32} {o : Int} (pcY : Nat) (hd : decode bytes pc = .ok (.ifCond .lt o, 3)) (hy : (pc : Int) + o = (pcY : Nat)) (hp : pc + 3 = pc') (rY : (x < 0) → Go Z EL K N Q X T pcY Ls st) (rN : (¬ x < 0) → Go Z EL K N Q X T pc' Ls st) : Go Z EL K N Q X T pc Ls (.int x :: st) := by
  by_cases q : x < 0
  · exact Go.by (fun t kk => XS.ifYes W.here W.hx rfl (pc0 := pc) (pc' := pcY) rfl (W.hb hd) rfl ((if0 .lt x).trans (tlt q).1) (by omega) (by omega) kk) (rY q)
  · exact Go.by (fun t kk => XS.ifNo W.here W.hx rfl (W.hb hd) rfl ((if0 .lt x).trans (flt q).1) (by subst hp; exact kk)) (rN q)
theorem Go.icmp_ge (W : Wk l Z EL R own bytes maxL ret nm X σ ρ T k n) {x y : Int32} {o : Int} (pcY : Nat) (hd : decode bytes pc = .ok (.if_icmp .ge o, 3)) (hy : (pc : Int) + o = (pcY : Nat)) (hp : pc + 3 = pc') (rY : (¬ x < y) → Go Z EL K N Q X T pcY Ls st) (rN : (x < y) → Go Z EL K N Q X T pc' Ls st) : Go Z EL K N Q X T pc Ls (.int y :: .int x :: st) := by
  by_cases q : x < y
  · exact Go.by (fun t kk => XS.icmpNo W.here W.hx rfl (W.hb hd) rfl (tlt q).2.1 (by subst hp; exact kk)) (rN q)
  · exact Go.by (fun t kk => XS.icmpYes W.here W.hx rfl (pc0 := pc) (pc' := pcY) rfl (W.hb hd) rfl (flt q).2.1 (by omega) (by omega) kk) (rY q)
theorem Go.if_ge (W : Wk l Z EL R own bytes maxL ret nm X σ ρ T k n) {x : Int32} {o : Int} (pcY : Nat) (hd : decode bytes pc = .ok (.ifCond .ge o, 3)) (hy : (pc : Int) + o = (pcY : Nat)) (hp : pc + 3 = pc') (rY : (¬ x < 0) → Go Z EL K N Q X T pcY Ls st) (rN : (x < 0) → Go Z EL K N Q X T pc' Ls st) : Go Z EL K N Q X T pc Ls (.int x :: st) := by
  by_cases q : x < 0
  · exact Go.by (fun t kk => XS.ifNo W.here W.hx rfl (W.hb hd) rfl ((if0 .ge x).trans (tlt q).2.1) (by subst hp; exact kk)) (rN q)
  · exact Go.by (fun t kk => XS.ifYes W.here W.hx rfl (pc0 := pc) (pc' := pcY) rfl (W.hb hd) rfl ((if0 .ge x).trans (flt q).2.1) (by omega) (by omega) kk) (rY q)
theorem Go.icmp_gt (W : Wk l Z EL R own bytes maxL ret nm X σ ρ T k n) {x y : Int32} {o : Int} (pcY : Nat) (hd : decode bytes pc = .ok (.if_icmp .gt o, 3)) (hy : (pc : Int) + o = (pcY : Nat)) (hp : pc + 3 = pc') (rY : (y < x) → Go Z EL K N Q X T pcY Ls st) (rN : (¬ y < x) → Go Z EL K N Q X T pc' Ls st) : Go Z EL K N Q X T pc Ls (.int y :: .int x :: st) := by
  by_cases q : y < x
  · exact Go.by (fun t kk => XS.icmpYes W.here W.hx rfl (pc0 := pc) (pc' := pcY) rfl (W.hb hd) rfl (tlt q).2.2.1 (by omega) (by omega) kk) (rY q)
  · exact Go.by (fun t kk => XS.icmpNo W.here W.hx rfl (W.hb hd) rfl (flt q).2.2.1 (by subst hp; exact kk)) (rN q)
theorem Go.if_gt (W : Wk l Z EL R own bytes maxL ret nm X σ ρ T k n) {x : Int32} {o : Int} (pcY : Nat) (hd : decode bytes pc = .ok (.ifCond .gt o, 3)) (hy : (pc : Int) + o = (pcY : Nat)) (hp : pc + 3 = pc') (rY : (0 < x) → Go Z EL K N Q X T pcY Ls st) (rN : (¬ 0 < x) → Go Z EL K N Q X T pc' Ls st) : Go Z EL K N Q X T pc Ls (.int x :: st) := by
  by_cases q : 0 < x
  · exact Go.by (fun t kk => XS.ifYes W.here W.hx rfl (pc0 := pc) (pc' := pcY) rfl (W.hb hd) rfl ((if0 .gt x).trans (tlt q).2.2.1) (by omega) (by omega) kk) (rY q)
  · exact Go.by (fun t kk => XS.ifNo W.here W.hx rfl (W.hb hd) rfl ((if0 .gt x).trans (flt q).2.2.1) (by subst hp; exact kk)) (rN q)
theorem Go.icmp_le (W : Wk l Z EL R own bytes maxL ret nm X σ ρ T k n) {x y : Int32} {o : Int} (pcY : Nat) (hd : decode bytes pc = .ok (.if_icmp .le o, 3)) (hy : (pc : Int) + o = (pcY : Nat)) (hp : pc + 3 = pc') (rY : (¬ y < x) → Go Z EL K N Q X T pcY Ls st) (rN : (y < x) → Go Z EL K N Q X T pc' Ls st) : Go Z EL K N Q X T pc Ls (.int y :: .int x :: st) := by
  by_cases q : y < x
  · exact Go.by (fun t kk => XS.icmpNo W.here W.hx rfl (W.hb hd) rfl (tlt q).2.2.2 (by subst hp; exact kk)) (rN q)
  · exact Go.by (fun t kk => XS.icmpYes W.here W.hx rfl (pc0 := pc) (pc' := pcY) rfl (W.hb hd) rfl (flt q).2.2.2 (by omega) (by omega) kk) (rY q)
theorem Go.if_le (W : Wk l Z EL R own bytes maxL ret nm X σ ρ T k n) {x : Int32} {o : Int} (pcY : Nat) (hd : decode bytes pc = .ok (.ifCond .le o, 3)) (hy : (pc : Int) + o = (pcY : Nat)) (hp : pc + 3 = pc') (rY : (¬ 0 < x) → Go Z EL K N Q X T pcY Ls st) (rN : (0 < x) → Go Z EL K N Q X T pc' Ls st) : Go Z EL K N Q X T pc Ls (.int x :: st) := by
  by_cases q : 0 < x
  · exact Go.by (fun t kk => XS.ifNo W.here W.hx rfl (W.hb hd) rfl ((if0 .le x).trans (tlt q).2.2.2) (by subst hp; exact kk)) (rN q)
  · exact Go.by (fun t kk => XS.ifYes W.here W.hx rfl (pc0 := pc) (pc' := pcY) rfl (W.hb hd) rfl ((if0 .le x).trans (flt q).2.2.2) (by omega) (by omega) kk) (rY q)
theorem Go.ifnull_yes (W : Wk l Z EL R own bytes maxL ret nm X σ ρ T k n) {o : Int} (pcY : Nat) (hd : decode bytes pc = .ok (.ifnull o, 3)) (hy : (pc : Int) + o = (pcY : Nat)) (r : Go Z EL K N Q X T pcY Ls st) : Go Z EL K N Q X T pc Ls (.null :: st) :=
  Go.by (fun t kk => XS.ifnullYes W.here W.hx rfl (pc0 := pc) (pc' := pcY) rfl (W.hb hd) rfl (by omega) (by omega) kk) r
theorem Go.ifnull_no (W : Wk l Z EL R own bytes maxL ret nm X σ ρ T k n) {b : Addr} {o : Int} (hd : decode bytes pc = .ok (.ifnull o, 3)) (hp : pc + 3 = pc') (r : Go Z EL K N Q X T pc' Ls st) : Go Z EL K N Q X T pc Ls (.ref b :: st) :=
  Go.by (fun t kk => XS.ifnullNo W.here W.hx rfl (W.hb hd) rfl (by subst hp; exact kk)) r
theorem Go.ifnonnull_yes (W : Wk l Z EL R own bytes maxL ret nm X σ ρ T k n) {b : Addr} {o : Int} (pcY : Nat) (hd : decode bytes pc = .ok (.ifnonnull o, 3)) (hy : (pc : Int) + o = (pcY : Nat)) (r : Go Z EL K N Q X T pcY Ls st) : Go Z EL K N Q X T pc Ls (.ref b :: st) :=
  Go.by (fun t kk => XT.ifnonnullYes W.here W.hx rfl (pc0 := pc) (pc' := pcY) rfl (W.hb hd) rfl (by omega) (by omega) kk) r
theorem Go.ifnonnull_no (W : Wk l Z EL R own bytes maxL ret nm X σ ρ T k n) {o : Int} (hd : decode bytes pc = .ok (.ifnonnull o, 3)) (hp : pc + 3 = pc') (r : Go Z EL K N Q X T pc' Ls st) : Go Z EL K N Q X T pc Ls (.null :: st) :=
  Go.by (fun t kk => XT.ifnonnullNo W.here W.hx rfl (W.hb hd) rfl (by subst hp; exact kk)) r
end StepLaws
/-! ## own: what is known of one cell -/
def ObjC (Z : State) (c : Cell) (C : String) : Prop := ∃ k : Class, Z.vm.findClass C = some c.cls ∧ Z.vm.classes[c.cls]? = some k ∧ c.vm.isStatics = false ∧ (k.kind = .ordinary → c.slots.size = k.instanceTypes.size)
def FldC (Z : State) (c : Cell) (C n d : String) (v : Value) : Prop := ∃ (cf : ClassId) (k : Class) (i : Nat) (f : Field), Z.fieldFound? C n d = some (cf, k, i, f) ∧ f.isStatic = false ∧ c.vm ≠ .unknown ∧ c.vm.isStatics = false ∧ Z.vm.assignable c.cls cf = true ∧ c.slots[f.slot]? = some v
def ArrC (Z : State) (c : Cell) (ty : FieldType) (vs : List Value) : Prop := Z.isArrayOf c ty ∧ c.vm ≠ .unknown ∧ c.slots.toList = vs ∧ (∀ v ∈ vs, fits ty v = true) ∧ vs.length < 2147483648
section CellLaws
variable {Z : State} {c c' : Cell} {C n d C' n' d' : String} {v w : Value} {h : Heap} {a : Addr} {ty : FieldType} {vs : List Value}
theorem ObjC.exa (F : ObjC Z c C) (ha : h[a]? = some c) : Exa Z h a C := by obtain ⟨k, h1, h2, h3, h4⟩ := F; exact ⟨c, k, ha, h1, h2, h3, h4⟩
theorem ObjC.of (F : Exa Z h a C) (ha : h[a]? = some c) : ObjC Z c C := by
  obtain ⟨c', k, h0, h1, h2, h3, h4⟩ := F
  cases ha.symm.trans h0
  exact ⟨k, h1, h2, h3, h4⟩
theorem FldC.fld (F : FldC Z c C n d v) (ha : h[a]? = some c) : Fld Z h a C n d v := by obtain ⟨cf, k, i, f, r⟩ := F; exact ⟨c, cf, k, i, f, ha, r⟩
theorem FldC.of (F : Fld Z h a C n d v) (ha : h[a]? = some c) : FldC Z c C n d v := by
  obtain ⟨c', cf, k, i, f, h0, r⟩ := F
  cases ha.symm.trans h0
  exact ⟨cf, k, i, f, r⟩
theorem ArrC.arr (F : ArrC Z c ty vs) (ha : h[a]? = some c) : Arr Z h a c ty := ⟨ha, F.1, F.2.1⟩
theorem ArrC.size (F : ArrC Z c ty vs) : c.slots.size = vs.length := by rw [← F.2.2.1]; simp
theorem ArrC.get (F : ArrC Z c ty vs) (i : Nat) : c.slots[i]? = vs[i]? := by rw [← F.2.2.1]; simp
theorem FldC.put {v' : Value} (F : FldC Z c C n d v) : FldC Z (c.setSlot (Jvm.RoadKit.slotOf Z C n d) v') C n d v' := by
  obtain ⟨cf, k, i, f, h1, h2, h3, h4, h5, h6⟩ := F
  have hlt := (Array.getElem?_eq_some_iff.mp h6).1
  exact ⟨cf, k, i, f, h1, h2, h3, h4, h5, by simp [Cell.setSlot, Jvm.RoadKit.slotOf, h1, hlt]⟩
theorem FldC.keep {sl : Nat} {v' : Value} (F : FldC Z c C n d v) (hne : Jvm.RoadKit.slotOf Z C n d ≠ sl) : FldC Z (c.setSlot sl v') C n d v := by
  obtain ⟨cf, k, i, f, h1, h2, h3, h4, h5, h6⟩ := F
  have e : Jvm.RoadKit.slotOf Z C n d = f.slot := by simp [Jvm.RoadKit.slotOf, h1]
  rw [e] at hne
  exact ⟨cf, k, i, f, h1, h2, h3, h4, h5, by show (c.slots.setIfInBounds sl v')[f.slot]? = _; rw [Array.getElem?_setIfInBounds_ne (Ne.symm hne)]; exact h6⟩
theorem ObjC.put {sl : Nat} {v' : Value} (F : ObjC Z c C) : ObjC Z (c.setSlot sl v') C := by
  obtain ⟨k, h1, h2, h3, h4⟩ := F
  exact ⟨k, h1, h2, h3, fun q => by rw [← h4 q]; simp [Cell.setSlot]⟩
theorem FldC.put' {v' : Value} (F : FldC Z c C n d v) (e : c' = c.setSlot (Jvm.RoadKit.slotOf Z C n d) v') : FldC Z c' C n d v' := e ▸ F.put
theorem FldC.keep' {sl : Nat} {v' : Value} (F : FldC Z c C n d v) (e : c' = c.setSlot sl v') (hne : Jvm.RoadKit.slotOf Z C n d ≠ sl) : FldC Z c' C n d v := e ▸ F.keep hne
theorem ObjC.put' {sl : Nat} {v' : Value} (F : ObjC Z c C) (e : c' = c.setSlot sl v') : ObjC Z c' C := e ▸ F.put
theorem fits_isref (ht : ty.isReference = true) (hv : v.isRef = true) : fits ty v = true := by cases ty <;> first | (cases ht; done) | (cases v <;> first | (cases hv; done) | rfl)
theorem ArrC.put {i : Nat} {v' : Value} (F : ArrC Z c ty vs) (hf : fits ty v' = true) : ArrC Z (c.setSlot i v') ty (vs.set i v') := by
  obtain ⟨h1, h2, h3, h4, h5⟩ := F
  refine ⟨h1, h2, by simp [Cell.setSlot, h3], fun v hv => ?_, by simpa using h5⟩
  rcases List.mem_or_eq_of_mem_set hv with q | q
  · exact h4 v q
  · rw [q]; exact hf
end CellLaws
/-! ## own: steps that read or make or write cells, and calls, in the Go form -/
section HeapLaws
variable {l : Launch} {Z : State} {a0 : Array Value} {EL : List (String × Nat)} {R : Room} {own : String} {bytes : ByteArray} {maxL : Nat} {ret : Option FieldType} {nm : String} {X : Ctx} {σ ρ : HL} {T : State} {k n K N : Nat} {Q : Option Value → HL → HL → Prop} {pc pc' : Nat} {Ls : Array Slot} {st : List Value} {a : Addr} {c : Cell} {vs : List Value}
theorem Go.new (W : Wk l Z EL R own bytes maxL ret nm X σ ρ T k n) {C : String} {ix cnt : Nat} (w : (Jvm.Cond.classLink own ix C).before a0 Z = true) (wi : (Jvm.Cond.instantiable C cnt).before a0 Z = true) (wz : (Jvm.Cond.initialized C).before a0 Z = true)
    (hd : decode bytes pc = .ok (.new ix, 3)) (hp : pc + 3 = pc') (hk : k + 1 ≤ R.cells) (hn : n + cnt ≤ R.slots)
    (r : ∀ (T' : State) (a : Addr) (c : Cell), Wk l Z EL R own bytes maxL ret nm X ((a, c) :: σ) ρ T' (k + 1) (n + cnt) → ObjC Z c C → (∀ {O nm d : String} {ty : FieldType}, Laid Z a0 C O nm d → parseFieldDescriptor d = some ty → FldC Z c O nm d (defaultValue ty)) → Go Z EL K N Q X T' pc' Ls (.ref a :: st)) :
    Go Z EL K N Q X T pc Ls st := by
  obtain ⟨w0, vm0, k0, locs, Y, hS, hk0, hZ, hown, hFr, H⟩ := W
  obtain ⟨T', h', Y', e', E, A, D, ⟨cl, hcl, -⟩, stp⟩ := newO Y w0.1 hZ hown w wi wz rfl (g := mkF X.m pc Ls st) rfl (by rw [w0.2.1]; exact hd) hk hn
  subst e'
  refine Go.by stp (by subst hp; exact r T' T.heap.size cl ⟨w0, vm0, k0, locs, Y', hS, Nat.le_trans hk0 E.1, hZ, hown, hFr, H.alloc E hcl⟩ (ObjC.of A hcl) fun L ht => FldC.of (D L ht) hcl)
theorem fits_default (ty : FieldType) : fits ty (defaultValue ty) = true := by cases ty <;> rfl
theorem Go.newarr (W : Wk l Z EL R own bytes maxL ret nm X σ ρ T k n) {aty : ArrayType} {z : Int32} (ty : FieldType) (hty : newarray.typeOf aty = ty) (len : Nat) (w : (Jvm.Cond.arrayClass ty).before a0 Z = true) (hd : decode bytes pc = .ok (.newarray aty, 2)) (hp : pc + 2 = pc')
    (hz : ¬ z < 0) (hl : z.toNatClampNeg = len) (hb : len * 8 ≤ 536870912) (hk : k + 1 ≤ R.cells) (hn : n + len ≤ R.slots)
    (r : ∀ (T' : State) (a : Addr) (c : Cell), Wk l Z EL R own bytes maxL ret nm X ((a, c) :: σ) ρ T' (k + 1) (n + len) → ArrC Z c ty (List.replicate len (defaultValue ty)) → Go Z EL K N Q X T' pc' Ls (.ref a :: st)) :
    Go Z EL K N Q X T pc Ls (.int z :: st) := by
  subst hty
  obtain ⟨w0, vm0, k0, locs, Y, hS, hk0, hZ, hown, hFr, H⟩ := W
  obtain ⟨T', h', cA, Y', e', E, A, stp⟩ := newP Y w0.1 hZ w rfl (g := mkF X.m pc Ls (.int z :: st)) rfl (by rw [w0.2.1]; exact hd) rfl hz (cap := len) (Nat.le_of_eq hl) hb hk hn
  subst e' hp
  have hfd : ∀ v ∈ List.replicate len (defaultValue (newarray.typeOf aty)), fits (newarray.typeOf aty) v = true := fun v hv => by rw [(List.mem_replicate.mp hv).2]; exact fits_default _
  exact Go.by stp (r T' T.heap.size _ ⟨w0, vm0, k0, locs, Y', hS, Nat.le_trans hk0 E.1, hZ, hown, hFr, H.alloc E A.1⟩ ⟨A.2.1, A.2.2, by simp [newA, hl], hfd, by simp; omega⟩)
theorem Go.arrlen (W : Wk l Z EL R own bytes maxL ret nm X σ ρ T k n) (hm : (a, c) ∈ σ ∨ (a, c) ∈ ρ ∨ Z.heap[a]? = some c) {ty : FieldType} (A : ArrC Z c ty vs) (z : Int32) (hz : vs.length.toInt32 = z) (hd : decode bytes pc = .ok (.arraylength, 1)) (hp : pc + 1 = pc')
    (r : Go Z EL K N Q X T pc' Ls (.int z :: st)) : Go Z EL K N Q X T pc Ls (.ref a :: st) := by
  have hc := W.cell hm
  obtain ⟨w0, vm0, k0, locs, Y, hS, hk0, hZ, hown, hFr, H⟩ := W
  refine Go.by (fun t kk => Y.arraylength w0.1 (cell := c) hc (State.isArrayOf_alike hZ.alike A.1) (g := mkF X.m pc Ls (.ref a :: st)) rfl rfl (by rw [w0.2.1]; exact hd) t ?_) r
  rw [A.size, hz]; subst hp; exact kk
theorem arr_in' {ty : FieldType} (A : ArrC Z c ty vs) {j : Int32} {i : Nat} (hj : ¬ j < 0) (hi : j.toNatClampNeg = i) (hl : i < vs.length) : ¬ (j < 0 ∨ c.slots.size ≤ j.toNatClampNeg) := by
  rw [A.size, hi]; rintro (q | q)
  · exact hj q
  · omega
theorem Go.caload (W : Wk l Z EL R own bytes maxL ret nm X σ ρ T k n) (hm : (a, c) ∈ σ ∨ (a, c) ∈ ρ ∨ Z.heap[a]? = some c) (A : ArrC Z c .char vs) {j : Int32} (i : Nat) {v : Value} (hj : ¬ j < 0) (hi : j.toNatClampNeg = i) (hv : vs[i]? = some v) (hd : decode bytes pc = .ok (.caload, 1)) (hp : pc + 1 = pc')
    (r : Go Z EL K N Q X T pc' Ls (v :: st)) : Go Z EL K N Q X T pc Ls (.int j :: .ref a :: st) := by
  have hc := W.cell hm
  obtain ⟨w0, vm0, k0, locs, Y, hS, hk0, hZ, hown, hFr, H⟩ := W
  exact Go.by (fun t kk => Y.caload w0.1 hc (State.isArrayOf_alike hZ.alike A.1) A.2.1 (arr_in' A hj hi (List.getElem?_eq_some_iff.mp hv).1) (by rw [hi, A.get, hv]) (g := mkF X.m pc Ls (.int j :: .ref a :: st)) rfl rfl (by rw [w0.2.1]; exact hd) t (by subst hp; exact kk)) r
theorem Go.baload (W : Wk l Z EL R own bytes maxL ret nm X σ ρ T k n) (hm : (a, c) ∈ σ ∨ (a, c) ∈ ρ ∨ Z.heap[a]? = some c) (A : ArrC Z c .byte vs) {j : Int32} (i : Nat) {v : Value} (hj : ¬ j < 0) (hi : j.toNatClampNeg = i) (hv : vs[i]? = some v) (hd : decode bytes pc = .ok (.baload, 1)) (hp : pc + 1 = pc')
    (r : Go Z EL K N Q X T pc' Ls (v :: st)) : Go Z EL K N Q X T pc Ls (.int j :: .ref a :: st) := by
  have hc := W.cell hm
  obtain ⟨w0, vm0, k0, locs, Y, hS, hk0, hZ, hown, hFr, H⟩ := W
  exact Go.by (fun t kk => Y.baloadBytes w0.1 hc (State.isArrayOf_alike hZ.alike A.1) A.2.1 (arr_in' A hj hi (List.getElem?_eq_some_iff.mp hv).1) (by rw [hi, A.get, hv]) (g := mkF X.m pc Ls (.int j :: .ref a :: st)) rfl rfl (by rw [w0.2.1]; exact hd) t (by subst hp; exact kk)) r
theorem Go.aaload (W : Wk l Z EL R own bytes maxL ret nm X σ ρ T k n) (hm : (a, c) ∈ σ ∨ (a, c) ∈ ρ ∨ Z.heap[a]? = some c) {ty : FieldType} (A : ArrC Z c ty vs) (hty : ty.isReference = true) {j : Int32} (i : Nat) {v : Value} (hj : ¬ j < 0) (hi : j.toNatClampNeg = i) (hv : vs[i]? = some v) (hd : decode bytes pc = .ok (.aaload, 1)) (hp : pc + 1 = pc')
    (r : Go Z EL K N Q X T pc' Ls (v :: st)) : Go Z EL K N Q X T pc Ls (.int j :: .ref a :: st) := by
  have hc := W.cell hm
  obtain ⟨w0, vm0, k0, locs, Y, hS, hk0, hZ, hown, hFr, H⟩ := W
  exact Go.by (fun t kk => Y.aaload w0.1 hc (State.isArrayOf_alike hZ.alike A.1) hty A.2.1 (arr_in' A hj hi (List.getElem?_eq_some_iff.mp hv).1) (by rw [hi, A.get, hv]) (g := mkF X.m pc Ls (.int j :: .ref a :: st)) rfl rfl (by rw [w0.2.1]; exact hd) t (by subst hp; exact kk)) r
/-- the step of one write: the point behind it -/
theorem Wk.wrote (W : Wk l Z EL R own bytes maxL ret nm X σ ρ T k n) {i : Nat} (hi : σ[i]? = some (a, c)) {vm0 : Vm} {k0 : Nat} {locs : List Loc} {T' : State} {sl : Nat} {v : Value}
    (hS : X.s.Since vm0 k0) (hk0 : k0 ≤ T.heap.size) (hZ : Z.Warmed39 vm0) (hown : vm0.findClass own = some X.m.cls) (hFr : Fr Z.heap.size locs) (H : Hp Z EL X.so X.ro X.s σ ρ vm0 T.heap)
    (Y' : Stand X.p l X.e R (X.s.setVm vm0) X.m X.args X.below X.meth X.c T' (locs ++ [⟨a, sl⟩]) k n) (Wr' : Wr T.heap T'.heap a sl v) : Wk l Z EL R own bytes maxL ret nm X (σ.set i (a, c.setSlot sl v)) ρ T' k n := by
  obtain ⟨cl, h1, -, -, h4⟩ := Wr'
  have hmem : (a, c) ∈ σ := List.mem_of_getElem? hi
  cases (H.2.1 _ hmem).symm.trans h1
  exact ⟨W.1, vm0, k0, _, Y', hS, by rw [h4]; simpa using hk0, hZ, hown, hFr.app fun y hy => by cases List.mem_singleton.mp hy; exact (H.2.2.2.2.1 _ hmem).1, H.write hi h4⟩
theorem Go.castore (W : Wk l Z EL R own bytes maxL ret nm X σ ρ T k n) (ix : Nat) (hm : σ[ix]? = some (a, c)) (A : ArrC Z c .char vs) {j x : Int32} (i : Nat) (x' : Int32) (hx : nar .char x = x') (hj : ¬ j < 0) (hi : j.toNatClampNeg = i) (hl : i < vs.length) (hd : decode bytes pc = .ok (.castore, 1)) (hp : pc + 1 = pc')
    (r : ∀ (T' : State) (c' : Cell), Wk l Z EL R own bytes maxL ret nm X (σ.set ix (a, c')) ρ T' k n → ArrC Z c' .char (vs.set i (.int x')) → Go Z EL K N Q X T' pc' Ls st) : Go Z EL K N Q X T pc Ls (.int x :: .int j :: .ref a :: st) := by
  have hc := W.cell (Or.inl (List.mem_of_getElem? hm))
  have W1 := W
  obtain ⟨w0, vm0, k0, locs, Y, hS, hk0, hZ, hown, hFr, H⟩ := W
  obtain ⟨T', h', Y', e', Wr', stp⟩ := stC Y w0.1 hZ rfl (A.arr hc) (arr_in' A hj hi hl) (g := mkF X.m pc Ls (.int x :: .int j :: .ref a :: st)) rfl rfl (by rw [w0.2.1]; exact hd)
  subst e' hp hi hx
  exact Go.by stp (r T' _ (W1.wrote hm hS hk0 hZ hown hFr H Y' Wr') (A.put (fits_nar_char x)))
theorem Go.bastore (W : Wk l Z EL R own bytes maxL ret nm X σ ρ T k n) (ix : Nat) (hm : σ[ix]? = some (a, c)) (A : ArrC Z c .byte vs) {j x : Int32} (i : Nat) (hj : ¬ j < 0) (hi : j.toNatClampNeg = i) (hl : i < vs.length) (hd : decode bytes pc = .ok (.bastore, 1)) (hp : pc + 1 = pc')
    (r : ∀ (T' : State) (c' : Cell), Wk l Z EL R own bytes maxL ret nm X (σ.set ix (a, c')) ρ T' k n → ArrC Z c' .byte (vs.set i (.int x.toInt8.toInt32)) → Go Z EL K N Q X T' pc' Ls st) : Go Z EL K N Q X T pc Ls (.int x :: .int j :: .ref a :: st) := by
  have hc := W.cell (Or.inl (List.mem_of_getElem? hm))
  have W1 := W
  obtain ⟨w0, vm0, k0, locs, Y, hS, hk0, hZ, hown, hFr, H⟩ := W
  obtain ⟨T', h', Y', e', Wr', stp⟩ := stB Y w0.1 hZ rfl (A.arr hc) (arr_in' A hj hi hl) (g := mkF X.m pc Ls (.int x :: .int j :: .ref a :: st)) rfl rfl (by rw [w0.2.1]; exact hd)
  subst e' hp hi
  exact Go.by stp (r T' _ (W1.wrote hm hS hk0 hZ hown hFr H Y' Wr') (A.put (fits_nar_byte x)))
theorem Go.aastore (W : Wk l Z EL R own bytes maxL ret nm X σ ρ T k n) (ix : Nat) (hm : σ[ix]? = some (a, c)) {ty : FieldType} (A : ArrC Z c ty vs) (hty : ty.isReference = true) {j : Int32} {v : Value} (i : Nat) (hj : ¬ j < 0) (hi : j.toNatClampNeg = i) (hl : i < vs.length) (hf : fits ty v = true) (F : Sto Z T.heap a v) (hd : decode bytes pc = .ok (.aastore, 1)) (hp : pc + 1 = pc')
    (r : ∀ (T' : State) (c' : Cell), Wk l Z EL R own bytes maxL ret nm X (σ.set ix (a, c')) ρ T' k n → ArrC Z c' ty (vs.set i v) → c'.cls = c.cls → Go Z EL K N Q X T' pc' Ls st) : Go Z EL K N Q X T pc Ls (v :: .int j :: .ref a :: st) := by
  have hc := W.cell (Or.inl (List.mem_of_getElem? hm))
  have W1 := W
  obtain ⟨w0, vm0, k0, locs, Y, hS, hk0, hZ, hown, hFr, H⟩ := W
  obtain ⟨T', h', Y', e', Wr', stp⟩ := stR Y w0.1 hZ rfl (A.arr hc) (arr_in' A hj hi hl) hty F (g := mkF X.m pc Ls (v :: .int j :: .ref a :: st)) rfl rfl (by rw [w0.2.1]; exact hd)
  subst e' hp hi
  exact Go.by stp (r T' _ (W1.wrote hm hS hk0 hZ hown hFr H Y' Wr') (A.put hf) rfl)
/-- a step that changes nothing of the heap -/
theorem Wk.same {vm0 : Vm} {k0 : Nat} {locs : List Loc} {T' : State} (W : Wk l Z EL R own bytes maxL ret nm X σ ρ T k n)
    (hS : X.s.Since vm0 k0) (hk0 : k0 ≤ T.heap.size) (hZ : Z.Warmed39 vm0) (hown : vm0.findClass own = some X.m.cls) (hFr : Fr Z.heap.size locs) (H : Hp Z EL X.so X.ro X.s σ ρ vm0 T.heap)
    (Y' : Stand X.p l X.e R (X.s.setVm vm0) X.m X.args X.below X.meth X.c T' locs k n) (e : T'.heap = T.heap) : Wk l Z EL R own bytes maxL ret nm X σ ρ T' k n :=
  ⟨W.1, vm0, k0, locs, Y', hS, by rw [e]; exact hk0, hZ, hown, hFr, by rw [e]; exact H⟩
theorem Go.getfield (W : Wk l Z EL R own bytes maxL ret nm X σ ρ T k n) (hm : (a, c) ∈ σ ∨ (a, c) ∈ ρ ∨ Z.heap[a]? = some c) {R0 O nF d : String} {ix : Nat} {v : Value} (w : (Jvm.Cond.fieldLink own ix R0 nF d).before a0 Z = true) (via : Via Z R0 O nF d) (F : FldC Z c O nF d v) (hd : decode bytes pc = .ok (.getfield ix, 3)) (hp : pc + 3 = pc')
    (r : ∀ T' : State, Wk l Z EL R own bytes maxL ret nm X σ ρ T' k n → Go Z EL K N Q X T' pc' Ls (v :: st)) : Go Z EL K N Q X T pc Ls (.ref a :: st) := by
  have hc := W.cell hm
  have W1 := W
  obtain ⟨w0, vm0, k0, locs, Y, hS, hk0, hZ, hown, hFr, H⟩ := W
  obtain ⟨T', Y', e', stp⟩ := getF Y w0.1 hZ hown (host := "") (Or.inl w) via rfl (F.fld hc) (g := mkF X.m pc Ls (.ref a :: st)) rfl rfl (by rw [w0.2.1]; exact hd)
  subst hp
  exact Go.by stp (r T' (W1.same hS hk0 hZ hown hFr H Y' e'))
theorem Go.getstatic (W : Wk l Z EL R own bytes maxL ret nm X σ ρ T k n) {R0 O nF d : String} {ix : Nat} {v : Value} (w : (Jvm.Cond.fieldLink own ix R0 nF d).before a0 Z = true) (via : Via Z R0 O nF d) (F : Sta Z Z.heap O nF d v) (hd : decode bytes pc = .ok (.getstatic ix, 3)) (hp : pc + 3 = pc')
    (r : ∀ T' : State, Wk l Z EL R own bytes maxL ret nm X σ ρ T' k n → Go Z EL K N Q X T' pc' Ls (v :: st)) : Go Z EL K N Q X T pc Ls st := by
  have hE := W.ext
  have W1 := W
  obtain ⟨w0, vm0, k0, locs, Y, hS, hk0, hZ, hown, hFr, H⟩ := W
  obtain ⟨T', Y', e', stp⟩ := getS Y w0.1 hZ (host := "") hown w via rfl (F.ext hE) (g := mkF X.m pc Ls st) rfl (by rw [w0.2.1]; exact hd)
  subst hp
  exact Go.by stp (r T' (W1.same hS hk0 hZ hown hFr H Y' e'))
theorem Go.putfield (W : Wk l Z EL R own bytes maxL ret nm X σ ρ T k n) (i : Nat) (hm : σ[i]? = some (a, c)) {R0 O nF d C : String} {ix kk : Nat} {ty : FieldType} {v v' old : Value} (w : (Jvm.Cond.fieldLink own ix R0 nF d).before a0 Z = true) (via : Via Z R0 O nF d) (F : FldC Z c O nF d old) (E : ObjC Z c C)
    (L : (Jvm.Cond.lays C O nF d).before a0 Z = true ∨ ((Jvm.Cond.laysFinal C O nF d).before a0 Z = true ∧ own = O ∧ nm = "<init>")) (wi : (Jvm.Cond.instantiable C kk).before a0 Z = true) (hty : parseFieldDescriptor d = some ty) (hn : narrow ty v = v') (hf : fits ty v' = true)
    (hd : decode bytes pc = .ok (.putfield ix, 3)) (hp : pc + 3 = pc')
    (r : ∀ (T' : State) (c' : Cell), c' = c.setSlot (Jvm.RoadKit.slotOf Z O nF d) v' → Wk l Z EL R own bytes maxL ret nm X (σ.set i (a, c')) ρ T' k n → Go Z EL K N Q X T' pc' Ls st) : Go Z EL K N Q X T pc Ls (v :: .ref a :: st) := by
  have hc := W.cell (Or.inl (List.mem_of_getElem? hm))
  have W1 := W
  obtain ⟨w0, vm0, k0, locs, Y, hS, hk0, hZ, hown, hFr, H⟩ := W
  obtain ⟨T', h', Y', e', Wr', stp⟩ := putFN Y w0.1 hZ hown w via rfl (F.fld hc) (E.exa hc) (L.imp id fun q => ⟨q.1, q.2.1, by rw [w0.2.2.2.2.2.1]; exact q.2.2⟩) wi hty hn hf (g := mkF X.m pc Ls (v :: .ref a :: st)) rfl rfl (by rw [w0.2.1]; exact hd)
  subst e' hp
  exact Go.by stp (r T' _ rfl (W1.wrote hm hS hk0 hZ hown hFr H Y' Wr'))
theorem Go.objInit (W : Wk l Z EL R own bytes maxL ret nm X σ ρ T k n) {ix : Nat} (w1 : (Jvm.Cond.methodLink own ix Lib.objectInit).before a0 Z = true) (w2 : (Jvm.Cond.instanceMethod Lib.objectInit).before a0 Z = true) (w3 : (Jvm.Cond.code Lib.objectInit ⟨#[0xb1]⟩ 1 none).before a0 Z = true) (hLs : Ls.size = maxL)
    (hd : decode bytes pc = .ok (.invokespecial ix, 3)) (hp : pc + 3 = pc') (hf : 1 ≤ R.frames) (hl : (st.map fun v => v.category).sum + 12 ≤ R.locals)
    (r : ∀ T' : State, Wk l Z EL R own bytes maxL ret nm X σ ρ T' k n → Go Z EL K N Q X T' pc' Ls st) : Go Z EL K N Q X T pc Ls (.ref a :: st) := by
  have W1 := W
  obtain ⟨w0, vm0, k0, locs, Y, hS, hk0, hZ, hown, hFr, H⟩ := W
  obtain ⟨T', Y', e', stp⟩ := initO Y w0.1 hZ hown w1 w2 w3 rfl (g := mkF X.m pc Ls (.ref a :: st)) rfl (by show Ls.size = _; rw [hLs, w0.2.2.1]) rfl (by rw [w0.2.1]; exact hd) hf (W := (st.map fun v => v.category).sum) (by show 2 * 0 + _ ≤ _; omega) hl
  subst hp
  exact Go.by stp (r T' (W1.same hS hk0 hZ hown hFr H Y' e'))
theorem Go.ldcInt (W : Wk l Z EL R own bytes maxL ret nm X σ ρ T k n) {ix : Nat} {v : Int32} (w : (Jvm.Cond.constant own ix v).before a0 Z = true) (hd : decode bytes pc = .ok (.ldc ix, 2)) (hp : pc + 2 = pc') (r : Go Z EL K N Q X T pc' Ls (.int v :: st)) : Go Z EL K N Q X T pc Ls st := by
  obtain ⟨w0, vm0, k0, locs, Y, hS, hk0, hZ, hown, hFr, H⟩ := W
  exact Go.by (fun t kk => Y.ldcI w0.1 hown (mvT hZ w) (g := mkF X.m pc Ls st) rfl (by rw [w0.2.1]; exact hd) (by subst hp; exact kk)) r
theorem Go.ldcwInt (W : Wk l Z EL R own bytes maxL ret nm X σ ρ T k n) {ix : Nat} {v : Int32} (w : (Jvm.Cond.constant own ix v).before a0 Z = true) (hd : decode bytes pc = .ok (.ldc_w ix, 3)) (hp : pc + 3 = pc') (r : Go Z EL K N Q X T pc' Ls (.int v :: st)) : Go Z EL K N Q X T pc Ls st := by
  obtain ⟨w0, vm0, k0, locs, Y, hS, hk0, hZ, hown, hFr, H⟩ := W
  exact Go.by (fun t kk => Y.ldcWI w0.1 hown (mvT hZ w) (g := mkF X.m pc Ls st) rfl (by rw [w0.2.1]; exact hd) (by subst hp; exact kk)) r
theorem Go.ldc2 (W : Wk l Z EL R own bytes maxL ret nm X σ ρ T k n) {ix : Nat} {v : Int64} (w : (Jvm.Cond.constantLong own ix v).before a0 Z = true) (hd : decode bytes pc = .ok (.ldc2_w ix, 3)) (hp : pc + 3 = pc') (r : Go Z EL K N Q X T pc' Ls (.long v :: st)) : Go Z EL K N Q X T pc Ls st := by
  obtain ⟨w0, vm0, k0, locs, Y, hS, hk0, hZ, hown, hFr, H⟩ := W
  exact Go.by (fun t kk => Y.ldc2J w0.1 hown (mvT hZ w) (g := mkF X.m pc Ls st) rfl (by rw [w0.2.1]; exact hd) (by subst hp; exact kk)) r
/-- a literal that may be made: what it holds -/
theorem Go.ldcStr (W : Wk l Z EL R own bytes maxL ret nm X σ ρ T k n) (hEL : EW Z a0 EL) {text : String} {ix : Nat} (w : (Jvm.Cond.stringLink own ix text).before a0 Z = true) (wS : ∀ d ∈ Bundle.stringAtoms, d.before a0 Z = true) (hmem : (own, ix) ∈ EL)
    {bs : List Value} {z : Int32} (ht : (∀ c ∈ text.toList, c.toNat < 256) ∧ text.toList.map (fun c => Value.int (Jvm.Lit.byteI c.toNat.toUInt16)) = bs) (hz : ¬ z < 0) (hl : z.toNatClampNeg = bs.length) (hbl : bs.length < 2147483648)
    (hd : decode bytes pc = .ok (.ldc ix, 2)) (hp : pc + 2 = pc') {m : Nat} (hm : 4 * text.toList.length ≤ m) (hbig : m ≤ 536870912) (hk : k + 2 ≤ R.cells) (hn : n + (m + 4) ≤ R.slots)
    (r : ∀ (T' : State) (a b : Addr) (c cb : Cell), Wk l Z EL R own bytes maxL ret nm X σ ((a, c) :: (b, cb) :: ρ) T' (k + 2) (n + (m + 4)) → ObjC Z c "java/lang/String" → FldC Z c "java/lang/String" "coder" "B" (.int 0) → FldC Z c "java/lang/String" "value" "[B" (.ref b) → ArrC Z cb .byte bs → Go Z EL K N Q X T' pc' Ls (.ref a :: st)) :
    Go Z EL K N Q X T pc Ls st := by
  obtain ⟨w0, vm0, k0, locs, Y, hS, hk0, hZ, hown, hFr, H⟩ := W
  obtain ⟨a, T', h', k1, b, kc, Y', e', E, hS', hk1, hZ', hown', A1, F1, F2, V1, la, lb, C, -, hne, stp⟩ := ldcCH Y w0.1 hZ hown w wS rfl hS hk0 hEL hmem H.1.1 ht hz hl (g := mkF X.m pc Ls st) rfl (by rw [w0.2.1]; exact hd) hm hbig hk hn
  subst e' hp
  obtain ⟨cb, Ab, -, sz, -, hh, hfit⟩ := V1
  have hcb : T'.heap[b]? = some cb := Ab.1
  obtain ⟨c, hc⟩ : ∃ c, T'.heap[a]? = some c := by obtain ⟨c, _, q, -⟩ := A1; exact ⟨c, q⟩
  have H2 := ((H.later C E).lit hcb fun x q => (hne x q).2).lit hc fun x q => (hne x q).1
  have hlen : cb.slots.size = bs.length := by rw [sz, hl]
  have hsl : cb.slots.toList = bs := by
    apply List.ext_getElem?
    intro i
    by_cases q : i < bs.length
    · have := hh i (by omega)
      rw [Array.getElem?_toList, this, List.getD_eq_getElem?_getD, List.getElem?_eq_getElem q]; rfl
    · rw [Array.getElem?_toList, Array.getElem?_eq_none (by omega), List.getElem?_eq_none (by omega)]
  refine Go.by stp (r T' a b c cb ⟨w0, T'.vm, k1, locs, Y', hS', hk1, hZ', hown', hFr, H2⟩ (ObjC.of A1 hc) (FldC.of F1 hc) (FldC.of F2 hc) ⟨Ab.2.1, Ab.2.2, hsl, fun v hv => ?_, hbl⟩)
  obtain ⟨i, hi⟩ := List.mem_iff_getElem?.mp hv
  have hlt := (List.getElem?_eq_some_iff.mp hi).1
  have q := hfit i (by omega)
  rw [List.getD_eq_getElem?_getD, hi] at q
  exact q
end HeapLaws
/-! ## own: calls and returns in the Go form -/
section CallLaws
variable {l : Launch} {Z : State} {a0 : Array Value} {EL : List (String × Nat)} {R : Room} {own : String} {bytes : ByteArray} {maxL : Nat} {ret : Option FieldType} {nm : String} {X : Ctx} {σ ρ : HL} {T : State} {k n K N : Nat} {Q Q' : Option Value → HL → HL → Prop} {pc pc' : Nat} {Ls : Array Slot} {st rest : List Value} {a : Addr} {c : Cell}
  {y y' : MethodName} {by' : ByteArray} {mL : Nat} {rt : Option FieldType} {rm : Room} {as' : Array Value} {σi σf ρi : HL}
/-- the point behind a call -/
theorem Wk.called (W : Wk l Z EL R own bytes maxL ret nm X σ ρ T k n) {vm0 : Vm} {k0 : Nat} {locs L : List Loc} (hS : X.s.Since vm0 k0) (hk0 : k0 ≤ T.heap.size) (hZ : Z.Warmed39 vm0) (hown : vm0.findClass own = some X.m.cls) (hFr : Fr Z.heap.size locs) (B : Pt) {σ' ρ' : HL}
    (Y' : Stand X.p l X.e R ((X.s.setVm vm0).setVm B.U.vm) X.m X.args X.below X.meth X.c B.U B.locs B.cells B.slots) (hS2 : (X.s.setVm vm0).Since B.U.vm B.U.heap.size) (g : T.heap.size ≤ B.U.heap.size) (hL : Fr Z.heap.size L) (H : Hp Z EL X.so X.ro X.s σ' ρ' B.U.vm B.U.heap)
    (e1 : B.locs = locs ++ L) (e2 : B.cells = k + rm.cells) (e3 : B.slots = n + rm.slots) : Wk l Z EL R own bytes maxL ret nm X σ' ρ' B.U (k + rm.cells) (n + rm.slots) := by
  obtain ⟨U, Lo, c1, s1⟩ := B
  dsimp only [Pt.U, Pt.locs, Pt.cells, Pt.slots] at *
  subst e1 e2 e3
  exact ⟨W.1, U.vm, U.heap.size, _, Y', hS.trans hS2 (Nat.le_trans hk0 g), Nat.le_refl _, State.Warmed39.trans (t := X.s.setVm vm0) hZ hS2.1, by rw [hS2.1.alike.findClass]; exact hown, hFr.app hL, H⟩
theorem Go.static (W : Wk l Z EL R own bytes maxL ret nm X σ ρ T k n) {ix : Nat} (M : Met l Z EL y by' mL rt rm as' σi ρi Q') (w1 : (Jvm.Cond.methodLink own ix y).before a0 Z = true) (w2 : (Jvm.Cond.static y).before a0 Z = true) (w3 : (Jvm.Cond.initialized y.cls).before a0 Z = true) (w4 : (Jvm.Cond.code y by' mL rt).before a0 Z = true)
    (hy : y.cls ≠ "java/lang/invoke/MethodHandle" ∧ y.cls ≠ "java/lang/invoke/VarHandle") (is js : List Nat) (hσ : pick is σ = some (σi, σf)) (hρ : roOf js ρ ρi) (argsL : List Value) (rest : List Value) (has : argsL.toArray = as') (hlen : ∀ sig, parseMethodDescriptor y.desc = some sig → argsL.length = sig.parameters.length) (hst : st = argsL.reverse ++ rest)
    (hLs : Ls.size = maxL) (hd : decode bytes pc = .ok (.invokestatic ix, 3)) (hp : pc + 3 = pc') (hf : rm.frames + 1 ≤ R.frames) (hl : (rest.map fun v => v.category).sum + (mL + 11) + rm.locals ≤ R.locals) (hk : k + rm.cells ≤ R.cells) (hn : n + rm.slots ≤ R.slots)
    (r : ∀ (v : Option Value) (σ' ρ' : HL) (T' : State), Q' v σ' ρ' → Wk l Z EL R own bytes maxL ret nm X (σ' ++ σf) (ρ' ++ ρ) T' (k + rm.cells) (n + rm.slots) → Go Z EL K N Q X T' pc' Ls (v.toList ++ rest)) : Go Z EL K N Q X T pc Ls st := by
  have W1 := W
  obtain ⟨w0, vm0, k0, locs, Y, hS, hk0, hZ, hown, hFr, H⟩ := W
  obtain ⟨ae, hEL⟩ := w0.2.2.2.2.2.2
  subst has hst
  have B1 := M.back (R := R) (p := X.p) (e := X.e) (below := X.below) (args := X.args) (len := 3) (W := (rest.map fun v => v.category).sum) hZ w4 w3 hf hl hEL (H.perm (pick_perm _ _ _ _ hσ)) hρ.mem
  obtain ⟨v, vm1, B, -, Y', hS2, g, ⟨σ', ρ', L, q, hL, H', e1, e2, e3⟩, stp⟩ := callSS Y w0.1 hown (mvT hZ w1) (mvT hZ w2) (mvT hZ w3) (mvT hZ w4) hy B1 (g := mkF X.m pc Ls (argsL.reverse ++ rest)) rfl (by show Ls.size = _; rw [hLs, w0.2.2.1]) (argsL := argsL) (rest := rest) hlen rfl (by show 2 * 0 + _ ≤ _; omega) (by rw [w0.2.1]; exact hd) (fun _ _ => ⟨rfl, rfl, hk, hn⟩)
  subst hp
  exact Go.by (fun t kk => stp.trans kk) (r v σ' ρ' B.U q (W1.called hS hk0 hZ hown hFr B Y' hS2 g hL H' e1 e2 e3))
theorem Go.special (W : Wk l Z EL R own bytes maxL ret nm X σ ρ T k n) {ix : Nat} (M : Met l Z EL y by' mL none rm as' σi ρi Q') (hy1 : y.name = "<init>") (w1 : (Jvm.Cond.methodLink own ix y).before a0 Z = true) (w2 : (Jvm.Cond.instanceMethod y).before a0 Z = true) (w3 : (Jvm.Cond.initialized y.cls).before a0 Z = true) (w4 : (Jvm.Cond.code y by' mL none).before a0 Z = true)
    (hy : y.cls ≠ "java/lang/invoke/MethodHandle" ∧ y.cls ≠ "java/lang/invoke/VarHandle") (is js : List Nat) (hσ : pick is σ = some (σi, σf)) (hρ : roOf js ρ ρi) (argsL : List Value) (rest : List Value) (has : (.ref a :: argsL).toArray = as') (hlen : ∀ sig, parseMethodDescriptor y.desc = some sig → argsL.length = sig.parameters.length) (hst : st = argsL.reverse ++ .ref a :: rest)
    (hLs : Ls.size = maxL) (hd : decode bytes pc = .ok (.invokespecial ix, 3)) (hp : pc + 3 = pc') (hf : rm.frames + 1 ≤ R.frames) (hl : (rest.map fun v => v.category).sum + (mL + 11) + rm.locals ≤ R.locals) (hk : k + rm.cells ≤ R.cells) (hn : n + rm.slots ≤ R.slots)
    (r : ∀ (v : Option Value) (σ' ρ' : HL) (T' : State), Q' v σ' ρ' → Wk l Z EL R own bytes maxL ret nm X (σ' ++ σf) (ρ' ++ ρ) T' (k + rm.cells) (n + rm.slots) → Go Z EL K N Q X T' pc' Ls (v.toList ++ rest)) : Go Z EL K N Q X T pc Ls st := by
  have W1 := W
  obtain ⟨w0, vm0, k0, locs, Y, hS, hk0, hZ, hown, hFr, H⟩ := W
  obtain ⟨ae, hEL⟩ := w0.2.2.2.2.2.2
  subst has hst
  have B1 := M.back (R := R) (p := X.p) (e := X.e) (below := X.below) (args := X.args) (len := 3) (W := (rest.map fun v => v.category).sum) hZ w4 w3 hf hl hEL (H.perm (pick_perm _ _ _ _ hσ)) hρ.mem
  obtain ⟨v, vm1, B, -, Y', hS2, g, ⟨σ', ρ', L, q, hL, H', e1, e2, e3⟩, stp⟩ := Y.specialBackS w0.1 hy1 hown (mvT hZ w1) (mvT hZ w2) (mvT hZ w4) hy B1 (g := mkF X.m pc Ls (argsL.reverse ++ .ref a :: rest)) rfl (by show Ls.size = _; rw [hLs, w0.2.2.1]) (Steps.refl _) (a := a) (argsL := argsL) (rest := rest) hlen rfl (by show 2 * 0 + _ ≤ _; omega) (by rw [w0.2.1]; exact hd) (fun _ _ => ⟨rfl, rfl, hk, hn⟩)
  subst hp
  exact Go.by (fun t kk => stp.trans kk) (r v σ' ρ' B.U q (W1.called hS hk0 hZ hown hFr B Y' hS2 g hL H' e1 e2 e3))
theorem Go.virtual (W : Wk l Z EL R own bytes maxL ret nm X σ ρ T k n) {ix : Nat} {C : String} (M : Met l Z EL y by' mL rt rm as' σi ρi Q') (hm : (a, c) ∈ σ ∨ (a, c) ∈ ρ ∨ Z.heap[a]? = some c) (O : ObjC Z c C) (w1 : (Jvm.Cond.methodLink own ix y).before a0 Z = true) (wd : (Jvm.Cond.declares y).before a0 Z = true) (ws : (Jvm.Cond.selects C y y).before a0 Z = true) (w2 : (Jvm.Cond.instanceMethod y).before a0 Z = true) (w3 : (Jvm.Cond.initialized y.cls).before a0 Z = true) (w4 : (Jvm.Cond.code y by' mL rt).before a0 Z = true)
    (hy : y.cls ≠ "java/lang/invoke/MethodHandle" ∧ y.cls ≠ "java/lang/invoke/VarHandle") (is js : List Nat) (hσ : pick is σ = some (σi, σf)) (hρ : roOf js ρ ρi) (argsL : List Value) (rest : List Value) (has : (.ref a :: argsL).toArray = as') (hlen : ∀ sig, parseMethodDescriptor y.desc = some sig → argsL.length = sig.parameters.length) (hst : st = argsL.reverse ++ .ref a :: rest)
    (hLs : Ls.size = maxL) (hd : decode bytes pc = .ok (.invokevirtual ix, 3)) (hp : pc + 3 = pc') (hf : rm.frames + 1 ≤ R.frames) (hl : (rest.map fun v => v.category).sum + (mL + 11) + rm.locals ≤ R.locals) (hk : k + rm.cells ≤ R.cells) (hn : n + rm.slots ≤ R.slots)
    (r : ∀ (v : Option Value) (σ' ρ' : HL) (T' : State), Q' v σ' ρ' → Wk l Z EL R own bytes maxL ret nm X (σ' ++ σf) (ρ' ++ ρ) T' (k + rm.cells) (n + rm.slots) → Go Z EL K N Q X T' pc' Ls (v.toList ++ rest)) : Go Z EL K N Q X T pc Ls st := by
  have W1 := W
  have hc := W.cell hm
  obtain ⟨w0, vm0, k0, locs, Y, hS, hk0, hZ, hown, hFr, H⟩ := W
  obtain ⟨ae, hEL⟩ := w0.2.2.2.2.2.2
  subst has hst
  have B1 := M.back (R := R) (p := X.p) (e := X.e) (below := X.below) (args := X.args) (len := 3) (W := (rest.map fun v => v.category).sum) hZ w4 w3 hf hl hEL (H.perm (pick_perm _ _ _ _ hσ)) hρ.mem
  obtain ⟨cq, kq, qa, qb, qc⟩ := isOf (s := X.s.setVm vm0) hZ rfl (O.exa hc)
  obtain ⟨v, vm1, B, -, Y', hS2, g, ⟨σ', ρ', L, q, hL, H', e1, e2, e3⟩, stp⟩ := Y.virtualBackS w0.1 hown (mvT hZ w1) (mvT hZ wd) (notFace_of_selects (args := #[]) (mvT hZ ws)) (mvT hZ ws) (mvT hZ w2) hy B1 qa qc (g := mkF X.m pc Ls (argsL.reverse ++ .ref a :: rest)) rfl (by show Ls.size = _; rw [hLs, w0.2.2.1]) (Steps.refl _) (argsL := argsL) (rest := rest) hlen rfl (by show 2 * 0 + _ ≤ _; omega) (by rw [w0.2.1]; exact hd) (fun _ _ => ⟨rfl, rfl, hk, hn⟩)
  subst hp
  exact Go.by (fun t kk => stp.trans kk) (r v σ' ρ' B.U q (W1.called hS hk0 hZ hown hFr B Y' hS2 g hL H' e1 e2 e3))
/-! returns -/
theorem Go.leave (W : Wk l Z EL R own bytes maxL ret nm X σ ρ T k n) (v : Option Value) (hv : ret = none → v = none) (hk : k ≤ K) (hn : n ≤ N) (q : Q v σ ρ)
    (hstep : ∀ (fs : List Frame) (vm0 : Vm) (locs : List Loc), Stand X.p l X.e R (X.s.setVm vm0) X.m X.args X.below X.meth X.c T locs K N → (∀ (f : JFrame) (acts : List Action), f.method = X.m → f.locked = none → f.entered = [] → (doReturn X.e (T.setTop f) acts v).1 = T.setFrames fs) → Steps X.p.tables X.e X.below (T.setTop (mkF X.m pc Ls st)) (T.setFrames fs)) :
    Go Z EL K N Q X T pc Ls st := by
  obtain ⟨w0, vm0, k0, locs, Y, hS, hk0, hZ, hown, hFr, H⟩ := W
  obtain ⟨ae, hEL⟩ := w0.2.2.2.2.2.2
  have Y2 := Y.more hk hn
  obtain ⟨fs, h1, h2, h3, h4⟩ := Y2.leaveW hS hk0 (v := v) (fun h => hv (by rw [← w0.2.2.2.1]; exact h)) w0.2.2.2.2.1
  have H2 : Hp Z EL X.so X.ro X.s σ ρ T.vm T.heap := H.later (CHv.at Y hZ hEL H.1.1) ⟨Nat.le_refl _, fun _ _ z => z⟩
  exact ⟨T.setFrames fs, _, hstep fs vm0 locs Y2 h1, h2, h3, v, σ, ρ, locs, rfl, q, hFr, H2, h4⟩
theorem Go.retV (W : Wk l Z EL R own bytes maxL none nm X σ ρ T k n) (hd : decode bytes pc = .ok (.return_, 1)) (hk : k ≤ K) (hn : n ≤ N) (q : Q none σ ρ) : Go Z EL K N Q X T pc Ls [] := by
  refine Go.leave W none (fun _ => rfl) hk hn q fun fs vm0 locs Y h => ?_
  exact Y.returnOut W.hx W.1.2.2.2.1 (W.hb hd) h
theorem Go.iret (W : Wk l Z EL R own bytes maxL (some .int) nm X σ ρ T k n) {z : Int32} (hd : decode bytes pc = .ok (.ireturn, 1)) (hk : k ≤ K) (hn : n ≤ N) (q : Q (some (.int z)) σ ρ) : Go Z EL K N Q X T pc Ls (.int z :: st) := by
  refine Go.leave W (some (.int z)) (fun h => nomatch h) hk hn q fun fs vm0 locs Y h => ?_
  exact retOut Y W.hx W.1.2.2.2.1 rfl (Or.inl ⟨rfl, Or.inl rfl, z, rfl⟩) (W.hb hd) h
theorem Go.nret (W : Wk l Z EL R own bytes maxL (some t) nm X σ ρ T k n) {z z' : Int32} (ht : t = .boolean ∨ t = .byte ∨ t = .char ∨ t = .short) (hz : nar t z = z') (hd : decode bytes pc = .ok (.ireturn, 1)) (hk : k ≤ K) (hn : n ≤ N) (q : Q (some (.int z')) σ ρ) : Go Z EL K N Q X T pc Ls (.int z :: st) := by
  subst hz
  refine Go.leave W (some (.int (nar t z))) (fun h => nomatch h) hk hn q fun fs vm0 locs Y h => ?_
  exact retN Y W.hx W.1.2.2.2.1 ht (W.hb hd) h
theorem Go.lret (W : Wk l Z EL R own bytes maxL (some .long) nm X σ ρ T k n) {z : Int64} (hd : decode bytes pc = .ok (.lreturn, 1)) (hk : k ≤ K) (hn : n ≤ N) (q : Q (some (.long z)) σ ρ) : Go Z EL K N Q X T pc Ls (.long z :: st) := by
  refine Go.leave W (some (.long z)) (fun h => nomatch h) hk hn q fun fs vm0 locs Y h => ?_
  exact retOut Y W.hx W.1.2.2.2.1 rfl (Or.inr (Or.inl ⟨rfl, rfl, z, rfl⟩)) (W.hb hd) h
theorem narrow_ref {t : FieldType} (ht : t.isReference = true) (w : Value) : narrow t w = w := by cases t <;> first | (cases ht; done) | rfl
theorem Go.aret (W : Wk l Z EL R own bytes maxL (some t) nm X σ ρ T k n) {w : Value} (hw : w.isRef = true) (ht : t.isReference = true) (hd : decode bytes pc = .ok (.areturn, 1)) (hk : k ≤ K) (hn : n ≤ N) (q : Q (some w) σ ρ) : Go Z EL K N Q X T pc Ls (w :: st) := by
  refine Go.leave W (some w) (fun h => nomatch h) hk hn q fun fs vm0 locs Y h => ?_
  exact retOut Y W.hx W.1.2.2.2.1 (narrow_ref ht w) (Or.inr (Or.inr (Or.inr (Or.inr ⟨rfl, ht, hw⟩)))) (W.hb hd) h
end CallLaws
/-! ## own: numbers and lists for the loops over arrays -/
theorem i32_toInt {i : Nat} (hi : i < 2147483648) : i.toInt32.toInt = (i : Int) := by
  rw [show i.toInt32 = Int32.ofNat i from rfl, Int32.toInt_ofNat_of_lt (by omega)]
theorem i32_lt {i n : Nat} (hi : i < 2147483648) (hn : n < 2147483648) : i.toInt32 < n.toInt32 ↔ i < n := by
  rw [Int32.lt_iff_toInt_lt, i32_toInt hi, i32_toInt hn]; omega
theorem i32_nn {i : Nat} (hi : i < 2147483648) : ¬ i.toInt32 < 0 := by
  rw [Int32.lt_iff_toInt_lt, i32_toInt hi]
  have : (0 : Int32).toInt = 0 := by decide
  omega
theorem i32_clamp {i : Nat} (hi : i < 2147483648) : i.toInt32.toNatClampNeg = i := by
  have h := nat_of (i32_nn hi)
  rw [i32_toInt hi] at h
  omega
theorem i32_succ {i : Nat} (hi : i + 1 < 2147483648) : i.toInt32 + 1 = (i + 1).toInt32 := by
  apply Int32.toInt_inj.mp
  have h := c_iadd i.toInt32 1
  rw [i32_toInt (by omega)] at h
  rw [i32_toInt hi]
  have h1 : (1 : Int32).toInt = 1 := by decide
  rw [h1] at h
  have r := rng32 (i.toInt32 + 1)
  omega
theorem i32_inj {i n : Nat} (hi : i < 2147483648) (hn : n < 2147483648) : i.toInt32 = n.toInt32 ↔ i = n := by
  constructor
  · intro h
    have := congrArg Int32.toInt h
    rw [i32_toInt hi, i32_toInt hn] at this
    omega
  · intro h; rw [h]
/-- a char's low byte, as a byte[] holds it -/
abbrev lo8 (x : Int32) : Value := .int x.toInt8.toInt32
abbrev latB (cs : List Int32) : List Value := cs.map lo8
abbrev chV (cs : List Int32) : List Value := cs.map Value.int
/-- each is a Latin-1 char -/
def Lat (cs : List Int32) : Prop := ∀ x ∈ cs, ¬ x < 0 ∧ ¬ (255 : Int32) < x
theorem Lat.nil : Lat [] := fun _ h => nomatch h
theorem Lat.cons {x : Int32} {cs : List Int32} (h : ¬ x < 0 ∧ ¬ (255 : Int32) < x) (r : Lat cs) : Lat (x :: cs) := fun y hy => by
  rcases List.mem_cons.mp hy with rfl | hy
  · exact h
  · exact r y hy
/-- a Latin-1 String's two cells -/
def StrL (Z : State) (c : Cell) (b : Addr) (cb : Cell) (cs : List Int32) : Prop :=
  ObjC Z c "java/lang/String" ∧ FldC Z c "java/lang/String" "coder" "B" (.int 0) ∧ FldC Z c "java/lang/String" "value" "[B" (.ref b) ∧ ArrC Z cb .byte (latB cs) ∧ Lat cs
theorem take_succ' {α : Type} {l : List α} {i : Nat} {x : α} (h : l[i]? = some x) : l.take (i + 1) = l.take i ++ [x] := by
  rw [List.take_add_one, h]; rfl
theorem set_next {cs : List Int32} {i j : Nat} {x : Int32} (hx : cs[i]? = some x) : (latB (cs.take i) ++ List.replicate (j + 1) (.int 0 : Value)).set i (lo8 x) = latB (cs.take (i + 1)) ++ List.replicate j (.int 0) := by
  have hi : i < cs.length := (List.getElem?_eq_some_iff.mp hx).1
  have hl : (latB (cs.take i)).length = i := by simp; omega
  rw [List.set_append_right _ _ (by omega), hl, Nat.sub_self, List.replicate_succ, List.set_cons_zero, take_succ' hx]
  simp [latB]
theorem and255 (x : Int32) : ¬ (x &&& 255) < 0 ∧ ¬ (255 : Int32) < (x &&& 255) := by
  have h := c_and x 255 (by decide)
  have h0 : (0 : Int32).toInt = 0 := by decide
  have h1 : (255 : Int32).toInt = 255 := by decide
  rw [Int32.lt_iff_toInt_lt, Int32.lt_iff_toInt_lt, h0]
  rw [h1] at h ⊢
  omega
/-- a char stays a char -/
theorem i2c_id {x : Int32} (h0 : ¬ x < 0) (h1 : ¬ (65535 : Int32) < x) : x.toUInt32.toUInt16.toUInt32.toInt32 = x := by
  apply Int32.toInt_inj.mp
  have h := c_i2c x
  rw [Int32.lt_iff_toInt_lt] at h0 h1
  have e0 : (0 : Int32).toInt = 0 := by decide
  have e1 : (65535 : Int32).toInt = 65535 := by decide
  rw [e0] at h0
  rw [e1] at h1
  omega
theorem lat_char {x : Int32} (h : ¬ x < 0 ∧ ¬ (255 : Int32) < x) : ¬ x < 0 ∧ ¬ (65535 : Int32) < x := by
  obtain ⟨h0, h1⟩ := h
  refine ⟨h0, ?_⟩
  rw [Int32.lt_iff_toInt_lt] at h1 ⊢
  have e0 : (255 : Int32).toInt = 255 := by decide
  have e1 : (65535 : Int32).toInt = 65535 := by decide
  rw [e0] at h1
  rw [e1]
  omega
theorem nar_char_id {x : Int32} (h : ¬ x < 0 ∧ ¬ (65535 : Int32) < x) : nar .char x = x := i2c_id h.1 h.2
/-- a byte read back with & 255 -/
theorem byte_back {x : Int32} (h : ¬ x < 0 ∧ ¬ (255 : Int32) < x) : x.toInt8.toInt32 &&& 255 = x := by
  apply Int32.toInt_inj.mp
  rw [c_mask _ 255 8 (by decide) (by decide)]
  have hb := c_i2b x
  obtain ⟨h0, h1⟩ := h
  rw [Int32.lt_iff_toInt_lt] at h0 h1
  have e0 : (0 : Int32).toInt = 0 := by decide
  have e1 : (255 : Int32).toInt = 255 := by decide
  rw [e0] at h0
  rw [e1] at h1
  omega
theorem lo8_inj {x y : Int32} (hx : ¬ x < 0 ∧ ¬ (255 : Int32) < x) (hy : ¬ y < 0 ∧ ¬ (255 : Int32) < y) (h : x.toInt8.toInt32 = y.toInt8.toInt32) : x = y := by
  rw [← byte_back hx, ← byte_back hy, h]
theorem i8_i8 (x : Int32) : x.toInt8.toInt32.toInt8.toInt32 = x.toInt8.toInt32 := by
  apply Int32.toInt_inj.mp
  have h1 := c_i2b x
  have h2 := c_i2b x.toInt8.toInt32
  omega
theorem andchr (x m : Int32) (h0 : 0 ≤ m.toInt) (h1 : m.toInt ≤ 65535) : ¬ (x &&& m) < 0 ∧ ¬ (65535 : Int32) < (x &&& m) := by
  have h := c_and x m h0
  have e0 : (0 : Int32).toInt = 0 := by decide
  have e1 : (65535 : Int32).toInt = 65535 := by decide
  rw [Int32.lt_iff_toInt_lt, Int32.lt_iff_toInt_lt, e0, e1]
  omega
/-! ## own: casts and comparisons of references in the Go form -/
section RefLaws
variable {l : Launch} {Z : State} {a0 : Array Value} {EL : List (String × Nat)} {R : Room} {own : String} {bytes : ByteArray} {maxL : Nat} {ret : Option FieldType} {nm : String} {X : Ctx} {σ ρ : HL} {T : State} {k n K N : Nat} {Q : Option Value → HL → HL → Prop} {pc pc' : Nat} {Ls : Array Slot} {st : List Value} {a : Addr} {c : Cell}
theorem Go.instY (W : Wk l Z EL R own bytes maxL ret nm X σ ρ T k n) (hm : (a, c) ∈ σ ∨ (a, c) ∈ ρ ∨ Z.heap[a]? = some c) {C : String} {ix : Nat} (O : ObjC Z c C) (w : (Jvm.Cond.classLink own ix C).before a0 Z = true) (hd : decode bytes pc = .ok (.instanceof ix, 3)) (hp : pc + 3 = pc')
    (r : ∀ T' : State, Wk l Z EL R own bytes maxL ret nm X σ ρ T' k n → Go Z EL K N Q X T' pc' Ls (.int 1 :: st)) : Go Z EL K N Q X T pc Ls (.ref a :: st) := by
  have hc := W.cell hm
  have W1 := W
  obtain ⟨w0, vm0, k0, locs, Y, hS, hk0, hZ, hown, hFr, H⟩ := W
  obtain ⟨T', Y', e', stp⟩ := Jvm.RoadKit.instY Y w0.1 hZ hown w rfl (Ins.self (O.exa hc)) (g := mkF X.m pc Ls (.ref a :: st)) rfl rfl (by rw [w0.2.1]; exact hd)
  subst hp
  exact Go.by stp (r T' (W1.same hS hk0 hZ hown hFr H Y' e'))
theorem Go.castY (W : Wk l Z EL R own bytes maxL ret nm X σ ρ T k n) (hm : (a, c) ∈ σ ∨ (a, c) ∈ ρ ∨ Z.heap[a]? = some c) {C : String} {ix : Nat} (O : ObjC Z c C) (w : (Jvm.Cond.classLink own ix C).before a0 Z = true) (hd : decode bytes pc = .ok (.checkcast ix, 3)) (hp : pc + 3 = pc')
    (r : ∀ T' : State, Wk l Z EL R own bytes maxL ret nm X σ ρ T' k n → Go Z EL K N Q X T' pc' Ls (.ref a :: st)) : Go Z EL K N Q X T pc Ls (.ref a :: st) := by
  have hc := W.cell hm
  have W1 := W
  obtain ⟨w0, vm0, k0, locs, Y, hS, hk0, hZ, hown, hFr, H⟩ := W
  obtain ⟨T', Y', e', stp⟩ := Jvm.RoadKit.castY Y w0.1 hZ hown w rfl (Ins.self (O.exa hc)) (g := mkF X.m pc Ls (.ref a :: st)) rfl rfl (by rw [w0.2.1]; exact hd)
  subst hp
  exact Go.by stp (r T' (W1.same hS hk0 hZ hown hFr H Y' e'))
theorem Go.acmp_ne (W : Wk l Z EL R own bytes maxL ret nm X σ ρ T k n) {x y : Value} {o : Int} (pcY : Nat) (h1 : x.isRef = true) (h2 : y.isRef = true) (hd : decode bytes pc = .ok (.if_acmp .ne o, 3)) (hy : (pc : Int) + o = (pcY : Nat)) (hp : pc + 3 = pc')
    (rY : ¬ x = y → Go Z EL K N Q X T pcY Ls st) (rN : x = y → Go Z EL K N Q X T pc' Ls st) : Go Z EL K N Q X T pc Ls (y :: x :: st) := by
  obtain ⟨w0, vm0, k0, locs, Y, hS, hk0, hZ, hown, hFr, H⟩ := W
  by_cases q : x = y
  · exact Go.by (fun t kk => acmp Y w0.1 (g := mkF X.m pc Ls (y :: x :: st)) rfl h1 h2 (pc0 := pc) (pc' := pc') (same := true) rfl (by rw [w0.2.1]; exact hd) rfl (by simp [q]) (by omega) (by subst hp; rfl) kk) (rN q)
  · exact Go.by (fun t kk => acmp Y w0.1 (g := mkF X.m pc Ls (y :: x :: st)) rfl h1 h2 (pc0 := pc) (pc' := pcY) (same := false) rfl (by rw [w0.2.1]; exact hd) rfl (by simp [q]) (by omega) (by simp [acV]; omega) kk) (rY q)
theorem Go.acmp_eq (W : Wk l Z EL R own bytes maxL ret nm X σ ρ T k n) {x y : Value} {o : Int} (pcY : Nat) (h1 : x.isRef = true) (h2 : y.isRef = true) (hd : decode bytes pc = .ok (.if_acmp .eq o, 3)) (hy : (pc : Int) + o = (pcY : Nat)) (hp : pc + 3 = pc')
    (rY : x = y → Go Z EL K N Q X T pcY Ls st) (rN : ¬ x = y → Go Z EL K N Q X T pc' Ls st) : Go Z EL K N Q X T pc Ls (y :: x :: st) := by
  obtain ⟨w0, vm0, k0, locs, Y, hS, hk0, hZ, hown, hFr, H⟩ := W
  by_cases q : x = y
  · exact Go.by (fun t kk => acmp Y w0.1 (g := mkF X.m pc Ls (y :: x :: st)) rfl h1 h2 (pc0 := pc) (pc' := pcY) (same := true) rfl (by rw [w0.2.1]; exact hd) rfl (by simp [q]) (by omega) (by simp [acV]; omega) kk) (rY q)
  · exact Go.by (fun t kk => acmp Y w0.1 (g := mkF X.m pc Ls (y :: x :: st)) rfl h1 h2 (pc0 := pc) (pc' := pc') (same := false) rfl (by rw [w0.2.1]; exact hd) rfl (by simp [q]) (by omega) (by subst hp; rfl) kk) (rN q)
theorem Go.instNull (W : Wk l Z EL R own bytes maxL ret nm X σ ρ T k n) {ix : Nat} (hd : decode bytes pc = .ok (.instanceof ix, 3)) (hp : pc + 3 = pc') (r : Go Z EL K N Q X T pc' Ls (.int 0 :: st)) : Go Z EL K N Q X T pc Ls (.null :: st) := by
  obtain ⟨w0, vm0, k0, locs, Y, hS, hk0, hZ, hown, hFr, H⟩ := W
  exact Go.by (fun t kk => Y.instanceofNull w0.1 (g := mkF X.m pc Ls (.null :: st)) rfl rfl (by rw [w0.2.1]; exact hd) t (by subst hp; exact kk)) r
theorem Go.castNull (W : Wk l Z EL R own bytes maxL ret nm X σ ρ T k n) {ix : Nat} (hd : decode bytes pc = .ok (.checkcast ix, 3)) (hp : pc + 3 = pc') (r : Go Z EL K N Q X T pc' Ls (.null :: st)) : Go Z EL K N Q X T pc Ls (.null :: st) := by
  obtain ⟨w0, vm0, k0, locs, Y, hS, hk0, hZ, hown, hFr, H⟩ := W
  exact Go.by (fun t kk => Y.checkcastNull w0.1 (g := mkF X.m pc Ls (.null :: st)) rfl rfl (by rw [w0.2.1]; exact hd) t (by subst hp; exact kk)) r
end RefLaws
/-! ## own: two Strings at one address -/
theorem FldC.uniq {Z : State} {c : Cell} {C n d : String} {v w : Value} (F : FldC Z c C n d v) (F' : FldC Z c C n d w) : v = w := by
  obtain ⟨cf, k, i, f, h1, -, -, -, -, h6⟩ := F
  obtain ⟨cf', k', i', f', g1, -, -, -, -, g6⟩ := F'
  cases h1.symm.trans g1
  exact Option.some.inj (h6.symm.trans g6)
theorem latB_inj {cs ds : List Int32} (hc : Lat cs) (hd : Lat ds) (h : cs.map (fun x => x.toInt8.toInt32) = ds.map (fun x => x.toInt8.toInt32)) : cs = ds := by
  induction cs generalizing ds with
  | nil => cases ds with
    | nil => rfl
    | cons y ds => simp at h
  | cons x cs ih => cases ds with
    | nil => simp at h
    | cons y ds =>
      simp only [List.map_cons, List.cons.injEq] at h
      rw [lo8_inj (hc x (by simp)) (hd y (by simp)) h.1, ih (fun z hz => hc z (by simp [hz])) (fun z hz => hd z (by simp [hz])) h.2]
theorem latB_eq (cs : List Int32) : latB cs = chV (cs.map fun x => x.toInt8.toInt32) := by simp [latB, chV, lo8]
theorem chV_inj {xs ys : List Int32} (h : chV xs = chV ys) : xs = ys := by
  induction xs generalizing ys with
  | nil => cases ys with
    | nil => rfl
    | cons y ys => simp at h
  | cons x xs ih => cases ys with
    | nil => simp at h
    | cons y ys =>
      simp only [chV, List.map_cons, List.cons.injEq, Value.int.injEq] at h
      rw [h.1, ih h.2]
theorem StrL.uniq {Z : State} {h : Heap} {a b b' : Addr} {c c' cb cb' : Cell} {cs ds : List Int32} (S : StrL Z c b cb cs) (S' : StrL Z c' b' cb' ds) (h1 : h[a]? = some c) (h2 : h[a]? = some c') (h3 : h[b]? = some cb) (h4 : h[b']? = some cb') : cs = ds := by
  cases h1.symm.trans h2
  have e : b = b' := Value.ref.inj (S.2.2.1.uniq S'.2.2.1)
  subst e
  cases h3.symm.trans h4
  have q : latB cs = latB ds := S.2.2.2.1.2.2.1.symm.trans S'.2.2.2.1.2.2.1
  rw [latB_eq, latB_eq] at q
  exact latB_inj S.2.2.2.2 S'.2.2.2.2 (chV_inj q)

theorem len0 {Z : State} {cb : Cell} {cs : List Int32} (A : ArrC Z cb .byte (latB cs)) (h : cs.length.toInt32 = 0) : cs = [] := by
  have hn : cs.length < 2147483648 := by have := A.2.2.2.2; rwa [latB, List.length_map] at this
  have := (i32_inj hn (n := 0) (by decide)).mp h
  exact List.length_eq_zero_iff.mp this
theorem shr0 (x : Int32) : x >>> ((0 : Int32) &&& 31) = x := by
  apply Int32.toInt_inj.mp
  rw [c_ishr x 0 0 (by decide)]
  simp
/-! ## own: UTF-16 Strings -/
abbrev hi8 (x : Int32) : Value := .int (x >>> ((8 : Int32) &&& 31)).toInt8.toInt32
def utfB : List Int32 → List Value
  | [] => []
  | x :: r => lo8 x :: hi8 x :: utfB r
def Chr (cs : List Int32) : Prop := ∀ x ∈ cs, ¬ x < 0 ∧ ¬ (65535 : Int32) < x
theorem Chr.nil : Chr [] := fun _ h => nomatch h
theorem Chr.cons {x : Int32} {cs : List Int32} (h : ¬ x < 0 ∧ ¬ (65535 : Int32) < x) (r : Chr cs) : Chr (x :: cs) := fun y hy => by
  rcases List.mem_cons.mp hy with rfl | hy
  · exact h
  · exact r y hy
theorem Lat.chr {cs : List Int32} (h : Lat cs) : Chr cs := fun x hx => lat_char (h x hx)
theorem utfB_len : ∀ cs : List Int32, (utfB cs).length = 2 * cs.length
  | [] => rfl
  | x :: r => by simp only [utfB, List.length_cons, utfB_len r]; omega
theorem utfB_app : ∀ a b : List Int32, utfB (a ++ b) = utfB a ++ utfB b
  | [], b => rfl
  | x :: r, b => by simp only [utfB, List.cons_append, utfB_app r b]
theorem utfB_get : ∀ {cs : List Int32} {i : Nat} {x : Int32}, cs[i]? = some x → (utfB cs)[2 * i]? = some (lo8 x) ∧ (utfB cs)[2 * i + 1]? = some (hi8 x)
  | y :: r, 0, x, h => by simp at h; subst h; exact ⟨rfl, rfl⟩
  | y :: r, i + 1, x, h => by
    have h' : r[i]? = some x := by simpa using h
    have := utfB_get h'
    rw [show 2 * (i + 1) = 2 * i + 2 by omega, show 2 * i + 2 + 1 = (2 * i + 1) + 2 by omega]
    simpa [utfB] using this
theorem set2_next {cs : List Int32} {i j : Nat} {x : Int32} (hx : cs[i]? = some x) : ((utfB (cs.take i) ++ List.replicate (2 * (j + 1)) (.int 0 : Value)).set (2 * i) (lo8 x)).set (2 * i + 1) (hi8 x) = utfB (cs.take (i + 1)) ++ List.replicate (2 * j) (.int 0) := by
  have hi : i < cs.length := (List.getElem?_eq_some_iff.mp hx).1
  have hl : (utfB (cs.take i)).length = 2 * i := by rw [utfB_len, List.length_take]; omega
  rw [List.set_append_right _ _ (by omega), hl, Nat.sub_self, show 2 * (j + 1) = (2 * j + 1) + 1 by omega, List.replicate_succ, List.set_cons_zero, List.set_append_right _ _ (by omega), hl, show 2 * i + 1 - 2 * i = 0 + 1 by omega, List.set_cons_succ, List.replicate_succ, List.set_cons_zero, take_succ' hx, utfB_app]
  simp [utfB]
theorem shl1 {i : Nat} (hi : 2 * i < 2147483648) : i.toInt32 <<< ((1 : Int32) &&& 31) = (2 * i).toInt32 := by
  apply Int32.toInt_inj.mp
  have h := c_ishl i.toInt32 1 1 (by decide)
  rw [i32_toInt (by omega)] at h
  rw [i32_toInt hi]
  have r := rng32 (i.toInt32 <<< ((1 : Int32) &&& 31))
  simp only [Nat.reducePow] at h
  omega
theorem shr1 {i : Nat} (hi : 2 * i < 2147483648) : (2 * i).toInt32 >>> ((1 : Int32) &&& 31) = i.toInt32 := by
  apply Int32.toInt_inj.mp
  rw [c_ishr _ 1 1 (by decide), i32_toInt hi, i32_toInt (by omega)]
  simp only [Nat.reducePow]
  omega
theorem shl0 (x : Int32) : x <<< ((0 : Int32) &&& 31) = x := by
  apply Int32.toInt_inj.mp
  have h := c_ishl x 0 0 (by decide)
  have r := rng32 (x <<< ((0 : Int32) &&& 31))
  have r' := rng32 x
  simp only [Nat.reducePow] at h
  omega
/-- the two bytes of a char make the char -/
theorem getch {x : Int32} (hx : ¬ x < 0 ∧ ¬ (65535 : Int32) < x) : (((x.toInt8.toInt32 &&& 255) <<< ((0 : Int32) &&& 31)) ||| (((x >>> ((8 : Int32) &&& 31)).toInt8.toInt32 &&& 255) <<< ((8 : Int32) &&& 31))) = x := by
  rw [shl0]
  apply Int32.toInt_inj.mp
  obtain ⟨h0, h1⟩ := hx
  rw [Int32.lt_iff_toInt_lt] at h0 h1
  have e0 : (0 : Int32).toInt = 0 := by decide
  have e1 : (65535 : Int32).toInt = 65535 := by decide
  rw [e0] at h0
  rw [e1] at h1
  have ha := c_mask x.toInt8.toInt32 255 8 (by decide) (by decide)
  have hb := c_mask (x >>> ((8 : Int32) &&& 31)).toInt8.toInt32 255 8 (by decide) (by decide)
  have hba := c_i2b x
  have hbb := c_i2b (x >>> ((8 : Int32) &&& 31))
  have hs := c_ishr x 8 8 (by decide)
  simp only [Nat.reducePow] at ha hb hs
  have hl := c_ishl ((x >>> ((8 : Int32) &&& 31)).toInt8.toInt32 &&& 255) 8 8 (by decide)
  have rl := rng32 (((x >>> ((8 : Int32) &&& 31)).toInt8.toInt32 &&& 255) <<< ((8 : Int32) &&& 31))
  simp only [Nat.reducePow] at hl
  have ho := c_or' (x.toInt8.toInt32 &&& 255) (((x >>> ((8 : Int32) &&& 31)).toInt8.toInt32 &&& 255) <<< ((8 : Int32) &&& 31)) 8 (by decide) 256 (by decide) (by omega) (by omega) (by omega)
  have ro := rng32 ((x.toInt8.toInt32 &&& 255) ||| (((x >>> ((8 : Int32) &&& 31)).toInt8.toInt32 &&& 255) <<< ((8 : Int32) &&& 31)))
  omega
/-- a UTF-16 String's two cells -/
def StrU (Z : State) (c : Cell) (b : Addr) (cb : Cell) (cs : List Int32) : Prop :=
  ObjC Z c "java/lang/String" ∧ FldC Z c "java/lang/String" "coder" "B" (.int 1) ∧ FldC Z c "java/lang/String" "value" "[B" (.ref b) ∧ ArrC Z cb .byte (utfB cs) ∧ Chr cs
/-- a String's two cells, of either kind -/
def StrG (Z : State) (c : Cell) (b : Addr) (cb : Cell) (cs : List Int32) : Prop := StrL Z c b cb cs ∨ StrU Z c b cb cs
theorem eqI {args : Array Value} {s : State} {t : Term} {v : Int32} (h : (Jvm.Cond.eq t (Term.int v)).value args s none s [] = some true) : t.eval args s none [] s = some (.int v) := by
  obtain ⟨x, y, h1, h2, -, h4⟩ := cmp_v (Or.inl h)
  cases (Term.int_eval v).symm.trans h2
  obtain ⟨z, rfl⟩ := h4
  rw [Cond.value, h1, Term.int_eval] at h
  simp at h
  rw [h1, h]
/-- where the first sign above 255 stands, if there is one -/
def Upto (cs : List Int32) (k : Nat) : Prop := (k = cs.length ∧ Lat cs) ∨ (k < cs.length ∧ ∃ x, cs[k]? = some x ∧ (255 : Int32) < x)
theorem coder_u {n : Nat} (h0 : 0 < n) (hn : n < 65536) : nar .byte ((n.toInt32 - (2 * n).toInt32).toUInt32 >>> ((31 : Int32) &&& 31).toUInt32).toInt32.toInt8.toInt32 = 1 := by
  have e : ((n.toInt32 - (2 * n).toInt32).toUInt32 >>> ((31 : Int32) &&& 31).toUInt32).toInt32 = 1 := by
    apply Int32.toInt_inj.mp
    rw [c_iushr _ 31 31 (by decide) (by decide)]
    have h := c_isub n.toInt32 (2 * n).toInt32
    have r := rng32 (n.toInt32 - (2 * n).toInt32)
    rw [i32_toInt (by omega), i32_toInt (by omega)] at h
    have e1 : (1 : Int32).toInt = 1 := by decide
    rw [e1]
    simp only [Nat.reducePow]
    omega
  rw [e]; decide
theorem StrG.obj {Z : State} {c : Cell} {b : Addr} {cb : Cell} {cs : List Int32} (S : StrG Z c b cb cs) : ObjC Z c "java/lang/String" := S.elim (·.1) (·.1)
theorem i32_big {n : Nat} (hn : n < 65536) : n.toInt32 < (1073741823 : Int32) := by
  have h := i32_toInt (i := n) (by omega)
  have e : (1073741823 : Int32).toInt = 1073741823 := by decide
  rw [Int32.lt_iff_toInt_lt, h, e]
  omega
abbrev EL1 : List (String × Nat) := consts_1
def Cl (Z : State) (a0 : Array Value) : Prop := (∀ d ∈ tables_1, d.before a0 Z = true) ∧ EW Z a0 EL1 ∧ (∃ cv : Int32, Sta Z Z.heap "java/lang/String" "COMPACT_STRINGS" "Z" (.int cv) ∧ ¬ cv = 0) ∧ (∃ fv : Value, Sta Z Z.heap "jdk/internal/util/Preconditions" "SIOOBE_FORMATTER" "Ljava/util/function/BiFunction;" fv ∧ fv.isRef = true) ∧ (Sta Z Z.heap "java/lang/StringUTF16" "$assertionsDisabled" "Z" (.int 1) ∧ Sta Z Z.heap "java/lang/StringUTF16" "HI_BYTE_SHIFT" "I" (.int 0) ∧ Sta Z Z.heap "java/lang/StringUTF16" "LO_BYTE_SHIFT" "I" (.int 8))
theorem strAtoms {Z : State} {a0 : Array Value} (G : Cl Z a0) : ∀ d ∈ Bundle.stringAtoms, d.before a0 Z = true := fun d hd => G.1 d ((by decide +kernel : ∀ d ∈ Bundle.stringAtoms, d ∈ tables_1) d hd)
theorem pn_0 : plainName "java/lang/StringUTF16" = true := by first | (simp [plainName, overriddenIn]; done) | decide +kernel
theorem d_jdk_52_method_3_code_0 : decode jdk_52_method_3_code 0 = .ok (.iload_n 0, 1) := by decide +kernel
theorem d_jdk_52_method_3_code_1 : decode jdk_52_method_3_code 1 = .ok (.ifCond .ge 11, 3) := by decide +kernel
theorem d_jdk_52_method_3_code_12 : decode jdk_52_method_3_code 12 = .ok (.iload_n 0, 1) := by decide +kernel
theorem d_jdk_52_method_3_code_13 : decode jdk_52_method_3_code 13 = .ok (.ldc 20, 2) := by decide +kernel
theorem w_87 {Z : State} {a0 : Array Value} (G : Cl Z a0) : (Jvm.Cond.constant "java/lang/StringUTF16" 20 (1073741823)).before a0 Z = true := G.1 _ (List.mem_of_getElem? (l := tables_1) (i := 87) rfl)
theorem d_jdk_52_method_3_code_15 : decode jdk_52_method_3_code 15 = .ok (.if_icmp .lt 40, 3) := by decide +kernel
theorem d_jdk_52_method_3_code_55 : decode jdk_52_method_3_code 55 = .ok (.iload_n 0, 1) := by decide +kernel
theorem d_jdk_52_method_3_code_56 : decode jdk_52_method_3_code 56 = .ok (.iconst 1, 1) := by decide +kernel
theorem d_jdk_52_method_3_code_57 : decode jdk_52_method_3_code 57 = .ok (.ishl, 1) := by decide +kernel
theorem d_jdk_52_method_3_code_58 : decode jdk_52_method_3_code 58 = .ok (.ireturn, 1) := by decide +kernel
set_option maxRecDepth 65536 in
set_option maxHeartbeats 40000000 in
theorem rm_nbl {l : Launch} {Z : State} {a0 : Array Value} (G : Cl Z a0) (n : Nat) (hn : n < 65536) :
    Met l Z EL1 (⟨"java/lang/StringUTF16", "newBytesLength", "(I)I"⟩ : MethodName) jdk_52_method_3_code 1 (some .int) ({ frames := 0, cells := 0, slots := 0, locals := 0 } : Room) #[.int n.toInt32] [] [] (fun v σ ρ => v = some (.int (2 * n).toInt32) ∧ σ = [] ∧ ρ = []) := by
  refine Met.walk G.2.1 pn_0 #[.val (.int n.toInt32)] (fun m => by first | (simp [entryFrame, mkF, argsToLocals, Value.category]; done) | rfl) ?_
  intro X T0 W0
  refine Go.iloadN (pc' := 1) W0 d_jdk_52_method_3_code_0 rfl rfl ?_
  refine Go.if_ge (pc' := 4) W0 12 d_jdk_52_method_3_code_1 (by decide) rfl (fun _ => ?_) (fun q => absurd q (i32_nn (by omega)))
  refine Go.iloadN (pc' := 13) W0 d_jdk_52_method_3_code_12 rfl rfl ?_
  refine Go.ldcInt (pc' := 15) W0 (w_87 G) d_jdk_52_method_3_code_13 rfl ?_
  refine Go.icmp_lt (pc' := 18) W0 55 d_jdk_52_method_3_code_15 (by decide) rfl (fun _ => ?_) (fun q => absurd (i32_big hn) q)
  refine Go.iloadN (pc' := 56) W0 d_jdk_52_method_3_code_55 rfl rfl ?_
  refine Go.iconst (pc' := 57) W0 (1 : Int32) d_jdk_52_method_3_code_56 (by decide) rfl ?_
  refine Go.ishl (pc' := 58) W0 d_jdk_52_method_3_code_57 rfl ?_
  refine Go.iret W0 d_jdk_52_method_3_code_58 (by first | exact Nat.le_of_ble_eq_true rfl | (simp; done) | (simp; omega) | omega) (by first | exact Nat.le_of_ble_eq_true rfl | (simp; done) | (simp; omega) | omega) ?_
  exact ⟨by rw [shl1 (by omega)], rfl, rfl⟩
theorem d_jdk_52_method_2_code_0 : decode jdk_52_method_2_code 0 = .ok (.iload_n 0, 1) := by decide +kernel
theorem d_jdk_52_method_2_code_1 : decode jdk_52_method_2_code 1 = .ok (.invokestatic 11, 3) := by decide +kernel
theorem w_84 {Z : State} {a0 : Array Value} (G : Cl Z a0) : (Jvm.Cond.methodLink "java/lang/StringUTF16" 11 (⟨"java/lang/StringUTF16", "newBytesLength", "(I)I"⟩ : MethodName)).before a0 Z = true := G.1 _ (List.mem_of_getElem? (l := tables_1) (i := 84) rfl)
theorem w_44 {Z : State} {a0 : Array Value} (G : Cl Z a0) : (Jvm.Cond.initialized "java/lang/StringUTF16").before a0 Z = true := G.1 _ (List.mem_of_getElem? (l := tables_1) (i := 44) rfl)
theorem w_86 {Z : State} {a0 : Array Value} (G : Cl Z a0) : (Jvm.Cond.code (⟨"java/lang/StringUTF16", "newBytesLength", "(I)I"⟩ : MethodName) jdk_52_method_3_code 1 (some .int)).before a0 Z = true := G.1 _ (List.mem_of_getElem? (l := tables_1) (i := 86) rfl)
theorem pd_1 : parseMethodDescriptor "(I)I" = some ⟨[.int], some .int⟩ := by decide +kernel
theorem w_85 {Z : State} {a0 : Array Value} (G : Cl Z a0) : (Jvm.Cond.static (⟨"java/lang/StringUTF16", "newBytesLength", "(I)I"⟩ : MethodName)).before a0 Z = true := G.1 _ (List.mem_of_getElem? (l := tables_1) (i := 85) rfl)
theorem d_jdk_52_method_2_code_4 : decode jdk_52_method_2_code 4 = .ok (.newarray .byte, 2) := by decide +kernel
theorem w_20 {Z : State} {a0 : Array Value} (G : Cl Z a0) : (Jvm.Cond.arrayClass .byte).before a0 Z = true := G.1 _ (List.mem_of_getElem? (l := tables_1) (i := 20) rfl)
theorem d_jdk_52_method_2_code_6 : decode jdk_52_method_2_code 6 = .ok (.areturn, 1) := by decide +kernel
set_option maxRecDepth 65536 in
set_option maxHeartbeats 40000000 in
theorem rm_nbf {l : Launch} {Z : State} {a0 : Array Value} (G : Cl Z a0) (n : Nat) (hn : n < 65536) :
    Met l Z EL1 (⟨"java/lang/StringUTF16", "newBytesFor", "(I)[B"⟩ : MethodName) jdk_52_method_2_code 1 (some (.array .byte)) ({ frames := 1, cells := 1, slots := 2 * n, locals := 12 } : Room) #[.int n.toInt32] [] [] (fun v σ ρ => ∃ b cb, v = some (.ref b) ∧ σ = [(b, cb)] ∧ ρ = [] ∧ ArrC Z cb .byte (List.replicate (2 * n) (.int 0))) := by
  refine Met.walk G.2.1 pn_0 #[.val (.int n.toInt32)] (fun m => by first | (simp [entryFrame, mkF, argsToLocals, Value.category]; done) | rfl) ?_
  intro X T0 W0
  refine Go.iloadN (pc' := 1) W0 d_jdk_52_method_2_code_0 rfl rfl ?_
  refine Go.static (pc' := 4) W0 (rm_nbl G n hn) (w_84 G) (w_85 G) (w_44 G) (w_86 G) (by decide) [] [] (σf := []) rfl rfl [(.int n.toInt32)] [] rfl (lenOf pd_1 rfl) rfl rfl d_jdk_52_method_2_code_1 rfl (by first | exact Nat.le_of_ble_eq_true rfl | (simp; done) | (simp; omega) | omega) (by first | exact Nat.le_of_ble_eq_true rfl | (simp; done) | (simp; omega) | omega) (by first | exact Nat.le_of_ble_eq_true rfl | (simp; done) | (simp; omega) | omega) (by first | exact Nat.le_of_ble_eq_true rfl | (simp; done) | (simp; omega) | omega) ?_
  rintro _ _ _ T1 ⟨rfl, rfl, rfl⟩ W2
  replace W2 : Wk l Z EL1 ({ frames := 1, cells := 1, slots := 2 * n, locals := 12 } : Room) "java/lang/StringUTF16" jdk_52_method_2_code 1 (some (.array .byte)) "newBytesFor" X [] [] T1 0 (0) := W2
  show Go Z EL1 _ _ _ X T1 4 #[.val (.int n.toInt32)] [(.int ((2 * n).toInt32))]
  refine Go.newarr (pc' := 6) W2 .byte rfl (2 * n) (w_20 G) d_jdk_52_method_2_code_4 rfl (i32_nn (by omega)) (i32_clamp (by omega)) (by omega) (by first | exact Nat.le_of_ble_eq_true rfl | (simp; done) | (simp; omega) | omega) (by first | exact Nat.le_of_ble_eq_true rfl | (simp; done) | (simp; omega) | omega) (fun T3 b cb W4 B => ?_)
  refine Go.aret W4 rfl rfl d_jdk_52_method_2_code_6 (by first | exact Nat.le_of_ble_eq_true rfl | (simp; done) | (simp; omega) | omega) (by first | exact Nat.le_of_ble_eq_true rfl | (simp; done) | (simp; omega) | omega) ?_
  exact ⟨b, cb, rfl, rfl, rfl, B⟩
theorem d_jdk_52_method_4_code_0 : decode jdk_52_method_4_code 0 = .ok (.getstatic 44, 3) := by decide +kernel
theorem w_91 {Z : State} {a0 : Array Value} (G : Cl Z a0) : (Jvm.Cond.fieldLink "java/lang/StringUTF16" 44 "java/lang/StringUTF16" "$assertionsDisabled" "Z").before a0 Z = true := G.1 _ (List.mem_of_getElem? (l := tables_1) (i := 91) rfl)
theorem d_jdk_52_method_4_code_3 : decode jdk_52_method_4_code 3 = .ok (.ifCond .ne 25, 3) := by decide +kernel
theorem d_jdk_52_method_4_code_28 : decode jdk_52_method_4_code 28 = .ok (.iload_n 1, 1) := by decide +kernel
theorem d_jdk_52_method_4_code_29 : decode jdk_52_method_4_code 29 = .ok (.iconst 1, 1) := by decide +kernel
theorem d_jdk_52_method_4_code_30 : decode jdk_52_method_4_code 30 = .ok (.ishl, 1) := by decide +kernel
theorem d_jdk_52_method_4_code_31 : decode jdk_52_method_4_code 31 = .ok (.istore_n 1, 1) := by decide +kernel
theorem d_jdk_52_method_4_code_32 : decode jdk_52_method_4_code 32 = .ok (.aload_n 0, 1) := by decide +kernel
theorem d_jdk_52_method_4_code_33 : decode jdk_52_method_4_code 33 = .ok (.iload_n 1, 1) := by decide +kernel
theorem d_jdk_52_method_4_code_34 : decode jdk_52_method_4_code 34 = .ok (.iinc 1 1, 3) := by decide +kernel
theorem d_jdk_52_method_4_code_37 : decode jdk_52_method_4_code 37 = .ok (.iload_n 2, 1) := by decide +kernel
theorem d_jdk_52_method_4_code_38 : decode jdk_52_method_4_code 38 = .ok (.getstatic 59, 3) := by decide +kernel
theorem w_92 {Z : State} {a0 : Array Value} (G : Cl Z a0) : (Jvm.Cond.fieldLink "java/lang/StringUTF16" 59 "java/lang/StringUTF16" "HI_BYTE_SHIFT" "I").before a0 Z = true := G.1 _ (List.mem_of_getElem? (l := tables_1) (i := 92) rfl)
theorem d_jdk_52_method_4_code_41 : decode jdk_52_method_4_code 41 = .ok (.ishr, 1) := by decide +kernel
theorem d_jdk_52_method_4_code_42 : decode jdk_52_method_4_code 42 = .ok (.i2b, 1) := by decide +kernel
theorem d_jdk_52_method_4_code_43 : decode jdk_52_method_4_code 43 = .ok (.bastore, 1) := by decide +kernel
theorem d_jdk_52_method_4_code_44 : decode jdk_52_method_4_code 44 = .ok (.aload_n 0, 1) := by decide +kernel
theorem d_jdk_52_method_4_code_45 : decode jdk_52_method_4_code 45 = .ok (.iload_n 1, 1) := by decide +kernel
theorem d_jdk_52_method_4_code_46 : decode jdk_52_method_4_code 46 = .ok (.iload_n 2, 1) := by decide +kernel
theorem d_jdk_52_method_4_code_47 : decode jdk_52_method_4_code 47 = .ok (.getstatic 63, 3) := by decide +kernel
theorem w_93 {Z : State} {a0 : Array Value} (G : Cl Z a0) : (Jvm.Cond.fieldLink "java/lang/StringUTF16" 63 "java/lang/StringUTF16" "LO_BYTE_SHIFT" "I").before a0 Z = true := G.1 _ (List.mem_of_getElem? (l := tables_1) (i := 93) rfl)
theorem d_jdk_52_method_4_code_50 : decode jdk_52_method_4_code 50 = .ok (.ishr, 1) := by decide +kernel
theorem d_jdk_52_method_4_code_51 : decode jdk_52_method_4_code 51 = .ok (.i2b, 1) := by decide +kernel
theorem d_jdk_52_method_4_code_52 : decode jdk_52_method_4_code 52 = .ok (.bastore, 1) := by decide +kernel
theorem d_jdk_52_method_4_code_53 : decode jdk_52_method_4_code 53 = .ok (.return_, 1) := by decide +kernel
set_option maxRecDepth 65536 in
set_option maxHeartbeats 40000000 in
theorem rm_put {l : Launch} {Z : State} {a0 : Array Value} (G : Cl Z a0) (b : Addr) (cb : Cell) (vs : List Value) (i : Nat) (x : Int32) (B : ArrC Z cb .byte vs) (hi : 2 * i + 1 < vs.length) :
    Met l Z EL1 (⟨"java/lang/StringUTF16", "putChar", "([BII)V"⟩ : MethodName) jdk_52_method_4_code 3 none ({ frames := 0, cells := 0, slots := 0, locals := 0 } : Room) #[.ref b, .int i.toInt32, .int x] [(b, cb)] [] (fun v σ ρ => ∃ cb', v = none ∧ σ = [(b, cb')] ∧ ρ = [] ∧ ArrC Z cb' .byte ((vs.set (2 * i) (lo8 x)).set (2 * i + 1) (hi8 x))) := by
  refine Met.walk G.2.1 pn_0 #[.val (.ref b), .val (.int i.toInt32), .val (.int x)] (fun m => by first | (simp [entryFrame, mkF, argsToLocals, Value.category]; done) | rfl) ?_
  intro X T0 W0
  have hn := B.2.2.2.2
  refine Go.getstatic (pc' := 3) W0 (w_91 G) Via.refl G.2.2.2.2.1 d_jdk_52_method_4_code_0 rfl (fun T1 W2 => ?_)
  refine Go.if_ne (pc' := 6) W2 28 d_jdk_52_method_4_code_3 (by decide) rfl (fun _ => ?_) (fun q => absurd q (by decide))
  refine Go.iloadN (pc' := 29) W2 d_jdk_52_method_4_code_28 rfl rfl ?_
  refine Go.iconst (pc' := 30) W2 (1 : Int32) d_jdk_52_method_4_code_29 (by decide) rfl ?_
  refine Go.ishl (pc' := 31) W2 d_jdk_52_method_4_code_30 rfl ?_
  rw [shl1 (by omega)]
  refine Go.istoreN (pc' := 32) W2 #[.val (.ref b), .val (.int ((2 * i).toInt32)), .val (.int x)] d_jdk_52_method_4_code_31 rfl rfl ?_
  refine Go.aloadN (pc' := 33) W2 d_jdk_52_method_4_code_32 rfl rfl rfl ?_
  refine Go.iloadN (pc' := 34) W2 d_jdk_52_method_4_code_33 rfl rfl ?_
  refine Go.iinc (pc' := 37) W2 (1 : Int32) #[.val (.ref b), .val (.int (((2 * i).toInt32) + (1 : Int32))), .val (.int x)] d_jdk_52_method_4_code_34 rfl (by decide) rfl rfl ?_
  rw [i32_succ (by omega)]
  refine Go.iloadN (pc' := 38) W2 d_jdk_52_method_4_code_37 rfl rfl ?_
  refine Go.getstatic (pc' := 41) W2 (w_92 G) Via.refl G.2.2.2.2.2.1 d_jdk_52_method_4_code_38 rfl (fun T3 W4 => ?_)
  refine Go.ishr (pc' := 42) W4 d_jdk_52_method_4_code_41 rfl ?_
  refine Go.i2b (pc' := 43) W4 d_jdk_52_method_4_code_42 rfl ?_
  refine Go.bastore (pc' := 44) W4 0 rfl B (2 * i) (i32_nn (by omega)) (i32_clamp (by omega)) (by first | omega | (simp; omega)) d_jdk_52_method_4_code_43 rfl (fun T5 c7 W6 A8 => ?_)
  rw [i8_i8, shr0] at A8
  replace W6 : Wk l Z EL1 ({ frames := 0, cells := 0, slots := 0, locals := 0 } : Room) "java/lang/StringUTF16" jdk_52_method_4_code 3 none "putChar" X [(b, c7)] [] T5 0 (0) := W6
  refine Go.aloadN (pc' := 45) W6 d_jdk_52_method_4_code_44 rfl rfl rfl ?_
  refine Go.iloadN (pc' := 46) W6 d_jdk_52_method_4_code_45 rfl rfl ?_
  refine Go.iloadN (pc' := 47) W6 d_jdk_52_method_4_code_46 rfl rfl ?_
  refine Go.getstatic (pc' := 50) W6 (w_93 G) Via.refl G.2.2.2.2.2.2 d_jdk_52_method_4_code_47 rfl (fun T9 W10 => ?_)
  refine Go.ishr (pc' := 51) W10 d_jdk_52_method_4_code_50 rfl ?_
  refine Go.i2b (pc' := 52) W10 d_jdk_52_method_4_code_51 rfl ?_
  refine Go.bastore (pc' := 53) W10 0 rfl A8 (2 * i + 1) (i32_nn (by omega)) (i32_clamp (by omega)) (by first | omega | (simp; omega)) d_jdk_52_method_4_code_52 rfl (fun T11 c13 W12 A14 => ?_)
  rw [i8_i8] at A14
  replace W12 : Wk l Z EL1 ({ frames := 0, cells := 0, slots := 0, locals := 0 } : Room) "java/lang/StringUTF16" jdk_52_method_4_code 3 none "putChar" X [(b, c13)] [] T11 0 (0) := W12
  refine Go.retV W12 d_jdk_52_method_4_code_53 (by first | exact Nat.le_of_ble_eq_true rfl | (simp; done) | (simp; omega) | omega) (by first | exact Nat.le_of_ble_eq_true rfl | (simp; done) | (simp; omega) | omega) ?_
  exact ⟨_, rfl, rfl, rfl, A14⟩
theorem d_jdk_52_method_5_code_0 : decode jdk_52_method_5_code 0 = .ok (.getstatic 44, 3) := by decide +kernel
theorem d_jdk_52_method_5_code_3 : decode jdk_52_method_5_code 3 = .ok (.ifCond .ne 25, 3) := by decide +kernel
theorem d_jdk_52_method_5_code_28 : decode jdk_52_method_5_code 28 = .ok (.iload_n 1, 1) := by decide +kernel
theorem d_jdk_52_method_5_code_29 : decode jdk_52_method_5_code 29 = .ok (.iconst 1, 1) := by decide +kernel
theorem d_jdk_52_method_5_code_30 : decode jdk_52_method_5_code 30 = .ok (.ishl, 1) := by decide +kernel
theorem d_jdk_52_method_5_code_31 : decode jdk_52_method_5_code 31 = .ok (.istore_n 1, 1) := by decide +kernel
theorem d_jdk_52_method_5_code_32 : decode jdk_52_method_5_code 32 = .ok (.aload_n 0, 1) := by decide +kernel
theorem d_jdk_52_method_5_code_33 : decode jdk_52_method_5_code 33 = .ok (.iload_n 1, 1) := by decide +kernel
theorem d_jdk_52_method_5_code_34 : decode jdk_52_method_5_code 34 = .ok (.iinc 1 1, 3) := by decide +kernel
theorem d_jdk_52_method_5_code_37 : decode jdk_52_method_5_code 37 = .ok (.baload, 1) := by decide +kernel
theorem d_jdk_52_method_5_code_38 : decode jdk_52_method_5_code 38 = .ok (.sipush 255, 3) := by decide +kernel
theorem d_jdk_52_method_5_code_41 : decode jdk_52_method_5_code 41 = .ok (.iand, 1) := by decide +kernel
theorem d_jdk_52_method_5_code_42 : decode jdk_52_method_5_code 42 = .ok (.getstatic 59, 3) := by decide +kernel
theorem d_jdk_52_method_5_code_45 : decode jdk_52_method_5_code 45 = .ok (.ishl, 1) := by decide +kernel
theorem d_jdk_52_method_5_code_46 : decode jdk_52_method_5_code 46 = .ok (.aload_n 0, 1) := by decide +kernel
theorem d_jdk_52_method_5_code_47 : decode jdk_52_method_5_code 47 = .ok (.iload_n 1, 1) := by decide +kernel
theorem d_jdk_52_method_5_code_48 : decode jdk_52_method_5_code 48 = .ok (.baload, 1) := by decide +kernel
theorem d_jdk_52_method_5_code_49 : decode jdk_52_method_5_code 49 = .ok (.sipush 255, 3) := by decide +kernel
theorem d_jdk_52_method_5_code_52 : decode jdk_52_method_5_code 52 = .ok (.iand, 1) := by decide +kernel
theorem d_jdk_52_method_5_code_53 : decode jdk_52_method_5_code 53 = .ok (.getstatic 63, 3) := by decide +kernel
theorem d_jdk_52_method_5_code_56 : decode jdk_52_method_5_code 56 = .ok (.ishl, 1) := by decide +kernel
theorem d_jdk_52_method_5_code_57 : decode jdk_52_method_5_code 57 = .ok (.ior, 1) := by decide +kernel
theorem d_jdk_52_method_5_code_58 : decode jdk_52_method_5_code 58 = .ok (.i2c, 1) := by decide +kernel
theorem d_jdk_52_method_5_code_59 : decode jdk_52_method_5_code 59 = .ok (.ireturn, 1) := by decide +kernel
set_option maxRecDepth 65536 in
set_option maxHeartbeats 40000000 in
theorem rm_get {l : Launch} {Z : State} {a0 : Array Value} (G : Cl Z a0) (b : Addr) (cb : Cell) (cs : List Int32) (i : Nat) (x : Int32) (B : ArrC Z cb .byte (utfB cs)) (hL : ¬ x < 0 ∧ ¬ (65535 : Int32) < x) (hx : cs[i]? = some x) :
    Met l Z EL1 (⟨"java/lang/StringUTF16", "getChar", "([BI)C"⟩ : MethodName) jdk_52_method_5_code 2 (some .char) ({ frames := 0, cells := 0, slots := 0, locals := 0 } : Room) #[.ref b, .int i.toInt32] [(b, cb)] [] (fun v σ ρ => v = some (.int x) ∧ σ = [(b, cb)] ∧ ρ = []) := by
  refine Met.walk G.2.1 pn_0 #[.val (.ref b), .val (.int i.toInt32)] (fun m => by first | (simp [entryFrame, mkF, argsToLocals, Value.category]; done) | rfl) ?_
  intro X T0 W0
  have hi := (List.getElem?_eq_some_iff.mp hx).1
  have hn := B.2.2.2.2
  rw [utfB_len] at hn
  refine Go.getstatic (pc' := 3) W0 (w_91 G) Via.refl G.2.2.2.2.1 d_jdk_52_method_5_code_0 rfl (fun T1 W2 => ?_)
  refine Go.if_ne (pc' := 6) W2 28 d_jdk_52_method_5_code_3 (by decide) rfl (fun _ => ?_) (fun q => absurd q (by decide))
  refine Go.iloadN (pc' := 29) W2 d_jdk_52_method_5_code_28 rfl rfl ?_
  refine Go.iconst (pc' := 30) W2 (1 : Int32) d_jdk_52_method_5_code_29 (by decide) rfl ?_
  refine Go.ishl (pc' := 31) W2 d_jdk_52_method_5_code_30 rfl ?_
  rw [shl1 (by omega)]
  refine Go.istoreN (pc' := 32) W2 #[.val (.ref b), .val (.int ((2 * i).toInt32))] d_jdk_52_method_5_code_31 rfl rfl ?_
  refine Go.aloadN (pc' := 33) W2 d_jdk_52_method_5_code_32 rfl rfl rfl ?_
  refine Go.iloadN (pc' := 34) W2 d_jdk_52_method_5_code_33 rfl rfl ?_
  refine Go.iinc (pc' := 37) W2 (1 : Int32) #[.val (.ref b), .val (.int (((2 * i).toInt32) + (1 : Int32)))] d_jdk_52_method_5_code_34 rfl (by decide) rfl rfl ?_
  rw [i32_succ (by omega)]
  refine Go.baload (pc' := 38) W2 (Or.inl (List.mem_of_getElem? (i := 0) rfl)) B (2 * i) (i32_nn (by omega)) (i32_clamp (by omega)) (v := lo8 x) (utfB_get hx).1 d_jdk_52_method_5_code_37 rfl ?_
  refine Go.sipush (pc' := 41) W2 (255 : Int32) d_jdk_52_method_5_code_38 (by decide) rfl ?_
  refine Go.iand (pc' := 42) W2 d_jdk_52_method_5_code_41 rfl ?_
  refine Go.getstatic (pc' := 45) W2 (w_92 G) Via.refl G.2.2.2.2.2.1 d_jdk_52_method_5_code_42 rfl (fun T3 W4 => ?_)
  refine Go.ishl (pc' := 46) W4 d_jdk_52_method_5_code_45 rfl ?_
  refine Go.aloadN (pc' := 47) W4 d_jdk_52_method_5_code_46 rfl rfl rfl ?_
  refine Go.iloadN (pc' := 48) W4 d_jdk_52_method_5_code_47 rfl rfl ?_
  refine Go.baload (pc' := 49) W4 (Or.inl (List.mem_of_getElem? (i := 0) rfl)) B (2 * i + 1) (i32_nn (by omega)) (i32_clamp (by omega)) (v := hi8 x) (utfB_get hx).2 d_jdk_52_method_5_code_48 rfl ?_
  refine Go.sipush (pc' := 52) W4 (255 : Int32) d_jdk_52_method_5_code_49 (by decide) rfl ?_
  refine Go.iand (pc' := 53) W4 d_jdk_52_method_5_code_52 rfl ?_
  refine Go.getstatic (pc' := 56) W4 (w_93 G) Via.refl G.2.2.2.2.2.2 d_jdk_52_method_5_code_53 rfl (fun T5 W6 => ?_)
  refine Go.ishl (pc' := 57) W6 d_jdk_52_method_5_code_56 rfl ?_
  refine Go.ior (pc' := 58) W6 d_jdk_52_method_5_code_57 rfl ?_
  refine Go.i2c (pc' := 59) W6 d_jdk_52_method_5_code_58 rfl ?_
  refine Go.nret (z' := x) W6 (by simp) (by rw [getch hL, i2c_id hL.1 hL.2, nar_char_id hL]) d_jdk_52_method_5_code_59 (by first | exact Nat.le_of_ble_eq_true rfl | (simp; done) | (simp; omega) | omega) (by first | exact Nat.le_of_ble_eq_true rfl | (simp; done) | (simp; omega) | omega) ?_
  exact ⟨rfl, rfl, rfl⟩
set_option maxRecDepth 65536 in
set_option maxHeartbeats 40000000 in
theorem rm_getR {l : Launch} {Z : State} {a0 : Array Value} (G : Cl Z a0) (b : Addr) (cb : Cell) (cs : List Int32) (i : Nat) (x : Int32) (B : ArrC Z cb .byte (utfB cs)) (hL : ¬ x < 0 ∧ ¬ (65535 : Int32) < x) (hx : cs[i]? = some x) :
    Met l Z EL1 (⟨"java/lang/StringUTF16", "getChar", "([BI)C"⟩ : MethodName) jdk_52_method_5_code 2 (some .char) ({ frames := 0, cells := 0, slots := 0, locals := 0 } : Room) #[.ref b, .int i.toInt32] [] [(b, cb)] (fun v σ ρ => v = some (.int x) ∧ σ = [] ∧ ρ = []) := by
  refine Met.walk G.2.1 pn_0 #[.val (.ref b), .val (.int i.toInt32)] (fun m => by first | (simp [entryFrame, mkF, argsToLocals, Value.category]; done) | rfl) ?_
  intro X T0 W0
  have hi := (List.getElem?_eq_some_iff.mp hx).1
  have hn := B.2.2.2.2
  rw [utfB_len] at hn
  refine Go.getstatic (pc' := 3) W0 (w_91 G) Via.refl G.2.2.2.2.1 d_jdk_52_method_5_code_0 rfl (fun T1 W2 => ?_)
  refine Go.if_ne (pc' := 6) W2 28 d_jdk_52_method_5_code_3 (by decide) rfl (fun _ => ?_) (fun q => absurd q (by decide))
  refine Go.iloadN (pc' := 29) W2 d_jdk_52_method_5_code_28 rfl rfl ?_
  refine Go.iconst (pc' := 30) W2 (1 : Int32) d_jdk_52_method_5_code_29 (by decide) rfl ?_
  refine Go.ishl (pc' := 31) W2 d_jdk_52_method_5_code_30 rfl ?_
  rw [shl1 (by omega)]
  refine Go.istoreN (pc' := 32) W2 #[.val (.ref b), .val (.int ((2 * i).toInt32))] d_jdk_52_method_5_code_31 rfl rfl ?_
  refine Go.aloadN (pc' := 33) W2 d_jdk_52_method_5_code_32 rfl rfl rfl ?_
  refine Go.iloadN (pc' := 34) W2 d_jdk_52_method_5_code_33 rfl rfl ?_
  refine Go.iinc (pc' := 37) W2 (1 : Int32) #[.val (.ref b), .val (.int (((2 * i).toInt32) + (1 : Int32)))] d_jdk_52_method_5_code_34 rfl (by decide) rfl rfl ?_
  rw [i32_succ (by omega)]
  refine Go.baload (pc' := 38) W2 (Or.inr (Or.inl (List.mem_of_getElem? (i := 0) rfl))) B (2 * i) (i32_nn (by omega)) (i32_clamp (by omega)) (v := lo8 x) (utfB_get hx).1 d_jdk_52_method_5_code_37 rfl ?_
  refine Go.sipush (pc' := 41) W2 (255 : Int32) d_jdk_52_method_5_code_38 (by decide) rfl ?_
  refine Go.iand (pc' := 42) W2 d_jdk_52_method_5_code_41 rfl ?_
  refine Go.getstatic (pc' := 45) W2 (w_92 G) Via.refl G.2.2.2.2.2.1 d_jdk_52_method_5_code_42 rfl (fun T3 W4 => ?_)
  refine Go.ishl (pc' := 46) W4 d_jdk_52_method_5_code_45 rfl ?_
  refine Go.aloadN (pc' := 47) W4 d_jdk_52_method_5_code_46 rfl rfl rfl ?_
  refine Go.iloadN (pc' := 48) W4 d_jdk_52_method_5_code_47 rfl rfl ?_
  refine Go.baload (pc' := 49) W4 (Or.inr (Or.inl (List.mem_of_getElem? (i := 0) rfl))) B (2 * i + 1) (i32_nn (by omega)) (i32_clamp (by omega)) (v := hi8 x) (utfB_get hx).2 d_jdk_52_method_5_code_48 rfl ?_
  refine Go.sipush (pc' := 52) W4 (255 : Int32) d_jdk_52_method_5_code_49 (by decide) rfl ?_
  refine Go.iand (pc' := 53) W4 d_jdk_52_method_5_code_52 rfl ?_
  refine Go.getstatic (pc' := 56) W4 (w_93 G) Via.refl G.2.2.2.2.2.2 d_jdk_52_method_5_code_53 rfl (fun T5 W6 => ?_)
  refine Go.ishl (pc' := 57) W6 d_jdk_52_method_5_code_56 rfl ?_
  refine Go.ior (pc' := 58) W6 d_jdk_52_method_5_code_57 rfl ?_
  refine Go.i2c (pc' := 59) W6 d_jdk_52_method_5_code_58 rfl ?_
  have W7 := W6.keepRo [] (ρ' := []) rfl
  replace W7 : Wk l Z EL1 ({ frames := 0, cells := 0, slots := 0, locals := 0 } : Room) "java/lang/StringUTF16" jdk_52_method_5_code 2 (some .char) "getChar" X [] [] T5 0 (0) := W7
  refine Go.nret (z' := x) W7 (by simp) (by rw [getch hL, i2c_id hL.1 hL.2, nar_char_id hL]) d_jdk_52_method_5_code_59 (by first | exact Nat.le_of_ble_eq_true rfl | (simp; done) | (simp; omega) | omega) (by first | exact Nat.le_of_ble_eq_true rfl | (simp; done) | (simp; omega) | omega) ?_
  exact ⟨rfl, rfl, rfl⟩
theorem d_jdk_52_method_14_code_0 : decode jdk_52_method_14_code 0 = .ok (.iload_n 2, 1) := by decide +kernel
theorem d_jdk_52_method_14_code_1 : decode jdk_52_method_14_code 1 = .ok (.invokestatic 107, 3) := by decide +kernel
theorem d_jdk_52_method_14_code_4 : decode jdk_52_method_14_code 4 = .ok (.astore_n 3, 1) := by decide +kernel
theorem d_jdk_52_method_14_code_5 : decode jdk_52_method_14_code 5 = .ok (.iconst 0, 1) := by decide +kernel
theorem d_jdk_52_method_14_code_6 : decode jdk_52_method_14_code 6 = .ok (.istore 4, 2) := by decide +kernel
theorem d_jdk_52_method_14_code_8 : decode jdk_52_method_14_code 8 = .ok (.iload 4, 2) := by decide +kernel
theorem d_jdk_52_method_14_code_10 : decode jdk_52_method_14_code 10 = .ok (.iload_n 2, 1) := by decide +kernel
theorem d_jdk_52_method_14_code_11 : decode jdk_52_method_14_code 11 = .ok (.if_icmp .ge 21, 3) := by decide +kernel
theorem d_jdk_52_method_14_code_14 : decode jdk_52_method_14_code 14 = .ok (.aload_n 3, 1) := by decide +kernel
theorem d_jdk_52_method_14_code_15 : decode jdk_52_method_14_code 15 = .ok (.iload 4, 2) := by decide +kernel
theorem d_jdk_52_method_14_code_17 : decode jdk_52_method_14_code 17 = .ok (.aload_n 0, 1) := by decide +kernel
theorem d_jdk_52_method_14_code_18 : decode jdk_52_method_14_code 18 = .ok (.iload_n 1, 1) := by decide +kernel
theorem d_jdk_52_method_14_code_19 : decode jdk_52_method_14_code 19 = .ok (.caload, 1) := by decide +kernel
theorem d_jdk_52_method_14_code_20 : decode jdk_52_method_14_code 20 = .ok (.invokestatic 111, 3) := by decide +kernel
theorem d_jdk_52_method_14_code_23 : decode jdk_52_method_14_code 23 = .ok (.iinc 1 1, 3) := by decide +kernel
theorem d_jdk_52_method_14_code_26 : decode jdk_52_method_14_code 26 = .ok (.iinc 4 1, 3) := by decide +kernel
theorem d_jdk_52_method_14_code_29 : decode jdk_52_method_14_code 29 = .ok (.goto (-21), 3) := by decide +kernel
theorem d_jdk_52_method_14_code_32 : decode jdk_52_method_14_code 32 = .ok (.aload_n 3, 1) := by decide +kernel
theorem d_jdk_52_method_14_code_33 : decode jdk_52_method_14_code 33 = .ok (.areturn, 1) := by decide +kernel
theorem w_88 {Z : State} {a0 : Array Value} (G : Cl Z a0) : (Jvm.Cond.methodLink "java/lang/StringUTF16" 111 (⟨"java/lang/StringUTF16", "putChar", "([BII)V"⟩ : MethodName)).before a0 Z = true := G.1 _ (List.mem_of_getElem? (l := tables_1) (i := 88) rfl)
theorem w_89 {Z : State} {a0 : Array Value} (G : Cl Z a0) : (Jvm.Cond.static (⟨"java/lang/StringUTF16", "putChar", "([BII)V"⟩ : MethodName)).before a0 Z = true := G.1 _ (List.mem_of_getElem? (l := tables_1) (i := 89) rfl)
theorem w_90 {Z : State} {a0 : Array Value} (G : Cl Z a0) : (Jvm.Cond.code (⟨"java/lang/StringUTF16", "putChar", "([BII)V"⟩ : MethodName) jdk_52_method_4_code 3 none).before a0 Z = true := G.1 _ (List.mem_of_getElem? (l := tables_1) (i := 90) rfl)
theorem pd_2 : parseMethodDescriptor "([BII)V" = some ⟨[(.array .byte), .int, .int], none⟩ := by decide +kernel
theorem lp_tby {l : Launch} {Z : State} {a0 : Array Value} (G : Cl Z a0) {X : Ctx} {ac b : Addr} {cc : Cell} {cs : List Int32} (A : ArrC Z cc .char (chV cs)) (hn : cs.length < 65536) :
    ∀ (j i : Nat), i + j = cs.length → ∀ (T : State) (cb : Cell), Wk l Z EL1 ({ frames := 2, cells := 1, slots := 2 * cs.length, locals := 24 } : Room) "java/lang/StringUTF16" jdk_52_method_14_code 5 (some (.array .byte)) "toBytes" X [(ac, cc), (b, cb)] [] T 1 (2 * cs.length) → ArrC Z cb .byte (utfB (cs.take i) ++ List.replicate (2 * j) (.int 0)) →
      Go Z EL1 1 (2 * cs.length) (fun v σ ρ => ∃ b cb, v = some (.ref b) ∧ σ = [(ac, cc), (b, cb)] ∧ ρ = [] ∧ ArrC Z cb .byte (utfB cs)) X T 8 #[.val (.ref ac), .val (.int i.toInt32), .val (.int cs.length.toInt32), .val (.ref b), .val (.int i.toInt32)] []
  | 0, i, hij, T, cb, W, B => by
    obtain rfl : i = cs.length := by omega
    refine Go.iload (pc' := 10) W d_jdk_52_method_14_code_8 rfl rfl ?_
    refine Go.iloadN (pc' := 11) W d_jdk_52_method_14_code_10 rfl rfl ?_
    refine Go.icmp_ge (pc' := 14) W 32 d_jdk_52_method_14_code_11 (by decide) rfl (fun _ => ?_) (fun q => absurd q (by rw [i32_lt (by omega) (by omega)]; omega))
    refine Go.aloadN (pc' := 33) W d_jdk_52_method_14_code_32 rfl rfl rfl ?_
    exact Go.aret W rfl rfl d_jdk_52_method_14_code_33 (by first | exact Nat.le_of_ble_eq_true rfl | (simp; done) | (simp; omega) | omega) (by first | exact Nat.le_of_ble_eq_true rfl | (simp; done) | (simp; omega) | omega) ⟨b, cb, rfl, rfl, rfl, by simpa using B⟩
  | j + 1, i, hij, T, cb, W, B => by
    have hi : i < cs.length := by omega
    obtain ⟨x, hx⟩ : ∃ x, cs[i]? = some x := ⟨_, List.getElem?_eq_getElem hi⟩
    have hlen : 2 * i + 1 < (utfB (cs.take i) ++ List.replicate (2 * (j + 1)) (.int 0 : Value)).length := by rw [List.length_append, utfB_len, List.length_take, List.length_replicate]; omega
    refine Go.iload (pc' := 10) W d_jdk_52_method_14_code_8 rfl rfl ?_
    refine Go.iloadN (pc' := 11) W d_jdk_52_method_14_code_10 rfl rfl ?_
    refine Go.icmp_ge (pc' := 14) W 32 d_jdk_52_method_14_code_11 (by decide) rfl (fun q => absurd ((i32_lt (by omega) (by omega)).mpr hi) q) (fun _ => ?_)
    refine Go.aloadN (pc' := 15) W d_jdk_52_method_14_code_14 rfl rfl rfl ?_
    refine Go.iload (pc' := 17) W d_jdk_52_method_14_code_15 rfl rfl ?_
    refine Go.aloadN (pc' := 18) W d_jdk_52_method_14_code_17 rfl rfl rfl ?_
    refine Go.iloadN (pc' := 19) W d_jdk_52_method_14_code_18 rfl rfl ?_
    refine Go.caload (pc' := 20) W (Or.inl (List.mem_of_getElem? (i := 0) rfl)) A i (i32_nn (by omega)) (i32_clamp (by omega)) (v := .int x) (by rw [chV, List.getElem?_map, hx]; rfl) d_jdk_52_method_14_code_19 rfl ?_
    refine Go.static (pc' := 23) W (rm_put G b cb _ i x B hlen) (w_88 G) (w_89 G) (w_44 G) (w_90 G) (by decide) [1] [] (σf := [(ac, cc)]) rfl rfl [.ref b, .int i.toInt32, .int x] [] rfl (lenOf pd_2 rfl) rfl rfl d_jdk_52_method_14_code_20 rfl (by first | exact Nat.le_of_ble_eq_true rfl | (simp; done) | (simp; omega) | omega) (by first | exact Nat.le_of_ble_eq_true rfl | (simp; done) | (simp; omega) | omega) (by first | exact Nat.le_of_ble_eq_true rfl | (simp; done) | (simp; omega) | omega) (by first | exact Nat.le_of_ble_eq_true rfl | (simp; done) | (simp; omega) | omega) ?_
    rintro _ _ _ T2 ⟨cb2, rfl, rfl, rfl, B2⟩ W2
    rw [set2_next hx] at B2
    have W3 := W2.perm (σ' := [(ac, cc), (b, cb2)]) (List.Perm.swap _ _ _)
    refine Go.iinc (pc' := 26) W3 (1 : Int32) #[.val (.ref ac), .val (.int (i.toInt32 + 1)), .val (.int cs.length.toInt32), .val (.ref b), .val (.int i.toInt32)] d_jdk_52_method_14_code_23 rfl (by decide) rfl rfl ?_
    refine Go.iinc (pc' := 29) W3 (1 : Int32) #[.val (.ref ac), .val (.int (i.toInt32 + 1)), .val (.int cs.length.toInt32), .val (.ref b), .val (.int (i.toInt32 + 1))] d_jdk_52_method_14_code_26 rfl (by decide) rfl rfl ?_
    refine Go.goto W3 8 d_jdk_52_method_14_code_29 (by decide) ?_
    rw [i32_succ (by omega)]
    exact lp_tby G A hn j (i + 1) (by omega) T2 cb2 W3 B2
theorem w_81 {Z : State} {a0 : Array Value} (G : Cl Z a0) : (Jvm.Cond.methodLink "java/lang/StringUTF16" 107 (⟨"java/lang/StringUTF16", "newBytesFor", "(I)[B"⟩ : MethodName)).before a0 Z = true := G.1 _ (List.mem_of_getElem? (l := tables_1) (i := 81) rfl)
theorem w_82 {Z : State} {a0 : Array Value} (G : Cl Z a0) : (Jvm.Cond.static (⟨"java/lang/StringUTF16", "newBytesFor", "(I)[B"⟩ : MethodName)).before a0 Z = true := G.1 _ (List.mem_of_getElem? (l := tables_1) (i := 82) rfl)
theorem w_83 {Z : State} {a0 : Array Value} (G : Cl Z a0) : (Jvm.Cond.code (⟨"java/lang/StringUTF16", "newBytesFor", "(I)[B"⟩ : MethodName) jdk_52_method_2_code 1 (some (.array .byte))).before a0 Z = true := G.1 _ (List.mem_of_getElem? (l := tables_1) (i := 83) rfl)
theorem pd_3 : parseMethodDescriptor "(I)[B" = some ⟨[.int], some (.array .byte)⟩ := by decide +kernel
theorem rm_tby {l : Launch} {Z : State} {a0 : Array Value} (G : Cl Z a0) (ac : Addr) (cc : Cell) (cs : List Int32) (A : ArrC Z cc .char (chV cs)) (hn : cs.length < 65536) :
    Met l Z EL1 (⟨"java/lang/StringUTF16", "toBytes", "([CII)[B"⟩ : MethodName) jdk_52_method_14_code 5 (some (.array .byte)) ({ frames := 2, cells := 1, slots := 2 * cs.length, locals := 24 } : Room) #[.ref ac, .int 0, .int cs.length.toInt32] [(ac, cc)] [] (fun v σ ρ => ∃ b cb, v = some (.ref b) ∧ σ = [(ac, cc), (b, cb)] ∧ ρ = [] ∧ ArrC Z cb .byte (utfB cs)) := by
  refine Met.walk G.2.1 pn_0 #[.val (.ref ac), .val (.int 0), .val (.int cs.length.toInt32), .unset, .unset] (fun m => by first | (simp [entryFrame, mkF, argsToLocals, Value.category]; done) | rfl) ?_
  intro X T0 W0
  refine Go.iloadN (pc' := 1) W0 d_jdk_52_method_14_code_0 rfl rfl ?_
  refine Go.static (pc' := 4) W0 (rm_nbf G cs.length hn) (w_81 G) (w_82 G) (w_44 G) (w_83 G) (by decide) [] [] (σf := [(ac, cc)]) rfl rfl [.int cs.length.toInt32] [] rfl (lenOf pd_3 rfl) rfl rfl d_jdk_52_method_14_code_1 rfl (by first | exact Nat.le_of_ble_eq_true rfl | (simp; done) | (simp; omega) | omega) (by first | exact Nat.le_of_ble_eq_true rfl | (simp; done) | (simp; omega) | omega) (by first | exact Nat.le_of_ble_eq_true rfl | (simp; done) | (simp; omega) | omega) (by first | exact Nat.le_of_ble_eq_true rfl | (simp; done) | (simp; omega) | omega) ?_
  rintro _ _ _ T1 ⟨b, cb, rfl, rfl, rfl, B⟩ W1
  have W2 := W1.perm (σ' := [(ac, cc), (b, cb)]) (List.Perm.swap _ _ _)
  refine Go.astoreN (pc' := 5) W2 #[.val (.ref ac), .val (.int 0), .val (.int cs.length.toInt32), .val (.ref b), .unset] d_jdk_52_method_14_code_4 rfl rfl rfl ?_
  refine Go.iconst (pc' := 6) W2 (0 : Int32) d_jdk_52_method_14_code_5 (by decide) rfl ?_
  refine Go.istore (pc' := 8) W2 #[.val (.ref ac), .val (.int 0), .val (.int cs.length.toInt32), .val (.ref b), .val (.int 0)] d_jdk_52_method_14_code_6 rfl rfl ?_
  exact lp_tby G A hn cs.length 0 (by omega) T1 cb (W2.more (by first | exact Nat.le_of_ble_eq_true rfl | (simp; done) | (simp; omega) | omega) (by first | exact Nat.le_of_ble_eq_true rfl | (simp; done) | (simp; omega) | omega)) (by simpa [utfB] using B)
theorem d_jdk_52_method_21_code_0 : decode jdk_52_method_21_code 0 = .ok (.iconst 0, 1) := by decide +kernel
theorem d_jdk_52_method_21_code_1 : decode jdk_52_method_21_code 1 = .ok (.istore 5, 2) := by decide +kernel
theorem d_jdk_52_method_21_code_3 : decode jdk_52_method_21_code 3 = .ok (.iload 5, 2) := by decide +kernel
theorem d_jdk_52_method_21_code_5 : decode jdk_52_method_21_code 5 = .ok (.iload 4, 2) := by decide +kernel
theorem d_jdk_52_method_21_code_7 : decode jdk_52_method_21_code 7 = .ok (.if_icmp .ge 37, 3) := by decide +kernel
theorem d_jdk_52_method_21_code_10 : decode jdk_52_method_21_code 10 = .ok (.aload_n 0, 1) := by decide +kernel
theorem d_jdk_52_method_21_code_11 : decode jdk_52_method_21_code 11 = .ok (.iload_n 1, 1) := by decide +kernel
theorem d_jdk_52_method_21_code_12 : decode jdk_52_method_21_code 12 = .ok (.caload, 1) := by decide +kernel
theorem d_jdk_52_method_21_code_13 : decode jdk_52_method_21_code 13 = .ok (.istore 6, 2) := by decide +kernel
theorem d_jdk_52_method_21_code_15 : decode jdk_52_method_21_code 15 = .ok (.iload 6, 2) := by decide +kernel
theorem d_jdk_52_method_21_code_17 : decode jdk_52_method_21_code 17 = .ok (.sipush 255, 3) := by decide +kernel
theorem d_jdk_52_method_21_code_20 : decode jdk_52_method_21_code 20 = .ok (.if_icmp .le 6, 3) := by decide +kernel
theorem d_jdk_52_method_21_code_23 : decode jdk_52_method_21_code 23 = .ok (.iload 5, 2) := by decide +kernel
theorem d_jdk_52_method_21_code_25 : decode jdk_52_method_21_code 25 = .ok (.ireturn, 1) := by decide +kernel
theorem d_jdk_52_method_21_code_26 : decode jdk_52_method_21_code 26 = .ok (.aload_n 2, 1) := by decide +kernel
theorem d_jdk_52_method_21_code_27 : decode jdk_52_method_21_code 27 = .ok (.iload_n 3, 1) := by decide +kernel
theorem d_jdk_52_method_21_code_28 : decode jdk_52_method_21_code 28 = .ok (.iload 6, 2) := by decide +kernel
theorem d_jdk_52_method_21_code_30 : decode jdk_52_method_21_code 30 = .ok (.i2b, 1) := by decide +kernel
theorem d_jdk_52_method_21_code_31 : decode jdk_52_method_21_code 31 = .ok (.bastore, 1) := by decide +kernel
theorem d_jdk_52_method_21_code_32 : decode jdk_52_method_21_code 32 = .ok (.iinc 1 1, 3) := by decide +kernel
theorem d_jdk_52_method_21_code_35 : decode jdk_52_method_21_code 35 = .ok (.iinc 3 1, 3) := by decide +kernel
theorem d_jdk_52_method_21_code_38 : decode jdk_52_method_21_code 38 = .ok (.iinc 5 1, 3) := by decide +kernel
theorem d_jdk_52_method_21_code_41 : decode jdk_52_method_21_code 41 = .ok (.goto (-38), 3) := by decide +kernel
theorem d_jdk_52_method_21_code_44 : decode jdk_52_method_21_code 44 = .ok (.iload 4, 2) := by decide +kernel
theorem d_jdk_52_method_21_code_46 : decode jdk_52_method_21_code 46 = .ok (.ireturn, 1) := by decide +kernel
theorem lp_cmp5 {l : Launch} {Z : State} {X : Ctx} {ac b : Addr} {cc : Cell} {cs : List Int32} (A : ArrC Z cc .char (chV cs)) (hc : Chr cs) (hn : cs.length < 65536) :
    ∀ (j i : Nat), i + j = cs.length → Lat (cs.take i) → ∀ (o6 : Slot), One o6 → ∀ (T : State) (cb : Cell), Wk l Z EL1 ({ frames := 0, cells := 0, slots := 0, locals := 0 } : Room) "java/lang/StringUTF16" jdk_52_method_21_code 7 (some .int) "compress" X [(ac, cc), (b, cb)] [] T 0 0 → ArrC Z cb .byte (latB (cs.take i) ++ List.replicate j (.int 0)) →
      Go Z EL1 0 0 (fun v σ ρ => ∃ cb' k, v = some (.int k.toInt32) ∧ σ = [(ac, cc), (b, cb')] ∧ ρ = [] ∧ Upto cs k ∧ (k = cs.length → ArrC Z cb' .byte (latB cs))) X T 3 #[.val (.ref ac), .val (.int i.toInt32), .val (.ref b), .val (.int i.toInt32), .val (.int cs.length.toInt32), .val (.int i.toInt32), o6] []
  | 0, i, hij, hl, o6, ho, T, cb, W, B => by
    obtain rfl : i = cs.length := by omega
    rw [List.take_length] at hl
    refine Go.iload (pc' := 5) W d_jdk_52_method_21_code_3 rfl rfl ?_
    refine Go.iload (pc' := 7) W d_jdk_52_method_21_code_5 rfl rfl ?_
    refine Go.icmp_ge (pc' := 10) W 44 d_jdk_52_method_21_code_7 (by decide) rfl (fun _ => ?_) (fun q => absurd q (by rw [i32_lt (by omega) (by omega)]; omega))
    refine Go.iload (pc' := 46) W d_jdk_52_method_21_code_44 rfl rfl ?_
    exact Go.iret W d_jdk_52_method_21_code_46 (by decide) (by decide) ⟨cb, cs.length, rfl, rfl, rfl, Or.inl ⟨rfl, hl⟩, fun _ => by simpa using B⟩
  | j + 1, i, hij, hl, o6, ho, T, cb, W, B => by
    have hi : i < cs.length := by omega
    obtain ⟨x, hx⟩ : ∃ x, cs[i]? = some x := ⟨_, List.getElem?_eq_getElem hi⟩
    have hC := hc x (List.mem_of_getElem? hx)
    have hlen : i < (latB (cs.take i) ++ List.replicate (j + 1) (.int 0 : Value)).length := by simp; omega
    refine Go.iload (pc' := 5) W d_jdk_52_method_21_code_3 rfl rfl ?_
    refine Go.iload (pc' := 7) W d_jdk_52_method_21_code_5 rfl rfl ?_
    refine Go.icmp_ge (pc' := 10) W 44 d_jdk_52_method_21_code_7 (by decide) rfl (fun q => absurd ((i32_lt (by omega) (by omega)).mpr hi) q) (fun _ => ?_)
    refine Go.aloadN (pc' := 11) W d_jdk_52_method_21_code_10 rfl rfl rfl ?_
    refine Go.iloadN (pc' := 12) W d_jdk_52_method_21_code_11 rfl rfl ?_
    refine Go.caload (pc' := 13) W (Or.inl (List.mem_of_getElem? (i := 0) rfl)) A i (i32_nn (by omega)) (i32_clamp (by omega)) (v := .int x) (by rw [chV, List.getElem?_map, hx]; rfl) d_jdk_52_method_21_code_12 rfl ?_
    refine Go.istore (pc' := 15) W #[.val (.ref ac), .val (.int i.toInt32), .val (.ref b), .val (.int i.toInt32), .val (.int cs.length.toInt32), .val (.int i.toInt32), .val (.int x)] d_jdk_52_method_21_code_13 (XS.store1 (o := o6) rfl ho rfl) rfl ?_
    refine Go.iload (pc' := 17) W d_jdk_52_method_21_code_15 rfl rfl ?_
    refine Go.sipush (pc' := 20) W (255 : Int32) d_jdk_52_method_21_code_17 (by decide) rfl ?_
    refine Go.icmp_le (pc' := 23) W 26 d_jdk_52_method_21_code_20 (by decide) rfl (fun (q : ¬ (255 : Int32) < x) => ?_) (fun (q : (255 : Int32) < x) => ?_)
    · refine Go.aloadN (pc' := 27) W d_jdk_52_method_21_code_26 rfl rfl rfl ?_
      refine Go.iloadN (pc' := 28) W d_jdk_52_method_21_code_27 rfl rfl ?_
      refine Go.iload (pc' := 30) W d_jdk_52_method_21_code_28 rfl rfl ?_
      refine Go.i2b (pc' := 31) W d_jdk_52_method_21_code_30 rfl ?_
      refine Go.bastore (pc' := 32) W 1 rfl B i (i32_nn (by omega)) (i32_clamp (by omega)) hlen d_jdk_52_method_21_code_31 rfl (fun T2 cb2 W2 B2 => ?_)
      rw [i8_i8, set_next hx] at B2
      refine Go.iinc (pc' := 35) W2 (1 : Int32) #[.val (.ref ac), .val (.int (i.toInt32 + 1)), .val (.ref b), .val (.int i.toInt32), .val (.int cs.length.toInt32), .val (.int i.toInt32), .val (.int x)] d_jdk_52_method_21_code_32 rfl (by decide) rfl rfl ?_
      refine Go.iinc (pc' := 38) W2 (1 : Int32) #[.val (.ref ac), .val (.int (i.toInt32 + 1)), .val (.ref b), .val (.int (i.toInt32 + 1)), .val (.int cs.length.toInt32), .val (.int i.toInt32), .val (.int x)] d_jdk_52_method_21_code_35 rfl (by decide) rfl rfl ?_
      refine Go.iinc (pc' := 41) W2 (1 : Int32) #[.val (.ref ac), .val (.int (i.toInt32 + 1)), .val (.ref b), .val (.int (i.toInt32 + 1)), .val (.int cs.length.toInt32), .val (.int (i.toInt32 + 1)), .val (.int x)] d_jdk_52_method_21_code_38 rfl (by decide) rfl rfl ?_
      refine Go.goto W2 3 d_jdk_52_method_21_code_41 (by decide) ?_
      rw [i32_succ (by omega)]
      refine lp_cmp5 A hc hn j (i + 1) (by omega) ?_ _ (One.val rfl) T2 cb2 W2 B2
      rw [take_succ' hx]
      intro y hy
      rcases List.mem_append.mp hy with hy | hy
      · exact hl y hy
      · rw [List.mem_singleton.mp hy]; exact ⟨hC.1, q⟩
    · refine Go.iload (pc' := 25) W d_jdk_52_method_21_code_23 rfl rfl ?_
      exact Go.iret W d_jdk_52_method_21_code_25 (by decide) (by decide) ⟨cb, i, rfl, rfl, rfl, Or.inr ⟨hi, x, hx, q⟩, fun e => absurd e (by omega)⟩
theorem rm_cmp5 {l : Launch} {Z : State} {a0 : Array Value} (G : Cl Z a0) (ac b : Addr) (cc cb : Cell) (cs : List Int32) (A : ArrC Z cc .char (chV cs)) (hc : Chr cs) (hn : cs.length < 65536) (B : ArrC Z cb .byte (List.replicate cs.length (.int 0))) :
    Met l Z EL1 (⟨"java/lang/StringUTF16", "compress", "([CI[BII)I"⟩ : MethodName) jdk_52_method_21_code 7 (some .int) ({ frames := 0, cells := 0, slots := 0, locals := 0 } : Room) #[.ref ac, .int 0, .ref b, .int 0, .int cs.length.toInt32] [(ac, cc), (b, cb)] [] (fun v σ ρ => ∃ cb' k, v = some (.int k.toInt32) ∧ σ = [(ac, cc), (b, cb')] ∧ ρ = [] ∧ Upto cs k ∧ (k = cs.length → ArrC Z cb' .byte (latB cs))) := by
  refine Met.walk G.2.1 pn_0 #[.val (.ref ac), .val (.int 0), .val (.ref b), .val (.int 0), .val (.int cs.length.toInt32), .unset, .unset] (fun m => by first | (simp [entryFrame, mkF, argsToLocals, Value.category]; done) | rfl) ?_
  intro X T W
  refine Go.iconst (pc' := 1) W (0 : Int32) d_jdk_52_method_21_code_0 (by decide) rfl ?_
  refine Go.istore (pc' := 3) W #[.val (.ref ac), .val (.int 0), .val (.ref b), .val (.int 0), .val (.int cs.length.toInt32), .val (.int 0), .unset] d_jdk_52_method_21_code_1 rfl rfl ?_
  exact lp_cmp5 A hc hn cs.length 0 (by omega) (fun _ q => nomatch q) .unset One.u T cb W (by simpa using B)
theorem d_jdk_52_method_16_code_0 : decode jdk_52_method_16_code 0 = .ok (.iload_n 2, 1) := by decide +kernel
theorem d_jdk_52_method_16_code_1 : decode jdk_52_method_16_code 1 = .ok (.newarray .byte, 2) := by decide +kernel
theorem d_jdk_52_method_16_code_3 : decode jdk_52_method_16_code 3 = .ok (.astore_n 3, 1) := by decide +kernel
theorem d_jdk_52_method_16_code_4 : decode jdk_52_method_16_code 4 = .ok (.aload_n 0, 1) := by decide +kernel
theorem d_jdk_52_method_16_code_5 : decode jdk_52_method_16_code 5 = .ok (.iload_n 1, 1) := by decide +kernel
theorem d_jdk_52_method_16_code_6 : decode jdk_52_method_16_code 6 = .ok (.aload_n 3, 1) := by decide +kernel
theorem d_jdk_52_method_16_code_7 : decode jdk_52_method_16_code 7 = .ok (.iconst 0, 1) := by decide +kernel
theorem d_jdk_52_method_16_code_8 : decode jdk_52_method_16_code 8 = .ok (.iload_n 2, 1) := by decide +kernel
theorem d_jdk_52_method_16_code_9 : decode jdk_52_method_16_code 9 = .ok (.invokestatic 115, 3) := by decide +kernel
theorem d_jdk_52_method_16_code_12 : decode jdk_52_method_16_code 12 = .ok (.istore 4, 2) := by decide +kernel
theorem d_jdk_52_method_16_code_14 : decode jdk_52_method_16_code 14 = .ok (.iload 4, 2) := by decide +kernel
theorem d_jdk_52_method_16_code_16 : decode jdk_52_method_16_code 16 = .ok (.iload_n 2, 1) := by decide +kernel
theorem d_jdk_52_method_16_code_17 : decode jdk_52_method_16_code 17 = .ok (.if_icmp .eq 40, 3) := by decide +kernel
theorem d_jdk_52_method_16_code_20 : decode jdk_52_method_16_code 20 = .ok (.aload_n 0, 1) := by decide +kernel
theorem d_jdk_52_method_16_code_21 : decode jdk_52_method_16_code 21 = .ok (.iload_n 1, 1) := by decide +kernel
theorem d_jdk_52_method_16_code_22 : decode jdk_52_method_16_code 22 = .ok (.iload_n 2, 1) := by decide +kernel
theorem d_jdk_52_method_16_code_23 : decode jdk_52_method_16_code 23 = .ok (.invokestatic 119, 3) := by decide +kernel
theorem d_jdk_52_method_16_code_26 : decode jdk_52_method_16_code 26 = .ok (.astore 5, 2) := by decide +kernel
theorem d_jdk_52_method_16_code_28 : decode jdk_52_method_16_code 28 = .ok (.aload 5, 2) := by decide +kernel
theorem d_jdk_52_method_16_code_30 : decode jdk_52_method_16_code 30 = .ok (.iload 4, 2) := by decide +kernel
theorem d_jdk_52_method_16_code_32 : decode jdk_52_method_16_code 32 = .ok (.invokestatic 71, 3) := by decide +kernel
theorem d_jdk_52_method_16_code_35 : decode jdk_52_method_16_code 35 = .ok (.sipush 255, 3) := by decide +kernel
theorem d_jdk_52_method_16_code_38 : decode jdk_52_method_16_code 38 = .ok (.if_icmp .gt 16, 3) := by decide +kernel
theorem d_jdk_52_method_16_code_41 : decode jdk_52_method_16_code 41 = .ok (.aload 5, 2) := by decide +kernel
theorem d_jdk_52_method_16_code_43 : decode jdk_52_method_16_code 43 = .ok (.iconst 0, 1) := by decide +kernel
theorem d_jdk_52_method_16_code_44 : decode jdk_52_method_16_code 44 = .ok (.aload_n 3, 1) := by decide +kernel
theorem d_jdk_52_method_16_code_45 : decode jdk_52_method_16_code 45 = .ok (.iconst 0, 1) := by decide +kernel
theorem d_jdk_52_method_16_code_46 : decode jdk_52_method_16_code 46 = .ok (.iload_n 2, 1) := by decide +kernel
theorem d_jdk_52_method_16_code_47 : decode jdk_52_method_16_code 47 = .ok (.invokestatic 123, 3) := by decide +kernel
theorem d_jdk_52_method_16_code_50 : decode jdk_52_method_16_code 50 = .ok (.iload_n 2, 1) := by decide +kernel
theorem d_jdk_52_method_16_code_51 : decode jdk_52_method_16_code 51 = .ok (.if_icmp .eq 6, 3) := by decide +kernel
theorem d_jdk_52_method_16_code_54 : decode jdk_52_method_16_code 54 = .ok (.aload 5, 2) := by decide +kernel
theorem d_jdk_52_method_16_code_56 : decode jdk_52_method_16_code 56 = .ok (.areturn, 1) := by decide +kernel
theorem d_jdk_52_method_16_code_57 : decode jdk_52_method_16_code 57 = .ok (.aload_n 3, 1) := by decide +kernel
theorem d_jdk_52_method_16_code_58 : decode jdk_52_method_16_code 58 = .ok (.areturn, 1) := by decide +kernel
theorem w_46 {Z : State} {a0 : Array Value} (G : Cl Z a0) : (Jvm.Cond.methodLink "java/lang/StringUTF16" 115 (⟨"java/lang/StringUTF16", "compress", "([CI[BII)I"⟩ : MethodName)).before a0 Z = true := G.1 _ (List.mem_of_getElem? (l := tables_1) (i := 46) rfl)
theorem w_47 {Z : State} {a0 : Array Value} (G : Cl Z a0) : (Jvm.Cond.static (⟨"java/lang/StringUTF16", "compress", "([CI[BII)I"⟩ : MethodName)).before a0 Z = true := G.1 _ (List.mem_of_getElem? (l := tables_1) (i := 47) rfl)
theorem w_48 {Z : State} {a0 : Array Value} (G : Cl Z a0) : (Jvm.Cond.code (⟨"java/lang/StringUTF16", "compress", "([CI[BII)I"⟩ : MethodName) jdk_52_method_21_code 7 (some .int)).before a0 Z = true := G.1 _ (List.mem_of_getElem? (l := tables_1) (i := 48) rfl)
theorem pd_4 : parseMethodDescriptor "([CI[BII)I" = some ⟨[(.array .char), .int, (.array .byte), .int, .int], some .int⟩ := by decide +kernel
theorem w_78 {Z : State} {a0 : Array Value} (G : Cl Z a0) : (Jvm.Cond.methodLink "java/lang/StringUTF16" 119 (⟨"java/lang/StringUTF16", "toBytes", "([CII)[B"⟩ : MethodName)).before a0 Z = true := G.1 _ (List.mem_of_getElem? (l := tables_1) (i := 78) rfl)
theorem w_79 {Z : State} {a0 : Array Value} (G : Cl Z a0) : (Jvm.Cond.static (⟨"java/lang/StringUTF16", "toBytes", "([CII)[B"⟩ : MethodName)).before a0 Z = true := G.1 _ (List.mem_of_getElem? (l := tables_1) (i := 79) rfl)
theorem w_80 {Z : State} {a0 : Array Value} (G : Cl Z a0) : (Jvm.Cond.code (⟨"java/lang/StringUTF16", "toBytes", "([CII)[B"⟩ : MethodName) jdk_52_method_14_code 5 (some (.array .byte))).before a0 Z = true := G.1 _ (List.mem_of_getElem? (l := tables_1) (i := 80) rfl)
theorem pd_5 : parseMethodDescriptor "([CII)[B" = some ⟨[(.array .char), .int, .int], some (.array .byte)⟩ := by decide +kernel
theorem w_94 {Z : State} {a0 : Array Value} (G : Cl Z a0) : (Jvm.Cond.methodLink "java/lang/StringUTF16" 71 (⟨"java/lang/StringUTF16", "getChar", "([BI)C"⟩ : MethodName)).before a0 Z = true := G.1 _ (List.mem_of_getElem? (l := tables_1) (i := 94) rfl)
theorem w_95 {Z : State} {a0 : Array Value} (G : Cl Z a0) : (Jvm.Cond.static (⟨"java/lang/StringUTF16", "getChar", "([BI)C"⟩ : MethodName)).before a0 Z = true := G.1 _ (List.mem_of_getElem? (l := tables_1) (i := 95) rfl)
theorem w_96 {Z : State} {a0 : Array Value} (G : Cl Z a0) : (Jvm.Cond.code (⟨"java/lang/StringUTF16", "getChar", "([BI)C"⟩ : MethodName) jdk_52_method_5_code 2 (some .char)).before a0 Z = true := G.1 _ (List.mem_of_getElem? (l := tables_1) (i := 96) rfl)
theorem pd_6 : parseMethodDescriptor "([BI)C" = some ⟨[(.array .byte), .int], some .char⟩ := by decide +kernel
theorem rm_cmp3 {l : Launch} {Z : State} {a0 : Array Value} (G : Cl Z a0) (ac : Addr) (cc : Cell) (cs : List Int32) (A : ArrC Z cc .char (chV cs)) (hc : Chr cs) (hn : cs.length < 65536) :
    Met l Z EL1 (⟨"java/lang/StringUTF16", "compress", "([CII)[B"⟩ : MethodName) jdk_52_method_16_code 6 (some (.array .byte)) ({ frames := 3, cells := 2, slots := 3 * cs.length, locals := 40 } : Room) #[.ref ac, .int 0, .int cs.length.toInt32] [(ac, cc)] [] (fun v σ ρ => ∃ b cb, v = some (.ref b) ∧ σ = [(ac, cc), (b, cb)] ∧ ρ = [] ∧ ((Lat cs ∧ ArrC Z cb .byte (latB cs)) ∨ ArrC Z cb .byte (utfB cs))) := by
  refine Met.walk G.2.1 pn_0 #[.val (.ref ac), .val (.int 0), .val (.int cs.length.toInt32), .unset, .unset, .unset] (fun m => by first | (simp [entryFrame, mkF, argsToLocals, Value.category]; done) | rfl) ?_
  intro X T0 W0
  refine Go.iloadN (pc' := 1) W0 d_jdk_52_method_16_code_0 rfl rfl ?_
  refine Go.newarr (pc' := 3) W0 .byte rfl cs.length (w_20 G) d_jdk_52_method_16_code_1 rfl (i32_nn (by omega)) (i32_clamp (by omega)) (by omega) (by first | exact Nat.le_of_ble_eq_true rfl | (simp; done) | (simp; omega) | omega) (by first | exact Nat.le_of_ble_eq_true rfl | (simp; done) | (simp; omega) | omega) (fun T1 b cb W1 B => ?_)
  refine Go.astoreN (pc' := 4) W1 #[.val (.ref ac), .val (.int 0), .val (.int cs.length.toInt32), .val (.ref b), .unset, .unset] d_jdk_52_method_16_code_3 rfl rfl rfl ?_
  refine Go.aloadN (pc' := 5) W1 d_jdk_52_method_16_code_4 rfl rfl rfl ?_
  refine Go.iloadN (pc' := 6) W1 d_jdk_52_method_16_code_5 rfl rfl ?_
  refine Go.aloadN (pc' := 7) W1 d_jdk_52_method_16_code_6 rfl rfl rfl ?_
  refine Go.iconst (pc' := 8) W1 (0 : Int32) d_jdk_52_method_16_code_7 (by decide) rfl ?_
  refine Go.iloadN (pc' := 9) W1 d_jdk_52_method_16_code_8 rfl rfl ?_
  refine Go.static (pc' := 12) W1 (rm_cmp5 G ac b cc cb cs A hc hn B) (w_46 G) (w_47 G) (w_44 G) (w_48 G) (by decide) [1, 0] [] (σf := []) rfl rfl [.ref ac, .int 0, .ref b, .int 0, .int cs.length.toInt32] [] rfl (lenOf pd_4 rfl) rfl rfl d_jdk_52_method_16_code_9 rfl (by first | exact Nat.le_of_ble_eq_true rfl | (simp; done) | (simp; omega) | omega) (by first | exact Nat.le_of_ble_eq_true rfl | (simp; done) | (simp; omega) | omega) (by first | exact Nat.le_of_ble_eq_true rfl | (simp; done) | (simp; omega) | omega) (by first | exact Nat.le_of_ble_eq_true rfl | (simp; done) | (simp; omega) | omega) ?_
  rintro _ _ _ T2 ⟨cb2, k, rfl, rfl, rfl, hU, B2⟩ W2
  have hk : k ≤ cs.length := by rcases hU with h | h <;> omega
  refine Go.istore (pc' := 14) W2 #[.val (.ref ac), .val (.int 0), .val (.int cs.length.toInt32), .val (.ref b), .val (.int k.toInt32), .unset] d_jdk_52_method_16_code_12 rfl rfl ?_
  refine Go.iload (pc' := 16) W2 d_jdk_52_method_16_code_14 rfl rfl ?_
  refine Go.iloadN (pc' := 17) W2 d_jdk_52_method_16_code_16 rfl rfl ?_
  refine Go.icmp_eq (pc' := 20) W2 57 d_jdk_52_method_16_code_17 (by decide) rfl (fun (q : k.toInt32 = cs.length.toInt32) => ?_) (fun (q : ¬ k.toInt32 = cs.length.toInt32) => ?_)
  · have e : k = cs.length := (i32_inj (by omega) (by omega)).mp q
    refine Go.aloadN (pc' := 58) W2 d_jdk_52_method_16_code_57 rfl rfl rfl ?_
    refine Go.aret W2 rfl rfl d_jdk_52_method_16_code_58 (by first | exact Nat.le_of_ble_eq_true rfl | (simp; done) | (simp; omega) | omega) (by first | exact Nat.le_of_ble_eq_true rfl | (simp; done) | (simp; omega) | omega) ⟨b, cb2, rfl, rfl, rfl, Or.inl ⟨?_, B2 e⟩⟩
    rcases hU with h | h
    · exact h.2
    · omega
  · have hlt : k < cs.length := by rcases Nat.lt_or_eq_of_le hk with h | h; exact h; exact absurd (by rw [h]) q
    obtain ⟨x, hx, hbig⟩ : ∃ x, cs[k]? = some x ∧ (255 : Int32) < x := by
      rcases hU with h | h
      · omega
      · exact h.2
    refine Go.aloadN (pc' := 21) W2 d_jdk_52_method_16_code_20 rfl rfl rfl ?_
    refine Go.iloadN (pc' := 22) W2 d_jdk_52_method_16_code_21 rfl rfl ?_
    refine Go.iloadN (pc' := 23) W2 d_jdk_52_method_16_code_22 rfl rfl ?_
    refine Go.static (pc' := 26) W2 (rm_tby G ac cc cs A hn) (w_78 G) (w_79 G) (w_44 G) (w_80 G) (by decide) [0] [] (σf := [(b, cb2)]) rfl rfl [.ref ac, .int 0, .int cs.length.toInt32] [] rfl (lenOf pd_5 rfl) rfl rfl d_jdk_52_method_16_code_23 rfl (by first | exact Nat.le_of_ble_eq_true rfl | (simp; done) | (simp; omega) | omega) (by first | exact Nat.le_of_ble_eq_true rfl | (simp; done) | (simp; omega) | omega) (by first | exact Nat.le_of_ble_eq_true rfl | (simp; done) | (simp; omega) | omega) (by first | exact Nat.le_of_ble_eq_true rfl | (simp; done) | (simp; omega) | omega) ?_
    rintro _ _ _ T3 ⟨bu, cu, rfl, rfl, rfl, BU⟩ W3
    refine Go.astore (pc' := 28) W3 #[.val (.ref ac), .val (.int 0), .val (.int cs.length.toInt32), .val (.ref b), .val (.int k.toInt32), .val (.ref bu)] d_jdk_52_method_16_code_26 rfl rfl rfl ?_
    refine Go.aload (pc' := 30) W3 d_jdk_52_method_16_code_28 rfl rfl rfl ?_
    refine Go.iload (pc' := 32) W3 d_jdk_52_method_16_code_30 rfl rfl ?_
    refine Go.static (pc' := 35) W3 (rm_get G bu cu cs k x BU (hc x (List.mem_of_getElem? hx)) hx) (w_94 G) (w_95 G) (w_44 G) (w_96 G) (by decide) [1] [] (σf := [(ac, cc), (b, cb2)]) rfl rfl [.ref bu, .int k.toInt32] [] rfl (lenOf pd_6 rfl) rfl rfl d_jdk_52_method_16_code_32 rfl (by first | exact Nat.le_of_ble_eq_true rfl | (simp; done) | (simp; omega) | omega) (by first | exact Nat.le_of_ble_eq_true rfl | (simp; done) | (simp; omega) | omega) (by first | exact Nat.le_of_ble_eq_true rfl | (simp; done) | (simp; omega) | omega) (by first | exact Nat.le_of_ble_eq_true rfl | (simp; done) | (simp; omega) | omega) ?_
    rintro _ _ _ T4 ⟨rfl, rfl, rfl⟩ W4
    refine Go.sipush (pc' := 38) W4 (255 : Int32) d_jdk_52_method_16_code_35 (by decide) rfl ?_
    refine Go.icmp_gt (pc' := 41) W4 54 d_jdk_52_method_16_code_38 (by decide) rfl (fun _ => ?_) (fun q => absurd hbig q)
    refine Go.aload (pc' := 56) W4 d_jdk_52_method_16_code_54 rfl rfl rfl ?_
    have W5 := (W4.drop [2] (σi := [(b, cb2)]) (σf := [(bu, cu), (ac, cc)]) rfl).perm (σ' := [(ac, cc), (bu, cu)]) (List.Perm.swap _ _ _)
    exact Go.aret W5 rfl rfl d_jdk_52_method_16_code_56 (by first | exact Nat.le_of_ble_eq_true rfl | (simp; done) | (simp; omega) | omega) (by first | exact Nat.le_of_ble_eq_true rfl | (simp; done) | (simp; omega) | omega) ⟨bu, cu, rfl, rfl, rfl, Or.inr BU⟩
theorem d_jdk_52_method_15_code_0 : decode jdk_52_method_15_code 0 = .ok (.iload_n 1, 1) := by decide +kernel
theorem d_jdk_52_method_15_code_1 : decode jdk_52_method_15_code 1 = .ok (.aload_n 0, 1) := by decide +kernel
theorem d_jdk_52_method_15_code_2 : decode jdk_52_method_15_code 2 = .ok (.arraylength, 1) := by decide +kernel
theorem d_jdk_52_method_15_code_3 : decode jdk_52_method_15_code 3 = .ok (.isub, 1) := by decide +kernel
theorem d_jdk_52_method_15_code_4 : decode jdk_52_method_15_code 4 = .ok (.bipush 31, 2) := by decide +kernel
theorem d_jdk_52_method_15_code_6 : decode jdk_52_method_15_code 6 = .ok (.iushr, 1) := by decide +kernel
theorem d_jdk_52_method_15_code_7 : decode jdk_52_method_15_code 7 = .ok (.i2b, 1) := by decide +kernel
theorem d_jdk_52_method_15_code_8 : decode jdk_52_method_15_code 8 = .ok (.ireturn, 1) := by decide +kernel
theorem rm_cod {l : Launch} {Z : State} {a0 : Array Value} (G : Cl Z a0) (b : Addr) (cb : Cell) (cs : List Int32) (B : ArrC Z cb .byte (latB cs)) :
    Met l Z EL1 (⟨"java/lang/StringUTF16", "coderFromArrayLen", "([BI)B"⟩ : MethodName) jdk_52_method_15_code 2 (some .byte) ({ frames := 0, cells := 0, slots := 0, locals := 0 } : Room) #[.ref b, .int cs.length.toInt32] [(b, cb)] [] (fun v σ ρ => v = some (.int 0) ∧ σ = [(b, cb)] ∧ ρ = []) := by
  refine Met.walk G.2.1 pn_0 #[.val (.ref b), .val (.int cs.length.toInt32)] (fun m => by first | (simp [entryFrame, mkF, argsToLocals, Value.category]; done) | rfl) ?_
  intro X T0 W0
  refine Go.iloadN (pc' := 1) W0 d_jdk_52_method_15_code_0 rfl rfl ?_
  refine Go.aloadN (pc' := 2) W0 d_jdk_52_method_15_code_1 rfl rfl rfl ?_
  refine Go.arrlen (pc' := 3) W0 (Or.inl (List.mem_of_getElem? (i := 0) rfl)) B cs.length.toInt32 (by rw [latB, List.length_map]) d_jdk_52_method_15_code_2 rfl ?_
  refine Go.isub (pc' := 4) W0 d_jdk_52_method_15_code_3 rfl ?_
  rw [Int32.sub_self]
  refine Go.bipush (pc' := 6) W0 (31 : Int32) d_jdk_52_method_15_code_4 (by decide) rfl ?_
  refine Go.iushr (pc' := 7) W0 d_jdk_52_method_15_code_6 rfl ?_
  refine Go.i2b (pc' := 8) W0 d_jdk_52_method_15_code_7 rfl ?_
  exact Go.nret (z' := 0) W0 (by simp) (by decide) d_jdk_52_method_15_code_8 (by decide) (by decide) ⟨rfl, rfl, rfl⟩
theorem rm_codU {l : Launch} {Z : State} {a0 : Array Value} (G : Cl Z a0) (b : Addr) (cb : Cell) (cs : List Int32) (B : ArrC Z cb .byte (utfB cs)) (h0 : 0 < cs.length) (hn : cs.length < 65536) :
    Met l Z EL1 (⟨"java/lang/StringUTF16", "coderFromArrayLen", "([BI)B"⟩ : MethodName) jdk_52_method_15_code 2 (some .byte) ({ frames := 0, cells := 0, slots := 0, locals := 0 } : Room) #[.ref b, .int cs.length.toInt32] [(b, cb)] [] (fun v σ ρ => v = some (.int 1) ∧ σ = [(b, cb)] ∧ ρ = []) := by
  refine Met.walk G.2.1 pn_0 #[.val (.ref b), .val (.int cs.length.toInt32)] (fun m => by first | (simp [entryFrame, mkF, argsToLocals, Value.category]; done) | rfl) ?_
  intro X T0 W0
  refine Go.iloadN (pc' := 1) W0 d_jdk_52_method_15_code_0 rfl rfl ?_
  refine Go.aloadN (pc' := 2) W0 d_jdk_52_method_15_code_1 rfl rfl rfl ?_
  refine Go.arrlen (pc' := 3) W0 (Or.inl (List.mem_of_getElem? (i := 0) rfl)) B (2 * cs.length).toInt32 (by rw [utfB_len]) d_jdk_52_method_15_code_2 rfl ?_
  refine Go.isub (pc' := 4) W0 d_jdk_52_method_15_code_3 rfl ?_
  refine Go.bipush (pc' := 6) W0 (31 : Int32) d_jdk_52_method_15_code_4 (by decide) rfl ?_
  refine Go.iushr (pc' := 7) W0 d_jdk_52_method_15_code_6 rfl ?_
  refine Go.i2b (pc' := 8) W0 d_jdk_52_method_15_code_7 rfl ?_
  exact Go.nret (z' := 1) W0 (by simp) (coder_u h0 hn) d_jdk_52_method_15_code_8 (by decide) (by decide) ⟨rfl, rfl, rfl⟩
theorem pn_7 : plainName "java/lang/String" = true := by first | (simp [plainName, overriddenIn]; done) | decide +kernel
theorem d_jdk_42_method_149_code_0 : decode jdk_42_method_149_code 0 = .ok (.aload_n 0, 1) := by decide +kernel
theorem d_jdk_42_method_149_code_1 : decode jdk_42_method_149_code 1 = .ok (.invokespecial 1, 3) := by decide +kernel
theorem w_16 {Z : State} {a0 : Array Value} (G : Cl Z a0) : (Jvm.Cond.methodLink "java/lang/String" 1 (⟨"java/lang/Object", "<init>", "()V"⟩ : MethodName)).before a0 Z = true := G.1 _ (List.mem_of_getElem? (l := tables_1) (i := 16) rfl)
theorem w_17 {Z : State} {a0 : Array Value} (G : Cl Z a0) : (Jvm.Cond.instanceMethod (⟨"java/lang/Object", "<init>", "()V"⟩ : MethodName)).before a0 Z = true := G.1 _ (List.mem_of_getElem? (l := tables_1) (i := 17) rfl)
theorem w_18 {Z : State} {a0 : Array Value} (G : Cl Z a0) : (Jvm.Cond.code (⟨"java/lang/Object", "<init>", "()V"⟩ : MethodName) object_method_1_code 1 none).before a0 Z = true := G.1 _ (List.mem_of_getElem? (l := tables_1) (i := 18) rfl)
theorem d_jdk_42_method_149_code_4 : decode jdk_42_method_149_code 4 = .ok (.iload_n 3, 1) := by decide +kernel
theorem d_jdk_42_method_149_code_5 : decode jdk_42_method_149_code 5 = .ok (.ifCond .ne 22, 3) := by decide +kernel
theorem d_jdk_42_method_149_code_27 : decode jdk_42_method_149_code 27 = .ok (.getstatic 38, 3) := by decide +kernel
theorem w_41 {Z : State} {a0 : Array Value} (G : Cl Z a0) : (Jvm.Cond.fieldLink "java/lang/String" 38 "java/lang/String" "COMPACT_STRINGS" "Z").before a0 Z = true := G.1 _ (List.mem_of_getElem? (l := tables_1) (i := 41) rfl)
theorem d_jdk_42_method_149_code_30 : decode jdk_42_method_149_code 30 = .ok (.ifCond .eq 28, 3) := by decide +kernel
theorem d_jdk_42_method_149_code_33 : decode jdk_42_method_149_code 33 = .ok (.aload_n 1, 1) := by decide +kernel
theorem d_jdk_42_method_149_code_34 : decode jdk_42_method_149_code 34 = .ok (.iload_n 2, 1) := by decide +kernel
theorem d_jdk_42_method_149_code_35 : decode jdk_42_method_149_code 35 = .ok (.iload_n 3, 1) := by decide +kernel
theorem d_jdk_42_method_149_code_36 : decode jdk_42_method_149_code 36 = .ok (.invokestatic 177, 3) := by decide +kernel
theorem w_42 {Z : State} {a0 : Array Value} (G : Cl Z a0) : (Jvm.Cond.methodLink "java/lang/String" 177 (⟨"java/lang/StringUTF16", "compress", "([CII)[B"⟩ : MethodName)).before a0 Z = true := G.1 _ (List.mem_of_getElem? (l := tables_1) (i := 42) rfl)
theorem w_45 {Z : State} {a0 : Array Value} (G : Cl Z a0) : (Jvm.Cond.code (⟨"java/lang/StringUTF16", "compress", "([CII)[B"⟩ : MethodName) jdk_52_method_16_code 6 (some (.array .byte))).before a0 Z = true := G.1 _ (List.mem_of_getElem? (l := tables_1) (i := 45) rfl)
theorem w_43 {Z : State} {a0 : Array Value} (G : Cl Z a0) : (Jvm.Cond.static (⟨"java/lang/StringUTF16", "compress", "([CII)[B"⟩ : MethodName)).before a0 Z = true := G.1 _ (List.mem_of_getElem? (l := tables_1) (i := 43) rfl)
theorem d_jdk_42_method_149_code_39 : decode jdk_42_method_149_code 39 = .ok (.astore 5, 2) := by decide +kernel
theorem d_jdk_42_method_149_code_41 : decode jdk_42_method_149_code 41 = .ok (.aload_n 0, 1) := by decide +kernel
theorem d_jdk_42_method_149_code_42 : decode jdk_42_method_149_code 42 = .ok (.aload 5, 2) := by decide +kernel
theorem d_jdk_42_method_149_code_44 : decode jdk_42_method_149_code 44 = .ok (.iload_n 3, 1) := by decide +kernel
theorem d_jdk_42_method_149_code_45 : decode jdk_42_method_149_code 45 = .ok (.invokestatic 47, 3) := by decide +kernel
theorem w_49 {Z : State} {a0 : Array Value} (G : Cl Z a0) : (Jvm.Cond.methodLink "java/lang/String" 47 (⟨"java/lang/StringUTF16", "coderFromArrayLen", "([BI)B"⟩ : MethodName)).before a0 Z = true := G.1 _ (List.mem_of_getElem? (l := tables_1) (i := 49) rfl)
theorem w_51 {Z : State} {a0 : Array Value} (G : Cl Z a0) : (Jvm.Cond.code (⟨"java/lang/StringUTF16", "coderFromArrayLen", "([BI)B"⟩ : MethodName) jdk_52_method_15_code 2 (some .byte)).before a0 Z = true := G.1 _ (List.mem_of_getElem? (l := tables_1) (i := 51) rfl)
theorem pd_8 : parseMethodDescriptor "([BI)B" = some ⟨[(.array .byte), .int], some .byte⟩ := by decide +kernel
theorem w_50 {Z : State} {a0 : Array Value} (G : Cl Z a0) : (Jvm.Cond.static (⟨"java/lang/StringUTF16", "coderFromArrayLen", "([BI)B"⟩ : MethodName)).before a0 Z = true := G.1 _ (List.mem_of_getElem? (l := tables_1) (i := 50) rfl)
theorem d_jdk_42_method_149_code_48 : decode jdk_42_method_149_code 48 = .ok (.putfield 15, 3) := by decide +kernel
theorem w_26 {Z : State} {a0 : Array Value} (G : Cl Z a0) : (Jvm.Cond.fieldLink "java/lang/String" 15 "java/lang/String" "coder" "B").before a0 Z = true := G.1 _ (List.mem_of_getElem? (l := tables_1) (i := 26) rfl)
theorem w_22 {Z : State} {a0 : Array Value} (G : Cl Z a0) : (Jvm.Cond.laysFinal "java/lang/String" "java/lang/String" "coder" "B").before a0 Z = true := G.1 _ (List.mem_of_getElem? (l := tables_1) (i := 22) rfl)
theorem w_7 {Z : State} {a0 : Array Value} (G : Cl Z a0) : (Jvm.Cond.instantiable "java/lang/String" 4).before a0 Z = true := G.1 _ (List.mem_of_getElem? (l := tables_1) (i := 7) rfl)
theorem w_21 {Z : State} {a0 : Array Value} (G : Cl Z a0) : (Jvm.Cond.laysFinal "java/lang/String" "java/lang/String" "value" "[B").before a0 Z = true := G.1 _ (List.mem_of_getElem? (l := tables_1) (i := 21) rfl)
theorem d_jdk_42_method_149_code_51 : decode jdk_42_method_149_code 51 = .ok (.aload_n 0, 1) := by decide +kernel
theorem d_jdk_42_method_149_code_52 : decode jdk_42_method_149_code 52 = .ok (.aload 5, 2) := by decide +kernel
theorem d_jdk_42_method_149_code_54 : decode jdk_42_method_149_code 54 = .ok (.putfield 9, 3) := by decide +kernel
theorem w_25 {Z : State} {a0 : Array Value} (G : Cl Z a0) : (Jvm.Cond.fieldLink "java/lang/String" 9 "java/lang/String" "value" "[B").before a0 Z = true := G.1 _ (List.mem_of_getElem? (l := tables_1) (i := 25) rfl)
theorem d_jdk_42_method_149_code_57 : decode jdk_42_method_149_code 57 = .ok (.return_, 1) := by decide +kernel
set_option maxRecDepth 65536 in
set_option maxHeartbeats 40000000 in
theorem rm_initV {l : Launch} {Z : State} {a0 : Array Value} (G : Cl Z a0) (a ac : Addr) (c cc : Cell) (cs : List Int32) (A : ArrC Z cc .char (chV cs)) (hO : ObjC Z c "java/lang/String") (hC : FldC Z c "java/lang/String" "coder" "B" (.int 0)) (hV : FldC Z c "java/lang/String" "value" "[B" .null) (hc : Chr cs) (hn : cs.length < 65536) (h0 : ¬ cs.length.toInt32 = 0) :
    Met l Z EL1 (⟨"java/lang/String", "<init>", "([CIILjava/lang/Void;)V"⟩ : MethodName) jdk_42_method_149_code 6 none ({ frames := 4, cells := 2, slots := 3 * cs.length, locals := 57 } : Room) #[.ref a, .ref ac, .int (0 : Int32), .int cs.length.toInt32, .null] [(a, c), (ac, cc)] [] (fun v σ ρ => ∃ c' b cb, v = none ∧ σ = [(ac, cc)] ∧ ρ = [(a, c'), (b, cb)] ∧ StrG Z c' b cb cs) := by
  refine Met.walk G.2.1 pn_7 #[.val (.ref a), .val (.ref ac), .val (.int (0 : Int32)), .val (.int cs.length.toInt32), .val (.null), .unset] (fun m => by first | (simp [entryFrame, mkF, argsToLocals, Value.category]; done) | rfl) ?_
  intro X T0 W0
  obtain ⟨cv, Scv, hcv⟩ := G.2.2.1
  refine Go.aloadN (pc' := 1) W0 d_jdk_42_method_149_code_0 rfl rfl rfl ?_
  refine Go.objInit (pc' := 4) W0 (w_16 G) (w_17 G) (w_18 G) rfl d_jdk_42_method_149_code_1 rfl (by first | exact Nat.le_of_ble_eq_true rfl | (simp; done) | (simp; omega) | omega) (by first | exact Nat.le_of_ble_eq_true rfl | (simp; done) | (simp; omega) | omega) (fun T1 W2 => ?_)
  refine Go.iloadN (pc' := 5) W2 d_jdk_42_method_149_code_4 rfl rfl ?_
  refine Go.if_ne (pc' := 8) W2 27 d_jdk_42_method_149_code_5 (by decide) rfl (fun _ => ?_) (fun q => absurd q h0)
  refine Go.getstatic (pc' := 30) W2 (w_41 G) Via.refl Scv d_jdk_42_method_149_code_27 rfl (fun T3 W4 => ?_)
  refine Go.if_eq (pc' := 33) W4 58 d_jdk_42_method_149_code_30 (by decide) rfl (fun q => absurd q hcv) (fun _ => ?_)
  refine Go.aloadN (pc' := 34) W4 d_jdk_42_method_149_code_33 rfl rfl rfl ?_
  refine Go.iloadN (pc' := 35) W4 d_jdk_42_method_149_code_34 rfl rfl ?_
  refine Go.iloadN (pc' := 36) W4 d_jdk_42_method_149_code_35 rfl rfl ?_
  refine Go.static (pc' := 39) W4 (rm_cmp3 G ac cc cs A hc hn) (w_42 G) (w_43 G) (w_44 G) (w_45 G) (by decide) [1] [] (σf := [(a, c)]) rfl rfl [(.ref ac), (.int (0 : Int32)), (.int cs.length.toInt32)] [] rfl (lenOf pd_5 rfl) rfl rfl d_jdk_42_method_149_code_36 rfl (by first | exact Nat.le_of_ble_eq_true rfl | (simp; done) | (simp; omega) | omega) (by first | exact Nat.le_of_ble_eq_true rfl | (simp; done) | (simp; omega) | omega) (by first | exact Nat.le_of_ble_eq_true rfl | (simp; done) | (simp; omega) | omega) (by first | exact Nat.le_of_ble_eq_true rfl | (simp; done) | (simp; omega) | omega) ?_
  rintro _ _ _ T5 ⟨b, cb, rfl, rfl, rfl, B⟩ W6
  replace W6 : Wk l Z EL1 ({ frames := 4, cells := 2, slots := 3 * cs.length, locals := 57 } : Room) "java/lang/String" jdk_42_method_149_code 6 none "<init>" X [(ac, cc), (b, cb), (a, c)] [] T5 2 (0 + 3 * cs.length) := W6
  show Go Z EL1 _ _ _ X T5 39 #[.val (.ref a), .val (.ref ac), .val (.int (0 : Int32)), .val (.int cs.length.toInt32), .val (.null), .unset] [(.ref b)]
  rcases B with ⟨hl, B⟩ | B
  · refine Go.astore (pc' := 41) W6 #[.val (.ref a), .val (.ref ac), .val (.int (0 : Int32)), .val (.int cs.length.toInt32), .val (.null), .val (.ref b)] d_jdk_42_method_149_code_39 rfl rfl rfl ?_
    refine Go.aloadN (pc' := 42) W6 d_jdk_42_method_149_code_41 rfl rfl rfl ?_
    refine Go.aload (pc' := 44) W6 d_jdk_42_method_149_code_42 rfl rfl rfl ?_
    refine Go.iloadN (pc' := 45) W6 d_jdk_42_method_149_code_44 rfl rfl ?_
    refine Go.static (pc' := 48) W6 (rm_cod G b cb cs B) (w_49 G) (w_50 G) (w_44 G) (w_51 G) (by decide) [1] [] (σf := [(ac, cc), (a, c)]) rfl rfl [(.ref b), (.int cs.length.toInt32)] [(.ref a)] rfl (lenOf pd_8 rfl) rfl rfl d_jdk_42_method_149_code_45 rfl (by first | exact Nat.le_of_ble_eq_true rfl | (simp; done) | (simp; omega) | omega) (by first | exact Nat.le_of_ble_eq_true rfl | (simp; done) | (simp; omega) | omega) (by first | exact Nat.le_of_ble_eq_true rfl | (simp; done) | (simp; omega) | omega) (by first | exact Nat.le_of_ble_eq_true rfl | (simp; done) | (simp; omega) | omega) ?_
    rintro _ _ _ T7 ⟨rfl, rfl, rfl⟩ W8
    replace W8 : Wk l Z EL1 ({ frames := 4, cells := 2, slots := 3 * cs.length, locals := 57 } : Room) "java/lang/String" jdk_42_method_149_code 6 none "<init>" X [(b, cb), (ac, cc), (a, c)] [] T7 2 (0 + 3 * cs.length + 0) := W8
    show Go Z EL1 _ _ _ X T7 48 #[.val (.ref a), .val (.ref ac), .val (.int (0 : Int32)), .val (.int cs.length.toInt32), .val (.null), .val (.ref b)] [(.int (0 : Int32)), (.ref a)]
    refine Go.putfield (pc' := 51) W8 2 rfl (w_26 G) Via.refl hC hO (Or.inr ⟨(w_22 G), rfl, rfl⟩) (w_7 G) (ty := .byte) (v' := .int (0 : Int32)) (by decide) rfl rfl d_jdk_42_method_149_code_48 rfl (fun T9 c11 q12 W10 => ?_)
    replace W10 : Wk l Z EL1 ({ frames := 4, cells := 2, slots := 3 * cs.length, locals := 57 } : Room) "java/lang/String" jdk_42_method_149_code 6 none "<init>" X [(b, cb), (ac, cc), (a, c11)] [] T9 2 (0 + 3 * cs.length + 0) := W10
    have O13 := hO.put' q12
    have F14 := hC.put' q12
    have F15 := hV.keep' q12 (slot_ne (Or.inr (w_21 G)) (Or.inr (w_22 G)) (by decide) (t := (.array .byte)) (t' := .byte) (by decide) (by decide))
    refine Go.aloadN (pc' := 52) W10 d_jdk_42_method_149_code_51 rfl rfl rfl ?_
    refine Go.aload (pc' := 54) W10 d_jdk_42_method_149_code_52 rfl rfl rfl ?_
    refine Go.putfield (pc' := 57) W10 2 rfl (w_25 G) Via.refl F15 O13 (Or.inr ⟨(w_21 G), rfl, rfl⟩) (w_7 G) (ty := (.array .byte)) (v' := .ref b) (by decide) rfl rfl d_jdk_42_method_149_code_54 rfl (fun T16 c18 q19 W17 => ?_)
    replace W17 : Wk l Z EL1 ({ frames := 4, cells := 2, slots := 3 * cs.length, locals := 57 } : Room) "java/lang/String" jdk_42_method_149_code 6 none "<init>" X [(b, cb), (ac, cc), (a, c18)] [] T16 2 (0 + 3 * cs.length + 0) := W17
    have O20 := O13.put' q19
    have F21 := F14.keep' q19 (slot_ne (Or.inr (w_22 G)) (Or.inr (w_21 G)) (by decide) (t := .byte) (t' := (.array .byte)) (by decide) (by decide))
    have F22 := F15.put' q19
    have W23 := W17.freeze [2, 0] (σi := [(a, c18), (b, cb)]) (σf := [(ac, cc)]) rfl
    replace W23 : Wk l Z EL1 ({ frames := 4, cells := 2, slots := 3 * cs.length, locals := 57 } : Room) "java/lang/String" jdk_42_method_149_code 6 none "<init>" X [(ac, cc)] [(a, c18), (b, cb)] T16 2 (0 + 3 * cs.length + 0) := W23
    refine Go.retV W23 d_jdk_42_method_149_code_57 (by first | exact Nat.le_of_ble_eq_true rfl | (simp; done) | (simp; omega) | omega) (by first | exact Nat.le_of_ble_eq_true rfl | (simp; done) | (simp; omega) | omega) ?_
    exact ⟨_, b, cb, rfl, rfl, rfl, Or.inl ⟨O20, F21, F22, B, hl⟩⟩
  · refine Go.astore (pc' := 41) W6 #[.val (.ref a), .val (.ref ac), .val (.int (0 : Int32)), .val (.int cs.length.toInt32), .val (.null), .val (.ref b)] d_jdk_42_method_149_code_39 rfl rfl rfl ?_
    refine Go.aloadN (pc' := 42) W6 d_jdk_42_method_149_code_41 rfl rfl rfl ?_
    refine Go.aload (pc' := 44) W6 d_jdk_42_method_149_code_42 rfl rfl rfl ?_
    refine Go.iloadN (pc' := 45) W6 d_jdk_42_method_149_code_44 rfl rfl ?_
    refine Go.static (pc' := 48) W6 (rm_codU G b cb cs B (Nat.pos_of_ne_zero fun h => h0 (by rw [h]; rfl)) hn) (w_49 G) (w_50 G) (w_44 G) (w_51 G) (by decide) [1] [] (σf := [(ac, cc), (a, c)]) rfl rfl [(.ref b), (.int cs.length.toInt32)] [(.ref a)] rfl (lenOf pd_8 rfl) rfl rfl d_jdk_42_method_149_code_45 rfl (by first | exact Nat.le_of_ble_eq_true rfl | (simp; done) | (simp; omega) | omega) (by first | exact Nat.le_of_ble_eq_true rfl | (simp; done) | (simp; omega) | omega) (by first | exact Nat.le_of_ble_eq_true rfl | (simp; done) | (simp; omega) | omega) (by first | exact Nat.le_of_ble_eq_true rfl | (simp; done) | (simp; omega) | omega) ?_
    rintro _ _ _ T24 ⟨rfl, rfl, rfl⟩ W25
    replace W25 : Wk l Z EL1 ({ frames := 4, cells := 2, slots := 3 * cs.length, locals := 57 } : Room) "java/lang/String" jdk_42_method_149_code 6 none "<init>" X [(b, cb), (ac, cc), (a, c)] [] T24 2 (0 + 3 * cs.length + 0) := W25
    show Go Z EL1 _ _ _ X T24 48 #[.val (.ref a), .val (.ref ac), .val (.int (0 : Int32)), .val (.int cs.length.toInt32), .val (.null), .val (.ref b)] [(.int (1 : Int32)), (.ref a)]
    refine Go.putfield (pc' := 51) W25 2 rfl (w_26 G) Via.refl hC hO (Or.inr ⟨(w_22 G), rfl, rfl⟩) (w_7 G) (ty := .byte) (v' := .int (1 : Int32)) (by decide) rfl rfl d_jdk_42_method_149_code_48 rfl (fun T26 c28 q29 W27 => ?_)
    replace W27 : Wk l Z EL1 ({ frames := 4, cells := 2, slots := 3 * cs.length, locals := 57 } : Room) "java/lang/String" jdk_42_method_149_code 6 none "<init>" X [(b, cb), (ac, cc), (a, c28)] [] T26 2 (0 + 3 * cs.length + 0) := W27
    have O30 := hO.put' q29
    have F31 := hC.put' q29
    have F32 := hV.keep' q29 (slot_ne (Or.inr (w_21 G)) (Or.inr (w_22 G)) (by decide) (t := (.array .byte)) (t' := .byte) (by decide) (by decide))
    refine Go.aloadN (pc' := 52) W27 d_jdk_42_method_149_code_51 rfl rfl rfl ?_
    refine Go.aload (pc' := 54) W27 d_jdk_42_method_149_code_52 rfl rfl rfl ?_
    refine Go.putfield (pc' := 57) W27 2 rfl (w_25 G) Via.refl F32 O30 (Or.inr ⟨(w_21 G), rfl, rfl⟩) (w_7 G) (ty := (.array .byte)) (v' := .ref b) (by decide) rfl rfl d_jdk_42_method_149_code_54 rfl (fun T33 c35 q36 W34 => ?_)
    replace W34 : Wk l Z EL1 ({ frames := 4, cells := 2, slots := 3 * cs.length, locals := 57 } : Room) "java/lang/String" jdk_42_method_149_code 6 none "<init>" X [(b, cb), (ac, cc), (a, c35)] [] T33 2 (0 + 3 * cs.length + 0) := W34
    have O37 := O30.put' q36
    have F38 := F31.keep' q36 (slot_ne (Or.inr (w_22 G)) (Or.inr (w_21 G)) (by decide) (t := .byte) (t' := (.array .byte)) (by decide) (by decide))
    have F39 := F32.put' q36
    have W40 := W34.freeze [2, 0] (σi := [(a, c35), (b, cb)]) (σf := [(ac, cc)]) rfl
    replace W40 : Wk l Z EL1 ({ frames := 4, cells := 2, slots := 3 * cs.length, locals := 57 } : Room) "java/lang/String" jdk_42_method_149_code 6 none "<init>" X [(ac, cc)] [(a, c35), (b, cb)] T33 2 (0 + 3 * cs.length + 0) := W40
    refine Go.retV W40 d_jdk_42_method_149_code_57 (by first | exact Nat.le_of_ble_eq_true rfl | (simp; done) | (simp; omega) | omega) (by first | exact Nat.le_of_ble_eq_true rfl | (simp; done) | (simp; omega) | omega) ?_
    exact ⟨_, b, cb, rfl, rfl, rfl, Or.inr ⟨O37, F38, F39, B, hc⟩⟩
theorem d_jdk_42_method_149_code_8 : decode jdk_42_method_149_code 8 = .ok (.aload_n 0, 1) := by decide +kernel
theorem d_jdk_42_method_149_code_9 : decode jdk_42_method_149_code 9 = .ok (.ldc 7, 2) := by decide +kernel
theorem w_19 {Z : State} {a0 : Array Value} (G : Cl Z a0) : (Jvm.Cond.stringLink "java/lang/String" 7 "").before a0 Z = true := G.1 _ (List.mem_of_getElem? (l := tables_1) (i := 19) rfl)
theorem d_jdk_42_method_149_code_11 : decode jdk_42_method_149_code 11 = .ok (.getfield 9, 3) := by decide +kernel
theorem d_jdk_42_method_149_code_14 : decode jdk_42_method_149_code 14 = .ok (.putfield 9, 3) := by decide +kernel
theorem d_jdk_42_method_149_code_17 : decode jdk_42_method_149_code 17 = .ok (.aload_n 0, 1) := by decide +kernel
theorem d_jdk_42_method_149_code_18 : decode jdk_42_method_149_code 18 = .ok (.ldc 7, 2) := by decide +kernel
theorem d_jdk_42_method_149_code_20 : decode jdk_42_method_149_code 20 = .ok (.getfield 15, 3) := by decide +kernel
theorem d_jdk_42_method_149_code_23 : decode jdk_42_method_149_code 23 = .ok (.putfield 15, 3) := by decide +kernel
theorem d_jdk_42_method_149_code_26 : decode jdk_42_method_149_code 26 = .ok (.return_, 1) := by decide +kernel
set_option maxRecDepth 65536 in
set_option maxHeartbeats 40000000 in
theorem rm_initV0 {l : Launch} {Z : State} {a0 : Array Value} (G : Cl Z a0) (a ac : Addr) (c cc : Cell) (A : ArrC Z cc .char []) (hO : ObjC Z c "java/lang/String") (hC : FldC Z c "java/lang/String" "coder" "B" (.int 0)) (hV : FldC Z c "java/lang/String" "value" "[B" .null) :
    Met l Z EL1 (⟨"java/lang/String", "<init>", "([CIILjava/lang/Void;)V"⟩ : MethodName) jdk_42_method_149_code 6 none ({ frames := 1, cells := 4, slots := 8, locals := 12 } : Room) #[.ref a, .ref ac, .int (0 : Int32), .int (0 : Int32), .null] [(a, c), (ac, cc)] [] (fun v σ ρ => ∃ c' b cb, v = none ∧ σ = [(ac, cc)] ∧ ρ = [(a, c'), (b, cb)] ∧ StrL Z c' b cb []) := by
  refine Met.walk G.2.1 pn_7 #[.val (.ref a), .val (.ref ac), .val (.int (0 : Int32)), .val (.int (0 : Int32)), .val (.null), .unset] (fun m => by first | (simp [entryFrame, mkF, argsToLocals, Value.category]; done) | rfl) ?_
  intro X T0 W0
  refine Go.aloadN (pc' := 1) W0 d_jdk_42_method_149_code_0 rfl rfl rfl ?_
  refine Go.objInit (pc' := 4) W0 (w_16 G) (w_17 G) (w_18 G) rfl d_jdk_42_method_149_code_1 rfl (by first | exact Nat.le_of_ble_eq_true rfl | (simp; done) | (simp; omega) | omega) (by first | exact Nat.le_of_ble_eq_true rfl | (simp; done) | (simp; omega) | omega) (fun T1 W2 => ?_)
  refine Go.iloadN (pc' := 5) W2 d_jdk_42_method_149_code_4 rfl rfl ?_
  refine Go.if_ne (pc' := 8) W2 27 d_jdk_42_method_149_code_5 (by decide) rfl (fun q => absurd (by decide) q) (fun _ => ?_)
  refine Go.aloadN (pc' := 9) W2 d_jdk_42_method_149_code_8 rfl rfl rfl ?_
  refine Go.ldcStr (pc' := 11) W2 G.2.1 (w_19 G) (strAtoms G) (by decide) (bs := []) (z := 0) (by decide +kernel) (by decide) (by decide) (by decide) d_jdk_42_method_149_code_9 rfl (m := 0) (by decide +kernel) (by decide) (by first | exact Nat.le_of_ble_eq_true rfl | (simp; done) | (simp; omega) | omega) (by first | exact Nat.le_of_ble_eq_true rfl | (simp; done) | (simp; omega) | omega) (fun T3 a5 b6 c7 c8 W4 O9 F10 F11 A12 => ?_)
  replace W4 : Wk l Z EL1 ({ frames := 1, cells := 4, slots := 8, locals := 12 } : Room) "java/lang/String" jdk_42_method_149_code 6 none "<init>" X [(a, c), (ac, cc)] [(a5, c7), (b6, c8)] T3 2 (4) := W4
  refine Go.getfield (pc' := 14) W4 (Or.inr (Or.inl (List.mem_of_getElem? (i := 0) rfl))) (w_25 G) Via.refl F11 d_jdk_42_method_149_code_11 rfl (fun T13 W14 => ?_)
  refine Go.putfield (pc' := 17) W14 0 rfl (w_25 G) Via.refl hV hO (Or.inr ⟨(w_21 G), rfl, rfl⟩) (w_7 G) (ty := (.array .byte)) (v' := .ref b6) (by decide) rfl rfl d_jdk_42_method_149_code_14 rfl (fun T15 c17 q18 W16 => ?_)
  replace W16 : Wk l Z EL1 ({ frames := 1, cells := 4, slots := 8, locals := 12 } : Room) "java/lang/String" jdk_42_method_149_code 6 none "<init>" X [(a, c17), (ac, cc)] [(a5, c7), (b6, c8)] T15 2 (4) := W16
  have O19 := hO.put' q18
  have F20 := hC.keep' q18 (slot_ne (Or.inr (w_22 G)) (Or.inr (w_21 G)) (by decide) (t := .byte) (t' := (.array .byte)) (by decide) (by decide))
  have F21 := hV.put' q18
  refine Go.aloadN (pc' := 18) W16 d_jdk_42_method_149_code_17 rfl rfl rfl ?_
  refine Go.ldcStr (pc' := 20) W16 G.2.1 (w_19 G) (strAtoms G) (by decide) (bs := []) (z := 0) (by decide +kernel) (by decide) (by decide) (by decide) d_jdk_42_method_149_code_18 rfl (m := 0) (by decide +kernel) (by decide) (by first | exact Nat.le_of_ble_eq_true rfl | (simp; done) | (simp; omega) | omega) (by first | exact Nat.le_of_ble_eq_true rfl | (simp; done) | (simp; omega) | omega) (fun T22 a24 b25 c26 c27 W23 O28 F29 F30 A31 => ?_)
  replace W23 : Wk l Z EL1 ({ frames := 1, cells := 4, slots := 8, locals := 12 } : Room) "java/lang/String" jdk_42_method_149_code 6 none "<init>" X [(a, c17), (ac, cc)] [(a24, c26), (b25, c27), (a5, c7), (b6, c8)] T22 4 (8) := W23
  refine Go.getfield (pc' := 23) W23 (Or.inr (Or.inl (List.mem_of_getElem? (i := 0) rfl))) (w_26 G) Via.refl F29 d_jdk_42_method_149_code_20 rfl (fun T32 W33 => ?_)
  refine Go.putfield (pc' := 26) W33 0 rfl (w_26 G) Via.refl F20 O19 (Or.inr ⟨(w_22 G), rfl, rfl⟩) (w_7 G) (ty := .byte) (v' := .int (0 : Int32)) (by decide) rfl rfl d_jdk_42_method_149_code_23 rfl (fun T34 c36 q37 W35 => ?_)
  replace W35 : Wk l Z EL1 ({ frames := 1, cells := 4, slots := 8, locals := 12 } : Room) "java/lang/String" jdk_42_method_149_code 6 none "<init>" X [(a, c36), (ac, cc)] [(a24, c26), (b25, c27), (a5, c7), (b6, c8)] T34 4 (8) := W35
  have O38 := O19.put' q37
  have F39 := F20.put' q37
  have F40 := F21.keep' q37 (slot_ne (Or.inr (w_21 G)) (Or.inr (w_22 G)) (by decide) (t := (.array .byte)) (t' := .byte) (by decide) (by decide))
  have W41 := W35.freeze [0] (σi := [(a, c36)]) (σf := [(ac, cc)]) rfl
  replace W41 : Wk l Z EL1 ({ frames := 1, cells := 4, slots := 8, locals := 12 } : Room) "java/lang/String" jdk_42_method_149_code 6 none "<init>" X [(ac, cc)] [(a, c36), (a24, c26), (b25, c27), (a5, c7), (b6, c8)] T34 4 (8) := W41
  have W42 := W41.keepRo [0, 4] (ρ' := [(a, c36), (b6, c8)]) rfl
  replace W42 : Wk l Z EL1 ({ frames := 1, cells := 4, slots := 8, locals := 12 } : Room) "java/lang/String" jdk_42_method_149_code 6 none "<init>" X [(ac, cc)] [(a, c36), (b6, c8)] T34 4 (8) := W42
  refine Go.retV W42 d_jdk_42_method_149_code_26 (by first | exact Nat.le_of_ble_eq_true rfl | (simp; done) | (simp; omega) | omega) (by first | exact Nat.le_of_ble_eq_true rfl | (simp; done) | (simp; omega) | omega) ?_
  exact ⟨_, b6, c8, rfl, rfl, rfl, O38, F39, F40, A12, Lat.nil⟩
theorem d_jdk_42_method_3_code_0 : decode jdk_42_method_3_code 0 = .ok (.aload_n 0, 1) := by decide +kernel
theorem d_jdk_42_method_3_code_1 : decode jdk_42_method_3_code 1 = .ok (.aload_n 1, 1) := by decide +kernel
theorem d_jdk_42_method_3_code_2 : decode jdk_42_method_3_code 2 = .ok (.iconst 0, 1) := by decide +kernel
theorem d_jdk_42_method_3_code_3 : decode jdk_42_method_3_code 3 = .ok (.aload_n 1, 1) := by decide +kernel
theorem d_jdk_42_method_3_code_4 : decode jdk_42_method_3_code 4 = .ok (.arraylength, 1) := by decide +kernel
theorem d_jdk_42_method_3_code_5 : decode jdk_42_method_3_code 5 = .ok (.aconst_null, 1) := by decide +kernel
theorem d_jdk_42_method_3_code_6 : decode jdk_42_method_3_code 6 = .ok (.invokespecial 27, 3) := by decide +kernel
theorem w_12 {Z : State} {a0 : Array Value} (G : Cl Z a0) : (Jvm.Cond.methodLink "java/lang/String" 27 (⟨"java/lang/String", "<init>", "([CIILjava/lang/Void;)V"⟩ : MethodName)).before a0 Z = true := G.1 _ (List.mem_of_getElem? (l := tables_1) (i := 12) rfl)
theorem w_8 {Z : State} {a0 : Array Value} (G : Cl Z a0) : (Jvm.Cond.initialized "java/lang/String").before a0 Z = true := G.1 _ (List.mem_of_getElem? (l := tables_1) (i := 8) rfl)
theorem w_15 {Z : State} {a0 : Array Value} (G : Cl Z a0) : (Jvm.Cond.code (⟨"java/lang/String", "<init>", "([CIILjava/lang/Void;)V"⟩ : MethodName) jdk_42_method_149_code 6 none).before a0 Z = true := G.1 _ (List.mem_of_getElem? (l := tables_1) (i := 15) rfl)
theorem pd_9 : parseMethodDescriptor "([CIILjava/lang/Void;)V" = some ⟨[(.array .char), .int, .int, (.object "java/lang/Void")], none⟩ := by decide +kernel
theorem w_13 {Z : State} {a0 : Array Value} (G : Cl Z a0) : (Jvm.Cond.instanceMethod (⟨"java/lang/String", "<init>", "([CIILjava/lang/Void;)V"⟩ : MethodName)).before a0 Z = true := G.1 _ (List.mem_of_getElem? (l := tables_1) (i := 13) rfl)
theorem d_jdk_42_method_3_code_9 : decode jdk_42_method_3_code 9 = .ok (.return_, 1) := by decide +kernel
set_option maxRecDepth 65536 in
set_option maxHeartbeats 40000000 in
theorem rm_initC0 {l : Launch} {Z : State} {a0 : Array Value} (G : Cl Z a0) (a ac : Addr) (c cc : Cell) (A : ArrC Z cc .char []) (hO : ObjC Z c "java/lang/String") (hC : FldC Z c "java/lang/String" "coder" "B" (.int 0)) (hV : FldC Z c "java/lang/String" "value" "[B" .null) :
    Met l Z EL1 (⟨"java/lang/String", "<init>", "([C)V"⟩ : MethodName) jdk_42_method_3_code 2 none ({ frames := 2, cells := 4, slots := 8, locals := 29 } : Room) #[.ref a, .ref ac] [(a, c), (ac, cc)] [] (fun v σ ρ => ∃ c' b cb, v = none ∧ σ = [(ac, cc)] ∧ ρ = [(a, c'), (b, cb)] ∧ StrL Z c' b cb []) := by
  refine Met.walk G.2.1 pn_7 #[.val (.ref a), .val (.ref ac)] (fun m => by first | (simp [entryFrame, mkF, argsToLocals, Value.category]; done) | rfl) ?_
  intro X T0 W0
  refine Go.aloadN (pc' := 1) W0 d_jdk_42_method_3_code_0 rfl rfl rfl ?_
  refine Go.aloadN (pc' := 2) W0 d_jdk_42_method_3_code_1 rfl rfl rfl ?_
  refine Go.iconst (pc' := 3) W0 (0 : Int32) d_jdk_42_method_3_code_2 (by decide) rfl ?_
  refine Go.aloadN (pc' := 4) W0 d_jdk_42_method_3_code_3 rfl rfl rfl ?_
  refine Go.arrlen (pc' := 5) W0 (Or.inl (List.mem_of_getElem? (i := 1) rfl)) A (0 : Int32) rfl d_jdk_42_method_3_code_4 rfl ?_
  refine Go.aconstNull (pc' := 6) W0 d_jdk_42_method_3_code_5 rfl ?_
  refine Go.special (pc' := 9) W0 (a := a) (rm_initV0 G a ac c cc A hO hC hV) rfl (w_12 G) (w_13 G) (w_8 G) (w_15 G) (by decide) [0, 0] [] (σf := []) rfl rfl [(.ref ac), (.int (0 : Int32)), (.int (0 : Int32)), (.null)] [] rfl (lenOf pd_9 rfl) rfl rfl d_jdk_42_method_3_code_6 rfl (by first | exact Nat.le_of_ble_eq_true rfl | (simp; done) | (simp; omega) | omega) (by first | exact Nat.le_of_ble_eq_true rfl | (simp; done) | (simp; omega) | omega) (by first | exact Nat.le_of_ble_eq_true rfl | (simp; done) | (simp; omega) | omega) (by first | exact Nat.le_of_ble_eq_true rfl | (simp; done) | (simp; omega) | omega) ?_
  rintro _ _ _ T1 ⟨c', b, cb, rfl, rfl, rfl, S⟩ W2
  replace W2 : Wk l Z EL1 ({ frames := 2, cells := 4, slots := 8, locals := 29 } : Room) "java/lang/String" jdk_42_method_3_code 2 none "<init>" X [(ac, cc)] [(a, c'), (b, cb)] T1 4 (8) := W2
  show Go Z EL1 _ _ _ X T1 9 #[.val (.ref a), .val (.ref ac)] []
  refine Go.retV W2 d_jdk_42_method_3_code_9 (by first | exact Nat.le_of_ble_eq_true rfl | (simp; done) | (simp; omega) | omega) (by first | exact Nat.le_of_ble_eq_true rfl | (simp; done) | (simp; omega) | omega) ?_
  exact ⟨c', b, cb, rfl, rfl, rfl, S⟩
set_option maxRecDepth 65536 in
set_option maxHeartbeats 40000000 in
theorem rm_initC {l : Launch} {Z : State} {a0 : Array Value} (G : Cl Z a0) (a ac : Addr) (c cc : Cell) (cs : List Int32) (A : ArrC Z cc .char (chV cs)) (hO : ObjC Z c "java/lang/String") (hC : FldC Z c "java/lang/String" "coder" "B" (.int 0)) (hV : FldC Z c "java/lang/String" "value" "[B" .null) (hc : Chr cs) (hn : cs.length < 65536) (h0 : ¬ cs.length.toInt32 = 0) :
    Met l Z EL1 (⟨"java/lang/String", "<init>", "([C)V"⟩ : MethodName) jdk_42_method_3_code 2 none ({ frames := 5, cells := 2, slots := 3 * cs.length, locals := 74 } : Room) #[.ref a, .ref ac] [(a, c), (ac, cc)] [] (fun v σ ρ => ∃ c' b cb, v = none ∧ σ = [(ac, cc)] ∧ ρ = [(a, c'), (b, cb)] ∧ StrG Z c' b cb cs) := by
  refine Met.walk G.2.1 pn_7 #[.val (.ref a), .val (.ref ac)] (fun m => by first | (simp [entryFrame, mkF, argsToLocals, Value.category]; done) | rfl) ?_
  intro X T0 W0
  refine Go.aloadN (pc' := 1) W0 d_jdk_42_method_3_code_0 rfl rfl rfl ?_
  refine Go.aloadN (pc' := 2) W0 d_jdk_42_method_3_code_1 rfl rfl rfl ?_
  refine Go.iconst (pc' := 3) W0 (0 : Int32) d_jdk_42_method_3_code_2 (by decide) rfl ?_
  refine Go.aloadN (pc' := 4) W0 d_jdk_42_method_3_code_3 rfl rfl rfl ?_
  refine Go.arrlen (pc' := 5) W0 (Or.inl (List.mem_of_getElem? (i := 1) rfl)) A cs.length.toInt32 (by rw [chV, List.length_map]) d_jdk_42_method_3_code_4 rfl ?_
  refine Go.aconstNull (pc' := 6) W0 d_jdk_42_method_3_code_5 rfl ?_
  refine Go.special (pc' := 9) W0 (a := a) (rm_initV G a ac c cc cs A hO hC hV hc hn h0) rfl (w_12 G) (w_13 G) (w_8 G) (w_15 G) (by decide) [0, 0] [] (σf := []) rfl rfl [(.ref ac), (.int (0 : Int32)), (.int cs.length.toInt32), (.null)] [] rfl (lenOf pd_9 rfl) rfl rfl d_jdk_42_method_3_code_6 rfl (by first | exact Nat.le_of_ble_eq_true rfl | (simp; done) | (simp; omega) | omega) (by first | exact Nat.le_of_ble_eq_true rfl | (simp; done) | (simp; omega) | omega) (by first | exact Nat.le_of_ble_eq_true rfl | (simp; done) | (simp; omega) | omega) (by first | exact Nat.le_of_ble_eq_true rfl | (simp; done) | (simp; omega) | omega) ?_
  rintro _ _ _ T1 ⟨c', b, cb, rfl, rfl, rfl, S⟩ W2
  replace W2 : Wk l Z EL1 ({ frames := 5, cells := 2, slots := 3 * cs.length, locals := 74 } : Room) "java/lang/String" jdk_42_method_3_code 2 none "<init>" X [(ac, cc)] [(a, c'), (b, cb)] T1 2 (0 + 3 * cs.length) := W2
  show Go Z EL1 _ _ _ X T1 9 #[.val (.ref a), .val (.ref ac)] []
  refine Go.retV W2 d_jdk_42_method_3_code_9 (by first | exact Nat.le_of_ble_eq_true rfl | (simp; done) | (simp; omega) | omega) (by first | exact Nat.le_of_ble_eq_true rfl | (simp; done) | (simp; omega) | omega) ?_
  exact ⟨c', b, cb, rfl, rfl, rfl, S⟩
theorem d_jdk_42_method_152_code_0 : decode jdk_42_method_152_code 0 = .ok (.getstatic 38, 3) := by decide +kernel
theorem d_jdk_42_method_152_code_3 : decode jdk_42_method_152_code 3 = .ok (.ifCond .eq 10, 3) := by decide +kernel
theorem d_jdk_42_method_152_code_6 : decode jdk_42_method_152_code 6 = .ok (.aload_n 0, 1) := by decide +kernel
theorem d_jdk_42_method_152_code_7 : decode jdk_42_method_152_code 7 = .ok (.getfield 15, 3) := by decide +kernel
theorem d_jdk_42_method_152_code_10 : decode jdk_42_method_152_code 10 = .ok (.goto 4, 3) := by decide +kernel
theorem d_jdk_42_method_152_code_14 : decode jdk_42_method_152_code 14 = .ok (.ireturn, 1) := by decide +kernel
set_option maxRecDepth 65536 in
set_option maxHeartbeats 40000000 in
theorem rm_coder {l : Launch} {Z : State} {a0 : Array Value} (G : Cl Z a0) (a b : Addr) (c cb : Cell) (cs : List Int32) (S : StrL Z c b cb cs) :
    Met l Z EL1 (⟨"java/lang/String", "coder", "()B"⟩ : MethodName) jdk_42_method_152_code 1 (some .byte) ({ frames := 0, cells := 0, slots := 0, locals := 0 } : Room) #[.ref a] [] [(a, c)] (fun v σ ρ => v = some (.int 0) ∧ σ = [] ∧ ρ = []) := by
  refine Met.walk G.2.1 pn_7 #[.val (.ref a)] (fun m => by first | (simp [entryFrame, mkF, argsToLocals, Value.category]; done) | rfl) ?_
  intro X T0 W0
  obtain ⟨cv, Scv, hcv⟩ := G.2.2.1
  refine Go.getstatic (pc' := 3) W0 (w_41 G) Via.refl Scv d_jdk_42_method_152_code_0 rfl (fun T1 W2 => ?_)
  refine Go.if_eq (pc' := 6) W2 13 d_jdk_42_method_152_code_3 (by decide) rfl (fun q => absurd q hcv) (fun _ => ?_)
  refine Go.aloadN (pc' := 7) W2 d_jdk_42_method_152_code_6 rfl rfl rfl ?_
  refine Go.getfield (pc' := 10) W2 (Or.inr (Or.inl (List.mem_of_getElem? (i := 0) rfl))) (w_26 G) Via.refl S.2.1 d_jdk_42_method_152_code_7 rfl (fun T3 W4 => ?_)
  refine Go.goto W4 14 d_jdk_42_method_152_code_10 (by decide) ?_
  have W5 := W4.keepRo [] (ρ' := []) rfl
  replace W5 : Wk l Z EL1 ({ frames := 0, cells := 0, slots := 0, locals := 0 } : Room) "java/lang/String" jdk_42_method_152_code 1 (some .byte) "coder" X [] [] T3 0 (0) := W5
  refine Go.nret (z' := (0 : Int32)) W5 (by simp) (by decide) d_jdk_42_method_152_code_14 (by first | exact Nat.le_of_ble_eq_true rfl | (simp; done) | (simp; omega) | omega) (by first | exact Nat.le_of_ble_eq_true rfl | (simp; done) | (simp; omega) | omega) ?_
  exact ⟨rfl, rfl, rfl⟩
theorem d_jdk_42_method_54_code_0 : decode jdk_42_method_54_code 0 = .ok (.aload_n 0, 1) := by decide +kernel
theorem d_jdk_42_method_54_code_1 : decode jdk_42_method_54_code 1 = .ok (.getfield 9, 3) := by decide +kernel
theorem d_jdk_42_method_54_code_4 : decode jdk_42_method_54_code 4 = .ok (.arraylength, 1) := by decide +kernel
theorem d_jdk_42_method_54_code_5 : decode jdk_42_method_54_code 5 = .ok (.aload_n 0, 1) := by decide +kernel
theorem d_jdk_42_method_54_code_6 : decode jdk_42_method_54_code 6 = .ok (.invokevirtual 335, 3) := by decide +kernel
theorem w_36 {Z : State} {a0 : Array Value} (G : Cl Z a0) : (Jvm.Cond.methodLink "java/lang/String" 335 (⟨"java/lang/String", "coder", "()B"⟩ : MethodName)).before a0 Z = true := G.1 _ (List.mem_of_getElem? (l := tables_1) (i := 36) rfl)
theorem w_40 {Z : State} {a0 : Array Value} (G : Cl Z a0) : (Jvm.Cond.code (⟨"java/lang/String", "coder", "()B"⟩ : MethodName) jdk_42_method_152_code 1 (some .byte)).before a0 Z = true := G.1 _ (List.mem_of_getElem? (l := tables_1) (i := 40) rfl)
theorem pd_10 : parseMethodDescriptor "()B" = some ⟨[], some .byte⟩ := by decide +kernel
theorem w_37 {Z : State} {a0 : Array Value} (G : Cl Z a0) : (Jvm.Cond.declares (⟨"java/lang/String", "coder", "()B"⟩ : MethodName)).before a0 Z = true := G.1 _ (List.mem_of_getElem? (l := tables_1) (i := 37) rfl)
theorem w_39 {Z : State} {a0 : Array Value} (G : Cl Z a0) : (Jvm.Cond.selects "java/lang/String" (⟨"java/lang/String", "coder", "()B"⟩ : MethodName) (⟨"java/lang/String", "coder", "()B"⟩ : MethodName)).before a0 Z = true := G.1 _ (List.mem_of_getElem? (l := tables_1) (i := 39) rfl)
theorem w_38 {Z : State} {a0 : Array Value} (G : Cl Z a0) : (Jvm.Cond.instanceMethod (⟨"java/lang/String", "coder", "()B"⟩ : MethodName)).before a0 Z = true := G.1 _ (List.mem_of_getElem? (l := tables_1) (i := 38) rfl)
theorem d_jdk_42_method_54_code_9 : decode jdk_42_method_54_code 9 = .ok (.ishr, 1) := by decide +kernel
theorem d_jdk_42_method_54_code_10 : decode jdk_42_method_54_code 10 = .ok (.ireturn, 1) := by decide +kernel
set_option maxRecDepth 65536 in
set_option maxHeartbeats 40000000 in
theorem rm_len {l : Launch} {Z : State} {a0 : Array Value} (G : Cl Z a0) (a b : Addr) (c cb : Cell) (cs : List Int32) (S : StrL Z c b cb cs) :
    Met l Z EL1 (⟨"java/lang/String", "length", "()I"⟩ : MethodName) jdk_42_method_54_code 1 (some .int) ({ frames := 1, cells := 0, slots := 0, locals := 13 } : Room) #[.ref a] [] [(a, c), (b, cb)] (fun v σ ρ => v = some (.int cs.length.toInt32) ∧ σ = [] ∧ ρ = []) := by
  refine Met.walk G.2.1 pn_7 #[.val (.ref a)] (fun m => by first | (simp [entryFrame, mkF, argsToLocals, Value.category]; done) | rfl) ?_
  intro X T0 W0
  refine Go.aloadN (pc' := 1) W0 d_jdk_42_method_54_code_0 rfl rfl rfl ?_
  refine Go.getfield (pc' := 4) W0 (Or.inr (Or.inl (List.mem_of_getElem? (i := 0) rfl))) (w_25 G) Via.refl S.2.2.1 d_jdk_42_method_54_code_1 rfl (fun T1 W2 => ?_)
  refine Go.arrlen (pc' := 5) W2 (Or.inr (Or.inl (List.mem_of_getElem? (i := 1) rfl))) S.2.2.2.1 cs.length.toInt32 (by rw [latB, List.length_map]) d_jdk_42_method_54_code_4 rfl ?_
  refine Go.aloadN (pc' := 6) W2 d_jdk_42_method_54_code_5 rfl rfl rfl ?_
  refine Go.virtual (pc' := 9) W2 (rm_coder G a b c cb cs S) (Or.inr (Or.inl (List.mem_of_getElem? (i := 0) rfl))) S.1 (w_36 G) (w_37 G) (w_39 G) (w_38 G) (w_8 G) (w_40 G) (by decide) [] [0] (σf := []) rfl rfl [] [(.int cs.length.toInt32)] rfl (lenOf pd_10 rfl) rfl rfl d_jdk_42_method_54_code_6 rfl (by first | exact Nat.le_of_ble_eq_true rfl | (simp; done) | (simp; omega) | omega) (by first | exact Nat.le_of_ble_eq_true rfl | (simp; done) | (simp; omega) | omega) (by first | exact Nat.le_of_ble_eq_true rfl | (simp; done) | (simp; omega) | omega) (by first | exact Nat.le_of_ble_eq_true rfl | (simp; done) | (simp; omega) | omega) ?_
  rintro _ _ _ T3 ⟨rfl, rfl, rfl⟩ W4
  replace W4 : Wk l Z EL1 ({ frames := 1, cells := 0, slots := 0, locals := 13 } : Room) "java/lang/String" jdk_42_method_54_code 1 (some .int) "length" X [] [(a, c), (b, cb)] T3 0 (0) := W4
  show Go Z EL1 _ _ _ X T3 9 #[.val (.ref a)] [(.int (0 : Int32)), (.int cs.length.toInt32)]
  refine Go.ishr (pc' := 10) W4 d_jdk_42_method_54_code_9 rfl ?_
  have W5 := W4.keepRo [] (ρ' := []) rfl
  replace W5 : Wk l Z EL1 ({ frames := 1, cells := 0, slots := 0, locals := 13 } : Room) "java/lang/String" jdk_42_method_54_code 1 (some .int) "length" X [] [] T3 0 (0) := W5
  refine Go.iret W5 d_jdk_42_method_54_code_10 (by first | exact Nat.le_of_ble_eq_true rfl | (simp; done) | (simp; omega) | omega) (by first | exact Nat.le_of_ble_eq_true rfl | (simp; done) | (simp; omega) | omega) ?_
  exact ⟨by rw [shr0], rfl, rfl⟩
set_option maxRecDepth 65536 in
set_option maxHeartbeats 40000000 in
theorem rm_coderU {l : Launch} {Z : State} {a0 : Array Value} (G : Cl Z a0) (a b : Addr) (c cb : Cell) (cs : List Int32) (S : StrU Z c b cb cs) :
    Met l Z EL1 (⟨"java/lang/String", "coder", "()B"⟩ : MethodName) jdk_42_method_152_code 1 (some .byte) ({ frames := 0, cells := 0, slots := 0, locals := 0 } : Room) #[.ref a] [] [(a, c)] (fun v σ ρ => v = some (.int 1) ∧ σ = [] ∧ ρ = []) := by
  refine Met.walk G.2.1 pn_7 #[.val (.ref a)] (fun m => by first | (simp [entryFrame, mkF, argsToLocals, Value.category]; done) | rfl) ?_
  intro X T0 W0
  obtain ⟨cv, Scv, hcv⟩ := G.2.2.1
  refine Go.getstatic (pc' := 3) W0 (w_41 G) Via.refl Scv d_jdk_42_method_152_code_0 rfl (fun T1 W2 => ?_)
  refine Go.if_eq (pc' := 6) W2 13 d_jdk_42_method_152_code_3 (by decide) rfl (fun q => absurd q hcv) (fun _ => ?_)
  refine Go.aloadN (pc' := 7) W2 d_jdk_42_method_152_code_6 rfl rfl rfl ?_
  refine Go.getfield (pc' := 10) W2 (Or.inr (Or.inl (List.mem_of_getElem? (i := 0) rfl))) (w_26 G) Via.refl S.2.1 d_jdk_42_method_152_code_7 rfl (fun T3 W4 => ?_)
  refine Go.goto W4 14 d_jdk_42_method_152_code_10 (by decide) ?_
  have W5 := W4.keepRo [] (ρ' := []) rfl
  replace W5 : Wk l Z EL1 ({ frames := 0, cells := 0, slots := 0, locals := 0 } : Room) "java/lang/String" jdk_42_method_152_code 1 (some .byte) "coder" X [] [] T3 0 (0) := W5
  refine Go.nret (z' := (1 : Int32)) W5 (by simp) (by decide) d_jdk_42_method_152_code_14 (by first | exact Nat.le_of_ble_eq_true rfl | (simp; done) | (simp; omega) | omega) (by first | exact Nat.le_of_ble_eq_true rfl | (simp; done) | (simp; omega) | omega) ?_
  exact ⟨rfl, rfl, rfl⟩
set_option maxRecDepth 65536 in
set_option maxHeartbeats 40000000 in
theorem rm_lenU {l : Launch} {Z : State} {a0 : Array Value} (G : Cl Z a0) (a b : Addr) (c cb : Cell) (cs : List Int32) (S : StrU Z c b cb cs) :
    Met l Z EL1 (⟨"java/lang/String", "length", "()I"⟩ : MethodName) jdk_42_method_54_code 1 (some .int) ({ frames := 1, cells := 0, slots := 0, locals := 13 } : Room) #[.ref a] [] [(a, c), (b, cb)] (fun v σ ρ => v = some (.int cs.length.toInt32) ∧ σ = [] ∧ ρ = []) := by
  refine Met.walk G.2.1 pn_7 #[.val (.ref a)] (fun m => by first | (simp [entryFrame, mkF, argsToLocals, Value.category]; done) | rfl) ?_
  intro X T0 W0
  refine Go.aloadN (pc' := 1) W0 d_jdk_42_method_54_code_0 rfl rfl rfl ?_
  refine Go.getfield (pc' := 4) W0 (Or.inr (Or.inl (List.mem_of_getElem? (i := 0) rfl))) (w_25 G) Via.refl S.2.2.1 d_jdk_42_method_54_code_1 rfl (fun T1 W2 => ?_)
  refine Go.arrlen (pc' := 5) W2 (Or.inr (Or.inl (List.mem_of_getElem? (i := 1) rfl))) S.2.2.2.1 ((2 * cs.length).toInt32) (by rw [utfB_len]) d_jdk_42_method_54_code_4 rfl ?_
  refine Go.aloadN (pc' := 6) W2 d_jdk_42_method_54_code_5 rfl rfl rfl ?_
  refine Go.virtual (pc' := 9) W2 (rm_coderU G a b c cb cs S) (Or.inr (Or.inl (List.mem_of_getElem? (i := 0) rfl))) S.1 (w_36 G) (w_37 G) (w_39 G) (w_38 G) (w_8 G) (w_40 G) (by decide) [] [0] (σf := []) rfl rfl [] [(.int ((2 * cs.length).toInt32))] rfl (lenOf pd_10 rfl) rfl rfl d_jdk_42_method_54_code_6 rfl (by first | exact Nat.le_of_ble_eq_true rfl | (simp; done) | (simp; omega) | omega) (by first | exact Nat.le_of_ble_eq_true rfl | (simp; done) | (simp; omega) | omega) (by first | exact Nat.le_of_ble_eq_true rfl | (simp; done) | (simp; omega) | omega) (by first | exact Nat.le_of_ble_eq_true rfl | (simp; done) | (simp; omega) | omega) ?_
  rintro _ _ _ T3 ⟨rfl, rfl, rfl⟩ W4
  replace W4 : Wk l Z EL1 ({ frames := 1, cells := 0, slots := 0, locals := 13 } : Room) "java/lang/String" jdk_42_method_54_code 1 (some .int) "length" X [] [(a, c), (b, cb)] T3 0 (0) := W4
  show Go Z EL1 _ _ _ X T3 9 #[.val (.ref a)] [(.int (1 : Int32)), (.int ((2 * cs.length).toInt32))]
  refine Go.ishr (pc' := 10) W4 d_jdk_42_method_54_code_9 rfl ?_
  have W5 := W4.keepRo [] (ρ' := []) rfl
  replace W5 : Wk l Z EL1 ({ frames := 1, cells := 0, slots := 0, locals := 13 } : Room) "java/lang/String" jdk_42_method_54_code 1 (some .int) "length" X [] [] T3 0 (0) := W5
  refine Go.iret W5 d_jdk_42_method_54_code_10 (by first | exact Nat.le_of_ble_eq_true rfl | (simp; done) | (simp; omega) | omega) (by first | exact Nat.le_of_ble_eq_true rfl | (simp; done) | (simp; omega) | omega) ?_
  exact ⟨by rw [shr1 (by have := S.2.2.2.1.2.2.2.2; rw [utfB_len] at this; omega)], rfl, rfl⟩
theorem rm_lenG {l : Launch} {Z : State} {a0 : Array Value} (G : Cl Z a0) (a b : Addr) (c cb : Cell) (cs : List Int32) (S : StrG Z c b cb cs) :
    Met l Z EL1 (⟨"java/lang/String", "length", "()I"⟩ : MethodName) jdk_42_method_54_code 1 (some .int) ({ frames := 1, cells := 0, slots := 0, locals := 13 } : Room) #[.ref a] [] [(a, c), (b, cb)] (fun v σ ρ => v = some (.int cs.length.toInt32) ∧ σ = [] ∧ ρ = []) := S.elim (rm_len G a b c cb cs) (rm_lenU G a b c cb cs)
theorem pn_11 : plainName "jdk/internal/util/Preconditions" = true := by first | (simp [plainName, overriddenIn]; done) | decide +kernel
theorem d_jdk_41_method_11_code_0 : decode jdk_41_method_11_code 0 = .ok (.iload_n 0, 1) := by decide +kernel
theorem d_jdk_41_method_11_code_1 : decode jdk_41_method_11_code 1 = .ok (.ifCond .lt 8, 3) := by decide +kernel
theorem d_jdk_41_method_11_code_4 : decode jdk_41_method_11_code 4 = .ok (.iload_n 0, 1) := by decide +kernel
theorem d_jdk_41_method_11_code_5 : decode jdk_41_method_11_code 5 = .ok (.iload_n 1, 1) := by decide +kernel
theorem d_jdk_41_method_11_code_6 : decode jdk_41_method_11_code 6 = .ok (.if_icmp .lt 10, 3) := by decide +kernel
theorem d_jdk_41_method_11_code_16 : decode jdk_41_method_11_code 16 = .ok (.iload_n 0, 1) := by decide +kernel
theorem d_jdk_41_method_11_code_17 : decode jdk_41_method_11_code 17 = .ok (.ireturn, 1) := by decide +kernel
set_option maxRecDepth 65536 in
set_option maxHeartbeats 40000000 in
theorem rm_pci {l : Launch} {Z : State} {a0 : Array Value} (G : Cl Z a0) (i n : Int32) (h0 : ¬ i < 0) (h1 : i < n) (fv : Value) (hf : fv.isRef = true) :
    Met l Z EL1 (⟨"jdk/internal/util/Preconditions", "checkIndex", "(IILjava/util/function/BiFunction;)I"⟩ : MethodName) jdk_41_method_11_code 3 (some .int) ({ frames := 0, cells := 0, slots := 0, locals := 0 } : Room) #[.int i, .int n, fv] [] [] (fun v σ ρ => v = some (.int i) ∧ σ = [] ∧ ρ = []) := by
  refine Met.walk G.2.1 pn_11 #[.val (.int i), .val (.int n), .val (fv)] (fun m => by rcases ref_cases hf with rfl | ⟨_, rfl⟩ <;> first | (simp [entryFrame, mkF, argsToLocals, Value.category]; done) | rfl) ?_
  intro X T0 W0
  refine Go.iloadN (pc' := 1) W0 d_jdk_41_method_11_code_0 rfl rfl ?_
  refine Go.if_lt (pc' := 4) W0 9 d_jdk_41_method_11_code_1 (by decide) rfl (fun q => absurd q h0) (fun _ => ?_)
  refine Go.iloadN (pc' := 5) W0 d_jdk_41_method_11_code_4 rfl rfl ?_
  refine Go.iloadN (pc' := 6) W0 d_jdk_41_method_11_code_5 rfl rfl ?_
  refine Go.icmp_lt (pc' := 9) W0 16 d_jdk_41_method_11_code_6 (by decide) rfl (fun _ => ?_) (fun q => absurd h1 q)
  refine Go.iloadN (pc' := 17) W0 d_jdk_41_method_11_code_16 rfl rfl ?_
  refine Go.iret W0 d_jdk_41_method_11_code_17 (by first | exact Nat.le_of_ble_eq_true rfl | (simp; done) | (simp; omega) | omega) (by first | exact Nat.le_of_ble_eq_true rfl | (simp; done) | (simp; omega) | omega) ?_
  exact ⟨rfl, rfl, rfl⟩
theorem d_jdk_42_method_155_code_0 : decode jdk_42_method_155_code 0 = .ok (.iload_n 0, 1) := by decide +kernel
theorem d_jdk_42_method_155_code_1 : decode jdk_42_method_155_code 1 = .ok (.iload_n 1, 1) := by decide +kernel
theorem d_jdk_42_method_155_code_2 : decode jdk_42_method_155_code 2 = .ok (.getstatic 1053, 3) := by decide +kernel
theorem w_72 {Z : State} {a0 : Array Value} (G : Cl Z a0) : (Jvm.Cond.fieldLink "java/lang/String" 1053 "jdk/internal/util/Preconditions" "SIOOBE_FORMATTER" "Ljava/util/function/BiFunction;").before a0 Z = true := G.1 _ (List.mem_of_getElem? (l := tables_1) (i := 72) rfl)
theorem d_jdk_42_method_155_code_5 : decode jdk_42_method_155_code 5 = .ok (.invokestatic 1059, 3) := by decide +kernel
theorem w_74 {Z : State} {a0 : Array Value} (G : Cl Z a0) : (Jvm.Cond.methodLink "java/lang/String" 1059 (⟨"jdk/internal/util/Preconditions", "checkIndex", "(IILjava/util/function/BiFunction;)I"⟩ : MethodName)).before a0 Z = true := G.1 _ (List.mem_of_getElem? (l := tables_1) (i := 74) rfl)
theorem w_73 {Z : State} {a0 : Array Value} (G : Cl Z a0) : (Jvm.Cond.initialized "jdk/internal/util/Preconditions").before a0 Z = true := G.1 _ (List.mem_of_getElem? (l := tables_1) (i := 73) rfl)
theorem w_76 {Z : State} {a0 : Array Value} (G : Cl Z a0) : (Jvm.Cond.code (⟨"jdk/internal/util/Preconditions", "checkIndex", "(IILjava/util/function/BiFunction;)I"⟩ : MethodName) jdk_41_method_11_code 3 (some .int)).before a0 Z = true := G.1 _ (List.mem_of_getElem? (l := tables_1) (i := 76) rfl)
theorem pd_12 : parseMethodDescriptor "(IILjava/util/function/BiFunction;)I" = some ⟨[.int, .int, (.object "java/util/function/BiFunction")], some .int⟩ := by decide +kernel
theorem w_75 {Z : State} {a0 : Array Value} (G : Cl Z a0) : (Jvm.Cond.static (⟨"jdk/internal/util/Preconditions", "checkIndex", "(IILjava/util/function/BiFunction;)I"⟩ : MethodName)).before a0 Z = true := G.1 _ (List.mem_of_getElem? (l := tables_1) (i := 75) rfl)
theorem d_jdk_42_method_155_code_8 : decode jdk_42_method_155_code 8 = .ok (.pop, 1) := by decide +kernel
theorem d_jdk_42_method_155_code_9 : decode jdk_42_method_155_code 9 = .ok (.return_, 1) := by decide +kernel
set_option maxRecDepth 65536 in
set_option maxHeartbeats 40000000 in
theorem rm_cki {l : Launch} {Z : State} {a0 : Array Value} (G : Cl Z a0) (i n : Int32) (h0 : ¬ i < 0) (h1 : i < n) :
    Met l Z EL1 (⟨"java/lang/String", "checkIndex", "(II)V"⟩ : MethodName) jdk_42_method_155_code 2 none ({ frames := 1, cells := 0, slots := 0, locals := 14 } : Room) #[.int i, .int n] [] [] (fun v σ ρ => v = none ∧ σ = [] ∧ ρ = []) := by
  refine Met.walk G.2.1 pn_7 #[.val (.int i), .val (.int n)] (fun m => by first | (simp [entryFrame, mkF, argsToLocals, Value.category]; done) | rfl) ?_
  intro X T0 W0
  obtain ⟨fv, Sfv, hf⟩ := G.2.2.2.1
  refine Go.iloadN (pc' := 1) W0 d_jdk_42_method_155_code_0 rfl rfl ?_
  refine Go.iloadN (pc' := 2) W0 d_jdk_42_method_155_code_1 rfl rfl ?_
  refine Go.getstatic (pc' := 5) W0 (w_72 G) Via.refl Sfv d_jdk_42_method_155_code_2 rfl (fun T1 W2 => ?_)
  refine Go.static (pc' := 8) W2 (rm_pci G i n h0 h1 fv hf) (w_74 G) (w_75 G) (w_73 G) (w_76 G) (by decide) [] [] (σf := []) rfl rfl [(.int i), (.int n), (fv)] [] rfl (lenOf pd_12 rfl) rfl rfl d_jdk_42_method_155_code_5 rfl (by first | exact Nat.le_of_ble_eq_true rfl | (simp; done) | (simp; omega) | omega) (by first | exact Nat.le_of_ble_eq_true rfl | (simp; done) | (simp; omega) | omega) (by first | exact Nat.le_of_ble_eq_true rfl | (simp; done) | (simp; omega) | omega) (by first | exact Nat.le_of_ble_eq_true rfl | (simp; done) | (simp; omega) | omega) ?_
  rintro _ _ _ T3 ⟨rfl, rfl, rfl⟩ W4
  replace W4 : Wk l Z EL1 ({ frames := 1, cells := 0, slots := 0, locals := 14 } : Room) "java/lang/String" jdk_42_method_155_code 2 none "checkIndex" X [] [] T3 0 (0) := W4
  show Go Z EL1 _ _ _ X T3 8 #[.val (.int i), .val (.int n)] [(.int i)]
  refine Go.pop (pc' := 9) W4 d_jdk_42_method_155_code_8 rfl rfl ?_
  refine Go.retV W4 d_jdk_42_method_155_code_9 (by first | exact Nat.le_of_ble_eq_true rfl | (simp; done) | (simp; omega) | omega) (by first | exact Nat.le_of_ble_eq_true rfl | (simp; done) | (simp; omega) | omega) ?_
  exact ⟨rfl, rfl, rfl⟩
theorem d_jdk_42_method_154_code_0 : decode jdk_42_method_154_code 0 = .ok (.getstatic 38, 3) := by decide +kernel
theorem d_jdk_42_method_154_code_3 : decode jdk_42_method_154_code 3 = .ok (.ifCond .eq 14, 3) := by decide +kernel
theorem d_jdk_42_method_154_code_6 : decode jdk_42_method_154_code 6 = .ok (.aload_n 0, 1) := by decide +kernel
theorem d_jdk_42_method_154_code_7 : decode jdk_42_method_154_code 7 = .ok (.getfield 15, 3) := by decide +kernel
theorem d_jdk_42_method_154_code_10 : decode jdk_42_method_154_code 10 = .ok (.ifCond .ne 7, 3) := by decide +kernel
theorem d_jdk_42_method_154_code_13 : decode jdk_42_method_154_code 13 = .ok (.iconst 1, 1) := by decide +kernel
theorem d_jdk_42_method_154_code_14 : decode jdk_42_method_154_code 14 = .ok (.goto 4, 3) := by decide +kernel
theorem d_jdk_42_method_154_code_18 : decode jdk_42_method_154_code 18 = .ok (.ireturn, 1) := by decide +kernel
set_option maxRecDepth 65536 in
set_option maxHeartbeats 40000000 in
theorem rm_isl {l : Launch} {Z : State} {a0 : Array Value} (G : Cl Z a0) (a b : Addr) (c cb : Cell) (cs : List Int32) (S : StrL Z c b cb cs) :
    Met l Z EL1 (⟨"java/lang/String", "isLatin1", "()Z"⟩ : MethodName) jdk_42_method_154_code 1 (some .boolean) ({ frames := 0, cells := 0, slots := 0, locals := 0 } : Room) #[.ref a] [] [(a, c)] (fun v σ ρ => v = some (.int 1) ∧ σ = [] ∧ ρ = []) := by
  refine Met.walk G.2.1 pn_7 #[.val (.ref a)] (fun m => by first | (simp [entryFrame, mkF, argsToLocals, Value.category]; done) | rfl) ?_
  intro X T0 W0
  obtain ⟨cv, Scv, hcv⟩ := G.2.2.1
  refine Go.getstatic (pc' := 3) W0 (w_41 G) Via.refl Scv d_jdk_42_method_154_code_0 rfl (fun T1 W2 => ?_)
  refine Go.if_eq (pc' := 6) W2 17 d_jdk_42_method_154_code_3 (by decide) rfl (fun q => absurd q hcv) (fun _ => ?_)
  refine Go.aloadN (pc' := 7) W2 d_jdk_42_method_154_code_6 rfl rfl rfl ?_
  refine Go.getfield (pc' := 10) W2 (Or.inr (Or.inl (List.mem_of_getElem? (i := 0) rfl))) (w_26 G) Via.refl S.2.1 d_jdk_42_method_154_code_7 rfl (fun T3 W4 => ?_)
  refine Go.if_ne (pc' := 13) W4 17 d_jdk_42_method_154_code_10 (by decide) rfl (fun q => absurd (by decide) q) (fun _ => ?_)
  refine Go.iconst (pc' := 14) W4 (1 : Int32) d_jdk_42_method_154_code_13 (by decide) rfl ?_
  refine Go.goto W4 18 d_jdk_42_method_154_code_14 (by decide) ?_
  have W5 := W4.keepRo [] (ρ' := []) rfl
  replace W5 : Wk l Z EL1 ({ frames := 0, cells := 0, slots := 0, locals := 0 } : Room) "java/lang/String" jdk_42_method_154_code 1 (some .boolean) "isLatin1" X [] [] T3 0 (0) := W5
  refine Go.nret (z' := (1 : Int32)) W5 (by simp) (by decide) d_jdk_42_method_154_code_18 (by first | exact Nat.le_of_ble_eq_true rfl | (simp; done) | (simp; omega) | omega) (by first | exact Nat.le_of_ble_eq_true rfl | (simp; done) | (simp; omega) | omega) ?_
  exact ⟨rfl, rfl, rfl⟩
theorem pn_13 : plainName "java/lang/StringLatin1" = true := by first | (simp [plainName, overriddenIn]; done) | decide +kernel
theorem d_jdk_43_method_2_code_0 : decode jdk_43_method_2_code 0 = .ok (.iload_n 1, 1) := by decide +kernel
theorem d_jdk_43_method_2_code_1 : decode jdk_43_method_2_code 1 = .ok (.aload_n 0, 1) := by decide +kernel
theorem d_jdk_43_method_2_code_2 : decode jdk_43_method_2_code 2 = .ok (.arraylength, 1) := by decide +kernel
theorem d_jdk_43_method_2_code_3 : decode jdk_43_method_2_code 3 = .ok (.invokestatic 9, 3) := by decide +kernel
theorem w_69 {Z : State} {a0 : Array Value} (G : Cl Z a0) : (Jvm.Cond.methodLink "java/lang/StringLatin1" 9 (⟨"java/lang/String", "checkIndex", "(II)V"⟩ : MethodName)).before a0 Z = true := G.1 _ (List.mem_of_getElem? (l := tables_1) (i := 69) rfl)
theorem w_71 {Z : State} {a0 : Array Value} (G : Cl Z a0) : (Jvm.Cond.code (⟨"java/lang/String", "checkIndex", "(II)V"⟩ : MethodName) jdk_42_method_155_code 2 none).before a0 Z = true := G.1 _ (List.mem_of_getElem? (l := tables_1) (i := 71) rfl)
theorem pd_14 : parseMethodDescriptor "(II)V" = some ⟨[.int, .int], none⟩ := by decide +kernel
theorem w_70 {Z : State} {a0 : Array Value} (G : Cl Z a0) : (Jvm.Cond.static (⟨"java/lang/String", "checkIndex", "(II)V"⟩ : MethodName)).before a0 Z = true := G.1 _ (List.mem_of_getElem? (l := tables_1) (i := 70) rfl)
theorem d_jdk_43_method_2_code_6 : decode jdk_43_method_2_code 6 = .ok (.aload_n 0, 1) := by decide +kernel
theorem d_jdk_43_method_2_code_7 : decode jdk_43_method_2_code 7 = .ok (.iload_n 1, 1) := by decide +kernel
theorem d_jdk_43_method_2_code_8 : decode jdk_43_method_2_code 8 = .ok (.baload, 1) := by decide +kernel
theorem d_jdk_43_method_2_code_9 : decode jdk_43_method_2_code 9 = .ok (.sipush 255, 3) := by decide +kernel
theorem d_jdk_43_method_2_code_12 : decode jdk_43_method_2_code 12 = .ok (.iand, 1) := by decide +kernel
theorem d_jdk_43_method_2_code_13 : decode jdk_43_method_2_code 13 = .ok (.i2c, 1) := by decide +kernel
theorem d_jdk_43_method_2_code_14 : decode jdk_43_method_2_code 14 = .ok (.ireturn, 1) := by decide +kernel
set_option maxRecDepth 65536 in
set_option maxHeartbeats 40000000 in
theorem rm_lch {l : Launch} {Z : State} {a0 : Array Value} (G : Cl Z a0) (b : Addr) (cb : Cell) (cs : List Int32) (i : Nat) (x : Int32) (B : ArrC Z cb .byte (latB cs)) (hL : ¬ x < 0 ∧ ¬ (255 : Int32) < x) (hx : cs[i]? = some x) :
    Met l Z EL1 (⟨"java/lang/StringLatin1", "charAt", "([BI)C"⟩ : MethodName) jdk_43_method_2_code 2 (some .char) ({ frames := 2, cells := 0, slots := 0, locals := 27 } : Room) #[.ref b, .int i.toInt32] [] [(b, cb)] (fun v σ ρ => v = some (.int x) ∧ σ = [] ∧ ρ = []) := by
  refine Met.walk G.2.1 pn_13 #[.val (.ref b), .val (.int i.toInt32)] (fun m => by first | (simp [entryFrame, mkF, argsToLocals, Value.category]; done) | rfl) ?_
  intro X T0 W0
  have hi := (List.getElem?_eq_some_iff.mp hx).1
  have hn : cs.length < 2147483648 := by have := B.2.2.2.2; rwa [latB, List.length_map] at this
  refine Go.iloadN (pc' := 1) W0 d_jdk_43_method_2_code_0 rfl rfl ?_
  refine Go.aloadN (pc' := 2) W0 d_jdk_43_method_2_code_1 rfl rfl rfl ?_
  refine Go.arrlen (pc' := 3) W0 (Or.inr (Or.inl (List.mem_of_getElem? (i := 0) rfl))) B cs.length.toInt32 (by rw [latB, List.length_map]) d_jdk_43_method_2_code_2 rfl ?_
  refine Go.static (pc' := 6) W0 (rm_cki G i.toInt32 cs.length.toInt32 (i32_nn (by omega)) ((i32_lt (by omega) hn).mpr hi)) (w_69 G) (w_70 G) (w_8 G) (w_71 G) (by decide) [] [] (σf := []) rfl rfl [(.int i.toInt32), (.int cs.length.toInt32)] [] rfl (lenOf pd_14 rfl) rfl rfl d_jdk_43_method_2_code_3 rfl (by first | exact Nat.le_of_ble_eq_true rfl | (simp; done) | (simp; omega) | omega) (by first | exact Nat.le_of_ble_eq_true rfl | (simp; done) | (simp; omega) | omega) (by first | exact Nat.le_of_ble_eq_true rfl | (simp; done) | (simp; omega) | omega) (by first | exact Nat.le_of_ble_eq_true rfl | (simp; done) | (simp; omega) | omega) ?_
  rintro _ _ _ T1 ⟨rfl, rfl, rfl⟩ W2
  replace W2 : Wk l Z EL1 ({ frames := 2, cells := 0, slots := 0, locals := 27 } : Room) "java/lang/StringLatin1" jdk_43_method_2_code 2 (some .char) "charAt" X [] [(b, cb)] T1 0 (0) := W2
  show Go Z EL1 _ _ _ X T1 6 #[.val (.ref b), .val (.int i.toInt32)] []
  refine Go.aloadN (pc' := 7) W2 d_jdk_43_method_2_code_6 rfl rfl rfl ?_
  refine Go.iloadN (pc' := 8) W2 d_jdk_43_method_2_code_7 rfl rfl ?_
  refine Go.baload (pc' := 9) W2 (Or.inr (Or.inl (List.mem_of_getElem? (i := 0) rfl))) B i (i32_nn (by omega)) (i32_clamp (by omega)) (v := lo8 x) (by rw [latB, List.getElem?_map, hx]; rfl) d_jdk_43_method_2_code_8 rfl ?_
  refine Go.sipush (pc' := 12) W2 (255 : Int32) d_jdk_43_method_2_code_9 (by decide) rfl ?_
  refine Go.iand (pc' := 13) W2 d_jdk_43_method_2_code_12 rfl ?_
  refine Go.i2c (pc' := 14) W2 d_jdk_43_method_2_code_13 rfl ?_
  rw [i2c_id (lat_char (and255 _)).1 (lat_char (and255 _)).2]
  have W3 := W2.keepRo [] (ρ' := []) rfl
  replace W3 : Wk l Z EL1 ({ frames := 2, cells := 0, slots := 0, locals := 27 } : Room) "java/lang/StringLatin1" jdk_43_method_2_code 2 (some .char) "charAt" X [] [] T1 0 (0) := W3
  refine Go.nret (z' := x) W3 (by simp) (by rw [byte_back hL, nar_char_id (lat_char hL)]) d_jdk_43_method_2_code_14 (by first | exact Nat.le_of_ble_eq_true rfl | (simp; done) | (simp; omega) | omega) (by first | exact Nat.le_of_ble_eq_true rfl | (simp; done) | (simp; omega) | omega) ?_
  exact ⟨rfl, rfl, rfl⟩
theorem d_jdk_42_method_56_code_0 : decode jdk_42_method_56_code 0 = .ok (.aload_n 0, 1) := by decide +kernel
theorem d_jdk_42_method_56_code_1 : decode jdk_42_method_56_code 1 = .ok (.invokevirtual 492, 3) := by decide +kernel
theorem w_60 {Z : State} {a0 : Array Value} (G : Cl Z a0) : (Jvm.Cond.methodLink "java/lang/String" 492 (⟨"java/lang/String", "isLatin1", "()Z"⟩ : MethodName)).before a0 Z = true := G.1 _ (List.mem_of_getElem? (l := tables_1) (i := 60) rfl)
theorem w_64 {Z : State} {a0 : Array Value} (G : Cl Z a0) : (Jvm.Cond.code (⟨"java/lang/String", "isLatin1", "()Z"⟩ : MethodName) jdk_42_method_154_code 1 (some .boolean)).before a0 Z = true := G.1 _ (List.mem_of_getElem? (l := tables_1) (i := 64) rfl)
theorem pd_15 : parseMethodDescriptor "()Z" = some ⟨[], some .boolean⟩ := by decide +kernel
theorem w_61 {Z : State} {a0 : Array Value} (G : Cl Z a0) : (Jvm.Cond.declares (⟨"java/lang/String", "isLatin1", "()Z"⟩ : MethodName)).before a0 Z = true := G.1 _ (List.mem_of_getElem? (l := tables_1) (i := 61) rfl)
theorem w_63 {Z : State} {a0 : Array Value} (G : Cl Z a0) : (Jvm.Cond.selects "java/lang/String" (⟨"java/lang/String", "isLatin1", "()Z"⟩ : MethodName) (⟨"java/lang/String", "isLatin1", "()Z"⟩ : MethodName)).before a0 Z = true := G.1 _ (List.mem_of_getElem? (l := tables_1) (i := 63) rfl)
theorem w_62 {Z : State} {a0 : Array Value} (G : Cl Z a0) : (Jvm.Cond.instanceMethod (⟨"java/lang/String", "isLatin1", "()Z"⟩ : MethodName)).before a0 Z = true := G.1 _ (List.mem_of_getElem? (l := tables_1) (i := 62) rfl)
theorem d_jdk_42_method_56_code_4 : decode jdk_42_method_56_code 4 = .ok (.ifCond .eq 12, 3) := by decide +kernel
theorem d_jdk_42_method_56_code_7 : decode jdk_42_method_56_code 7 = .ok (.aload_n 0, 1) := by decide +kernel
theorem d_jdk_42_method_56_code_8 : decode jdk_42_method_56_code 8 = .ok (.getfield 9, 3) := by decide +kernel
theorem d_jdk_42_method_56_code_11 : decode jdk_42_method_56_code 11 = .ok (.iload_n 1, 1) := by decide +kernel
theorem d_jdk_42_method_56_code_12 : decode jdk_42_method_56_code 12 = .ok (.invokestatic 495, 3) := by decide +kernel
theorem w_65 {Z : State} {a0 : Array Value} (G : Cl Z a0) : (Jvm.Cond.methodLink "java/lang/String" 495 (⟨"java/lang/StringLatin1", "charAt", "([BI)C"⟩ : MethodName)).before a0 Z = true := G.1 _ (List.mem_of_getElem? (l := tables_1) (i := 65) rfl)
theorem w_67 {Z : State} {a0 : Array Value} (G : Cl Z a0) : (Jvm.Cond.initialized "java/lang/StringLatin1").before a0 Z = true := G.1 _ (List.mem_of_getElem? (l := tables_1) (i := 67) rfl)
theorem w_68 {Z : State} {a0 : Array Value} (G : Cl Z a0) : (Jvm.Cond.code (⟨"java/lang/StringLatin1", "charAt", "([BI)C"⟩ : MethodName) jdk_43_method_2_code 2 (some .char)).before a0 Z = true := G.1 _ (List.mem_of_getElem? (l := tables_1) (i := 68) rfl)
theorem w_66 {Z : State} {a0 : Array Value} (G : Cl Z a0) : (Jvm.Cond.static (⟨"java/lang/StringLatin1", "charAt", "([BI)C"⟩ : MethodName)).before a0 Z = true := G.1 _ (List.mem_of_getElem? (l := tables_1) (i := 66) rfl)
theorem d_jdk_42_method_56_code_15 : decode jdk_42_method_56_code 15 = .ok (.ireturn, 1) := by decide +kernel
set_option maxRecDepth 65536 in
set_option maxHeartbeats 40000000 in
theorem rm_cha {l : Launch} {Z : State} {a0 : Array Value} (G : Cl Z a0) (a b : Addr) (c cb : Cell) (cs : List Int32) (S : StrL Z c b cb cs) (i : Nat) (x : Int32) (hx : cs[i]? = some x) :
    Met l Z EL1 (⟨"java/lang/String", "charAt", "(I)C"⟩ : MethodName) jdk_42_method_56_code 2 (some .char) ({ frames := 4, cells := 0, slots := 0, locals := 53 } : Room) #[.ref a, .int i.toInt32] [] [(a, c), (b, cb)] (fun v σ ρ => v = some (.int x) ∧ σ = [] ∧ ρ = []) := by
  refine Met.walk G.2.1 pn_7 #[.val (.ref a), .val (.int i.toInt32)] (fun m => by first | (simp [entryFrame, mkF, argsToLocals, Value.category]; done) | rfl) ?_
  intro X T0 W0
  refine Go.aloadN (pc' := 1) W0 d_jdk_42_method_56_code_0 rfl rfl rfl ?_
  refine Go.virtual (pc' := 4) W0 (rm_isl G a b c cb cs S) (Or.inr (Or.inl (List.mem_of_getElem? (i := 0) rfl))) S.1 (w_60 G) (w_61 G) (w_63 G) (w_62 G) (w_8 G) (w_64 G) (by decide) [] [0] (σf := []) rfl rfl [] [] rfl (lenOf pd_15 rfl) rfl rfl d_jdk_42_method_56_code_1 rfl (by first | exact Nat.le_of_ble_eq_true rfl | (simp; done) | (simp; omega) | omega) (by first | exact Nat.le_of_ble_eq_true rfl | (simp; done) | (simp; omega) | omega) (by first | exact Nat.le_of_ble_eq_true rfl | (simp; done) | (simp; omega) | omega) (by first | exact Nat.le_of_ble_eq_true rfl | (simp; done) | (simp; omega) | omega) ?_
  rintro _ _ _ T1 ⟨rfl, rfl, rfl⟩ W2
  replace W2 : Wk l Z EL1 ({ frames := 4, cells := 0, slots := 0, locals := 53 } : Room) "java/lang/String" jdk_42_method_56_code 2 (some .char) "charAt" X [] [(a, c), (b, cb)] T1 0 (0) := W2
  show Go Z EL1 _ _ _ X T1 4 #[.val (.ref a), .val (.int i.toInt32)] [(.int (1 : Int32))]
  refine Go.if_eq (pc' := 7) W2 16 d_jdk_42_method_56_code_4 (by decide) rfl (fun q => absurd q (by decide)) (fun _ => ?_)
  refine Go.aloadN (pc' := 8) W2 d_jdk_42_method_56_code_7 rfl rfl rfl ?_
  refine Go.getfield (pc' := 11) W2 (Or.inr (Or.inl (List.mem_of_getElem? (i := 0) rfl))) (w_25 G) Via.refl S.2.2.1 d_jdk_42_method_56_code_8 rfl (fun T3 W4 => ?_)
  refine Go.iloadN (pc' := 12) W4 d_jdk_42_method_56_code_11 rfl rfl ?_
  refine Go.static (pc' := 15) W4 (rm_lch G b cb cs i x S.2.2.2.1 (S.2.2.2.2 x (List.mem_of_getElem? hx)) hx) (w_65 G) (w_66 G) (w_67 G) (w_68 G) (by decide) [] [1] (σf := []) rfl rfl [(.ref b), (.int i.toInt32)] [] rfl (lenOf pd_6 rfl) rfl rfl d_jdk_42_method_56_code_12 rfl (by first | exact Nat.le_of_ble_eq_true rfl | (simp; done) | (simp; omega) | omega) (by first | exact Nat.le_of_ble_eq_true rfl | (simp; done) | (simp; omega) | omega) (by first | exact Nat.le_of_ble_eq_true rfl | (simp; done) | (simp; omega) | omega) (by first | exact Nat.le_of_ble_eq_true rfl | (simp; done) | (simp; omega) | omega) ?_
  rintro _ _ _ T5 ⟨rfl, rfl, rfl⟩ W6
  replace W6 : Wk l Z EL1 ({ frames := 4, cells := 0, slots := 0, locals := 53 } : Room) "java/lang/String" jdk_42_method_56_code 2 (some .char) "charAt" X [] [(a, c), (b, cb)] T5 0 (0) := W6
  show Go Z EL1 _ _ _ X T5 15 #[.val (.ref a), .val (.int i.toInt32)] [(.int x)]
  have W7 := W6.keepRo [] (ρ' := []) rfl
  replace W7 : Wk l Z EL1 ({ frames := 4, cells := 0, slots := 0, locals := 53 } : Room) "java/lang/String" jdk_42_method_56_code 2 (some .char) "charAt" X [] [] T5 0 (0) := W7
  refine Go.nret (z' := x) W7 (by simp) (nar_char_id (lat_char (S.2.2.2.2 x (List.mem_of_getElem? hx)))) d_jdk_42_method_56_code_15 (by first | exact Nat.le_of_ble_eq_true rfl | (simp; done) | (simp; omega) | omega) (by first | exact Nat.le_of_ble_eq_true rfl | (simp; done) | (simp; omega) | omega) ?_
  exact ⟨rfl, rfl, rfl⟩
theorem d_jdk_42_method_154_code_17 : decode jdk_42_method_154_code 17 = .ok (.iconst 0, 1) := by decide +kernel
set_option maxRecDepth 65536 in
set_option maxHeartbeats 40000000 in
theorem rm_islU {l : Launch} {Z : State} {a0 : Array Value} (G : Cl Z a0) (a b : Addr) (c cb : Cell) (cs : List Int32) (S : StrU Z c b cb cs) :
    Met l Z EL1 (⟨"java/lang/String", "isLatin1", "()Z"⟩ : MethodName) jdk_42_method_154_code 1 (some .boolean) ({ frames := 0, cells := 0, slots := 0, locals := 0 } : Room) #[.ref a] [] [(a, c)] (fun v σ ρ => v = some (.int 0) ∧ σ = [] ∧ ρ = []) := by
  refine Met.walk G.2.1 pn_7 #[.val (.ref a)] (fun m => by first | (simp [entryFrame, mkF, argsToLocals, Value.category]; done) | rfl) ?_
  intro X T0 W0
  obtain ⟨cv, Scv, hcv⟩ := G.2.2.1
  refine Go.getstatic (pc' := 3) W0 (w_41 G) Via.refl Scv d_jdk_42_method_154_code_0 rfl (fun T1 W2 => ?_)
  refine Go.if_eq (pc' := 6) W2 17 d_jdk_42_method_154_code_3 (by decide) rfl (fun q => absurd q hcv) (fun _ => ?_)
  refine Go.aloadN (pc' := 7) W2 d_jdk_42_method_154_code_6 rfl rfl rfl ?_
  refine Go.getfield (pc' := 10) W2 (Or.inr (Or.inl (List.mem_of_getElem? (i := 0) rfl))) (w_26 G) Via.refl S.2.1 d_jdk_42_method_154_code_7 rfl (fun T3 W4 => ?_)
  refine Go.if_ne (pc' := 13) W4 17 d_jdk_42_method_154_code_10 (by decide) rfl (fun _ => ?_) (fun q => absurd q (by decide))
  refine Go.iconst (pc' := 18) W4 (0 : Int32) d_jdk_42_method_154_code_17 (by decide) rfl ?_
  have W5 := W4.keepRo [] (ρ' := []) rfl
  replace W5 : Wk l Z EL1 ({ frames := 0, cells := 0, slots := 0, locals := 0 } : Room) "java/lang/String" jdk_42_method_154_code 1 (some .boolean) "isLatin1" X [] [] T3 0 (0) := W5
  refine Go.nret (z' := (0 : Int32)) W5 (by simp) (by decide) d_jdk_42_method_154_code_18 (by first | exact Nat.le_of_ble_eq_true rfl | (simp; done) | (simp; omega) | omega) (by first | exact Nat.le_of_ble_eq_true rfl | (simp; done) | (simp; omega) | omega) ?_
  exact ⟨rfl, rfl, rfl⟩
theorem d_jdk_52_method_6_code_0 : decode jdk_52_method_6_code 0 = .ok (.aload_n 0, 1) := by decide +kernel
theorem d_jdk_52_method_6_code_1 : decode jdk_52_method_6_code 1 = .ok (.arraylength, 1) := by decide +kernel
theorem d_jdk_52_method_6_code_2 : decode jdk_52_method_6_code 2 = .ok (.iconst 1, 1) := by decide +kernel
theorem d_jdk_52_method_6_code_3 : decode jdk_52_method_6_code 3 = .ok (.ishr, 1) := by decide +kernel
theorem d_jdk_52_method_6_code_4 : decode jdk_52_method_6_code 4 = .ok (.ireturn, 1) := by decide +kernel
set_option maxRecDepth 65536 in
set_option maxHeartbeats 40000000 in
theorem rm_uln {l : Launch} {Z : State} {a0 : Array Value} (G : Cl Z a0) (b : Addr) (cb : Cell) (cs : List Int32) (B : ArrC Z cb .byte (utfB cs)) :
    Met l Z EL1 (⟨"java/lang/StringUTF16", "length", "([B)I"⟩ : MethodName) jdk_52_method_6_code 1 (some .int) ({ frames := 0, cells := 0, slots := 0, locals := 0 } : Room) #[.ref b] [] [(b, cb)] (fun v σ ρ => v = some (.int cs.length.toInt32) ∧ σ = [] ∧ ρ = []) := by
  refine Met.walk G.2.1 pn_0 #[.val (.ref b)] (fun m => by first | (simp [entryFrame, mkF, argsToLocals, Value.category]; done) | rfl) ?_
  intro X T0 W0
  have hn := B.2.2.2.2
  rw [utfB_len] at hn
  refine Go.aloadN (pc' := 1) W0 d_jdk_52_method_6_code_0 rfl rfl rfl ?_
  refine Go.arrlen (pc' := 2) W0 (Or.inr (Or.inl (List.mem_of_getElem? (i := 0) rfl))) B ((2 * cs.length).toInt32) (by rw [utfB_len]) d_jdk_52_method_6_code_1 rfl ?_
  refine Go.iconst (pc' := 3) W0 (1 : Int32) d_jdk_52_method_6_code_2 (by decide) rfl ?_
  refine Go.ishr (pc' := 4) W0 d_jdk_52_method_6_code_3 rfl ?_
  have W1 := W0.keepRo [] (ρ' := []) rfl
  replace W1 : Wk l Z EL1 ({ frames := 0, cells := 0, slots := 0, locals := 0 } : Room) "java/lang/StringUTF16" jdk_52_method_6_code 1 (some .int) "length" X [] [] T0 0 (0) := W1
  refine Go.iret W1 d_jdk_52_method_6_code_4 (by first | exact Nat.le_of_ble_eq_true rfl | (simp; done) | (simp; omega) | omega) (by first | exact Nat.le_of_ble_eq_true rfl | (simp; done) | (simp; omega) | omega) ?_
  exact ⟨by rw [shr1 (by omega)], rfl, rfl⟩
theorem d_jdk_52_method_91_code_0 : decode jdk_52_method_91_code 0 = .ok (.iload_n 0, 1) := by decide +kernel
theorem d_jdk_52_method_91_code_1 : decode jdk_52_method_91_code 1 = .ok (.aload_n 1, 1) := by decide +kernel
theorem d_jdk_52_method_91_code_2 : decode jdk_52_method_91_code 2 = .ok (.invokestatic 48, 3) := by decide +kernel
theorem w_103 {Z : State} {a0 : Array Value} (G : Cl Z a0) : (Jvm.Cond.methodLink "java/lang/StringUTF16" 48 (⟨"java/lang/StringUTF16", "length", "([B)I"⟩ : MethodName)).before a0 Z = true := G.1 _ (List.mem_of_getElem? (l := tables_1) (i := 103) rfl)
theorem w_105 {Z : State} {a0 : Array Value} (G : Cl Z a0) : (Jvm.Cond.code (⟨"java/lang/StringUTF16", "length", "([B)I"⟩ : MethodName) jdk_52_method_6_code 1 (some .int)).before a0 Z = true := G.1 _ (List.mem_of_getElem? (l := tables_1) (i := 105) rfl)
theorem pd_16 : parseMethodDescriptor "([B)I" = some ⟨[(.array .byte)], some .int⟩ := by decide +kernel
theorem w_104 {Z : State} {a0 : Array Value} (G : Cl Z a0) : (Jvm.Cond.static (⟨"java/lang/StringUTF16", "length", "([B)I"⟩ : MethodName)).before a0 Z = true := G.1 _ (List.mem_of_getElem? (l := tables_1) (i := 104) rfl)
theorem d_jdk_52_method_91_code_5 : decode jdk_52_method_91_code 5 = .ok (.invokestatic 414, 3) := by decide +kernel
theorem w_106 {Z : State} {a0 : Array Value} (G : Cl Z a0) : (Jvm.Cond.methodLink "java/lang/StringUTF16" 414 (⟨"java/lang/String", "checkIndex", "(II)V"⟩ : MethodName)).before a0 Z = true := G.1 _ (List.mem_of_getElem? (l := tables_1) (i := 106) rfl)
theorem d_jdk_52_method_91_code_8 : decode jdk_52_method_91_code 8 = .ok (.return_, 1) := by decide +kernel
set_option maxRecDepth 65536 in
set_option maxHeartbeats 40000000 in
theorem rm_uck {l : Launch} {Z : State} {a0 : Array Value} (G : Cl Z a0) (b : Addr) (cb : Cell) (cs : List Int32) (B : ArrC Z cb .byte (utfB cs)) (i : Nat) (hi : i < cs.length) :
    Met l Z EL1 (⟨"java/lang/StringUTF16", "checkIndex", "(I[B)V"⟩ : MethodName) jdk_52_method_91_code 2 none ({ frames := 2, cells := 0, slots := 0, locals := 27 } : Room) #[.int i.toInt32, .ref b] [] [(b, cb)] (fun v σ ρ => v = none ∧ σ = [] ∧ ρ = []) := by
  refine Met.walk G.2.1 pn_0 #[.val (.int i.toInt32), .val (.ref b)] (fun m => by first | (simp [entryFrame, mkF, argsToLocals, Value.category]; done) | rfl) ?_
  intro X T0 W0
  have hn := B.2.2.2.2
  rw [utfB_len] at hn
  refine Go.iloadN (pc' := 1) W0 d_jdk_52_method_91_code_0 rfl rfl ?_
  refine Go.aloadN (pc' := 2) W0 d_jdk_52_method_91_code_1 rfl rfl rfl ?_
  refine Go.static (pc' := 5) W0 (rm_uln G b cb cs B) (w_103 G) (w_104 G) (w_44 G) (w_105 G) (by decide) [] [0] (σf := []) rfl rfl [(.ref b)] [(.int i.toInt32)] rfl (lenOf pd_16 rfl) rfl rfl d_jdk_52_method_91_code_2 rfl (by first | exact Nat.le_of_ble_eq_true rfl | (simp; done) | (simp; omega) | omega) (by first | exact Nat.le_of_ble_eq_true rfl | (simp; done) | (simp; omega) | omega) (by first | exact Nat.le_of_ble_eq_true rfl | (simp; done) | (simp; omega) | omega) (by first | exact Nat.le_of_ble_eq_true rfl | (simp; done) | (simp; omega) | omega) ?_
  rintro _ _ _ T1 ⟨rfl, rfl, rfl⟩ W2
  replace W2 : Wk l Z EL1 ({ frames := 2, cells := 0, slots := 0, locals := 27 } : Room) "java/lang/StringUTF16" jdk_52_method_91_code 2 none "checkIndex" X [] [(b, cb)] T1 0 (0) := W2
  show Go Z EL1 _ _ _ X T1 5 #[.val (.int i.toInt32), .val (.ref b)] [(.int cs.length.toInt32), (.int i.toInt32)]
  refine Go.static (pc' := 8) W2 (rm_cki G i.toInt32 cs.length.toInt32 (i32_nn (by omega)) ((i32_lt (by omega) (by omega)).mpr hi)) (w_106 G) (w_70 G) (w_8 G) (w_71 G) (by decide) [] [] (σf := []) rfl rfl [(.int i.toInt32), (.int cs.length.toInt32)] [] rfl (lenOf pd_14 rfl) rfl rfl d_jdk_52_method_91_code_5 rfl (by first | exact Nat.le_of_ble_eq_true rfl | (simp; done) | (simp; omega) | omega) (by first | exact Nat.le_of_ble_eq_true rfl | (simp; done) | (simp; omega) | omega) (by first | exact Nat.le_of_ble_eq_true rfl | (simp; done) | (simp; omega) | omega) (by first | exact Nat.le_of_ble_eq_true rfl | (simp; done) | (simp; omega) | omega) ?_
  rintro _ _ _ T3 ⟨rfl, rfl, rfl⟩ W4
  replace W4 : Wk l Z EL1 ({ frames := 2, cells := 0, slots := 0, locals := 27 } : Room) "java/lang/StringUTF16" jdk_52_method_91_code 2 none "checkIndex" X [] [(b, cb)] T3 0 (0) := W4
  show Go Z EL1 _ _ _ X T3 8 #[.val (.int i.toInt32), .val (.ref b)] []
  have W5 := W4.keepRo [] (ρ' := []) rfl
  replace W5 : Wk l Z EL1 ({ frames := 2, cells := 0, slots := 0, locals := 27 } : Room) "java/lang/StringUTF16" jdk_52_method_91_code 2 none "checkIndex" X [] [] T3 0 (0) := W5
  refine Go.retV W5 d_jdk_52_method_91_code_8 (by first | exact Nat.le_of_ble_eq_true rfl | (simp; done) | (simp; omega) | omega) (by first | exact Nat.le_of_ble_eq_true rfl | (simp; done) | (simp; omega) | omega) ?_
  exact ⟨rfl, rfl, rfl⟩
theorem d_jdk_52_method_83_code_0 : decode jdk_52_method_83_code 0 = .ok (.iload_n 1, 1) := by decide +kernel
theorem d_jdk_52_method_83_code_1 : decode jdk_52_method_83_code 1 = .ok (.aload_n 0, 1) := by decide +kernel
theorem d_jdk_52_method_83_code_2 : decode jdk_52_method_83_code 2 = .ok (.invokestatic 67, 3) := by decide +kernel
theorem w_100 {Z : State} {a0 : Array Value} (G : Cl Z a0) : (Jvm.Cond.methodLink "java/lang/StringUTF16" 67 (⟨"java/lang/StringUTF16", "checkIndex", "(I[B)V"⟩ : MethodName)).before a0 Z = true := G.1 _ (List.mem_of_getElem? (l := tables_1) (i := 100) rfl)
theorem w_102 {Z : State} {a0 : Array Value} (G : Cl Z a0) : (Jvm.Cond.code (⟨"java/lang/StringUTF16", "checkIndex", "(I[B)V"⟩ : MethodName) jdk_52_method_91_code 2 none).before a0 Z = true := G.1 _ (List.mem_of_getElem? (l := tables_1) (i := 102) rfl)
theorem pd_17 : parseMethodDescriptor "(I[B)V" = some ⟨[.int, (.array .byte)], none⟩ := by decide +kernel
theorem w_101 {Z : State} {a0 : Array Value} (G : Cl Z a0) : (Jvm.Cond.static (⟨"java/lang/StringUTF16", "checkIndex", "(I[B)V"⟩ : MethodName)).before a0 Z = true := G.1 _ (List.mem_of_getElem? (l := tables_1) (i := 101) rfl)
theorem d_jdk_52_method_83_code_5 : decode jdk_52_method_83_code 5 = .ok (.aload_n 0, 1) := by decide +kernel
theorem d_jdk_52_method_83_code_6 : decode jdk_52_method_83_code 6 = .ok (.iload_n 1, 1) := by decide +kernel
theorem d_jdk_52_method_83_code_7 : decode jdk_52_method_83_code 7 = .ok (.invokestatic 71, 3) := by decide +kernel
theorem d_jdk_52_method_83_code_10 : decode jdk_52_method_83_code 10 = .ok (.ireturn, 1) := by decide +kernel
set_option maxRecDepth 65536 in
set_option maxHeartbeats 40000000 in
theorem rm_uch {l : Launch} {Z : State} {a0 : Array Value} (G : Cl Z a0) (b : Addr) (cb : Cell) (cs : List Int32) (B : ArrC Z cb .byte (utfB cs)) (i : Nat) (x : Int32) (hL : ¬ x < 0 ∧ ¬ (65535 : Int32) < x) (hx : cs[i]? = some x) :
    Met l Z EL1 (⟨"java/lang/StringUTF16", "charAt", "([BI)C"⟩ : MethodName) jdk_52_method_83_code 2 (some .char) ({ frames := 3, cells := 0, slots := 0, locals := 40 } : Room) #[.ref b, .int i.toInt32] [] [(b, cb)] (fun v σ ρ => v = some (.int x) ∧ σ = [] ∧ ρ = []) := by
  refine Met.walk G.2.1 pn_0 #[.val (.ref b), .val (.int i.toInt32)] (fun m => by first | (simp [entryFrame, mkF, argsToLocals, Value.category]; done) | rfl) ?_
  intro X T0 W0
  refine Go.iloadN (pc' := 1) W0 d_jdk_52_method_83_code_0 rfl rfl ?_
  refine Go.aloadN (pc' := 2) W0 d_jdk_52_method_83_code_1 rfl rfl rfl ?_
  refine Go.static (pc' := 5) W0 (rm_uck G b cb cs B i (List.getElem?_eq_some_iff.mp hx).1) (w_100 G) (w_101 G) (w_44 G) (w_102 G) (by decide) [] [0] (σf := []) rfl rfl [(.int i.toInt32), (.ref b)] [] rfl (lenOf pd_17 rfl) rfl rfl d_jdk_52_method_83_code_2 rfl (by first | exact Nat.le_of_ble_eq_true rfl | (simp; done) | (simp; omega) | omega) (by first | exact Nat.le_of_ble_eq_true rfl | (simp; done) | (simp; omega) | omega) (by first | exact Nat.le_of_ble_eq_true rfl | (simp; done) | (simp; omega) | omega) (by first | exact Nat.le_of_ble_eq_true rfl | (simp; done) | (simp; omega) | omega) ?_
  rintro _ _ _ T1 ⟨rfl, rfl, rfl⟩ W2
  replace W2 : Wk l Z EL1 ({ frames := 3, cells := 0, slots := 0, locals := 40 } : Room) "java/lang/StringUTF16" jdk_52_method_83_code 2 (some .char) "charAt" X [] [(b, cb)] T1 0 (0) := W2
  show Go Z EL1 _ _ _ X T1 5 #[.val (.ref b), .val (.int i.toInt32)] []
  refine Go.aloadN (pc' := 6) W2 d_jdk_52_method_83_code_5 rfl rfl rfl ?_
  refine Go.iloadN (pc' := 7) W2 d_jdk_52_method_83_code_6 rfl rfl ?_
  refine Go.static (pc' := 10) W2 (rm_getR G b cb cs i x B hL hx) (w_94 G) (w_95 G) (w_44 G) (w_96 G) (by decide) [] [0] (σf := []) rfl rfl [(.ref b), (.int i.toInt32)] [] rfl (lenOf pd_6 rfl) rfl rfl d_jdk_52_method_83_code_7 rfl (by first | exact Nat.le_of_ble_eq_true rfl | (simp; done) | (simp; omega) | omega) (by first | exact Nat.le_of_ble_eq_true rfl | (simp; done) | (simp; omega) | omega) (by first | exact Nat.le_of_ble_eq_true rfl | (simp; done) | (simp; omega) | omega) (by first | exact Nat.le_of_ble_eq_true rfl | (simp; done) | (simp; omega) | omega) ?_
  rintro _ _ _ T3 ⟨rfl, rfl, rfl⟩ W4
  replace W4 : Wk l Z EL1 ({ frames := 3, cells := 0, slots := 0, locals := 40 } : Room) "java/lang/StringUTF16" jdk_52_method_83_code 2 (some .char) "charAt" X [] [(b, cb)] T3 0 (0) := W4
  show Go Z EL1 _ _ _ X T3 10 #[.val (.ref b), .val (.int i.toInt32)] [(.int x)]
  have W5 := W4.keepRo [] (ρ' := []) rfl
  replace W5 : Wk l Z EL1 ({ frames := 3, cells := 0, slots := 0, locals := 40 } : Room) "java/lang/StringUTF16" jdk_52_method_83_code 2 (some .char) "charAt" X [] [] T3 0 (0) := W5
  refine Go.nret (z' := x) W5 (by simp) (nar_char_id hL) d_jdk_52_method_83_code_10 (by first | exact Nat.le_of_ble_eq_true rfl | (simp; done) | (simp; omega) | omega) (by first | exact Nat.le_of_ble_eq_true rfl | (simp; done) | (simp; omega) | omega) ?_
  exact ⟨rfl, rfl, rfl⟩
theorem d_jdk_42_method_56_code_16 : decode jdk_42_method_56_code 16 = .ok (.aload_n 0, 1) := by decide +kernel
theorem d_jdk_42_method_56_code_17 : decode jdk_42_method_56_code 17 = .ok (.getfield 9, 3) := by decide +kernel
theorem d_jdk_42_method_56_code_20 : decode jdk_42_method_56_code 20 = .ok (.iload_n 1, 1) := by decide +kernel
theorem d_jdk_42_method_56_code_21 : decode jdk_42_method_56_code 21 = .ok (.invokestatic 498, 3) := by decide +kernel
theorem w_97 {Z : State} {a0 : Array Value} (G : Cl Z a0) : (Jvm.Cond.methodLink "java/lang/String" 498 (⟨"java/lang/StringUTF16", "charAt", "([BI)C"⟩ : MethodName)).before a0 Z = true := G.1 _ (List.mem_of_getElem? (l := tables_1) (i := 97) rfl)
theorem w_99 {Z : State} {a0 : Array Value} (G : Cl Z a0) : (Jvm.Cond.code (⟨"java/lang/StringUTF16", "charAt", "([BI)C"⟩ : MethodName) jdk_52_method_83_code 2 (some .char)).before a0 Z = true := G.1 _ (List.mem_of_getElem? (l := tables_1) (i := 99) rfl)
theorem w_98 {Z : State} {a0 : Array Value} (G : Cl Z a0) : (Jvm.Cond.static (⟨"java/lang/StringUTF16", "charAt", "([BI)C"⟩ : MethodName)).before a0 Z = true := G.1 _ (List.mem_of_getElem? (l := tables_1) (i := 98) rfl)
theorem d_jdk_42_method_56_code_24 : decode jdk_42_method_56_code 24 = .ok (.ireturn, 1) := by decide +kernel
set_option maxRecDepth 65536 in
set_option maxHeartbeats 40000000 in
theorem rm_chaU {l : Launch} {Z : State} {a0 : Array Value} (G : Cl Z a0) (a b : Addr) (c cb : Cell) (cs : List Int32) (S : StrU Z c b cb cs) (i : Nat) (x : Int32) (hx : cs[i]? = some x) :
    Met l Z EL1 (⟨"java/lang/String", "charAt", "(I)C"⟩ : MethodName) jdk_42_method_56_code 2 (some .char) ({ frames := 4, cells := 0, slots := 0, locals := 53 } : Room) #[.ref a, .int i.toInt32] [] [(a, c), (b, cb)] (fun v σ ρ => v = some (.int x) ∧ σ = [] ∧ ρ = []) := by
  refine Met.walk G.2.1 pn_7 #[.val (.ref a), .val (.int i.toInt32)] (fun m => by first | (simp [entryFrame, mkF, argsToLocals, Value.category]; done) | rfl) ?_
  intro X T0 W0
  refine Go.aloadN (pc' := 1) W0 d_jdk_42_method_56_code_0 rfl rfl rfl ?_
  refine Go.virtual (pc' := 4) W0 (rm_islU G a b c cb cs S) (Or.inr (Or.inl (List.mem_of_getElem? (i := 0) rfl))) S.1 (w_60 G) (w_61 G) (w_63 G) (w_62 G) (w_8 G) (w_64 G) (by decide) [] [0] (σf := []) rfl rfl [] [] rfl (lenOf pd_15 rfl) rfl rfl d_jdk_42_method_56_code_1 rfl (by first | exact Nat.le_of_ble_eq_true rfl | (simp; done) | (simp; omega) | omega) (by first | exact Nat.le_of_ble_eq_true rfl | (simp; done) | (simp; omega) | omega) (by first | exact Nat.le_of_ble_eq_true rfl | (simp; done) | (simp; omega) | omega) (by first | exact Nat.le_of_ble_eq_true rfl | (simp; done) | (simp; omega) | omega) ?_
  rintro _ _ _ T1 ⟨rfl, rfl, rfl⟩ W2
  replace W2 : Wk l Z EL1 ({ frames := 4, cells := 0, slots := 0, locals := 53 } : Room) "java/lang/String" jdk_42_method_56_code 2 (some .char) "charAt" X [] [(a, c), (b, cb)] T1 0 (0) := W2
  show Go Z EL1 _ _ _ X T1 4 #[.val (.ref a), .val (.int i.toInt32)] [(.int (0 : Int32))]
  refine Go.if_eq (pc' := 7) W2 16 d_jdk_42_method_56_code_4 (by decide) rfl (fun _ => ?_) (fun q => absurd (by decide) q)
  refine Go.aloadN (pc' := 17) W2 d_jdk_42_method_56_code_16 rfl rfl rfl ?_
  refine Go.getfield (pc' := 20) W2 (Or.inr (Or.inl (List.mem_of_getElem? (i := 0) rfl))) (w_25 G) Via.refl S.2.2.1 d_jdk_42_method_56_code_17 rfl (fun T3 W4 => ?_)
  refine Go.iloadN (pc' := 21) W4 d_jdk_42_method_56_code_20 rfl rfl ?_
  refine Go.static (pc' := 24) W4 (rm_uch G b cb cs S.2.2.2.1 i x (S.2.2.2.2 x (List.mem_of_getElem? hx)) hx) (w_97 G) (w_98 G) (w_44 G) (w_99 G) (by decide) [] [1] (σf := []) rfl rfl [(.ref b), (.int i.toInt32)] [] rfl (lenOf pd_6 rfl) rfl rfl d_jdk_42_method_56_code_21 rfl (by first | exact Nat.le_of_ble_eq_true rfl | (simp; done) | (simp; omega) | omega) (by first | exact Nat.le_of_ble_eq_true rfl | (simp; done) | (simp; omega) | omega) (by first | exact Nat.le_of_ble_eq_true rfl | (simp; done) | (simp; omega) | omega) (by first | exact Nat.le_of_ble_eq_true rfl | (simp; done) | (simp; omega) | omega) ?_
  rintro _ _ _ T5 ⟨rfl, rfl, rfl⟩ W6
  replace W6 : Wk l Z EL1 ({ frames := 4, cells := 0, slots := 0, locals := 53 } : Room) "java/lang/String" jdk_42_method_56_code 2 (some .char) "charAt" X [] [(a, c), (b, cb)] T5 0 (0) := W6
  show Go Z EL1 _ _ _ X T5 24 #[.val (.ref a), .val (.int i.toInt32)] [(.int x)]
  have W7 := W6.keepRo [] (ρ' := []) rfl
  replace W7 : Wk l Z EL1 ({ frames := 4, cells := 0, slots := 0, locals := 53 } : Room) "java/lang/String" jdk_42_method_56_code 2 (some .char) "charAt" X [] [] T5 0 (0) := W7
  refine Go.nret (z' := x) W7 (by simp) (nar_char_id (S.2.2.2.2 x (List.mem_of_getElem? hx))) d_jdk_42_method_56_code_24 (by first | exact Nat.le_of_ble_eq_true rfl | (simp; done) | (simp; omega) | omega) (by first | exact Nat.le_of_ble_eq_true rfl | (simp; done) | (simp; omega) | omega) ?_
  exact ⟨rfl, rfl, rfl⟩
theorem rm_chaG {l : Launch} {Z : State} {a0 : Array Value} (G : Cl Z a0) (a b : Addr) (c cb : Cell) (cs : List Int32) (S : StrG Z c b cb cs) (i : Nat) (x : Int32) (hx : cs[i]? = some x) :
    Met l Z EL1 (⟨"java/lang/String", "charAt", "(I)C"⟩ : MethodName) jdk_42_method_56_code 2 (some .char) ({ frames := 4, cells := 0, slots := 0, locals := 53 } : Room) #[.ref a, .int i.toInt32] [] [(a, c), (b, cb)] (fun v σ ρ => v = some (.int x) ∧ σ = [] ∧ ρ = []) := S.elim (fun h => rm_cha G a b c cb cs h i x hx) (fun h => rm_chaU G a b c cb cs h i x hx)
def drawF (x : Int32) : Int32 := if (x.toUInt32 >>> ((16 : Int32) &&& 31).toUInt32).toInt32 &&& (1 : Int32) = 0 then x &&& (127 : Int32) else x &&& (65535 : Int32)
theorem drawF_chr (x : Int32) : ¬ drawF x < 0 ∧ ¬ (65535 : Int32) < drawF x := by
  unfold drawF
  split
  · exact andchr _ _ (by decide) (by decide)
  · exact andchr _ _ (by decide) (by decide)
abbrev okc (x : Int32) : Prop := ¬ x < (32 : Int32) ∧ ¬ (126 : Int32) < x ∧ ¬ x = (34 : Int32) ∧ ¬ x = (92 : Int32)
theorem t32 : (32 : Int32).toInt = 32 := by decide
theorem t33 : (33 : Int32).toInt = 33 := by decide
theorem t34 : (34 : Int32).toInt = 34 := by decide
theorem t35 : (35 : Int32).toInt = 35 := by decide
theorem t91 : (91 : Int32).toInt = 91 := by decide
theorem t92 : (92 : Int32).toInt = 92 := by decide
theorem t93 : (93 : Int32).toInt = 93 := by decide
theorem t126 : (126 : Int32).toInt = 126 := by decide
theorem rem5 (n : Int32) : (n &&& (2147483647 : Int32)) % (5 : Int32) = (0 : Int32) ∨ (n &&& (2147483647 : Int32)) % (5 : Int32) = (1 : Int32) ∨ (n &&& (2147483647 : Int32)) % (5 : Int32) = (2 : Int32) ∨ (n &&& (2147483647 : Int32)) % (5 : Int32) = (3 : Int32) ∨ (n &&& (2147483647 : Int32)) % (5 : Int32) = (4 : Int32) := by
  have h := c_and n 2147483647 (by decide)
  have k := (c_irem (n &&& 2147483647) 5 5 (by decide)).1 h.1
  generalize (n &&& (2147483647 : Int32)) % (5 : Int32) = z at k ⊢
  have k' : z.toInt = 0 ∨ z.toInt = 1 ∨ z.toInt = 2 ∨ z.toInt = 3 ∨ z.toInt = 4 := by omega
  rcases k' with q | q | q | q | q
  · exact Or.inl (Int32.toInt_inj.mp q)
  · exact Or.inr (Or.inl (Int32.toInt_inj.mp q))
  · exact Or.inr (Or.inr (Or.inl (Int32.toInt_inj.mp q)))
  · exact Or.inr (Or.inr (Or.inr (Or.inl (Int32.toInt_inj.mp q))))
  · exact Or.inr (Or.inr (Or.inr (Or.inr (Int32.toInt_inj.mp q))))
theorem pn_18 : plainName "com/example/grantline/grantline/server/OAuthErrorIsDescribablePinLaw" = true := by first | (simp [plainName, overriddenIn]; done) | decide +kernel
theorem d_method_3_code_0 : decode method_3_code 0 = .ok (.iload_n 0, 1) := by decide +kernel
theorem d_method_3_code_1 : decode method_3_code 1 = .ok (.bipush 16, 2) := by decide +kernel
theorem d_method_3_code_3 : decode method_3_code 3 = .ok (.iushr, 1) := by decide +kernel
theorem d_method_3_code_4 : decode method_3_code 4 = .ok (.iconst 1, 1) := by decide +kernel
theorem d_method_3_code_5 : decode method_3_code 5 = .ok (.iand, 1) := by decide +kernel
theorem d_method_3_code_6 : decode method_3_code 6 = .ok (.ifCond .ne 9, 3) := by decide +kernel
theorem d_method_3_code_15 : decode method_3_code 15 = .ok (.iload_n 0, 1) := by decide +kernel
theorem d_method_3_code_16 : decode method_3_code 16 = .ok (.ldc 7, 2) := by decide +kernel
theorem w_77 {Z : State} {a0 : Array Value} (G : Cl Z a0) : (Jvm.Cond.constant "com/example/grantline/grantline/server/OAuthErrorIsDescribablePinLaw" 7 (65535)).before a0 Z = true := G.1 _ (List.mem_of_getElem? (l := tables_1) (i := 77) rfl)
theorem d_method_3_code_18 : decode method_3_code 18 = .ok (.iand, 1) := by decide +kernel
theorem d_method_3_code_19 : decode method_3_code 19 = .ok (.i2c, 1) := by decide +kernel
theorem d_method_3_code_20 : decode method_3_code 20 = .ok (.ireturn, 1) := by decide +kernel
theorem d_method_3_code_9 : decode method_3_code 9 = .ok (.iload_n 0, 1) := by decide +kernel
theorem d_method_3_code_10 : decode method_3_code 10 = .ok (.bipush 127, 2) := by decide +kernel
theorem d_method_3_code_12 : decode method_3_code 12 = .ok (.iand, 1) := by decide +kernel
theorem d_method_3_code_13 : decode method_3_code 13 = .ok (.i2c, 1) := by decide +kernel
theorem d_method_3_code_14 : decode method_3_code 14 = .ok (.ireturn, 1) := by decide +kernel
set_option maxRecDepth 65536 in
set_option maxHeartbeats 40000000 in
theorem rm_draw {l : Launch} {Z : State} {a0 : Array Value} (G : Cl Z a0) (x : Int32) :
    Met l Z EL1 (⟨"com/example/grantline/grantline/server/OAuthErrorIsDescribablePinLaw", "draw", "(I)C"⟩ : MethodName) method_3_code 1 (some .char) ({ frames := 0, cells := 0, slots := 0, locals := 0 } : Room) #[.int x] [] [] (fun v σ ρ => v = some (.int (drawF x)) ∧ σ = [] ∧ ρ = []) := by
  refine Met.walk G.2.1 pn_18 #[.val (.int x)] (fun m => by first | (simp [entryFrame, mkF, argsToLocals, Value.category]; done) | rfl) ?_
  intro X T0 W0
  refine Go.iloadN (pc' := 1) W0 d_method_3_code_0 rfl rfl ?_
  refine Go.bipush (pc' := 3) W0 (16 : Int32) d_method_3_code_1 (by decide) rfl ?_
  refine Go.iushr (pc' := 4) W0 d_method_3_code_3 rfl ?_
  refine Go.iconst (pc' := 5) W0 (1 : Int32) d_method_3_code_4 (by decide) rfl ?_
  refine Go.iand (pc' := 6) W0 d_method_3_code_5 rfl ?_
  refine Go.if_ne (pc' := 9) W0 15 d_method_3_code_6 (by decide) rfl (fun (c1 : ¬ ((((x.toUInt32 >>> ((16 : Int32) &&& 31).toUInt32).toInt32) &&& (1 : Int32)) = 0)) => ?_) (fun (c1 : (((x.toUInt32 >>> ((16 : Int32) &&& 31).toUInt32).toInt32) &&& (1 : Int32)) = 0) => ?_)
  · refine Go.iloadN (pc' := 16) W0 d_method_3_code_15 rfl rfl ?_
    refine Go.ldcInt (pc' := 18) W0 (w_77 G) d_method_3_code_16 rfl ?_
    refine Go.iand (pc' := 19) W0 d_method_3_code_18 rfl ?_
    refine Go.i2c (pc' := 20) W0 d_method_3_code_19 rfl ?_
    rw [i2c_id (andchr _ _ (by decide) (by decide)).1 (andchr _ _ (by decide) (by decide)).2]
    refine Go.nret (z' := x &&& (65535 : Int32)) W0 (by simp) (nar_char_id (andchr _ _ (by decide) (by decide))) d_method_3_code_20 (by first | exact Nat.le_of_ble_eq_true rfl | (simp; done) | (simp; omega) | omega) (by first | exact Nat.le_of_ble_eq_true rfl | (simp; done) | (simp; omega) | omega) ?_
    exact ⟨by rw [drawF, if_neg c1], rfl, rfl⟩
  · refine Go.iloadN (pc' := 10) W0 d_method_3_code_9 rfl rfl ?_
    refine Go.bipush (pc' := 12) W0 (127 : Int32) d_method_3_code_10 (by decide) rfl ?_
    refine Go.iand (pc' := 13) W0 d_method_3_code_12 rfl ?_
    refine Go.i2c (pc' := 14) W0 d_method_3_code_13 rfl ?_
    rw [i2c_id (andchr _ _ (by decide) (by decide)).1 (andchr _ _ (by decide) (by decide)).2]
    refine Go.nret (z' := x &&& (127 : Int32)) W0 (by simp) (nar_char_id (andchr _ _ (by decide) (by decide))) d_method_3_code_14 (by first | exact Nat.le_of_ble_eq_true rfl | (simp; done) | (simp; omega) | omega) (by first | exact Nat.le_of_ble_eq_true rfl | (simp; done) | (simp; omega) | omega) ?_
    exact ⟨by rw [drawF, if_pos c1], rfl, rfl⟩
theorem d_method_2_code_0 : decode method_2_code 0 = .ok (.iload_n 0, 1) := by decide +kernel
theorem d_method_2_code_1 : decode method_2_code 1 = .ok (.bipush 32, 2) := by decide +kernel
theorem d_method_2_code_3 : decode method_2_code 3 = .ok (.if_icmp .lt 9, 3) := by decide +kernel
theorem d_method_2_code_12 : decode method_2_code 12 = .ok (.iload_n 0, 1) := by decide +kernel
theorem d_method_2_code_13 : decode method_2_code 13 = .ok (.bipush 35, 2) := by decide +kernel
theorem d_method_2_code_15 : decode method_2_code 15 = .ok (.if_icmp .lt 9, 3) := by decide +kernel
theorem d_method_2_code_24 : decode method_2_code 24 = .ok (.iload_n 0, 1) := by decide +kernel
theorem d_method_2_code_25 : decode method_2_code 25 = .ok (.bipush 93, 2) := by decide +kernel
theorem d_method_2_code_27 : decode method_2_code 27 = .ok (.if_icmp .lt 13, 3) := by decide +kernel
theorem d_method_2_code_40 : decode method_2_code 40 = .ok (.iconst 0, 1) := by decide +kernel
theorem d_method_2_code_41 : decode method_2_code 41 = .ok (.ireturn, 1) := by decide +kernel
theorem d_method_2_code_30 : decode method_2_code 30 = .ok (.iload_n 0, 1) := by decide +kernel
theorem d_method_2_code_31 : decode method_2_code 31 = .ok (.bipush 126, 2) := by decide +kernel
theorem d_method_2_code_33 : decode method_2_code 33 = .ok (.if_icmp .gt 7, 3) := by decide +kernel
theorem d_method_2_code_36 : decode method_2_code 36 = .ok (.iconst 1, 1) := by decide +kernel
theorem d_method_2_code_37 : decode method_2_code 37 = .ok (.goto 4, 3) := by decide +kernel
theorem d_method_2_code_18 : decode method_2_code 18 = .ok (.iload_n 0, 1) := by decide +kernel
theorem d_method_2_code_19 : decode method_2_code 19 = .ok (.bipush 91, 2) := by decide +kernel
theorem d_method_2_code_21 : decode method_2_code 21 = .ok (.if_icmp .le 15, 3) := by decide +kernel
theorem d_method_2_code_6 : decode method_2_code 6 = .ok (.iload_n 0, 1) := by decide +kernel
theorem d_method_2_code_7 : decode method_2_code 7 = .ok (.bipush 33, 2) := by decide +kernel
theorem d_method_2_code_9 : decode method_2_code 9 = .ok (.if_icmp .le 27, 3) := by decide +kernel
set_option maxRecDepth 65536 in
set_option maxHeartbeats 40000000 in
theorem rm_al {l : Launch} {Z : State} {a0 : Array Value} (G : Cl Z a0) (x : Int32) :
    Met l Z EL1 (⟨"com/example/grantline/grantline/server/OAuthErrorIsDescribablePinLaw", "allowed", "(C)Z"⟩ : MethodName) method_2_code 1 (some .boolean) ({ frames := 0, cells := 0, slots := 0, locals := 0 } : Room) #[.int x] [] [] (fun v σ ρ => v = some (.int (if okc x then 1 else 0)) ∧ σ = [] ∧ ρ = []) := by
  refine Met.walk G.2.1 pn_18 #[.val (.int x)] (fun m => by first | (simp [entryFrame, mkF, argsToLocals, Value.category]; done) | rfl) ?_
  intro X T0 W0
  refine Go.iloadN (pc' := 1) W0 d_method_2_code_0 rfl rfl ?_
  refine Go.bipush (pc' := 3) W0 (32 : Int32) d_method_2_code_1 (by decide) rfl ?_
  refine Go.icmp_lt (pc' := 6) W0 12 d_method_2_code_3 (by decide) rfl (fun (c1 : x < (32 : Int32)) => ?_) (fun (c1 : ¬ (x < (32 : Int32))) => ?_)
  · refine Go.iloadN (pc' := 13) W0 d_method_2_code_12 rfl rfl ?_
    refine Go.bipush (pc' := 15) W0 (35 : Int32) d_method_2_code_13 (by decide) rfl ?_
    refine Go.icmp_lt (pc' := 18) W0 24 d_method_2_code_15 (by decide) rfl (fun (c2 : x < (35 : Int32)) => ?_) (fun (c2 : ¬ (x < (35 : Int32))) => ?_)
    · refine Go.iloadN (pc' := 25) W0 d_method_2_code_24 rfl rfl ?_
      refine Go.bipush (pc' := 27) W0 (93 : Int32) d_method_2_code_25 (by decide) rfl ?_
      refine Go.icmp_lt (pc' := 30) W0 40 d_method_2_code_27 (by decide) rfl (fun (c3 : x < (93 : Int32)) => ?_) (fun (c3 : ¬ (x < (93 : Int32))) => ?_)
      · refine Go.iconst (pc' := 41) W0 (0 : Int32) d_method_2_code_40 (by decide) rfl ?_
        refine Go.nret (z' := (0 : Int32)) W0 (by simp) (by decide) d_method_2_code_41 (by first | exact Nat.le_of_ble_eq_true rfl | (simp; done) | (simp; omega) | omega) (by first | exact Nat.le_of_ble_eq_true rfl | (simp; done) | (simp; omega) | omega) ?_
        refine ⟨?_, rfl, rfl⟩
        rw [if_neg]
        simp only [okc, Int32.lt_iff_toInt_lt, ← Int32.toInt_inj, t32, t33, t34, t35, t91, t92, t93, t126] at *
        omega
      · refine Go.iloadN (pc' := 31) W0 d_method_2_code_30 rfl rfl ?_
        refine Go.bipush (pc' := 33) W0 (126 : Int32) d_method_2_code_31 (by decide) rfl ?_
        refine Go.icmp_gt (pc' := 36) W0 40 d_method_2_code_33 (by decide) rfl (fun (c4 : (126 : Int32) < x) => ?_) (fun (c4 : ¬ ((126 : Int32) < x)) => ?_)
        · refine Go.iconst (pc' := 41) W0 (0 : Int32) d_method_2_code_40 (by decide) rfl ?_
          refine Go.nret (z' := (0 : Int32)) W0 (by simp) (by decide) d_method_2_code_41 (by first | exact Nat.le_of_ble_eq_true rfl | (simp; done) | (simp; omega) | omega) (by first | exact Nat.le_of_ble_eq_true rfl | (simp; done) | (simp; omega) | omega) ?_
          refine ⟨?_, rfl, rfl⟩
          rw [if_neg]
          simp only [okc, Int32.lt_iff_toInt_lt, ← Int32.toInt_inj, t32, t33, t34, t35, t91, t92, t93, t126] at *
          omega
        · refine Go.iconst (pc' := 37) W0 (1 : Int32) d_method_2_code_36 (by decide) rfl ?_
          refine Go.goto W0 41 d_method_2_code_37 (by decide) ?_
          refine Go.nret (z' := (1 : Int32)) W0 (by simp) (by decide) d_method_2_code_41 (by first | exact Nat.le_of_ble_eq_true rfl | (simp; done) | (simp; omega) | omega) (by first | exact Nat.le_of_ble_eq_true rfl | (simp; done) | (simp; omega) | omega) ?_
          refine ⟨?_, rfl, rfl⟩
          rw [if_pos]
          simp only [okc, Int32.lt_iff_toInt_lt, ← Int32.toInt_inj, t32, t33, t34, t35, t91, t92, t93, t126] at *
          omega
    · refine Go.iloadN (pc' := 19) W0 d_method_2_code_18 rfl rfl ?_
      refine Go.bipush (pc' := 21) W0 (91 : Int32) d_method_2_code_19 (by decide) rfl ?_
      refine Go.icmp_le (pc' := 24) W0 36 d_method_2_code_21 (by decide) rfl (fun (c5 : ¬ ((91 : Int32) < x)) => ?_) (fun (c5 : (91 : Int32) < x) => ?_)
      · refine Go.iconst (pc' := 37) W0 (1 : Int32) d_method_2_code_36 (by decide) rfl ?_
        refine Go.goto W0 41 d_method_2_code_37 (by decide) ?_
        refine Go.nret (z' := (1 : Int32)) W0 (by simp) (by decide) d_method_2_code_41 (by first | exact Nat.le_of_ble_eq_true rfl | (simp; done) | (simp; omega) | omega) (by first | exact Nat.le_of_ble_eq_true rfl | (simp; done) | (simp; omega) | omega) ?_
        refine ⟨?_, rfl, rfl⟩
        rw [if_pos]
        simp only [okc, Int32.lt_iff_toInt_lt, ← Int32.toInt_inj, t32, t33, t34, t35, t91, t92, t93, t126] at *
        omega
      · refine Go.iloadN (pc' := 25) W0 d_method_2_code_24 rfl rfl ?_
        refine Go.bipush (pc' := 27) W0 (93 : Int32) d_method_2_code_25 (by decide) rfl ?_
        refine Go.icmp_lt (pc' := 30) W0 40 d_method_2_code_27 (by decide) rfl (fun (c6 : x < (93 : Int32)) => ?_) (fun (c6 : ¬ (x < (93 : Int32))) => ?_)
        · refine Go.iconst (pc' := 41) W0 (0 : Int32) d_method_2_code_40 (by decide) rfl ?_
          refine Go.nret (z' := (0 : Int32)) W0 (by simp) (by decide) d_method_2_code_41 (by first | exact Nat.le_of_ble_eq_true rfl | (simp; done) | (simp; omega) | omega) (by first | exact Nat.le_of_ble_eq_true rfl | (simp; done) | (simp; omega) | omega) ?_
          refine ⟨?_, rfl, rfl⟩
          rw [if_neg]
          simp only [okc, Int32.lt_iff_toInt_lt, ← Int32.toInt_inj, t32, t33, t34, t35, t91, t92, t93, t126] at *
          omega
        · refine Go.iloadN (pc' := 31) W0 d_method_2_code_30 rfl rfl ?_
          refine Go.bipush (pc' := 33) W0 (126 : Int32) d_method_2_code_31 (by decide) rfl ?_
          refine Go.icmp_gt (pc' := 36) W0 40 d_method_2_code_33 (by decide) rfl (fun (c7 : (126 : Int32) < x) => ?_) (fun (c7 : ¬ ((126 : Int32) < x)) => ?_)
          · refine Go.iconst (pc' := 41) W0 (0 : Int32) d_method_2_code_40 (by decide) rfl ?_
            refine Go.nret (z' := (0 : Int32)) W0 (by simp) (by decide) d_method_2_code_41 (by first | exact Nat.le_of_ble_eq_true rfl | (simp; done) | (simp; omega) | omega) (by first | exact Nat.le_of_ble_eq_true rfl | (simp; done) | (simp; omega) | omega) ?_
            refine ⟨?_, rfl, rfl⟩
            rw [if_neg]
            simp only [okc, Int32.lt_iff_toInt_lt, ← Int32.toInt_inj, t32, t33, t34, t35, t91, t92, t93, t126] at *
            omega
          · refine Go.iconst (pc' := 37) W0 (1 : Int32) d_method_2_code_36 (by decide) rfl ?_
            refine Go.goto W0 41 d_method_2_code_37 (by decide) ?_
            refine Go.nret (z' := (1 : Int32)) W0 (by simp) (by decide) d_method_2_code_41 (by first | exact Nat.le_of_ble_eq_true rfl | (simp; done) | (simp; omega) | omega) (by first | exact Nat.le_of_ble_eq_true rfl | (simp; done) | (simp; omega) | omega) ?_
            refine ⟨?_, rfl, rfl⟩
            rw [if_pos]
            simp only [okc, Int32.lt_iff_toInt_lt, ← Int32.toInt_inj, t32, t33, t34, t35, t91, t92, t93, t126] at *
            omega
  · refine Go.iloadN (pc' := 7) W0 d_method_2_code_6 rfl rfl ?_
    refine Go.bipush (pc' := 9) W0 (33 : Int32) d_method_2_code_7 (by decide) rfl ?_
    refine Go.icmp_le (pc' := 12) W0 36 d_method_2_code_9 (by decide) rfl (fun (c8 : ¬ ((33 : Int32) < x)) => ?_) (fun (c8 : (33 : Int32) < x) => ?_)
    · refine Go.iconst (pc' := 37) W0 (1 : Int32) d_method_2_code_36 (by decide) rfl ?_
      refine Go.goto W0 41 d_method_2_code_37 (by decide) ?_
      refine Go.nret (z' := (1 : Int32)) W0 (by simp) (by decide) d_method_2_code_41 (by first | exact Nat.le_of_ble_eq_true rfl | (simp; done) | (simp; omega) | omega) (by first | exact Nat.le_of_ble_eq_true rfl | (simp; done) | (simp; omega) | omega) ?_
      refine ⟨?_, rfl, rfl⟩
      rw [if_pos]
      simp only [okc, Int32.lt_iff_toInt_lt, ← Int32.toInt_inj, t32, t33, t34, t35, t91, t92, t93, t126] at *
      omega
    · refine Go.iloadN (pc' := 13) W0 d_method_2_code_12 rfl rfl ?_
      refine Go.bipush (pc' := 15) W0 (35 : Int32) d_method_2_code_13 (by decide) rfl ?_
      refine Go.icmp_lt (pc' := 18) W0 24 d_method_2_code_15 (by decide) rfl (fun (c9 : x < (35 : Int32)) => ?_) (fun (c9 : ¬ (x < (35 : Int32))) => ?_)
      · refine Go.iloadN (pc' := 25) W0 d_method_2_code_24 rfl rfl ?_
        refine Go.bipush (pc' := 27) W0 (93 : Int32) d_method_2_code_25 (by decide) rfl ?_
        refine Go.icmp_lt (pc' := 30) W0 40 d_method_2_code_27 (by decide) rfl (fun (c10 : x < (93 : Int32)) => ?_) (fun (c10 : ¬ (x < (93 : Int32))) => ?_)
        · refine Go.iconst (pc' := 41) W0 (0 : Int32) d_method_2_code_40 (by decide) rfl ?_
          refine Go.nret (z' := (0 : Int32)) W0 (by simp) (by decide) d_method_2_code_41 (by first | exact Nat.le_of_ble_eq_true rfl | (simp; done) | (simp; omega) | omega) (by first | exact Nat.le_of_ble_eq_true rfl | (simp; done) | (simp; omega) | omega) ?_
          refine ⟨?_, rfl, rfl⟩
          rw [if_neg]
          simp only [okc, Int32.lt_iff_toInt_lt, ← Int32.toInt_inj, t32, t33, t34, t35, t91, t92, t93, t126] at *
          omega
        · refine Go.iloadN (pc' := 31) W0 d_method_2_code_30 rfl rfl ?_
          refine Go.bipush (pc' := 33) W0 (126 : Int32) d_method_2_code_31 (by decide) rfl ?_
          refine Go.icmp_gt (pc' := 36) W0 40 d_method_2_code_33 (by decide) rfl (fun (c11 : (126 : Int32) < x) => ?_) (fun (c11 : ¬ ((126 : Int32) < x)) => ?_)
          · refine Go.iconst (pc' := 41) W0 (0 : Int32) d_method_2_code_40 (by decide) rfl ?_
            refine Go.nret (z' := (0 : Int32)) W0 (by simp) (by decide) d_method_2_code_41 (by first | exact Nat.le_of_ble_eq_true rfl | (simp; done) | (simp; omega) | omega) (by first | exact Nat.le_of_ble_eq_true rfl | (simp; done) | (simp; omega) | omega) ?_
            refine ⟨?_, rfl, rfl⟩
            rw [if_neg]
            simp only [okc, Int32.lt_iff_toInt_lt, ← Int32.toInt_inj, t32, t33, t34, t35, t91, t92, t93, t126] at *
            omega
          · refine Go.iconst (pc' := 37) W0 (1 : Int32) d_method_2_code_36 (by decide) rfl ?_
            refine Go.goto W0 41 d_method_2_code_37 (by decide) ?_
            refine Go.nret (z' := (1 : Int32)) W0 (by simp) (by decide) d_method_2_code_41 (by first | exact Nat.le_of_ble_eq_true rfl | (simp; done) | (simp; omega) | omega) (by first | exact Nat.le_of_ble_eq_true rfl | (simp; done) | (simp; omega) | omega) ?_
            refine ⟨?_, rfl, rfl⟩
            rw [if_pos]
            simp only [okc, Int32.lt_iff_toInt_lt, ← Int32.toInt_inj, t32, t33, t34, t35, t91, t92, t93, t126] at *
            omega
      · refine Go.iloadN (pc' := 19) W0 d_method_2_code_18 rfl rfl ?_
        refine Go.bipush (pc' := 21) W0 (91 : Int32) d_method_2_code_19 (by decide) rfl ?_
        refine Go.icmp_le (pc' := 24) W0 36 d_method_2_code_21 (by decide) rfl (fun (c12 : ¬ ((91 : Int32) < x)) => ?_) (fun (c12 : (91 : Int32) < x) => ?_)
        · refine Go.iconst (pc' := 37) W0 (1 : Int32) d_method_2_code_36 (by decide) rfl ?_
          refine Go.goto W0 41 d_method_2_code_37 (by decide) ?_
          refine Go.nret (z' := (1 : Int32)) W0 (by simp) (by decide) d_method_2_code_41 (by first | exact Nat.le_of_ble_eq_true rfl | (simp; done) | (simp; omega) | omega) (by first | exact Nat.le_of_ble_eq_true rfl | (simp; done) | (simp; omega) | omega) ?_
          refine ⟨?_, rfl, rfl⟩
          rw [if_pos]
          simp only [okc, Int32.lt_iff_toInt_lt, ← Int32.toInt_inj, t32, t33, t34, t35, t91, t92, t93, t126] at *
          omega
        · refine Go.iloadN (pc' := 25) W0 d_method_2_code_24 rfl rfl ?_
          refine Go.bipush (pc' := 27) W0 (93 : Int32) d_method_2_code_25 (by decide) rfl ?_
          refine Go.icmp_lt (pc' := 30) W0 40 d_method_2_code_27 (by decide) rfl (fun (c13 : x < (93 : Int32)) => ?_) (fun (c13 : ¬ (x < (93 : Int32))) => ?_)
          · refine Go.iconst (pc' := 41) W0 (0 : Int32) d_method_2_code_40 (by decide) rfl ?_
            refine Go.nret (z' := (0 : Int32)) W0 (by simp) (by decide) d_method_2_code_41 (by first | exact Nat.le_of_ble_eq_true rfl | (simp; done) | (simp; omega) | omega) (by first | exact Nat.le_of_ble_eq_true rfl | (simp; done) | (simp; omega) | omega) ?_
            refine ⟨?_, rfl, rfl⟩
            rw [if_neg]
            simp only [okc, Int32.lt_iff_toInt_lt, ← Int32.toInt_inj, t32, t33, t34, t35, t91, t92, t93, t126] at *
            omega
          · refine Go.iloadN (pc' := 31) W0 d_method_2_code_30 rfl rfl ?_
            refine Go.bipush (pc' := 33) W0 (126 : Int32) d_method_2_code_31 (by decide) rfl ?_
            refine Go.icmp_gt (pc' := 36) W0 40 d_method_2_code_33 (by decide) rfl (fun (c14 : (126 : Int32) < x) => ?_) (fun (c14 : ¬ ((126 : Int32) < x)) => ?_)
            · refine Go.iconst (pc' := 41) W0 (0 : Int32) d_method_2_code_40 (by decide) rfl ?_
              refine Go.nret (z' := (0 : Int32)) W0 (by simp) (by decide) d_method_2_code_41 (by first | exact Nat.le_of_ble_eq_true rfl | (simp; done) | (simp; omega) | omega) (by first | exact Nat.le_of_ble_eq_true rfl | (simp; done) | (simp; omega) | omega) ?_
              refine ⟨?_, rfl, rfl⟩
              rw [if_neg]
              simp only [okc, Int32.lt_iff_toInt_lt, ← Int32.toInt_inj, t32, t33, t34, t35, t91, t92, t93, t126] at *
              omega
            · refine Go.iconst (pc' := 37) W0 (1 : Int32) d_method_2_code_36 (by decide) rfl ?_
              refine Go.goto W0 41 d_method_2_code_37 (by decide) ?_
              refine Go.nret (z' := (1 : Int32)) W0 (by simp) (by decide) d_method_2_code_41 (by first | exact Nat.le_of_ble_eq_true rfl | (simp; done) | (simp; omega) | omega) (by first | exact Nat.le_of_ble_eq_true rfl | (simp; done) | (simp; omega) | omega) ?_
              refine ⟨?_, rfl, rfl⟩
              rw [if_pos]
              simp only [okc, Int32.lt_iff_toInt_lt, ← Int32.toInt_inj, t32, t33, t34, t35, t91, t92, t93, t126] at *
              omega
theorem d_prog_30_method_17_code_2 : decode prog_30_method_17_code 2 = .ok (.iload_n 1, 1) := by decide +kernel
theorem d_prog_30_method_17_code_3 : decode prog_30_method_17_code 3 = .ok (.aload_n 0, 1) := by decide +kernel
theorem d_prog_30_method_17_code_4 : decode prog_30_method_17_code 4 = .ok (.invokevirtual 83, 3) := by decide +kernel
theorem w_31 {Z : State} {a0 : Array Value} (G : Cl Z a0) : (Jvm.Cond.methodLink "com/example/grantline/grantline/server/OAuthError" 83 (⟨"java/lang/String", "length", "()I"⟩ : MethodName)).before a0 Z = true := G.1 _ (List.mem_of_getElem? (l := tables_1) (i := 31) rfl)
theorem w_35 {Z : State} {a0 : Array Value} (G : Cl Z a0) : (Jvm.Cond.code (⟨"java/lang/String", "length", "()I"⟩ : MethodName) jdk_42_method_54_code 1 (some .int)).before a0 Z = true := G.1 _ (List.mem_of_getElem? (l := tables_1) (i := 35) rfl)
theorem pd_19 : parseMethodDescriptor "()I" = some ⟨[], some .int⟩ := by decide +kernel
theorem w_32 {Z : State} {a0 : Array Value} (G : Cl Z a0) : (Jvm.Cond.declares (⟨"java/lang/String", "length", "()I"⟩ : MethodName)).before a0 Z = true := G.1 _ (List.mem_of_getElem? (l := tables_1) (i := 32) rfl)
theorem w_34 {Z : State} {a0 : Array Value} (G : Cl Z a0) : (Jvm.Cond.selects "java/lang/String" (⟨"java/lang/String", "length", "()I"⟩ : MethodName) (⟨"java/lang/String", "length", "()I"⟩ : MethodName)).before a0 Z = true := G.1 _ (List.mem_of_getElem? (l := tables_1) (i := 34) rfl)
theorem w_33 {Z : State} {a0 : Array Value} (G : Cl Z a0) : (Jvm.Cond.instanceMethod (⟨"java/lang/String", "length", "()I"⟩ : MethodName)).before a0 Z = true := G.1 _ (List.mem_of_getElem? (l := tables_1) (i := 33) rfl)
theorem d_prog_30_method_17_code_7 : decode prog_30_method_17_code 7 = .ok (.if_icmp .ge 41, 3) := by decide +kernel
theorem d_prog_30_method_17_code_48 : decode prog_30_method_17_code 48 = .ok (.iconst 1, 1) := by decide +kernel
theorem d_prog_30_method_17_code_49 : decode prog_30_method_17_code 49 = .ok (.ireturn, 1) := by decide +kernel
theorem d_prog_30_method_17_code_10 : decode prog_30_method_17_code 10 = .ok (.aload_n 0, 1) := by decide +kernel
theorem d_prog_30_method_17_code_11 : decode prog_30_method_17_code 11 = .ok (.iload_n 1, 1) := by decide +kernel
theorem d_prog_30_method_17_code_12 : decode prog_30_method_17_code 12 = .ok (.invokevirtual 89, 3) := by decide +kernel
theorem w_55 {Z : State} {a0 : Array Value} (G : Cl Z a0) : (Jvm.Cond.methodLink "com/example/grantline/grantline/server/OAuthError" 89 (⟨"java/lang/String", "charAt", "(I)C"⟩ : MethodName)).before a0 Z = true := G.1 _ (List.mem_of_getElem? (l := tables_1) (i := 55) rfl)
theorem w_59 {Z : State} {a0 : Array Value} (G : Cl Z a0) : (Jvm.Cond.code (⟨"java/lang/String", "charAt", "(I)C"⟩ : MethodName) jdk_42_method_56_code 2 (some .char)).before a0 Z = true := G.1 _ (List.mem_of_getElem? (l := tables_1) (i := 59) rfl)
theorem pd_20 : parseMethodDescriptor "(I)C" = some ⟨[.int], some .char⟩ := by decide +kernel
theorem w_56 {Z : State} {a0 : Array Value} (G : Cl Z a0) : (Jvm.Cond.declares (⟨"java/lang/String", "charAt", "(I)C"⟩ : MethodName)).before a0 Z = true := G.1 _ (List.mem_of_getElem? (l := tables_1) (i := 56) rfl)
theorem w_58 {Z : State} {a0 : Array Value} (G : Cl Z a0) : (Jvm.Cond.selects "java/lang/String" (⟨"java/lang/String", "charAt", "(I)C"⟩ : MethodName) (⟨"java/lang/String", "charAt", "(I)C"⟩ : MethodName)).before a0 Z = true := G.1 _ (List.mem_of_getElem? (l := tables_1) (i := 58) rfl)
theorem w_57 {Z : State} {a0 : Array Value} (G : Cl Z a0) : (Jvm.Cond.instanceMethod (⟨"java/lang/String", "charAt", "(I)C"⟩ : MethodName)).before a0 Z = true := G.1 _ (List.mem_of_getElem? (l := tables_1) (i := 57) rfl)
theorem d_prog_30_method_17_code_15 : decode prog_30_method_17_code 15 = .ok (.istore_n 2, 1) := by decide +kernel
theorem d_prog_30_method_17_code_16 : decode prog_30_method_17_code 16 = .ok (.iload_n 2, 1) := by decide +kernel
theorem d_prog_30_method_17_code_17 : decode prog_30_method_17_code 17 = .ok (.bipush 32, 2) := by decide +kernel
theorem d_prog_30_method_17_code_19 : decode prog_30_method_17_code 19 = .ok (.if_icmp .lt 21, 3) := by decide +kernel
theorem d_prog_30_method_17_code_40 : decode prog_30_method_17_code 40 = .ok (.iconst 0, 1) := by decide +kernel
theorem d_prog_30_method_17_code_41 : decode prog_30_method_17_code 41 = .ok (.ireturn, 1) := by decide +kernel
theorem d_prog_30_method_17_code_22 : decode prog_30_method_17_code 22 = .ok (.iload_n 2, 1) := by decide +kernel
theorem d_prog_30_method_17_code_23 : decode prog_30_method_17_code 23 = .ok (.bipush 126, 2) := by decide +kernel
theorem d_prog_30_method_17_code_25 : decode prog_30_method_17_code 25 = .ok (.if_icmp .gt 15, 3) := by decide +kernel
theorem d_prog_30_method_17_code_28 : decode prog_30_method_17_code 28 = .ok (.iload_n 2, 1) := by decide +kernel
theorem d_prog_30_method_17_code_29 : decode prog_30_method_17_code 29 = .ok (.bipush 34, 2) := by decide +kernel
theorem d_prog_30_method_17_code_31 : decode prog_30_method_17_code 31 = .ok (.if_icmp .eq 9, 3) := by decide +kernel
theorem d_prog_30_method_17_code_34 : decode prog_30_method_17_code 34 = .ok (.iload_n 2, 1) := by decide +kernel
theorem d_prog_30_method_17_code_35 : decode prog_30_method_17_code 35 = .ok (.bipush 92, 2) := by decide +kernel
theorem d_prog_30_method_17_code_37 : decode prog_30_method_17_code 37 = .ok (.if_icmp .ne 5, 3) := by decide +kernel
theorem d_prog_30_method_17_code_42 : decode prog_30_method_17_code 42 = .ok (.iinc 1 1, 3) := by decide +kernel
theorem d_prog_30_method_17_code_45 : decode prog_30_method_17_code 45 = .ok (.goto (-43), 3) := by decide +kernel
set_option maxRecDepth 65536 in
set_option maxHeartbeats 40000000 in
theorem lp_isd {l : Launch} {Z : State} {a0 : Array Value} (G : Cl Z a0) {X : Ctx} {a b : Addr} {c cb : Cell} {cs : List Int32} (S : StrG Z c b cb cs) (hn : cs.length < 65536) :
    ∀ (j i : Nat), i + j = cs.length → (∀ x ∈ cs.take i, okc x) → ∀ (o2 : Slot), One o2 → ∀ (T : State), Wk l Z EL1 ({ frames := 5, cells := 0, slots := 0, locals := 68 } : Room) "com/example/grantline/grantline/server/OAuthError" prog_30_method_17_code 3 (some .boolean) "isDescribable" X [] [(a, c), (b, cb)] T 0 (0) → Go Z EL1 0 0 (fun v σ ρ => v = some (.int (if ∀ x ∈ cs, okc x then 1 else 0)) ∧ σ = [] ∧ ρ = []) X T 2 #[.val (.ref a), .val (.int i.toInt32), o2] []
  | 0, i, hij, hp, o2, ho, T, W => by
    have hi : i = cs.length := by omega
    refine Go.iloadN (pc' := 3) W d_prog_30_method_17_code_2 rfl rfl ?_
    refine Go.aloadN (pc' := 4) W d_prog_30_method_17_code_3 rfl rfl rfl ?_
    refine Go.virtual (pc' := 7) W (rm_lenG G a b c cb cs S) (Or.inr (Or.inl (List.mem_of_getElem? (i := 0) rfl))) (StrG.obj S) (w_31 G) (w_32 G) (w_34 G) (w_33 G) (w_8 G) (w_35 G) (by decide) [] [0, 1] (σf := []) rfl rfl [] [(.int i.toInt32)] rfl (lenOf pd_19 rfl) rfl rfl d_prog_30_method_17_code_4 rfl (by first | exact Nat.le_of_ble_eq_true rfl | (simp; done) | (simp; omega) | omega) (by first | exact Nat.le_of_ble_eq_true rfl | (simp; done) | (simp; omega) | omega) (by first | exact Nat.le_of_ble_eq_true rfl | (simp; done) | (simp; omega) | omega) (by first | exact Nat.le_of_ble_eq_true rfl | (simp; done) | (simp; omega) | omega) ?_
    rintro _ _ _ T1 ⟨rfl, rfl, rfl⟩ W2
    replace W2 : Wk l Z EL1 ({ frames := 5, cells := 0, slots := 0, locals := 68 } : Room) "com/example/grantline/grantline/server/OAuthError" prog_30_method_17_code 3 (some .boolean) "isDescribable" X [] [(a, c), (b, cb)] T1 0 (0) := W2
    show Go Z EL1 _ _ _ X T1 7 #[.val (.ref a), .val (.int i.toInt32), o2] [(.int cs.length.toInt32), (.int i.toInt32)]
    refine Go.icmp_ge (pc' := 10) W2 48 d_prog_30_method_17_code_7 (by decide) rfl (fun _ => ?_) (fun q => absurd q (by rw [i32_lt (by omega) (by omega)]; omega))
    refine Go.iconst (pc' := 49) W2 (1 : Int32) d_prog_30_method_17_code_48 (by decide) rfl ?_
    have W3 := W2.keepRo [] (ρ' := []) rfl
    replace W3 : Wk l Z EL1 ({ frames := 5, cells := 0, slots := 0, locals := 68 } : Room) "com/example/grantline/grantline/server/OAuthError" prog_30_method_17_code 3 (some .boolean) "isDescribable" X [] [] T1 0 (0) := W3
    refine Go.nret (z' := (1 : Int32)) W3 (by simp) (by decide) d_prog_30_method_17_code_49 (by first | exact Nat.le_of_ble_eq_true rfl | (simp; done) | (simp; omega) | omega) (by first | exact Nat.le_of_ble_eq_true rfl | (simp; done) | (simp; omega) | omega) ?_
    exact ⟨by rw [if_pos (by rw [hi, List.take_length] at hp; exact hp)], rfl, rfl⟩
  | j + 1, i, hij, hp, o2, ho, T, W => by
    have hi : i < cs.length := by omega
    obtain ⟨x, hx⟩ : ∃ x, cs[i]? = some x := ⟨_, List.getElem?_eq_getElem hi⟩
    refine Go.iloadN (pc' := 3) W d_prog_30_method_17_code_2 rfl rfl ?_
    refine Go.aloadN (pc' := 4) W d_prog_30_method_17_code_3 rfl rfl rfl ?_
    refine Go.virtual (pc' := 7) W (rm_lenG G a b c cb cs S) (Or.inr (Or.inl (List.mem_of_getElem? (i := 0) rfl))) (StrG.obj S) (w_31 G) (w_32 G) (w_34 G) (w_33 G) (w_8 G) (w_35 G) (by decide) [] [0, 1] (σf := []) rfl rfl [] [(.int i.toInt32)] rfl (lenOf pd_19 rfl) rfl rfl d_prog_30_method_17_code_4 rfl (by first | exact Nat.le_of_ble_eq_true rfl | (simp; done) | (simp; omega) | omega) (by first | exact Nat.le_of_ble_eq_true rfl | (simp; done) | (simp; omega) | omega) (by first | exact Nat.le_of_ble_eq_true rfl | (simp; done) | (simp; omega) | omega) (by first | exact Nat.le_of_ble_eq_true rfl | (simp; done) | (simp; omega) | omega) ?_
    rintro _ _ _ T4 ⟨rfl, rfl, rfl⟩ W5
    replace W5 : Wk l Z EL1 ({ frames := 5, cells := 0, slots := 0, locals := 68 } : Room) "com/example/grantline/grantline/server/OAuthError" prog_30_method_17_code 3 (some .boolean) "isDescribable" X [] [(a, c), (b, cb)] T4 0 (0) := W5
    show Go Z EL1 _ _ _ X T4 7 #[.val (.ref a), .val (.int i.toInt32), o2] [(.int cs.length.toInt32), (.int i.toInt32)]
    refine Go.icmp_ge (pc' := 10) W5 48 d_prog_30_method_17_code_7 (by decide) rfl (fun q => absurd ((i32_lt (by omega) (by omega)).mpr hi) q) (fun _ => ?_)
    refine Go.aloadN (pc' := 11) W5 d_prog_30_method_17_code_10 rfl rfl rfl ?_
    refine Go.iloadN (pc' := 12) W5 d_prog_30_method_17_code_11 rfl rfl ?_
    refine Go.virtual (pc' := 15) W5 (rm_chaG G a b c cb cs S i x hx) (Or.inr (Or.inl (List.mem_of_getElem? (i := 0) rfl))) (StrG.obj S) (w_55 G) (w_56 G) (w_58 G) (w_57 G) (w_8 G) (w_59 G) (by decide) [] [0, 1] (σf := []) rfl rfl [(.int i.toInt32)] [] rfl (lenOf pd_20 rfl) rfl rfl d_prog_30_method_17_code_12 rfl (by first | exact Nat.le_of_ble_eq_true rfl | (simp; done) | (simp; omega) | omega) (by first | exact Nat.le_of_ble_eq_true rfl | (simp; done) | (simp; omega) | omega) (by first | exact Nat.le_of_ble_eq_true rfl | (simp; done) | (simp; omega) | omega) (by first | exact Nat.le_of_ble_eq_true rfl | (simp; done) | (simp; omega) | omega) ?_
    rintro _ _ _ T6 ⟨rfl, rfl, rfl⟩ W7
    replace W7 : Wk l Z EL1 ({ frames := 5, cells := 0, slots := 0, locals := 68 } : Room) "com/example/grantline/grantline/server/OAuthError" prog_30_method_17_code 3 (some .boolean) "isDescribable" X [] [(a, c), (b, cb)] T6 0 (0) := W7
    show Go Z EL1 _ _ _ X T6 15 #[.val (.ref a), .val (.int i.toInt32), o2] [(.int x)]
    refine Go.istoreN (pc' := 16) W7 #[.val (.ref a), .val (.int i.toInt32), .val (.int x)] d_prog_30_method_17_code_15 (XS.store1 (o := o2) rfl ho rfl) rfl ?_
    refine Go.iloadN (pc' := 17) W7 d_prog_30_method_17_code_16 rfl rfl ?_
    refine Go.bipush (pc' := 19) W7 (32 : Int32) d_prog_30_method_17_code_17 (by decide) rfl ?_
    refine Go.icmp_lt (pc' := 22) W7 40 d_prog_30_method_17_code_19 (by decide) rfl (fun (c8 : x < (32 : Int32)) => ?_) (fun (c8 : ¬ (x < (32 : Int32))) => ?_)
    · refine Go.iconst (pc' := 41) W7 (0 : Int32) d_prog_30_method_17_code_40 (by decide) rfl ?_
      have W9 := W7.keepRo [] (ρ' := []) rfl
      replace W9 : Wk l Z EL1 ({ frames := 5, cells := 0, slots := 0, locals := 68 } : Room) "com/example/grantline/grantline/server/OAuthError" prog_30_method_17_code 3 (some .boolean) "isDescribable" X [] [] T6 0 (0) := W9
      refine Go.nret (z' := (0 : Int32)) W9 (by simp) (by decide) d_prog_30_method_17_code_41 (by first | exact Nat.le_of_ble_eq_true rfl | (simp; done) | (simp; omega) | omega) (by first | exact Nat.le_of_ble_eq_true rfl | (simp; done) | (simp; omega) | omega) ?_
      exact ⟨by rw [if_neg (fun h => by have hk := h x (List.mem_of_getElem? hx); simp only [okc] at hk; simp_all)], rfl, rfl⟩
    · refine Go.iloadN (pc' := 23) W7 d_prog_30_method_17_code_22 rfl rfl ?_
      refine Go.bipush (pc' := 25) W7 (126 : Int32) d_prog_30_method_17_code_23 (by decide) rfl ?_
      refine Go.icmp_gt (pc' := 28) W7 40 d_prog_30_method_17_code_25 (by decide) rfl (fun (c10 : (126 : Int32) < x) => ?_) (fun (c10 : ¬ ((126 : Int32) < x)) => ?_)
      · refine Go.iconst (pc' := 41) W7 (0 : Int32) d_prog_30_method_17_code_40 (by decide) rfl ?_
        have W11 := W7.keepRo [] (ρ' := []) rfl
        replace W11 : Wk l Z EL1 ({ frames := 5, cells := 0, slots := 0, locals := 68 } : Room) "com/example/grantline/grantline/server/OAuthError" prog_30_method_17_code 3 (some .boolean) "isDescribable" X [] [] T6 0 (0) := W11
        refine Go.nret (z' := (0 : Int32)) W11 (by simp) (by decide) d_prog_30_method_17_code_41 (by first | exact Nat.le_of_ble_eq_true rfl | (simp; done) | (simp; omega) | omega) (by first | exact Nat.le_of_ble_eq_true rfl | (simp; done) | (simp; omega) | omega) ?_
        exact ⟨by rw [if_neg (fun h => by have hk := h x (List.mem_of_getElem? hx); simp only [okc] at hk; simp_all)], rfl, rfl⟩
      · refine Go.iloadN (pc' := 29) W7 d_prog_30_method_17_code_28 rfl rfl ?_
        refine Go.bipush (pc' := 31) W7 (34 : Int32) d_prog_30_method_17_code_29 (by decide) rfl ?_
        refine Go.icmp_eq (pc' := 34) W7 40 d_prog_30_method_17_code_31 (by decide) rfl (fun (c12 : x = (34 : Int32)) => ?_) (fun (c12 : ¬ (x = (34 : Int32))) => ?_)
        · refine Go.iconst (pc' := 41) W7 (0 : Int32) d_prog_30_method_17_code_40 (by decide) rfl ?_
          have W13 := W7.keepRo [] (ρ' := []) rfl
          replace W13 : Wk l Z EL1 ({ frames := 5, cells := 0, slots := 0, locals := 68 } : Room) "com/example/grantline/grantline/server/OAuthError" prog_30_method_17_code 3 (some .boolean) "isDescribable" X [] [] T6 0 (0) := W13
          refine Go.nret (z' := (0 : Int32)) W13 (by simp) (by decide) d_prog_30_method_17_code_41 (by first | exact Nat.le_of_ble_eq_true rfl | (simp; done) | (simp; omega) | omega) (by first | exact Nat.le_of_ble_eq_true rfl | (simp; done) | (simp; omega) | omega) ?_
          exact ⟨by rw [if_neg (fun h => by have hk := h x (List.mem_of_getElem? hx); simp only [okc] at hk; simp_all)], rfl, rfl⟩
        · refine Go.iloadN (pc' := 35) W7 d_prog_30_method_17_code_34 rfl rfl ?_
          refine Go.bipush (pc' := 37) W7 (92 : Int32) d_prog_30_method_17_code_35 (by decide) rfl ?_
          refine Go.icmp_ne (pc' := 40) W7 42 d_prog_30_method_17_code_37 (by decide) rfl (fun (c14 : ¬ (x = (92 : Int32))) => ?_) (fun (c14 : x = (92 : Int32)) => ?_)
          · refine Go.iinc (pc' := 45) W7 (1 : Int32) #[.val (.ref a), .val (.int (i.toInt32 + (1 : Int32))), .val (.int x)] d_prog_30_method_17_code_42 rfl (by decide) rfl rfl ?_
            refine Go.goto W7 2 d_prog_30_method_17_code_45 (by decide) ?_
            rw [i32_succ (by omega)]
            exact lp_isd G S hn j (i + 1) (by omega) (by rw [take_succ' hx]; intro y hy; rcases List.mem_append.mp hy with hy | hy; exact hp y hy; rw [List.mem_singleton.mp hy]; exact ⟨by assumption, by assumption, by assumption, by assumption⟩) _ (One.val rfl) _ W7
          · refine Go.iconst (pc' := 41) W7 (0 : Int32) d_prog_30_method_17_code_40 (by decide) rfl ?_
            have W15 := W7.keepRo [] (ρ' := []) rfl
            replace W15 : Wk l Z EL1 ({ frames := 5, cells := 0, slots := 0, locals := 68 } : Room) "com/example/grantline/grantline/server/OAuthError" prog_30_method_17_code 3 (some .boolean) "isDescribable" X [] [] T6 0 (0) := W15
            refine Go.nret (z' := (0 : Int32)) W15 (by simp) (by decide) d_prog_30_method_17_code_41 (by first | exact Nat.le_of_ble_eq_true rfl | (simp; done) | (simp; omega) | omega) (by first | exact Nat.le_of_ble_eq_true rfl | (simp; done) | (simp; omega) | omega) ?_
            exact ⟨by rw [if_neg (fun h => by have hk := h x (List.mem_of_getElem? hx); simp only [okc] at hk; simp_all)], rfl, rfl⟩
theorem pn_21 : plainName "com/example/grantline/grantline/server/OAuthError" = true := by first | (simp [plainName, overriddenIn]; done) | decide +kernel
theorem d_prog_30_method_17_code_0 : decode prog_30_method_17_code 0 = .ok (.iconst 0, 1) := by decide +kernel
theorem d_prog_30_method_17_code_1 : decode prog_30_method_17_code 1 = .ok (.istore_n 1, 1) := by decide +kernel
theorem rm_isd {l : Launch} {Z : State} {a0 : Array Value} (G : Cl Z a0) (a b : Addr) (c cb : Cell) (cs : List Int32) (S : StrG Z c b cb cs) (hn : cs.length < 65536) :
    Met l Z EL1 (⟨"com/example/grantline/grantline/server/OAuthError", "isDescribable", "(Ljava/lang/String;)Z"⟩ : MethodName) prog_30_method_17_code 3 (some .boolean) ({ frames := 5, cells := 0, slots := 0, locals := 68 } : Room) #[.ref a] [] [(a, c), (b, cb)] (fun v σ ρ => v = some (.int (if ∀ x ∈ cs, okc x then 1 else 0)) ∧ σ = [] ∧ ρ = []) := by
  refine Met.walk G.2.1 pn_21 #[.val (.ref a), .unset, .unset] (fun m => by first | (simp [entryFrame, mkF, argsToLocals, Value.category]; done) | rfl) ?_
  intro X T W
  refine Go.iconst (pc' := 1) W (0 : Int32) d_prog_30_method_17_code_0 (by decide) rfl ?_
  refine Go.istoreN (pc' := 2) W #[.val (.ref a), .val (.int 0), .unset] d_prog_30_method_17_code_1 rfl rfl ?_
  exact lp_isd G S hn cs.length 0 (by omega) (fun _ q => nomatch q) .unset One.u T W
theorem d_code_0 : decode code 0 = .ok (.iload_n 0, 1) := by decide +kernel
theorem d_code_1 : decode code 1 = .ok (.ldc 8, 2) := by decide +kernel
theorem w_0 {Z : State} {a0 : Array Value} (G : Cl Z a0) : (Jvm.Cond.constant "com/example/grantline/grantline/server/OAuthErrorIsDescribablePinLaw" 8 (2147483647)).before a0 Z = true := G.1 _ (List.mem_of_getElem? (l := tables_1) (i := 0) rfl)
theorem d_code_3 : decode code 3 = .ok (.iand, 1) := by decide +kernel
theorem d_code_4 : decode code 4 = .ok (.iconst 5, 1) := by decide +kernel
theorem d_code_5 : decode code 5 = .ok (.irem, 1) := by decide +kernel
theorem d_code_6 : decode code 6 = .ok (.istore 5, 2) := by decide +kernel
theorem d_code_8 : decode code 8 = .ok (.iload_n 1, 1) := by decide +kernel
theorem d_code_9 : decode code 9 = .ok (.invokestatic 9, 3) := by decide +kernel
theorem w_1 {Z : State} {a0 : Array Value} (G : Cl Z a0) : (Jvm.Cond.methodLink "com/example/grantline/grantline/server/OAuthErrorIsDescribablePinLaw" 9 (⟨"com/example/grantline/grantline/server/OAuthErrorIsDescribablePinLaw", "draw", "(I)C"⟩ : MethodName)).before a0 Z = true := G.1 _ (List.mem_of_getElem? (l := tables_1) (i := 1) rfl)
theorem w_3 {Z : State} {a0 : Array Value} (G : Cl Z a0) : (Jvm.Cond.initialized "com/example/grantline/grantline/server/OAuthErrorIsDescribablePinLaw").before a0 Z = true := G.1 _ (List.mem_of_getElem? (l := tables_1) (i := 3) rfl)
theorem w_4 {Z : State} {a0 : Array Value} (G : Cl Z a0) : (Jvm.Cond.code (⟨"com/example/grantline/grantline/server/OAuthErrorIsDescribablePinLaw", "draw", "(I)C"⟩ : MethodName) method_3_code 1 (some .char)).before a0 Z = true := G.1 _ (List.mem_of_getElem? (l := tables_1) (i := 4) rfl)
theorem w_2 {Z : State} {a0 : Array Value} (G : Cl Z a0) : (Jvm.Cond.static (⟨"com/example/grantline/grantline/server/OAuthErrorIsDescribablePinLaw", "draw", "(I)C"⟩ : MethodName)).before a0 Z = true := G.1 _ (List.mem_of_getElem? (l := tables_1) (i := 2) rfl)
theorem d_code_12 : decode code 12 = .ok (.istore 6, 2) := by decide +kernel
theorem d_code_14 : decode code 14 = .ok (.iload_n 2, 1) := by decide +kernel
theorem d_code_15 : decode code 15 = .ok (.invokestatic 9, 3) := by decide +kernel
theorem d_code_18 : decode code 18 = .ok (.istore 7, 2) := by decide +kernel
theorem d_code_20 : decode code 20 = .ok (.iload_n 3, 1) := by decide +kernel
theorem d_code_21 : decode code 21 = .ok (.invokestatic 9, 3) := by decide +kernel
theorem d_code_24 : decode code 24 = .ok (.istore 8, 2) := by decide +kernel
theorem d_code_26 : decode code 26 = .ok (.iload 4, 2) := by decide +kernel
theorem d_code_28 : decode code 28 = .ok (.invokestatic 9, 3) := by decide +kernel
theorem d_code_31 : decode code 31 = .ok (.istore 9, 2) := by decide +kernel
theorem d_code_33 : decode code 33 = .ok (.iload 5, 2) := by decide +kernel
theorem d_code_35 : decode code 35 = .ok (.newarray .char, 2) := by decide +kernel
theorem w_5 {Z : State} {a0 : Array Value} (G : Cl Z a0) : (Jvm.Cond.arrayClass .char).before a0 Z = true := G.1 _ (List.mem_of_getElem? (l := tables_1) (i := 5) rfl)
theorem d_code_37 : decode code 37 = .ok (.astore 10, 2) := by decide +kernel
theorem d_code_39 : decode code 39 = .ok (.iload 5, 2) := by decide +kernel
theorem d_code_41 : decode code 41 = .ok (.ifCond .le 9, 3) := by decide +kernel
theorem d_code_50 : decode code 50 = .ok (.iload 5, 2) := by decide +kernel
theorem d_code_52 : decode code 52 = .ok (.iconst 1, 1) := by decide +kernel
theorem d_code_53 : decode code 53 = .ok (.if_icmp .le 9, 3) := by decide +kernel
theorem d_code_62 : decode code 62 = .ok (.iload 5, 2) := by decide +kernel
theorem d_code_64 : decode code 64 = .ok (.iconst 2, 1) := by decide +kernel
theorem d_code_65 : decode code 65 = .ok (.if_icmp .le 9, 3) := by decide +kernel
theorem d_code_74 : decode code 74 = .ok (.iload 5, 2) := by decide +kernel
theorem d_code_76 : decode code 76 = .ok (.iconst 3, 1) := by decide +kernel
theorem d_code_77 : decode code 77 = .ok (.if_icmp .le 9, 3) := by decide +kernel
theorem d_code_86 : decode code 86 = .ok (.new 15, 3) := by decide +kernel
theorem w_6 {Z : State} {a0 : Array Value} (G : Cl Z a0) : (Jvm.Cond.classLink "com/example/grantline/grantline/server/OAuthErrorIsDescribablePinLaw" 15 "java/lang/String").before a0 Z = true := G.1 _ (List.mem_of_getElem? (l := tables_1) (i := 6) rfl)
theorem d_code_89 : decode code 89 = .ok (.dup, 1) := by decide +kernel
theorem d_code_90 : decode code 90 = .ok (.aload 10, 2) := by decide +kernel
theorem d_code_92 : decode code 92 = .ok (.invokespecial 17, 3) := by decide +kernel
theorem w_9 {Z : State} {a0 : Array Value} (G : Cl Z a0) : (Jvm.Cond.methodLink "com/example/grantline/grantline/server/OAuthErrorIsDescribablePinLaw" 17 (⟨"java/lang/String", "<init>", "([C)V"⟩ : MethodName)).before a0 Z = true := G.1 _ (List.mem_of_getElem? (l := tables_1) (i := 9) rfl)
theorem w_11 {Z : State} {a0 : Array Value} (G : Cl Z a0) : (Jvm.Cond.code (⟨"java/lang/String", "<init>", "([C)V"⟩ : MethodName) jdk_42_method_3_code 2 none).before a0 Z = true := G.1 _ (List.mem_of_getElem? (l := tables_1) (i := 11) rfl)
theorem pd_22 : parseMethodDescriptor "([C)V" = some ⟨[(.array .char)], none⟩ := by decide +kernel
theorem w_10 {Z : State} {a0 : Array Value} (G : Cl Z a0) : (Jvm.Cond.instanceMethod (⟨"java/lang/String", "<init>", "([C)V"⟩ : MethodName)).before a0 Z = true := G.1 _ (List.mem_of_getElem? (l := tables_1) (i := 10) rfl)
theorem d_code_95 : decode code 95 = .ok (.astore 11, 2) := by decide +kernel
theorem d_code_97 : decode code 97 = .ok (.iconst 1, 1) := by decide +kernel
theorem d_code_98 : decode code 98 = .ok (.istore 12, 2) := by decide +kernel
theorem d_code_100 : decode code 100 = .ok (.iload 5, 2) := by decide +kernel
theorem d_code_102 : decode code 102 = .ok (.ifCond .le 14, 3) := by decide +kernel
theorem d_code_116 : decode code 116 = .ok (.iload 5, 2) := by decide +kernel
theorem d_code_118 : decode code 118 = .ok (.iconst 1, 1) := by decide +kernel
theorem d_code_119 : decode code 119 = .ok (.if_icmp .le 14, 3) := by decide +kernel
theorem d_code_133 : decode code 133 = .ok (.iload 5, 2) := by decide +kernel
theorem d_code_135 : decode code 135 = .ok (.iconst 2, 1) := by decide +kernel
theorem d_code_136 : decode code 136 = .ok (.if_icmp .le 14, 3) := by decide +kernel
theorem d_code_150 : decode code 150 = .ok (.iload 5, 2) := by decide +kernel
theorem d_code_152 : decode code 152 = .ok (.iconst 3, 1) := by decide +kernel
theorem d_code_153 : decode code 153 = .ok (.if_icmp .le 14, 3) := by decide +kernel
theorem d_code_167 : decode code 167 = .ok (.aload 11, 2) := by decide +kernel
theorem d_code_169 : decode code 169 = .ok (.invokestatic 24, 3) := by decide +kernel
theorem w_27 {Z : State} {a0 : Array Value} (G : Cl Z a0) : (Jvm.Cond.methodLink "com/example/grantline/grantline/server/OAuthErrorIsDescribablePinLaw" 24 (⟨"com/example/grantline/grantline/server/OAuthError", "isDescribable", "(Ljava/lang/String;)Z"⟩ : MethodName)).before a0 Z = true := G.1 _ (List.mem_of_getElem? (l := tables_1) (i := 27) rfl)
theorem w_29 {Z : State} {a0 : Array Value} (G : Cl Z a0) : (Jvm.Cond.initialized "com/example/grantline/grantline/server/OAuthError").before a0 Z = true := G.1 _ (List.mem_of_getElem? (l := tables_1) (i := 29) rfl)
theorem w_30 {Z : State} {a0 : Array Value} (G : Cl Z a0) : (Jvm.Cond.code (⟨"com/example/grantline/grantline/server/OAuthError", "isDescribable", "(Ljava/lang/String;)Z"⟩ : MethodName) prog_30_method_17_code 3 (some .boolean)).before a0 Z = true := G.1 _ (List.mem_of_getElem? (l := tables_1) (i := 30) rfl)
theorem pd_23 : parseMethodDescriptor "(Ljava/lang/String;)Z" = some ⟨[(.object "java/lang/String")], some .boolean⟩ := by decide +kernel
theorem w_28 {Z : State} {a0 : Array Value} (G : Cl Z a0) : (Jvm.Cond.static (⟨"com/example/grantline/grantline/server/OAuthError", "isDescribable", "(Ljava/lang/String;)Z"⟩ : MethodName)).before a0 Z = true := G.1 _ (List.mem_of_getElem? (l := tables_1) (i := 28) rfl)
theorem d_code_172 : decode code 172 = .ok (.iload 12, 2) := by decide +kernel
theorem d_code_174 : decode code 174 = .ok (.if_icmp .ne 7, 3) := by decide +kernel
theorem d_code_181 : decode code 181 = .ok (.iconst 0, 1) := by decide +kernel
theorem d_code_182 : decode code 182 = .ok (.ireturn, 1) := by decide +kernel
theorem d_code_177 : decode code 177 = .ok (.iconst 1, 1) := by decide +kernel
theorem d_code_178 : decode code 178 = .ok (.goto 4, 3) := by decide +kernel
theorem d_code_44 : decode code 44 = .ok (.aload 10, 2) := by decide +kernel
theorem d_code_46 : decode code 46 = .ok (.iconst 0, 1) := by decide +kernel
theorem d_code_47 : decode code 47 = .ok (.iload 6, 2) := by decide +kernel
theorem d_code_49 : decode code 49 = .ok (.castore, 1) := by decide +kernel
theorem d_code_105 : decode code 105 = .ok (.iload 6, 2) := by decide +kernel
theorem d_code_107 : decode code 107 = .ok (.invokestatic 20, 3) := by decide +kernel
theorem w_52 {Z : State} {a0 : Array Value} (G : Cl Z a0) : (Jvm.Cond.methodLink "com/example/grantline/grantline/server/OAuthErrorIsDescribablePinLaw" 20 (⟨"com/example/grantline/grantline/server/OAuthErrorIsDescribablePinLaw", "allowed", "(C)Z"⟩ : MethodName)).before a0 Z = true := G.1 _ (List.mem_of_getElem? (l := tables_1) (i := 52) rfl)
theorem w_54 {Z : State} {a0 : Array Value} (G : Cl Z a0) : (Jvm.Cond.code (⟨"com/example/grantline/grantline/server/OAuthErrorIsDescribablePinLaw", "allowed", "(C)Z"⟩ : MethodName) method_2_code 1 (some .boolean)).before a0 Z = true := G.1 _ (List.mem_of_getElem? (l := tables_1) (i := 54) rfl)
theorem pd_24 : parseMethodDescriptor "(C)Z" = some ⟨[.char], some .boolean⟩ := by decide +kernel
theorem w_53 {Z : State} {a0 : Array Value} (G : Cl Z a0) : (Jvm.Cond.static (⟨"com/example/grantline/grantline/server/OAuthErrorIsDescribablePinLaw", "allowed", "(C)Z"⟩ : MethodName)).before a0 Z = true := G.1 _ (List.mem_of_getElem? (l := tables_1) (i := 53) rfl)
theorem d_code_110 : decode code 110 = .ok (.ifCond .ne 6, 3) := by decide +kernel
theorem d_code_113 : decode code 113 = .ok (.iconst 0, 1) := by decide +kernel
theorem d_code_114 : decode code 114 = .ok (.istore 12, 2) := by decide +kernel
theorem d_code_56 : decode code 56 = .ok (.aload 10, 2) := by decide +kernel
theorem d_code_58 : decode code 58 = .ok (.iconst 1, 1) := by decide +kernel
theorem d_code_59 : decode code 59 = .ok (.iload 7, 2) := by decide +kernel
theorem d_code_61 : decode code 61 = .ok (.castore, 1) := by decide +kernel
theorem d_code_122 : decode code 122 = .ok (.iload 7, 2) := by decide +kernel
theorem d_code_124 : decode code 124 = .ok (.invokestatic 20, 3) := by decide +kernel
theorem d_code_127 : decode code 127 = .ok (.ifCond .ne 6, 3) := by decide +kernel
theorem d_code_130 : decode code 130 = .ok (.iconst 0, 1) := by decide +kernel
theorem d_code_131 : decode code 131 = .ok (.istore 12, 2) := by decide +kernel
theorem d_code_68 : decode code 68 = .ok (.aload 10, 2) := by decide +kernel
theorem d_code_70 : decode code 70 = .ok (.iconst 2, 1) := by decide +kernel
theorem d_code_71 : decode code 71 = .ok (.iload 8, 2) := by decide +kernel
theorem d_code_73 : decode code 73 = .ok (.castore, 1) := by decide +kernel
theorem d_code_139 : decode code 139 = .ok (.iload 8, 2) := by decide +kernel
theorem d_code_141 : decode code 141 = .ok (.invokestatic 20, 3) := by decide +kernel
theorem d_code_144 : decode code 144 = .ok (.ifCond .ne 6, 3) := by decide +kernel
theorem d_code_147 : decode code 147 = .ok (.iconst 0, 1) := by decide +kernel
theorem d_code_148 : decode code 148 = .ok (.istore 12, 2) := by decide +kernel
theorem d_code_80 : decode code 80 = .ok (.aload 10, 2) := by decide +kernel
theorem d_code_82 : decode code 82 = .ok (.iconst 3, 1) := by decide +kernel
theorem d_code_83 : decode code 83 = .ok (.iload 9, 2) := by decide +kernel
theorem d_code_85 : decode code 85 = .ok (.castore, 1) := by decide +kernel
theorem d_code_156 : decode code 156 = .ok (.iload 9, 2) := by decide +kernel
theorem d_code_158 : decode code 158 = .ok (.invokestatic 20, 3) := by decide +kernel
theorem d_code_161 : decode code 161 = .ok (.ifCond .ne 6, 3) := by decide +kernel
theorem d_code_164 : decode code 164 = .ok (.iconst 0, 1) := by decide +kernel
theorem d_code_165 : decode code 165 = .ok (.istore 12, 2) := by decide +kernel
set_option maxRecDepth 65536 in
set_option maxHeartbeats 40000000 in
theorem rm_law {l : Launch} {Z : State} {a0 : Array Value} (G : Cl Z a0) (n a b c d : Int32) :
    Met l Z EL1 (⟨"com/example/grantline/grantline/server/OAuthErrorIsDescribablePinLaw", "law", "(IIIII)Z"⟩ : MethodName) code 13 (some .boolean) ({ frames := 9, cells := 24, slots := 1152, locals := 208 } : Room) #[.int n, .int a, .int b, .int c, .int d] [] [] (fun v _ _ => v = some (.int 1)) := by
  refine Met.walk G.2.1 pn_18 #[.val (.int n), .val (.int a), .val (.int b), .val (.int c), .val (.int d), .unset, .unset, .unset, .unset, .unset, .unset, .unset, .unset] (fun m => by first | (simp [entryFrame, mkF, argsToLocals, Value.category]; done) | rfl) ?_
  intro X T0 W0
  refine Go.iloadN (pc' := 1) W0 d_code_0 rfl rfl ?_
  refine Go.ldcInt (pc' := 3) W0 (w_0 G) d_code_1 rfl ?_
  refine Go.iand (pc' := 4) W0 d_code_3 rfl ?_
  refine Go.iconst (pc' := 5) W0 (5 : Int32) d_code_4 (by decide) rfl ?_
  refine Go.irem (pc' := 6) W0 d_code_5 (by decide) rfl ?_
  generalize e2 : (n &&& (2147483647 : Int32)) % (5 : Int32) = n1
  have h3 : n1 = (0 : Int32) ∨ n1 = (1 : Int32) ∨ n1 = (2 : Int32) ∨ n1 = (3 : Int32) ∨ n1 = (4 : Int32) := by rw [← e2]; exact rem5 n
  rcases h3 with rfl | rfl | rfl | rfl | rfl
  · refine Go.istore (pc' := 8) W0 #[.val (.int n), .val (.int a), .val (.int b), .val (.int c), .val (.int d), .val (.int (0 : Int32)), .unset, .unset, .unset, .unset, .unset, .unset, .unset] d_code_6 rfl rfl ?_
    refine Go.iloadN (pc' := 9) W0 d_code_8 rfl rfl ?_
    refine Go.static (pc' := 12) W0 (rm_draw G a) (w_1 G) (w_2 G) (w_3 G) (w_4 G) (by decide) [] [] (σf := []) rfl rfl [(.int a)] [] rfl (lenOf pd_20 rfl) rfl rfl d_code_9 rfl (by first | exact Nat.le_of_ble_eq_true rfl | (simp; done) | (simp; omega) | omega) (by first | exact Nat.le_of_ble_eq_true rfl | (simp; done) | (simp; omega) | omega) (by first | exact Nat.le_of_ble_eq_true rfl | (simp; done) | (simp; omega) | omega) (by first | exact Nat.le_of_ble_eq_true rfl | (simp; done) | (simp; omega) | omega) ?_
    rintro _ _ _ T4 ⟨rfl, rfl, rfl⟩ W5
    replace W5 : Wk l Z EL1 ({ frames := 9, cells := 24, slots := 1152, locals := 208 } : Room) "com/example/grantline/grantline/server/OAuthErrorIsDescribablePinLaw" code 13 (some .boolean) "law" X [] [] T4 0 (0) := W5
    show Go Z EL1 _ _ _ X T4 12 #[.val (.int n), .val (.int a), .val (.int b), .val (.int c), .val (.int d), .val (.int (0 : Int32)), .unset, .unset, .unset, .unset, .unset, .unset, .unset] [(.int (drawF a))]
    refine Go.istore (pc' := 14) W5 #[.val (.int n), .val (.int a), .val (.int b), .val (.int c), .val (.int d), .val (.int (0 : Int32)), .val (.int (drawF a)), .unset, .unset, .unset, .unset, .unset, .unset] d_code_12 rfl rfl ?_
    refine Go.iloadN (pc' := 15) W5 d_code_14 rfl rfl ?_
    refine Go.static (pc' := 18) W5 (rm_draw G b) (w_1 G) (w_2 G) (w_3 G) (w_4 G) (by decide) [] [] (σf := []) rfl rfl [(.int b)] [] rfl (lenOf pd_20 rfl) rfl rfl d_code_15 rfl (by first | exact Nat.le_of_ble_eq_true rfl | (simp; done) | (simp; omega) | omega) (by first | exact Nat.le_of_ble_eq_true rfl | (simp; done) | (simp; omega) | omega) (by first | exact Nat.le_of_ble_eq_true rfl | (simp; done) | (simp; omega) | omega) (by first | exact Nat.le_of_ble_eq_true rfl | (simp; done) | (simp; omega) | omega) ?_
    rintro _ _ _ T6 ⟨rfl, rfl, rfl⟩ W7
    replace W7 : Wk l Z EL1 ({ frames := 9, cells := 24, slots := 1152, locals := 208 } : Room) "com/example/grantline/grantline/server/OAuthErrorIsDescribablePinLaw" code 13 (some .boolean) "law" X [] [] T6 0 (0) := W7
    show Go Z EL1 _ _ _ X T6 18 #[.val (.int n), .val (.int a), .val (.int b), .val (.int c), .val (.int d), .val (.int (0 : Int32)), .val (.int (drawF a)), .unset, .unset, .unset, .unset, .unset, .unset] [(.int (drawF b))]
    refine Go.istore (pc' := 20) W7 #[.val (.int n), .val (.int a), .val (.int b), .val (.int c), .val (.int d), .val (.int (0 : Int32)), .val (.int (drawF a)), .val (.int (drawF b)), .unset, .unset, .unset, .unset, .unset] d_code_18 rfl rfl ?_
    refine Go.iloadN (pc' := 21) W7 d_code_20 rfl rfl ?_
    refine Go.static (pc' := 24) W7 (rm_draw G c) (w_1 G) (w_2 G) (w_3 G) (w_4 G) (by decide) [] [] (σf := []) rfl rfl [(.int c)] [] rfl (lenOf pd_20 rfl) rfl rfl d_code_21 rfl (by first | exact Nat.le_of_ble_eq_true rfl | (simp; done) | (simp; omega) | omega) (by first | exact Nat.le_of_ble_eq_true rfl | (simp; done) | (simp; omega) | omega) (by first | exact Nat.le_of_ble_eq_true rfl | (simp; done) | (simp; omega) | omega) (by first | exact Nat.le_of_ble_eq_true rfl | (simp; done) | (simp; omega) | omega) ?_
    rintro _ _ _ T8 ⟨rfl, rfl, rfl⟩ W9
    replace W9 : Wk l Z EL1 ({ frames := 9, cells := 24, slots := 1152, locals := 208 } : Room) "com/example/grantline/grantline/server/OAuthErrorIsDescribablePinLaw" code 13 (some .boolean) "law" X [] [] T8 0 (0) := W9
    show Go Z EL1 _ _ _ X T8 24 #[.val (.int n), .val (.int a), .val (.int b), .val (.int c), .val (.int d), .val (.int (0 : Int32)), .val (.int (drawF a)), .val (.int (drawF b)), .unset, .unset, .unset, .unset, .unset] [(.int (drawF c))]
    refine Go.istore (pc' := 26) W9 #[.val (.int n), .val (.int a), .val (.int b), .val (.int c), .val (.int d), .val (.int (0 : Int32)), .val (.int (drawF a)), .val (.int (drawF b)), .val (.int (drawF c)), .unset, .unset, .unset, .unset] d_code_24 rfl rfl ?_
    refine Go.iload (pc' := 28) W9 d_code_26 rfl rfl ?_
    refine Go.static (pc' := 31) W9 (rm_draw G d) (w_1 G) (w_2 G) (w_3 G) (w_4 G) (by decide) [] [] (σf := []) rfl rfl [(.int d)] [] rfl (lenOf pd_20 rfl) rfl rfl d_code_28 rfl (by first | exact Nat.le_of_ble_eq_true rfl | (simp; done) | (simp; omega) | omega) (by first | exact Nat.le_of_ble_eq_true rfl | (simp; done) | (simp; omega) | omega) (by first | exact Nat.le_of_ble_eq_true rfl | (simp; done) | (simp; omega) | omega) (by first | exact Nat.le_of_ble_eq_true rfl | (simp; done) | (simp; omega) | omega) ?_
    rintro _ _ _ T10 ⟨rfl, rfl, rfl⟩ W11
    replace W11 : Wk l Z EL1 ({ frames := 9, cells := 24, slots := 1152, locals := 208 } : Room) "com/example/grantline/grantline/server/OAuthErrorIsDescribablePinLaw" code 13 (some .boolean) "law" X [] [] T10 0 (0) := W11
    show Go Z EL1 _ _ _ X T10 31 #[.val (.int n), .val (.int a), .val (.int b), .val (.int c), .val (.int d), .val (.int (0 : Int32)), .val (.int (drawF a)), .val (.int (drawF b)), .val (.int (drawF c)), .unset, .unset, .unset, .unset] [(.int (drawF d))]
    refine Go.istore (pc' := 33) W11 #[.val (.int n), .val (.int a), .val (.int b), .val (.int c), .val (.int d), .val (.int (0 : Int32)), .val (.int (drawF a)), .val (.int (drawF b)), .val (.int (drawF c)), .val (.int (drawF d)), .unset, .unset, .unset] d_code_31 rfl rfl ?_
    refine Go.iload (pc' := 35) W11 d_code_33 rfl rfl ?_
    refine Go.newarr (pc' := 37) W11 .char rfl 0 (w_5 G) d_code_35 rfl (by decide) (by decide) (by decide) (by first | exact Nat.le_of_ble_eq_true rfl | (simp; done) | (simp; omega) | omega) (by first | exact Nat.le_of_ble_eq_true rfl | (simp; done) | (simp; omega) | omega) (fun T12 a14 c15 W13 A16 => ?_)
    replace W13 : Wk l Z EL1 ({ frames := 9, cells := 24, slots := 1152, locals := 208 } : Room) "com/example/grantline/grantline/server/OAuthErrorIsDescribablePinLaw" code 13 (some .boolean) "law" X [(a14, c15)] [] T12 1 (0) := W13
    replace A16 : ArrC Z c15 .char [] := A16
    refine Go.astore (pc' := 39) W13 #[.val (.int n), .val (.int a), .val (.int b), .val (.int c), .val (.int d), .val (.int (0 : Int32)), .val (.int (drawF a)), .val (.int (drawF b)), .val (.int (drawF c)), .val (.int (drawF d)), .val (.ref a14), .unset, .unset] d_code_37 rfl rfl rfl ?_
    refine Go.iload (pc' := 41) W13 d_code_39 rfl rfl ?_
    refine Go.if_le (pc' := 44) W13 50 d_code_41 (by decide) rfl (fun _ => ?_) (fun q => absurd q (by decide))
    refine Go.iload (pc' := 52) W13 d_code_50 rfl rfl ?_
    refine Go.iconst (pc' := 53) W13 (1 : Int32) d_code_52 (by decide) rfl ?_
    refine Go.icmp_le (pc' := 56) W13 62 d_code_53 (by decide) rfl (fun _ => ?_) (fun q => absurd q (by decide))
    refine Go.iload (pc' := 64) W13 d_code_62 rfl rfl ?_
    refine Go.iconst (pc' := 65) W13 (2 : Int32) d_code_64 (by decide) rfl ?_
    refine Go.icmp_le (pc' := 68) W13 74 d_code_65 (by decide) rfl (fun _ => ?_) (fun q => absurd q (by decide))
    refine Go.iload (pc' := 76) W13 d_code_74 rfl rfl ?_
    refine Go.iconst (pc' := 77) W13 (3 : Int32) d_code_76 (by decide) rfl ?_
    refine Go.icmp_le (pc' := 80) W13 86 d_code_77 (by decide) rfl (fun _ => ?_) (fun q => absurd q (by decide))
    refine Go.new (pc' := 89) W13 (w_6 G) (w_7 G) (w_8 G) d_code_86 rfl (by first | exact Nat.le_of_ble_eq_true rfl | (simp; done) | (simp; omega) | omega) (by first | exact Nat.le_of_ble_eq_true rfl | (simp; done) | (simp; omega) | omega) (fun T17 a19 c20 W18 O21 D22 => ?_)
    replace W18 : Wk l Z EL1 ({ frames := 9, cells := 24, slots := 1152, locals := 208 } : Room) "com/example/grantline/grantline/server/OAuthErrorIsDescribablePinLaw" code 13 (some .boolean) "law" X [(a19, c20), (a14, c15)] [] T17 2 (4) := W18
    have F23 : FldC Z c20 "java/lang/String" "value" "[B" (.null) := D22 (Or.inr (w_21 G)) (ty := (.array .byte)) (by decide)
    have F24 : FldC Z c20 "java/lang/String" "coder" "B" (.int (0 : Int32)) := D22 (Or.inr (w_22 G)) (ty := .byte) (by decide)
    refine Go.dup (pc' := 90) W18 d_code_89 rfl rfl ?_
    refine Go.aload (pc' := 92) W18 d_code_90 rfl rfl rfl ?_
    refine Go.special (pc' := 95) W18 (a := a19) (rm_initC0 G a19 a14 c20 c15 A16 O21 F24 F23) rfl (w_9 G) (w_10 G) (w_8 G) (w_11 G) (by decide) [0, 0] [] (σf := []) rfl rfl [(.ref a14)] [(.ref a19)] rfl (lenOf pd_22 rfl) rfl rfl d_code_92 rfl (by first | exact Nat.le_of_ble_eq_true rfl | (simp; done) | (simp; omega) | omega) (by first | exact Nat.le_of_ble_eq_true rfl | (simp; done) | (simp; omega) | omega) (by first | exact Nat.le_of_ble_eq_true rfl | (simp; done) | (simp; omega) | omega) (by first | exact Nat.le_of_ble_eq_true rfl | (simp; done) | (simp; omega) | omega) ?_
    rintro _ _ _ T29 ⟨c25, b26, c27, rfl, rfl, rfl, S28⟩ W30
    replace W30 : Wk l Z EL1 ({ frames := 9, cells := 24, slots := 1152, locals := 208 } : Room) "com/example/grantline/grantline/server/OAuthErrorIsDescribablePinLaw" code 13 (some .boolean) "law" X [(a14, c15)] [(a19, c25), (b26, c27)] T29 6 (12) := W30
    show Go Z EL1 _ _ _ X T29 95 #[.val (.int n), .val (.int a), .val (.int b), .val (.int c), .val (.int d), .val (.int (0 : Int32)), .val (.int (drawF a)), .val (.int (drawF b)), .val (.int (drawF c)), .val (.int (drawF d)), .val (.ref a14), .unset, .unset] [(.ref a19)]
    have S31 : StrG Z c25 b26 c27 [] := Or.inl S28
    refine Go.astore (pc' := 97) W30 #[.val (.int n), .val (.int a), .val (.int b), .val (.int c), .val (.int d), .val (.int (0 : Int32)), .val (.int (drawF a)), .val (.int (drawF b)), .val (.int (drawF c)), .val (.int (drawF d)), .val (.ref a14), .val (.ref a19), .unset] d_code_95 rfl rfl rfl ?_
    refine Go.iconst (pc' := 98) W30 (1 : Int32) d_code_97 (by decide) rfl ?_
    refine Go.istore (pc' := 100) W30 #[.val (.int n), .val (.int a), .val (.int b), .val (.int c), .val (.int d), .val (.int (0 : Int32)), .val (.int (drawF a)), .val (.int (drawF b)), .val (.int (drawF c)), .val (.int (drawF d)), .val (.ref a14), .val (.ref a19), .val (.int (1 : Int32))] d_code_98 rfl rfl ?_
    refine Go.iload (pc' := 102) W30 d_code_100 rfl rfl ?_
    refine Go.if_le (pc' := 105) W30 116 d_code_102 (by decide) rfl (fun _ => ?_) (fun q => absurd q (by decide))
    refine Go.iload (pc' := 118) W30 d_code_116 rfl rfl ?_
    refine Go.iconst (pc' := 119) W30 (1 : Int32) d_code_118 (by decide) rfl ?_
    refine Go.icmp_le (pc' := 122) W30 133 d_code_119 (by decide) rfl (fun _ => ?_) (fun q => absurd q (by decide))
    refine Go.iload (pc' := 135) W30 d_code_133 rfl rfl ?_
    refine Go.iconst (pc' := 136) W30 (2 : Int32) d_code_135 (by decide) rfl ?_
    refine Go.icmp_le (pc' := 139) W30 150 d_code_136 (by decide) rfl (fun _ => ?_) (fun q => absurd q (by decide))
    refine Go.iload (pc' := 152) W30 d_code_150 rfl rfl ?_
    refine Go.iconst (pc' := 153) W30 (3 : Int32) d_code_152 (by decide) rfl ?_
    refine Go.icmp_le (pc' := 156) W30 167 d_code_153 (by decide) rfl (fun _ => ?_) (fun q => absurd q (by decide))
    refine Go.aload (pc' := 169) W30 d_code_167 rfl rfl rfl ?_
    refine Go.static (pc' := 172) W30 (rm_isd G a19 b26 c25 c27 _ S31 (by simp)) (w_27 G) (w_28 G) (w_29 G) (w_30 G) (by decide) [] [0, 1] (σf := [(a14, c15)]) rfl rfl [(.ref a19)] [] rfl (lenOf pd_23 rfl) rfl rfl d_code_169 rfl (by first | exact Nat.le_of_ble_eq_true rfl | (simp; done) | (simp; omega) | omega) (by first | exact Nat.le_of_ble_eq_true rfl | (simp; done) | (simp; omega) | omega) (by first | exact Nat.le_of_ble_eq_true rfl | (simp; done) | (simp; omega) | omega) (by first | exact Nat.le_of_ble_eq_true rfl | (simp; done) | (simp; omega) | omega) ?_
    rintro _ _ _ T32 ⟨rfl, rfl, rfl⟩ W33
    replace W33 : Wk l Z EL1 ({ frames := 9, cells := 24, slots := 1152, locals := 208 } : Room) "com/example/grantline/grantline/server/OAuthErrorIsDescribablePinLaw" code 13 (some .boolean) "law" X [(a14, c15)] [(a19, c25), (b26, c27)] T32 6 (12) := W33
    show Go Z EL1 _ _ _ X T32 172 #[.val (.int n), .val (.int a), .val (.int b), .val (.int c), .val (.int d), .val (.int (0 : Int32)), .val (.int (drawF a)), .val (.int (drawF b)), .val (.int (drawF c)), .val (.int (drawF d)), .val (.ref a14), .val (.ref a19), .val (.int (1 : Int32))] [(.int (if ∀ x ∈ ([] : List Int32), okc x then 1 else 0))]
    refine Go.iload (pc' := 174) W33 d_code_172 rfl rfl ?_
    refine Go.icmp_ne (pc' := 177) W33 181 d_code_174 (by decide) rfl (fun (c34 : ¬ ((if ∀ x ∈ ([] : List Int32), okc x then 1 else 0) = (1 : Int32))) => ?_) (fun (c34 : (if ∀ x ∈ ([] : List Int32), okc x then 1 else 0) = (1 : Int32)) => ?_)
    · refine Go.iconst (pc' := 182) W33 (0 : Int32) d_code_181 (by decide) rfl ?_
      refine Go.nret (z' := (0 : Int32)) W33 (by simp) (by decide) d_code_182 (by first | exact Nat.le_of_ble_eq_true rfl | (simp; done) | (simp; omega) | omega) (by first | exact Nat.le_of_ble_eq_true rfl | (simp; done) | (simp; omega) | omega) ?_
      first | rfl | (exfalso; simp_all)
    · refine Go.iconst (pc' := 178) W33 (1 : Int32) d_code_177 (by decide) rfl ?_
      refine Go.goto W33 182 d_code_178 (by decide) ?_
      refine Go.nret (z' := (1 : Int32)) W33 (by simp) (by decide) d_code_182 (by first | exact Nat.le_of_ble_eq_true rfl | (simp; done) | (simp; omega) | omega) (by first | exact Nat.le_of_ble_eq_true rfl | (simp; done) | (simp; omega) | omega) ?_
      first | rfl | (exfalso; simp_all)
  · refine Go.istore (pc' := 8) W0 #[.val (.int n), .val (.int a), .val (.int b), .val (.int c), .val (.int d), .val (.int (1 : Int32)), .unset, .unset, .unset, .unset, .unset, .unset, .unset] d_code_6 rfl rfl ?_
    refine Go.iloadN (pc' := 9) W0 d_code_8 rfl rfl ?_
    refine Go.static (pc' := 12) W0 (rm_draw G a) (w_1 G) (w_2 G) (w_3 G) (w_4 G) (by decide) [] [] (σf := []) rfl rfl [(.int a)] [] rfl (lenOf pd_20 rfl) rfl rfl d_code_9 rfl (by first | exact Nat.le_of_ble_eq_true rfl | (simp; done) | (simp; omega) | omega) (by first | exact Nat.le_of_ble_eq_true rfl | (simp; done) | (simp; omega) | omega) (by first | exact Nat.le_of_ble_eq_true rfl | (simp; done) | (simp; omega) | omega) (by first | exact Nat.le_of_ble_eq_true rfl | (simp; done) | (simp; omega) | omega) ?_
    rintro _ _ _ T35 ⟨rfl, rfl, rfl⟩ W36
    replace W36 : Wk l Z EL1 ({ frames := 9, cells := 24, slots := 1152, locals := 208 } : Room) "com/example/grantline/grantline/server/OAuthErrorIsDescribablePinLaw" code 13 (some .boolean) "law" X [] [] T35 0 (0) := W36
    show Go Z EL1 _ _ _ X T35 12 #[.val (.int n), .val (.int a), .val (.int b), .val (.int c), .val (.int d), .val (.int (1 : Int32)), .unset, .unset, .unset, .unset, .unset, .unset, .unset] [(.int (drawF a))]
    refine Go.istore (pc' := 14) W36 #[.val (.int n), .val (.int a), .val (.int b), .val (.int c), .val (.int d), .val (.int (1 : Int32)), .val (.int (drawF a)), .unset, .unset, .unset, .unset, .unset, .unset] d_code_12 rfl rfl ?_
    refine Go.iloadN (pc' := 15) W36 d_code_14 rfl rfl ?_
    refine Go.static (pc' := 18) W36 (rm_draw G b) (w_1 G) (w_2 G) (w_3 G) (w_4 G) (by decide) [] [] (σf := []) rfl rfl [(.int b)] [] rfl (lenOf pd_20 rfl) rfl rfl d_code_15 rfl (by first | exact Nat.le_of_ble_eq_true rfl | (simp; done) | (simp; omega) | omega) (by first | exact Nat.le_of_ble_eq_true rfl | (simp; done) | (simp; omega) | omega) (by first | exact Nat.le_of_ble_eq_true rfl | (simp; done) | (simp; omega) | omega) (by first | exact Nat.le_of_ble_eq_true rfl | (simp; done) | (simp; omega) | omega) ?_
    rintro _ _ _ T37 ⟨rfl, rfl, rfl⟩ W38
    replace W38 : Wk l Z EL1 ({ frames := 9, cells := 24, slots := 1152, locals := 208 } : Room) "com/example/grantline/grantline/server/OAuthErrorIsDescribablePinLaw" code 13 (some .boolean) "law" X [] [] T37 0 (0) := W38
    show Go Z EL1 _ _ _ X T37 18 #[.val (.int n), .val (.int a), .val (.int b), .val (.int c), .val (.int d), .val (.int (1 : Int32)), .val (.int (drawF a)), .unset, .unset, .unset, .unset, .unset, .unset] [(.int (drawF b))]
    refine Go.istore (pc' := 20) W38 #[.val (.int n), .val (.int a), .val (.int b), .val (.int c), .val (.int d), .val (.int (1 : Int32)), .val (.int (drawF a)), .val (.int (drawF b)), .unset, .unset, .unset, .unset, .unset] d_code_18 rfl rfl ?_
    refine Go.iloadN (pc' := 21) W38 d_code_20 rfl rfl ?_
    refine Go.static (pc' := 24) W38 (rm_draw G c) (w_1 G) (w_2 G) (w_3 G) (w_4 G) (by decide) [] [] (σf := []) rfl rfl [(.int c)] [] rfl (lenOf pd_20 rfl) rfl rfl d_code_21 rfl (by first | exact Nat.le_of_ble_eq_true rfl | (simp; done) | (simp; omega) | omega) (by first | exact Nat.le_of_ble_eq_true rfl | (simp; done) | (simp; omega) | omega) (by first | exact Nat.le_of_ble_eq_true rfl | (simp; done) | (simp; omega) | omega) (by first | exact Nat.le_of_ble_eq_true rfl | (simp; done) | (simp; omega) | omega) ?_
    rintro _ _ _ T39 ⟨rfl, rfl, rfl⟩ W40
    replace W40 : Wk l Z EL1 ({ frames := 9, cells := 24, slots := 1152, locals := 208 } : Room) "com/example/grantline/grantline/server/OAuthErrorIsDescribablePinLaw" code 13 (some .boolean) "law" X [] [] T39 0 (0) := W40
    show Go Z EL1 _ _ _ X T39 24 #[.val (.int n), .val (.int a), .val (.int b), .val (.int c), .val (.int d), .val (.int (1 : Int32)), .val (.int (drawF a)), .val (.int (drawF b)), .unset, .unset, .unset, .unset, .unset] [(.int (drawF c))]
    refine Go.istore (pc' := 26) W40 #[.val (.int n), .val (.int a), .val (.int b), .val (.int c), .val (.int d), .val (.int (1 : Int32)), .val (.int (drawF a)), .val (.int (drawF b)), .val (.int (drawF c)), .unset, .unset, .unset, .unset] d_code_24 rfl rfl ?_
    refine Go.iload (pc' := 28) W40 d_code_26 rfl rfl ?_
    refine Go.static (pc' := 31) W40 (rm_draw G d) (w_1 G) (w_2 G) (w_3 G) (w_4 G) (by decide) [] [] (σf := []) rfl rfl [(.int d)] [] rfl (lenOf pd_20 rfl) rfl rfl d_code_28 rfl (by first | exact Nat.le_of_ble_eq_true rfl | (simp; done) | (simp; omega) | omega) (by first | exact Nat.le_of_ble_eq_true rfl | (simp; done) | (simp; omega) | omega) (by first | exact Nat.le_of_ble_eq_true rfl | (simp; done) | (simp; omega) | omega) (by first | exact Nat.le_of_ble_eq_true rfl | (simp; done) | (simp; omega) | omega) ?_
    rintro _ _ _ T41 ⟨rfl, rfl, rfl⟩ W42
    replace W42 : Wk l Z EL1 ({ frames := 9, cells := 24, slots := 1152, locals := 208 } : Room) "com/example/grantline/grantline/server/OAuthErrorIsDescribablePinLaw" code 13 (some .boolean) "law" X [] [] T41 0 (0) := W42
    show Go Z EL1 _ _ _ X T41 31 #[.val (.int n), .val (.int a), .val (.int b), .val (.int c), .val (.int d), .val (.int (1 : Int32)), .val (.int (drawF a)), .val (.int (drawF b)), .val (.int (drawF c)), .unset, .unset, .unset, .unset] [(.int (drawF d))]
    refine Go.istore (pc' := 33) W42 #[.val (.int n), .val (.int a), .val (.int b), .val (.int c), .val (.int d), .val (.int (1 : Int32)), .val (.int (drawF a)), .val (.int (drawF b)), .val (.int (drawF c)), .val (.int (drawF d)), .unset, .unset, .unset] d_code_31 rfl rfl ?_
    refine Go.iload (pc' := 35) W42 d_code_33 rfl rfl ?_
    refine Go.newarr (pc' := 37) W42 .char rfl 1 (w_5 G) d_code_35 rfl (by decide) (by decide) (by decide) (by first | exact Nat.le_of_ble_eq_true rfl | (simp; done) | (simp; omega) | omega) (by first | exact Nat.le_of_ble_eq_true rfl | (simp; done) | (simp; omega) | omega) (fun T43 a45 c46 W44 A47 => ?_)
    replace W44 : Wk l Z EL1 ({ frames := 9, cells := 24, slots := 1152, locals := 208 } : Room) "com/example/grantline/grantline/server/OAuthErrorIsDescribablePinLaw" code 13 (some .boolean) "law" X [(a45, c46)] [] T43 1 (1) := W44
    replace A47 : ArrC Z c46 .char [(.int (0 : Int32))] := A47
    refine Go.astore (pc' := 39) W44 #[.val (.int n), .val (.int a), .val (.int b), .val (.int c), .val (.int d), .val (.int (1 : Int32)), .val (.int (drawF a)), .val (.int (drawF b)), .val (.int (drawF c)), .val (.int (drawF d)), .val (.ref a45), .unset, .unset] d_code_37 rfl rfl rfl ?_
    refine Go.iload (pc' := 41) W44 d_code_39 rfl rfl ?_
    refine Go.if_le (pc' := 44) W44 50 d_code_41 (by decide) rfl (fun q => absurd (by decide) q) (fun _ => ?_)
    refine Go.aload (pc' := 46) W44 d_code_44 rfl rfl rfl ?_
    refine Go.iconst (pc' := 47) W44 (0 : Int32) d_code_46 (by decide) rfl ?_
    refine Go.iload (pc' := 49) W44 d_code_47 rfl rfl ?_
    refine Go.castore (pc' := 50) W44 0 rfl A47 0 (drawF a) (nar_char_id (drawF_chr _)) (by decide) (by decide) (by simp) d_code_49 rfl (fun T48 c50 W49 A51 => ?_)
    replace W49 : Wk l Z EL1 ({ frames := 9, cells := 24, slots := 1152, locals := 208 } : Room) "com/example/grantline/grantline/server/OAuthErrorIsDescribablePinLaw" code 13 (some .boolean) "law" X [(a45, c50)] [] T48 1 (1) := W49
    replace A51 : ArrC Z c50 .char [(.int (drawF a))] := A51
    refine Go.iload (pc' := 52) W49 d_code_50 rfl rfl ?_
    refine Go.iconst (pc' := 53) W49 (1 : Int32) d_code_52 (by decide) rfl ?_
    refine Go.icmp_le (pc' := 56) W49 62 d_code_53 (by decide) rfl (fun _ => ?_) (fun q => absurd q (by decide))
    refine Go.iload (pc' := 64) W49 d_code_62 rfl rfl ?_
    refine Go.iconst (pc' := 65) W49 (2 : Int32) d_code_64 (by decide) rfl ?_
    refine Go.icmp_le (pc' := 68) W49 74 d_code_65 (by decide) rfl (fun _ => ?_) (fun q => absurd q (by decide))
    refine Go.iload (pc' := 76) W49 d_code_74 rfl rfl ?_
    refine Go.iconst (pc' := 77) W49 (3 : Int32) d_code_76 (by decide) rfl ?_
    refine Go.icmp_le (pc' := 80) W49 86 d_code_77 (by decide) rfl (fun _ => ?_) (fun q => absurd q (by decide))
    refine Go.new (pc' := 89) W49 (w_6 G) (w_7 G) (w_8 G) d_code_86 rfl (by first | exact Nat.le_of_ble_eq_true rfl | (simp; done) | (simp; omega) | omega) (by first | exact Nat.le_of_ble_eq_true rfl | (simp; done) | (simp; omega) | omega) (fun T52 a54 c55 W53 O56 D57 => ?_)
    replace W53 : Wk l Z EL1 ({ frames := 9, cells := 24, slots := 1152, locals := 208 } : Room) "com/example/grantline/grantline/server/OAuthErrorIsDescribablePinLaw" code 13 (some .boolean) "law" X [(a54, c55), (a45, c50)] [] T52 2 (5) := W53
    have F58 : FldC Z c55 "java/lang/String" "value" "[B" (.null) := D57 (Or.inr (w_21 G)) (ty := (.array .byte)) (by decide)
    have F59 : FldC Z c55 "java/lang/String" "coder" "B" (.int (0 : Int32)) := D57 (Or.inr (w_22 G)) (ty := .byte) (by decide)
    refine Go.dup (pc' := 90) W53 d_code_89 rfl rfl ?_
    refine Go.aload (pc' := 92) W53 d_code_90 rfl rfl rfl ?_
    refine Go.special (pc' := 95) W53 (a := a54) (rm_initC G a54 a45 c55 c50 [drawF a] A51 O56 F59 F58 (Chr.cons (drawF_chr _) Chr.nil) (by simp) (show ¬ (1 : Nat).toInt32 = 0 by decide)) rfl (w_9 G) (w_10 G) (w_8 G) (w_11 G) (by decide) [0, 0] [] (σf := []) rfl rfl [(.ref a45)] [(.ref a54)] rfl (lenOf pd_22 rfl) rfl rfl d_code_92 rfl (by first | exact Nat.le_of_ble_eq_true rfl | (simp; done) | (simp; omega) | omega) (by first | exact Nat.le_of_ble_eq_true rfl | (simp; done) | (simp; omega) | omega) (by first | exact Nat.le_of_ble_eq_true rfl | (simp; done) | (simp; omega) | omega) (by first | exact Nat.le_of_ble_eq_true rfl | (simp; done) | (simp; omega) | omega) ?_
    rintro _ _ _ T64 ⟨c60, b61, c62, rfl, rfl, rfl, S63⟩ W65
    replace W65 : Wk l Z EL1 ({ frames := 9, cells := 24, slots := 1152, locals := 208 } : Room) "com/example/grantline/grantline/server/OAuthErrorIsDescribablePinLaw" code 13 (some .boolean) "law" X [(a45, c50)] [(a54, c60), (b61, c62)] T64 4 (8) := W65
    show Go Z EL1 _ _ _ X T64 95 #[.val (.int n), .val (.int a), .val (.int b), .val (.int c), .val (.int d), .val (.int (1 : Int32)), .val (.int (drawF a)), .val (.int (drawF b)), .val (.int (drawF c)), .val (.int (drawF d)), .val (.ref a45), .unset, .unset] [(.ref a54)]
    refine Go.astore (pc' := 97) W65 #[.val (.int n), .val (.int a), .val (.int b), .val (.int c), .val (.int d), .val (.int (1 : Int32)), .val (.int (drawF a)), .val (.int (drawF b)), .val (.int (drawF c)), .val (.int (drawF d)), .val (.ref a45), .val (.ref a54), .unset] d_code_95 rfl rfl rfl ?_
    refine Go.iconst (pc' := 98) W65 (1 : Int32) d_code_97 (by decide) rfl ?_
    refine Go.istore (pc' := 100) W65 #[.val (.int n), .val (.int a), .val (.int b), .val (.int c), .val (.int d), .val (.int (1 : Int32)), .val (.int (drawF a)), .val (.int (drawF b)), .val (.int (drawF c)), .val (.int (drawF d)), .val (.ref a45), .val (.ref a54), .val (.int (1 : Int32))] d_code_98 rfl rfl ?_
    refine Go.iload (pc' := 102) W65 d_code_100 rfl rfl ?_
    refine Go.if_le (pc' := 105) W65 116 d_code_102 (by decide) rfl (fun q => absurd (by decide) q) (fun _ => ?_)
    refine Go.iload (pc' := 107) W65 d_code_105 rfl rfl ?_
    refine Go.static (pc' := 110) W65 (rm_al G (drawF a)) (w_52 G) (w_53 G) (w_3 G) (w_54 G) (by decide) [] [] (σf := [(a45, c50)]) rfl rfl [(.int (drawF a))] [] rfl (lenOf pd_24 rfl) rfl rfl d_code_107 rfl (by first | exact Nat.le_of_ble_eq_true rfl | (simp; done) | (simp; omega) | omega) (by first | exact Nat.le_of_ble_eq_true rfl | (simp; done) | (simp; omega) | omega) (by first | exact Nat.le_of_ble_eq_true rfl | (simp; done) | (simp; omega) | omega) (by first | exact Nat.le_of_ble_eq_true rfl | (simp; done) | (simp; omega) | omega) ?_
    rintro _ _ _ T66 ⟨rfl, rfl, rfl⟩ W67
    replace W67 : Wk l Z EL1 ({ frames := 9, cells := 24, slots := 1152, locals := 208 } : Room) "com/example/grantline/grantline/server/OAuthErrorIsDescribablePinLaw" code 13 (some .boolean) "law" X [(a45, c50)] [(a54, c60), (b61, c62)] T66 4 (8) := W67
    show Go Z EL1 _ _ _ X T66 110 #[.val (.int n), .val (.int a), .val (.int b), .val (.int c), .val (.int d), .val (.int (1 : Int32)), .val (.int (drawF a)), .val (.int (drawF b)), .val (.int (drawF c)), .val (.int (drawF d)), .val (.ref a45), .val (.ref a54), .val (.int (1 : Int32))] [(.int (if okc (drawF a) then 1 else 0))]
    refine Go.if_ne (pc' := 113) W67 116 d_code_110 (by decide) rfl (fun (c68 : ¬ ((if okc (drawF a) then 1 else 0) = 0)) => ?_) (fun (c68 : (if okc (drawF a) then 1 else 0) = 0) => ?_)
    · refine Go.iload (pc' := 118) W67 d_code_116 rfl rfl ?_
      refine Go.iconst (pc' := 119) W67 (1 : Int32) d_code_118 (by decide) rfl ?_
      refine Go.icmp_le (pc' := 122) W67 133 d_code_119 (by decide) rfl (fun _ => ?_) (fun q => absurd q (by decide))
      refine Go.iload (pc' := 135) W67 d_code_133 rfl rfl ?_
      refine Go.iconst (pc' := 136) W67 (2 : Int32) d_code_135 (by decide) rfl ?_
      refine Go.icmp_le (pc' := 139) W67 150 d_code_136 (by decide) rfl (fun _ => ?_) (fun q => absurd q (by decide))
      refine Go.iload (pc' := 152) W67 d_code_150 rfl rfl ?_
      refine Go.iconst (pc' := 153) W67 (3 : Int32) d_code_152 (by decide) rfl ?_
      refine Go.icmp_le (pc' := 156) W67 167 d_code_153 (by decide) rfl (fun _ => ?_) (fun q => absurd q (by decide))
      refine Go.aload (pc' := 169) W67 d_code_167 rfl rfl rfl ?_
      refine Go.static (pc' := 172) W67 (rm_isd G a54 b61 c60 c62 _ S63 (by simp)) (w_27 G) (w_28 G) (w_29 G) (w_30 G) (by decide) [] [0, 1] (σf := [(a45, c50)]) rfl rfl [(.ref a54)] [] rfl (lenOf pd_23 rfl) rfl rfl d_code_169 rfl (by first | exact Nat.le_of_ble_eq_true rfl | (simp; done) | (simp; omega) | omega) (by first | exact Nat.le_of_ble_eq_true rfl | (simp; done) | (simp; omega) | omega) (by first | exact Nat.le_of_ble_eq_true rfl | (simp; done) | (simp; omega) | omega) (by first | exact Nat.le_of_ble_eq_true rfl | (simp; done) | (simp; omega) | omega) ?_
      rintro _ _ _ T69 ⟨rfl, rfl, rfl⟩ W70
      replace W70 : Wk l Z EL1 ({ frames := 9, cells := 24, slots := 1152, locals := 208 } : Room) "com/example/grantline/grantline/server/OAuthErrorIsDescribablePinLaw" code 13 (some .boolean) "law" X [(a45, c50)] [(a54, c60), (b61, c62)] T69 4 (8) := W70
      show Go Z EL1 _ _ _ X T69 172 #[.val (.int n), .val (.int a), .val (.int b), .val (.int c), .val (.int d), .val (.int (1 : Int32)), .val (.int (drawF a)), .val (.int (drawF b)), .val (.int (drawF c)), .val (.int (drawF d)), .val (.ref a45), .val (.ref a54), .val (.int (1 : Int32))] [(.int (if ∀ x ∈ ([drawF a] : List Int32), okc x then 1 else 0))]
      refine Go.iload (pc' := 174) W70 d_code_172 rfl rfl ?_
      refine Go.icmp_ne (pc' := 177) W70 181 d_code_174 (by decide) rfl (fun (c71 : ¬ ((if ∀ x ∈ ([drawF a] : List Int32), okc x then 1 else 0) = (1 : Int32))) => ?_) (fun (c71 : (if ∀ x ∈ ([drawF a] : List Int32), okc x then 1 else 0) = (1 : Int32)) => ?_)
      · refine Go.iconst (pc' := 182) W70 (0 : Int32) d_code_181 (by decide) rfl ?_
        refine Go.nret (z' := (0 : Int32)) W70 (by simp) (by decide) d_code_182 (by first | exact Nat.le_of_ble_eq_true rfl | (simp; done) | (simp; omega) | omega) (by first | exact Nat.le_of_ble_eq_true rfl | (simp; done) | (simp; omega) | omega) ?_
        first | rfl | (exfalso; simp_all)
      · refine Go.iconst (pc' := 178) W70 (1 : Int32) d_code_177 (by decide) rfl ?_
        refine Go.goto W70 182 d_code_178 (by decide) ?_
        refine Go.nret (z' := (1 : Int32)) W70 (by simp) (by decide) d_code_182 (by first | exact Nat.le_of_ble_eq_true rfl | (simp; done) | (simp; omega) | omega) (by first | exact Nat.le_of_ble_eq_true rfl | (simp; done) | (simp; omega) | omega) ?_
        first | rfl | (exfalso; simp_all)
    · refine Go.iconst (pc' := 114) W67 (0 : Int32) d_code_113 (by decide) rfl ?_
      refine Go.istore (pc' := 116) W67 #[.val (.int n), .val (.int a), .val (.int b), .val (.int c), .val (.int d), .val (.int (1 : Int32)), .val (.int (drawF a)), .val (.int (drawF b)), .val (.int (drawF c)), .val (.int (drawF d)), .val (.ref a45), .val (.ref a54), .val (.int (0 : Int32))] d_code_114 rfl rfl ?_
      refine Go.iload (pc' := 118) W67 d_code_116 rfl rfl ?_
      refine Go.iconst (pc' := 119) W67 (1 : Int32) d_code_118 (by decide) rfl ?_
      refine Go.icmp_le (pc' := 122) W67 133 d_code_119 (by decide) rfl (fun _ => ?_) (fun q => absurd q (by decide))
      refine Go.iload (pc' := 135) W67 d_code_133 rfl rfl ?_
      refine Go.iconst (pc' := 136) W67 (2 : Int32) d_code_135 (by decide) rfl ?_
      refine Go.icmp_le (pc' := 139) W67 150 d_code_136 (by decide) rfl (fun _ => ?_) (fun q => absurd q (by decide))
      refine Go.iload (pc' := 152) W67 d_code_150 rfl rfl ?_
      refine Go.iconst (pc' := 153) W67 (3 : Int32) d_code_152 (by decide) rfl ?_
      refine Go.icmp_le (pc' := 156) W67 167 d_code_153 (by decide) rfl (fun _ => ?_) (fun q => absurd q (by decide))
      refine Go.aload (pc' := 169) W67 d_code_167 rfl rfl rfl ?_
      refine Go.static (pc' := 172) W67 (rm_isd G a54 b61 c60 c62 _ S63 (by simp)) (w_27 G) (w_28 G) (w_29 G) (w_30 G) (by decide) [] [0, 1] (σf := [(a45, c50)]) rfl rfl [(.ref a54)] [] rfl (lenOf pd_23 rfl) rfl rfl d_code_169 rfl (by first | exact Nat.le_of_ble_eq_true rfl | (simp; done) | (simp; omega) | omega) (by first | exact Nat.le_of_ble_eq_true rfl | (simp; done) | (simp; omega) | omega) (by first | exact Nat.le_of_ble_eq_true rfl | (simp; done) | (simp; omega) | omega) (by first | exact Nat.le_of_ble_eq_true rfl | (simp; done) | (simp; omega) | omega) ?_
      rintro _ _ _ T72 ⟨rfl, rfl, rfl⟩ W73
      replace W73 : Wk l Z EL1 ({ frames := 9, cells := 24, slots := 1152, locals := 208 } : Room) "com/example/grantline/grantline/server/OAuthErrorIsDescribablePinLaw" code 13 (some .boolean) "law" X [(a45, c50)] [(a54, c60), (b61, c62)] T72 4 (8) := W73
      show Go Z EL1 _ _ _ X T72 172 #[.val (.int n), .val (.int a), .val (.int b), .val (.int c), .val (.int d), .val (.int (1 : Int32)), .val (.int (drawF a)), .val (.int (drawF b)), .val (.int (drawF c)), .val (.int (drawF d)), .val (.ref a45), .val (.ref a54), .val (.int (0 : Int32))] [(.int (if ∀ x ∈ ([drawF a] : List Int32), okc x then 1 else 0))]
      refine Go.iload (pc' := 174) W73 d_code_172 rfl rfl ?_
      refine Go.icmp_ne (pc' := 177) W73 181 d_code_174 (by decide) rfl (fun (c74 : ¬ ((if ∀ x ∈ ([drawF a] : List Int32), okc x then 1 else 0) = (0 : Int32))) => ?_) (fun (c74 : (if ∀ x ∈ ([drawF a] : List Int32), okc x then 1 else 0) = (0 : Int32)) => ?_)
      · refine Go.iconst (pc' := 182) W73 (0 : Int32) d_code_181 (by decide) rfl ?_
        refine Go.nret (z' := (0 : Int32)) W73 (by simp) (by decide) d_code_182 (by first | exact Nat.le_of_ble_eq_true rfl | (simp; done) | (simp; omega) | omega) (by first | exact Nat.le_of_ble_eq_true rfl | (simp; done) | (simp; omega) | omega) ?_
        first | rfl | (exfalso; simp_all)
      · refine Go.iconst (pc' := 178) W73 (1 : Int32) d_code_177 (by decide) rfl ?_
        refine Go.goto W73 182 d_code_178 (by decide) ?_
        refine Go.nret (z' := (1 : Int32)) W73 (by simp) (by decide) d_code_182 (by first | exact Nat.le_of_ble_eq_true rfl | (simp; done) | (simp; omega) | omega) (by first | exact Nat.le_of_ble_eq_true rfl | (simp; done) | (simp; omega) | omega) ?_
        first | rfl | (exfalso; simp_all)
  · refine Go.istore (pc' := 8) W0 #[.val (.int n), .val (.int a), .val (.int b), .val (.int c), .val (.int d), .val (.int (2 : Int32)), .unset, .unset, .unset, .unset, .unset, .unset, .unset] d_code_6 rfl rfl ?_
    refine Go.iloadN (pc' := 9) W0 d_code_8 rfl rfl ?_
    refine Go.static (pc' := 12) W0 (rm_draw G a) (w_1 G) (w_2 G) (w_3 G) (w_4 G) (by decide) [] [] (σf := []) rfl rfl [(.int a)] [] rfl (lenOf pd_20 rfl) rfl rfl d_code_9 rfl (by first | exact Nat.le_of_ble_eq_true rfl | (simp; done) | (simp; omega) | omega) (by first | exact Nat.le_of_ble_eq_true rfl | (simp; done) | (simp; omega) | omega) (by first | exact Nat.le_of_ble_eq_true rfl | (simp; done) | (simp; omega) | omega) (by first | exact Nat.le_of_ble_eq_true rfl | (simp; done) | (simp; omega) | omega) ?_
    rintro _ _ _ T75 ⟨rfl, rfl, rfl⟩ W76
    replace W76 : Wk l Z EL1 ({ frames := 9, cells := 24, slots := 1152, locals := 208 } : Room) "com/example/grantline/grantline/server/OAuthErrorIsDescribablePinLaw" code 13 (some .boolean) "law" X [] [] T75 0 (0) := W76
    show Go Z EL1 _ _ _ X T75 12 #[.val (.int n), .val (.int a), .val (.int b), .val (.int c), .val (.int d), .val (.int (2 : Int32)), .unset, .unset, .unset, .unset, .unset, .unset, .unset] [(.int (drawF a))]
    refine Go.istore (pc' := 14) W76 #[.val (.int n), .val (.int a), .val (.int b), .val (.int c), .val (.int d), .val (.int (2 : Int32)), .val (.int (drawF a)), .unset, .unset, .unset, .unset, .unset, .unset] d_code_12 rfl rfl ?_
    refine Go.iloadN (pc' := 15) W76 d_code_14 rfl rfl ?_
    refine Go.static (pc' := 18) W76 (rm_draw G b) (w_1 G) (w_2 G) (w_3 G) (w_4 G) (by decide) [] [] (σf := []) rfl rfl [(.int b)] [] rfl (lenOf pd_20 rfl) rfl rfl d_code_15 rfl (by first | exact Nat.le_of_ble_eq_true rfl | (simp; done) | (simp; omega) | omega) (by first | exact Nat.le_of_ble_eq_true rfl | (simp; done) | (simp; omega) | omega) (by first | exact Nat.le_of_ble_eq_true rfl | (simp; done) | (simp; omega) | omega) (by first | exact Nat.le_of_ble_eq_true rfl | (simp; done) | (simp; omega) | omega) ?_
    rintro _ _ _ T77 ⟨rfl, rfl, rfl⟩ W78
    replace W78 : Wk l Z EL1 ({ frames := 9, cells := 24, slots := 1152, locals := 208 } : Room) "com/example/grantline/grantline/server/OAuthErrorIsDescribablePinLaw" code 13 (some .boolean) "law" X [] [] T77 0 (0) := W78
    show Go Z EL1 _ _ _ X T77 18 #[.val (.int n), .val (.int a), .val (.int b), .val (.int c), .val (.int d), .val (.int (2 : Int32)), .val (.int (drawF a)), .unset, .unset, .unset, .unset, .unset, .unset] [(.int (drawF b))]
    refine Go.istore (pc' := 20) W78 #[.val (.int n), .val (.int a), .val (.int b), .val (.int c), .val (.int d), .val (.int (2 : Int32)), .val (.int (drawF a)), .val (.int (drawF b)), .unset, .unset, .unset, .unset, .unset] d_code_18 rfl rfl ?_
    refine Go.iloadN (pc' := 21) W78 d_code_20 rfl rfl ?_
    refine Go.static (pc' := 24) W78 (rm_draw G c) (w_1 G) (w_2 G) (w_3 G) (w_4 G) (by decide) [] [] (σf := []) rfl rfl [(.int c)] [] rfl (lenOf pd_20 rfl) rfl rfl d_code_21 rfl (by first | exact Nat.le_of_ble_eq_true rfl | (simp; done) | (simp; omega) | omega) (by first | exact Nat.le_of_ble_eq_true rfl | (simp; done) | (simp; omega) | omega) (by first | exact Nat.le_of_ble_eq_true rfl | (simp; done) | (simp; omega) | omega) (by first | exact Nat.le_of_ble_eq_true rfl | (simp; done) | (simp; omega) | omega) ?_
    rintro _ _ _ T79 ⟨rfl, rfl, rfl⟩ W80
    replace W80 : Wk l Z EL1 ({ frames := 9, cells := 24, slots := 1152, locals := 208 } : Room) "com/example/grantline/grantline/server/OAuthErrorIsDescribablePinLaw" code 13 (some .boolean) "law" X [] [] T79 0 (0) := W80
    show Go Z EL1 _ _ _ X T79 24 #[.val (.int n), .val (.int a), .val (.int b), .val (.int c), .val (.int d), .val (.int (2 : Int32)), .val (.int (drawF a)), .val (.int (drawF b)), .unset, .unset, .unset, .unset, .unset] [(.int (drawF c))]
    refine Go.istore (pc' := 26) W80 #[.val (.int n), .val (.int a), .val (.int b), .val (.int c), .val (.int d), .val (.int (2 : Int32)), .val (.int (drawF a)), .val (.int (drawF b)), .val (.int (drawF c)), .unset, .unset, .unset, .unset] d_code_24 rfl rfl ?_
    refine Go.iload (pc' := 28) W80 d_code_26 rfl rfl ?_
    refine Go.static (pc' := 31) W80 (rm_draw G d) (w_1 G) (w_2 G) (w_3 G) (w_4 G) (by decide) [] [] (σf := []) rfl rfl [(.int d)] [] rfl (lenOf pd_20 rfl) rfl rfl d_code_28 rfl (by first | exact Nat.le_of_ble_eq_true rfl | (simp; done) | (simp; omega) | omega) (by first | exact Nat.le_of_ble_eq_true rfl | (simp; done) | (simp; omega) | omega) (by first | exact Nat.le_of_ble_eq_true rfl | (simp; done) | (simp; omega) | omega) (by first | exact Nat.le_of_ble_eq_true rfl | (simp; done) | (simp; omega) | omega) ?_
    rintro _ _ _ T81 ⟨rfl, rfl, rfl⟩ W82
    replace W82 : Wk l Z EL1 ({ frames := 9, cells := 24, slots := 1152, locals := 208 } : Room) "com/example/grantline/grantline/server/OAuthErrorIsDescribablePinLaw" code 13 (some .boolean) "law" X [] [] T81 0 (0) := W82
    show Go Z EL1 _ _ _ X T81 31 #[.val (.int n), .val (.int a), .val (.int b), .val (.int c), .val (.int d), .val (.int (2 : Int32)), .val (.int (drawF a)), .val (.int (drawF b)), .val (.int (drawF c)), .unset, .unset, .unset, .unset] [(.int (drawF d))]
    refine Go.istore (pc' := 33) W82 #[.val (.int n), .val (.int a), .val (.int b), .val (.int c), .val (.int d), .val (.int (2 : Int32)), .val (.int (drawF a)), .val (.int (drawF b)), .val (.int (drawF c)), .val (.int (drawF d)), .unset, .unset, .unset] d_code_31 rfl rfl ?_
    refine Go.iload (pc' := 35) W82 d_code_33 rfl rfl ?_
    refine Go.newarr (pc' := 37) W82 .char rfl 2 (w_5 G) d_code_35 rfl (by decide) (by decide) (by decide) (by first | exact Nat.le_of_ble_eq_true rfl | (simp; done) | (simp; omega) | omega) (by first | exact Nat.le_of_ble_eq_true rfl | (simp; done) | (simp; omega) | omega) (fun T83 a85 c86 W84 A87 => ?_)
    replace W84 : Wk l Z EL1 ({ frames := 9, cells := 24, slots := 1152, locals := 208 } : Room) "com/example/grantline/grantline/server/OAuthErrorIsDescribablePinLaw" code 13 (some .boolean) "law" X [(a85, c86)] [] T83 1 (2) := W84
    replace A87 : ArrC Z c86 .char [(.int (0 : Int32)), (.int (0 : Int32))] := A87
    refine Go.astore (pc' := 39) W84 #[.val (.int n), .val (.int a), .val (.int b), .val (.int c), .val (.int d), .val (.int (2 : Int32)), .val (.int (drawF a)), .val (.int (drawF b)), .val (.int (drawF c)), .val (.int (drawF d)), .val (.ref a85), .unset, .unset] d_code_37 rfl rfl rfl ?_
    refine Go.iload (pc' := 41) W84 d_code_39 rfl rfl ?_
    refine Go.if_le (pc' := 44) W84 50 d_code_41 (by decide) rfl (fun q => absurd (by decide) q) (fun _ => ?_)
    refine Go.aload (pc' := 46) W84 d_code_44 rfl rfl rfl ?_
    refine Go.iconst (pc' := 47) W84 (0 : Int32) d_code_46 (by decide) rfl ?_
    refine Go.iload (pc' := 49) W84 d_code_47 rfl rfl ?_
    refine Go.castore (pc' := 50) W84 0 rfl A87 0 (drawF a) (nar_char_id (drawF_chr _)) (by decide) (by decide) (by simp) d_code_49 rfl (fun T88 c90 W89 A91 => ?_)
    replace W89 : Wk l Z EL1 ({ frames := 9, cells := 24, slots := 1152, locals := 208 } : Room) "com/example/grantline/grantline/server/OAuthErrorIsDescribablePinLaw" code 13 (some .boolean) "law" X [(a85, c90)] [] T88 1 (2) := W89
    replace A91 : ArrC Z c90 .char [(.int (drawF a)), (.int (0 : Int32))] := A91
    refine Go.iload (pc' := 52) W89 d_code_50 rfl rfl ?_
    refine Go.iconst (pc' := 53) W89 (1 : Int32) d_code_52 (by decide) rfl ?_
    refine Go.icmp_le (pc' := 56) W89 62 d_code_53 (by decide) rfl (fun q => absurd (by decide) q) (fun _ => ?_)
    refine Go.aload (pc' := 58) W89 d_code_56 rfl rfl rfl ?_
    refine Go.iconst (pc' := 59) W89 (1 : Int32) d_code_58 (by decide) rfl ?_
    refine Go.iload (pc' := 61) W89 d_code_59 rfl rfl ?_
    refine Go.castore (pc' := 62) W89 0 rfl A91 1 (drawF b) (nar_char_id (drawF_chr _)) (by decide) (by decide) (by simp) d_code_61 rfl (fun T92 c94 W93 A95 => ?_)
    replace W93 : Wk l Z EL1 ({ frames := 9, cells := 24, slots := 1152, locals := 208 } : Room) "com/example/grantline/grantline/server/OAuthErrorIsDescribablePinLaw" code 13 (some .boolean) "law" X [(a85, c94)] [] T92 1 (2) := W93
    replace A95 : ArrC Z c94 .char [(.int (drawF a)), (.int (drawF b))] := A95
    refine Go.iload (pc' := 64) W93 d_code_62 rfl rfl ?_
    refine Go.iconst (pc' := 65) W93 (2 : Int32) d_code_64 (by decide) rfl ?_
    refine Go.icmp_le (pc' := 68) W93 74 d_code_65 (by decide) rfl (fun _ => ?_) (fun q => absurd q (by decide))
    refine Go.iload (pc' := 76) W93 d_code_74 rfl rfl ?_
    refine Go.iconst (pc' := 77) W93 (3 : Int32) d_code_76 (by decide) rfl ?_
    refine Go.icmp_le (pc' := 80) W93 86 d_code_77 (by decide) rfl (fun _ => ?_) (fun q => absurd q (by decide))
    refine Go.new (pc' := 89) W93 (w_6 G) (w_7 G) (w_8 G) d_code_86 rfl (by first | exact Nat.le_of_ble_eq_true rfl | (simp; done) | (simp; omega) | omega) (by first | exact Nat.le_of_ble_eq_true rfl | (simp; done) | (simp; omega) | omega) (fun T96 a98 c99 W97 O100 D101 => ?_)
    replace W97 : Wk l Z EL1 ({ frames := 9, cells := 24, slots := 1152, locals := 208 } : Room) "com/example/grantline/grantline/server/OAuthErrorIsDescribablePinLaw" code 13 (some .boolean) "law" X [(a98, c99), (a85, c94)] [] T96 2 (6) := W97
    have F102 : FldC Z c99 "java/lang/String" "value" "[B" (.null) := D101 (Or.inr (w_21 G)) (ty := (.array .byte)) (by decide)
    have F103 : FldC Z c99 "java/lang/String" "coder" "B" (.int (0 : Int32)) := D101 (Or.inr (w_22 G)) (ty := .byte) (by decide)
    refine Go.dup (pc' := 90) W97 d_code_89 rfl rfl ?_
    refine Go.aload (pc' := 92) W97 d_code_90 rfl rfl rfl ?_
    refine Go.special (pc' := 95) W97 (a := a98) (rm_initC G a98 a85 c99 c94 [drawF a, drawF b] A95 O100 F103 F102 (Chr.cons (drawF_chr _) (Chr.cons (drawF_chr _) Chr.nil)) (by simp) (show ¬ (2 : Nat).toInt32 = 0 by decide)) rfl (w_9 G) (w_10 G) (w_8 G) (w_11 G) (by decide) [0, 0] [] (σf := []) rfl rfl [(.ref a85)] [(.ref a98)] rfl (lenOf pd_22 rfl) rfl rfl d_code_92 rfl (by first | exact Nat.le_of_ble_eq_true rfl | (simp; done) | (simp; omega) | omega) (by first | exact Nat.le_of_ble_eq_true rfl | (simp; done) | (simp; omega) | omega) (by first | exact Nat.le_of_ble_eq_true rfl | (simp; done) | (simp; omega) | omega) (by first | exact Nat.le_of_ble_eq_true rfl | (simp; done) | (simp; omega) | omega) ?_
    rintro _ _ _ T108 ⟨c104, b105, c106, rfl, rfl, rfl, S107⟩ W109
    replace W109 : Wk l Z EL1 ({ frames := 9, cells := 24, slots := 1152, locals := 208 } : Room) "com/example/grantline/grantline/server/OAuthErrorIsDescribablePinLaw" code 13 (some .boolean) "law" X [(a85, c94)] [(a98, c104), (b105, c106)] T108 4 (12) := W109
    show Go Z EL1 _ _ _ X T108 95 #[.val (.int n), .val (.int a), .val (.int b), .val (.int c), .val (.int d), .val (.int (2 : Int32)), .val (.int (drawF a)), .val (.int (drawF b)), .val (.int (drawF c)), .val (.int (drawF d)), .val (.ref a85), .unset, .unset] [(.ref a98)]
    refine Go.astore (pc' := 97) W109 #[.val (.int n), .val (.int a), .val (.int b), .val (.int c), .val (.int d), .val (.int (2 : Int32)), .val (.int (drawF a)), .val (.int (drawF b)), .val (.int (drawF c)), .val (.int (drawF d)), .val (.ref a85), .val (.ref a98), .unset] d_code_95 rfl rfl rfl ?_
    refine Go.iconst (pc' := 98) W109 (1 : Int32) d_code_97 (by decide) rfl ?_
    refine Go.istore (pc' := 100) W109 #[.val (.int n), .val (.int a), .val (.int b), .val (.int c), .val (.int d), .val (.int (2 : Int32)), .val (.int (drawF a)), .val (.int (drawF b)), .val (.int (drawF c)), .val (.int (drawF d)), .val (.ref a85), .val (.ref a98), .val (.int (1 : Int32))] d_code_98 rfl rfl ?_
    refine Go.iload (pc' := 102) W109 d_code_100 rfl rfl ?_
    refine Go.if_le (pc' := 105) W109 116 d_code_102 (by decide) rfl (fun q => absurd (by decide) q) (fun _ => ?_)
    refine Go.iload (pc' := 107) W109 d_code_105 rfl rfl ?_
    refine Go.static (pc' := 110) W109 (rm_al G (drawF a)) (w_52 G) (w_53 G) (w_3 G) (w_54 G) (by decide) [] [] (σf := [(a85, c94)]) rfl rfl [(.int (drawF a))] [] rfl (lenOf pd_24 rfl) rfl rfl d_code_107 rfl (by first | exact Nat.le_of_ble_eq_true rfl | (simp; done) | (simp; omega) | omega) (by first | exact Nat.le_of_ble_eq_true rfl | (simp; done) | (simp; omega) | omega) (by first | exact Nat.le_of_ble_eq_true rfl | (simp; done) | (simp; omega) | omega) (by first | exact Nat.le_of_ble_eq_true rfl | (simp; done) | (simp; omega) | omega) ?_
    rintro _ _ _ T110 ⟨rfl, rfl, rfl⟩ W111
    replace W111 : Wk l Z EL1 ({ frames := 9, cells := 24, slots := 1152, locals := 208 } : Room) "com/example/grantline/grantline/server/OAuthErrorIsDescribablePinLaw" code 13 (some .boolean) "law" X [(a85, c94)] [(a98, c104), (b105, c106)] T110 4 (12) := W111
    show Go Z EL1 _ _ _ X T110 110 #[.val (.int n), .val (.int a), .val (.int b), .val (.int c), .val (.int d), .val (.int (2 : Int32)), .val (.int (drawF a)), .val (.int (drawF b)), .val (.int (drawF c)), .val (.int (drawF d)), .val (.ref a85), .val (.ref a98), .val (.int (1 : Int32))] [(.int (if okc (drawF a) then 1 else 0))]
    refine Go.if_ne (pc' := 113) W111 116 d_code_110 (by decide) rfl (fun (c112 : ¬ ((if okc (drawF a) then 1 else 0) = 0)) => ?_) (fun (c112 : (if okc (drawF a) then 1 else 0) = 0) => ?_)
    · refine Go.iload (pc' := 118) W111 d_code_116 rfl rfl ?_
      refine Go.iconst (pc' := 119) W111 (1 : Int32) d_code_118 (by decide) rfl ?_
      refine Go.icmp_le (pc' := 122) W111 133 d_code_119 (by decide) rfl (fun q => absurd (by decide) q) (fun _ => ?_)
      refine Go.iload (pc' := 124) W111 d_code_122 rfl rfl ?_
      refine Go.static (pc' := 127) W111 (rm_al G (drawF b)) (w_52 G) (w_53 G) (w_3 G) (w_54 G) (by decide) [] [] (σf := [(a85, c94)]) rfl rfl [(.int (drawF b))] [] rfl (lenOf pd_24 rfl) rfl rfl d_code_124 rfl (by first | exact Nat.le_of_ble_eq_true rfl | (simp; done) | (simp; omega) | omega) (by first | exact Nat.le_of_ble_eq_true rfl | (simp; done) | (simp; omega) | omega) (by first | exact Nat.le_of_ble_eq_true rfl | (simp; done) | (simp; omega) | omega) (by first | exact Nat.le_of_ble_eq_true rfl | (simp; done) | (simp; omega) | omega) ?_
      rintro _ _ _ T113 ⟨rfl, rfl, rfl⟩ W114
      replace W114 : Wk l Z EL1 ({ frames := 9, cells := 24, slots := 1152, locals := 208 } : Room) "com/example/grantline/grantline/server/OAuthErrorIsDescribablePinLaw" code 13 (some .boolean) "law" X [(a85, c94)] [(a98, c104), (b105, c106)] T113 4 (12) := W114
      show Go Z EL1 _ _ _ X T113 127 #[.val (.int n), .val (.int a), .val (.int b), .val (.int c), .val (.int d), .val (.int (2 : Int32)), .val (.int (drawF a)), .val (.int (drawF b)), .val (.int (drawF c)), .val (.int (drawF d)), .val (.ref a85), .val (.ref a98), .val (.int (1 : Int32))] [(.int (if okc (drawF b) then 1 else 0))]
      refine Go.if_ne (pc' := 130) W114 133 d_code_127 (by decide) rfl (fun (c115 : ¬ ((if okc (drawF b) then 1 else 0) = 0)) => ?_) (fun (c115 : (if okc (drawF b) then 1 else 0) = 0) => ?_)
      · refine Go.iload (pc' := 135) W114 d_code_133 rfl rfl ?_
        refine Go.iconst (pc' := 136) W114 (2 : Int32) d_code_135 (by decide) rfl ?_
        refine Go.icmp_le (pc' := 139) W114 150 d_code_136 (by decide) rfl (fun _ => ?_) (fun q => absurd q (by decide))
        refine Go.iload (pc' := 152) W114 d_code_150 rfl rfl ?_
        refine Go.iconst (pc' := 153) W114 (3 : Int32) d_code_152 (by decide) rfl ?_
        refine Go.icmp_le (pc' := 156) W114 167 d_code_153 (by decide) rfl (fun _ => ?_) (fun q => absurd q (by decide))
        refine Go.aload (pc' := 169) W114 d_code_167 rfl rfl rfl ?_
        refine Go.static (pc' := 172) W114 (rm_isd G a98 b105 c104 c106 _ S107 (by simp)) (w_27 G) (w_28 G) (w_29 G) (w_30 G) (by decide) [] [0, 1] (σf := [(a85, c94)]) rfl rfl [(.ref a98)] [] rfl (lenOf pd_23 rfl) rfl rfl d_code_169 rfl (by first | exact Nat.le_of_ble_eq_true rfl | (simp; done) | (simp; omega) | omega) (by first | exact Nat.le_of_ble_eq_true rfl | (simp; done) | (simp; omega) | omega) (by first | exact Nat.le_of_ble_eq_true rfl | (simp; done) | (simp; omega) | omega) (by first | exact Nat.le_of_ble_eq_true rfl | (simp; done) | (simp; omega) | omega) ?_
        rintro _ _ _ T116 ⟨rfl, rfl, rfl⟩ W117
        replace W117 : Wk l Z EL1 ({ frames := 9, cells := 24, slots := 1152, locals := 208 } : Room) "com/example/grantline/grantline/server/OAuthErrorIsDescribablePinLaw" code 13 (some .boolean) "law" X [(a85, c94)] [(a98, c104), (b105, c106)] T116 4 (12) := W117
        show Go Z EL1 _ _ _ X T116 172 #[.val (.int n), .val (.int a), .val (.int b), .val (.int c), .val (.int d), .val (.int (2 : Int32)), .val (.int (drawF a)), .val (.int (drawF b)), .val (.int (drawF c)), .val (.int (drawF d)), .val (.ref a85), .val (.ref a98), .val (.int (1 : Int32))] [(.int (if ∀ x ∈ ([drawF a, drawF b] : List Int32), okc x then 1 else 0))]
        refine Go.iload (pc' := 174) W117 d_code_172 rfl rfl ?_
        refine Go.icmp_ne (pc' := 177) W117 181 d_code_174 (by decide) rfl (fun (c118 : ¬ ((if ∀ x ∈ ([drawF a, drawF b] : List Int32), okc x then 1 else 0) = (1 : Int32))) => ?_) (fun (c118 : (if ∀ x ∈ ([drawF a, drawF b] : List Int32), okc x then 1 else 0) = (1 : Int32)) => ?_)
        · refine Go.iconst (pc' := 182) W117 (0 : Int32) d_code_181 (by decide) rfl ?_
          refine Go.nret (z' := (0 : Int32)) W117 (by simp) (by decide) d_code_182 (by first | exact Nat.le_of_ble_eq_true rfl | (simp; done) | (simp; omega) | omega) (by first | exact Nat.le_of_ble_eq_true rfl | (simp; done) | (simp; omega) | omega) ?_
          first | rfl | (exfalso; simp_all)
        · refine Go.iconst (pc' := 178) W117 (1 : Int32) d_code_177 (by decide) rfl ?_
          refine Go.goto W117 182 d_code_178 (by decide) ?_
          refine Go.nret (z' := (1 : Int32)) W117 (by simp) (by decide) d_code_182 (by first | exact Nat.le_of_ble_eq_true rfl | (simp; done) | (simp; omega) | omega) (by first | exact Nat.le_of_ble_eq_true rfl | (simp; done) | (simp; omega) | omega) ?_
          first | rfl | (exfalso; simp_all)
      · refine Go.iconst (pc' := 131) W114 (0 : Int32) d_code_130 (by decide) rfl ?_
        refine Go.istore (pc' := 133) W114 #[.val (.int n), .val (.int a), .val (.int b), .val (.int c), .val (.int d), .val (.int (2 : Int32)), .val (.int (drawF a)), .val (.int (drawF b)), .val (.int (drawF c)), .val (.int (drawF d)), .val (.ref a85), .val (.ref a98), .val (.int (0 : Int32))] d_code_131 rfl rfl ?_
        refine Go.iload (pc' := 135) W114 d_code_133 rfl rfl ?_
        refine Go.iconst (pc' := 136) W114 (2 : Int32) d_code_135 (by decide) rfl ?_
        refine Go.icmp_le (pc' := 139) W114 150 d_code_136 (by decide) rfl (fun _ => ?_) (fun q => absurd q (by decide))
        refine Go.iload (pc' := 152) W114 d_code_150 rfl rfl ?_
        refine Go.iconst (pc' := 153) W114 (3 : Int32) d_code_152 (by decide) rfl ?_
        refine Go.icmp_le (pc' := 156) W114 167 d_code_153 (by decide) rfl (fun _ => ?_) (fun q => absurd q (by decide))
        refine Go.aload (pc' := 169) W114 d_code_167 rfl rfl rfl ?_
        refine Go.static (pc' := 172) W114 (rm_isd G a98 b105 c104 c106 _ S107 (by simp)) (w_27 G) (w_28 G) (w_29 G) (w_30 G) (by decide) [] [0, 1] (σf := [(a85, c94)]) rfl rfl [(.ref a98)] [] rfl (lenOf pd_23 rfl) rfl rfl d_code_169 rfl (by first | exact Nat.le_of_ble_eq_true rfl | (simp; done) | (simp; omega) | omega) (by first | exact Nat.le_of_ble_eq_true rfl | (simp; done) | (simp; omega) | omega) (by first | exact Nat.le_of_ble_eq_true rfl | (simp; done) | (simp; omega) | omega) (by first | exact Nat.le_of_ble_eq_true rfl | (simp; done) | (simp; omega) | omega) ?_
        rintro _ _ _ T119 ⟨rfl, rfl, rfl⟩ W120
        replace W120 : Wk l Z EL1 ({ frames := 9, cells := 24, slots := 1152, locals := 208 } : Room) "com/example/grantline/grantline/server/OAuthErrorIsDescribablePinLaw" code 13 (some .boolean) "law" X [(a85, c94)] [(a98, c104), (b105, c106)] T119 4 (12) := W120
        show Go Z EL1 _ _ _ X T119 172 #[.val (.int n), .val (.int a), .val (.int b), .val (.int c), .val (.int d), .val (.int (2 : Int32)), .val (.int (drawF a)), .val (.int (drawF b)), .val (.int (drawF c)), .val (.int (drawF d)), .val (.ref a85), .val (.ref a98), .val (.int (0 : Int32))] [(.int (if ∀ x ∈ ([drawF a, drawF b] : List Int32), okc x then 1 else 0))]
        refine Go.iload (pc' := 174) W120 d_code_172 rfl rfl ?_
        refine Go.icmp_ne (pc' := 177) W120 181 d_code_174 (by decide) rfl (fun (c121 : ¬ ((if ∀ x ∈ ([drawF a, drawF b] : List Int32), okc x then 1 else 0) = (0 : Int32))) => ?_) (fun (c121 : (if ∀ x ∈ ([drawF a, drawF b] : List Int32), okc x then 1 else 0) = (0 : Int32)) => ?_)
        · refine Go.iconst (pc' := 182) W120 (0 : Int32) d_code_181 (by decide) rfl ?_
          refine Go.nret (z' := (0 : Int32)) W120 (by simp) (by decide) d_code_182 (by first | exact Nat.le_of_ble_eq_true rfl | (simp; done) | (simp; omega) | omega) (by first | exact Nat.le_of_ble_eq_true rfl | (simp; done) | (simp; omega) | omega) ?_
          first | rfl | (exfalso; simp_all)
        · refine Go.iconst (pc' := 178) W120 (1 : Int32) d_code_177 (by decide) rfl ?_
          refine Go.goto W120 182 d_code_178 (by decide) ?_
          refine Go.nret (z' := (1 : Int32)) W120 (by simp) (by decide) d_code_182 (by first | exact Nat.le_of_ble_eq_true rfl | (simp; done) | (simp; omega) | omega) (by first | exact Nat.le_of_ble_eq_true rfl | (simp; done) | (simp; omega) | omega) ?_
          first | rfl | (exfalso; simp_all)
    · refine Go.iconst (pc' := 114) W111 (0 : Int32) d_code_113 (by decide) rfl ?_
      refine Go.istore (pc' := 116) W111 #[.val (.int n), .val (.int a), .val (.int b), .val (.int c), .val (.int d), .val (.int (2 : Int32)), .val (.int (drawF a)), .val (.int (drawF b)), .val (.int (drawF c)), .val (.int (drawF d)), .val (.ref a85), .val (.ref a98), .val (.int (0 : Int32))] d_code_114 rfl rfl ?_
      refine Go.iload (pc' := 118) W111 d_code_116 rfl rfl ?_
      refine Go.iconst (pc' := 119) W111 (1 : Int32) d_code_118 (by decide) rfl ?_
      refine Go.icmp_le (pc' := 122) W111 133 d_code_119 (by decide) rfl (fun q => absurd (by decide) q) (fun _ => ?_)
      refine Go.iload (pc' := 124) W111 d_code_122 rfl rfl ?_
      refine Go.static (pc' := 127) W111 (rm_al G (drawF b)) (w_52 G) (w_53 G) (w_3 G) (w_54 G) (by decide) [] [] (σf := [(a85, c94)]) rfl rfl [(.int (drawF b))] [] rfl (lenOf pd_24 rfl) rfl rfl d_code_124 rfl (by first | exact Nat.le_of_ble_eq_true rfl | (simp; done) | (simp; omega) | omega) (by first | exact Nat.le_of_ble_eq_true rfl | (simp; done) | (simp; omega) | omega) (by first | exact Nat.le_of_ble_eq_true rfl | (simp; done) | (simp; omega) | omega) (by first | exact Nat.le_of_ble_eq_true rfl | (simp; done) | (simp; omega) | omega) ?_
      rintro _ _ _ T122 ⟨rfl, rfl, rfl⟩ W123
      replace W123 : Wk l Z EL1 ({ frames := 9, cells := 24, slots := 1152, locals := 208 } : Room) "com/example/grantline/grantline/server/OAuthErrorIsDescribablePinLaw" code 13 (some .boolean) "law" X [(a85, c94)] [(a98, c104), (b105, c106)] T122 4 (12) := W123
      show Go Z EL1 _ _ _ X T122 127 #[.val (.int n), .val (.int a), .val (.int b), .val (.int c), .val (.int d), .val (.int (2 : Int32)), .val (.int (drawF a)), .val (.int (drawF b)), .val (.int (drawF c)), .val (.int (drawF d)), .val (.ref a85), .val (.ref a98), .val (.int (0 : Int32))] [(.int (if okc (drawF b) then 1 else 0))]
      refine Go.if_ne (pc' := 130) W123 133 d_code_127 (by decide) rfl (fun (c124 : ¬ ((if okc (drawF b) then 1 else 0) = 0)) => ?_) (fun (c124 : (if okc (drawF b) then 1 else 0) = 0) => ?_)
      · refine Go.iload (pc' := 135) W123 d_code_133 rfl rfl ?_
        refine Go.iconst (pc' := 136) W123 (2 : Int32) d_code_135 (by decide) rfl ?_
        refine Go.icmp_le (pc' := 139) W123 150 d_code_136 (by decide) rfl (fun _ => ?_) (fun q => absurd q (by decide))
        refine Go.iload (pc' := 152) W123 d_code_150 rfl rfl ?_
        refine Go.iconst (pc' := 153) W123 (3 : Int32) d_code_152 (by decide) rfl ?_
        refine Go.icmp_le (pc' := 156) W123 167 d_code_153 (by decide) rfl (fun _ => ?_) (fun q => absurd q (by decide))
        refine Go.aload (pc' := 169) W123 d_code_167 rfl rfl rfl ?_
        refine Go.static (pc' := 172) W123 (rm_isd G a98 b105 c104 c106 _ S107 (by simp)) (w_27 G) (w_28 G) (w_29 G) (w_30 G) (by decide) [] [0, 1] (σf := [(a85, c94)]) rfl rfl [(.ref a98)] [] rfl (lenOf pd_23 rfl) rfl rfl d_code_169 rfl (by first | exact Nat.le_of_ble_eq_true rfl | (simp; done) | (simp; omega) | omega) (by first | exact Nat.le_of_ble_eq_true rfl | (simp; done) | (simp; omega) | omega) (by first | exact Nat.le_of_ble_eq_true rfl | (simp; done) | (simp; omega) | omega) (by first | exact Nat.le_of_ble_eq_true rfl | (simp; done) | (simp; omega) | omega) ?_
        rintro _ _ _ T125 ⟨rfl, rfl, rfl⟩ W126
        replace W126 : Wk l Z EL1 ({ frames := 9, cells := 24, slots := 1152, locals := 208 } : Room) "com/example/grantline/grantline/server/OAuthErrorIsDescribablePinLaw" code 13 (some .boolean) "law" X [(a85, c94)] [(a98, c104), (b105, c106)] T125 4 (12) := W126
        show Go Z EL1 _ _ _ X T125 172 #[.val (.int n), .val (.int a), .val (.int b), .val (.int c), .val (.int d), .val (.int (2 : Int32)), .val (.int (drawF a)), .val (.int (drawF b)), .val (.int (drawF c)), .val (.int (drawF d)), .val (.ref a85), .val (.ref a98), .val (.int (0 : Int32))] [(.int (if ∀ x ∈ ([drawF a, drawF b] : List Int32), okc x then 1 else 0))]
        refine Go.iload (pc' := 174) W126 d_code_172 rfl rfl ?_
        refine Go.icmp_ne (pc' := 177) W126 181 d_code_174 (by decide) rfl (fun (c127 : ¬ ((if ∀ x ∈ ([drawF a, drawF b] : List Int32), okc x then 1 else 0) = (0 : Int32))) => ?_) (fun (c127 : (if ∀ x ∈ ([drawF a, drawF b] : List Int32), okc x then 1 else 0) = (0 : Int32)) => ?_)
        · refine Go.iconst (pc' := 182) W126 (0 : Int32) d_code_181 (by decide) rfl ?_
          refine Go.nret (z' := (0 : Int32)) W126 (by simp) (by decide) d_code_182 (by first | exact Nat.le_of_ble_eq_true rfl | (simp; done) | (simp; omega) | omega) (by first | exact Nat.le_of_ble_eq_true rfl | (simp; done) | (simp; omega) | omega) ?_
          first | rfl | (exfalso; simp_all)
        · refine Go.iconst (pc' := 178) W126 (1 : Int32) d_code_177 (by decide) rfl ?_
          refine Go.goto W126 182 d_code_178 (by decide) ?_
          refine Go.nret (z' := (1 : Int32)) W126 (by simp) (by decide) d_code_182 (by first | exact Nat.le_of_ble_eq_true rfl | (simp; done) | (simp; omega) | omega) (by first | exact Nat.le_of_ble_eq_true rfl | (simp; done) | (simp; omega) | omega) ?_
          first | rfl | (exfalso; simp_all)
      · refine Go.iconst (pc' := 131) W123 (0 : Int32) d_code_130 (by decide) rfl ?_
        refine Go.istore (pc' := 133) W123 #[.val (.int n), .val (.int a), .val (.int b), .val (.int c), .val (.int d), .val (.int (2 : Int32)), .val (.int (drawF a)), .val (.int (drawF b)), .val (.int (drawF c)), .val (.int (drawF d)), .val (.ref a85), .val (.ref a98), .val (.int (0 : Int32))] d_code_131 rfl rfl ?_
        refine Go.iload (pc' := 135) W123 d_code_133 rfl rfl ?_
        refine Go.iconst (pc' := 136) W123 (2 : Int32) d_code_135 (by decide) rfl ?_
        refine Go.icmp_le (pc' := 139) W123 150 d_code_136 (by decide) rfl (fun _ => ?_) (fun q => absurd q (by decide))
        refine Go.iload (pc' := 152) W123 d_code_150 rfl rfl ?_
        refine Go.iconst (pc' := 153) W123 (3 : Int32) d_code_152 (by decide) rfl ?_
        refine Go.icmp_le (pc' := 156) W123 167 d_code_153 (by decide) rfl (fun _ => ?_) (fun q => absurd q (by decide))
        refine Go.aload (pc' := 169) W123 d_code_167 rfl rfl rfl ?_
        refine Go.static (pc' := 172) W123 (rm_isd G a98 b105 c104 c106 _ S107 (by simp)) (w_27 G) (w_28 G) (w_29 G) (w_30 G) (by decide) [] [0, 1] (σf := [(a85, c94)]) rfl rfl [(.ref a98)] [] rfl (lenOf pd_23 rfl) rfl rfl d_code_169 rfl (by first | exact Nat.le_of_ble_eq_true rfl | (simp; done) | (simp; omega) | omega) (by first | exact Nat.le_of_ble_eq_true rfl | (simp; done) | (simp; omega) | omega) (by first | exact Nat.le_of_ble_eq_true rfl | (simp; done) | (simp; omega) | omega) (by first | exact Nat.le_of_ble_eq_true rfl | (simp; done) | (simp; omega) | omega) ?_
        rintro _ _ _ T128 ⟨rfl, rfl, rfl⟩ W129
        replace W129 : Wk l Z EL1 ({ frames := 9, cells := 24, slots := 1152, locals := 208 } : Room) "com/example/grantline/grantline/server/OAuthErrorIsDescribablePinLaw" code 13 (some .boolean) "law" X [(a85, c94)] [(a98, c104), (b105, c106)] T128 4 (12) := W129
        show Go Z EL1 _ _ _ X T128 172 #[.val (.int n), .val (.int a), .val (.int b), .val (.int c), .val (.int d), .val (.int (2 : Int32)), .val (.int (drawF a)), .val (.int (drawF b)), .val (.int (drawF c)), .val (.int (drawF d)), .val (.ref a85), .val (.ref a98), .val (.int (0 : Int32))] [(.int (if ∀ x ∈ ([drawF a, drawF b] : List Int32), okc x then 1 else 0))]
        refine Go.iload (pc' := 174) W129 d_code_172 rfl rfl ?_
        refine Go.icmp_ne (pc' := 177) W129 181 d_code_174 (by decide) rfl (fun (c130 : ¬ ((if ∀ x ∈ ([drawF a, drawF b] : List Int32), okc x then 1 else 0) = (0 : Int32))) => ?_) (fun (c130 : (if ∀ x ∈ ([drawF a, drawF b] : List Int32), okc x then 1 else 0) = (0 : Int32)) => ?_)
        · refine Go.iconst (pc' := 182) W129 (0 : Int32) d_code_181 (by decide) rfl ?_
          refine Go.nret (z' := (0 : Int32)) W129 (by simp) (by decide) d_code_182 (by first | exact Nat.le_of_ble_eq_true rfl | (simp; done) | (simp; omega) | omega) (by first | exact Nat.le_of_ble_eq_true rfl | (simp; done) | (simp; omega) | omega) ?_
          first | rfl | (exfalso; simp_all)
        · refine Go.iconst (pc' := 178) W129 (1 : Int32) d_code_177 (by decide) rfl ?_
          refine Go.goto W129 182 d_code_178 (by decide) ?_
          refine Go.nret (z' := (1 : Int32)) W129 (by simp) (by decide) d_code_182 (by first | exact Nat.le_of_ble_eq_true rfl | (simp; done) | (simp; omega) | omega) (by first | exact Nat.le_of_ble_eq_true rfl | (simp; done) | (simp; omega) | omega) ?_
          first | rfl | (exfalso; simp_all)
  · refine Go.istore (pc' := 8) W0 #[.val (.int n), .val (.int a), .val (.int b), .val (.int c), .val (.int d), .val (.int (3 : Int32)), .unset, .unset, .unset, .unset, .unset, .unset, .unset] d_code_6 rfl rfl ?_
    refine Go.iloadN (pc' := 9) W0 d_code_8 rfl rfl ?_
    refine Go.static (pc' := 12) W0 (rm_draw G a) (w_1 G) (w_2 G) (w_3 G) (w_4 G) (by decide) [] [] (σf := []) rfl rfl [(.int a)] [] rfl (lenOf pd_20 rfl) rfl rfl d_code_9 rfl (by first | exact Nat.le_of_ble_eq_true rfl | (simp; done) | (simp; omega) | omega) (by first | exact Nat.le_of_ble_eq_true rfl | (simp; done) | (simp; omega) | omega) (by first | exact Nat.le_of_ble_eq_true rfl | (simp; done) | (simp; omega) | omega) (by first | exact Nat.le_of_ble_eq_true rfl | (simp; done) | (simp; omega) | omega) ?_
    rintro _ _ _ T131 ⟨rfl, rfl, rfl⟩ W132
    replace W132 : Wk l Z EL1 ({ frames := 9, cells := 24, slots := 1152, locals := 208 } : Room) "com/example/grantline/grantline/server/OAuthErrorIsDescribablePinLaw" code 13 (some .boolean) "law" X [] [] T131 0 (0) := W132
    show Go Z EL1 _ _ _ X T131 12 #[.val (.int n), .val (.int a), .val (.int b), .val (.int c), .val (.int d), .val (.int (3 : Int32)), .unset, .unset, .unset, .unset, .unset, .unset, .unset] [(.int (drawF a))]
    refine Go.istore (pc' := 14) W132 #[.val (.int n), .val (.int a), .val (.int b), .val (.int c), .val (.int d), .val (.int (3 : Int32)), .val (.int (drawF a)), .unset, .unset, .unset, .unset, .unset, .unset] d_code_12 rfl rfl ?_
    refine Go.iloadN (pc' := 15) W132 d_code_14 rfl rfl ?_
    refine Go.static (pc' := 18) W132 (rm_draw G b) (w_1 G) (w_2 G) (w_3 G) (w_4 G) (by decide) [] [] (σf := []) rfl rfl [(.int b)] [] rfl (lenOf pd_20 rfl) rfl rfl d_code_15 rfl (by first | exact Nat.le_of_ble_eq_true rfl | (simp; done) | (simp; omega) | omega) (by first | exact Nat.le_of_ble_eq_true rfl | (simp; done) | (simp; omega) | omega) (by first | exact Nat.le_of_ble_eq_true rfl | (simp; done) | (simp; omega) | omega) (by first | exact Nat.le_of_ble_eq_true rfl | (simp; done) | (simp; omega) | omega) ?_
    rintro _ _ _ T133 ⟨rfl, rfl, rfl⟩ W134
    replace W134 : Wk l Z EL1 ({ frames := 9, cells := 24, slots := 1152, locals := 208 } : Room) "com/example/grantline/grantline/server/OAuthErrorIsDescribablePinLaw" code 13 (some .boolean) "law" X [] [] T133 0 (0) := W134
    show Go Z EL1 _ _ _ X T133 18 #[.val (.int n), .val (.int a), .val (.int b), .val (.int c), .val (.int d), .val (.int (3 : Int32)), .val (.int (drawF a)), .unset, .unset, .unset, .unset, .unset, .unset] [(.int (drawF b))]
    refine Go.istore (pc' := 20) W134 #[.val (.int n), .val (.int a), .val (.int b), .val (.int c), .val (.int d), .val (.int (3 : Int32)), .val (.int (drawF a)), .val (.int (drawF b)), .unset, .unset, .unset, .unset, .unset] d_code_18 rfl rfl ?_
    refine Go.iloadN (pc' := 21) W134 d_code_20 rfl rfl ?_
    refine Go.static (pc' := 24) W134 (rm_draw G c) (w_1 G) (w_2 G) (w_3 G) (w_4 G) (by decide) [] [] (σf := []) rfl rfl [(.int c)] [] rfl (lenOf pd_20 rfl) rfl rfl d_code_21 rfl (by first | exact Nat.le_of_ble_eq_true rfl | (simp; done) | (simp; omega) | omega) (by first | exact Nat.le_of_ble_eq_true rfl | (simp; done) | (simp; omega) | omega) (by first | exact Nat.le_of_ble_eq_true rfl | (simp; done) | (simp; omega) | omega) (by first | exact Nat.le_of_ble_eq_true rfl | (simp; done) | (simp; omega) | omega) ?_
    rintro _ _ _ T135 ⟨rfl, rfl, rfl⟩ W136
    replace W136 : Wk l Z EL1 ({ frames := 9, cells := 24, slots := 1152, locals := 208 } : Room) "com/example/grantline/grantline/server/OAuthErrorIsDescribablePinLaw" code 13 (some .boolean) "law" X [] [] T135 0 (0) := W136
    show Go Z EL1 _ _ _ X T135 24 #[.val (.int n), .val (.int a), .val (.int b), .val (.int c), .val (.int d), .val (.int (3 : Int32)), .val (.int (drawF a)), .val (.int (drawF b)), .unset, .unset, .unset, .unset, .unset] [(.int (drawF c))]
    refine Go.istore (pc' := 26) W136 #[.val (.int n), .val (.int a), .val (.int b), .val (.int c), .val (.int d), .val (.int (3 : Int32)), .val (.int (drawF a)), .val (.int (drawF b)), .val (.int (drawF c)), .unset, .unset, .unset, .unset] d_code_24 rfl rfl ?_
    refine Go.iload (pc' := 28) W136 d_code_26 rfl rfl ?_
    refine Go.static (pc' := 31) W136 (rm_draw G d) (w_1 G) (w_2 G) (w_3 G) (w_4 G) (by decide) [] [] (σf := []) rfl rfl [(.int d)] [] rfl (lenOf pd_20 rfl) rfl rfl d_code_28 rfl (by first | exact Nat.le_of_ble_eq_true rfl | (simp; done) | (simp; omega) | omega) (by first | exact Nat.le_of_ble_eq_true rfl | (simp; done) | (simp; omega) | omega) (by first | exact Nat.le_of_ble_eq_true rfl | (simp; done) | (simp; omega) | omega) (by first | exact Nat.le_of_ble_eq_true rfl | (simp; done) | (simp; omega) | omega) ?_
    rintro _ _ _ T137 ⟨rfl, rfl, rfl⟩ W138
    replace W138 : Wk l Z EL1 ({ frames := 9, cells := 24, slots := 1152, locals := 208 } : Room) "com/example/grantline/grantline/server/OAuthErrorIsDescribablePinLaw" code 13 (some .boolean) "law" X [] [] T137 0 (0) := W138
    show Go Z EL1 _ _ _ X T137 31 #[.val (.int n), .val (.int a), .val (.int b), .val (.int c), .val (.int d), .val (.int (3 : Int32)), .val (.int (drawF a)), .val (.int (drawF b)), .val (.int (drawF c)), .unset, .unset, .unset, .unset] [(.int (drawF d))]
    refine Go.istore (pc' := 33) W138 #[.val (.int n), .val (.int a), .val (.int b), .val (.int c), .val (.int d), .val (.int (3 : Int32)), .val (.int (drawF a)), .val (.int (drawF b)), .val (.int (drawF c)), .val (.int (drawF d)), .unset, .unset, .unset] d_code_31 rfl rfl ?_
    refine Go.iload (pc' := 35) W138 d_code_33 rfl rfl ?_
    refine Go.newarr (pc' := 37) W138 .char rfl 3 (w_5 G) d_code_35 rfl (by decide) (by decide) (by decide) (by first | exact Nat.le_of_ble_eq_true rfl | (simp; done) | (simp; omega) | omega) (by first | exact Nat.le_of_ble_eq_true rfl | (simp; done) | (simp; omega) | omega) (fun T139 a141 c142 W140 A143 => ?_)
    replace W140 : Wk l Z EL1 ({ frames := 9, cells := 24, slots := 1152, locals := 208 } : Room) "com/example/grantline/grantline/server/OAuthErrorIsDescribablePinLaw" code 13 (some .boolean) "law" X [(a141, c142)] [] T139 1 (3) := W140
    replace A143 : ArrC Z c142 .char [(.int (0 : Int32)), (.int (0 : Int32)), (.int (0 : Int32))] := A143
    refine Go.astore (pc' := 39) W140 #[.val (.int n), .val (.int a), .val (.int b), .val (.int c), .val (.int d), .val (.int (3 : Int32)), .val (.int (drawF a)), .val (.int (drawF b)), .val (.int (drawF c)), .val (.int (drawF d)), .val (.ref a141), .unset, .unset] d_code_37 rfl rfl rfl ?_
    refine Go.iload (pc' := 41) W140 d_code_39 rfl rfl ?_
    refine Go.if_le (pc' := 44) W140 50 d_code_41 (by decide) rfl (fun q => absurd (by decide) q) (fun _ => ?_)
    refine Go.aload (pc' := 46) W140 d_code_44 rfl rfl rfl ?_
    refine Go.iconst (pc' := 47) W140 (0 : Int32) d_code_46 (by decide) rfl ?_
    refine Go.iload (pc' := 49) W140 d_code_47 rfl rfl ?_
    refine Go.castore (pc' := 50) W140 0 rfl A143 0 (drawF a) (nar_char_id (drawF_chr _)) (by decide) (by decide) (by simp) d_code_49 rfl (fun T144 c146 W145 A147 => ?_)
    replace W145 : Wk l Z EL1 ({ frames := 9, cells := 24, slots := 1152, locals := 208 } : Room) "com/example/grantline/grantline/server/OAuthErrorIsDescribablePinLaw" code 13 (some .boolean) "law" X [(a141, c146)] [] T144 1 (3) := W145
    replace A147 : ArrC Z c146 .char [(.int (drawF a)), (.int (0 : Int32)), (.int (0 : Int32))] := A147
    refine Go.iload (pc' := 52) W145 d_code_50 rfl rfl ?_
    refine Go.iconst (pc' := 53) W145 (1 : Int32) d_code_52 (by decide) rfl ?_
    refine Go.icmp_le (pc' := 56) W145 62 d_code_53 (by decide) rfl (fun q => absurd (by decide) q) (fun _ => ?_)
    refine Go.aload (pc' := 58) W145 d_code_56 rfl rfl rfl ?_
    refine Go.iconst (pc' := 59) W145 (1 : Int32) d_code_58 (by decide) rfl ?_
    refine Go.iload (pc' := 61) W145 d_code_59 rfl rfl ?_
    refine Go.castore (pc' := 62) W145 0 rfl A147 1 (drawF b) (nar_char_id (drawF_chr _)) (by decide) (by decide) (by simp) d_code_61 rfl (fun T148 c150 W149 A151 => ?_)
    replace W149 : Wk l Z EL1 ({ frames := 9, cells := 24, slots := 1152, locals := 208 } : Room) "com/example/grantline/grantline/server/OAuthErrorIsDescribablePinLaw" code 13 (some .boolean) "law" X [(a141, c150)] [] T148 1 (3) := W149
    replace A151 : ArrC Z c150 .char [(.int (drawF a)), (.int (drawF b)), (.int (0 : Int32))] := A151
    refine Go.iload (pc' := 64) W149 d_code_62 rfl rfl ?_
    refine Go.iconst (pc' := 65) W149 (2 : Int32) d_code_64 (by decide) rfl ?_
    refine Go.icmp_le (pc' := 68) W149 74 d_code_65 (by decide) rfl (fun q => absurd (by decide) q) (fun _ => ?_)
    refine Go.aload (pc' := 70) W149 d_code_68 rfl rfl rfl ?_
    refine Go.iconst (pc' := 71) W149 (2 : Int32) d_code_70 (by decide) rfl ?_
    refine Go.iload (pc' := 73) W149 d_code_71 rfl rfl ?_
    refine Go.castore (pc' := 74) W149 0 rfl A151 2 (drawF c) (nar_char_id (drawF_chr _)) (by decide) (by decide) (by simp) d_code_73 rfl (fun T152 c154 W153 A155 => ?_)
    replace W153 : Wk l Z EL1 ({ frames := 9, cells := 24, slots := 1152, locals := 208 } : Room) "com/example/grantline/grantline/server/OAuthErrorIsDescribablePinLaw" code 13 (some .boolean) "law" X [(a141, c154)] [] T152 1 (3) := W153
    replace A155 : ArrC Z c154 .char [(.int (drawF a)), (.int (drawF b)), (.int (drawF c))] := A155
    refine Go.iload (pc' := 76) W153 d_code_74 rfl rfl ?_
    refine Go.iconst (pc' := 77) W153 (3 : Int32) d_code_76 (by decide) rfl ?_
    refine Go.icmp_le (pc' := 80) W153 86 d_code_77 (by decide) rfl (fun _ => ?_) (fun q => absurd q (by decide))
    refine Go.new (pc' := 89) W153 (w_6 G) (w_7 G) (w_8 G) d_code_86 rfl (by first | exact Nat.le_of_ble_eq_true rfl | (simp; done) | (simp; omega) | omega) (by first | exact Nat.le_of_ble_eq_true rfl | (simp; done) | (simp; omega) | omega) (fun T156 a158 c159 W157 O160 D161 => ?_)
    replace W157 : Wk l Z EL1 ({ frames := 9, cells := 24, slots := 1152, locals := 208 } : Room) "com/example/grantline/grantline/server/OAuthErrorIsDescribablePinLaw" code 13 (some .boolean) "law" X [(a158, c159), (a141, c154)] [] T156 2 (7) := W157
    have F162 : FldC Z c159 "java/lang/String" "value" "[B" (.null) := D161 (Or.inr (w_21 G)) (ty := (.array .byte)) (by decide)
    have F163 : FldC Z c159 "java/lang/String" "coder" "B" (.int (0 : Int32)) := D161 (Or.inr (w_22 G)) (ty := .byte) (by decide)
    refine Go.dup (pc' := 90) W157 d_code_89 rfl rfl ?_
    refine Go.aload (pc' := 92) W157 d_code_90 rfl rfl rfl ?_
    refine Go.special (pc' := 95) W157 (a := a158) (rm_initC G a158 a141 c159 c154 [drawF a, drawF b, drawF c] A155 O160 F163 F162 (Chr.cons (drawF_chr _) (Chr.cons (drawF_chr _) (Chr.cons (drawF_chr _) Chr.nil))) (by simp) (show ¬ (3 : Nat).toInt32 = 0 by decide)) rfl (w_9 G) (w_10 G) (w_8 G) (w_11 G) (by decide) [0, 0] [] (σf := []) rfl rfl [(.ref a141)] [(.ref a158)] rfl (lenOf pd_22 rfl) rfl rfl d_code_92 rfl (by first | exact Nat.le_of_ble_eq_true rfl | (simp; done) | (simp; omega) | omega) (by first | exact Nat.le_of_ble_eq_true rfl | (simp; done) | (simp; omega) | omega) (by first | exact Nat.le_of_ble_eq_true rfl | (simp; done) | (simp; omega) | omega) (by first | exact Nat.le_of_ble_eq_true rfl | (simp; done) | (simp; omega) | omega) ?_
    rintro _ _ _ T168 ⟨c164, b165, c166, rfl, rfl, rfl, S167⟩ W169
    replace W169 : Wk l Z EL1 ({ frames := 9, cells := 24, slots := 1152, locals := 208 } : Room) "com/example/grantline/grantline/server/OAuthErrorIsDescribablePinLaw" code 13 (some .boolean) "law" X [(a141, c154)] [(a158, c164), (b165, c166)] T168 4 (16) := W169
    show Go Z EL1 _ _ _ X T168 95 #[.val (.int n), .val (.int a), .val (.int b), .val (.int c), .val (.int d), .val (.int (3 : Int32)), .val (.int (drawF a)), .val (.int (drawF b)), .val (.int (drawF c)), .val (.int (drawF d)), .val (.ref a141), .unset, .unset] [(.ref a158)]
    refine Go.astore (pc' := 97) W169 #[.val (.int n), .val (.int a), .val (.int b), .val (.int c), .val (.int d), .val (.int (3 : Int32)), .val (.int (drawF a)), .val (.int (drawF b)), .val (.int (drawF c)), .val (.int (drawF d)), .val (.ref a141), .val (.ref a158), .unset] d_code_95 rfl rfl rfl ?_
    refine Go.iconst (pc' := 98) W169 (1 : Int32) d_code_97 (by decide) rfl ?_
    refine Go.istore (pc' := 100) W169 #[.val (.int n), .val (.int a), .val (.int b), .val (.int c), .val (.int d), .val (.int (3 : Int32)), .val (.int (drawF a)), .val (.int (drawF b)), .val (.int (drawF c)), .val (.int (drawF d)), .val (.ref a141), .val (.ref a158), .val (.int (1 : Int32))] d_code_98 rfl rfl ?_
    refine Go.iload (pc' := 102) W169 d_code_100 rfl rfl ?_
    refine Go.if_le (pc' := 105) W169 116 d_code_102 (by decide) rfl (fun q => absurd (by decide) q) (fun _ => ?_)
    refine Go.iload (pc' := 107) W169 d_code_105 rfl rfl ?_
    refine Go.static (pc' := 110) W169 (rm_al G (drawF a)) (w_52 G) (w_53 G) (w_3 G) (w_54 G) (by decide) [] [] (σf := [(a141, c154)]) rfl rfl [(.int (drawF a))] [] rfl (lenOf pd_24 rfl) rfl rfl d_code_107 rfl (by first | exact Nat.le_of_ble_eq_true rfl | (simp; done) | (simp; omega) | omega) (by first | exact Nat.le_of_ble_eq_true rfl | (simp; done) | (simp; omega) | omega) (by first | exact Nat.le_of_ble_eq_true rfl | (simp; done) | (simp; omega) | omega) (by first | exact Nat.le_of_ble_eq_true rfl | (simp; done) | (simp; omega) | omega) ?_
    rintro _ _ _ T170 ⟨rfl, rfl, rfl⟩ W171
    replace W171 : Wk l Z EL1 ({ frames := 9, cells := 24, slots := 1152, locals := 208 } : Room) "com/example/grantline/grantline/server/OAuthErrorIsDescribablePinLaw" code 13 (some .boolean) "law" X [(a141, c154)] [(a158, c164), (b165, c166)] T170 4 (16) := W171
    show Go Z EL1 _ _ _ X T170 110 #[.val (.int n), .val (.int a), .val (.int b), .val (.int c), .val (.int d), .val (.int (3 : Int32)), .val (.int (drawF a)), .val (.int (drawF b)), .val (.int (drawF c)), .val (.int (drawF d)), .val (.ref a141), .val (.ref a158), .val (.int (1 : Int32))] [(.int (if okc (drawF a) then 1 else 0))]
    refine Go.if_ne (pc' := 113) W171 116 d_code_110 (by decide) rfl (fun (c172 : ¬ ((if okc (drawF a) then 1 else 0) = 0)) => ?_) (fun (c172 : (if okc (drawF a) then 1 else 0) = 0) => ?_)
    · refine Go.iload (pc' := 118) W171 d_code_116 rfl rfl ?_
      refine Go.iconst (pc' := 119) W171 (1 : Int32) d_code_118 (by decide) rfl ?_
      refine Go.icmp_le (pc' := 122) W171 133 d_code_119 (by decide) rfl (fun q => absurd (by decide) q) (fun _ => ?_)
      refine Go.iload (pc' := 124) W171 d_code_122 rfl rfl ?_
      refine Go.static (pc' := 127) W171 (rm_al G (drawF b)) (w_52 G) (w_53 G) (w_3 G) (w_54 G) (by decide) [] [] (σf := [(a141, c154)]) rfl rfl [(.int (drawF b))] [] rfl (lenOf pd_24 rfl) rfl rfl d_code_124 rfl (by first | exact Nat.le_of_ble_eq_true rfl | (simp; done) | (simp; omega) | omega) (by first | exact Nat.le_of_ble_eq_true rfl | (simp; done) | (simp; omega) | omega) (by first | exact Nat.le_of_ble_eq_true rfl | (simp; done) | (simp; omega) | omega) (by first | exact Nat.le_of_ble_eq_true rfl | (simp; done) | (simp; omega) | omega) ?_
      rintro _ _ _ T173 ⟨rfl, rfl, rfl⟩ W174
      replace W174 : Wk l Z EL1 ({ frames := 9, cells := 24, slots := 1152, locals := 208 } : Room) "com/example/grantline/grantline/server/OAuthErrorIsDescribablePinLaw" code 13 (some .boolean) "law" X [(a141, c154)] [(a158, c164), (b165, c166)] T173 4 (16) := W174
      show Go Z EL1 _ _ _ X T173 127 #[.val (.int n), .val (.int a), .val (.int b), .val (.int c), .val (.int d), .val (.int (3 : Int32)), .val (.int (drawF a)), .val (.int (drawF b)), .val (.int (drawF c)), .val (.int (drawF d)), .val (.ref a141), .val (.ref a158), .val (.int (1 : Int32))] [(.int (if okc (drawF b) then 1 else 0))]
      refine Go.if_ne (pc' := 130) W174 133 d_code_127 (by decide) rfl (fun (c175 : ¬ ((if okc (drawF b) then 1 else 0) = 0)) => ?_) (fun (c175 : (if okc (drawF b) then 1 else 0) = 0) => ?_)
      · refine Go.iload (pc' := 135) W174 d_code_133 rfl rfl ?_
        refine Go.iconst (pc' := 136) W174 (2 : Int32) d_code_135 (by decide) rfl ?_
        refine Go.icmp_le (pc' := 139) W174 150 d_code_136 (by decide) rfl (fun q => absurd (by decide) q) (fun _ => ?_)
        refine Go.iload (pc' := 141) W174 d_code_139 rfl rfl ?_
        refine Go.static (pc' := 144) W174 (rm_al G (drawF c)) (w_52 G) (w_53 G) (w_3 G) (w_54 G) (by decide) [] [] (σf := [(a141, c154)]) rfl rfl [(.int (drawF c))] [] rfl (lenOf pd_24 rfl) rfl rfl d_code_141 rfl (by first | exact Nat.le_of_ble_eq_true rfl | (simp; done) | (simp; omega) | omega) (by first | exact Nat.le_of_ble_eq_true rfl | (simp; done) | (simp; omega) | omega) (by first | exact Nat.le_of_ble_eq_true rfl | (simp; done) | (simp; omega) | omega) (by first | exact Nat.le_of_ble_eq_true rfl | (simp; done) | (simp; omega) | omega) ?_
        rintro _ _ _ T176 ⟨rfl, rfl, rfl⟩ W177
        replace W177 : Wk l Z EL1 ({ frames := 9, cells := 24, slots := 1152, locals := 208 } : Room) "com/example/grantline/grantline/server/OAuthErrorIsDescribablePinLaw" code 13 (some .boolean) "law" X [(a141, c154)] [(a158, c164), (b165, c166)] T176 4 (16) := W177
        show Go Z EL1 _ _ _ X T176 144 #[.val (.int n), .val (.int a), .val (.int b), .val (.int c), .val (.int d), .val (.int (3 : Int32)), .val (.int (drawF a)), .val (.int (drawF b)), .val (.int (drawF c)), .val (.int (drawF d)), .val (.ref a141), .val (.ref a158), .val (.int (1 : Int32))] [(.int (if okc (drawF c) then 1 else 0))]
        refine Go.if_ne (pc' := 147) W177 150 d_code_144 (by decide) rfl (fun (c178 : ¬ ((if okc (drawF c) then 1 else 0) = 0)) => ?_) (fun (c178 : (if okc (drawF c) then 1 else 0) = 0) => ?_)
        · refine Go.iload (pc' := 152) W177 d_code_150 rfl rfl ?_
          refine Go.iconst (pc' := 153) W177 (3 : Int32) d_code_152 (by decide) rfl ?_
          refine Go.icmp_le (pc' := 156) W177 167 d_code_153 (by decide) rfl (fun _ => ?_) (fun q => absurd q (by decide))
          refine Go.aload (pc' := 169) W177 d_code_167 rfl rfl rfl ?_
          refine Go.static (pc' := 172) W177 (rm_isd G a158 b165 c164 c166 _ S167 (by simp)) (w_27 G) (w_28 G) (w_29 G) (w_30 G) (by decide) [] [0, 1] (σf := [(a141, c154)]) rfl rfl [(.ref a158)] [] rfl (lenOf pd_23 rfl) rfl rfl d_code_169 rfl (by first | exact Nat.le_of_ble_eq_true rfl | (simp; done) | (simp; omega) | omega) (by first | exact Nat.le_of_ble_eq_true rfl | (simp; done) | (simp; omega) | omega) (by first | exact Nat.le_of_ble_eq_true rfl | (simp; done) | (simp; omega) | omega) (by first | exact Nat.le_of_ble_eq_true rfl | (simp; done) | (simp; omega) | omega) ?_
          rintro _ _ _ T179 ⟨rfl, rfl, rfl⟩ W180
          replace W180 : Wk l Z EL1 ({ frames := 9, cells := 24, slots := 1152, locals := 208 } : Room) "com/example/grantline/grantline/server/OAuthErrorIsDescribablePinLaw" code 13 (some .boolean) "law" X [(a141, c154)] [(a158, c164), (b165, c166)] T179 4 (16) := W180
          show Go Z EL1 _ _ _ X T179 172 #[.val (.int n), .val (.int a), .val (.int b), .val (.int c), .val (.int d), .val (.int (3 : Int32)), .val (.int (drawF a)), .val (.int (drawF b)), .val (.int (drawF c)), .val (.int (drawF d)), .val (.ref a141), .val (.ref a158), .val (.int (1 : Int32))] [(.int (if ∀ x ∈ ([drawF a, drawF b, drawF c] : List Int32), okc x then 1 else 0))]
          refine Go.iload (pc' := 174) W180 d_code_172 rfl rfl ?_
          refine Go.icmp_ne (pc' := 177) W180 181 d_code_174 (by decide) rfl (fun (c181 : ¬ ((if ∀ x ∈ ([drawF a, drawF b, drawF c] : List Int32), okc x then 1 else 0) = (1 : Int32))) => ?_) (fun (c181 : (if ∀ x ∈ ([drawF a, drawF b, drawF c] : List Int32), okc x then 1 else 0) = (1 : Int32)) => ?_)
          · refine Go.iconst (pc' := 182) W180 (0 : Int32) d_code_181 (by decide) rfl ?_
            refine Go.nret (z' := (0 : Int32)) W180 (by simp) (by decide) d_code_182 (by first | exact Nat.le_of_ble_eq_true rfl | (simp; done) | (simp; omega) | omega) (by first | exact Nat.le_of_ble_eq_true rfl | (simp; done) | (simp; omega) | omega) ?_
            first | rfl | (exfalso; simp_all)
          · refine Go.iconst (pc' := 178) W180 (1 : Int32) d_code_177 (by decide) rfl ?_
            refine Go.goto W180 182 d_code_178 (by decide) ?_
            refine Go.nret (z' := (1 : Int32)) W180 (by simp) (by decide) d_code_182 (by first | exact Nat.le_of_ble_eq_true rfl | (simp; done) | (simp; omega) | omega) (by first | exact Nat.le_of_ble_eq_true rfl | (simp; done) | (simp; omega) | omega) ?_
            first | rfl | (exfalso; simp_all)
        · refine Go.iconst (pc' := 148) W177 (0 : Int32) d_code_147 (by decide) rfl ?_
          refine Go.istore (pc' := 150) W177 #[.val (.int n), .val (.int a), .val (.int b), .val (.int c), .val (.int d), .val (.int (3 : Int32)), .val (.int (drawF a)), .val (.int (drawF b)), .val (.int (drawF c)), .val (.int (drawF d)), .val (.ref a141), .val (.ref a158), .val (.int (0 : Int32))] d_code_148 rfl rfl ?_
          refine Go.iload (pc' := 152) W177 d_code_150 rfl rfl ?_
          refine Go.iconst (pc' := 153) W177 (3 : Int32) d_code_152 (by decide) rfl ?_
          refine Go.icmp_le (pc' := 156) W177 167 d_code_153 (by decide) rfl (fun _ => ?_) (fun q => absurd q (by decide))
          refine Go.aload (pc' := 169) W177 d_code_167 rfl rfl rfl ?_
          refine Go.static (pc' := 172) W177 (rm_isd G a158 b165 c164 c166 _ S167 (by simp)) (w_27 G) (w_28 G) (w_29 G) (w_30 G) (by decide) [] [0, 1] (σf := [(a141, c154)]) rfl rfl [(.ref a158)] [] rfl (lenOf pd_23 rfl) rfl rfl d_code_169 rfl (by first | exact Nat.le_of_ble_eq_true rfl | (simp; done) | (simp; omega) | omega) (by first | exact Nat.le_of_ble_eq_true rfl | (simp; done) | (simp; omega) | omega) (by first | exact Nat.le_of_ble_eq_true rfl | (simp; done) | (simp; omega) | omega) (by first | exact Nat.le_of_ble_eq_true rfl | (simp; done) | (simp; omega) | omega) ?_
          rintro _ _ _ T182 ⟨rfl, rfl, rfl⟩ W183
          replace W183 : Wk l Z EL1 ({ frames := 9, cells := 24, slots := 1152, locals := 208 } : Room) "com/example/grantline/grantline/server/OAuthErrorIsDescribablePinLaw" code 13 (some .boolean) "law" X [(a141, c154)] [(a158, c164), (b165, c166)] T182 4 (16) := W183
          show Go Z EL1 _ _ _ X T182 172 #[.val (.int n), .val (.int a), .val (.int b), .val (.int c), .val (.int d), .val (.int (3 : Int32)), .val (.int (drawF a)), .val (.int (drawF b)), .val (.int (drawF c)), .val (.int (drawF d)), .val (.ref a141), .val (.ref a158), .val (.int (0 : Int32))] [(.int (if ∀ x ∈ ([drawF a, drawF b, drawF c] : List Int32), okc x then 1 else 0))]
          refine Go.iload (pc' := 174) W183 d_code_172 rfl rfl ?_
          refine Go.icmp_ne (pc' := 177) W183 181 d_code_174 (by decide) rfl (fun (c184 : ¬ ((if ∀ x ∈ ([drawF a, drawF b, drawF c] : List Int32), okc x then 1 else 0) = (0 : Int32))) => ?_) (fun (c184 : (if ∀ x ∈ ([drawF a, drawF b, drawF c] : List Int32), okc x then 1 else 0) = (0 : Int32)) => ?_)
          · refine Go.iconst (pc' := 182) W183 (0 : Int32) d_code_181 (by decide) rfl ?_
            refine Go.nret (z' := (0 : Int32)) W183 (by simp) (by decide) d_code_182 (by first | exact Nat.le_of_ble_eq_true rfl | (simp; done) | (simp; omega) | omega) (by first | exact Nat.le_of_ble_eq_true rfl | (simp; done) | (simp; omega) | omega) ?_
            first | rfl | (exfalso; simp_all)
          · refine Go.iconst (pc' := 178) W183 (1 : Int32) d_code_177 (by decide) rfl ?_
            refine Go.goto W183 182 d_code_178 (by decide) ?_
            refine Go.nret (z' := (1 : Int32)) W183 (by simp) (by decide) d_code_182 (by first | exact Nat.le_of_ble_eq_true rfl | (simp; done) | (simp; omega) | omega) (by first | exact Nat.le_of_ble_eq_true rfl | (simp; done) | (simp; omega) | omega) ?_
            first | rfl | (exfalso; simp_all)
      · refine Go.iconst (pc' := 131) W174 (0 : Int32) d_code_130 (by decide) rfl ?_
        refine Go.istore (pc' := 133) W174 #[.val (.int n), .val (.int a), .val (.int b), .val (.int c), .val (.int d), .val (.int (3 : Int32)), .val (.int (drawF a)), .val (.int (drawF b)), .val (.int (drawF c)), .val (.int (drawF d)), .val (.ref a141), .val (.ref a158), .val (.int (0 : Int32))] d_code_131 rfl rfl ?_
        refine Go.iload (pc' := 135) W174 d_code_133 rfl rfl ?_
        refine Go.iconst (pc' := 136) W174 (2 : Int32) d_code_135 (by decide) rfl ?_
        refine Go.icmp_le (pc' := 139) W174 150 d_code_136 (by decide) rfl (fun q => absurd (by decide) q) (fun _ => ?_)
        refine Go.iload (pc' := 141) W174 d_code_139 rfl rfl ?_
        refine Go.static (pc' := 144) W174 (rm_al G (drawF c)) (w_52 G) (w_53 G) (w_3 G) (w_54 G) (by decide) [] [] (σf := [(a141, c154)]) rfl rfl [(.int (drawF c))] [] rfl (lenOf pd_24 rfl) rfl rfl d_code_141 rfl (by first | exact Nat.le_of_ble_eq_true rfl | (simp; done) | (simp; omega) | omega) (by first | exact Nat.le_of_ble_eq_true rfl | (simp; done) | (simp; omega) | omega) (by first | exact Nat.le_of_ble_eq_true rfl | (simp; done) | (simp; omega) | omega) (by first | exact Nat.le_of_ble_eq_true rfl | (simp; done) | (simp; omega) | omega) ?_
        rintro _ _ _ T185 ⟨rfl, rfl, rfl⟩ W186
        replace W186 : Wk l Z EL1 ({ frames := 9, cells := 24, slots := 1152, locals := 208 } : Room) "com/example/grantline/grantline/server/OAuthErrorIsDescribablePinLaw" code 13 (some .boolean) "law" X [(a141, c154)] [(a158, c164), (b165, c166)] T185 4 (16) := W186
        show Go Z EL1 _ _ _ X T185 144 #[.val (.int n), .val (.int a), .val (.int b), .val (.int c), .val (.int d), .val (.int (3 : Int32)), .val (.int (drawF a)), .val (.int (drawF b)), .val (.int (drawF c)), .val (.int (drawF d)), .val (.ref a141), .val (.ref a158), .val (.int (0 : Int32))] [(.int (if okc (drawF c) then 1 else 0))]
        refine Go.if_ne (pc' := 147) W186 150 d_code_144 (by decide) rfl (fun (c187 : ¬ ((if okc (drawF c) then 1 else 0) = 0)) => ?_) (fun (c187 : (if okc (drawF c) then 1 else 0) = 0) => ?_)
        · refine Go.iload (pc' := 152) W186 d_code_150 rfl rfl ?_
          refine Go.iconst (pc' := 153) W186 (3 : Int32) d_code_152 (by decide) rfl ?_
          refine Go.icmp_le (pc' := 156) W186 167 d_code_153 (by decide) rfl (fun _ => ?_) (fun q => absurd q (by decide))
          refine Go.aload (pc' := 169) W186 d_code_167 rfl rfl rfl ?_
          refine Go.static (pc' := 172) W186 (rm_isd G a158 b165 c164 c166 _ S167 (by simp)) (w_27 G) (w_28 G) (w_29 G) (w_30 G) (by decide) [] [0, 1] (σf := [(a141, c154)]) rfl rfl [(.ref a158)] [] rfl (lenOf pd_23 rfl) rfl rfl d_code_169 rfl (by first | exact Nat.le_of_ble_eq_true rfl | (simp; done) | (simp; omega) | omega) (by first | exact Nat.le_of_ble_eq_true rfl | (simp; done) | (simp; omega) | omega) (by first | exact Nat.le_of_ble_eq_true rfl | (simp; done) | (simp; omega) | omega) (by first | exact Nat.le_of_ble_eq_true rfl | (simp; done) | (simp; omega) | omega) ?_
          rintro _ _ _ T188 ⟨rfl, rfl, rfl⟩ W189
          replace W189 : Wk l Z EL1 ({ frames := 9, cells := 24, slots := 1152, locals := 208 } : Room) "com/example/grantline/grantline/server/OAuthErrorIsDescribablePinLaw" code 13 (some .boolean) "law" X [(a141, c154)] [(a158, c164), (b165, c166)] T188 4 (16) := W189
          show Go Z EL1 _ _ _ X T188 172 #[.val (.int n), .val (.int a), .val (.int b), .val (.int c), .val (.int d), .val (.int (3 : Int32)), .val (.int (drawF a)), .val (.int (drawF b)), .val (.int (drawF c)), .val (.int (drawF d)), .val (.ref a141), .val (.ref a158), .val (.int (0 : Int32))] [(.int (if ∀ x ∈ ([drawF a, drawF b, drawF c] : List Int32), okc x then 1 else 0))]
          refine Go.iload (pc' := 174) W189 d_code_172 rfl rfl ?_
          refine Go.icmp_ne (pc' := 177) W189 181 d_code_174 (by decide) rfl (fun (c190 : ¬ ((if ∀ x ∈ ([drawF a, drawF b, drawF c] : List Int32), okc x then 1 else 0) = (0 : Int32))) => ?_) (fun (c190 : (if ∀ x ∈ ([drawF a, drawF b, drawF c] : List Int32), okc x then 1 else 0) = (0 : Int32)) => ?_)
          · refine Go.iconst (pc' := 182) W189 (0 : Int32) d_code_181 (by decide) rfl ?_
            refine Go.nret (z' := (0 : Int32)) W189 (by simp) (by decide) d_code_182 (by first | exact Nat.le_of_ble_eq_true rfl | (simp; done) | (simp; omega) | omega) (by first | exact Nat.le_of_ble_eq_true rfl | (simp; done) | (simp; omega) | omega) ?_
            first | rfl | (exfalso; simp_all)
          · refine Go.iconst (pc' := 178) W189 (1 : Int32) d_code_177 (by decide) rfl ?_
            refine Go.goto W189 182 d_code_178 (by decide) ?_
            refine Go.nret (z' := (1 : Int32)) W189 (by simp) (by decide) d_code_182 (by first | exact Nat.le_of_ble_eq_true rfl | (simp; done) | (simp; omega) | omega) (by first | exact Nat.le_of_ble_eq_true rfl | (simp; done) | (simp; omega) | omega) ?_
            first | rfl | (exfalso; simp_all)
        · refine Go.iconst (pc' := 148) W186 (0 : Int32) d_code_147 (by decide) rfl ?_
          refine Go.istore (pc' := 150) W186 #[.val (.int n), .val (.int a), .val (.int b), .val (.int c), .val (.int d), .val (.int (3 : Int32)), .val (.int (drawF a)), .val (.int (drawF b)), .val (.int (drawF c)), .val (.int (drawF d)), .val (.ref a141), .val (.ref a158), .val (.int (0 : Int32))] d_code_148 rfl rfl ?_
          refine Go.iload (pc' := 152) W186 d_code_150 rfl rfl ?_
          refine Go.iconst (pc' := 153) W186 (3 : Int32) d_code_152 (by decide) rfl ?_
          refine Go.icmp_le (pc' := 156) W186 167 d_code_153 (by decide) rfl (fun _ => ?_) (fun q => absurd q (by decide))
          refine Go.aload (pc' := 169) W186 d_code_167 rfl rfl rfl ?_
          refine Go.static (pc' := 172) W186 (rm_isd G a158 b165 c164 c166 _ S167 (by simp)) (w_27 G) (w_28 G) (w_29 G) (w_30 G) (by decide) [] [0, 1] (σf := [(a141, c154)]) rfl rfl [(.ref a158)] [] rfl (lenOf pd_23 rfl) rfl rfl d_code_169 rfl (by first | exact Nat.le_of_ble_eq_true rfl | (simp; done) | (simp; omega) | omega) (by first | exact Nat.le_of_ble_eq_true rfl | (simp; done) | (simp; omega) | omega) (by first | exact Nat.le_of_ble_eq_true rfl | (simp; done) | (simp; omega) | omega) (by first | exact Nat.le_of_ble_eq_true rfl | (simp; done) | (simp; omega) | omega) ?_
          rintro _ _ _ T191 ⟨rfl, rfl, rfl⟩ W192
          replace W192 : Wk l Z EL1 ({ frames := 9, cells := 24, slots := 1152, locals := 208 } : Room) "com/example/grantline/grantline/server/OAuthErrorIsDescribablePinLaw" code 13 (some .boolean) "law" X [(a141, c154)] [(a158, c164), (b165, c166)] T191 4 (16) := W192
          show Go Z EL1 _ _ _ X T191 172 #[.val (.int n), .val (.int a), .val (.int b), .val (.int c), .val (.int d), .val (.int (3 : Int32)), .val (.int (drawF a)), .val (.int (drawF b)), .val (.int (drawF c)), .val (.int (drawF d)), .val (.ref a141), .val (.ref a158), .val (.int (0 : Int32))] [(.int (if ∀ x ∈ ([drawF a, drawF b, drawF c] : List Int32), okc x then 1 else 0))]
          refine Go.iload (pc' := 174) W192 d_code_172 rfl rfl ?_
          refine Go.icmp_ne (pc' := 177) W192 181 d_code_174 (by decide) rfl (fun (c193 : ¬ ((if ∀ x ∈ ([drawF a, drawF b, drawF c] : List Int32), okc x then 1 else 0) = (0 : Int32))) => ?_) (fun (c193 : (if ∀ x ∈ ([drawF a, drawF b, drawF c] : List Int32), okc x then 1 else 0) = (0 : Int32)) => ?_)
          · refine Go.iconst (pc' := 182) W192 (0 : Int32) d_code_181 (by decide) rfl ?_
            refine Go.nret (z' := (0 : Int32)) W192 (by simp) (by decide) d_code_182 (by first | exact Nat.le_of_ble_eq_true rfl | (simp; done) | (simp; omega) | omega) (by first | exact Nat.le_of_ble_eq_true rfl | (simp; done) | (simp; omega) | omega) ?_
            first | rfl | (exfalso; simp_all)
          · refine Go.iconst (pc' := 178) W192 (1 : Int32) d_code_177 (by decide) rfl ?_
            refine Go.goto W192 182 d_code_178 (by decide) ?_
            refine Go.nret (z' := (1 : Int32)) W192 (by simp) (by decide) d_code_182 (by first | exact Nat.le_of_ble_eq_true rfl | (simp; done) | (simp; omega) | omega) (by first | exact Nat.le_of_ble_eq_true rfl | (simp; done) | (simp; omega) | omega) ?_
            first | rfl | (exfalso; simp_all)
    · refine Go.iconst (pc' := 114) W171 (0 : Int32) d_code_113 (by decide) rfl ?_
      refine Go.istore (pc' := 116) W171 #[.val (.int n), .val (.int a), .val (.int b), .val (.int c), .val (.int d), .val (.int (3 : Int32)), .val (.int (drawF a)), .val (.int (drawF b)), .val (.int (drawF c)), .val (.int (drawF d)), .val (.ref a141), .val (.ref a158), .val (.int (0 : Int32))] d_code_114 rfl rfl ?_
      refine Go.iload (pc' := 118) W171 d_code_116 rfl rfl ?_
      refine Go.iconst (pc' := 119) W171 (1 : Int32) d_code_118 (by decide) rfl ?_
      refine Go.icmp_le (pc' := 122) W171 133 d_code_119 (by decide) rfl (fun q => absurd (by decide) q) (fun _ => ?_)
      refine Go.iload (pc' := 124) W171 d_code_122 rfl rfl ?_
      refine Go.static (pc' := 127) W171 (rm_al G (drawF b)) (w_52 G) (w_53 G) (w_3 G) (w_54 G) (by decide) [] [] (σf := [(a141, c154)]) rfl rfl [(.int (drawF b))] [] rfl (lenOf pd_24 rfl) rfl rfl d_code_124 rfl (by first | exact Nat.le_of_ble_eq_true rfl | (simp; done) | (simp; omega) | omega) (by first | exact Nat.le_of_ble_eq_true rfl | (simp; done) | (simp; omega) | omega) (by first | exact Nat.le_of_ble_eq_true rfl | (simp; done) | (simp; omega) | omega) (by first | exact Nat.le_of_ble_eq_true rfl | (simp; done) | (simp; omega) | omega) ?_
      rintro _ _ _ T194 ⟨rfl, rfl, rfl⟩ W195
      replace W195 : Wk l Z EL1 ({ frames := 9, cells := 24, slots := 1152, locals := 208 } : Room) "com/example/grantline/grantline/server/OAuthErrorIsDescribablePinLaw" code 13 (some .boolean) "law" X [(a141, c154)] [(a158, c164), (b165, c166)] T194 4 (16) := W195
      show Go Z EL1 _ _ _ X T194 127 #[.val (.int n), .val (.int a), .val (.int b), .val (.int c), .val (.int d), .val (.int (3 : Int32)), .val (.int (drawF a)), .val (.int (drawF b)), .val (.int (drawF c)), .val (.int (drawF d)), .val (.ref a141), .val (.ref a158), .val (.int (0 : Int32))] [(.int (if okc (drawF b) then 1 else 0))]
      refine Go.if_ne (pc' := 130) W195 133 d_code_127 (by decide) rfl (fun (c196 : ¬ ((if okc (drawF b) then 1 else 0) = 0)) => ?_) (fun (c196 : (if okc (drawF b) then 1 else 0) = 0) => ?_)
      · refine Go.iload (pc' := 135) W195 d_code_133 rfl rfl ?_
        refine Go.iconst (pc' := 136) W195 (2 : Int32) d_code_135 (by decide) rfl ?_
        refine Go.icmp_le (pc' := 139) W195 150 d_code_136 (by decide) rfl (fun q => absurd (by decide) q) (fun _ => ?_)
        refine Go.iload (pc' := 141) W195 d_code_139 rfl rfl ?_
        refine Go.static (pc' := 144) W195 (rm_al G (drawF c)) (w_52 G) (w_53 G) (w_3 G) (w_54 G) (by decide) [] [] (σf := [(a141, c154)]) rfl rfl [(.int (drawF c))] [] rfl (lenOf pd_24 rfl) rfl rfl d_code_141 rfl (by first | exact Nat.le_of_ble_eq_true rfl | (simp; done) | (simp; omega) | omega) (by first | exact Nat.le_of_ble_eq_true rfl | (simp; done) | (simp; omega) | omega) (by first | exact Nat.le_of_ble_eq_true rfl | (simp; done) | (simp; omega) | omega) (by first | exact Nat.le_of_ble_eq_true rfl | (simp; done) | (simp; omega) | omega) ?_
        rintro _ _ _ T197 ⟨rfl, rfl, rfl⟩ W198
        replace W198 : Wk l Z EL1 ({ frames := 9, cells := 24, slots := 1152, locals := 208 } : Room) "com/example/grantline/grantline/server/OAuthErrorIsDescribablePinLaw" code 13 (some .boolean) "law" X [(a141, c154)] [(a158, c164), (b165, c166)] T197 4 (16) := W198
        show Go Z EL1 _ _ _ X T197 144 #[.val (.int n), .val (.int a), .val (.int b), .val (.int c), .val (.int d), .val (.int (3 : Int32)), .val (.int (drawF a)), .val (.int (drawF b)), .val (.int (drawF c)), .val (.int (drawF d)), .val (.ref a141), .val (.ref a158), .val (.int (0 : Int32))] [(.int (if okc (drawF c) then 1 else 0))]
        refine Go.if_ne (pc' := 147) W198 150 d_code_144 (by decide) rfl (fun (c199 : ¬ ((if okc (drawF c) then 1 else 0) = 0)) => ?_) (fun (c199 : (if okc (drawF c) then 1 else 0) = 0) => ?_)
        · refine Go.iload (pc' := 152) W198 d_code_150 rfl rfl ?_
          refine Go.iconst (pc' := 153) W198 (3 : Int32) d_code_152 (by decide) rfl ?_
          refine Go.icmp_le (pc' := 156) W198 167 d_code_153 (by decide) rfl (fun _ => ?_) (fun q => absurd q (by decide))
          refine Go.aload (pc' := 169) W198 d_code_167 rfl rfl rfl ?_
          refine Go.static (pc' := 172) W198 (rm_isd G a158 b165 c164 c166 _ S167 (by simp)) (w_27 G) (w_28 G) (w_29 G) (w_30 G) (by decide) [] [0, 1] (σf := [(a141, c154)]) rfl rfl [(.ref a158)] [] rfl (lenOf pd_23 rfl) rfl rfl d_code_169 rfl (by first | exact Nat.le_of_ble_eq_true rfl | (simp; done) | (simp; omega) | omega) (by first | exact Nat.le_of_ble_eq_true rfl | (simp; done) | (simp; omega) | omega) (by first | exact Nat.le_of_ble_eq_true rfl | (simp; done) | (simp; omega) | omega) (by first | exact Nat.le_of_ble_eq_true rfl | (simp; done) | (simp; omega) | omega) ?_
          rintro _ _ _ T200 ⟨rfl, rfl, rfl⟩ W201
          replace W201 : Wk l Z EL1 ({ frames := 9, cells := 24, slots := 1152, locals := 208 } : Room) "com/example/grantline/grantline/server/OAuthErrorIsDescribablePinLaw" code 13 (some .boolean) "law" X [(a141, c154)] [(a158, c164), (b165, c166)] T200 4 (16) := W201
          show Go Z EL1 _ _ _ X T200 172 #[.val (.int n), .val (.int a), .val (.int b), .val (.int c), .val (.int d), .val (.int (3 : Int32)), .val (.int (drawF a)), .val (.int (drawF b)), .val (.int (drawF c)), .val (.int (drawF d)), .val (.ref a141), .val (.ref a158), .val (.int (0 : Int32))] [(.int (if ∀ x ∈ ([drawF a, drawF b, drawF c] : List Int32), okc x then 1 else 0))]
          refine Go.iload (pc' := 174) W201 d_code_172 rfl rfl ?_
          refine Go.icmp_ne (pc' := 177) W201 181 d_code_174 (by decide) rfl (fun (c202 : ¬ ((if ∀ x ∈ ([drawF a, drawF b, drawF c] : List Int32), okc x then 1 else 0) = (0 : Int32))) => ?_) (fun (c202 : (if ∀ x ∈ ([drawF a, drawF b, drawF c] : List Int32), okc x then 1 else 0) = (0 : Int32)) => ?_)
          · refine Go.iconst (pc' := 182) W201 (0 : Int32) d_code_181 (by decide) rfl ?_
            refine Go.nret (z' := (0 : Int32)) W201 (by simp) (by decide) d_code_182 (by first | exact Nat.le_of_ble_eq_true rfl | (simp; done) | (simp; omega) | omega) (by first | exact Nat.le_of_ble_eq_true rfl | (simp; done) | (simp; omega) | omega) ?_
            first | rfl | (exfalso; simp_all)
          · refine Go.iconst (pc' := 178) W201 (1 : Int32) d_code_177 (by decide) rfl ?_
            refine Go.goto W201 182 d_code_178 (by decide) ?_
            refine Go.nret (z' := (1 : Int32)) W201 (by simp) (by decide) d_code_182 (by first | exact Nat.le_of_ble_eq_true rfl | (simp; done) | (simp; omega) | omega) (by first | exact Nat.le_of_ble_eq_true rfl | (simp; done) | (simp; omega) | omega) ?_
            first | rfl | (exfalso; simp_all)
        · refine Go.iconst (pc' := 148) W198 (0 : Int32) d_code_147 (by decide) rfl ?_
          refine Go.istore (pc' := 150) W198 #[.val (.int n), .val (.int a), .val (.int b), .val (.int c), .val (.int d), .val (.int (3 : Int32)), .val (.int (drawF a)), .val (.int (drawF b)), .val (.int (drawF c)), .val (.int (drawF d)), .val (.ref a141), .val (.ref a158), .val (.int (0 : Int32))] d_code_148 rfl rfl ?_
          refine Go.iload (pc' := 152) W198 d_code_150 rfl rfl ?_
          refine Go.iconst (pc' := 153) W198 (3 : Int32) d_code_152 (by decide) rfl ?_
          refine Go.icmp_le (pc' := 156) W198 167 d_code_153 (by decide) rfl (fun _ => ?_) (fun q => absurd q (by decide))
          refine Go.aload (pc' := 169) W198 d_code_167 rfl rfl rfl ?_
          refine Go.static (pc' := 172) W198 (rm_isd G a158 b165 c164 c166 _ S167 (by simp)) (w_27 G) (w_28 G) (w_29 G) (w_30 G) (by decide) [] [0, 1] (σf := [(a141, c154)]) rfl rfl [(.ref a158)] [] rfl (lenOf pd_23 rfl) rfl rfl d_code_169 rfl (by first | exact Nat.le_of_ble_eq_true rfl | (simp; done) | (simp; omega) | omega) (by first | exact Nat.le_of_ble_eq_true rfl | (simp; done) | (simp; omega) | omega) (by first | exact Nat.le_of_ble_eq_true rfl | (simp; done) | (simp; omega) | omega) (by first | exact Nat.le_of_ble_eq_true rfl | (simp; done) | (simp; omega) | omega) ?_
          rintro _ _ _ T203 ⟨rfl, rfl, rfl⟩ W204
          replace W204 : Wk l Z EL1 ({ frames := 9, cells := 24, slots := 1152, locals := 208 } : Room) "com/example/grantline/grantline/server/OAuthErrorIsDescribablePinLaw" code 13 (some .boolean) "law" X [(a141, c154)] [(a158, c164), (b165, c166)] T203 4 (16) := W204
          show Go Z EL1 _ _ _ X T203 172 #[.val (.int n), .val (.int a), .val (.int b), .val (.int c), .val (.int d), .val (.int (3 : Int32)), .val (.int (drawF a)), .val (.int (drawF b)), .val (.int (drawF c)), .val (.int (drawF d)), .val (.ref a141), .val (.ref a158), .val (.int (0 : Int32))] [(.int (if ∀ x ∈ ([drawF a, drawF b, drawF c] : List Int32), okc x then 1 else 0))]
          refine Go.iload (pc' := 174) W204 d_code_172 rfl rfl ?_
          refine Go.icmp_ne (pc' := 177) W204 181 d_code_174 (by decide) rfl (fun (c205 : ¬ ((if ∀ x ∈ ([drawF a, drawF b, drawF c] : List Int32), okc x then 1 else 0) = (0 : Int32))) => ?_) (fun (c205 : (if ∀ x ∈ ([drawF a, drawF b, drawF c] : List Int32), okc x then 1 else 0) = (0 : Int32)) => ?_)
          · refine Go.iconst (pc' := 182) W204 (0 : Int32) d_code_181 (by decide) rfl ?_
            refine Go.nret (z' := (0 : Int32)) W204 (by simp) (by decide) d_code_182 (by first | exact Nat.le_of_ble_eq_true rfl | (simp; done) | (simp; omega) | omega) (by first | exact Nat.le_of_ble_eq_true rfl | (simp; done) | (simp; omega) | omega) ?_
            first | rfl | (exfalso; simp_all)
          · refine Go.iconst (pc' := 178) W204 (1 : Int32) d_code_177 (by decide) rfl ?_
            refine Go.goto W204 182 d_code_178 (by decide) ?_
            refine Go.nret (z' := (1 : Int32)) W204 (by simp) (by decide) d_code_182 (by first | exact Nat.le_of_ble_eq_true rfl | (simp; done) | (simp; omega) | omega) (by first | exact Nat.le_of_ble_eq_true rfl | (simp; done) | (simp; omega) | omega) ?_
            first | rfl | (exfalso; simp_all)
      · refine Go.iconst (pc' := 131) W195 (0 : Int32) d_code_130 (by decide) rfl ?_
        refine Go.istore (pc' := 133) W195 #[.val (.int n), .val (.int a), .val (.int b), .val (.int c), .val (.int d), .val (.int (3 : Int32)), .val (.int (drawF a)), .val (.int (drawF b)), .val (.int (drawF c)), .val (.int (drawF d)), .val (.ref a141), .val (.ref a158), .val (.int (0 : Int32))] d_code_131 rfl rfl ?_
        refine Go.iload (pc' := 135) W195 d_code_133 rfl rfl ?_
        refine Go.iconst (pc' := 136) W195 (2 : Int32) d_code_135 (by decide) rfl ?_
        refine Go.icmp_le (pc' := 139) W195 150 d_code_136 (by decide) rfl (fun q => absurd (by decide) q) (fun _ => ?_)
        refine Go.iload (pc' := 141) W195 d_code_139 rfl rfl ?_
        refine Go.static (pc' := 144) W195 (rm_al G (drawF c)) (w_52 G) (w_53 G) (w_3 G) (w_54 G) (by decide) [] [] (σf := [(a141, c154)]) rfl rfl [(.int (drawF c))] [] rfl (lenOf pd_24 rfl) rfl rfl d_code_141 rfl (by first | exact Nat.le_of_ble_eq_true rfl | (simp; done) | (simp; omega) | omega) (by first | exact Nat.le_of_ble_eq_true rfl | (simp; done) | (simp; omega) | omega) (by first | exact Nat.le_of_ble_eq_true rfl | (simp; done) | (simp; omega) | omega) (by first | exact Nat.le_of_ble_eq_true rfl | (simp; done) | (simp; omega) | omega) ?_
        rintro _ _ _ T206 ⟨rfl, rfl, rfl⟩ W207
        replace W207 : Wk l Z EL1 ({ frames := 9, cells := 24, slots := 1152, locals := 208 } : Room) "com/example/grantline/grantline/server/OAuthErrorIsDescribablePinLaw" code 13 (some .boolean) "law" X [(a141, c154)] [(a158, c164), (b165, c166)] T206 4 (16) := W207
        show Go Z EL1 _ _ _ X T206 144 #[.val (.int n), .val (.int a), .val (.int b), .val (.int c), .val (.int d), .val (.int (3 : Int32)), .val (.int (drawF a)), .val (.int (drawF b)), .val (.int (drawF c)), .val (.int (drawF d)), .val (.ref a141), .val (.ref a158), .val (.int (0 : Int32))] [(.int (if okc (drawF c) then 1 else 0))]
        refine Go.if_ne (pc' := 147) W207 150 d_code_144 (by decide) rfl (fun (c208 : ¬ ((if okc (drawF c) then 1 else 0) = 0)) => ?_) (fun (c208 : (if okc (drawF c) then 1 else 0) = 0) => ?_)
        · refine Go.iload (pc' := 152) W207 d_code_150 rfl rfl ?_
          refine Go.iconst (pc' := 153) W207 (3 : Int32) d_code_152 (by decide) rfl ?_
          refine Go.icmp_le (pc' := 156) W207 167 d_code_153 (by decide) rfl (fun _ => ?_) (fun q => absurd q (by decide))
          refine Go.aload (pc' := 169) W207 d_code_167 rfl rfl rfl ?_
          refine Go.static (pc' := 172) W207 (rm_isd G a158 b165 c164 c166 _ S167 (by simp)) (w_27 G) (w_28 G) (w_29 G) (w_30 G) (by decide) [] [0, 1] (σf := [(a141, c154)]) rfl rfl [(.ref a158)] [] rfl (lenOf pd_23 rfl) rfl rfl d_code_169 rfl (by first | exact Nat.le_of_ble_eq_true rfl | (simp; done) | (simp; omega) | omega) (by first | exact Nat.le_of_ble_eq_true rfl | (simp; done) | (simp; omega) | omega) (by first | exact Nat.le_of_ble_eq_true rfl | (simp; done) | (simp; omega) | omega) (by first | exact Nat.le_of_ble_eq_true rfl | (simp; done) | (simp; omega) | omega) ?_
          rintro _ _ _ T209 ⟨rfl, rfl, rfl⟩ W210
          replace W210 : Wk l Z EL1 ({ frames := 9, cells := 24, slots := 1152, locals := 208 } : Room) "com/example/grantline/grantline/server/OAuthErrorIsDescribablePinLaw" code 13 (some .boolean) "law" X [(a141, c154)] [(a158, c164), (b165, c166)] T209 4 (16) := W210
          show Go Z EL1 _ _ _ X T209 172 #[.val (.int n), .val (.int a), .val (.int b), .val (.int c), .val (.int d), .val (.int (3 : Int32)), .val (.int (drawF a)), .val (.int (drawF b)), .val (.int (drawF c)), .val (.int (drawF d)), .val (.ref a141), .val (.ref a158), .val (.int (0 : Int32))] [(.int (if ∀ x ∈ ([drawF a, drawF b, drawF c] : List Int32), okc x then 1 else 0))]
          refine Go.iload (pc' := 174) W210 d_code_172 rfl rfl ?_
          refine Go.icmp_ne (pc' := 177) W210 181 d_code_174 (by decide) rfl (fun (c211 : ¬ ((if ∀ x ∈ ([drawF a, drawF b, drawF c] : List Int32), okc x then 1 else 0) = (0 : Int32))) => ?_) (fun (c211 : (if ∀ x ∈ ([drawF a, drawF b, drawF c] : List Int32), okc x then 1 else 0) = (0 : Int32)) => ?_)
          · refine Go.iconst (pc' := 182) W210 (0 : Int32) d_code_181 (by decide) rfl ?_
            refine Go.nret (z' := (0 : Int32)) W210 (by simp) (by decide) d_code_182 (by first | exact Nat.le_of_ble_eq_true rfl | (simp; done) | (simp; omega) | omega) (by first | exact Nat.le_of_ble_eq_true rfl | (simp; done) | (simp; omega) | omega) ?_
            first | rfl | (exfalso; simp_all)
          · refine Go.iconst (pc' := 178) W210 (1 : Int32) d_code_177 (by decide) rfl ?_
            refine Go.goto W210 182 d_code_178 (by decide) ?_
            refine Go.nret (z' := (1 : Int32)) W210 (by simp) (by decide) d_code_182 (by first | exact Nat.le_of_ble_eq_true rfl | (simp; done) | (simp; omega) | omega) (by first | exact Nat.le_of_ble_eq_true rfl | (simp; done) | (simp; omega) | omega) ?_
            first | rfl | (exfalso; simp_all)
        · refine Go.iconst (pc' := 148) W207 (0 : Int32) d_code_147 (by decide) rfl ?_
          refine Go.istore (pc' := 150) W207 #[.val (.int n), .val (.int a), .val (.int b), .val (.int c), .val (.int d), .val (.int (3 : Int32)), .val (.int (drawF a)), .val (.int (drawF b)), .val (.int (drawF c)), .val (.int (drawF d)), .val (.ref a141), .val (.ref a158), .val (.int (0 : Int32))] d_code_148 rfl rfl ?_
          refine Go.iload (pc' := 152) W207 d_code_150 rfl rfl ?_
          refine Go.iconst (pc' := 153) W207 (3 : Int32) d_code_152 (by decide) rfl ?_
          refine Go.icmp_le (pc' := 156) W207 167 d_code_153 (by decide) rfl (fun _ => ?_) (fun q => absurd q (by decide))
          refine Go.aload (pc' := 169) W207 d_code_167 rfl rfl rfl ?_
          refine Go.static (pc' := 172) W207 (rm_isd G a158 b165 c164 c166 _ S167 (by simp)) (w_27 G) (w_28 G) (w_29 G) (w_30 G) (by decide) [] [0, 1] (σf := [(a141, c154)]) rfl rfl [(.ref a158)] [] rfl (lenOf pd_23 rfl) rfl rfl d_code_169 rfl (by first | exact Nat.le_of_ble_eq_true rfl | (simp; done) | (simp; omega) | omega) (by first | exact Nat.le_of_ble_eq_true rfl | (simp; done) | (simp; omega) | omega) (by first | exact Nat.le_of_ble_eq_true rfl | (simp; done) | (simp; omega) | omega) (by first | exact Nat.le_of_ble_eq_true rfl | (simp; done) | (simp; omega) | omega) ?_
          rintro _ _ _ T212 ⟨rfl, rfl, rfl⟩ W213
          replace W213 : Wk l Z EL1 ({ frames := 9, cells := 24, slots := 1152, locals := 208 } : Room) "com/example/grantline/grantline/server/OAuthErrorIsDescribablePinLaw" code 13 (some .boolean) "law" X [(a141, c154)] [(a158, c164), (b165, c166)] T212 4 (16) := W213
          show Go Z EL1 _ _ _ X T212 172 #[.val (.int n), .val (.int a), .val (.int b), .val (.int c), .val (.int d), .val (.int (3 : Int32)), .val (.int (drawF a)), .val (.int (drawF b)), .val (.int (drawF c)), .val (.int (drawF d)), .val (.ref a141), .val (.ref a158), .val (.int (0 : Int32))] [(.int (if ∀ x ∈ ([drawF a, drawF b, drawF c] : List Int32), okc x then 1 else 0))]
          refine Go.iload (pc' := 174) W213 d_code_172 rfl rfl ?_
          refine Go.icmp_ne (pc' := 177) W213 181 d_code_174 (by decide) rfl (fun (c214 : ¬ ((if ∀ x ∈ ([drawF a, drawF b, drawF c] : List Int32), okc x then 1 else 0) = (0 : Int32))) => ?_) (fun (c214 : (if ∀ x ∈ ([drawF a, drawF b, drawF c] : List Int32), okc x then 1 else 0) = (0 : Int32)) => ?_)
          · refine Go.iconst (pc' := 182) W213 (0 : Int32) d_code_181 (by decide) rfl ?_
            refine Go.nret (z' := (0 : Int32)) W213 (by simp) (by decide) d_code_182 (by first | exact Nat.le_of_ble_eq_true rfl | (simp; done) | (simp; omega) | omega) (by first | exact Nat.le_of_ble_eq_true rfl | (simp; done) | (simp; omega) | omega) ?_
            first | rfl | (exfalso; simp_all)
          · refine Go.iconst (pc' := 178) W213 (1 : Int32) d_code_177 (by decide) rfl ?_
            refine Go.goto W213 182 d_code_178 (by decide) ?_
            refine Go.nret (z' := (1 : Int32)) W213 (by simp) (by decide) d_code_182 (by first | exact Nat.le_of_ble_eq_true rfl | (simp; done) | (simp; omega) | omega) (by first | exact Nat.le_of_ble_eq_true rfl | (simp; done) | (simp; omega) | omega) ?_
            first | rfl | (exfalso; simp_all)
  · refine Go.istore (pc' := 8) W0 #[.val (.int n), .val (.int a), .val (.int b), .val (.int c), .val (.int d), .val (.int (4 : Int32)), .unset, .unset, .unset, .unset, .unset, .unset, .unset] d_code_6 rfl rfl ?_
    refine Go.iloadN (pc' := 9) W0 d_code_8 rfl rfl ?_
    refine Go.static (pc' := 12) W0 (rm_draw G a) (w_1 G) (w_2 G) (w_3 G) (w_4 G) (by decide) [] [] (σf := []) rfl rfl [(.int a)] [] rfl (lenOf pd_20 rfl) rfl rfl d_code_9 rfl (by first | exact Nat.le_of_ble_eq_true rfl | (simp; done) | (simp; omega) | omega) (by first | exact Nat.le_of_ble_eq_true rfl | (simp; done) | (simp; omega) | omega) (by first | exact Nat.le_of_ble_eq_true rfl | (simp; done) | (simp; omega) | omega) (by first | exact Nat.le_of_ble_eq_true rfl | (simp; done) | (simp; omega) | omega) ?_
    rintro _ _ _ T215 ⟨rfl, rfl, rfl⟩ W216
    replace W216 : Wk l Z EL1 ({ frames := 9, cells := 24, slots := 1152, locals := 208 } : Room) "com/example/grantline/grantline/server/OAuthErrorIsDescribablePinLaw" code 13 (some .boolean) "law" X [] [] T215 0 (0) := W216
    show Go Z EL1 _ _ _ X T215 12 #[.val (.int n), .val (.int a), .val (.int b), .val (.int c), .val (.int d), .val (.int (4 : Int32)), .unset, .unset, .unset, .unset, .unset, .unset, .unset] [(.int (drawF a))]
    refine Go.istore (pc' := 14) W216 #[.val (.int n), .val (.int a), .val (.int b), .val (.int c), .val (.int d), .val (.int (4 : Int32)), .val (.int (drawF a)), .unset, .unset, .unset, .unset, .unset, .unset] d_code_12 rfl rfl ?_
    refine Go.iloadN (pc' := 15) W216 d_code_14 rfl rfl ?_
    refine Go.static (pc' := 18) W216 (rm_draw G b) (w_1 G) (w_2 G) (w_3 G) (w_4 G) (by decide) [] [] (σf := []) rfl rfl [(.int b)] [] rfl (lenOf pd_20 rfl) rfl rfl d_code_15 rfl (by first | exact Nat.le_of_ble_eq_true rfl | (simp; done) | (simp; omega) | omega) (by first | exact Nat.le_of_ble_eq_true rfl | (simp; done) | (simp; omega) | omega) (by first | exact Nat.le_of_ble_eq_true rfl | (simp; done) | (simp; omega) | omega) (by first | exact Nat.le_of_ble_eq_true rfl | (simp; done) | (simp; omega) | omega) ?_
    rintro _ _ _ T217 ⟨rfl, rfl, rfl⟩ W218
    replace W218 : Wk l Z EL1 ({ frames := 9, cells := 24, slots := 1152, locals := 208 } : Room) "com/example/grantline/grantline/server/OAuthErrorIsDescribablePinLaw" code 13 (some .boolean) "law" X [] [] T217 0 (0) := W218
    show Go Z EL1 _ _ _ X T217 18 #[.val (.int n), .val (.int a), .val (.int b), .val (.int c), .val (.int d), .val (.int (4 : Int32)), .val (.int (drawF a)), .unset, .unset, .unset, .unset, .unset, .unset] [(.int (drawF b))]
    refine Go.istore (pc' := 20) W218 #[.val (.int n), .val (.int a), .val (.int b), .val (.int c), .val (.int d), .val (.int (4 : Int32)), .val (.int (drawF a)), .val (.int (drawF b)), .unset, .unset, .unset, .unset, .unset] d_code_18 rfl rfl ?_
    refine Go.iloadN (pc' := 21) W218 d_code_20 rfl rfl ?_
    refine Go.static (pc' := 24) W218 (rm_draw G c) (w_1 G) (w_2 G) (w_3 G) (w_4 G) (by decide) [] [] (σf := []) rfl rfl [(.int c)] [] rfl (lenOf pd_20 rfl) rfl rfl d_code_21 rfl (by first | exact Nat.le_of_ble_eq_true rfl | (simp; done) | (simp; omega) | omega) (by first | exact Nat.le_of_ble_eq_true rfl | (simp; done) | (simp; omega) | omega) (by first | exact Nat.le_of_ble_eq_true rfl | (simp; done) | (simp; omega) | omega) (by first | exact Nat.le_of_ble_eq_true rfl | (simp; done) | (simp; omega) | omega) ?_
    rintro _ _ _ T219 ⟨rfl, rfl, rfl⟩ W220
    replace W220 : Wk l Z EL1 ({ frames := 9, cells := 24, slots := 1152, locals := 208 } : Room) "com/example/grantline/grantline/server/OAuthErrorIsDescribablePinLaw" code 13 (some .boolean) "law" X [] [] T219 0 (0) := W220
    show Go Z EL1 _ _ _ X T219 24 #[.val (.int n), .val (.int a), .val (.int b), .val (.int c), .val (.int d), .val (.int (4 : Int32)), .val (.int (drawF a)), .val (.int (drawF b)), .unset, .unset, .unset, .unset, .unset] [(.int (drawF c))]
    refine Go.istore (pc' := 26) W220 #[.val (.int n), .val (.int a), .val (.int b), .val (.int c), .val (.int d), .val (.int (4 : Int32)), .val (.int (drawF a)), .val (.int (drawF b)), .val (.int (drawF c)), .unset, .unset, .unset, .unset] d_code_24 rfl rfl ?_
    refine Go.iload (pc' := 28) W220 d_code_26 rfl rfl ?_
    refine Go.static (pc' := 31) W220 (rm_draw G d) (w_1 G) (w_2 G) (w_3 G) (w_4 G) (by decide) [] [] (σf := []) rfl rfl [(.int d)] [] rfl (lenOf pd_20 rfl) rfl rfl d_code_28 rfl (by first | exact Nat.le_of_ble_eq_true rfl | (simp; done) | (simp; omega) | omega) (by first | exact Nat.le_of_ble_eq_true rfl | (simp; done) | (simp; omega) | omega) (by first | exact Nat.le_of_ble_eq_true rfl | (simp; done) | (simp; omega) | omega) (by first | exact Nat.le_of_ble_eq_true rfl | (simp; done) | (simp; omega) | omega) ?_
    rintro _ _ _ T221 ⟨rfl, rfl, rfl⟩ W222
    replace W222 : Wk l Z EL1 ({ frames := 9, cells := 24, slots := 1152, locals := 208 } : Room) "com/example/grantline/grantline/server/OAuthErrorIsDescribablePinLaw" code 13 (some .boolean) "law" X [] [] T221 0 (0) := W222
    show Go Z EL1 _ _ _ X T221 31 #[.val (.int n), .val (.int a), .val (.int b), .val (.int c), .val (.int d), .val (.int (4 : Int32)), .val (.int (drawF a)), .val (.int (drawF b)), .val (.int (drawF c)), .unset, .unset, .unset, .unset] [(.int (drawF d))]
    refine Go.istore (pc' := 33) W222 #[.val (.int n), .val (.int a), .val (.int b), .val (.int c), .val (.int d), .val (.int (4 : Int32)), .val (.int (drawF a)), .val (.int (drawF b)), .val (.int (drawF c)), .val (.int (drawF d)), .unset, .unset, .unset] d_code_31 rfl rfl ?_
    refine Go.iload (pc' := 35) W222 d_code_33 rfl rfl ?_
    refine Go.newarr (pc' := 37) W222 .char rfl 4 (w_5 G) d_code_35 rfl (by decide) (by decide) (by decide) (by first | exact Nat.le_of_ble_eq_true rfl | (simp; done) | (simp; omega) | omega) (by first | exact Nat.le_of_ble_eq_true rfl | (simp; done) | (simp; omega) | omega) (fun T223 a225 c226 W224 A227 => ?_)
    replace W224 : Wk l Z EL1 ({ frames := 9, cells := 24, slots := 1152, locals := 208 } : Room) "com/example/grantline/grantline/server/OAuthErrorIsDescribablePinLaw" code 13 (some .boolean) "law" X [(a225, c226)] [] T223 1 (4) := W224
    replace A227 : ArrC Z c226 .char [(.int (0 : Int32)), (.int (0 : Int32)), (.int (0 : Int32)), (.int (0 : Int32))] := A227
    refine Go.astore (pc' := 39) W224 #[.val (.int n), .val (.int a), .val (.int b), .val (.int c), .val (.int d), .val (.int (4 : Int32)), .val (.int (drawF a)), .val (.int (drawF b)), .val (.int (drawF c)), .val (.int (drawF d)), .val (.ref a225), .unset, .unset] d_code_37 rfl rfl rfl ?_
    refine Go.iload (pc' := 41) W224 d_code_39 rfl rfl ?_
    refine Go.if_le (pc' := 44) W224 50 d_code_41 (by decide) rfl (fun q => absurd (by decide) q) (fun _ => ?_)
    refine Go.aload (pc' := 46) W224 d_code_44 rfl rfl rfl ?_
    refine Go.iconst (pc' := 47) W224 (0 : Int32) d_code_46 (by decide) rfl ?_
    refine Go.iload (pc' := 49) W224 d_code_47 rfl rfl ?_
    refine Go.castore (pc' := 50) W224 0 rfl A227 0 (drawF a) (nar_char_id (drawF_chr _)) (by decide) (by decide) (by simp) d_code_49 rfl (fun T228 c230 W229 A231 => ?_)
    replace W229 : Wk l Z EL1 ({ frames := 9, cells := 24, slots := 1152, locals := 208 } : Room) "com/example/grantline/grantline/server/OAuthErrorIsDescribablePinLaw" code 13 (some .boolean) "law" X [(a225, c230)] [] T228 1 (4) := W229
    replace A231 : ArrC Z c230 .char [(.int (drawF a)), (.int (0 : Int32)), (.int (0 : Int32)), (.int (0 : Int32))] := A231
    refine Go.iload (pc' := 52) W229 d_code_50 rfl rfl ?_
    refine Go.iconst (pc' := 53) W229 (1 : Int32) d_code_52 (by decide) rfl ?_
    refine Go.icmp_le (pc' := 56) W229 62 d_code_53 (by decide) rfl (fun q => absurd (by decide) q) (fun _ => ?_)
    refine Go.aload (pc' := 58) W229 d_code_56 rfl rfl rfl ?_
    refine Go.iconst (pc' := 59) W229 (1 : Int32) d_code_58 (by decide) rfl ?_
    refine Go.iload (pc' := 61) W229 d_code_59 rfl rfl ?_
    refine Go.castore (pc' := 62) W229 0 rfl A231 1 (drawF b) (nar_char_id (drawF_chr _)) (by decide) (by decide) (by simp) d_code_61 rfl (fun T232 c234 W233 A235 => ?_)
    replace W233 : Wk l Z EL1 ({ frames := 9, cells := 24, slots := 1152, locals := 208 } : Room) "com/example/grantline/grantline/server/OAuthErrorIsDescribablePinLaw" code 13 (some .boolean) "law" X [(a225, c234)] [] T232 1 (4) := W233
    replace A235 : ArrC Z c234 .char [(.int (drawF a)), (.int (drawF b)), (.int (0 : Int32)), (.int (0 : Int32))] := A235
    refine Go.iload (pc' := 64) W233 d_code_62 rfl rfl ?_
    refine Go.iconst (pc' := 65) W233 (2 : Int32) d_code_64 (by decide) rfl ?_
    refine Go.icmp_le (pc' := 68) W233 74 d_code_65 (by decide) rfl (fun q => absurd (by decide) q) (fun _ => ?_)
    refine Go.aload (pc' := 70) W233 d_code_68 rfl rfl rfl ?_
    refine Go.iconst (pc' := 71) W233 (2 : Int32) d_code_70 (by decide) rfl ?_
    refine Go.iload (pc' := 73) W233 d_code_71 rfl rfl ?_
    refine Go.castore (pc' := 74) W233 0 rfl A235 2 (drawF c) (nar_char_id (drawF_chr _)) (by decide) (by decide) (by simp) d_code_73 rfl (fun T236 c238 W237 A239 => ?_)
    replace W237 : Wk l Z EL1 ({ frames := 9, cells := 24, slots := 1152, locals := 208 } : Room) "com/example/grantline/grantline/server/OAuthErrorIsDescribablePinLaw" code 13 (some .boolean) "law" X [(a225, c238)] [] T236 1 (4) := W237
    replace A239 : ArrC Z c238 .char [(.int (drawF a)), (.int (drawF b)), (.int (drawF c)), (.int (0 : Int32))] := A239
    refine Go.iload (pc' := 76) W237 d_code_74 rfl rfl ?_
    refine Go.iconst (pc' := 77) W237 (3 : Int32) d_code_76 (by decide) rfl ?_
    refine Go.icmp_le (pc' := 80) W237 86 d_code_77 (by decide) rfl (fun q => absurd (by decide) q) (fun _ => ?_)
    refine Go.aload (pc' := 82) W237 d_code_80 rfl rfl rfl ?_
    refine Go.iconst (pc' := 83) W237 (3 : Int32) d_code_82 (by decide) rfl ?_
    refine Go.iload (pc' := 85) W237 d_code_83 rfl rfl ?_
    refine Go.castore (pc' := 86) W237 0 rfl A239 3 (drawF d) (nar_char_id (drawF_chr _)) (by decide) (by decide) (by simp) d_code_85 rfl (fun T240 c242 W241 A243 => ?_)
    replace W241 : Wk l Z EL1 ({ frames := 9, cells := 24, slots := 1152, locals := 208 } : Room) "com/example/grantline/grantline/server/OAuthErrorIsDescribablePinLaw" code 13 (some .boolean) "law" X [(a225, c242)] [] T240 1 (4) := W241
    replace A243 : ArrC Z c242 .char [(.int (drawF a)), (.int (drawF b)), (.int (drawF c)), (.int (drawF d))] := A243
    refine Go.new (pc' := 89) W241 (w_6 G) (w_7 G) (w_8 G) d_code_86 rfl (by first | exact Nat.le_of_ble_eq_true rfl | (simp; done) | (simp; omega) | omega) (by first | exact Nat.le_of_ble_eq_true rfl | (simp; done) | (simp; omega) | omega) (fun T244 a246 c247 W245 O248 D249 => ?_)
    replace W245 : Wk l Z EL1 ({ frames := 9, cells := 24, slots := 1152, locals := 208 } : Room) "com/example/grantline/grantline/server/OAuthErrorIsDescribablePinLaw" code 13 (some .boolean) "law" X [(a246, c247), (a225, c242)] [] T244 2 (8) := W245
    have F250 : FldC Z c247 "java/lang/String" "value" "[B" (.null) := D249 (Or.inr (w_21 G)) (ty := (.array .byte)) (by decide)
    have F251 : FldC Z c247 "java/lang/String" "coder" "B" (.int (0 : Int32)) := D249 (Or.inr (w_22 G)) (ty := .byte) (by decide)
    refine Go.dup (pc' := 90) W245 d_code_89 rfl rfl ?_
    refine Go.aload (pc' := 92) W245 d_code_90 rfl rfl rfl ?_
    refine Go.special (pc' := 95) W245 (a := a246) (rm_initC G a246 a225 c247 c242 [drawF a, drawF b, drawF c, drawF d] A243 O248 F251 F250 (Chr.cons (drawF_chr _) (Chr.cons (drawF_chr _) (Chr.cons (drawF_chr _) (Chr.cons (drawF_chr _) Chr.nil)))) (by simp) (show ¬ (4 : Nat).toInt32 = 0 by decide)) rfl (w_9 G) (w_10 G) (w_8 G) (w_11 G) (by decide) [0, 0] [] (σf := []) rfl rfl [(.ref a225)] [(.ref a246)] rfl (lenOf pd_22 rfl) rfl rfl d_code_92 rfl (by first | exact Nat.le_of_ble_eq_true rfl | (simp; done) | (simp; omega) | omega) (by first | exact Nat.le_of_ble_eq_true rfl | (simp; done) | (simp; omega) | omega) (by first | exact Nat.le_of_ble_eq_true rfl | (simp; done) | (simp; omega) | omega) (by first | exact Nat.le_of_ble_eq_true rfl | (simp; done) | (simp; omega) | omega) ?_
    rintro _ _ _ T256 ⟨c252, b253, c254, rfl, rfl, rfl, S255⟩ W257
    replace W257 : Wk l Z EL1 ({ frames := 9, cells := 24, slots := 1152, locals := 208 } : Room) "com/example/grantline/grantline/server/OAuthErrorIsDescribablePinLaw" code 13 (some .boolean) "law" X [(a225, c242)] [(a246, c252), (b253, c254)] T256 4 (20) := W257
    show Go Z EL1 _ _ _ X T256 95 #[.val (.int n), .val (.int a), .val (.int b), .val (.int c), .val (.int d), .val (.int (4 : Int32)), .val (.int (drawF a)), .val (.int (drawF b)), .val (.int (drawF c)), .val (.int (drawF d)), .val (.ref a225), .unset, .unset] [(.ref a246)]
    refine Go.astore (pc' := 97) W257 #[.val (.int n), .val (.int a), .val (.int b), .val (.int c), .val (.int d), .val (.int (4 : Int32)), .val (.int (drawF a)), .val (.int (drawF b)), .val (.int (drawF c)), .val (.int (drawF d)), .val (.ref a225), .val (.ref a246), .unset] d_code_95 rfl rfl rfl ?_
    refine Go.iconst (pc' := 98) W257 (1 : Int32) d_code_97 (by decide) rfl ?_
    refine Go.istore (pc' := 100) W257 #[.val (.int n), .val (.int a), .val (.int b), .val (.int c), .val (.int d), .val (.int (4 : Int32)), .val (.int (drawF a)), .val (.int (drawF b)), .val (.int (drawF c)), .val (.int (drawF d)), .val (.ref a225), .val (.ref a246), .val (.int (1 : Int32))] d_code_98 rfl rfl ?_
    refine Go.iload (pc' := 102) W257 d_code_100 rfl rfl ?_
    refine Go.if_le (pc' := 105) W257 116 d_code_102 (by decide) rfl (fun q => absurd (by decide) q) (fun _ => ?_)
    refine Go.iload (pc' := 107) W257 d_code_105 rfl rfl ?_
    refine Go.static (pc' := 110) W257 (rm_al G (drawF a)) (w_52 G) (w_53 G) (w_3 G) (w_54 G) (by decide) [] [] (σf := [(a225, c242)]) rfl rfl [(.int (drawF a))] [] rfl (lenOf pd_24 rfl) rfl rfl d_code_107 rfl (by first | exact Nat.le_of_ble_eq_true rfl | (simp; done) | (simp; omega) | omega) (by first | exact Nat.le_of_ble_eq_true rfl | (simp; done) | (simp; omega) | omega) (by first | exact Nat.le_of_ble_eq_true rfl | (simp; done) | (simp; omega) | omega) (by first | exact Nat.le_of_ble_eq_true rfl | (simp; done) | (simp; omega) | omega) ?_
    rintro _ _ _ T258 ⟨rfl, rfl, rfl⟩ W259
    replace W259 : Wk l Z EL1 ({ frames := 9, cells := 24, slots := 1152, locals := 208 } : Room) "com/example/grantline/grantline/server/OAuthErrorIsDescribablePinLaw" code 13 (some .boolean) "law" X [(a225, c242)] [(a246, c252), (b253, c254)] T258 4 (20) := W259
    show Go Z EL1 _ _ _ X T258 110 #[.val (.int n), .val (.int a), .val (.int b), .val (.int c), .val (.int d), .val (.int (4 : Int32)), .val (.int (drawF a)), .val (.int (drawF b)), .val (.int (drawF c)), .val (.int (drawF d)), .val (.ref a225), .val (.ref a246), .val (.int (1 : Int32))] [(.int (if okc (drawF a) then 1 else 0))]
    refine Go.if_ne (pc' := 113) W259 116 d_code_110 (by decide) rfl (fun (c260 : ¬ ((if okc (drawF a) then 1 else 0) = 0)) => ?_) (fun (c260 : (if okc (drawF a) then 1 else 0) = 0) => ?_)
    · refine Go.iload (pc' := 118) W259 d_code_116 rfl rfl ?_
      refine Go.iconst (pc' := 119) W259 (1 : Int32) d_code_118 (by decide) rfl ?_
      refine Go.icmp_le (pc' := 122) W259 133 d_code_119 (by decide) rfl (fun q => absurd (by decide) q) (fun _ => ?_)
      refine Go.iload (pc' := 124) W259 d_code_122 rfl rfl ?_
      refine Go.static (pc' := 127) W259 (rm_al G (drawF b)) (w_52 G) (w_53 G) (w_3 G) (w_54 G) (by decide) [] [] (σf := [(a225, c242)]) rfl rfl [(.int (drawF b))] [] rfl (lenOf pd_24 rfl) rfl rfl d_code_124 rfl (by first | exact Nat.le_of_ble_eq_true rfl | (simp; done) | (simp; omega) | omega) (by first | exact Nat.le_of_ble_eq_true rfl | (simp; done) | (simp; omega) | omega) (by first | exact Nat.le_of_ble_eq_true rfl | (simp; done) | (simp; omega) | omega) (by first | exact Nat.le_of_ble_eq_true rfl | (simp; done) | (simp; omega) | omega) ?_
      rintro _ _ _ T261 ⟨rfl, rfl, rfl⟩ W262
      replace W262 : Wk l Z EL1 ({ frames := 9, cells := 24, slots := 1152, locals := 208 } : Room) "com/example/grantline/grantline/server/OAuthErrorIsDescribablePinLaw" code 13 (some .boolean) "law" X [(a225, c242)] [(a246, c252), (b253, c254)] T261 4 (20) := W262
      show Go Z EL1 _ _ _ X T261 127 #[.val (.int n), .val (.int a), .val (.int b), .val (.int c), .val (.int d), .val (.int (4 : Int32)), .val (.int (drawF a)), .val (.int (drawF b)), .val (.int (drawF c)), .val (.int (drawF d)), .val (.ref a225), .val (.ref a246), .val (.int (1 : Int32))] [(.int (if okc (drawF b) then 1 else 0))]
      refine Go.if_ne (pc' := 130) W262 133 d_code_127 (by decide) rfl (fun (c263 : ¬ ((if okc (drawF b) then 1 else 0) = 0)) => ?_) (fun (c263 : (if okc (drawF b) then 1 else 0) = 0) => ?_)
      · refine Go.iload (pc' := 135) W262 d_code_133 rfl rfl ?_
        refine Go.iconst (pc' := 136) W262 (2 : Int32) d_code_135 (by decide) rfl ?_
        refine Go.icmp_le (pc' := 139) W262 150 d_code_136 (by decide) rfl (fun q => absurd (by decide) q) (fun _ => ?_)
        refine Go.iload (pc' := 141) W262 d_code_139 rfl rfl ?_
        refine Go.static (pc' := 144) W262 (rm_al G (drawF c)) (w_52 G) (w_53 G) (w_3 G) (w_54 G) (by decide) [] [] (σf := [(a225, c242)]) rfl rfl [(.int (drawF c))] [] rfl (lenOf pd_24 rfl) rfl rfl d_code_141 rfl (by first | exact Nat.le_of_ble_eq_true rfl | (simp; done) | (simp; omega) | omega) (by first | exact Nat.le_of_ble_eq_true rfl | (simp; done) | (simp; omega) | omega) (by first | exact Nat.le_of_ble_eq_true rfl | (simp; done) | (simp; omega) | omega) (by first | exact Nat.le_of_ble_eq_true rfl | (simp; done) | (simp; omega) | omega) ?_
        rintro _ _ _ T264 ⟨rfl, rfl, rfl⟩ W265
        replace W265 : Wk l Z EL1 ({ frames := 9, cells := 24, slots := 1152, locals := 208 } : Room) "com/example/grantline/grantline/server/OAuthErrorIsDescribablePinLaw" code 13 (some .boolean) "law" X [(a225, c242)] [(a246, c252), (b253, c254)] T264 4 (20) := W265
        show Go Z EL1 _ _ _ X T264 144 #[.val (.int n), .val (.int a), .val (.int b), .val (.int c), .val (.int d), .val (.int (4 : Int32)), .val (.int (drawF a)), .val (.int (drawF b)), .val (.int (drawF c)), .val (.int (drawF d)), .val (.ref a225), .val (.ref a246), .val (.int (1 : Int32))] [(.int (if okc (drawF c) then 1 else 0))]
        refine Go.if_ne (pc' := 147) W265 150 d_code_144 (by decide) rfl (fun (c266 : ¬ ((if okc (drawF c) then 1 else 0) = 0)) => ?_) (fun (c266 : (if okc (drawF c) then 1 else 0) = 0) => ?_)
        · refine Go.iload (pc' := 152) W265 d_code_150 rfl rfl ?_
          refine Go.iconst (pc' := 153) W265 (3 : Int32) d_code_152 (by decide) rfl ?_
          refine Go.icmp_le (pc' := 156) W265 167 d_code_153 (by decide) rfl (fun q => absurd (by decide) q) (fun _ => ?_)
          refine Go.iload (pc' := 158) W265 d_code_156 rfl rfl ?_
          refine Go.static (pc' := 161) W265 (rm_al G (drawF d)) (w_52 G) (w_53 G) (w_3 G) (w_54 G) (by decide) [] [] (σf := [(a225, c242)]) rfl rfl [(.int (drawF d))] [] rfl (lenOf pd_24 rfl) rfl rfl d_code_158 rfl (by first | exact Nat.le_of_ble_eq_true rfl | (simp; done) | (simp; omega) | omega) (by first | exact Nat.le_of_ble_eq_true rfl | (simp; done) | (simp; omega) | omega) (by first | exact Nat.le_of_ble_eq_true rfl | (simp; done) | (simp; omega) | omega) (by first | exact Nat.le_of_ble_eq_true rfl | (simp; done) | (simp; omega) | omega) ?_
          rintro _ _ _ T267 ⟨rfl, rfl, rfl⟩ W268
          replace W268 : Wk l Z EL1 ({ frames := 9, cells := 24, slots := 1152, locals := 208 } : Room) "com/example/grantline/grantline/server/OAuthErrorIsDescribablePinLaw" code 13 (some .boolean) "law" X [(a225, c242)] [(a246, c252), (b253, c254)] T267 4 (20) := W268
          show Go Z EL1 _ _ _ X T267 161 #[.val (.int n), .val (.int a), .val (.int b), .val (.int c), .val (.int d), .val (.int (4 : Int32)), .val (.int (drawF a)), .val (.int (drawF b)), .val (.int (drawF c)), .val (.int (drawF d)), .val (.ref a225), .val (.ref a246), .val (.int (1 : Int32))] [(.int (if okc (drawF d) then 1 else 0))]
          refine Go.if_ne (pc' := 164) W268 167 d_code_161 (by decide) rfl (fun (c269 : ¬ ((if okc (drawF d) then 1 else 0) = 0)) => ?_) (fun (c269 : (if okc (drawF d) then 1 else 0) = 0) => ?_)
          · refine Go.aload (pc' := 169) W268 d_code_167 rfl rfl rfl ?_
            refine Go.static (pc' := 172) W268 (rm_isd G a246 b253 c252 c254 _ S255 (by simp)) (w_27 G) (w_28 G) (w_29 G) (w_30 G) (by decide) [] [0, 1] (σf := [(a225, c242)]) rfl rfl [(.ref a246)] [] rfl (lenOf pd_23 rfl) rfl rfl d_code_169 rfl (by first | exact Nat.le_of_ble_eq_true rfl | (simp; done) | (simp; omega) | omega) (by first | exact Nat.le_of_ble_eq_true rfl | (simp; done) | (simp; omega) | omega) (by first | exact Nat.le_of_ble_eq_true rfl | (simp; done) | (simp; omega) | omega) (by first | exact Nat.le_of_ble_eq_true rfl | (simp; done) | (simp; omega) | omega) ?_
            rintro _ _ _ T270 ⟨rfl, rfl, rfl⟩ W271
            replace W271 : Wk l Z EL1 ({ frames := 9, cells := 24, slots := 1152, locals := 208 } : Room) "com/example/grantline/grantline/server/OAuthErrorIsDescribablePinLaw" code 13 (some .boolean) "law" X [(a225, c242)] [(a246, c252), (b253, c254)] T270 4 (20) := W271
            show Go Z EL1 _ _ _ X T270 172 #[.val (.int n), .val (.int a), .val (.int b), .val (.int c), .val (.int d), .val (.int (4 : Int32)), .val (.int (drawF a)), .val (.int (drawF b)), .val (.int (drawF c)), .val (.int (drawF d)), .val (.ref a225), .val (.ref a246), .val (.int (1 : Int32))] [(.int (if ∀ x ∈ ([drawF a, drawF b, drawF c, drawF d] : List Int32), okc x then 1 else 0))]
            refine Go.iload (pc' := 174) W271 d_code_172 rfl rfl ?_
            refine Go.icmp_ne (pc' := 177) W271 181 d_code_174 (by decide) rfl (fun (c272 : ¬ ((if ∀ x ∈ ([drawF a, drawF b, drawF c, drawF d] : List Int32), okc x then 1 else 0) = (1 : Int32))) => ?_) (fun (c272 : (if ∀ x ∈ ([drawF a, drawF b, drawF c, drawF d] : List Int32), okc x then 1 else 0) = (1 : Int32)) => ?_)
            · refine Go.iconst (pc' := 182) W271 (0 : Int32) d_code_181 (by decide) rfl ?_
              refine Go.nret (z' := (0 : Int32)) W271 (by simp) (by decide) d_code_182 (by first | exact Nat.le_of_ble_eq_true rfl | (simp; done) | (simp; omega) | omega) (by first | exact Nat.le_of_ble_eq_true rfl | (simp; done) | (simp; omega) | omega) ?_
              first | rfl | (exfalso; simp_all)
            · refine Go.iconst (pc' := 178) W271 (1 : Int32) d_code_177 (by decide) rfl ?_
              refine Go.goto W271 182 d_code_178 (by decide) ?_
              refine Go.nret (z' := (1 : Int32)) W271 (by simp) (by decide) d_code_182 (by first | exact Nat.le_of_ble_eq_true rfl | (simp; done) | (simp; omega) | omega) (by first | exact Nat.le_of_ble_eq_true rfl | (simp; done) | (simp; omega) | omega) ?_
              first | rfl | (exfalso; simp_all)
          · refine Go.iconst (pc' := 165) W268 (0 : Int32) d_code_164 (by decide) rfl ?_
            refine Go.istore (pc' := 167) W268 #[.val (.int n), .val (.int a), .val (.int b), .val (.int c), .val (.int d), .val (.int (4 : Int32)), .val (.int (drawF a)), .val (.int (drawF b)), .val (.int (drawF c)), .val (.int (drawF d)), .val (.ref a225), .val (.ref a246), .val (.int (0 : Int32))] d_code_165 rfl rfl ?_
            refine Go.aload (pc' := 169) W268 d_code_167 rfl rfl rfl ?_
            refine Go.static (pc' := 172) W268 (rm_isd G a246 b253 c252 c254 _ S255 (by simp)) (w_27 G) (w_28 G) (w_29 G) (w_30 G) (by decide) [] [0, 1] (σf := [(a225, c242)]) rfl rfl [(.ref a246)] [] rfl (lenOf pd_23 rfl) rfl rfl d_code_169 rfl (by first | exact Nat.le_of_ble_eq_true rfl | (simp; done) | (simp; omega) | omega) (by first | exact Nat.le_of_ble_eq_true rfl | (simp; done) | (simp; omega) | omega) (by first | exact Nat.le_of_ble_eq_true rfl | (simp; done) | (simp; omega) | omega) (by first | exact Nat.le_of_ble_eq_true rfl | (simp; done) | (simp; omega) | omega) ?_
            rintro _ _ _ T273 ⟨rfl, rfl, rfl⟩ W274
            replace W274 : Wk l Z EL1 ({ frames := 9, cells := 24, slots := 1152, locals := 208 } : Room) "com/example/grantline/grantline/server/OAuthErrorIsDescribablePinLaw" code 13 (some .boolean) "law" X [(a225, c242)] [(a246, c252), (b253, c254)] T273 4 (20) := W274
            show Go Z EL1 _ _ _ X T273 172 #[.val (.int n), .val (.int a), .val (.int b), .val (.int c), .val (.int d), .val (.int (4 : Int32)), .val (.int (drawF a)), .val (.int (drawF b)), .val (.int (drawF c)), .val (.int (drawF d)), .val (.ref a225), .val (.ref a246), .val (.int (0 : Int32))] [(.int (if ∀ x ∈ ([drawF a, drawF b, drawF c, drawF d] : List Int32), okc x then 1 else 0))]
            refine Go.iload (pc' := 174) W274 d_code_172 rfl rfl ?_
            refine Go.icmp_ne (pc' := 177) W274 181 d_code_174 (by decide) rfl (fun (c275 : ¬ ((if ∀ x ∈ ([drawF a, drawF b, drawF c, drawF d] : List Int32), okc x then 1 else 0) = (0 : Int32))) => ?_) (fun (c275 : (if ∀ x ∈ ([drawF a, drawF b, drawF c, drawF d] : List Int32), okc x then 1 else 0) = (0 : Int32)) => ?_)
            · refine Go.iconst (pc' := 182) W274 (0 : Int32) d_code_181 (by decide) rfl ?_
              refine Go.nret (z' := (0 : Int32)) W274 (by simp) (by decide) d_code_182 (by first | exact Nat.le_of_ble_eq_true rfl | (simp; done) | (simp; omega) | omega) (by first | exact Nat.le_of_ble_eq_true rfl | (simp; done) | (simp; omega) | omega) ?_
              first | rfl | (exfalso; simp_all)
            · refine Go.iconst (pc' := 178) W274 (1 : Int32) d_code_177 (by decide) rfl ?_
              refine Go.goto W274 182 d_code_178 (by decide) ?_
              refine Go.nret (z' := (1 : Int32)) W274 (by simp) (by decide) d_code_182 (by first | exact Nat.le_of_ble_eq_true rfl | (simp; done) | (simp; omega) | omega) (by first | exact Nat.le_of_ble_eq_true rfl | (simp; done) | (simp; omega) | omega) ?_
              first | rfl | (exfalso; simp_all)
        · refine Go.iconst (pc' := 148) W265 (0 : Int32) d_code_147 (by decide) rfl ?_
          refine Go.istore (pc' := 150) W265 #[.val (.int n), .val (.int a), .val (.int b), .val (.int c), .val (.int d), .val (.int (4 : Int32)), .val (.int (drawF a)), .val (.int (drawF b)), .val (.int (drawF c)), .val (.int (drawF d)), .val (.ref a225), .val (.ref a246), .val (.int (0 : Int32))] d_code_148 rfl rfl ?_
          refine Go.iload (pc' := 152) W265 d_code_150 rfl rfl ?_
          refine Go.iconst (pc' := 153) W265 (3 : Int32) d_code_152 (by decide) rfl ?_
          refine Go.icmp_le (pc' := 156) W265 167 d_code_153 (by decide) rfl (fun q => absurd (by decide) q) (fun _ => ?_)
          refine Go.iload (pc' := 158) W265 d_code_156 rfl rfl ?_
          refine Go.static (pc' := 161) W265 (rm_al G (drawF d)) (w_52 G) (w_53 G) (w_3 G) (w_54 G) (by decide) [] [] (σf := [(a225, c242)]) rfl rfl [(.int (drawF d))] [] rfl (lenOf pd_24 rfl) rfl rfl d_code_158 rfl (by first | exact Nat.le_of_ble_eq_true rfl | (simp; done) | (simp; omega) | omega) (by first | exact Nat.le_of_ble_eq_true rfl | (simp; done) | (simp; omega) | omega) (by first | exact Nat.le_of_ble_eq_true rfl | (simp; done) | (simp; omega) | omega) (by first | exact Nat.le_of_ble_eq_true rfl | (simp; done) | (simp; omega) | omega) ?_
          rintro _ _ _ T276 ⟨rfl, rfl, rfl⟩ W277
          replace W277 : Wk l Z EL1 ({ frames := 9, cells := 24, slots := 1152, locals := 208 } : Room) "com/example/grantline/grantline/server/OAuthErrorIsDescribablePinLaw" code 13 (some .boolean) "law" X [(a225, c242)] [(a246, c252), (b253, c254)] T276 4 (20) := W277
          show Go Z EL1 _ _ _ X T276 161 #[.val (.int n), .val (.int a), .val (.int b), .val (.int c), .val (.int d), .val (.int (4 : Int32)), .val (.int (drawF a)), .val (.int (drawF b)), .val (.int (drawF c)), .val (.int (drawF d)), .val (.ref a225), .val (.ref a246), .val (.int (0 : Int32))] [(.int (if okc (drawF d) then 1 else 0))]
          refine Go.if_ne (pc' := 164) W277 167 d_code_161 (by decide) rfl (fun (c278 : ¬ ((if okc (drawF d) then 1 else 0) = 0)) => ?_) (fun (c278 : (if okc (drawF d) then 1 else 0) = 0) => ?_)
          · refine Go.aload (pc' := 169) W277 d_code_167 rfl rfl rfl ?_
            refine Go.static (pc' := 172) W277 (rm_isd G a246 b253 c252 c254 _ S255 (by simp)) (w_27 G) (w_28 G) (w_29 G) (w_30 G) (by decide) [] [0, 1] (σf := [(a225, c242)]) rfl rfl [(.ref a246)] [] rfl (lenOf pd_23 rfl) rfl rfl d_code_169 rfl (by first | exact Nat.le_of_ble_eq_true rfl | (simp; done) | (simp; omega) | omega) (by first | exact Nat.le_of_ble_eq_true rfl | (simp; done) | (simp; omega) | omega) (by first | exact Nat.le_of_ble_eq_true rfl | (simp; done) | (simp; omega) | omega) (by first | exact Nat.le_of_ble_eq_true rfl | (simp; done) | (simp; omega) | omega) ?_
            rintro _ _ _ T279 ⟨rfl, rfl, rfl⟩ W280
            replace W280 : Wk l Z EL1 ({ frames := 9, cells := 24, slots := 1152, locals := 208 } : Room) "com/example/grantline/grantline/server/OAuthErrorIsDescribablePinLaw" code 13 (some .boolean) "law" X [(a225, c242)] [(a246, c252), (b253, c254)] T279 4 (20) := W280
            show Go Z EL1 _ _ _ X T279 172 #[.val (.int n), .val (.int a), .val (.int b), .val (.int c), .val (.int d), .val (.int (4 : Int32)), .val (.int (drawF a)), .val (.int (drawF b)), .val (.int (drawF c)), .val (.int (drawF d)), .val (.ref a225), .val (.ref a246), .val (.int (0 : Int32))] [(.int (if ∀ x ∈ ([drawF a, drawF b, drawF c, drawF d] : List Int32), okc x then 1 else 0))]
            refine Go.iload (pc' := 174) W280 d_code_172 rfl rfl ?_
            refine Go.icmp_ne (pc' := 177) W280 181 d_code_174 (by decide) rfl (fun (c281 : ¬ ((if ∀ x ∈ ([drawF a, drawF b, drawF c, drawF d] : List Int32), okc x then 1 else 0) = (0 : Int32))) => ?_) (fun (c281 : (if ∀ x ∈ ([drawF a, drawF b, drawF c, drawF d] : List Int32), okc x then 1 else 0) = (0 : Int32)) => ?_)
            · refine Go.iconst (pc' := 182) W280 (0 : Int32) d_code_181 (by decide) rfl ?_
              refine Go.nret (z' := (0 : Int32)) W280 (by simp) (by decide) d_code_182 (by first | exact Nat.le_of_ble_eq_true rfl | (simp; done) | (simp; omega) | omega) (by first | exact Nat.le_of_ble_eq_true rfl | (simp; done) | (simp; omega) | omega) ?_
              first | rfl | (exfalso; simp_all)
            · refine Go.iconst (pc' := 178) W280 (1 : Int32) d_code_177 (by decide) rfl ?_
              refine Go.goto W280 182 d_code_178 (by decide) ?_
              refine Go.nret (z' := (1 : Int32)) W280 (by simp) (by decide) d_code_182 (by first | exact Nat.le_of_ble_eq_true rfl | (simp; done) | (simp; omega) | omega) (by first | exact Nat.le_of_ble_eq_true rfl | (simp; done) | (simp; omega) | omega) ?_
              first | rfl | (exfalso; simp_all)
          · refine Go.iconst (pc' := 165) W277 (0 : Int32) d_code_164 (by decide) rfl ?_
            refine Go.istore (pc' := 167) W277 #[.val (.int n), .val (.int a), .val (.int b), .val (.int c), .val (.int d), .val (.int (4 : Int32)), .val (.int (drawF a)), .val (.int (drawF b)), .val (.int (drawF c)), .val (.int (drawF d)), .val (.ref a225), .val (.ref a246), .val (.int (0 : Int32))] d_code_165 rfl rfl ?_
            refine Go.aload (pc' := 169) W277 d_code_167 rfl rfl rfl ?_
            refine Go.static (pc' := 172) W277 (rm_isd G a246 b253 c252 c254 _ S255 (by simp)) (w_27 G) (w_28 G) (w_29 G) (w_30 G) (by decide) [] [0, 1] (σf := [(a225, c242)]) rfl rfl [(.ref a246)] [] rfl (lenOf pd_23 rfl) rfl rfl d_code_169 rfl (by first | exact Nat.le_of_ble_eq_true rfl | (simp; done) | (simp; omega) | omega) (by first | exact Nat.le_of_ble_eq_true rfl | (simp; done) | (simp; omega) | omega) (by first | exact Nat.le_of_ble_eq_true rfl | (simp; done) | (simp; omega) | omega) (by first | exact Nat.le_of_ble_eq_true rfl | (simp; done) | (simp; omega) | omega) ?_
            rintro _ _ _ T282 ⟨rfl, rfl, rfl⟩ W283
            replace W283 : Wk l Z EL1 ({ frames := 9, cells := 24, slots := 1152, locals := 208 } : Room) "com/example/grantline/grantline/server/OAuthErrorIsDescribablePinLaw" code 13 (some .boolean) "law" X [(a225, c242)] [(a246, c252), (b253, c254)] T282 4 (20) := W283
            show Go Z EL1 _ _ _ X T282 172 #[.val (.int n), .val (.int a), .val (.int b), .val (.int c), .val (.int d), .val (.int (4 : Int32)), .val (.int (drawF a)), .val (.int (drawF b)), .val (.int (drawF c)), .val (.int (drawF d)), .val (.ref a225), .val (.ref a246), .val (.int (0 : Int32))] [(.int (if ∀ x ∈ ([drawF a, drawF b, drawF c, drawF d] : List Int32), okc x then 1 else 0))]
            refine Go.iload (pc' := 174) W283 d_code_172 rfl rfl ?_
            refine Go.icmp_ne (pc' := 177) W283 181 d_code_174 (by decide) rfl (fun (c284 : ¬ ((if ∀ x ∈ ([drawF a, drawF b, drawF c, drawF d] : List Int32), okc x then 1 else 0) = (0 : Int32))) => ?_) (fun (c284 : (if ∀ x ∈ ([drawF a, drawF b, drawF c, drawF d] : List Int32), okc x then 1 else 0) = (0 : Int32)) => ?_)
            · refine Go.iconst (pc' := 182) W283 (0 : Int32) d_code_181 (by decide) rfl ?_
              refine Go.nret (z' := (0 : Int32)) W283 (by simp) (by decide) d_code_182 (by first | exact Nat.le_of_ble_eq_true rfl | (simp; done) | (simp; omega) | omega) (by first | exact Nat.le_of_ble_eq_true rfl | (simp; done) | (simp; omega) | omega) ?_
              first | rfl | (exfalso; simp_all)
            · refine Go.iconst (pc' := 178) W283 (1 : Int32) d_code_177 (by decide) rfl ?_
              refine Go.goto W283 182 d_code_178 (by decide) ?_
              refine Go.nret (z' := (1 : Int32)) W283 (by simp) (by decide) d_code_182 (by first | exact Nat.le_of_ble_eq_true rfl | (simp; done) | (simp; omega) | omega) (by first | exact Nat.le_of_ble_eq_true rfl | (simp; done) | (simp; omega) | omega) ?_
              first | rfl | (exfalso; simp_all)
      · refine Go.iconst (pc' := 131) W262 (0 : Int32) d_code_130 (by decide) rfl ?_
        refine Go.istore (pc' := 133) W262 #[.val (.int n), .val (.int a), .val (.int b), .val (.int c), .val (.int d), .val (.int (4 : Int32)), .val (.int (drawF a)), .val (.int (drawF b)), .val (.int (drawF c)), .val (.int (drawF d)), .val (.ref a225), .val (.ref a246), .val (.int (0 : Int32))] d_code_131 rfl rfl ?_
        refine Go.iload (pc' := 135) W262 d_code_133 rfl rfl ?_
        refine Go.iconst (pc' := 136) W262 (2 : Int32) d_code_135 (by decide) rfl ?_
        refine Go.icmp_le (pc' := 139) W262 150 d_code_136 (by decide) rfl (fun q => absurd (by decide) q) (fun _ => ?_)
        refine Go.iload (pc' := 141) W262 d_code_139 rfl rfl ?_
        refine Go.static (pc' := 144) W262 (rm_al G (drawF c)) (w_52 G) (w_53 G) (w_3 G) (w_54 G) (by decide) [] [] (σf := [(a225, c242)]) rfl rfl [(.int (drawF c))] [] rfl (lenOf pd_24 rfl) rfl rfl d_code_141 rfl (by first | exact Nat.le_of_ble_eq_true rfl | (simp; done) | (simp; omega) | omega) (by first | exact Nat.le_of_ble_eq_true rfl | (simp; done) | (simp; omega) | omega) (by first | exact Nat.le_of_ble_eq_true rfl | (simp; done) | (simp; omega) | omega) (by first | exact Nat.le_of_ble_eq_true rfl | (simp; done) | (simp; omega) | omega) ?_
        rintro _ _ _ T285 ⟨rfl, rfl, rfl⟩ W286
        replace W286 : Wk l Z EL1 ({ frames := 9, cells := 24, slots := 1152, locals := 208 } : Room) "com/example/grantline/grantline/server/OAuthErrorIsDescribablePinLaw" code 13 (some .boolean) "law" X [(a225, c242)] [(a246, c252), (b253, c254)] T285 4 (20) := W286
        show Go Z EL1 _ _ _ X T285 144 #[.val (.int n), .val (.int a), .val (.int b), .val (.int c), .val (.int d), .val (.int (4 : Int32)), .val (.int (drawF a)), .val (.int (drawF b)), .val (.int (drawF c)), .val (.int (drawF d)), .val (.ref a225), .val (.ref a246), .val (.int (0 : Int32))] [(.int (if okc (drawF c) then 1 else 0))]
        refine Go.if_ne (pc' := 147) W286 150 d_code_144 (by decide) rfl (fun (c287 : ¬ ((if okc (drawF c) then 1 else 0) = 0)) => ?_) (fun (c287 : (if okc (drawF c) then 1 else 0) = 0) => ?_)
        · refine Go.iload (pc' := 152) W286 d_code_150 rfl rfl ?_
          refine Go.iconst (pc' := 153) W286 (3 : Int32) d_code_152 (by decide) rfl ?_
          refine Go.icmp_le (pc' := 156) W286 167 d_code_153 (by decide) rfl (fun q => absurd (by decide) q) (fun _ => ?_)
          refine Go.iload (pc' := 158) W286 d_code_156 rfl rfl ?_
          refine Go.static (pc' := 161) W286 (rm_al G (drawF d)) (w_52 G) (w_53 G) (w_3 G) (w_54 G) (by decide) [] [] (σf := [(a225, c242)]) rfl rfl [(.int (drawF d))] [] rfl (lenOf pd_24 rfl) rfl rfl d_code_158 rfl (by first | exact Nat.le_of_ble_eq_true rfl | (simp; done) | (simp; omega) | omega) (by first | exact Nat.le_of_ble_eq_true rfl | (simp; done) | (simp; omega) | omega) (by first | exact Nat.le_of_ble_eq_true rfl | (simp; done) | (simp; omega) | omega) (by first | exact Nat.le_of_ble_eq_true rfl | (simp; done) | (simp; omega) | omega) ?_
          rintro _ _ _ T288 ⟨rfl, rfl, rfl⟩ W289
          replace W289 : Wk l Z EL1 ({ frames := 9, cells := 24, slots := 1152, locals := 208 } : Room) "com/example/grantline/grantline/server/OAuthErrorIsDescribablePinLaw" code 13 (some .boolean) "law" X [(a225, c242)] [(a246, c252), (b253, c254)] T288 4 (20) := W289
          show Go Z EL1 _ _ _ X T288 161 #[.val (.int n), .val (.int a), .val (.int b), .val (.int c), .val (.int d), .val (.int (4 : Int32)), .val (.int (drawF a)), .val (.int (drawF b)), .val (.int (drawF c)), .val (.int (drawF d)), .val (.ref a225), .val (.ref a246), .val (.int (0 : Int32))] [(.int (if okc (drawF d) then 1 else 0))]
          refine Go.if_ne (pc' := 164) W289 167 d_code_161 (by decide) rfl (fun (c290 : ¬ ((if okc (drawF d) then 1 else 0) = 0)) => ?_) (fun (c290 : (if okc (drawF d) then 1 else 0) = 0) => ?_)
          · refine Go.aload (pc' := 169) W289 d_code_167 rfl rfl rfl ?_
            refine Go.static (pc' := 172) W289 (rm_isd G a246 b253 c252 c254 _ S255 (by simp)) (w_27 G) (w_28 G) (w_29 G) (w_30 G) (by decide) [] [0, 1] (σf := [(a225, c242)]) rfl rfl [(.ref a246)] [] rfl (lenOf pd_23 rfl) rfl rfl d_code_169 rfl (by first | exact Nat.le_of_ble_eq_true rfl | (simp; done) | (simp; omega) | omega) (by first | exact Nat.le_of_ble_eq_true rfl | (simp; done) | (simp; omega) | omega) (by first | exact Nat.le_of_ble_eq_true rfl | (simp; done) | (simp; omega) | omega) (by first | exact Nat.le_of_ble_eq_true rfl | (simp; done) | (simp; omega) | omega) ?_
            rintro _ _ _ T291 ⟨rfl, rfl, rfl⟩ W292
            replace W292 : Wk l Z EL1 ({ frames := 9, cells := 24, slots := 1152, locals := 208 } : Room) "com/example/grantline/grantline/server/OAuthErrorIsDescribablePinLaw" code 13 (some .boolean) "law" X [(a225, c242)] [(a246, c252), (b253, c254)] T291 4 (20) := W292
            show Go Z EL1 _ _ _ X T291 172 #[.val (.int n), .val (.int a), .val (.int b), .val (.int c), .val (.int d), .val (.int (4 : Int32)), .val (.int (drawF a)), .val (.int (drawF b)), .val (.int (drawF c)), .val (.int (drawF d)), .val (.ref a225), .val (.ref a246), .val (.int (0 : Int32))] [(.int (if ∀ x ∈ ([drawF a, drawF b, drawF c, drawF d] : List Int32), okc x then 1 else 0))]
            refine Go.iload (pc' := 174) W292 d_code_172 rfl rfl ?_
            refine Go.icmp_ne (pc' := 177) W292 181 d_code_174 (by decide) rfl (fun (c293 : ¬ ((if ∀ x ∈ ([drawF a, drawF b, drawF c, drawF d] : List Int32), okc x then 1 else 0) = (0 : Int32))) => ?_) (fun (c293 : (if ∀ x ∈ ([drawF a, drawF b, drawF c, drawF d] : List Int32), okc x then 1 else 0) = (0 : Int32)) => ?_)
            · refine Go.iconst (pc' := 182) W292 (0 : Int32) d_code_181 (by decide) rfl ?_
              refine Go.nret (z' := (0 : Int32)) W292 (by simp) (by decide) d_code_182 (by first | exact Nat.le_of_ble_eq_true rfl | (simp; done) | (simp; omega) | omega) (by first | exact Nat.le_of_ble_eq_true rfl | (simp; done) | (simp; omega) | omega) ?_
              first | rfl | (exfalso; simp_all)
            · refine Go.iconst (pc' := 178) W292 (1 : Int32) d_code_177 (by decide) rfl ?_
              refine Go.goto W292 182 d_code_178 (by decide) ?_
              refine Go.nret (z' := (1 : Int32)) W292 (by simp) (by decide) d_code_182 (by first | exact Nat.le_of_ble_eq_true rfl | (simp; done) | (simp; omega) | omega) (by first | exact Nat.le_of_ble_eq_true rfl | (simp; done) | (simp; omega) | omega) ?_
              first | rfl | (exfalso; simp_all)
          · refine Go.iconst (pc' := 165) W289 (0 : Int32) d_code_164 (by decide) rfl ?_
            refine Go.istore (pc' := 167) W289 #[.val (.int n), .val (.int a), .val (.int b), .val (.int c), .val (.int d), .val (.int (4 : Int32)), .val (.int (drawF a)), .val (.int (drawF b)), .val (.int (drawF c)), .val (.int (drawF d)), .val (.ref a225), .val (.ref a246), .val (.int (0 : Int32))] d_code_165 rfl rfl ?_
            refine Go.aload (pc' := 169) W289 d_code_167 rfl rfl rfl ?_
            refine Go.static (pc' := 172) W289 (rm_isd G a246 b253 c252 c254 _ S255 (by simp)) (w_27 G) (w_28 G) (w_29 G) (w_30 G) (by decide) [] [0, 1] (σf := [(a225, c242)]) rfl rfl [(.ref a246)] [] rfl (lenOf pd_23 rfl) rfl rfl d_code_169 rfl (by first | exact Nat.le_of_ble_eq_true rfl | (simp; done) | (simp; omega) | omega) (by first | exact Nat.le_of_ble_eq_true rfl | (simp; done) | (simp; omega) | omega) (by first | exact Nat.le_of_ble_eq_true rfl | (simp; done) | (simp; omega) | omega) (by first | exact Nat.le_of_ble_eq_true rfl | (simp; done) | (simp; omega) | omega) ?_
            rintro _ _ _ T294 ⟨rfl, rfl, rfl⟩ W295
            replace W295 : Wk l Z EL1 ({ frames := 9, cells := 24, slots := 1152, locals := 208 } : Room) "com/example/grantline/grantline/server/OAuthErrorIsDescribablePinLaw" code 13 (some .boolean) "law" X [(a225, c242)] [(a246, c252), (b253, c254)] T294 4 (20) := W295
            show Go Z EL1 _ _ _ X T294 172 #[.val (.int n), .val (.int a), .val (.int b), .val (.int c), .val (.int d), .val (.int (4 : Int32)), .val (.int (drawF a)), .val (.int (drawF b)), .val (.int (drawF c)), .val (.int (drawF d)), .val (.ref a225), .val (.ref a246), .val (.int (0 : Int32))] [(.int (if ∀ x ∈ ([drawF a, drawF b, drawF c, drawF d] : List Int32), okc x then 1 else 0))]
            refine Go.iload (pc' := 174) W295 d_code_172 rfl rfl ?_
            refine Go.icmp_ne (pc' := 177) W295 181 d_code_174 (by decide) rfl (fun (c296 : ¬ ((if ∀ x ∈ ([drawF a, drawF b, drawF c, drawF d] : List Int32), okc x then 1 else 0) = (0 : Int32))) => ?_) (fun (c296 : (if ∀ x ∈ ([drawF a, drawF b, drawF c, drawF d] : List Int32), okc x then 1 else 0) = (0 : Int32)) => ?_)
            · refine Go.iconst (pc' := 182) W295 (0 : Int32) d_code_181 (by decide) rfl ?_
              refine Go.nret (z' := (0 : Int32)) W295 (by simp) (by decide) d_code_182 (by first | exact Nat.le_of_ble_eq_true rfl | (simp; done) | (simp; omega) | omega) (by first | exact Nat.le_of_ble_eq_true rfl | (simp; done) | (simp; omega) | omega) ?_
              first | rfl | (exfalso; simp_all)
            · refine Go.iconst (pc' := 178) W295 (1 : Int32) d_code_177 (by decide) rfl ?_
              refine Go.goto W295 182 d_code_178 (by decide) ?_
              refine Go.nret (z' := (1 : Int32)) W295 (by simp) (by decide) d_code_182 (by first | exact Nat.le_of_ble_eq_true rfl | (simp; done) | (simp; omega) | omega) (by first | exact Nat.le_of_ble_eq_true rfl | (simp; done) | (simp; omega) | omega) ?_
              first | rfl | (exfalso; simp_all)
        · refine Go.iconst (pc' := 148) W286 (0 : Int32) d_code_147 (by decide) rfl ?_
          refine Go.istore (pc' := 150) W286 #[.val (.int n), .val (.int a), .val (.int b), .val (.int c), .val (.int d), .val (.int (4 : Int32)), .val (.int (drawF a)), .val (.int (drawF b)), .val (.int (drawF c)), .val (.int (drawF d)), .val (.ref a225), .val (.ref a246), .val (.int (0 : Int32))] d_code_148 rfl rfl ?_
          refine Go.iload (pc' := 152) W286 d_code_150 rfl rfl ?_
          refine Go.iconst (pc' := 153) W286 (3 : Int32) d_code_152 (by decide) rfl ?_
          refine Go.icmp_le (pc' := 156) W286 167 d_code_153 (by decide) rfl (fun q => absurd (by decide) q) (fun _ => ?_)
          refine Go.iload (pc' := 158) W286 d_code_156 rfl rfl ?_
          refine Go.static (pc' := 161) W286 (rm_al G (drawF d)) (w_52 G) (w_53 G) (w_3 G) (w_54 G) (by decide) [] [] (σf := [(a225, c242)]) rfl rfl [(.int (drawF d))] [] rfl (lenOf pd_24 rfl) rfl rfl d_code_158 rfl (by first | exact Nat.le_of_ble_eq_true rfl | (simp; done) | (simp; omega) | omega) (by first | exact Nat.le_of_ble_eq_true rfl | (simp; done) | (simp; omega) | omega) (by first | exact Nat.le_of_ble_eq_true rfl | (simp; done) | (simp; omega) | omega) (by first | exact Nat.le_of_ble_eq_true rfl | (simp; done) | (simp; omega) | omega) ?_
          rintro _ _ _ T297 ⟨rfl, rfl, rfl⟩ W298
          replace W298 : Wk l Z EL1 ({ frames := 9, cells := 24, slots := 1152, locals := 208 } : Room) "com/example/grantline/grantline/server/OAuthErrorIsDescribablePinLaw" code 13 (some .boolean) "law" X [(a225, c242)] [(a246, c252), (b253, c254)] T297 4 (20) := W298
          show Go Z EL1 _ _ _ X T297 161 #[.val (.int n), .val (.int a), .val (.int b), .val (.int c), .val (.int d), .val (.int (4 : Int32)), .val (.int (drawF a)), .val (.int (drawF b)), .val (.int (drawF c)), .val (.int (drawF d)), .val (.ref a225), .val (.ref a246), .val (.int (0 : Int32))] [(.int (if okc (drawF d) then 1 else 0))]
          refine Go.if_ne (pc' := 164) W298 167 d_code_161 (by decide) rfl (fun (c299 : ¬ ((if okc (drawF d) then 1 else 0) = 0)) => ?_) (fun (c299 : (if okc (drawF d) then 1 else 0) = 0) => ?_)
          · refine Go.aload (pc' := 169) W298 d_code_167 rfl rfl rfl ?_
            refine Go.static (pc' := 172) W298 (rm_isd G a246 b253 c252 c254 _ S255 (by simp)) (w_27 G) (w_28 G) (w_29 G) (w_30 G) (by decide) [] [0, 1] (σf := [(a225, c242)]) rfl rfl [(.ref a246)] [] rfl (lenOf pd_23 rfl) rfl rfl d_code_169 rfl (by first | exact Nat.le_of_ble_eq_true rfl | (simp; done) | (simp; omega) | omega) (by first | exact Nat.le_of_ble_eq_true rfl | (simp; done) | (simp; omega) | omega) (by first | exact Nat.le_of_ble_eq_true rfl | (simp; done) | (simp; omega) | omega) (by first | exact Nat.le_of_ble_eq_true rfl | (simp; done) | (simp; omega) | omega) ?_
            rintro _ _ _ T300 ⟨rfl, rfl, rfl⟩ W301
            replace W301 : Wk l Z EL1 ({ frames := 9, cells := 24, slots := 1152, locals := 208 } : Room) "com/example/grantline/grantline/server/OAuthErrorIsDescribablePinLaw" code 13 (some .boolean) "law" X [(a225, c242)] [(a246, c252), (b253, c254)] T300 4 (20) := W301
            show Go Z EL1 _ _ _ X T300 172 #[.val (.int n), .val (.int a), .val (.int b), .val (.int c), .val (.int d), .val (.int (4 : Int32)), .val (.int (drawF a)), .val (.int (drawF b)), .val (.int (drawF c)), .val (.int (drawF d)), .val (.ref a225), .val (.ref a246), .val (.int (0 : Int32))] [(.int (if ∀ x ∈ ([drawF a, drawF b, drawF c, drawF d] : List Int32), okc x then 1 else 0))]
            refine Go.iload (pc' := 174) W301 d_code_172 rfl rfl ?_
            refine Go.icmp_ne (pc' := 177) W301 181 d_code_174 (by decide) rfl (fun (c302 : ¬ ((if ∀ x ∈ ([drawF a, drawF b, drawF c, drawF d] : List Int32), okc x then 1 else 0) = (0 : Int32))) => ?_) (fun (c302 : (if ∀ x ∈ ([drawF a, drawF b, drawF c, drawF d] : List Int32), okc x then 1 else 0) = (0 : Int32)) => ?_)
            · refine Go.iconst (pc' := 182) W301 (0 : Int32) d_code_181 (by decide) rfl ?_
              refine Go.nret (z' := (0 : Int32)) W301 (by simp) (by decide) d_code_182 (by first | exact Nat.le_of_ble_eq_true rfl | (simp; done) | (simp; omega) | omega) (by first | exact Nat.le_of_ble_eq_true rfl | (simp; done) | (simp; omega) | omega) ?_
              first | rfl | (exfalso; simp_all)
            · refine Go.iconst (pc' := 178) W301 (1 : Int32) d_code_177 (by decide) rfl ?_
              refine Go.goto W301 182 d_code_178 (by decide) ?_
              refine Go.nret (z' := (1 : Int32)) W301 (by simp) (by decide) d_code_182 (by first | exact Nat.le_of_ble_eq_true rfl | (simp; done) | (simp; omega) | omega) (by first | exact Nat.le_of_ble_eq_true rfl | (simp; done) | (simp; omega) | omega) ?_
              first | rfl | (exfalso; simp_all)
          · refine Go.iconst (pc' := 165) W298 (0 : Int32) d_code_164 (by decide) rfl ?_
            refine Go.istore (pc' := 167) W298 #[.val (.int n), .val (.int a), .val (.int b), .val (.int c), .val (.int d), .val (.int (4 : Int32)), .val (.int (drawF a)), .val (.int (drawF b)), .val (.int (drawF c)), .val (.int (drawF d)), .val (.ref a225), .val (.ref a246), .val (.int (0 : Int32))] d_code_165 rfl rfl ?_
            refine Go.aload (pc' := 169) W298 d_code_167 rfl rfl rfl ?_
            refine Go.static (pc' := 172) W298 (rm_isd G a246 b253 c252 c254 _ S255 (by simp)) (w_27 G) (w_28 G) (w_29 G) (w_30 G) (by decide) [] [0, 1] (σf := [(a225, c242)]) rfl rfl [(.ref a246)] [] rfl (lenOf pd_23 rfl) rfl rfl d_code_169 rfl (by first | exact Nat.le_of_ble_eq_true rfl | (simp; done) | (simp; omega) | omega) (by first | exact Nat.le_of_ble_eq_true rfl | (simp; done) | (simp; omega) | omega) (by first | exact Nat.le_of_ble_eq_true rfl | (simp; done) | (simp; omega) | omega) (by first | exact Nat.le_of_ble_eq_true rfl | (simp; done) | (simp; omega) | omega) ?_
            rintro _ _ _ T303 ⟨rfl, rfl, rfl⟩ W304
            replace W304 : Wk l Z EL1 ({ frames := 9, cells := 24, slots := 1152, locals := 208 } : Room) "com/example/grantline/grantline/server/OAuthErrorIsDescribablePinLaw" code 13 (some .boolean) "law" X [(a225, c242)] [(a246, c252), (b253, c254)] T303 4 (20) := W304
            show Go Z EL1 _ _ _ X T303 172 #[.val (.int n), .val (.int a), .val (.int b), .val (.int c), .val (.int d), .val (.int (4 : Int32)), .val (.int (drawF a)), .val (.int (drawF b)), .val (.int (drawF c)), .val (.int (drawF d)), .val (.ref a225), .val (.ref a246), .val (.int (0 : Int32))] [(.int (if ∀ x ∈ ([drawF a, drawF b, drawF c, drawF d] : List Int32), okc x then 1 else 0))]
            refine Go.iload (pc' := 174) W304 d_code_172 rfl rfl ?_
            refine Go.icmp_ne (pc' := 177) W304 181 d_code_174 (by decide) rfl (fun (c305 : ¬ ((if ∀ x ∈ ([drawF a, drawF b, drawF c, drawF d] : List Int32), okc x then 1 else 0) = (0 : Int32))) => ?_) (fun (c305 : (if ∀ x ∈ ([drawF a, drawF b, drawF c, drawF d] : List Int32), okc x then 1 else 0) = (0 : Int32)) => ?_)
            · refine Go.iconst (pc' := 182) W304 (0 : Int32) d_code_181 (by decide) rfl ?_
              refine Go.nret (z' := (0 : Int32)) W304 (by simp) (by decide) d_code_182 (by first | exact Nat.le_of_ble_eq_true rfl | (simp; done) | (simp; omega) | omega) (by first | exact Nat.le_of_ble_eq_true rfl | (simp; done) | (simp; omega) | omega) ?_
              first | rfl | (exfalso; simp_all)
            · refine Go.iconst (pc' := 178) W304 (1 : Int32) d_code_177 (by decide) rfl ?_
              refine Go.goto W304 182 d_code_178 (by decide) ?_
              refine Go.nret (z' := (1 : Int32)) W304 (by simp) (by decide) d_code_182 (by first | exact Nat.le_of_ble_eq_true rfl | (simp; done) | (simp; omega) | omega) (by first | exact Nat.le_of_ble_eq_true rfl | (simp; done) | (simp; omega) | omega) ?_
              first | rfl | (exfalso; simp_all)
    · refine Go.iconst (pc' := 114) W259 (0 : Int32) d_code_113 (by decide) rfl ?_
      refine Go.istore (pc' := 116) W259 #[.val (.int n), .val (.int a), .val (.int b), .val (.int c), .val (.int d), .val (.int (4 : Int32)), .val (.int (drawF a)), .val (.int (drawF b)), .val (.int (drawF c)), .val (.int (drawF d)), .val (.ref a225), .val (.ref a246), .val (.int (0 : Int32))] d_code_114 rfl rfl ?_
      refine Go.iload (pc' := 118) W259 d_code_116 rfl rfl ?_
      refine Go.iconst (pc' := 119) W259 (1 : Int32) d_code_118 (by decide) rfl ?_
      refine Go.icmp_le (pc' := 122) W259 133 d_code_119 (by decide) rfl (fun q => absurd (by decide) q) (fun _ => ?_)
      refine Go.iload (pc' := 124) W259 d_code_122 rfl rfl ?_
      refine Go.static (pc' := 127) W259 (rm_al G (drawF b)) (w_52 G) (w_53 G) (w_3 G) (w_54 G) (by decide) [] [] (σf := [(a225, c242)]) rfl rfl [(.int (drawF b))] [] rfl (lenOf pd_24 rfl) rfl rfl d_code_124 rfl (by first | exact Nat.le_of_ble_eq_true rfl | (simp; done) | (simp; omega) | omega) (by first | exact Nat.le_of_ble_eq_true rfl | (simp; done) | (simp; omega) | omega) (by first | exact Nat.le_of_ble_eq_true rfl | (simp; done) | (simp; omega) | omega) (by first | exact Nat.le_of_ble_eq_true rfl | (simp; done) | (simp; omega) | omega) ?_
      rintro _ _ _ T306 ⟨rfl, rfl, rfl⟩ W307
      replace W307 : Wk l Z EL1 ({ frames := 9, cells := 24, slots := 1152, locals := 208 } : Room) "com/example/grantline/grantline/server/OAuthErrorIsDescribablePinLaw" code 13 (some .boolean) "law" X [(a225, c242)] [(a246, c252), (b253, c254)] T306 4 (20) := W307
      show Go Z EL1 _ _ _ X T306 127 #[.val (.int n), .val (.int a), .val (.int b), .val (.int c), .val (.int d), .val (.int (4 : Int32)), .val (.int (drawF a)), .val (.int (drawF b)), .val (.int (drawF c)), .val (.int (drawF d)), .val (.ref a225), .val (.ref a246), .val (.int (0 : Int32))] [(.int (if okc (drawF b) then 1 else 0))]
      refine Go.if_ne (pc' := 130) W307 133 d_code_127 (by decide) rfl (fun (c308 : ¬ ((if okc (drawF b) then 1 else 0) = 0)) => ?_) (fun (c308 : (if okc (drawF b) then 1 else 0) = 0) => ?_)
      · refine Go.iload (pc' := 135) W307 d_code_133 rfl rfl ?_
        refine Go.iconst (pc' := 136) W307 (2 : Int32) d_code_135 (by decide) rfl ?_
        refine Go.icmp_le (pc' := 139) W307 150 d_code_136 (by decide) rfl (fun q => absurd (by decide) q) (fun _ => ?_)
        refine Go.iload (pc' := 141) W307 d_code_139 rfl rfl ?_
        refine Go.static (pc' := 144) W307 (rm_al G (drawF c)) (w_52 G) (w_53 G) (w_3 G) (w_54 G) (by decide) [] [] (σf := [(a225, c242)]) rfl rfl [(.int (drawF c))] [] rfl (lenOf pd_24 rfl) rfl rfl d_code_141 rfl (by first | exact Nat.le_of_ble_eq_true rfl | (simp; done) | (simp; omega) | omega) (by first | exact Nat.le_of_ble_eq_true rfl | (simp; done) | (simp; omega) | omega) (by first | exact Nat.le_of_ble_eq_true rfl | (simp; done) | (simp; omega) | omega) (by first | exact Nat.le_of_ble_eq_true rfl | (simp; done) | (simp; omega) | omega) ?_
        rintro _ _ _ T309 ⟨rfl, rfl, rfl⟩ W310
        replace W310 : Wk l Z EL1 ({ frames := 9, cells := 24, slots := 1152, locals := 208 } : Room) "com/example/grantline/grantline/server/OAuthErrorIsDescribablePinLaw" code 13 (some .boolean) "law" X [(a225, c242)] [(a246, c252), (b253, c254)] T309 4 (20) := W310
        show Go Z EL1 _ _ _ X T309 144 #[.val (.int n), .val (.int a), .val (.int b), .val (.int c), .val (.int d), .val (.int (4 : Int32)), .val (.int (drawF a)), .val (.int (drawF b)), .val (.int (drawF c)), .val (.int (drawF d)), .val (.ref a225), .val (.ref a246), .val (.int (0 : Int32))] [(.int (if okc (drawF c) then 1 else 0))]
        refine Go.if_ne (pc' := 147) W310 150 d_code_144 (by decide) rfl (fun (c311 : ¬ ((if okc (drawF c) then 1 else 0) = 0)) => ?_) (fun (c311 : (if okc (drawF c) then 1 else 0) = 0) => ?_)
        · refine Go.iload (pc' := 152) W310 d_code_150 rfl rfl ?_
          refine Go.iconst (pc' := 153) W310 (3 : Int32) d_code_152 (by decide) rfl ?_
          refine Go.icmp_le (pc' := 156) W310 167 d_code_153 (by decide) rfl (fun q => absurd (by decide) q) (fun _ => ?_)
          refine Go.iload (pc' := 158) W310 d_code_156 rfl rfl ?_
          refine Go.static (pc' := 161) W310 (rm_al G (drawF d)) (w_52 G) (w_53 G) (w_3 G) (w_54 G) (by decide) [] [] (σf := [(a225, c242)]) rfl rfl [(.int (drawF d))] [] rfl (lenOf pd_24 rfl) rfl rfl d_code_158 rfl (by first | exact Nat.le_of_ble_eq_true rfl | (simp; done) | (simp; omega) | omega) (by first | exact Nat.le_of_ble_eq_true rfl | (simp; done) | (simp; omega) | omega) (by first | exact Nat.le_of_ble_eq_true rfl | (simp; done) | (simp; omega) | omega) (by first | exact Nat.le_of_ble_eq_true rfl | (simp; done) | (simp; omega) | omega) ?_
          rintro _ _ _ T312 ⟨rfl, rfl, rfl⟩ W313
          replace W313 : Wk l Z EL1 ({ frames := 9, cells := 24, slots := 1152, locals := 208 } : Room) "com/example/grantline/grantline/server/OAuthErrorIsDescribablePinLaw" code 13 (some .boolean) "law" X [(a225, c242)] [(a246, c252), (b253, c254)] T312 4 (20) := W313
          show Go Z EL1 _ _ _ X T312 161 #[.val (.int n), .val (.int a), .val (.int b), .val (.int c), .val (.int d), .val (.int (4 : Int32)), .val (.int (drawF a)), .val (.int (drawF b)), .val (.int (drawF c)), .val (.int (drawF d)), .val (.ref a225), .val (.ref a246), .val (.int (0 : Int32))] [(.int (if okc (drawF d) then 1 else 0))]
          refine Go.if_ne (pc' := 164) W313 167 d_code_161 (by decide) rfl (fun (c314 : ¬ ((if okc (drawF d) then 1 else 0) = 0)) => ?_) (fun (c314 : (if okc (drawF d) then 1 else 0) = 0) => ?_)
          · refine Go.aload (pc' := 169) W313 d_code_167 rfl rfl rfl ?_
            refine Go.static (pc' := 172) W313 (rm_isd G a246 b253 c252 c254 _ S255 (by simp)) (w_27 G) (w_28 G) (w_29 G) (w_30 G) (by decide) [] [0, 1] (σf := [(a225, c242)]) rfl rfl [(.ref a246)] [] rfl (lenOf pd_23 rfl) rfl rfl d_code_169 rfl (by first | exact Nat.le_of_ble_eq_true rfl | (simp; done) | (simp; omega) | omega) (by first | exact Nat.le_of_ble_eq_true rfl | (simp; done) | (simp; omega) | omega) (by first | exact Nat.le_of_ble_eq_true rfl | (simp; done) | (simp; omega) | omega) (by first | exact Nat.le_of_ble_eq_true rfl | (simp; done) | (simp; omega) | omega) ?_
            rintro _ _ _ T315 ⟨rfl, rfl, rfl⟩ W316
            replace W316 : Wk l Z EL1 ({ frames := 9, cells := 24, slots := 1152, locals := 208 } : Room) "com/example/grantline/grantline/server/OAuthErrorIsDescribablePinLaw" code 13 (some .boolean) "law" X [(a225, c242)] [(a246, c252), (b253, c254)] T315 4 (20) := W316
            show Go Z EL1 _ _ _ X T315 172 #[.val (.int n), .val (.int a), .val (.int b), .val (.int c), .val (.int d), .val (.int (4 : Int32)), .val (.int (drawF a)), .val (.int (drawF b)), .val (.int (drawF c)), .val (.int (drawF d)), .val (.ref a225), .val (.ref a246), .val (.int (0 : Int32))] [(.int (if ∀ x ∈ ([drawF a, drawF b, drawF c, drawF d] : List Int32), okc x then 1 else 0))]
            refine Go.iload (pc' := 174) W316 d_code_172 rfl rfl ?_
            refine Go.icmp_ne (pc' := 177) W316 181 d_code_174 (by decide) rfl (fun (c317 : ¬ ((if ∀ x ∈ ([drawF a, drawF b, drawF c, drawF d] : List Int32), okc x then 1 else 0) = (0 : Int32))) => ?_) (fun (c317 : (if ∀ x ∈ ([drawF a, drawF b, drawF c, drawF d] : List Int32), okc x then 1 else 0) = (0 : Int32)) => ?_)
            · refine Go.iconst (pc' := 182) W316 (0 : Int32) d_code_181 (by decide) rfl ?_
              refine Go.nret (z' := (0 : Int32)) W316 (by simp) (by decide) d_code_182 (by first | exact Nat.le_of_ble_eq_true rfl | (simp; done) | (simp; omega) | omega) (by first | exact Nat.le_of_ble_eq_true rfl | (simp; done) | (simp; omega) | omega) ?_
              first | rfl | (exfalso; simp_all)
            · refine Go.iconst (pc' := 178) W316 (1 : Int32) d_code_177 (by decide) rfl ?_
              refine Go.goto W316 182 d_code_178 (by decide) ?_
              refine Go.nret (z' := (1 : Int32)) W316 (by simp) (by decide) d_code_182 (by first | exact Nat.le_of_ble_eq_true rfl | (simp; done) | (simp; omega) | omega) (by first | exact Nat.le_of_ble_eq_true rfl | (simp; done) | (simp; omega) | omega) ?_
              first | rfl | (exfalso; simp_all)
          · refine Go.iconst (pc' := 165) W313 (0 : Int32) d_code_164 (by decide) rfl ?_
            refine Go.istore (pc' := 167) W313 #[.val (.int n), .val (.int a), .val (.int b), .val (.int c), .val (.int d), .val (.int (4 : Int32)), .val (.int (drawF a)), .val (.int (drawF b)), .val (.int (drawF c)), .val (.int (drawF d)), .val (.ref a225), .val (.ref a246), .val (.int (0 : Int32))] d_code_165 rfl rfl ?_
            refine Go.aload (pc' := 169) W313 d_code_167 rfl rfl rfl ?_
            refine Go.static (pc' := 172) W313 (rm_isd G a246 b253 c252 c254 _ S255 (by simp)) (w_27 G) (w_28 G) (w_29 G) (w_30 G) (by decide) [] [0, 1] (σf := [(a225, c242)]) rfl rfl [(.ref a246)] [] rfl (lenOf pd_23 rfl) rfl rfl d_code_169 rfl (by first | exact Nat.le_of_ble_eq_true rfl | (simp; done) | (simp; omega) | omega) (by first | exact Nat.le_of_ble_eq_true rfl | (simp; done) | (simp; omega) | omega) (by first | exact Nat.le_of_ble_eq_true rfl | (simp; done) | (simp; omega) | omega) (by first | exact Nat.le_of_ble_eq_true rfl | (simp; done) | (simp; omega) | omega) ?_
            rintro _ _ _ T318 ⟨rfl, rfl, rfl⟩ W319
            replace W319 : Wk l Z EL1 ({ frames := 9, cells := 24, slots := 1152, locals := 208 } : Room) "com/example/grantline/grantline/server/OAuthErrorIsDescribablePinLaw" code 13 (some .boolean) "law" X [(a225, c242)] [(a246, c252), (b253, c254)] T318 4 (20) := W319
            show Go Z EL1 _ _ _ X T318 172 #[.val (.int n), .val (.int a), .val (.int b), .val (.int c), .val (.int d), .val (.int (4 : Int32)), .val (.int (drawF a)), .val (.int (drawF b)), .val (.int (drawF c)), .val (.int (drawF d)), .val (.ref a225), .val (.ref a246), .val (.int (0 : Int32))] [(.int (if ∀ x ∈ ([drawF a, drawF b, drawF c, drawF d] : List Int32), okc x then 1 else 0))]
            refine Go.iload (pc' := 174) W319 d_code_172 rfl rfl ?_
            refine Go.icmp_ne (pc' := 177) W319 181 d_code_174 (by decide) rfl (fun (c320 : ¬ ((if ∀ x ∈ ([drawF a, drawF b, drawF c, drawF d] : List Int32), okc x then 1 else 0) = (0 : Int32))) => ?_) (fun (c320 : (if ∀ x ∈ ([drawF a, drawF b, drawF c, drawF d] : List Int32), okc x then 1 else 0) = (0 : Int32)) => ?_)
            · refine Go.iconst (pc' := 182) W319 (0 : Int32) d_code_181 (by decide) rfl ?_
              refine Go.nret (z' := (0 : Int32)) W319 (by simp) (by decide) d_code_182 (by first | exact Nat.le_of_ble_eq_true rfl | (simp; done) | (simp; omega) | omega) (by first | exact Nat.le_of_ble_eq_true rfl | (simp; done) | (simp; omega) | omega) ?_
              first | rfl | (exfalso; simp_all)
            · refine Go.iconst (pc' := 178) W319 (1 : Int32) d_code_177 (by decide) rfl ?_
              refine Go.goto W319 182 d_code_178 (by decide) ?_
              refine Go.nret (z' := (1 : Int32)) W319 (by simp) (by decide) d_code_182 (by first | exact Nat.le_of_ble_eq_true rfl | (simp; done) | (simp; omega) | omega) (by first | exact Nat.le_of_ble_eq_true rfl | (simp; done) | (simp; omega) | omega) ?_
              first | rfl | (exfalso; simp_all)
        · refine Go.iconst (pc' := 148) W310 (0 : Int32) d_code_147 (by decide) rfl ?_
          refine Go.istore (pc' := 150) W310 #[.val (.int n), .val (.int a), .val (.int b), .val (.int c), .val (.int d), .val (.int (4 : Int32)), .val (.int (drawF a)), .val (.int (drawF b)), .val (.int (drawF c)), .val (.int (drawF d)), .val (.ref a225), .val (.ref a246), .val (.int (0 : Int32))] d_code_148 rfl rfl ?_
          refine Go.iload (pc' := 152) W310 d_code_150 rfl rfl ?_
          refine Go.iconst (pc' := 153) W310 (3 : Int32) d_code_152 (by decide) rfl ?_
          refine Go.icmp_le (pc' := 156) W310 167 d_code_153 (by decide) rfl (fun q => absurd (by decide) q) (fun _ => ?_)
          refine Go.iload (pc' := 158) W310 d_code_156 rfl rfl ?_
          refine Go.static (pc' := 161) W310 (rm_al G (drawF d)) (w_52 G) (w_53 G) (w_3 G) (w_54 G) (by decide) [] [] (σf := [(a225, c242)]) rfl rfl [(.int (drawF d))] [] rfl (lenOf pd_24 rfl) rfl rfl d_code_158 rfl (by first | exact Nat.le_of_ble_eq_true rfl | (simp; done) | (simp; omega) | omega) (by first | exact Nat.le_of_ble_eq_true rfl | (simp; done) | (simp; omega) | omega) (by first | exact Nat.le_of_ble_eq_true rfl | (simp; done) | (simp; omega) | omega) (by first | exact Nat.le_of_ble_eq_true rfl | (simp; done) | (simp; omega) | omega) ?_
          rintro _ _ _ T321 ⟨rfl, rfl, rfl⟩ W322
          replace W322 : Wk l Z EL1 ({ frames := 9, cells := 24, slots := 1152, locals := 208 } : Room) "com/example/grantline/grantline/server/OAuthErrorIsDescribablePinLaw" code 13 (some .boolean) "law" X [(a225, c242)] [(a246, c252), (b253, c254)] T321 4 (20) := W322
          show Go Z EL1 _ _ _ X T321 161 #[.val (.int n), .val (.int a), .val (.int b), .val (.int c), .val (.int d), .val (.int (4 : Int32)), .val (.int (drawF a)), .val (.int (drawF b)), .val (.int (drawF c)), .val (.int (drawF d)), .val (.ref a225), .val (.ref a246), .val (.int (0 : Int32))] [(.int (if okc (drawF d) then 1 else 0))]
          refine Go.if_ne (pc' := 164) W322 167 d_code_161 (by decide) rfl (fun (c323 : ¬ ((if okc (drawF d) then 1 else 0) = 0)) => ?_) (fun (c323 : (if okc (drawF d) then 1 else 0) = 0) => ?_)
          · refine Go.aload (pc' := 169) W322 d_code_167 rfl rfl rfl ?_
            refine Go.static (pc' := 172) W322 (rm_isd G a246 b253 c252 c254 _ S255 (by simp)) (w_27 G) (w_28 G) (w_29 G) (w_30 G) (by decide) [] [0, 1] (σf := [(a225, c242)]) rfl rfl [(.ref a246)] [] rfl (lenOf pd_23 rfl) rfl rfl d_code_169 rfl (by first | exact Nat.le_of_ble_eq_true rfl | (simp; done) | (simp; omega) | omega) (by first | exact Nat.le_of_ble_eq_true rfl | (simp; done) | (simp; omega) | omega) (by first | exact Nat.le_of_ble_eq_true rfl | (simp; done) | (simp; omega) | omega) (by first | exact Nat.le_of_ble_eq_true rfl | (simp; done) | (simp; omega) | omega) ?_
            rintro _ _ _ T324 ⟨rfl, rfl, rfl⟩ W325
            replace W325 : Wk l Z EL1 ({ frames := 9, cells := 24, slots := 1152, locals := 208 } : Room) "com/example/grantline/grantline/server/OAuthErrorIsDescribablePinLaw" code 13 (some .boolean) "law" X [(a225, c242)] [(a246, c252), (b253, c254)] T324 4 (20) := W325
            show Go Z EL1 _ _ _ X T324 172 #[.val (.int n), .val (.int a), .val (.int b), .val (.int c), .val (.int d), .val (.int (4 : Int32)), .val (.int (drawF a)), .val (.int (drawF b)), .val (.int (drawF c)), .val (.int (drawF d)), .val (.ref a225), .val (.ref a246), .val (.int (0 : Int32))] [(.int (if ∀ x ∈ ([drawF a, drawF b, drawF c, drawF d] : List Int32), okc x then 1 else 0))]
            refine Go.iload (pc' := 174) W325 d_code_172 rfl rfl ?_
            refine Go.icmp_ne (pc' := 177) W325 181 d_code_174 (by decide) rfl (fun (c326 : ¬ ((if ∀ x ∈ ([drawF a, drawF b, drawF c, drawF d] : List Int32), okc x then 1 else 0) = (0 : Int32))) => ?_) (fun (c326 : (if ∀ x ∈ ([drawF a, drawF b, drawF c, drawF d] : List Int32), okc x then 1 else 0) = (0 : Int32)) => ?_)
            · refine Go.iconst (pc' := 182) W325 (0 : Int32) d_code_181 (by decide) rfl ?_
              refine Go.nret (z' := (0 : Int32)) W325 (by simp) (by decide) d_code_182 (by first | exact Nat.le_of_ble_eq_true rfl | (simp; done) | (simp; omega) | omega) (by first | exact Nat.le_of_ble_eq_true rfl | (simp; done) | (simp; omega) | omega) ?_
              first | rfl | (exfalso; simp_all)
            · refine Go.iconst (pc' := 178) W325 (1 : Int32) d_code_177 (by decide) rfl ?_
              refine Go.goto W325 182 d_code_178 (by decide) ?_
              refine Go.nret (z' := (1 : Int32)) W325 (by simp) (by decide) d_code_182 (by first | exact Nat.le_of_ble_eq_true rfl | (simp; done) | (simp; omega) | omega) (by first | exact Nat.le_of_ble_eq_true rfl | (simp; done) | (simp; omega) | omega) ?_
              first | rfl | (exfalso; simp_all)
          · refine Go.iconst (pc' := 165) W322 (0 : Int32) d_code_164 (by decide) rfl ?_
            refine Go.istore (pc' := 167) W322 #[.val (.int n), .val (.int a), .val (.int b), .val (.int c), .val (.int d), .val (.int (4 : Int32)), .val (.int (drawF a)), .val (.int (drawF b)), .val (.int (drawF c)), .val (.int (drawF d)), .val (.ref a225), .val (.ref a246), .val (.int (0 : Int32))] d_code_165 rfl rfl ?_
            refine Go.aload (pc' := 169) W322 d_code_167 rfl rfl rfl ?_
            refine Go.static (pc' := 172) W322 (rm_isd G a246 b253 c252 c254 _ S255 (by simp)) (w_27 G) (w_28 G) (w_29 G) (w_30 G) (by decide) [] [0, 1] (σf := [(a225, c242)]) rfl rfl [(.ref a246)] [] rfl (lenOf pd_23 rfl) rfl rfl d_code_169 rfl (by first | exact Nat.le_of_ble_eq_true rfl | (simp; done) | (simp; omega) | omega) (by first | exact Nat.le_of_ble_eq_true rfl | (simp; done) | (simp; omega) | omega) (by first | exact Nat.le_of_ble_eq_true rfl | (simp; done) | (simp; omega) | omega) (by first | exact Nat.le_of_ble_eq_true rfl | (simp; done) | (simp; omega) | omega) ?_
            rintro _ _ _ T327 ⟨rfl, rfl, rfl⟩ W328
            replace W328 : Wk l Z EL1 ({ frames := 9, cells := 24, slots := 1152, locals := 208 } : Room) "com/example/grantline/grantline/server/OAuthErrorIsDescribablePinLaw" code 13 (some .boolean) "law" X [(a225, c242)] [(a246, c252), (b253, c254)] T327 4 (20) := W328
            show Go Z EL1 _ _ _ X T327 172 #[.val (.int n), .val (.int a), .val (.int b), .val (.int c), .val (.int d), .val (.int (4 : Int32)), .val (.int (drawF a)), .val (.int (drawF b)), .val (.int (drawF c)), .val (.int (drawF d)), .val (.ref a225), .val (.ref a246), .val (.int (0 : Int32))] [(.int (if ∀ x ∈ ([drawF a, drawF b, drawF c, drawF d] : List Int32), okc x then 1 else 0))]
            refine Go.iload (pc' := 174) W328 d_code_172 rfl rfl ?_
            refine Go.icmp_ne (pc' := 177) W328 181 d_code_174 (by decide) rfl (fun (c329 : ¬ ((if ∀ x ∈ ([drawF a, drawF b, drawF c, drawF d] : List Int32), okc x then 1 else 0) = (0 : Int32))) => ?_) (fun (c329 : (if ∀ x ∈ ([drawF a, drawF b, drawF c, drawF d] : List Int32), okc x then 1 else 0) = (0 : Int32)) => ?_)
            · refine Go.iconst (pc' := 182) W328 (0 : Int32) d_code_181 (by decide) rfl ?_
              refine Go.nret (z' := (0 : Int32)) W328 (by simp) (by decide) d_code_182 (by first | exact Nat.le_of_ble_eq_true rfl | (simp; done) | (simp; omega) | omega) (by first | exact Nat.le_of_ble_eq_true rfl | (simp; done) | (simp; omega) | omega) ?_
              first | rfl | (exfalso; simp_all)
            · refine Go.iconst (pc' := 178) W328 (1 : Int32) d_code_177 (by decide) rfl ?_
              refine Go.goto W328 182 d_code_178 (by decide) ?_
              refine Go.nret (z' := (1 : Int32)) W328 (by simp) (by decide) d_code_182 (by first | exact Nat.le_of_ble_eq_true rfl | (simp; done) | (simp; omega) | omega) (by first | exact Nat.le_of_ble_eq_true rfl | (simp; done) | (simp; omega) | omega) ?_
              first | rfl | (exfalso; simp_all)
      · refine Go.iconst (pc' := 131) W307 (0 : Int32) d_code_130 (by decide) rfl ?_
        refine Go.istore (pc' := 133) W307 #[.val (.int n), .val (.int a), .val (.int b), .val (.int c), .val (.int d), .val (.int (4 : Int32)), .val (.int (drawF a)), .val (.int (drawF b)), .val (.int (drawF c)), .val (.int (drawF d)), .val (.ref a225), .val (.ref a246), .val (.int (0 : Int32))] d_code_131 rfl rfl ?_
        refine Go.iload (pc' := 135) W307 d_code_133 rfl rfl ?_
        refine Go.iconst (pc' := 136) W307 (2 : Int32) d_code_135 (by decide) rfl ?_
        refine Go.icmp_le (pc' := 139) W307 150 d_code_136 (by decide) rfl (fun q => absurd (by decide) q) (fun _ => ?_)
        refine Go.iload (pc' := 141) W307 d_code_139 rfl rfl ?_
        refine Go.static (pc' := 144) W307 (rm_al G (drawF c)) (w_52 G) (w_53 G) (w_3 G) (w_54 G) (by decide) [] [] (σf := [(a225, c242)]) rfl rfl [(.int (drawF c))] [] rfl (lenOf pd_24 rfl) rfl rfl d_code_141 rfl (by first | exact Nat.le_of_ble_eq_true rfl | (simp; done) | (simp; omega) | omega) (by first | exact Nat.le_of_ble_eq_true rfl | (simp; done) | (simp; omega) | omega) (by first | exact Nat.le_of_ble_eq_true rfl | (simp; done) | (simp; omega) | omega) (by first | exact Nat.le_of_ble_eq_true rfl | (simp; done) | (simp; omega) | omega) ?_
        rintro _ _ _ T330 ⟨rfl, rfl, rfl⟩ W331
        replace W331 : Wk l Z EL1 ({ frames := 9, cells := 24, slots := 1152, locals := 208 } : Room) "com/example/grantline/grantline/server/OAuthErrorIsDescribablePinLaw" code 13 (some .boolean) "law" X [(a225, c242)] [(a246, c252), (b253, c254)] T330 4 (20) := W331
        show Go Z EL1 _ _ _ X T330 144 #[.val (.int n), .val (.int a), .val (.int b), .val (.int c), .val (.int d), .val (.int (4 : Int32)), .val (.int (drawF a)), .val (.int (drawF b)), .val (.int (drawF c)), .val (.int (drawF d)), .val (.ref a225), .val (.ref a246), .val (.int (0 : Int32))] [(.int (if okc (drawF c) then 1 else 0))]
        refine Go.if_ne (pc' := 147) W331 150 d_code_144 (by decide) rfl (fun (c332 : ¬ ((if okc (drawF c) then 1 else 0) = 0)) => ?_) (fun (c332 : (if okc (drawF c) then 1 else 0) = 0) => ?_)
        · refine Go.iload (pc' := 152) W331 d_code_150 rfl rfl ?_
          refine Go.iconst (pc' := 153) W331 (3 : Int32) d_code_152 (by decide) rfl ?_
          refine Go.icmp_le (pc' := 156) W331 167 d_code_153 (by decide) rfl (fun q => absurd (by decide) q) (fun _ => ?_)
          refine Go.iload (pc' := 158) W331 d_code_156 rfl rfl ?_
          refine Go.static (pc' := 161) W331 (rm_al G (drawF d)) (w_52 G) (w_53 G) (w_3 G) (w_54 G) (by decide) [] [] (σf := [(a225, c242)]) rfl rfl [(.int (drawF d))] [] rfl (lenOf pd_24 rfl) rfl rfl d_code_158 rfl (by first | exact Nat.le_of_ble_eq_true rfl | (simp; done) | (simp; omega) | omega) (by first | exact Nat.le_of_ble_eq_true rfl | (simp; done) | (simp; omega) | omega) (by first | exact Nat.le_of_ble_eq_true rfl | (simp; done) | (simp; omega) | omega) (by first | exact Nat.le_of_ble_eq_true rfl | (simp; done) | (simp; omega) | omega) ?_
          rintro _ _ _ T333 ⟨rfl, rfl, rfl⟩ W334
          replace W334 : Wk l Z EL1 ({ frames := 9, cells := 24, slots := 1152, locals := 208 } : Room) "com/example/grantline/grantline/server/OAuthErrorIsDescribablePinLaw" code 13 (some .boolean) "law" X [(a225, c242)] [(a246, c252), (b253, c254)] T333 4 (20) := W334
          show Go Z EL1 _ _ _ X T333 161 #[.val (.int n), .val (.int a), .val (.int b), .val (.int c), .val (.int d), .val (.int (4 : Int32)), .val (.int (drawF a)), .val (.int (drawF b)), .val (.int (drawF c)), .val (.int (drawF d)), .val (.ref a225), .val (.ref a246), .val (.int (0 : Int32))] [(.int (if okc (drawF d) then 1 else 0))]
          refine Go.if_ne (pc' := 164) W334 167 d_code_161 (by decide) rfl (fun (c335 : ¬ ((if okc (drawF d) then 1 else 0) = 0)) => ?_) (fun (c335 : (if okc (drawF d) then 1 else 0) = 0) => ?_)
          · refine Go.aload (pc' := 169) W334 d_code_167 rfl rfl rfl ?_
            refine Go.static (pc' := 172) W334 (rm_isd G a246 b253 c252 c254 _ S255 (by simp)) (w_27 G) (w_28 G) (w_29 G) (w_30 G) (by decide) [] [0, 1] (σf := [(a225, c242)]) rfl rfl [(.ref a246)] [] rfl (lenOf pd_23 rfl) rfl rfl d_code_169 rfl (by first | exact Nat.le_of_ble_eq_true rfl | (simp; done) | (simp; omega) | omega) (by first | exact Nat.le_of_ble_eq_true rfl | (simp; done) | (simp; omega) | omega) (by first | exact Nat.le_of_ble_eq_true rfl | (simp; done) | (simp; omega) | omega) (by first | exact Nat.le_of_ble_eq_true rfl | (simp; done) | (simp; omega) | omega) ?_
            rintro _ _ _ T336 ⟨rfl, rfl, rfl⟩ W337
            replace W337 : Wk l Z EL1 ({ frames := 9, cells := 24, slots := 1152, locals := 208 } : Room) "com/example/grantline/grantline/server/OAuthErrorIsDescribablePinLaw" code 13 (some .boolean) "law" X [(a225, c242)] [(a246, c252), (b253, c254)] T336 4 (20) := W337
            show Go Z EL1 _ _ _ X T336 172 #[.val (.int n), .val (.int a), .val (.int b), .val (.int c), .val (.int d), .val (.int (4 : Int32)), .val (.int (drawF a)), .val (.int (drawF b)), .val (.int (drawF c)), .val (.int (drawF d)), .val (.ref a225), .val (.ref a246), .val (.int (0 : Int32))] [(.int (if ∀ x ∈ ([drawF a, drawF b, drawF c, drawF d] : List Int32), okc x then 1 else 0))]
            refine Go.iload (pc' := 174) W337 d_code_172 rfl rfl ?_
            refine Go.icmp_ne (pc' := 177) W337 181 d_code_174 (by decide) rfl (fun (c338 : ¬ ((if ∀ x ∈ ([drawF a, drawF b, drawF c, drawF d] : List Int32), okc x then 1 else 0) = (0 : Int32))) => ?_) (fun (c338 : (if ∀ x ∈ ([drawF a, drawF b, drawF c, drawF d] : List Int32), okc x then 1 else 0) = (0 : Int32)) => ?_)
            · refine Go.iconst (pc' := 182) W337 (0 : Int32) d_code_181 (by decide) rfl ?_
              refine Go.nret (z' := (0 : Int32)) W337 (by simp) (by decide) d_code_182 (by first | exact Nat.le_of_ble_eq_true rfl | (simp; done) | (simp; omega) | omega) (by first | exact Nat.le_of_ble_eq_true rfl | (simp; done) | (simp; omega) | omega) ?_
              first | rfl | (exfalso; simp_all)
            · refine Go.iconst (pc' := 178) W337 (1 : Int32) d_code_177 (by decide) rfl ?_
              refine Go.goto W337 182 d_code_178 (by decide) ?_
              refine Go.nret (z' := (1 : Int32)) W337 (by simp) (by decide) d_code_182 (by first | exact Nat.le_of_ble_eq_true rfl | (simp; done) | (simp; omega) | omega) (by first | exact Nat.le_of_ble_eq_true rfl | (simp; done) | (simp; omega) | omega) ?_
              first | rfl | (exfalso; simp_all)
          · refine Go.iconst (pc' := 165) W334 (0 : Int32) d_code_164 (by decide) rfl ?_
            refine Go.istore (pc' := 167) W334 #[.val (.int n), .val (.int a), .val (.int b), .val (.int c), .val (.int d), .val (.int (4 : Int32)), .val (.int (drawF a)), .val (.int (drawF b)), .val (.int (drawF c)), .val (.int (drawF d)), .val (.ref a225), .val (.ref a246), .val (.int (0 : Int32))] d_code_165 rfl rfl ?_
            refine Go.aload (pc' := 169) W334 d_code_167 rfl rfl rfl ?_
            refine Go.static (pc' := 172) W334 (rm_isd G a246 b253 c252 c254 _ S255 (by simp)) (w_27 G) (w_28 G) (w_29 G) (w_30 G) (by decide) [] [0, 1] (σf := [(a225, c242)]) rfl rfl [(.ref a246)] [] rfl (lenOf pd_23 rfl) rfl rfl d_code_169 rfl (by first | exact Nat.le_of_ble_eq_true rfl | (simp; done) | (simp; omega) | omega) (by first | exact Nat.le_of_ble_eq_true rfl | (simp; done) | (simp; omega) | omega) (by first | exact Nat.le_of_ble_eq_true rfl | (simp; done) | (simp; omega) | omega) (by first | exact Nat.le_of_ble_eq_true rfl | (simp; done) | (simp; omega) | omega) ?_
            rintro _ _ _ T339 ⟨rfl, rfl, rfl⟩ W340
            replace W340 : Wk l Z EL1 ({ frames := 9, cells := 24, slots := 1152, locals := 208 } : Room) "com/example/grantline/grantline/server/OAuthErrorIsDescribablePinLaw" code 13 (some .boolean) "law" X [(a225, c242)] [(a246, c252), (b253, c254)] T339 4 (20) := W340
            show Go Z EL1 _ _ _ X T339 172 #[.val (.int n), .val (.int a), .val (.int b), .val (.int c), .val (.int d), .val (.int (4 : Int32)), .val (.int (drawF a)), .val (.int (drawF b)), .val (.int (drawF c)), .val (.int (drawF d)), .val (.ref a225), .val (.ref a246), .val (.int (0 : Int32))] [(.int (if ∀ x ∈ ([drawF a, drawF b, drawF c, drawF d] : List Int32), okc x then 1 else 0))]
            refine Go.iload (pc' := 174) W340 d_code_172 rfl rfl ?_
            refine Go.icmp_ne (pc' := 177) W340 181 d_code_174 (by decide) rfl (fun (c341 : ¬ ((if ∀ x ∈ ([drawF a, drawF b, drawF c, drawF d] : List Int32), okc x then 1 else 0) = (0 : Int32))) => ?_) (fun (c341 : (if ∀ x ∈ ([drawF a, drawF b, drawF c, drawF d] : List Int32), okc x then 1 else 0) = (0 : Int32)) => ?_)
            · refine Go.iconst (pc' := 182) W340 (0 : Int32) d_code_181 (by decide) rfl ?_
              refine Go.nret (z' := (0 : Int32)) W340 (by simp) (by decide) d_code_182 (by first | exact Nat.le_of_ble_eq_true rfl | (simp; done) | (simp; omega) | omega) (by first | exact Nat.le_of_ble_eq_true rfl | (simp; done) | (simp; omega) | omega) ?_
              first | rfl | (exfalso; simp_all)
            · refine Go.iconst (pc' := 178) W340 (1 : Int32) d_code_177 (by decide) rfl ?_
              refine Go.goto W340 182 d_code_178 (by decide) ?_
              refine Go.nret (z' := (1 : Int32)) W340 (by simp) (by decide) d_code_182 (by first | exact Nat.le_of_ble_eq_true rfl | (simp; done) | (simp; omega) | omega) (by first | exact Nat.le_of_ble_eq_true rfl | (simp; done) | (simp; omega) | omega) ?_
              first | rfl | (exfalso; simp_all)
        · refine Go.iconst (pc' := 148) W331 (0 : Int32) d_code_147 (by decide) rfl ?_
          refine Go.istore (pc' := 150) W331 #[.val (.int n), .val (.int a), .val (.int b), .val (.int c), .val (.int d), .val (.int (4 : Int32)), .val (.int (drawF a)), .val (.int (drawF b)), .val (.int (drawF c)), .val (.int (drawF d)), .val (.ref a225), .val (.ref a246), .val (.int (0 : Int32))] d_code_148 rfl rfl ?_
          refine Go.iload (pc' := 152) W331 d_code_150 rfl rfl ?_
          refine Go.iconst (pc' := 153) W331 (3 : Int32) d_code_152 (by decide) rfl ?_
          refine Go.icmp_le (pc' := 156) W331 167 d_code_153 (by decide) rfl (fun q => absurd (by decide) q) (fun _ => ?_)
          refine Go.iload (pc' := 158) W331 d_code_156 rfl rfl ?_
          refine Go.static (pc' := 161) W331 (rm_al G (drawF d)) (w_52 G) (w_53 G) (w_3 G) (w_54 G) (by decide) [] [] (σf := [(a225, c242)]) rfl rfl [(.int (drawF d))] [] rfl (lenOf pd_24 rfl) rfl rfl d_code_158 rfl (by first | exact Nat.le_of_ble_eq_true rfl | (simp; done) | (simp; omega) | omega) (by first | exact Nat.le_of_ble_eq_true rfl | (simp; done) | (simp; omega) | omega) (by first | exact Nat.le_of_ble_eq_true rfl | (simp; done) | (simp; omega) | omega) (by first | exact Nat.le_of_ble_eq_true rfl | (simp; done) | (simp; omega) | omega) ?_
          rintro _ _ _ T342 ⟨rfl, rfl, rfl⟩ W343
          replace W343 : Wk l Z EL1 ({ frames := 9, cells := 24, slots := 1152, locals := 208 } : Room) "com/example/grantline/grantline/server/OAuthErrorIsDescribablePinLaw" code 13 (some .boolean) "law" X [(a225, c242)] [(a246, c252), (b253, c254)] T342 4 (20) := W343
          show Go Z EL1 _ _ _ X T342 161 #[.val (.int n), .val (.int a), .val (.int b), .val (.int c), .val (.int d), .val (.int (4 : Int32)), .val (.int (drawF a)), .val (.int (drawF b)), .val (.int (drawF c)), .val (.int (drawF d)), .val (.ref a225), .val (.ref a246), .val (.int (0 : Int32))] [(.int (if okc (drawF d) then 1 else 0))]
          refine Go.if_ne (pc' := 164) W343 167 d_code_161 (by decide) rfl (fun (c344 : ¬ ((if okc (drawF d) then 1 else 0) = 0)) => ?_) (fun (c344 : (if okc (drawF d) then 1 else 0) = 0) => ?_)
          · refine Go.aload (pc' := 169) W343 d_code_167 rfl rfl rfl ?_
            refine Go.static (pc' := 172) W343 (rm_isd G a246 b253 c252 c254 _ S255 (by simp)) (w_27 G) (w_28 G) (w_29 G) (w_30 G) (by decide) [] [0, 1] (σf := [(a225, c242)]) rfl rfl [(.ref a246)] [] rfl (lenOf pd_23 rfl) rfl rfl d_code_169 rfl (by first | exact Nat.le_of_ble_eq_true rfl | (simp; done) | (simp; omega) | omega) (by first | exact Nat.le_of_ble_eq_true rfl | (simp; done) | (simp; omega) | omega) (by first | exact Nat.le_of_ble_eq_true rfl | (simp; done) | (simp; omega) | omega) (by first | exact Nat.le_of_ble_eq_true rfl | (simp; done) | (simp; omega) | omega) ?_
            rintro _ _ _ T345 ⟨rfl, rfl, rfl⟩ W346
            replace W346 : Wk l Z EL1 ({ frames := 9, cells := 24, slots := 1152, locals := 208 } : Room) "com/example/grantline/grantline/server/OAuthErrorIsDescribablePinLaw" code 13 (some .boolean) "law" X [(a225, c242)] [(a246, c252), (b253, c254)] T345 4 (20) := W346
            show Go Z EL1 _ _ _ X T345 172 #[.val (.int n), .val (.int a), .val (.int b), .val (.int c), .val (.int d), .val (.int (4 : Int32)), .val (.int (drawF a)), .val (.int (drawF b)), .val (.int (drawF c)), .val (.int (drawF d)), .val (.ref a225), .val (.ref a246), .val (.int (0 : Int32))] [(.int (if ∀ x ∈ ([drawF a, drawF b, drawF c, drawF d] : List Int32), okc x then 1 else 0))]
            refine Go.iload (pc' := 174) W346 d_code_172 rfl rfl ?_
            refine Go.icmp_ne (pc' := 177) W346 181 d_code_174 (by decide) rfl (fun (c347 : ¬ ((if ∀ x ∈ ([drawF a, drawF b, drawF c, drawF d] : List Int32), okc x then 1 else 0) = (0 : Int32))) => ?_) (fun (c347 : (if ∀ x ∈ ([drawF a, drawF b, drawF c, drawF d] : List Int32), okc x then 1 else 0) = (0 : Int32)) => ?_)
            · refine Go.iconst (pc' := 182) W346 (0 : Int32) d_code_181 (by decide) rfl ?_
              refine Go.nret (z' := (0 : Int32)) W346 (by simp) (by decide) d_code_182 (by first | exact Nat.le_of_ble_eq_true rfl | (simp; done) | (simp; omega) | omega) (by first | exact Nat.le_of_ble_eq_true rfl | (simp; done) | (simp; omega) | omega) ?_
              first | rfl | (exfalso; simp_all)
            · refine Go.iconst (pc' := 178) W346 (1 : Int32) d_code_177 (by decide) rfl ?_
              refine Go.goto W346 182 d_code_178 (by decide) ?_
              refine Go.nret (z' := (1 : Int32)) W346 (by simp) (by decide) d_code_182 (by first | exact Nat.le_of_ble_eq_true rfl | (simp; done) | (simp; omega) | omega) (by first | exact Nat.le_of_ble_eq_true rfl | (simp; done) | (simp; omega) | omega) ?_
              first | rfl | (exfalso; simp_all)
          · refine Go.iconst (pc' := 165) W343 (0 : Int32) d_code_164 (by decide) rfl ?_
            refine Go.istore (pc' := 167) W343 #[.val (.int n), .val (.int a), .val (.int b), .val (.int c), .val (.int d), .val (.int (4 : Int32)), .val (.int (drawF a)), .val (.int (drawF b)), .val (.int (drawF c)), .val (.int (drawF d)), .val (.ref a225), .val (.ref a246), .val (.int (0 : Int32))] d_code_165 rfl rfl ?_
            refine Go.aload (pc' := 169) W343 d_code_167 rfl rfl rfl ?_
            refine Go.static (pc' := 172) W343 (rm_isd G a246 b253 c252 c254 _ S255 (by simp)) (w_27 G) (w_28 G) (w_29 G) (w_30 G) (by decide) [] [0, 1] (σf := [(a225, c242)]) rfl rfl [(.ref a246)] [] rfl (lenOf pd_23 rfl) rfl rfl d_code_169 rfl (by first | exact Nat.le_of_ble_eq_true rfl | (simp; done) | (simp; omega) | omega) (by first | exact Nat.le_of_ble_eq_true rfl | (simp; done) | (simp; omega) | omega) (by first | exact Nat.le_of_ble_eq_true rfl | (simp; done) | (simp; omega) | omega) (by first | exact Nat.le_of_ble_eq_true rfl | (simp; done) | (simp; omega) | omega) ?_
            rintro _ _ _ T348 ⟨rfl, rfl, rfl⟩ W349
            replace W349 : Wk l Z EL1 ({ frames := 9, cells := 24, slots := 1152, locals := 208 } : Room) "com/example/grantline/grantline/server/OAuthErrorIsDescribablePinLaw" code 13 (some .boolean) "law" X [(a225, c242)] [(a246, c252), (b253, c254)] T348 4 (20) := W349
            show Go Z EL1 _ _ _ X T348 172 #[.val (.int n), .val (.int a), .val (.int b), .val (.int c), .val (.int d), .val (.int (4 : Int32)), .val (.int (drawF a)), .val (.int (drawF b)), .val (.int (drawF c)), .val (.int (drawF d)), .val (.ref a225), .val (.ref a246), .val (.int (0 : Int32))] [(.int (if ∀ x ∈ ([drawF a, drawF b, drawF c, drawF d] : List Int32), okc x then 1 else 0))]
            refine Go.iload (pc' := 174) W349 d_code_172 rfl rfl ?_
            refine Go.icmp_ne (pc' := 177) W349 181 d_code_174 (by decide) rfl (fun (c350 : ¬ ((if ∀ x ∈ ([drawF a, drawF b, drawF c, drawF d] : List Int32), okc x then 1 else 0) = (0 : Int32))) => ?_) (fun (c350 : (if ∀ x ∈ ([drawF a, drawF b, drawF c, drawF d] : List Int32), okc x then 1 else 0) = (0 : Int32)) => ?_)
            · refine Go.iconst (pc' := 182) W349 (0 : Int32) d_code_181 (by decide) rfl ?_
              refine Go.nret (z' := (0 : Int32)) W349 (by simp) (by decide) d_code_182 (by first | exact Nat.le_of_ble_eq_true rfl | (simp; done) | (simp; omega) | omega) (by first | exact Nat.le_of_ble_eq_true rfl | (simp; done) | (simp; omega) | omega) ?_
              first | rfl | (exfalso; simp_all)
            · refine Go.iconst (pc' := 178) W349 (1 : Int32) d_code_177 (by decide) rfl ?_
              refine Go.goto W349 182 d_code_178 (by decide) ?_
              refine Go.nret (z' := (1 : Int32)) W349 (by simp) (by decide) d_code_182 (by first | exact Nat.le_of_ble_eq_true rfl | (simp; done) | (simp; omega) | omega) (by first | exact Nat.le_of_ble_eq_true rfl | (simp; done) | (simp; omega) | omega) ?_
              first | rfl | (exfalso; simp_all)
set_option maxRecDepth 65536 in
set_option maxHeartbeats 40000000 in
theorem comes_1 {Post : Tables → Env → Array Value → State → Outcome → State → Prop} (hpost : ∀ tb e args s v u, (limb_1_1.after args s (.returned v) u = true ∧ limb_1_2.after args s (.returned v) u = true ∧ True) → ReturnedEndW s (.returned v) u (Jvm.fieldLocs frame_1_writes args s ++ Jvm.arrayLocs frame_1_arrays args s ++ Jvm.staticLocs frame_1_statics s) 24 1152 → Post tb e args s (.returned v) u) :
    ArmFor flags0 classFile x code maxLocals ret World_1 tables_1 room_1 Calls_1 rest_1 Pre_1 Post := by
  intro l hfl _ _ p e ha hc hk s m args below hf hA hF happ hP
  obtain ⟨hcalls, hrest, hpre⟩ := hP
  obtain ⟨-, -, -, hnamed, -, -, -, hat⟩ := (Spec.applies_iff hf).mp happ
  obtain ⟨hg, hn⟩ := and_e (Cond.before_iff.mp (show (Jvm.Cond.and given_1 narrow_1).before args s = true from hpre))
  obtain ⟨g0, h0⟩ := and_e hg
  obtain ⟨g1, h1⟩ := and_e h0
  obtain ⟨g2, h2⟩ := and_e h1
  obtain ⟨g3, h3⟩ := and_e h2
  obtain ⟨g4, h4⟩ := and_e h3
  have g5 := h4
  obtain ⟨w0, w1, w2, w3, w4, rfl⟩ : ∃ w0 w1 w2 w3 w4 : Value, args = #[w0, w1, w2, w3, w4] := by
    have hs : args.size = 5 := by simpa [Cond.value, given_1] using g0
    obtain ⟨L⟩ := args
    match L, hs with
    | [w0, w1, w2, w3, w4], _ => exact ⟨w0, w1, w2, w3, w4, rfl⟩
  have hw := fun d (hd : d ∈ tables_1) => atoms_spec (ws := Jvm.Cond.code x code maxLocals ret :: tables_1) hat d (List.mem_cons_of_mem _ hd)
  obtain ⟨hsets, hown0⟩ := atoms_of _ (rest_1_c_eq ▸ (show rest_1_c.before _ s = true from hrest))
  have hfit : Fit s := fun {y c} hc i hi => by
    obtain ⟨ha, rfl⟩ := Array.getElem?_eq_some_iff.mp hc
    have q := List.all_eq_true.mp ((Array.all_eq_true_iff_forall_mem.mp hF) _ (Array.getElem_mem ha)) i (List.mem_range.mpr hi)
    simpa [Array.getElem?_eq_getElem hi] using q
  obtain ⟨i0, e0⟩ := is_v g1
  obtain rfl : w0 = (.int i0) := Option.some.inj e0
  obtain ⟨i1, e1⟩ := is_v g2
  obtain rfl : w1 = (.int i1) := Option.some.inj e1
  obtain ⟨i2, e2⟩ := is_v g3
  obtain rfl : w2 = (.int i2) := Option.some.inj e2
  obtain ⟨i3, e3⟩ := is_v g4
  obtain rfl : w3 = (.int i3) := Option.some.inj e3
  obtain ⟨i4, e4⟩ := is_v g5
  obtain rfl : w4 = (.int i4) := Option.some.inj e4
  have n5 := not_v (Cond.before_iff.mp (hsets _ (List.mem_of_getElem? (i := 2) rfl)))
  obtain ⟨icv, ecv⟩ := is_v (Cond.before_iff.mp (hsets _ (List.mem_of_getElem? (i := 1) rfl)))
  have Scv : Sta s s.heap "java/lang/String" "COMPACT_STRINGS" "Z" (.int icv) := Sta.start ecv (Or.inl (hsets _ (List.mem_of_getElem? (i := 0) rfl)))
  have ccv : ¬ (icv = (0 : Int32)) := gotF (Cond.eq_ints ecv (Term.int_eval (0))) n5
  have hEL : EW s _ EL1 := (EW.cons (text := "") (hw _ (List.mem_of_getElem? (l := tables_1) (i := 19) rfl)) (by decide +kernel) EW.nil)
  obtain ⟨vfm, efm, rfm⟩ := isR_v (Cond.before_iff.mp (hsets _ (List.mem_of_getElem? (i := 8) rfl)))
  have Sfm : Sta s s.heap "jdk/internal/util/Preconditions" "SIOOBE_FORMATTER" "Ljava/util/function/BiFunction;" vfm := Sta.start efm (Or.inl (hsets _ (List.mem_of_getElem? (i := 7) rfl)))
  have SassertionsDisabled : Sta s s.heap "java/lang/StringUTF16" "$assertionsDisabled" "Z" (.int 1) := by
    obtain ⟨q1, q2, q3, q4, q5, -⟩ := cmp_v (Or.inl (Cond.before_iff.mp (hsets _ (List.mem_of_getElem? (i := 12) rfl))))
    exact Sta.start (eqI (Cond.before_iff.mp (hsets _ (List.mem_of_getElem? (i := 12) rfl)))) (Or.inl (hsets _ (List.mem_of_getElem? (i := 11) rfl)))
  have SHIBYTESHIFT : Sta s s.heap "java/lang/StringUTF16" "HI_BYTE_SHIFT" "I" (.int 0) := by
    obtain ⟨q1, q2, q3, q4, q5, -⟩ := cmp_v (Or.inl (Cond.before_iff.mp (hsets _ (List.mem_of_getElem? (i := 15) rfl))))
    exact Sta.start (eqI (Cond.before_iff.mp (hsets _ (List.mem_of_getElem? (i := 15) rfl)))) (Or.inl (hsets _ (List.mem_of_getElem? (i := 14) rfl)))
  have SLOBYTESHIFT : Sta s s.heap "java/lang/StringUTF16" "LO_BYTE_SHIFT" "I" (.int 8) := by
    obtain ⟨q1, q2, q3, q4, q5, -⟩ := cmp_v (Or.inl (Cond.before_iff.mp (hsets _ (List.mem_of_getElem? (i := 18) rfl))))
    exact Sta.start (eqI (Cond.before_iff.mp (hsets _ (List.mem_of_getElem? (i := 18) rfl)))) (Or.inl (hsets _ (List.mem_of_getElem? (i := 17) rfl)))
  have G : Cl s _ := ⟨hw, hEL, ⟨icv, Scv, ccv⟩, ⟨vfm, Sfm, rfm⟩, ⟨SassertionsDisabled, SHIBYTESHIFT, SLOBYTESHIFT⟩⟩
  have hCH : CHv s EL1 s.vm s.heap := CHv.start hEL (fun p hp => hcalls.1 p hp) (hsets _ (List.mem_of_getElem? (i := 2) rfl)) (w_20 G) (w_7 G)
  have H0 : Hp s EL1 [] [] s [] [] s.vm s.heap := ⟨CHr.refl hCH, (fun _ q => nomatch q), (fun _ q => nomatch q), List.nodup_nil, (fun _ q => nomatch q), (fun _ q => nomatch q), (fun _ _ q _ => q), Nat.le_refl _, fun _ _ q => q⟩
  have happ' : (head1 [Jvm.Cond.code x code maxLocals ret] room_1).appliesLoose x e.platform s = true := by
    obtain ⟨q1, q2, q3, q4, q5, q6, q7, q8⟩ := (Spec.appliesLoose_iff hf).mp ((Spec.applies_iff_loose hf).mp happ).1
    refine (Spec.appliesLoose_iff hf).mpr ⟨q1, q2, q3, q4, q5, q6, q7, ?_⟩
    show (Jvm.Cond.and _ .tt).before _ s = true
    rw [Cond.before_and, atoms_spec (ws := Jvm.Cond.code x code maxLocals ret :: tables_1) hat _ (List.mem_cons_self ..)]; rfl
  obtain ⟨n, o, h1, h2, h3, v, σ, ρ, L, rfl, rfl, N, -, hq⟩ := rm_law G i0 i1 i2 i3 i4  p e ha hc hk s m _ below hf happ' ⟨rfl, State.Warmed39.refl s, H0⟩ trivial
  refine ⟨n, _, h1, h2, h3, hpost _ _ _ _ _ _ ⟨Cond.after_iff.mpr rfl, Cond.after_iff.mpr (eq_i res_at (Term.int_eval (1)) rfl), trivial⟩ ⟨hq.1, hq.2.1, hq.2.2.1, (hq.2.2.2.sift fun y hy => Or.inr (N y hy)).mono (by decide) (by decide)⟩⟩
theorem main_1_1 : Claimed_1_1 := comes_1 fun _ _ _ _ _ _ h hF => ⟨h.1, hF⟩
theorem main_1_2 : Claimed_1_2 := comes_1 fun _ _ _ _ _ _ h hF => ⟨h.2.1, hF⟩
end Jvm.Pilot.@@N@@
namespace Jvm.Pilot.@@N@@
open Jvm Jvm.ClassFile Sem Op Lib Jvm.Free Jvm.Stand Jvm.Pilot.@@N@@.Jvm.D
/-! MADE BY PROGRAM (witnessworld.py) out of the Statement's table words and the real class files: 22 classes; the members and pool entries that the words name. The judged class is class 1, her method 3. -/
namespace start1
open Jvm.ClassFile
def u (s : String) : CpInfo := .utf8 (stringToUtf16 s)
/-- a pool by its gaps: so many unusable entries, then the entry; so many at the end -/
def gap : Nat → List CpInfo → List CpInfo
  | 0, r => r
  | n + 1, r => .unusable :: gap n r
def poolList (es : List (Nat × CpInfo)) (last : Nat) : List CpInfo := es.foldr (fun e r => gap e.1 (e.2 :: r)) (gap last [])
def pool (es : List (Nat × CpInfo)) (last : Nat) : Array CpInfo := ⟨poolList es last⟩
def fileOf (pool : Array CpInfo) (this : Nat) (attrs : Array Attribute := #[]) (ms : Array MethodInfo := #[]) (fl : Nat := 33) (sup : Nat := 0) (ifs : Array Nat := #[]) (fds : Array FieldInfo := #[]) : ClassFile where
  minorVersion := 0
  majorVersion := 65
  constantPool := pool
  accessFlags := fl
  thisClass := this
  superClass := sup
  interfaces := ifs
  fields := fds
  methods := ms
  attributes := attrs
def plain (name : String) (sup : Option ClassId) : Class where
  name := name
  kind := .ordinary
  loader := none
  accessFlags := 33
  super := sup
  interfaces := #[]
  cf := none
  fields := #[]
  methods := #[]
  instanceTypes := #[]
  staticTypes := #[]
  resolved := #[]
  callSites := []
  init := .initialized
  statics := none
  mirror := none

def pool0 : Array CpInfo := pool [(5, u "<init>"), (0, u "()V"), (1, .class_ 10), (1, u "java/lang/Object")] 113

def k0c0 : Code := { maxStack := 0, maxLocals := 1, code := object_method_1_code, exceptionTable := #[], attributes := #[] }
def k0m0 : Method := { name := "<init>", desc := "()V", sig := { parameters := [], returnType := none }, accessFlags := 1, code := some k0c0 }
/-- java/lang/Object -/
def k0 : Class := { plain "java/lang/Object" none with
  accessFlags := 33
  interfaces := #[]
  cf := some (fileOf pool0 8 #[] #[{ accessFlags := 1, nameIndex := 5, descriptorIndex := 6, attributes := #[] }] 33 0 #[] #[])
  fields := #[]
  methods := #[k0m0]
  instanceTypes := #[]
  staticTypes := #[]
  resolved := Array.replicate 124 none
  statics := none }

def pool1 : Array CpInfo := pool [(2, .class_ 4), (1, u "java/lang/Object"), (0, u "<init>"), (0, u "()V"), (0, .integer 65535), (0, .integer 2147483647), (0, .methodref 10 11), (0, .class_ 12), (0, .nameAndType 13 14), (0, u "com/example/grantline/grantline/server/OAuthErrorIsDescribablePinLaw"), (0, u "draw"), (0, u "(I)C"), (0, .class_ 16), (0, u "java/lang/String"), (0, .methodref 15 18), (0, .nameAndType 5 19), (0, u "([C)V"), (0, .methodref 10 21), (0, .nameAndType 22 23), (0, u "allowed"), (0, u "(C)Z"), (0, .methodref 25 26), (0, .class_ 27), (0, .nameAndType 28 29), (0, u "com/example/grantline/grantline/server/OAuthError"), (0, u "isDescribable"), (0, u "(Ljava/lang/String;)Z"), (3, u "law"), (0, u "(IIIII)Z")] 4

def k1m0 : Method := { name := "<init>", desc := "()V", sig := { parameters := [], returnType := none }, accessFlags := 1, code := none }
def k1c1 : Code := { maxStack := 2, maxLocals := 1, code := method_2_code, exceptionTable := #[], attributes := #[] }
def k1m1 : Method := { name := "allowed", desc := "(C)Z", sig := { parameters := [.char], returnType := some .boolean }, accessFlags := 10, code := some k1c1 }
def k1c2 : Code := { maxStack := 2, maxLocals := 1, code := method_3_code, exceptionTable := #[], attributes := #[] }
def k1m2 : Method := { name := "draw", desc := "(I)C", sig := { parameters := [.int], returnType := some .char }, accessFlags := 10, code := some k1c2 }
def k1c3 : Code := { maxStack := 3, maxLocals := 13, code := code, exceptionTable := #[], attributes := #[] }
def k1m3 : Method := { name := "law", desc := "(IIIII)Z", sig := { parameters := [.int, .int, .int, .int, .int], returnType := some .boolean }, accessFlags := 9, code := some k1c3 }
/-- com/example/grantline/grantline/server/OAuthErrorIsDescribablePinLaw -/
def k1 : Class := { plain "com/example/grantline/grantline/server/OAuthErrorIsDescribablePinLaw" (some 0) with
  accessFlags := 49
  interfaces := #[]
  cf := some (fileOf pool1 10 #[] #[{ accessFlags := 1, nameIndex := 5, descriptorIndex := 6, attributes := #[] }, { accessFlags := 10, nameIndex := 22, descriptorIndex := 23, attributes := #[] }, { accessFlags := 10, nameIndex := 13, descriptorIndex := 14, attributes := #[] }, { accessFlags := 9, nameIndex := 33, descriptorIndex := 34, attributes := #[] }] 49 2 #[] #[])
  fields := #[]
  methods := #[k1m0, k1m1, k1m2, k1m3]
  instanceTypes := #[]
  staticTypes := #[]
  resolved := Array.replicate 39 none
  statics := none }

def pool2 : Array CpInfo := pool [(1, .class_ 2), (0, u "java/io/Serializable"), (0, .class_ 4), (0, u "java/lang/Object")] 2

/-- java/io/Serializable -/
def k2 : Class := { plain "java/io/Serializable" (some 0) with
  accessFlags := 1537
  interfaces := #[]
  cf := some (fileOf pool2 1 #[] #[] 1537 3 #[] #[])
  fields := #[]
  methods := #[]
  instanceTypes := #[]
  staticTypes := #[]
  resolved := Array.replicate 7 none
  statics := none }

def pool3 : Array CpInfo := pool [(1, .class_ 2), (0, u "java/lang/Comparable"), (0, .class_ 4), (0, u "java/lang/Object")] 7

/-- java/lang/Comparable -/
def k3 : Class := { plain "java/lang/Comparable" (some 0) with
  accessFlags := 1537
  interfaces := #[]
  cf := some (fileOf pool3 1 #[] #[] 1537 3 #[] #[])
  fields := #[]
  methods := #[]
  instanceTypes := #[]
  staticTypes := #[]
  resolved := Array.replicate 12 none
  statics := none }

def pool4 : Array CpInfo := pool [(2, .class_ 4), (1, u "java/lang/CharSequence"), (42, .class_ 48), (0, u "java/lang/CharSequence$1CodePointIterator"), (10, .class_ 60), (0, u "java/lang/CharSequence$1CharIterator"), (5, .class_ 67), (0, u "java/lang/Object")] 63

/-- java/lang/CharSequence -/
def k4 : Class := { plain "java/lang/CharSequence" (some 0) with
  accessFlags := 1537
  interfaces := #[]
  cf := some (fileOf pool4 2 #[.nestMembers #[47, 59]] #[] 1537 66 #[] #[])
  fields := #[]
  methods := #[]
  instanceTypes := #[]
  staticTypes := #[]
  resolved := Array.replicate 131 none
  statics := none }

def pool5 : Array CpInfo := pool [(1, .class_ 2), (0, u "java/lang/constant/Constable"), (0, .class_ 4), (0, u "java/lang/Object")] 6

/-- java/lang/constant/Constable -/
def k5 : Class := { plain "java/lang/constant/Constable" (some 0) with
  accessFlags := 1537
  interfaces := #[]
  cf := some (fileOf pool5 1 #[] #[] 1537 3 #[] #[])
  fields := #[]
  methods := #[]
  instanceTypes := #[]
  staticTypes := #[]
  resolved := Array.replicate 11 none
  statics := none }

def pool6 : Array CpInfo := pool [(1, .class_ 2), (0, u "java/lang/constant/ConstantDesc"), (0, .class_ 4), (0, u "java/lang/Object")] 32

/-- java/lang/constant/ConstantDesc -/
def k6 : Class := { plain "java/lang/constant/ConstantDesc" (some 0) with
  accessFlags := 1537
  interfaces := #[]
  cf := some (fileOf pool6 1 #[] #[] 1537 3 #[] #[])
  fields := #[]
  methods := #[]
  instanceTypes := #[]
  staticTypes := #[]
  resolved := Array.replicate 37 none
  statics := none }

def pool7 : Array CpInfo := pool [(1, .methodref 2 3), (0, .class_ 4), (0, .nameAndType 5 6), (0, u "java/lang/Object"), (0, u "<init>"), (0, u "()V"), (0, .string 8), (0, u ""), (0, .fieldref 10 11), (0, .class_ 12), (0, .nameAndType 13 14), (0, u "java/lang/String"), (0, u "value"), (0, u "[B"), (0, .fieldref 10 16), (0, .nameAndType 17 18), (0, u "coder"), (0, u "B"), (2, u "hash"), (0, u "I"), (2, u "hashIsZero"), (0, u "Z"), (0, .methodref 10 28), (0, .nameAndType 5 29), (0, u "([CIILjava/lang/Void;)V"), (8, .fieldref 10 39), (0, .nameAndType 40 26), (0, u "COMPACT_STRINGS"), (1, .class_ 44), (1, u "java/lang/StringUTF16"), (0, u "compress"), (1, .methodref 42 48), (0, .nameAndType 49 50), (0, u "coderFromArrayLen"), (0, u "([BI)B"), (56, .class_ 109), (1, u "java/lang/StringLatin1"), (32, u "()Z"), (34, .methodref 42 178), (0, .nameAndType 45 179), (0, u "([CII)[B"), (154, u "()I"), (0, .methodref 10 336), (0, .nameAndType 17 337), (0, u "()B"), (25, u "([BI)C"), (27, u "(II)V"), (35, u "(I)C"), (64, .methodref 10 493), (0, .nameAndType 494 142), (0, u "isLatin1"), (0, .methodref 107 496), (0, .nameAndType 497 363), (0, u "charAt"), (0, .methodref 42 496), (2, u "checkIndex"), (5, u "length"), (67, .class_ 576), (0, u "java/lang/CharSequence"), (22, u "CASE_INSENSITIVE_ORDER"), (0, u "Ljava/util/Comparator;"), (409, u "([C)V"), (42, .fieldref 1054 1055), (0, .class_ 1056), (0, .nameAndType 1057 1058), (0, u "jdk/internal/util/Preconditions"), (0, u "SIOOBE_FORMATTER"), (0, u "Ljava/util/function/BiFunction;"), (0, .methodref 1054 1060), (0, .nameAndType 501 1061), (0, u "(IILjava/util/function/BiFunction;)I"), (39, u "serialPersistentFields"), (0, u "[Ljava/io/ObjectStreamField;"), (0, .class_ 1104), (0, u "java/lang/String$CaseInsensitiveComparator"), (1, .class_ 1107), (0, u "java/io/Serializable"), (0, .class_ 1109), (0, u "java/lang/Comparable"), (0, .class_ 1111), (0, u "java/lang/constant/Constable"), (0, .class_ 1113), (0, u "java/lang/constant/ConstantDesc"), (2, u "serialVersionUID"), (0, u "J"), (3, u "REPL"), (0, u "C"), (2, u "LATIN1"), (1, u "UTF16")] 323

def k7m0 : Method := { name := "<init>", desc := "()V", sig := { parameters := [], returnType := none }, accessFlags := 1, code := none }
def k7c1 : Code := { maxStack := 5, maxLocals := 2, code := jdk_42_method_3_code, exceptionTable := #[], attributes := #[] }
def k7m1 : Method := { name := "<init>", desc := "([C)V", sig := { parameters := [(.array .char)], returnType := none }, accessFlags := 1, code := some k7c1 }
def k7c2 : Code := { maxStack := 2, maxLocals := 1, code := jdk_42_method_54_code, exceptionTable := #[], attributes := #[] }
def k7m2 : Method := { name := "length", desc := "()I", sig := { parameters := [], returnType := some .int }, accessFlags := 1, code := some k7c2 }
def k7c3 : Code := { maxStack := 2, maxLocals := 2, code := jdk_42_method_56_code, exceptionTable := #[], attributes := #[] }
def k7m3 : Method := { name := "charAt", desc := "(I)C", sig := { parameters := [.int], returnType := some .char }, accessFlags := 1, code := some k7c3 }
def k7c4 : Code := { maxStack := 4, maxLocals := 6, code := jdk_42_method_149_code, exceptionTable := #[], attributes := #[] }
def k7m4 : Method := { name := "<init>", desc := "([CIILjava/lang/Void;)V", sig := { parameters := [(.array .char), .int, .int, (.object "java/lang/Void")], returnType := none }, accessFlags := 2, code := some k7c4 }
def k7c5 : Code := { maxStack := 1, maxLocals := 1, code := jdk_42_method_152_code, exceptionTable := #[], attributes := #[] }
def k7m5 : Method := { name := "coder", desc := "()B", sig := { parameters := [], returnType := some .byte }, accessFlags := 0, code := some k7c5 }
def k7c6 : Code := { maxStack := 1, maxLocals := 1, code := jdk_42_method_154_code, exceptionTable := #[], attributes := #[] }
def k7m6 : Method := { name := "isLatin1", desc := "()Z", sig := { parameters := [], returnType := some .boolean }, accessFlags := 0, code := some k7c6 }
def k7c7 : Code := { maxStack := 3, maxLocals := 2, code := jdk_42_method_155_code, exceptionTable := #[], attributes := #[] }
def k7m7 : Method := { name := "checkIndex", desc := "(II)V", sig := { parameters := [.int, .int], returnType := none }, accessFlags := 8, code := some k7c7 }
/-- java/lang/String -/
def k7 : Class := { plain "java/lang/String" (some 0) with
  accessFlags := 49
  interfaces := #[2, 3, 4, 5, 6]
  cf := some (fileOf pool7 10 #[.nestMembers #[1103]] #[{ accessFlags := 1, nameIndex := 5, descriptorIndex := 6, attributes := #[] }, { accessFlags := 1, nameIndex := 5, descriptorIndex := 1010, attributes := #[] }, { accessFlags := 1, nameIndex := 507, descriptorIndex := 334, attributes := #[] }, { accessFlags := 1, nameIndex := 497, descriptorIndex := 427, attributes := #[] }, { accessFlags := 2, nameIndex := 5, descriptorIndex := 29, attributes := #[] }, { accessFlags := 0, nameIndex := 17, descriptorIndex := 337, attributes := #[] }, { accessFlags := 0, nameIndex := 494, descriptorIndex := 142, attributes := #[] }, { accessFlags := 8, nameIndex := 501, descriptorIndex := 391, attributes := #[] }] 49 2 #[1106, 1108, 575, 1110, 1112] #[{ accessFlags := 18, nameIndex := 13, descriptorIndex := 14, attributes := #[] }, { accessFlags := 18, nameIndex := 17, descriptorIndex := 18, attributes := #[] }, { accessFlags := 2, nameIndex := 21, descriptorIndex := 22, attributes := #[] }, { accessFlags := 2, nameIndex := 25, descriptorIndex := 26, attributes := #[] }, { accessFlags := 26, nameIndex := 1116, descriptorIndex := 1117, attributes := #[] }, { accessFlags := 24, nameIndex := 40, descriptorIndex := 26, attributes := #[] }, { accessFlags := 26, nameIndex := 1101, descriptorIndex := 1102, attributes := #[] }, { accessFlags := 26, nameIndex := 1121, descriptorIndex := 1122, attributes := #[] }, { accessFlags := 25, nameIndex := 599, descriptorIndex := 600, attributes := #[] }, { accessFlags := 24, nameIndex := 1125, descriptorIndex := 18, attributes := #[] }, { accessFlags := 24, nameIndex := 1127, descriptorIndex := 18, attributes := #[] }])
  fields := #[{ name := "value", type := (.array .byte), accessFlags := 18, slot := 0, constantValue := 0 }, { name := "coder", type := .byte, accessFlags := 18, slot := 1, constantValue := 0 }, { name := "hash", type := .int, accessFlags := 2, slot := 2, constantValue := 0 }, { name := "hashIsZero", type := .boolean, accessFlags := 2, slot := 3, constantValue := 0 }, { name := "serialVersionUID", type := .long, accessFlags := 26, slot := 0, constantValue := 0 }, { name := "COMPACT_STRINGS", type := .boolean, accessFlags := 24, slot := 1, constantValue := 0 }, { name := "serialPersistentFields", type := (.array (.object "java/io/ObjectStreamField")), accessFlags := 26, slot := 2, constantValue := 0 }, { name := "REPL", type := .char, accessFlags := 26, slot := 3, constantValue := 0 }, { name := "CASE_INSENSITIVE_ORDER", type := (.object "java/util/Comparator"), accessFlags := 25, slot := 4, constantValue := 0 }, { name := "LATIN1", type := .byte, accessFlags := 24, slot := 5, constantValue := 0 }, { name := "UTF16", type := .byte, accessFlags := 24, slot := 6, constantValue := 0 }]
  methods := #[k7m0, k7m1, k7m2, k7m3, k7m4, k7m5, k7m6, k7m7]
  instanceTypes := #[(.array .byte), .byte, .int, .boolean]
  staticTypes := #[.long, .boolean, (.array (.object "java/io/ObjectStreamField")), .char, (.object "java/util/Comparator"), .byte, .byte]
  resolved := Array.replicate 1451 none
  statics := some 0 }

def pool8 : Array CpInfo := pool [(2, .class_ 4), (1, u "java/lang/Object"), (0, u "<init>"), (0, u "()V"), (1, .class_ 10), (1, u "java/lang/Throwable"), (0, u "cause"), (0, u "Ljava/lang/Throwable;"), (2, u "UNASSIGNED_STACK"), (0, u "[Ljava/lang/StackTraceElement;"), (2, u "stackTrace"), (2, u "SUPPRESSED_SENTINEL"), (0, u "Ljava/util/List;"), (2, u "suppressedExceptions"), (6, u "detailMessage"), (0, u "Ljava/lang/String;"), (58, .class_ 94), (0, u "java/lang/Throwable$WrappedPrintStream"), (6, .class_ 103), (1, u "java/lang/Throwable$PrintStreamOrWriter"), (61, u "$assertionsDisabled"), (0, u "Z"), (26, .class_ 194), (0, u "java/lang/Throwable$WrappedPrintWriter"), (5, u "backtrace"), (0, u "Ljava/lang/Object;"), (9, u "depth"), (0, u "I"), (56, .class_ 271), (1, u "java/lang/Throwable$SentinelHolder"), (32, u "EMPTY_THROWABLE_ARRAY"), (0, u "[Ljava/lang/Throwable;"), (12, .class_ 319), (0, u "java/io/Serializable"), (0, u "serialVersionUID"), (0, u "J"), (5, u "NULL_CAUSE_MESSAGE"), (0, u "SELF_SUPPRESSION_MESSAGE"), (0, u "CAUSE_CAPTION"), (0, u "SUPPRESSED_CAPTION")] 73

def k8m0 : Method := { name := "<init>", desc := "()V", sig := { parameters := [], returnType := none }, accessFlags := 1, code := none }
/-- java/lang/Throwable -/
def k8 : Class := { plain "java/lang/Throwable" (some 0) with
  accessFlags := 33
  interfaces := #[2]
  cf := some (fileOf pool8 8 #[.nestMembers #[193, 93, 101, 269]] #[{ accessFlags := 1, nameIndex := 5, descriptorIndex := 6, attributes := #[] }] 33 2 #[318] #[{ accessFlags := 26, nameIndex := 320, descriptorIndex := 321, attributes := #[] }, { accessFlags := 130, nameIndex := 200, descriptorIndex := 201, attributes := #[] }, { accessFlags := 2, nameIndex := 33, descriptorIndex := 34, attributes := #[] }, { accessFlags := 26, nameIndex := 15, descriptorIndex := 16, attributes := #[] }, { accessFlags := 2, nameIndex := 11, descriptorIndex := 12, attributes := #[] }, { accessFlags := 2, nameIndex := 19, descriptorIndex := 16, attributes := #[] }, { accessFlags := 130, nameIndex := 211, descriptorIndex := 212, attributes := #[] }, { accessFlags := 26, nameIndex := 22, descriptorIndex := 23, attributes := #[] }, { accessFlags := 2, nameIndex := 26, descriptorIndex := 23, attributes := #[] }, { accessFlags := 26, nameIndex := 327, descriptorIndex := 34, attributes := #[] }, { accessFlags := 26, nameIndex := 328, descriptorIndex := 34, attributes := #[] }, { accessFlags := 26, nameIndex := 329, descriptorIndex := 34, attributes := #[] }, { accessFlags := 26, nameIndex := 330, descriptorIndex := 34, attributes := #[] }, { accessFlags := 26, nameIndex := 304, descriptorIndex := 305, attributes := #[] }, { accessFlags := 4120, nameIndex := 165, descriptorIndex := 166, attributes := #[] }])
  fields := #[{ name := "serialVersionUID", type := .long, accessFlags := 26, slot := 0, constantValue := 0 }, { name := "backtrace", type := (.object "java/lang/Object"), accessFlags := 130, slot := 0, constantValue := 0 }, { name := "detailMessage", type := (.object "java/lang/String"), accessFlags := 2, slot := 1, constantValue := 0 }, { name := "UNASSIGNED_STACK", type := (.array (.object "java/lang/StackTraceElement")), accessFlags := 26, slot := 1, constantValue := 0 }, { name := "cause", type := (.object "java/lang/Throwable"), accessFlags := 2, slot := 2, constantValue := 0 }, { name := "stackTrace", type := (.array (.object "java/lang/StackTraceElement")), accessFlags := 2, slot := 3, constantValue := 0 }, { name := "depth", type := .int, accessFlags := 130, slot := 4, constantValue := 0 }, { name := "SUPPRESSED_SENTINEL", type := (.object "java/util/List"), accessFlags := 26, slot := 2, constantValue := 0 }, { name := "suppressedExceptions", type := (.object "java/util/List"), accessFlags := 2, slot := 5, constantValue := 0 }, { name := "NULL_CAUSE_MESSAGE", type := (.object "java/lang/String"), accessFlags := 26, slot := 3, constantValue := 0 }, { name := "SELF_SUPPRESSION_MESSAGE", type := (.object "java/lang/String"), accessFlags := 26, slot := 4, constantValue := 0 }, { name := "CAUSE_CAPTION", type := (.object "java/lang/String"), accessFlags := 26, slot := 5, constantValue := 0 }, { name := "SUPPRESSED_CAPTION", type := (.object "java/lang/String"), accessFlags := 26, slot := 6, constantValue := 0 }, { name := "EMPTY_THROWABLE_ARRAY", type := (.array (.object "java/lang/Throwable")), accessFlags := 26, slot := 7, constantValue := 0 }, { name := "$assertionsDisabled", type := .boolean, accessFlags := 4120, slot := 8, constantValue := 0 }]
  methods := #[k8m0]
  instanceTypes := #[(.object "java/lang/Object"), (.object "java/lang/String"), (.object "java/lang/Throwable"), (.array (.object "java/lang/StackTraceElement")), .int, (.object "java/util/List")]
  staticTypes := #[.long, (.array (.object "java/lang/StackTraceElement")), (.object "java/util/List"), (.object "java/lang/String"), (.object "java/lang/String"), (.object "java/lang/String"), (.object "java/lang/String"), (.array (.object "java/lang/Throwable")), .boolean]
  resolved := Array.replicate 404 none
  statics := none }

def pool9 : Array CpInfo := pool [(2, .class_ 4), (1, u "java/lang/Throwable"), (0, u "<init>"), (0, u "()V"), (12, .class_ 20), (0, u "java/lang/Exception"), (0, u "serialVersionUID"), (0, u "J")] 17

def k9m0 : Method := { name := "<init>", desc := "()V", sig := { parameters := [], returnType := none }, accessFlags := 1, code := none }
/-- java/lang/Exception -/
def k9 : Class := { plain "java/lang/Exception" (some 8) with
  accessFlags := 33
  interfaces := #[]
  cf := some (fileOf pool9 19 #[] #[{ accessFlags := 1, nameIndex := 5, descriptorIndex := 6, attributes := #[] }] 33 2 #[] #[{ accessFlags := 24, nameIndex := 21, descriptorIndex := 22, attributes := #[] }])
  fields := #[{ name := "serialVersionUID", type := .long, accessFlags := 24, slot := 0, constantValue := 0 }]
  methods := #[k9m0]
  instanceTypes := #[(.object "java/lang/Object"), (.object "java/lang/String"), (.object "java/lang/Throwable"), (.array (.object "java/lang/StackTraceElement")), .int, (.object "java/util/List")]
  staticTypes := #[.long]
  resolved := Array.replicate 40 none
  statics := none }

def pool10 : Array CpInfo := pool [(2, .class_ 4), (1, u "java/lang/Exception"), (3, .class_ 10), (1, u "com/example/grantline/grantline/server/OAuthError"), (0, u "status"), (0, u "I"), (2, u "code"), (0, u "Ljava/lang/String;"), (2, u "headers"), (0, u "Ljava/util/Map;"), (62, .methodref 84 85), (0, .class_ 86), (0, .nameAndType 87 88), (0, u "java/lang/String"), (0, u "length"), (0, u "()I"), (0, .methodref 84 90), (0, .nameAndType 91 92), (0, u "charAt"), (0, u "(I)C"), (0, u "serialVersionUID"), (0, u "J"), (3, u "BASIC_CHALLENGE"), (0, u "INVALID_REQUEST"), (0, u "UNAUTHORIZED_CLIENT"), (22, u "isDescribable"), (0, u "(Ljava/lang/String;)Z")] 22

def k10c0 : Code := { maxStack := 2, maxLocals := 3, code := prog_30_method_17_code, exceptionTable := #[], attributes := #[] }
def k10m0 : Method := { name := "isDescribable", desc := "(Ljava/lang/String;)Z", sig := { parameters := [(.object "java/lang/String")], returnType := some .boolean }, accessFlags := 8, code := some k10c0 }
/-- com/example/grantline/grantline/server/OAuthError -/
def k10 : Class := { plain "com/example/grantline/grantline/server/OAuthError" (some 9) with
  accessFlags := 48
  interfaces := #[]
  cf := some (fileOf pool10 8 #[] #[{ accessFlags := 8, nameIndex := 123, descriptorIndex := 124, attributes := #[] }] 48 2 #[] #[{ accessFlags := 26, nameIndex := 93, descriptorIndex := 94, attributes := #[] }, { accessFlags := 24, nameIndex := 98, descriptorIndex := 16, attributes := #[] }, { accessFlags := 26, nameIndex := 99, descriptorIndex := 16, attributes := #[] }, { accessFlags := 26, nameIndex := 100, descriptorIndex := 16, attributes := #[] }, { accessFlags := 18, nameIndex := 11, descriptorIndex := 12, attributes := #[] }, { accessFlags := 18, nameIndex := 15, descriptorIndex := 16, attributes := #[] }, { accessFlags := 146, nameIndex := 19, descriptorIndex := 20, attributes := #[] }])
  fields := #[{ name := "serialVersionUID", type := .long, accessFlags := 26, slot := 0, constantValue := 0 }, { name := "BASIC_CHALLENGE", type := (.object "java/lang/String"), accessFlags := 24, slot := 1, constantValue := 0 }, { name := "INVALID_REQUEST", type := (.object "java/lang/String"), accessFlags := 26, slot := 2, constantValue := 0 }, { name := "UNAUTHORIZED_CLIENT", type := (.object "java/lang/String"), accessFlags := 26, slot := 3, constantValue := 0 }, { name := "status", type := .int, accessFlags := 18, slot := 6, constantValue := 0 }, { name := "code", type := (.object "java/lang/String"), accessFlags := 18, slot := 7, constantValue := 0 }, { name := "headers", type := (.object "java/util/Map"), accessFlags := 146, slot := 8, constantValue := 0 }]
  methods := #[k10m0]
  instanceTypes := #[(.object "java/lang/Object"), (.object "java/lang/String"), (.object "java/lang/Throwable"), (.array (.object "java/lang/StackTraceElement")), .int, (.object "java/util/List"), .int, (.object "java/lang/String"), (.object "java/util/Map")]
  staticTypes := #[.long, (.object "java/lang/String"), (.object "java/lang/String"), (.object "java/lang/String")]
  resolved := Array.replicate 147 none
  statics := none }

def pool11 : Array CpInfo := pool [(3, .class_ 4), (0, u "java/lang/String"), (1, .class_ 8), (1, u "java/lang/Object"), (0, u "<init>"), (0, u "()V"), (0, .methodref 12 13), (0, .class_ 14), (0, .nameAndType 15 16), (0, u "java/lang/StringUTF16"), (0, u "newBytesLength"), (0, u "(I)I"), (3, .integer 1073741823), (23, .fieldref 12 45), (0, .nameAndType 46 47), (0, u "$assertionsDisabled"), (0, u "Z"), (0, .methodref 12 49), (0, .nameAndType 50 51), (0, u "length"), (0, u "([B)I"), (7, .fieldref 12 60), (0, .nameAndType 61 62), (0, u "HI_BYTE_SHIFT"), (0, u "I"), (0, .fieldref 12 64), (0, .nameAndType 65 62), (0, u "LO_BYTE_SHIFT"), (1, .methodref 12 68), (0, .nameAndType 69 70), (0, u "checkIndex"), (0, u "(I[B)V"), (0, .methodref 12 72), (0, .nameAndType 73 74), (0, u "getChar"), (0, u "([BI)C"), (32, .methodref 12 108), (0, .nameAndType 109 110), (0, u "newBytesFor"), (0, u "(I)[B"), (0, .methodref 12 112), (0, .nameAndType 113 114), (0, u "putChar"), (0, u "([BII)V"), (0, .methodref 12 116), (0, .nameAndType 117 118), (0, u "compress"), (0, u "([CI[BII)I"), (0, .methodref 12 120), (0, .nameAndType 121 122), (0, u "toBytes"), (0, u "([CII)[B"), (138, u "coderFromArrayLen"), (0, u "([BI)B"), (106, .class_ 371), (1, u "java/lang/StringUTF16$LinesSpliterator"), (20, u "charAt"), (21, .methodref 3 415), (0, .nameAndType 69 416), (0, u "(II)V"), (13, u "MAX_LENGTH"), (196, .class_ 628), (0, u "java/lang/StringUTF16$CodePointsSpliterator"), (0, .class_ 630), (0, u "java/lang/StringUTF16$CharsSpliterator")] 4

def k11m0 : Method := { name := "<init>", desc := "()V", sig := { parameters := [], returnType := none }, accessFlags := 0, code := none }
def k11c1 : Code := { maxStack := 1, maxLocals := 1, code := jdk_52_method_2_code, exceptionTable := #[], attributes := #[] }
def k11m1 : Method := { name := "newBytesFor", desc := "(I)[B", sig := { parameters := [.int], returnType := some (.array .byte) }, accessFlags := 9, code := some k11c1 }
def k11c2 : Code := { maxStack := 4, maxLocals := 1, code := jdk_52_method_3_code, exceptionTable := #[], attributes := #[] }
def k11m2 : Method := { name := "newBytesLength", desc := "(I)I", sig := { parameters := [.int], returnType := some .int }, accessFlags := 9, code := some k11c2 }
def k11c3 : Code := { maxStack := 4, maxLocals := 3, code := jdk_52_method_4_code, exceptionTable := #[], attributes := #[] }
def k11m3 : Method := { name := "putChar", desc := "([BII)V", sig := { parameters := [(.array .byte), .int, .int], returnType := none }, accessFlags := 8, code := some k11c3 }
def k11c4 : Code := { maxStack := 3, maxLocals := 2, code := jdk_52_method_5_code, exceptionTable := #[], attributes := #[] }
def k11m4 : Method := { name := "getChar", desc := "([BI)C", sig := { parameters := [(.array .byte), .int], returnType := some .char }, accessFlags := 8, code := some k11c4 }
def k11c5 : Code := { maxStack := 2, maxLocals := 1, code := jdk_52_method_6_code, exceptionTable := #[], attributes := #[] }
def k11m5 : Method := { name := "length", desc := "([B)I", sig := { parameters := [(.array .byte)], returnType := some .int }, accessFlags := 9, code := some k11c5 }
def k11c6 : Code := { maxStack := 4, maxLocals := 5, code := jdk_52_method_14_code, exceptionTable := #[], attributes := #[] }
def k11m6 : Method := { name := "toBytes", desc := "([CII)[B", sig := { parameters := [(.array .char), .int, .int], returnType := some (.array .byte) }, accessFlags := 9, code := some k11c6 }
def k11c7 : Code := { maxStack := 2, maxLocals := 2, code := jdk_52_method_15_code, exceptionTable := #[], attributes := #[] }
def k11m7 : Method := { name := "coderFromArrayLen", desc := "([BI)B", sig := { parameters := [(.array .byte), .int], returnType := some .byte }, accessFlags := 8, code := some k11c7 }
def k11c8 : Code := { maxStack := 5, maxLocals := 6, code := jdk_52_method_16_code, exceptionTable := #[], attributes := #[] }
def k11m8 : Method := { name := "compress", desc := "([CII)[B", sig := { parameters := [(.array .char), .int, .int], returnType := some (.array .byte) }, accessFlags := 9, code := some k11c8 }
def k11c9 : Code := { maxStack := 3, maxLocals := 7, code := jdk_52_method_21_code, exceptionTable := #[], attributes := #[] }
def k11m9 : Method := { name := "compress", desc := "([CI[BII)I", sig := { parameters := [(.array .char), .int, (.array .byte), .int, .int], returnType := some .int }, accessFlags := 9, code := some k11c9 }
def k11c10 : Code := { maxStack := 2, maxLocals := 2, code := jdk_52_method_83_code, exceptionTable := #[], attributes := #[] }
def k11m10 : Method := { name := "charAt", desc := "([BI)C", sig := { parameters := [(.array .byte), .int], returnType := some .char }, accessFlags := 9, code := some k11c10 }
def k11c11 : Code := { maxStack := 2, maxLocals := 2, code := jdk_52_method_91_code, exceptionTable := #[], attributes := #[] }
def k11m11 : Method := { name := "checkIndex", desc := "(I[B)V", sig := { parameters := [.int, (.array .byte)], returnType := none }, accessFlags := 9, code := some k11c11 }
/-- java/lang/StringUTF16 -/
def k11 : Class := { plain "java/lang/StringUTF16" (some 0) with
  accessFlags := 48
  interfaces := #[]
  cf := some (fileOf pool11 12 #[.nestMembers #[627, 629, 369]] #[{ accessFlags := 0, nameIndex := 9, descriptorIndex := 10, attributes := #[] }, { accessFlags := 9, nameIndex := 109, descriptorIndex := 110, attributes := #[] }, { accessFlags := 9, nameIndex := 15, descriptorIndex := 16, attributes := #[] }, { accessFlags := 8, nameIndex := 113, descriptorIndex := 114, attributes := #[] }, { accessFlags := 8, nameIndex := 73, descriptorIndex := 74, attributes := #[] }, { accessFlags := 9, nameIndex := 50, descriptorIndex := 51, attributes := #[] }, { accessFlags := 9, nameIndex := 121, descriptorIndex := 122, attributes := #[] }, { accessFlags := 8, nameIndex := 261, descriptorIndex := 262, attributes := #[] }, { accessFlags := 9, nameIndex := 117, descriptorIndex := 122, attributes := #[] }, { accessFlags := 9, nameIndex := 117, descriptorIndex := 118, attributes := #[] }, { accessFlags := 9, nameIndex := 392, descriptorIndex := 74, attributes := #[] }, { accessFlags := 9, nameIndex := 69, descriptorIndex := 70, attributes := #[] }] 48 6 #[] #[{ accessFlags := 26, nameIndex := 61, descriptorIndex := 62, attributes := #[] }, { accessFlags := 26, nameIndex := 65, descriptorIndex := 62, attributes := #[] }, { accessFlags := 24, nameIndex := 430, descriptorIndex := 62, attributes := #[] }, { accessFlags := 4120, nameIndex := 46, descriptorIndex := 47, attributes := #[] }])
  fields := #[{ name := "HI_BYTE_SHIFT", type := .int, accessFlags := 26, slot := 0, constantValue := 0 }, { name := "LO_BYTE_SHIFT", type := .int, accessFlags := 26, slot := 1, constantValue := 0 }, { name := "MAX_LENGTH", type := .int, accessFlags := 24, slot := 2, constantValue := 0 }, { name := "$assertionsDisabled", type := .boolean, accessFlags := 4120, slot := 3, constantValue := 0 }]
  methods := #[k11m0, k11m1, k11m2, k11m3, k11m4, k11m5, k11m6, k11m7, k11m8, k11m9, k11m10, k11m11]
  instanceTypes := #[]
  staticTypes := #[.int, .int, .int, .boolean]
  resolved := Array.replicate 635 none
  statics := some 1 }

def pool12 : Array CpInfo := pool [(1, .class_ 2), (0, u "java/lang/String"), (1, .class_ 6), (1, u "java/lang/Object"), (0, u "<init>"), (0, u "()V"), (0, .methodref 1 10), (0, .nameAndType 11 12), (0, u "checkIndex"), (0, u "(II)V"), (1, .class_ 16), (1, u "java/lang/StringLatin1"), (36, u "([BI)C"), (67, u "$assertionsDisabled"), (0, u "Z"), (98, .class_ 223), (1, u "java/lang/StringLatin1$LinesSpliterator"), (28, u "charAt"), (137, .class_ 391), (0, u "java/lang/StringLatin1$CharsSpliterator")] 3

def k12m0 : Method := { name := "<init>", desc := "()V", sig := { parameters := [], returnType := none }, accessFlags := 0, code := none }
def k12c1 : Code := { maxStack := 2, maxLocals := 2, code := jdk_43_method_2_code, exceptionTable := #[], attributes := #[] }
def k12m1 : Method := { name := "charAt", desc := "([BI)C", sig := { parameters := [(.array .byte), .int], returnType := some .char }, accessFlags := 9, code := some k12c1 }
/-- java/lang/StringLatin1 -/
def k12 : Class := { plain "java/lang/StringLatin1" (some 0) with
  accessFlags := 48
  interfaces := #[]
  cf := some (fileOf pool12 14 #[.nestMembers #[390, 221]] #[{ accessFlags := 0, nameIndex := 7, descriptorIndex := 8, attributes := #[] }, { accessFlags := 9, nameIndex := 252, descriptorIndex := 53, attributes := #[] }] 48 4 #[] #[{ accessFlags := 4120, nameIndex := 121, descriptorIndex := 122, attributes := #[] }])
  fields := #[{ name := "$assertionsDisabled", type := .boolean, accessFlags := 4120, slot := 0, constantValue := 0 }]
  methods := #[k12m0, k12m1]
  instanceTypes := #[]
  staticTypes := #[.boolean]
  resolved := Array.replicate 395 none
  statics := none }

def pool13 : Array CpInfo := pool [(2, .class_ 4), (1, u "java/lang/Object"), (0, u "<init>"), (0, u "()V"), (17, .class_ 26), (1, u "jdk/internal/util/Preconditions"), (6, u "checkIndex"), (21, .class_ 56), (0, u "jdk/internal/util/Preconditions$4"), (57, .class_ 115), (0, u "jdk/internal/util/Preconditions$1"), (7, u "SIOOBE_FORMATTER"), (0, u "Ljava/util/function/BiFunction;"), (0, .class_ 126), (0, u "jdk/internal/util/Preconditions$2"), (3, u "AIOOBE_FORMATTER"), (0, .class_ 132), (0, u "jdk/internal/util/Preconditions$3"), (3, u "IOOBE_FORMATTER"), (41, u "(IILjava/util/function/BiFunction;)I")] 15

def k13m0 : Method := { name := "<init>", desc := "()V", sig := { parameters := [], returnType := none }, accessFlags := 1, code := none }
def k13c1 : Code := { maxStack := 3, maxLocals := 3, code := jdk_41_method_11_code, exceptionTable := #[], attributes := #[] }
def k13m1 : Method := { name := "checkIndex", desc := "(IILjava/util/function/BiFunction;)I", sig := { parameters := [.int, .int, (.object "java/util/function/BiFunction")], returnType := some .int }, accessFlags := 9, code := some k13c1 }
/-- jdk/internal/util/Preconditions -/
def k13 : Class := { plain "jdk/internal/util/Preconditions" (some 0) with
  accessFlags := 33
  interfaces := #[]
  cf := some (fileOf pool13 24 #[.nestMembers #[55, 131, 125, 114]] #[{ accessFlags := 1, nameIndex := 5, descriptorIndex := 6, attributes := #[] }, { accessFlags := 9, nameIndex := 33, descriptorIndex := 178, attributes := #[] }] 33 2 #[] #[{ accessFlags := 25, nameIndex := 123, descriptorIndex := 124, attributes := #[] }, { accessFlags := 25, nameIndex := 130, descriptorIndex := 124, attributes := #[] }, { accessFlags := 25, nameIndex := 136, descriptorIndex := 124, attributes := #[] }])
  fields := #[{ name := "SIOOBE_FORMATTER", type := (.object "java/util/function/BiFunction"), accessFlags := 25, slot := 0, constantValue := 0 }, { name := "AIOOBE_FORMATTER", type := (.object "java/util/function/BiFunction"), accessFlags := 25, slot := 1, constantValue := 0 }, { name := "IOOBE_FORMATTER", type := (.object "java/util/function/BiFunction"), accessFlags := 25, slot := 2, constantValue := 0 }]
  methods := #[k13m0, k13m1]
  instanceTypes := #[]
  staticTypes := #[(.object "java/util/function/BiFunction"), (.object "java/util/function/BiFunction"), (.object "java/util/function/BiFunction")]
  resolved := Array.replicate 194 none
  statics := some 2 }

def pool14 : Array CpInfo := pool [(9, u "<init>"), (6, .class_ 18), (1, u "java/lang/Object"), (0, u "()V"), (1, .class_ 23), (1, u "jdk/internal/util/ArraysSupport"), (0, u "LOG2_ARRAY_LONG_INDEX_SCALE"), (0, u "I"), (2, u "U"), (0, u "Ljdk/internal/misc/Unsafe;"), (8, u "BIG_ENDIAN"), (0, u "Z"), (8, u "LOG2_BYTE_BIT_SIZE"), (4, u "LOG2_ARRAY_INT_INDEX_SCALE"), (54, u "JLA"), (0, u "Ljdk/internal/access/JavaLangAccess;"), (11, u "LOG2_ARRAY_BOOLEAN_INDEX_SCALE"), (9, u "LOG2_ARRAY_BYTE_INDEX_SCALE"), (5, u "LOG2_ARRAY_CHAR_INDEX_SCALE"), (5, u "LOG2_ARRAY_SHORT_INDEX_SCALE"), (18, u "LOG2_ARRAY_FLOAT_INDEX_SCALE"), (24, u "LOG2_ARRAY_DOUBLE_INDEX_SCALE"), (89, u "T_BOOLEAN"), (2, u "T_CHAR"), (1, u "T_FLOAT"), (1, u "T_DOUBLE"), (1, u "T_BYTE"), (1, u "T_SHORT"), (1, u "T_INT"), (1, u "T_LONG"), (1, u "SOFT_MAX_ARRAY_LENGTH")] 83

def k14m0 : Method := { name := "<init>", desc := "()V", sig := { parameters := [], returnType := none }, accessFlags := 2, code := none }
/-- jdk/internal/util/ArraysSupport -/
def k14 : Class := { plain "jdk/internal/util/ArraysSupport" (some 0) with
  accessFlags := 33
  interfaces := #[]
  cf := some (fileOf pool14 21 #[] #[{ accessFlags := 2, nameIndex := 9, descriptorIndex := 19, attributes := #[] }] 33 16 #[] #[{ accessFlags := 24, nameIndex := 28, descriptorIndex := 29, attributes := #[] }, { accessFlags := 26, nameIndex := 38, descriptorIndex := 39, attributes := #[] }, { accessFlags := 25, nameIndex := 121, descriptorIndex := 25, attributes := #[] }, { accessFlags := 25, nameIndex := 131, descriptorIndex := 25, attributes := #[] }, { accessFlags := 25, nameIndex := 137, descriptorIndex := 25, attributes := #[] }, { accessFlags := 25, nameIndex := 143, descriptorIndex := 25, attributes := #[] }, { accessFlags := 25, nameIndex := 53, descriptorIndex := 25, attributes := #[] }, { accessFlags := 25, nameIndex := 24, descriptorIndex := 25, attributes := #[] }, { accessFlags := 25, nameIndex := 162, descriptorIndex := 25, attributes := #[] }, { accessFlags := 25, nameIndex := 187, descriptorIndex := 25, attributes := #[] }, { accessFlags := 26, nameIndex := 48, descriptorIndex := 25, attributes := #[] }, { accessFlags := 25, nameIndex := 277, descriptorIndex := 25, attributes := #[] }, { accessFlags := 25, nameIndex := 280, descriptorIndex := 25, attributes := #[] }, { accessFlags := 25, nameIndex := 282, descriptorIndex := 25, attributes := #[] }, { accessFlags := 25, nameIndex := 284, descriptorIndex := 25, attributes := #[] }, { accessFlags := 25, nameIndex := 286, descriptorIndex := 25, attributes := #[] }, { accessFlags := 25, nameIndex := 288, descriptorIndex := 25, attributes := #[] }, { accessFlags := 25, nameIndex := 290, descriptorIndex := 25, attributes := #[] }, { accessFlags := 25, nameIndex := 292, descriptorIndex := 25, attributes := #[] }, { accessFlags := 26, nameIndex := 108, descriptorIndex := 109, attributes := #[] }, { accessFlags := 25, nameIndex := 294, descriptorIndex := 25, attributes := #[] }])
  fields := #[{ name := "U", type := (.object "jdk/internal/misc/Unsafe"), accessFlags := 24, slot := 0, constantValue := 0 }, { name := "BIG_ENDIAN", type := .boolean, accessFlags := 26, slot := 1, constantValue := 0 }, { name := "LOG2_ARRAY_BOOLEAN_INDEX_SCALE", type := .int, accessFlags := 25, slot := 2, constantValue := 0 }, { name := "LOG2_ARRAY_BYTE_INDEX_SCALE", type := .int, accessFlags := 25, slot := 3, constantValue := 0 }, { name := "LOG2_ARRAY_CHAR_INDEX_SCALE", type := .int, accessFlags := 25, slot := 4, constantValue := 0 }, { name := "LOG2_ARRAY_SHORT_INDEX_SCALE", type := .int, accessFlags := 25, slot := 5, constantValue := 0 }, { name := "LOG2_ARRAY_INT_INDEX_SCALE", type := .int, accessFlags := 25, slot := 6, constantValue := 0 }, { name := "LOG2_ARRAY_LONG_INDEX_SCALE", type := .int, accessFlags := 25, slot := 7, constantValue := 0 }, { name := "LOG2_ARRAY_FLOAT_INDEX_SCALE", type := .int, accessFlags := 25, slot := 8, constantValue := 0 }, { name := "LOG2_ARRAY_DOUBLE_INDEX_SCALE", type := .int, accessFlags := 25, slot := 9, constantValue := 0 }, { name := "LOG2_BYTE_BIT_SIZE", type := .int, accessFlags := 26, slot := 10, constantValue := 0 }, { name := "T_BOOLEAN", type := .int, accessFlags := 25, slot := 11, constantValue := 0 }, { name := "T_CHAR", type := .int, accessFlags := 25, slot := 12, constantValue := 0 }, { name := "T_FLOAT", type := .int, accessFlags := 25, slot := 13, constantValue := 0 }, { name := "T_DOUBLE", type := .int, accessFlags := 25, slot := 14, constantValue := 0 }, { name := "T_BYTE", type := .int, accessFlags := 25, slot := 15, constantValue := 0 }, { name := "T_SHORT", type := .int, accessFlags := 25, slot := 16, constantValue := 0 }, { name := "T_INT", type := .int, accessFlags := 25, slot := 17, constantValue := 0 }, { name := "T_LONG", type := .int, accessFlags := 25, slot := 18, constantValue := 0 }, { name := "JLA", type := (.object "jdk/internal/access/JavaLangAccess"), accessFlags := 26, slot := 19, constantValue := 0 }, { name := "SOFT_MAX_ARRAY_LENGTH", type := .int, accessFlags := 25, slot := 20, constantValue := 0 }]
  methods := #[k14m0]
  instanceTypes := #[]
  staticTypes := #[(.object "jdk/internal/misc/Unsafe"), .boolean, .int, .int, .int, .int, .int, .int, .int, .int, .int, .int, .int, .int, .int, .int, .int, .int, .int, (.object "jdk/internal/access/JavaLangAccess"), .int]
  resolved := Array.replicate 378 none
  statics := none }

def pool15 : Array CpInfo := pool [(1, u "java/lang/Cloneable"), (0, .class_ 1), (0, u "java/lang/Object"), (0, .class_ 3)] 3

/-- java/lang/Cloneable -/
def k15 : Class := { plain "java/lang/Cloneable" (some 0) with
  accessFlags := 1537
  interfaces := #[]
  cf := some (fileOf pool15 2 #[] #[] 1537 4 #[] #[])
  fields := #[]
  methods := #[]
  instanceTypes := #[]
  staticTypes := #[]
  resolved := Array.replicate 8 none
  statics := none }

/-- the primitive byte -/
def k16 : Class := { plain "byte" none with kind := .primitive 'B', accessFlags := 0x411 }
/-- [B -/
def k17 : Class := { plain "[B" (some 0) with kind := .array 16 .byte, interfaces := #[15, 2], accessFlags := 1041 }

/-- the primitive char -/
def k18 : Class := { plain "char" none with kind := .primitive 'C', accessFlags := 0x411 }
/-- [C -/
def k19 : Class := { plain "[C" (some 0) with kind := .array 18 .char, interfaces := #[15, 2], accessFlags := 1041 }

/-- the primitive int -/
def k20 : Class := { plain "int" none with kind := .primitive 'I', accessFlags := 0x411 }
/-- [I -/
def k21 : Class := { plain "[I" (some 0) with kind := .array 20 .int, interfaces := #[15, 2], accessFlags := 1041 }

def heap : Heap := #[{ cls := 7, slots := #[.long 0, .int 1, .null, .int 0, .null, .int 0, .int 0], vm := .statics 7 },
  { cls := 11, slots := #[.int 0, .int 8, .int 0, .int 1], vm := .statics 11 },
  { cls := 13, slots := #[.null, .null, .null], vm := .statics 13 }]
def classes : Array Class := #[k0, k1, k2, k3, k4, k5, k6, k7, k8, k9, k10, k11, k12, k13, k14, k15, k16, k17, k18, k19, k20, k21]
def interned : List (Array UInt16 × Addr) := []
def slotsUsed : Nat := 14
def theMethod : MethodId := ⟨1, 3⟩
def args0 : Array Value := #[.int 2, .int 65, .int 66, .int 7, .int 5]
def aboutOver (below : List Frame) : State where
  vm := { classes := classes, interned := interned.toArray }
  heap := heap
  slotsUsed := slotsUsed
  threads := #[{ frames := .invoking theMethod args0 :: below }]
def below0 : List Frame := [.native { method := ⟨0, 0⟩, args := #[] }]
def about1 : State := aboutOver below0
def p0 : Program := .bare "" "" ""
def e0 : Env := launch0.env 0 0 0
theorem w_frames : about1.frames = Frame.invoking theMethod args0 :: below0 := rfl
set_option maxRecDepth 65536 in
theorem w_args : argsFit about1.vm theMethod args0 = true := by decide +kernel
set_option maxRecDepth 65536 in
theorem w_heap : heapFits about1 = true := by decide +kernel
set_option maxRecDepth 65536 in
theorem w_runnable : about1.curStatus? = some .runnable := by decide +kernel
set_option maxRecDepth 65536 in
theorem w_alone : about1.alone = true := by decide +kernel
set_option maxRecDepth 65536 in
theorem w_named : about1.methodNamed? x = some theMethod := by decide +kernel
set_option maxRecDepth 65536 in
theorem w_hears : about1.hears theMethod below0 = true := by decide +kernel
set_option maxRecDepth 65536 in
theorem w_ripe : about1.ripe theMethod args0 below0 = true := by decide +kernel
theorem w_running : about1.status = .running := rfl
set_option maxRecDepth 65536 in
theorem w_room : about1.hasRoom e0.platform room_1 = true :=
  launch0.hasRoom_least _ room_1 (by decide +kernel) (by decide +kernel) (by decide +kernel) (by decide +kernel) (by decide +kernel) (by decide +kernel)
theorem allAtoms_all (ts : List Jvm.Cond) (a : Array Jvm.Value) (st : Jvm.State) : (allAtoms ts).before a st = ts.all (fun c => c.before a st) := by
  induction ts with
  | nil => rfl
  | cons c t ih =>
    show (Jvm.Cond.and c (allAtoms t)).before a st = _
    rw [Jvm.Cond.before_and, ih, List.all_cons]
def words1 : List Jvm.Cond := Jvm.Cond.code x code maxLocals ret :: tables_1
/-- a 'code' word, met by the world's own term for the bytes: nothing is compared byte by byte -/
theorem code_word {y : MethodName} {bytes : ByteArray} {mx : Nat} {rt : Option FieldType} {a : Array Value} {s : State} {m : MethodId} {meth : Method} {c : Code} (h1 : s.methodNamed? y = some m) (h2 : s.vm.method? m = some meth) (h3 : meth.code = some c) (h4 : c.code = bytes)
    (h5 : (c.maxLocals == mx && c.exceptionTable.isEmpty && decide (c.maxStack ≤ mostOperands) && decide (meth.sig.returnType = rt) && !meth.locks && decide (parseMethodDescriptor y.desc = some meth.sig)) = true) : (Jvm.Cond.code y bytes mx rt).before a s = true := by
  simp only [Bool.and_eq_true, beq_iff_eq, Bool.not_eq_true', decide_eq_true_eq] at h5
  obtain ⟨⟨⟨⟨⟨g1, g2⟩, g3⟩, g4⟩, g5⟩, g6⟩ := h5
  simp [Cond.before, Cond.holds, Cond.value, h1, h2, h3, h4, g1, g2, g3, g4, g5, g6]
def isCode : Jvm.Cond → Bool
  | .code _ _ _ _ => true
  | _ => false
theorem all_split {L : List Jvm.Cond} {P : Jvm.Cond → Bool} (h1 : L.all (fun c => isCode c || P c) = true) (h2 : ∀ c ∈ L.filter isCode, P c = true) : L.all P = true := by
  refine List.all_eq_true.mpr fun c hc => ?_
  have h := List.all_eq_true.mp h1 c hc
  rcases Bool.eq_false_or_eq_true (isCode c) with hi | hi
  · exact h2 c (List.mem_filter.mpr ⟨hc, hi⟩)
  · simpa [hi] using h
set_option maxRecDepth 65536 in
theorem w_c0 : (Jvm.Cond.code x code maxLocals ret).before args0 about1 = true := code_word (m := ⟨1, 3⟩) (meth := k1m3) (c := k1c3) (by decide +kernel) rfl rfl rfl (by decide +kernel)
set_option maxRecDepth 65536 in
theorem w_c1 : (Jvm.Cond.code ({ cls := "com/example/grantline/grantline/server/OAuthErrorIsDescribablePinLaw", name := "draw", desc := "(I)C" } : Jvm.MethodName) method_3_code (1 : Nat) (Option.some Jvm.ClassFile.FieldType.char)).before args0 about1 = true := code_word (m := ⟨1, 2⟩) (meth := k1m2) (c := k1c2) (by decide +kernel) rfl rfl rfl (by decide +kernel)
set_option maxRecDepth 65536 in
theorem w_c2 : (Jvm.Cond.code ({ cls := "java/lang/String", name := "<init>", desc := "([C)V" } : Jvm.MethodName) jdk_42_method_3_code (2 : Nat) (Option.none : Option Jvm.ClassFile.FieldType)).before args0 about1 = true := code_word (m := ⟨7, 1⟩) (meth := k7m1) (c := k7c1) (by decide +kernel) rfl rfl rfl (by decide +kernel)
set_option maxRecDepth 65536 in
theorem w_c3 : (Jvm.Cond.code ({ cls := "java/lang/String", name := "<init>", desc := "([CIILjava/lang/Void;)V" } : Jvm.MethodName) jdk_42_method_149_code (6 : Nat) (Option.none : Option Jvm.ClassFile.FieldType)).before args0 about1 = true := code_word (m := ⟨7, 4⟩) (meth := k7m4) (c := k7c4) (by decide +kernel) rfl rfl rfl (by decide +kernel)
set_option maxRecDepth 65536 in
theorem w_c4 : (Jvm.Cond.code ({ cls := "java/lang/Object", name := "<init>", desc := "()V" } : Jvm.MethodName) object_method_1_code (1 : Nat) (Option.none : Option Jvm.ClassFile.FieldType)).before args0 about1 = true := code_word (m := ⟨0, 0⟩) (meth := k0m0) (c := k0c0) (by decide +kernel) rfl rfl rfl (by decide +kernel)
set_option maxRecDepth 65536 in
theorem w_c5 : (Jvm.Cond.code ({ cls := "com/example/grantline/grantline/server/OAuthError", name := "isDescribable", desc := "(Ljava/lang/String;)Z" } : Jvm.MethodName) prog_30_method_17_code (3 : Nat) (Option.some Jvm.ClassFile.FieldType.boolean)).before args0 about1 = true := code_word (m := ⟨10, 0⟩) (meth := k10m0) (c := k10c0) (by decide +kernel) rfl rfl rfl (by decide +kernel)
set_option maxRecDepth 65536 in
theorem w_c6 : (Jvm.Cond.code ({ cls := "java/lang/String", name := "length", desc := "()I" } : Jvm.MethodName) jdk_42_method_54_code (1 : Nat) (Option.some Jvm.ClassFile.FieldType.int)).before args0 about1 = true := code_word (m := ⟨7, 2⟩) (meth := k7m2) (c := k7c2) (by decide +kernel) rfl rfl rfl (by decide +kernel)
set_option maxRecDepth 65536 in
theorem w_c7 : (Jvm.Cond.code ({ cls := "java/lang/String", name := "coder", desc := "()B" } : Jvm.MethodName) jdk_42_method_152_code (1 : Nat) (Option.some Jvm.ClassFile.FieldType.byte)).before args0 about1 = true := code_word (m := ⟨7, 5⟩) (meth := k7m5) (c := k7c5) (by decide +kernel) rfl rfl rfl (by decide +kernel)
set_option maxRecDepth 65536 in
theorem w_c8 : (Jvm.Cond.code ({ cls := "java/lang/StringUTF16", name := "compress", desc := "([CII)[B" } : Jvm.MethodName) jdk_52_method_16_code (6 : Nat) (Option.some (Jvm.ClassFile.FieldType.array Jvm.ClassFile.FieldType.byte))).before args0 about1 = true := code_word (m := ⟨11, 8⟩) (meth := k11m8) (c := k11c8) (by decide +kernel) rfl rfl rfl (by decide +kernel)
set_option maxRecDepth 65536 in
theorem w_c9 : (Jvm.Cond.code ({ cls := "java/lang/StringUTF16", name := "compress", desc := "([CI[BII)I" } : Jvm.MethodName) jdk_52_method_21_code (7 : Nat) (Option.some Jvm.ClassFile.FieldType.int)).before args0 about1 = true := code_word (m := ⟨11, 9⟩) (meth := k11m9) (c := k11c9) (by decide +kernel) rfl rfl rfl (by decide +kernel)
set_option maxRecDepth 65536 in
theorem w_c10 : (Jvm.Cond.code ({ cls := "java/lang/StringUTF16", name := "coderFromArrayLen", desc := "([BI)B" } : Jvm.MethodName) jdk_52_method_15_code (2 : Nat) (Option.some Jvm.ClassFile.FieldType.byte)).before args0 about1 = true := code_word (m := ⟨11, 7⟩) (meth := k11m7) (c := k11c7) (by decide +kernel) rfl rfl rfl (by decide +kernel)
set_option maxRecDepth 65536 in
theorem w_c11 : (Jvm.Cond.code ({ cls := "com/example/grantline/grantline/server/OAuthErrorIsDescribablePinLaw", name := "allowed", desc := "(C)Z" } : Jvm.MethodName) method_2_code (1 : Nat) (Option.some Jvm.ClassFile.FieldType.boolean)).before args0 about1 = true := code_word (m := ⟨1, 1⟩) (meth := k1m1) (c := k1c1) (by decide +kernel) rfl rfl rfl (by decide +kernel)
set_option maxRecDepth 65536 in
theorem w_c12 : (Jvm.Cond.code ({ cls := "java/lang/String", name := "charAt", desc := "(I)C" } : Jvm.MethodName) jdk_42_method_56_code (2 : Nat) (Option.some Jvm.ClassFile.FieldType.char)).before args0 about1 = true := code_word (m := ⟨7, 3⟩) (meth := k7m3) (c := k7c3) (by decide +kernel) rfl rfl rfl (by decide +kernel)
set_option maxRecDepth 65536 in
theorem w_c13 : (Jvm.Cond.code ({ cls := "java/lang/String", name := "isLatin1", desc := "()Z" } : Jvm.MethodName) jdk_42_method_154_code (1 : Nat) (Option.some Jvm.ClassFile.FieldType.boolean)).before args0 about1 = true := code_word (m := ⟨7, 6⟩) (meth := k7m6) (c := k7c6) (by decide +kernel) rfl rfl rfl (by decide +kernel)
set_option maxRecDepth 65536 in
theorem w_c14 : (Jvm.Cond.code ({ cls := "java/lang/StringLatin1", name := "charAt", desc := "([BI)C" } : Jvm.MethodName) jdk_43_method_2_code (2 : Nat) (Option.some Jvm.ClassFile.FieldType.char)).before args0 about1 = true := code_word (m := ⟨12, 1⟩) (meth := k12m1) (c := k12c1) (by decide +kernel) rfl rfl rfl (by decide +kernel)
set_option maxRecDepth 65536 in
theorem w_c15 : (Jvm.Cond.code ({ cls := "java/lang/String", name := "checkIndex", desc := "(II)V" } : Jvm.MethodName) jdk_42_method_155_code (2 : Nat) (Option.none : Option Jvm.ClassFile.FieldType)).before args0 about1 = true := code_word (m := ⟨7, 7⟩) (meth := k7m7) (c := k7c7) (by decide +kernel) rfl rfl rfl (by decide +kernel)
set_option maxRecDepth 65536 in
theorem w_c16 : (Jvm.Cond.code ({ cls := "jdk/internal/util/Preconditions", name := "checkIndex", desc := "(IILjava/util/function/BiFunction;)I" } : Jvm.MethodName) jdk_41_method_11_code (3 : Nat) (Option.some Jvm.ClassFile.FieldType.int)).before args0 about1 = true := code_word (m := ⟨13, 1⟩) (meth := k13m1) (c := k13c1) (by decide +kernel) rfl rfl rfl (by decide +kernel)
set_option maxRecDepth 65536 in
theorem w_c17 : (Jvm.Cond.code ({ cls := "java/lang/StringUTF16", name := "toBytes", desc := "([CII)[B" } : Jvm.MethodName) jdk_52_method_14_code (5 : Nat) (Option.some (Jvm.ClassFile.FieldType.array Jvm.ClassFile.FieldType.byte))).before args0 about1 = true := code_word (m := ⟨11, 6⟩) (meth := k11m6) (c := k11c6) (by decide +kernel) rfl rfl rfl (by decide +kernel)
set_option maxRecDepth 65536 in
theorem w_c18 : (Jvm.Cond.code ({ cls := "java/lang/StringUTF16", name := "newBytesFor", desc := "(I)[B" } : Jvm.MethodName) jdk_52_method_2_code (1 : Nat) (Option.some (Jvm.ClassFile.FieldType.array Jvm.ClassFile.FieldType.byte))).before args0 about1 = true := code_word (m := ⟨11, 1⟩) (meth := k11m1) (c := k11c1) (by decide +kernel) rfl rfl rfl (by decide +kernel)
set_option maxRecDepth 65536 in
theorem w_c19 : (Jvm.Cond.code ({ cls := "java/lang/StringUTF16", name := "newBytesLength", desc := "(I)I" } : Jvm.MethodName) jdk_52_method_3_code (1 : Nat) (Option.some Jvm.ClassFile.FieldType.int)).before args0 about1 = true := code_word (m := ⟨11, 2⟩) (meth := k11m2) (c := k11c2) (by decide +kernel) rfl rfl rfl (by decide +kernel)
set_option maxRecDepth 65536 in
theorem w_c20 : (Jvm.Cond.code ({ cls := "java/lang/StringUTF16", name := "putChar", desc := "([BII)V" } : Jvm.MethodName) jdk_52_method_4_code (3 : Nat) (Option.none : Option Jvm.ClassFile.FieldType)).before args0 about1 = true := code_word (m := ⟨11, 3⟩) (meth := k11m3) (c := k11c3) (by decide +kernel) rfl rfl rfl (by decide +kernel)
set_option maxRecDepth 65536 in
theorem w_c21 : (Jvm.Cond.code ({ cls := "java/lang/StringUTF16", name := "getChar", desc := "([BI)C" } : Jvm.MethodName) jdk_52_method_5_code (2 : Nat) (Option.some Jvm.ClassFile.FieldType.char)).before args0 about1 = true := code_word (m := ⟨11, 4⟩) (meth := k11m4) (c := k11c4) (by decide +kernel) rfl rfl rfl (by decide +kernel)
set_option maxRecDepth 65536 in
theorem w_c22 : (Jvm.Cond.code ({ cls := "java/lang/StringUTF16", name := "charAt", desc := "([BI)C" } : Jvm.MethodName) jdk_52_method_83_code (2 : Nat) (Option.some Jvm.ClassFile.FieldType.char)).before args0 about1 = true := code_word (m := ⟨11, 10⟩) (meth := k11m10) (c := k11c10) (by decide +kernel) rfl rfl rfl (by decide +kernel)
set_option maxRecDepth 65536 in
theorem w_c23 : (Jvm.Cond.code ({ cls := "java/lang/StringUTF16", name := "checkIndex", desc := "(I[B)V" } : Jvm.MethodName) jdk_52_method_91_code (2 : Nat) (Option.none : Option Jvm.ClassFile.FieldType)).before args0 about1 = true := code_word (m := ⟨11, 11⟩) (meth := k11m11) (c := k11c11) (by decide +kernel) rfl rfl rfl (by decide +kernel)
set_option maxRecDepth 65536 in
theorem w_c24 : (Jvm.Cond.code ({ cls := "java/lang/StringUTF16", name := "length", desc := "([B)I" } : Jvm.MethodName) jdk_52_method_6_code (1 : Nat) (Option.some Jvm.ClassFile.FieldType.int)).before args0 about1 = true := code_word (m := ⟨11, 5⟩) (meth := k11m5) (c := k11c5) (by decide +kernel) rfl rfl rfl (by decide +kernel)
def codes1 : List Jvm.Cond := [Jvm.Cond.code x code maxLocals ret, Jvm.Cond.code ({ cls := "com/example/grantline/grantline/server/OAuthErrorIsDescribablePinLaw", name := "draw", desc := "(I)C" } : Jvm.MethodName) method_3_code (1 : Nat) (Option.some Jvm.ClassFile.FieldType.char), Jvm.Cond.code ({ cls := "java/lang/String", name := "<init>", desc := "([C)V" } : Jvm.MethodName) jdk_42_method_3_code (2 : Nat) (Option.none : Option Jvm.ClassFile.FieldType), Jvm.Cond.code ({ cls := "java/lang/String", name := "<init>", desc := "([CIILjava/lang/Void;)V" } : Jvm.MethodName) jdk_42_method_149_code (6 : Nat) (Option.none : Option Jvm.ClassFile.FieldType), Jvm.Cond.code ({ cls := "java/lang/Object", name := "<init>", desc := "()V" } : Jvm.MethodName) object_method_1_code (1 : Nat) (Option.none : Option Jvm.ClassFile.FieldType), Jvm.Cond.code ({ cls := "com/example/grantline/grantline/server/OAuthError", name := "isDescribable", desc := "(Ljava/lang/String;)Z" } : Jvm.MethodName) prog_30_method_17_code (3 : Nat) (Option.some Jvm.ClassFile.FieldType.boolean), Jvm.Cond.code ({ cls := "java/lang/String", name := "length", desc := "()I" } : Jvm.MethodName) jdk_42_method_54_code (1 : Nat) (Option.some Jvm.ClassFile.FieldType.int), Jvm.Cond.code ({ cls := "java/lang/String", name := "coder", desc := "()B" } : Jvm.MethodName) jdk_42_method_152_code (1 : Nat) (Option.some Jvm.ClassFile.FieldType.byte), Jvm.Cond.code ({ cls := "java/lang/StringUTF16", name := "compress", desc := "([CII)[B" } : Jvm.MethodName) jdk_52_method_16_code (6 : Nat) (Option.some (Jvm.ClassFile.FieldType.array Jvm.ClassFile.FieldType.byte)), Jvm.Cond.code ({ cls := "java/lang/StringUTF16", name := "compress", desc := "([CI[BII)I" } : Jvm.MethodName) jdk_52_method_21_code (7 : Nat) (Option.some Jvm.ClassFile.FieldType.int), Jvm.Cond.code ({ cls := "java/lang/StringUTF16", name := "coderFromArrayLen", desc := "([BI)B" } : Jvm.MethodName) jdk_52_method_15_code (2 : Nat) (Option.some Jvm.ClassFile.FieldType.byte), Jvm.Cond.code ({ cls := "com/example/grantline/grantline/server/OAuthErrorIsDescribablePinLaw", name := "allowed", desc := "(C)Z" } : Jvm.MethodName) method_2_code (1 : Nat) (Option.some Jvm.ClassFile.FieldType.boolean), Jvm.Cond.code ({ cls := "java/lang/String", name := "charAt", desc := "(I)C" } : Jvm.MethodName) jdk_42_method_56_code (2 : Nat) (Option.some Jvm.ClassFile.FieldType.char), Jvm.Cond.code ({ cls := "java/lang/String", name := "isLatin1", desc := "()Z" } : Jvm.MethodName) jdk_42_method_154_code (1 : Nat) (Option.some Jvm.ClassFile.FieldType.boolean), Jvm.Cond.code ({ cls := "java/lang/StringLatin1", name := "charAt", desc := "([BI)C" } : Jvm.MethodName) jdk_43_method_2_code (2 : Nat) (Option.some Jvm.ClassFile.FieldType.char), Jvm.Cond.code ({ cls := "java/lang/String", name := "checkIndex", desc := "(II)V" } : Jvm.MethodName) jdk_42_method_155_code (2 : Nat) (Option.none : Option Jvm.ClassFile.FieldType), Jvm.Cond.code ({ cls := "jdk/internal/util/Preconditions", name := "checkIndex", desc := "(IILjava/util/function/BiFunction;)I" } : Jvm.MethodName) jdk_41_method_11_code (3 : Nat) (Option.some Jvm.ClassFile.FieldType.int), Jvm.Cond.code ({ cls := "java/lang/StringUTF16", name := "toBytes", desc := "([CII)[B" } : Jvm.MethodName) jdk_52_method_14_code (5 : Nat) (Option.some (Jvm.ClassFile.FieldType.array Jvm.ClassFile.FieldType.byte)), Jvm.Cond.code ({ cls := "java/lang/StringUTF16", name := "newBytesFor", desc := "(I)[B" } : Jvm.MethodName) jdk_52_method_2_code (1 : Nat) (Option.some (Jvm.ClassFile.FieldType.array Jvm.ClassFile.FieldType.byte)), Jvm.Cond.code ({ cls := "java/lang/StringUTF16", name := "newBytesLength", desc := "(I)I" } : Jvm.MethodName) jdk_52_method_3_code (1 : Nat) (Option.some Jvm.ClassFile.FieldType.int), Jvm.Cond.code ({ cls := "java/lang/StringUTF16", name := "putChar", desc := "([BII)V" } : Jvm.MethodName) jdk_52_method_4_code (3 : Nat) (Option.none : Option Jvm.ClassFile.FieldType), Jvm.Cond.code ({ cls := "java/lang/StringUTF16", name := "getChar", desc := "([BI)C" } : Jvm.MethodName) jdk_52_method_5_code (2 : Nat) (Option.some Jvm.ClassFile.FieldType.char), Jvm.Cond.code ({ cls := "java/lang/StringUTF16", name := "charAt", desc := "([BI)C" } : Jvm.MethodName) jdk_52_method_83_code (2 : Nat) (Option.some Jvm.ClassFile.FieldType.char), Jvm.Cond.code ({ cls := "java/lang/StringUTF16", name := "checkIndex", desc := "(I[B)V" } : Jvm.MethodName) jdk_52_method_91_code (2 : Nat) (Option.none : Option Jvm.ClassFile.FieldType), Jvm.Cond.code ({ cls := "java/lang/StringUTF16", name := "length", desc := "([B)I" } : Jvm.MethodName) jdk_52_method_6_code (1 : Nat) (Option.some Jvm.ClassFile.FieldType.int)]
set_option maxRecDepth 65536 in
theorem codes_eq : words1.filter isCode = codes1 := rfl
theorem w_codes : ∀ c ∈ words1.filter isCode, c.before args0 about1 = true := by
  rw [codes_eq]
  intro c hc
  simp only [codes1, List.mem_cons, List.not_mem_nil, or_false] at hc
  rcases hc with rfl | rfl | rfl | rfl | rfl | rfl | rfl | rfl | rfl | rfl | rfl | rfl | rfl | rfl | rfl | rfl | rfl | rfl | rfl | rfl | rfl | rfl | rfl | rfl | rfl
  · exact w_c0
  · exact w_c1
  · exact w_c2
  · exact w_c3
  · exact w_c4
  · exact w_c5
  · exact w_c6
  · exact w_c7
  · exact w_c8
  · exact w_c9
  · exact w_c10
  · exact w_c11
  · exact w_c12
  · exact w_c13
  · exact w_c14
  · exact w_c15
  · exact w_c16
  · exact w_c17
  · exact w_c18
  · exact w_c19
  · exact w_c20
  · exact w_c21
  · exact w_c22
  · exact w_c23
  · exact w_c24
set_option maxRecDepth 65536 in
theorem w_t1 : (words1.take 24).all (fun c => isCode c || c.before args0 about1) = true := by decide +kernel
set_option maxRecDepth 65536 in
theorem w_t2 : ((words1.drop 24).take 24).all (fun c => isCode c || c.before args0 about1) = true := by decide +kernel
set_option maxRecDepth 65536 in
theorem w_t3 : (((words1.drop 24).drop 24).take 24).all (fun c => isCode c || c.before args0 about1) = true := by decide +kernel
set_option maxRecDepth 65536 in
theorem w_t4 : ((((words1.drop 24).drop 24).drop 24).take 24).all (fun c => isCode c || c.before args0 about1) = true := by decide +kernel
set_option maxRecDepth 65536 in
theorem w_t5 : ((((words1.drop 24).drop 24).drop 24).drop 24).all (fun c => isCode c || c.before args0 about1) = true := by decide +kernel
theorem w_tables : (allAtoms (Jvm.Cond.code x code maxLocals ret :: tables_1)).before args0 about1 = true := by
  rw [allAtoms_all]
  show words1.all (fun c => c.before args0 about1) = true
  refine all_split ?_ w_codes
  rw [← List.take_append_drop 24 words1, List.all_append, w_t1, ← List.take_append_drop 24 (words1.drop 24), List.all_append, w_t2, ← List.take_append_drop 24 ((words1.drop 24).drop 24), List.all_append, w_t3, ← List.take_append_drop 24 (((words1.drop 24).drop 24).drop 24), List.all_append, w_t4, w_t5]
  rfl
set_option maxRecDepth 65536 in
theorem w_rest : rest_1_c.before args0 about1 = true := by decide +kernel
set_option maxRecDepth 65536 in
theorem w_case : (Jvm.Cond.and given_1 narrow_1).before args0 about1 = true := by decide +kernel
set_option maxRecDepth 65536 in
theorem w_consts : constsHeld consts_1 about1 := Jvm.Lit.constsHeldB_iff.mp (by decide +kernel)
theorem w_applies : (headSpec (Jvm.Cond.code x code maxLocals ret :: tables_1) room_1).applies x e0.platform about1 = true :=
  (Spec.applies_iff w_frames).mpr ⟨w_running, w_runnable, w_alone, w_named, w_hears, w_ripe, w_room, w_tables⟩
theorem atStart : AtStart classFile x code maxLocals ret World_1 tables_1 room_1 Calls_1 rest_1 Pre_1 launch0 p0 e0 about1 theMethod args0 below0 :=
  ⟨lists_1, trivial, launch0.admits_env _ _ _, launch0.least_env, fairChoices_fair.cas, fairChoices_fair.clock, w_frames, w_args, w_heap, w_applies, ⟨w_consts, trivial⟩, w_rest, w_case⟩
end start1
theorem witness_1 : WitnessClaimed_1 := ⟨start1.p0, start1.e0, start1.about1, start1.theMethod, start1.args0, start1.below0, start1.atStart⟩
end Jvm.Pilot.@@N@@
