import JvmDerived
import JvmDerived.Pilot.@@N@@Statement
import JvmDerived.Pilot.@@N@@Code
set_option linter.unusedVariables false
set_option linter.unusedSimpArgs false
namespace Jvm.Own
open Sem ClassFile Op Lib Jvm.Stand Jvm.Free Jvm.LawKit Jvm.RoadKit
/-! A plain store over the heap: what each address that matters holds. -/
abbrev Key : Type := String × String × String
abbrev Obj : Type := Sum (String × List (Key × Value)) (FieldType × List Value)
abbrev Mem : Type := Addr → Option Obj
def upd (μ : Mem) (a : Addr) (o : Obj) : Mem := fun x => if x = a then some o else μ x
section MemFacts
variable {μ : Mem} {a b : Addr} {o o' : Obj}
theorem upd_same : upd μ a o a = some o := by simp [upd]
theorem upd_ne (h : b ≠ a) : upd μ a o b = μ b := by simp [upd, h]
theorem upd_upd : upd (upd μ a o) a o' = upd μ a o' := by funext x; simp only [upd]; split <;> rfl
theorem upd_at (h : b ≠ a) {q : Obj} (hb : μ b = some q) : upd μ a o b = some q := (upd_ne h).trans hb
theorem upd_id (h : μ a = some o) : upd μ a o = μ := by funext x; simp only [upd]; split <;> simp_all
theorem upd_in {ν : Mem} {w : Obj} (h : upd μ a o = ν) (hb : b ≠ a) : upd (upd μ b w) a o = upd ν b w := by
  subst h; funext x; simp only [upd]
  by_cases h1 : x = a
  · subst h1; simp [Ne.symm hb]
  · by_cases h2 : x = b
    · subst h2; simp [h1]
    · simp [h1, h2]
theorem upd2 {ν ρ : Mem} {o' : Obj} (h1 : upd μ a o = ν) (h2 : upd ν b o' = ρ) : upd (upd μ a o) b o' = ρ := by subst h1; exact h2
theorem upd_list {ty : FieldType} {vs vs' : List Value} {ν : Mem} (h : vs = vs') (e : upd μ a (.inr (ty, vs')) = ν) : upd μ a (.inr (ty, vs)) = ν := by subst h; exact e
end MemFacts
def sl (Z : State) (q : Key × Value) : Nat := RoadKit.slotOf Z q.1.1 q.1.2.1 q.1.2.2
def IsO (Z : State) (h : Heap) (a : Addr) (C : String) (fs : List (Key × Value)) : Prop :=
  Exa Z h a C ∧ (∀ q ∈ fs, Fld Z h a q.1.1 q.1.2.1 q.1.2.2 q.2) ∧ fs.Pairwise fun q r => sl Z q ≠ sl Z r
def IsA (Z : State) (n0 : Nat) (h : Heap) (a : Addr) (ty : FieldType) (vs : List Value) : Prop :=
  ∃ c : Cell, Arr Z h a c ty ∧ c.slots.toList = vs ∧ vs.length < 2 ^ 31 ∧ (∀ v ∈ vs, fits ty v = true) ∧ (n0 ≤ a → ∀ C, ty = .object C → Ovr Z c.cls C)
def Is (Z : State) (n0 : Nat) (h : Heap) (a : Addr) : Obj → Prop
  | .inl q => IsO Z h a q.1 q.2
  | .inr q => IsA Z n0 h a q.1 q.2
def Hp (Z : State) (n0 : Nat) (μ : Mem) (h : Heap) : Prop := Old Z n0 h ∧ ∀ a o, μ a = some o → Is Z n0 h a o
section HpFacts
variable {Z : State} {n0 : Nat} {μ : Mem} {h h' : Heap} {a b : Addr} {o : Obj} {sl' : Nat} {v : Value}
theorem Is.lt (H : Is Z n0 h a o) : a < h.size := by
  rcases o with q | q
  · exact H.1.lt
  · obtain ⟨c, A, -⟩ := H; exact A.lt
theorem Is.ext (H : Is Z n0 h a o) (E : Ext h h') : Is Z n0 h' a o := by
  rcases o with q | q
  · exact ⟨H.1.ext E, fun r hr => (H.2.1 r hr).ext E, H.2.2⟩
  · obtain ⟨c, A, r⟩ := H; exact ⟨c, A.ext E, r⟩
theorem Is.other (H : Is Z n0 h b o) (W : Wr h h' a sl' v) (q : b ≠ a) : Is Z n0 h' b o := by
  rcases o with r | r
  · exact ⟨H.1.wr W, fun r hr => (H.2.1 r hr).other W (Or.inl q), H.2.2⟩
  · obtain ⟨c, A, r⟩ := H; exact ⟨c, A.other W q, r⟩
theorem Hp.ext (H : Hp Z n0 μ h) (E : Ext h h') : Hp Z n0 μ h' := ⟨H.1.ext E, fun a o q => (H.2 a o q).ext E⟩
theorem Hp.ge (H : Hp Z n0 μ h) : n0 ≤ h.size := H.1.1 ▸ H.1.2.1
theorem Hp.fresh (H : Hp Z n0 μ h) : ∀ b o, μ b = some o → b ≠ h.size := fun b o q => Nat.ne_of_lt (H.2 b o q).lt
theorem Hp.set (H : Hp Z n0 μ h') (I : Is Z n0 h' a o) : Hp Z n0 (upd μ a o) h' := ⟨H.1, fun b o' q => by
  by_cases e : b = a
  · subst e; rw [upd_same] at q; cases q; exact I
  · rw [upd_ne e] at q; exact H.2 b o' q⟩
theorem Hp.wr (H : Hp Z n0 μ h) (W : Wr h h' a sl' v) (g : n0 ≤ a) (I : Is Z n0 h' a o) : Hp Z n0 (upd μ a o) h' := ⟨H.1.wr W g, fun b o' q => by
  by_cases e : b = a
  · subst e; rw [upd_same] at q; cases q; exact I
  · rw [upd_ne e] at q; exact (H.2 b o' q).other W e⟩
theorem IsO.put {C : String} {fs fs' : List (Key × Value)} {k : Key} {i : Nat} {w : Value} (H : IsO Z h a C fs) (hi : fs[i]? = some (k, w)) (W : Wr h h' a (RoadKit.slotOf Z k.1 k.2.1 k.2.2) v) (e : fs.set i (k, v) = fs') : IsO Z h' a C fs' := by
  subst e
  obtain ⟨hlt, hk⟩ := List.getElem?_eq_some_iff.mp hi
  have F0 := H.2.1 _ (List.mem_of_getElem? hi)
  have hp := List.pairwise_iff_getElem.mp H.2.2
  refine ⟨H.1.wr W, fun q hq => ?_, ?_⟩
  · obtain ⟨j, hj, rfl⟩ := List.mem_iff_getElem.mp hq
    rw [List.length_set] at hj
    by_cases e : i = j
    · subst e; rw [List.getElem_set_self]; exact F0.same W
    · rw [List.getElem_set_ne e]
      refine (H.2.1 _ (List.getElem_mem hj)).other W (Or.inr ?_)
      have e0 : sl Z fs[i] = RoadKit.slotOf Z k.1 k.2.1 k.2.2 := by rw [hk]; rfl
      rcases Nat.lt_or_gt_of_ne e with q | q
      · have := hp i j hlt hj q; rw [e0] at this; exact fun z => this z.symm
      · have := hp j i hj hlt q; rw [e0] at this; exact this
  · rw [List.pairwise_iff_getElem]
    intro x y hx hy hxy
    rw [List.length_set] at hx hy
    have key : ∀ z (hz : z < (fs.set i (k, v)).length) (hz' : z < fs.length), sl Z (fs.set i (k, v))[z] = sl Z fs[z] := fun z hz hz' => by
      by_cases e : i = z
      · subst e; rw [List.getElem_set_self, hk]; rfl
      · rw [List.getElem_set_ne e]
    rw [key x _ hx, key y _ hy]
    exact hp x y hx hy hxy
theorem IsA.put {ty : FieldType} {vs : List Value} {j : Nat} (H : IsA Z n0 h a ty vs) (hv : fits ty v = true) (W : Wr h h' a j v) : IsA Z n0 h' a ty (vs.set j v) := by
  obtain ⟨c, A, rfl, hl, hf, ho⟩ := H
  refine ⟨_, A.same W, by simp [Cell.setSlot], by simpa using hl, fun w hw => ?_, ho⟩
  rcases List.mem_or_eq_of_mem_set hw with q | q
  · exact hf w q
  · subst q; exact hv
end HpFacts
abbrev EndsW (s : State) (below : List Frame) (Z : State) (n0 : Nat) (P : Option Value → Mem → Prop) (kc ks : Nat) (t : Nat) (s₂ : State) (o : Outcome) : Prop :=
  s₂.status = .running ∧ Ended s₂ below o ∧ ∃ v L, o = .returned v ∧ (Fr n0 L ∧ ∃ μ', Hp Z n0 μ' s₂.heap ∧ P v μ') ∧ (t ≤ s₂.heap.size ∧ ReturnedEndW s o s₂ L kc ks)
theorem up {s : State} {below : List Frame} {Z : State} {n0 : Nat} {P : Option Value → Mem → Prop} {kc ks t t' : Nat} {s₂ : State} {o : Outcome} (h : t ≤ t') (w : EndsW s below Z n0 P kc ks t' s₂ o) : EndsW s below Z n0 P kc ks t s₂ o := by
  obtain ⟨a, b, v, L, d, e, f, g⟩ := w
  exact ⟨a, b, v, L, d, e, Nat.le_trans h f, g⟩
theorem upS {s : State} {below : List Frame} {Z : State} {n0 : Nat} {P : Option Value → Mem → Prop} {kc ks t t' n' : Nat} {s₂ : State} {o : Outcome} {vm : Vm} (hS : s.Since vm n') (hn : n' ≤ t') (h : t ≤ t') (w : EndsW (s.setVm vm) below Z n0 P kc ks t' s₂ o) : EndsW s below Z n0 P kc ks t s₂ o := by
  obtain ⟨a, b, v, L, d, e, f, g1, g2, g3, g4⟩ := w
  have q := hS.trans (⟨g2, g3⟩ : (s.setVm vm).Since s₂.vm s₂.heap.size) (Nat.le_trans hn f)
  exact ⟨a, b, v, L, d, e, Nat.le_trans h f, g1, q.1, q.2, g4.setVm s.vm⟩
/-- what is left to show from the frame g on -/
def Go (p : Program) (l : Launch) (e : Env) (R : Room) (s : State) (m : MethodId) (args : Array Value) (below : List Frame) (meth : Method) (c : Code) (Z : State) (n0 : Nat) (P : Option Value → Mem → Prop) (kc ks : Nat) (μ : Mem) (k n : Nat) (g : JFrame) : Prop :=
  ∀ T locs, Stand p l e R s m args below meth c T locs k n → Fr n0 locs → Hp Z n0 μ T.heap →
    ∃ s₂ o, Steps p.tables e below (T.setTop g) s₂ ∧ EndsW s below Z n0 P kc ks T.heap.size s₂ o
/-- what stands fast while a body is walked -/
def Ctx (p : Program) (s : State) (m : MethodId) (meth : Method) (c : Code) (Z : State) (own nm : String) (B : ByteArray) (ml : Nat) (rt : Option FieldType) : Prop :=
  p.tables.exec = Jvm.exec ∧ c.code = B ∧ c.maxLocals = ml ∧ Z.Warmed39 s.vm ∧ s.vm.findClass own = some m.cls ∧ meth.sig.returnType = rt ∧ meth.locks = false ∧ meth.name = nm
/-- a body's contract -/
def Con (l : Launch) (Z : State) (n0 : Nat) (y : MethodName) (B : ByteArray) (ml : Nat) (rt : Option FieldType) (ws : List Cond) (rm : Room) (kc ks : Nat) (as : Array Value) (μ : Mem) (P : Option Value → Mem → Prop) : Prop :=
  ∀ h0, Hp Z n0 μ h0 → MetFree l y (head1 (Cond.code y B ml rt :: ws) rm) (fun a U => a = as ∧ Z.Warmed39 U.vm ∧ U.heap = h0) (fun _ _ _ _ _ => True)
    (fun _ U o U' => ∃ v L, o = .returned v ∧ (Fr n0 L ∧ ∃ μ', Hp Z n0 μ' U'.heap ∧ P v μ') ∧ ReturnedEndW U o U' L kc ks)
section Rules
variable {p : Program} {l : Launch} {e : Env} {R : Room} {s : State} {m : MethodId} {args : Array Value} {below : List Frame} {meth : Method} {c : Code} {Z : State} {a0 : Array Value} {n0 : Nat} {P : Option Value → Mem → Prop} {kc ks : Nat} {μ : Mem} {k n : Nat}
  {own nm : String} {B : ByteArray} {ml : Nat} {rt : Option FieldType} {pc q : Nat} {L L' : Array Slot} {st : List Value} {y : MethodName} {ws : List Cond} {rm : Room} {as : Array Value}
theorem Ctx.to (C : Ctx p s m meth c Z own nm B ml rt) {vm : Vm} {n' : Nat} (hS : s.Since vm n') : Ctx p (s.setVm vm) m meth c Z own nm B ml rt :=
  ⟨C.1, C.2.1, C.2.2.1, State.Warmed39.trans C.2.2.2.1 hS.1, (hS.1.alike.findClass _ _).trans C.2.2.2.2.1, C.2.2.2.2.2⟩
theorem Con.intro {L0 : Array Slot} (hx : plainFor y = true) (hef : ∀ m, entryFrame m as ml = mkF m 0 L0 [])
    (body : ∀ (p : Program) (e : Env) (s : State) (m : MethodId) (below : List Frame) (meth : Method) (c : Code), Ctx p s m meth c Z y.cls y.name B ml rt → Go p l e rm s m as below meth c Z n0 P kc ks μ 0 0 (mkF m 0 L0 [])) : Con l Z n0 y B ml rt ws rm kc ks as μ P := by
  intro h0 H0
  refine MetFree.of_bodySF hx hisR ?_
  intro p e s m args below meth c s₁ Bd hml hP hK
  obtain ⟨rfl, hZ, hh⟩ := hP
  have X0 : Stand p l e rm s m args below meth c s₁ [] 0 0 := Stand.of_body Bd
  have e0 : s₁.heap = h0 := by rw [← hh, Bd.state]; rfl
  obtain ⟨s2, o, g1, g2, g3, g4⟩ := body p e s m below meth c ⟨Bd.exec, Bd.bytes, hml, hZ, findClass_of_methodNamed Bd.named, Bd.returns, Bd.notSynchronized, (name_of_methodNamed Bd.named Bd.method).1⟩ s₁ [] X0 (Fr.nil n0) (by rw [e0]; exact H0)
  obtain ⟨v, L, q1, q2, q3⟩ := g4
  exact ⟨s2, o, castTop (hef m) g1, g2, g3, v, L, q1, q2, q3.2⟩
theorem Go.pure {g g' : JFrame} (K : Go p l e R s m args below meth c Z n0 P kc ks μ k n g') (st : ∀ T, At T m c below → ∀ target, Steps p.tables e below (T.setTop g') target → Steps p.tables e below (T.setTop g) target) : Go p l e R s m args below meth c Z n0 P kc ks μ k n g := fun T locs X F H => by
  obtain ⟨s2, o, h1, h2⟩ := K T locs X F H
  exact ⟨s2, o, st T X.here _ h1, h2⟩
theorem Go.stand {g g' : JFrame} (K : Go p l e R s m args below meth c Z n0 P kc ks μ k n g') (st : ∀ T locs, Stand p l e R s m args below meth c T locs k n → Hp Z n0 μ T.heap → ∃ T', Stand p l e R s m args below meth c T' locs k n ∧ T'.heap = T.heap ∧ ∀ target, Steps p.tables e below (T'.setTop g') target → Steps p.tables e below (T.setTop g) target) : Go p l e R s m args below meth c Z n0 P kc ks μ k n g := fun T locs X F H => by
  obtain ⟨T', X', e', h⟩ := st T locs X H
  obtain ⟨s2, o, h1, h2⟩ := K T' locs X' F (by rw [e']; exact H)
  exact ⟨s2, o, h _ h1, up (Nat.le_of_eq (by rw [e'])) h2⟩
theorem iadd (C : Ctx p s m meth c Z own nm B ml rt) {x y : Int32} (hd : decode B pc = .ok (.iadd, 1)) (hq : pc + 1 = q) (k' : ∀ z : Int32, z = x + y → Go p l e R s m args below meth c Z n0 P kc ks μ k n (mkF m q L (.int z :: st))) : Go p l e R s m args below meth c Z n0 P kc ks μ k n (mkF m pc L (.int y :: .int x :: st)) := by
  subst hq
  exact Go.pure (k' _ rfl) fun T h t hr => XS.iadd h C.1 rfl (hb C.2.1 hd) rfl hr
theorem isub (C : Ctx p s m meth c Z own nm B ml rt) {x y : Int32} (hd : decode B pc = .ok (.isub, 1)) (hq : pc + 1 = q) (k' : ∀ z : Int32, z = x - y → Go p l e R s m args below meth c Z n0 P kc ks μ k n (mkF m q L (.int z :: st))) : Go p l e R s m args below meth c Z n0 P kc ks μ k n (mkF m pc L (.int y :: .int x :: st)) := by
  subst hq
  exact Go.pure (k' _ rfl) fun T h t hr => XS.isub h C.1 rfl (hb C.2.1 hd) rfl hr
theorem imul (C : Ctx p s m meth c Z own nm B ml rt) {x y : Int32} (hd : decode B pc = .ok (.imul, 1)) (hq : pc + 1 = q) (k' : ∀ z : Int32, z = x * y → Go p l e R s m args below meth c Z n0 P kc ks μ k n (mkF m q L (.int z :: st))) : Go p l e R s m args below meth c Z n0 P kc ks μ k n (mkF m pc L (.int y :: .int x :: st)) := by
  subst hq
  exact Go.pure (k' _ rfl) fun T h t hr => XS.imul h C.1 rfl (hb C.2.1 hd) rfl hr
theorem iand (C : Ctx p s m meth c Z own nm B ml rt) {x y : Int32} (hd : decode B pc = .ok (.iand, 1)) (hq : pc + 1 = q) (k' : ∀ z : Int32, z = x &&& y → Go p l e R s m args below meth c Z n0 P kc ks μ k n (mkF m q L (.int z :: st))) : Go p l e R s m args below meth c Z n0 P kc ks μ k n (mkF m pc L (.int y :: .int x :: st)) := by
  subst hq
  exact Go.pure (k' _ rfl) fun T h t hr => XS.iand h C.1 rfl (hb C.2.1 hd) rfl hr
theorem ior (C : Ctx p s m meth c Z own nm B ml rt) {x y : Int32} (hd : decode B pc = .ok (.ior, 1)) (hq : pc + 1 = q) (k' : ∀ z : Int32, z = x ||| y → Go p l e R s m args below meth c Z n0 P kc ks μ k n (mkF m q L (.int z :: st))) : Go p l e R s m args below meth c Z n0 P kc ks μ k n (mkF m pc L (.int y :: .int x :: st)) := by
  subst hq
  exact Go.pure (k' _ rfl) fun T h t hr => XS.ior h C.1 rfl (hb C.2.1 hd) rfl hr
theorem ixor (C : Ctx p s m meth c Z own nm B ml rt) {x y : Int32} (hd : decode B pc = .ok (.ixor, 1)) (hq : pc + 1 = q) (k' : ∀ z : Int32, z = x ^^^ y → Go p l e R s m args below meth c Z n0 P kc ks μ k n (mkF m q L (.int z :: st))) : Go p l e R s m args below meth c Z n0 P kc ks μ k n (mkF m pc L (.int y :: .int x :: st)) := by
  subst hq
  exact Go.pure (k' _ rfl) fun T h t hr => XS.ixor h C.1 rfl (hb C.2.1 hd) rfl hr
theorem ladd (C : Ctx p s m meth c Z own nm B ml rt) {x y : Int64} (hd : decode B pc = .ok (.ladd, 1)) (hq : pc + 1 = q) (k' : ∀ z : Int64, z = x + y → Go p l e R s m args below meth c Z n0 P kc ks μ k n (mkF m q L (.long z :: st))) : Go p l e R s m args below meth c Z n0 P kc ks μ k n (mkF m pc L (.long y :: .long x :: st)) := by
  subst hq
  exact Go.pure (k' _ rfl) fun T h t hr => XS.ladd h C.1 rfl (hb C.2.1 hd) rfl hr
theorem lsub (C : Ctx p s m meth c Z own nm B ml rt) {x y : Int64} (hd : decode B pc = .ok (.lsub, 1)) (hq : pc + 1 = q) (k' : ∀ z : Int64, z = x - y → Go p l e R s m args below meth c Z n0 P kc ks μ k n (mkF m q L (.long z :: st))) : Go p l e R s m args below meth c Z n0 P kc ks μ k n (mkF m pc L (.long y :: .long x :: st)) := by
  subst hq
  exact Go.pure (k' _ rfl) fun T h t hr => XS.lsub h C.1 rfl (hb C.2.1 hd) rfl hr
theorem lmul (C : Ctx p s m meth c Z own nm B ml rt) {x y : Int64} (hd : decode B pc = .ok (.lmul, 1)) (hq : pc + 1 = q) (k' : ∀ z : Int64, z = x * y → Go p l e R s m args below meth c Z n0 P kc ks μ k n (mkF m q L (.long z :: st))) : Go p l e R s m args below meth c Z n0 P kc ks μ k n (mkF m pc L (.long y :: .long x :: st)) := by
  subst hq
  exact Go.pure (k' _ rfl) fun T h t hr => XS.lmul h C.1 rfl (hb C.2.1 hd) rfl hr
theorem land (C : Ctx p s m meth c Z own nm B ml rt) {x y : Int64} (hd : decode B pc = .ok (.land, 1)) (hq : pc + 1 = q) (k' : ∀ z : Int64, z = x &&& y → Go p l e R s m args below meth c Z n0 P kc ks μ k n (mkF m q L (.long z :: st))) : Go p l e R s m args below meth c Z n0 P kc ks μ k n (mkF m pc L (.long y :: .long x :: st)) := by
  subst hq
  exact Go.pure (k' _ rfl) fun T h t hr => XS.land h C.1 rfl (hb C.2.1 hd) rfl hr
theorem lor (C : Ctx p s m meth c Z own nm B ml rt) {x y : Int64} (hd : decode B pc = .ok (.lor, 1)) (hq : pc + 1 = q) (k' : ∀ z : Int64, z = x ||| y → Go p l e R s m args below meth c Z n0 P kc ks μ k n (mkF m q L (.long z :: st))) : Go p l e R s m args below meth c Z n0 P kc ks μ k n (mkF m pc L (.long y :: .long x :: st)) := by
  subst hq
  exact Go.pure (k' _ rfl) fun T h t hr => XS.lor h C.1 rfl (hb C.2.1 hd) rfl hr
theorem lxor (C : Ctx p s m meth c Z own nm B ml rt) {x y : Int64} (hd : decode B pc = .ok (.lxor, 1)) (hq : pc + 1 = q) (k' : ∀ z : Int64, z = x ^^^ y → Go p l e R s m args below meth c Z n0 P kc ks μ k n (mkF m q L (.long z :: st))) : Go p l e R s m args below meth c Z n0 P kc ks μ k n (mkF m pc L (.long y :: .long x :: st)) := by
  subst hq
  exact Go.pure (k' _ rfl) fun T h t hr => XS.lxor h C.1 rfl (hb C.2.1 hd) rfl hr
theorem ishl (C : Ctx p s m meth c Z own nm B ml rt) {x y : Int32} (hd : decode B pc = .ok (.ishl, 1)) (hq : pc + 1 = q) (k' : ∀ z : Int32, z = x <<< (y &&& 31) → Go p l e R s m args below meth c Z n0 P kc ks μ k n (mkF m q L (.int z :: st))) : Go p l e R s m args below meth c Z n0 P kc ks μ k n (mkF m pc L (.int y :: .int x :: st)) := by
  subst hq
  exact Go.pure (k' _ rfl) fun T h t hr => XS.ishl h C.1 rfl (hb C.2.1 hd) rfl hr
theorem ishr (C : Ctx p s m meth c Z own nm B ml rt) {x y : Int32} (hd : decode B pc = .ok (.ishr, 1)) (hq : pc + 1 = q) (k' : ∀ z : Int32, z = x >>> (y &&& 31) → Go p l e R s m args below meth c Z n0 P kc ks μ k n (mkF m q L (.int z :: st))) : Go p l e R s m args below meth c Z n0 P kc ks μ k n (mkF m pc L (.int y :: .int x :: st)) := by
  subst hq
  exact Go.pure (k' _ rfl) fun T h t hr => XS.ishr h C.1 rfl (hb C.2.1 hd) rfl hr
theorem iushr (C : Ctx p s m meth c Z own nm B ml rt) {x y : Int32} (hd : decode B pc = .ok (.iushr, 1)) (hq : pc + 1 = q) (k' : ∀ z : Int32, z = (x.toUInt32 >>> (y &&& 31).toUInt32).toInt32 → Go p l e R s m args below meth c Z n0 P kc ks μ k n (mkF m q L (.int z :: st))) : Go p l e R s m args below meth c Z n0 P kc ks μ k n (mkF m pc L (.int y :: .int x :: st)) := by
  subst hq
  exact Go.pure (k' _ rfl) fun T h t hr => XS.iushr h C.1 rfl (hb C.2.1 hd) rfl hr
theorem lshl (C : Ctx p s m meth c Z own nm B ml rt) {x : Int64} {y : Int32} (hd : decode B pc = .ok (.lshl, 1)) (hq : pc + 1 = q) (k' : ∀ z : Int64, z = x <<< (y &&& 0x3f).toInt64 → Go p l e R s m args below meth c Z n0 P kc ks μ k n (mkF m q L (.long z :: st))) : Go p l e R s m args below meth c Z n0 P kc ks μ k n (mkF m pc L (.int y :: .long x :: st)) := by
  subst hq
  exact Go.pure (k' _ rfl) fun T h t hr => XS.lshl h C.1 rfl (hb C.2.1 hd) rfl hr
theorem lshr (C : Ctx p s m meth c Z own nm B ml rt) {x : Int64} {y : Int32} (hd : decode B pc = .ok (.lshr, 1)) (hq : pc + 1 = q) (k' : ∀ z : Int64, z = x >>> (y &&& 0x3f).toInt64 → Go p l e R s m args below meth c Z n0 P kc ks μ k n (mkF m q L (.long z :: st))) : Go p l e R s m args below meth c Z n0 P kc ks μ k n (mkF m pc L (.int y :: .long x :: st)) := by
  subst hq
  exact Go.pure (k' _ rfl) fun T h t hr => XS.lshr h C.1 rfl (hb C.2.1 hd) rfl hr
theorem lushr (C : Ctx p s m meth c Z own nm B ml rt) {x : Int64} {y : Int32} (hd : decode B pc = .ok (.lushr, 1)) (hq : pc + 1 = q) (k' : ∀ z : Int64, z = (x.toUInt64 >>> (y &&& 0x3f).toInt64.toUInt64).toInt64 → Go p l e R s m args below meth c Z n0 P kc ks μ k n (mkF m q L (.long z :: st))) : Go p l e R s m args below meth c Z n0 P kc ks μ k n (mkF m pc L (.int y :: .long x :: st)) := by
  subst hq
  exact Go.pure (k' _ rfl) fun T h t hr => XS.lushr h C.1 rfl (hb C.2.1 hd) rfl hr
theorem idiv (C : Ctx p s m meth c Z own nm B ml rt) {x y : Int32} (hd : decode B pc = .ok (.idiv, 1)) (hq : pc + 1 = q) (hy : y ≠ 0) (k' : ∀ z : Int32, z = x / y → Go p l e R s m args below meth c Z n0 P kc ks μ k n (mkF m q L (.int z :: st))) : Go p l e R s m args below meth c Z n0 P kc ks μ k n (mkF m pc L (.int y :: .int x :: st)) := by
  subst hq
  exact Go.pure (k' _ rfl) fun T h t hr => XS.idiv h C.1 rfl (hb C.2.1 hd) rfl hy hr
theorem irem (C : Ctx p s m meth c Z own nm B ml rt) {x y : Int32} (hd : decode B pc = .ok (.irem, 1)) (hq : pc + 1 = q) (hy : y ≠ 0) (k' : ∀ z : Int32, z = x % y → Go p l e R s m args below meth c Z n0 P kc ks μ k n (mkF m q L (.int z :: st))) : Go p l e R s m args below meth c Z n0 P kc ks μ k n (mkF m pc L (.int y :: .int x :: st)) := by
  subst hq
  exact Go.pure (k' _ rfl) fun T h t hr => XS.irem h C.1 rfl (hb C.2.1 hd) rfl hy (by rw [irem_eq_mod]; exact hr)
theorem ldiv (C : Ctx p s m meth c Z own nm B ml rt) {x y : Int64} (hd : decode B pc = .ok (.ldiv, 1)) (hq : pc + 1 = q) (hy : y ≠ 0) (k' : ∀ z : Int64, z = x / y → Go p l e R s m args below meth c Z n0 P kc ks μ k n (mkF m q L (.long z :: st))) : Go p l e R s m args below meth c Z n0 P kc ks μ k n (mkF m pc L (.long y :: .long x :: st)) := by
  subst hq
  exact Go.pure (k' _ rfl) fun T h t hr => XS.ldiv h C.1 rfl (hb C.2.1 hd) rfl hy hr
theorem lrem (C : Ctx p s m meth c Z own nm B ml rt) {x y : Int64} (hd : decode B pc = .ok (.lrem, 1)) (hq : pc + 1 = q) (hy : y ≠ 0) (k' : ∀ z : Int64, z = x - (x / y) * y → Go p l e R s m args below meth c Z n0 P kc ks μ k n (mkF m q L (.long z :: st))) : Go p l e R s m args below meth c Z n0 P kc ks μ k n (mkF m pc L (.long y :: .long x :: st)) := by
  subst hq
  exact Go.pure (k' _ rfl) fun T h t hr => XS.lrem h C.1 rfl (hb C.2.1 hd) rfl hy hr
theorem ineg (C : Ctx p s m meth c Z own nm B ml rt) {x : Int32} (hd : decode B pc = .ok (.ineg, 1)) (hq : pc + 1 = q) (k' : ∀ z : Int32, z = -x → Go p l e R s m args below meth c Z n0 P kc ks μ k n (mkF m q L (.int z :: st))) : Go p l e R s m args below meth c Z n0 P kc ks μ k n (mkF m pc L (.int x :: st)) := by
  subst hq
  exact Go.pure (k' _ rfl) fun T h t hr => XS.ineg h C.1 rfl (hb C.2.1 hd) rfl hr
theorem lneg (C : Ctx p s m meth c Z own nm B ml rt) {x : Int64} (hd : decode B pc = .ok (.lneg, 1)) (hq : pc + 1 = q) (k' : ∀ z : Int64, z = -x → Go p l e R s m args below meth c Z n0 P kc ks μ k n (mkF m q L (.long z :: st))) : Go p l e R s m args below meth c Z n0 P kc ks μ k n (mkF m pc L (.long x :: st)) := by
  subst hq
  exact Go.pure (k' _ rfl) fun T h t hr => XS.lneg h C.1 rfl (hb C.2.1 hd) rfl hr
theorem i2l (C : Ctx p s m meth c Z own nm B ml rt) {x : Int32} (hd : decode B pc = .ok (.i2l, 1)) (hq : pc + 1 = q) (k' : ∀ z : Int64, z = x.toInt64 → Go p l e R s m args below meth c Z n0 P kc ks μ k n (mkF m q L (.long z :: st))) : Go p l e R s m args below meth c Z n0 P kc ks μ k n (mkF m pc L (.int x :: st)) := by
  subst hq
  exact Go.pure (k' _ rfl) fun T h t hr => XS.i2l h C.1 rfl (hb C.2.1 hd) rfl hr
theorem l2i (C : Ctx p s m meth c Z own nm B ml rt) {x : Int64} (hd : decode B pc = .ok (.l2i, 1)) (hq : pc + 1 = q) (k' : ∀ z : Int32, z = x.toInt32 → Go p l e R s m args below meth c Z n0 P kc ks μ k n (mkF m q L (.int z :: st))) : Go p l e R s m args below meth c Z n0 P kc ks μ k n (mkF m pc L (.long x :: st)) := by
  subst hq
  exact Go.pure (k' _ rfl) fun T h t hr => XS.l2i h C.1 rfl (hb C.2.1 hd) rfl hr
theorem i2b (C : Ctx p s m meth c Z own nm B ml rt) {x : Int32} (hd : decode B pc = .ok (.i2b, 1)) (hq : pc + 1 = q) (k' : ∀ z : Int32, z = x.toInt8.toInt32 → Go p l e R s m args below meth c Z n0 P kc ks μ k n (mkF m q L (.int z :: st))) : Go p l e R s m args below meth c Z n0 P kc ks μ k n (mkF m pc L (.int x :: st)) := by
  subst hq
  exact Go.pure (k' _ rfl) fun T h t hr => XS.i2b h C.1 rfl (hb C.2.1 hd) rfl hr
theorem i2s (C : Ctx p s m meth c Z own nm B ml rt) {x : Int32} (hd : decode B pc = .ok (.i2s, 1)) (hq : pc + 1 = q) (k' : ∀ z : Int32, z = x.toInt16.toInt32 → Go p l e R s m args below meth c Z n0 P kc ks μ k n (mkF m q L (.int z :: st))) : Go p l e R s m args below meth c Z n0 P kc ks μ k n (mkF m pc L (.int x :: st)) := by
  subst hq
  exact Go.pure (k' _ rfl) fun T h t hr => XS.i2s h C.1 rfl (hb C.2.1 hd) rfl hr
theorem i2c (C : Ctx p s m meth c Z own nm B ml rt) {x : Int32} (hd : decode B pc = .ok (.i2c, 1)) (hq : pc + 1 = q) (k' : ∀ z : Int32, z = x.toUInt32.toUInt16.toUInt32.toInt32 → Go p l e R s m args below meth c Z n0 P kc ks μ k n (mkF m q L (.int z :: st))) : Go p l e R s m args below meth c Z n0 P kc ks μ k n (mkF m pc L (.int x :: st)) := by
  subst hq
  exact Go.pure (k' _ rfl) fun T h t hr => XS.i2c h C.1 rfl (hb C.2.1 hd) rfl hr
theorem iloadN (C : Ctx p s m meth c Z own nm B ml rt) {i : Fin 4} {v : Int32} (hd : decode B pc = .ok (.iload_n i, 1)) (hq : pc + 1 = q) (hl : L[i.val]? = some (.val (.int v))) (k' : Go p l e R s m args below meth c Z n0 P kc ks μ k n (mkF m q L (.int v :: st))) : Go p l e R s m args below meth c Z n0 P kc ks μ k n (mkF m pc L st) := by
  subst hq
  exact Go.pure k' fun T h t hr => XS.iloadN h C.1 rfl (hb C.2.1 hd) hl hr
theorem iload (C : Ctx p s m meth c Z own nm B ml rt) {i : Nat} {v : Int32} (hd : decode B pc = .ok (.iload i, 2)) (hq : pc + 2 = q) (hl : L[i]? = some (.val (.int v))) (k' : Go p l e R s m args below meth c Z n0 P kc ks μ k n (mkF m q L (.int v :: st))) : Go p l e R s m args below meth c Z n0 P kc ks μ k n (mkF m pc L st) := by
  subst hq
  exact Go.pure k' fun T h t hr => XS.iload h C.1 rfl (hb C.2.1 hd) hl hr
theorem istoreN (C : Ctx p s m meth c Z own nm B ml rt) {i : Fin 4} {v : Int32} (hd : decode B pc = .ok (.istore_n i, 1)) (hq : pc + 1 = q) (hl : storeLocals L i.val (.int v) = some L') (k' : Go p l e R s m args below meth c Z n0 P kc ks μ k n (mkF m q L' st)) : Go p l e R s m args below meth c Z n0 P kc ks μ k n (mkF m pc L (.int v :: st)) := by
  subst hq
  exact Go.pure k' fun T h t hr => XS.istoreN h C.1 rfl (hb C.2.1 hd) rfl hl hr
theorem istore (C : Ctx p s m meth c Z own nm B ml rt) {i : Nat} {v : Int32} (hd : decode B pc = .ok (.istore i, 2)) (hq : pc + 2 = q) (hl : storeLocals L i (.int v) = some L') (k' : Go p l e R s m args below meth c Z n0 P kc ks μ k n (mkF m q L' st)) : Go p l e R s m args below meth c Z n0 P kc ks μ k n (mkF m pc L (.int v :: st)) := by
  subst hq
  exact Go.pure k' fun T h t hr => XS.istore h C.1 rfl (hb C.2.1 hd) rfl hl hr
theorem lloadN (C : Ctx p s m meth c Z own nm B ml rt) {i : Fin 4} {v : Int64} (hd : decode B pc = .ok (.lload_n i, 1)) (hq : pc + 1 = q) (hl : L[i.val]? = some (.val (.long v))) (k' : Go p l e R s m args below meth c Z n0 P kc ks μ k n (mkF m q L (.long v :: st))) : Go p l e R s m args below meth c Z n0 P kc ks μ k n (mkF m pc L st) := by
  subst hq
  exact Go.pure k' fun T h t hr => XS.lloadN h C.1 rfl (hb C.2.1 hd) hl hr
theorem lload (C : Ctx p s m meth c Z own nm B ml rt) {i : Nat} {v : Int64} (hd : decode B pc = .ok (.lload i, 2)) (hq : pc + 2 = q) (hl : L[i]? = some (.val (.long v))) (k' : Go p l e R s m args below meth c Z n0 P kc ks μ k n (mkF m q L (.long v :: st))) : Go p l e R s m args below meth c Z n0 P kc ks μ k n (mkF m pc L st) := by
  subst hq
  exact Go.pure k' fun T h t hr => XS.lload h C.1 rfl (hb C.2.1 hd) hl hr
theorem lstoreN (C : Ctx p s m meth c Z own nm B ml rt) {i : Fin 4} {v : Int64} (hd : decode B pc = .ok (.lstore_n i, 1)) (hq : pc + 1 = q) (hl : storeLocals L i.val (.long v) = some L') (k' : Go p l e R s m args below meth c Z n0 P kc ks μ k n (mkF m q L' st)) : Go p l e R s m args below meth c Z n0 P kc ks μ k n (mkF m pc L (.long v :: st)) := by
  subst hq
  exact Go.pure k' fun T h t hr => XS.lstoreN h C.1 rfl (hb C.2.1 hd) rfl hl hr
theorem lstore (C : Ctx p s m meth c Z own nm B ml rt) {i : Nat} {v : Int64} (hd : decode B pc = .ok (.lstore i, 2)) (hq : pc + 2 = q) (hl : storeLocals L i (.long v) = some L') (k' : Go p l e R s m args below meth c Z n0 P kc ks μ k n (mkF m q L' st)) : Go p l e R s m args below meth c Z n0 P kc ks μ k n (mkF m pc L (.long v :: st)) := by
  subst hq
  exact Go.pure k' fun T h t hr => XS.lstore h C.1 rfl (hb C.2.1 hd) rfl hl hr
theorem aloadN (C : Ctx p s m meth c Z own nm B ml rt) {i : Fin 4} {v : Value} (hd : decode B pc = .ok (.aload_n i, 1)) (hq : pc + 1 = q) (hl : L[i.val]? = some (.val v)) (hv : v.isRef = true) (k' : Go p l e R s m args below meth c Z n0 P kc ks μ k n (mkF m q L (v :: st))) : Go p l e R s m args below meth c Z n0 P kc ks μ k n (mkF m pc L st) := by
  subst hq
  exact Go.pure k' fun T h t hr => XS.aloadN h C.1 rfl (hb C.2.1 hd) hl hv hr
theorem aload (C : Ctx p s m meth c Z own nm B ml rt) {i : Nat} {v : Value} (hd : decode B pc = .ok (.aload i, 2)) (hq : pc + 2 = q) (hl : L[i]? = some (.val v)) (hv : v.isRef = true) (k' : Go p l e R s m args below meth c Z n0 P kc ks μ k n (mkF m q L (v :: st))) : Go p l e R s m args below meth c Z n0 P kc ks μ k n (mkF m pc L st) := by
  subst hq
  exact Go.pure k' fun T h t hr => XS.aload h C.1 rfl (hb C.2.1 hd) hl hv hr
theorem astoreN (C : Ctx p s m meth c Z own nm B ml rt) {i : Fin 4} {v : Value} (hd : decode B pc = .ok (.astore_n i, 1)) (hq : pc + 1 = q) (hl : storeLocals L i.val v = some L') (hv : v.isRef = true) (k' : Go p l e R s m args below meth c Z n0 P kc ks μ k n (mkF m q L' st)) : Go p l e R s m args below meth c Z n0 P kc ks μ k n (mkF m pc L (v :: st)) := by
  subst hq
  exact Go.pure k' fun T h t hr => XS.astoreN h C.1 rfl (hb C.2.1 hd) rfl hv hl hr
theorem astore (C : Ctx p s m meth c Z own nm B ml rt) {i : Nat} {v : Value} (hd : decode B pc = .ok (.astore i, 2)) (hq : pc + 2 = q) (hl : storeLocals L i v = some L') (hv : v.isRef = true) (k' : Go p l e R s m args below meth c Z n0 P kc ks μ k n (mkF m q L' st)) : Go p l e R s m args below meth c Z n0 P kc ks μ k n (mkF m pc L (v :: st)) := by
  subst hq
  exact Go.pure k' fun T h t hr => XS.astore h C.1 rfl (hb C.2.1 hd) rfl hv hl hr
theorem iconst (C : Ctx p s m meth c Z own nm B ml rt) {i : Int} {z : Int32} (hd : decode B pc = .ok (.iconst i, 1)) (hq : pc + 1 = q) (hz : Int32.ofInt i = z) (k' : Go p l e R s m args below meth c Z n0 P kc ks μ k n (mkF m q L (.int z :: st))) : Go p l e R s m args below meth c Z n0 P kc ks μ k n (mkF m pc L st) := by
  subst hq
  exact Go.pure k' fun T h t hr => XS.iconst h C.1 rfl (hb C.2.1 hd) (by rw [hz]; exact hr)
theorem bipush (C : Ctx p s m meth c Z own nm B ml rt) {i : Int} {z : Int32} (hd : decode B pc = .ok (.bipush i, 2)) (hq : pc + 2 = q) (hz : (Int8.ofInt i).toInt32 = z) (k' : Go p l e R s m args below meth c Z n0 P kc ks μ k n (mkF m q L (.int z :: st))) : Go p l e R s m args below meth c Z n0 P kc ks μ k n (mkF m pc L st) := by
  subst hq
  exact Go.pure k' fun T h t hr => XS.bipush h C.1 rfl (hb C.2.1 hd) (by rw [hz]; exact hr)
theorem sipush (C : Ctx p s m meth c Z own nm B ml rt) {i : Int} {z : Int32} (hd : decode B pc = .ok (.sipush i, 3)) (hq : pc + 3 = q) (hz : (Int16.ofInt i).toInt32 = z) (k' : Go p l e R s m args below meth c Z n0 P kc ks μ k n (mkF m q L (.int z :: st))) : Go p l e R s m args below meth c Z n0 P kc ks μ k n (mkF m pc L st) := by
  subst hq
  exact Go.pure k' fun T h t hr => XS.sipush h C.1 rfl (hb C.2.1 hd) (by rw [hz]; exact hr)
theorem lconst (C : Ctx p s m meth c Z own nm B ml rt) {i : Fin 2} {z : Int64} (hd : decode B pc = .ok (.lconst i, 1)) (hq : pc + 1 = q) (hz : Int64.ofNat i = z) (k' : Go p l e R s m args below meth c Z n0 P kc ks μ k n (mkF m q L (.long z :: st))) : Go p l e R s m args below meth c Z n0 P kc ks μ k n (mkF m pc L st) := by
  subst hq
  exact Go.pure k' fun T h t hr => XS.lconst h C.1 rfl (hb C.2.1 hd) (by rw [hz]; exact hr)
theorem aconstNull (C : Ctx p s m meth c Z own nm B ml rt)  (hd : decode B pc = .ok (.aconst_null, 1)) (hq : pc + 1 = q) (k' : Go p l e R s m args below meth c Z n0 P kc ks μ k n (mkF m q L (.null :: st))) : Go p l e R s m args below meth c Z n0 P kc ks μ k n (mkF m pc L st) := by
  subst hq
  exact Go.pure k' fun T h t hr => XS.aconstNull h C.1 rfl (hb C.2.1 hd) hr
theorem dup (C : Ctx p s m meth c Z own nm B ml rt) {v : Value} (hd : decode B pc = .ok (.dup, 1)) (hq : pc + 1 = q) (hv : v.category = 1) (k' : Go p l e R s m args below meth c Z n0 P kc ks μ k n (mkF m q L (v :: v :: st))) : Go p l e R s m args below meth c Z n0 P kc ks μ k n (mkF m pc L (v :: st)) := by
  subst hq
  exact Go.pure k' fun T h t hr => XS.dup h C.1 rfl (hb C.2.1 hd) rfl hv hr
theorem pop (C : Ctx p s m meth c Z own nm B ml rt) {v : Value} (hd : decode B pc = .ok (.pop, 1)) (hq : pc + 1 = q) (hv : v.category = 1) (k' : Go p l e R s m args below meth c Z n0 P kc ks μ k n (mkF m q L st)) : Go p l e R s m args below meth c Z n0 P kc ks μ k n (mkF m pc L (v :: st)) := by
  subst hq
  exact Go.pure k' fun T h t hr => XS.pop h C.1 rfl (hb C.2.1 hd) rfl hv hr
theorem dupX1 (C : Ctx p s m meth c Z own nm B ml rt) {v w : Value} (hd : decode B pc = .ok (.dup_x1, 1)) (hq : pc + 1 = q) (hv : v.category = 1) (hw : w.category = 1) (k' : Go p l e R s m args below meth c Z n0 P kc ks μ k n (mkF m q L (v :: w :: v :: st))) : Go p l e R s m args below meth c Z n0 P kc ks μ k n (mkF m pc L (v :: w :: st)) := by
  subst hq
  exact Go.pure k' fun T h t hr => XS.dupX1 h C.1 rfl (hb C.2.1 hd) rfl hv hw hr
theorem dup2 (C : Ctx p s m meth c Z own nm B ml rt) {v w : Value} (hd : decode B pc = .ok (.dup2, 1)) (hq : pc + 1 = q) (hv : v.category = 1) (hw : w.category = 1) (k' : Go p l e R s m args below meth c Z n0 P kc ks μ k n (mkF m q L (v :: w :: v :: w :: st))) : Go p l e R s m args below meth c Z n0 P kc ks μ k n (mkF m pc L (v :: w :: st)) := by
  subst hq
  exact Go.pure k' fun T h t hr => XT.dup2 h C.1 rfl (hb C.2.1 hd) rfl hv hw hr
theorem dup2L (C : Ctx p s m meth c Z own nm B ml rt) {x : Int64} (hd : decode B pc = .ok (.dup2, 1)) (hq : pc + 1 = q) (k' : Go p l e R s m args below meth c Z n0 P kc ks μ k n (mkF m q L (.long x :: .long x :: st))) : Go p l e R s m args below meth c Z n0 P kc ks μ k n (mkF m pc L (.long x :: st)) := by
  subst hq
  exact Go.pure k' fun T h t hr => XT.dup2L h C.1 rfl (hb C.2.1 hd) rfl hr
theorem iinc (C : Ctx p s m meth c Z own nm B ml rt) {i : Nat} {d : Int} {x z : Int32} (hd : decode B pc = .ok (.iinc i d, 3)) (hq : pc + 3 = q) (hl : L[i]? = some (.val (.int x))) (hz : x + Int32.ofInt d = z) (hl' : storeLocals L i (.int z) = some L') (k' : Go p l e R s m args below meth c Z n0 P kc ks μ k n (mkF m q L' st)) : Go p l e R s m args below meth c Z n0 P kc ks μ k n (mkF m pc L st) := by
  subst hq
  exact Go.pure k' fun T h t hr => XS.iinc h C.1 rfl (hb C.2.1 hd) hl (by rw [hz]; exact hl') hr
theorem goto (C : Ctx p s m meth c Z own nm B ml rt) {o : Int} (hd : decode B pc = .ok (.goto o, 3)) (hq : 0 ≤ (pc : Int) + o ∧ ((pc : Int) + o).toNat = q) (k' : Go p l e R s m args below meth c Z n0 P kc ks μ k n (mkF m q L st)) : Go p l e R s m args below meth c Z n0 P kc ks μ k n (mkF m pc L st) := Go.pure k' fun T h t hr => XS.goto h C.1 rfl rfl (hb C.2.1 hd) hq.1 hq.2 hr
theorem icmp_eq (C : Ctx p s m meth c Z own nm B ml rt) {x y : Int32} {o : Int} {r : Nat} (hd : decode B pc = .ok (.if_icmp .eq o, 3)) (hq : pc + 3 = q) (hr : 0 ≤ (pc : Int) + o ∧ ((pc : Int) + o).toNat = r) (ky : x = y → Go p l e R s m args below meth c Z n0 P kc ks μ k n (mkF m r L st)) (kn : ¬ x = y → Go p l e R s m args below meth c Z n0 P kc ks μ k n (mkF m q L st)) : Go p l e R s m args below meth c Z n0 P kc ks μ k n (mkF m pc L (.int y :: .int x :: st)) := by
  subst hq
  by_cases hc : x = y
  · exact Go.pure (ky hc) fun T h t k => XS.icmpYes h C.1 rfl rfl (hb C.2.1 hd) rfl (XT.ii_eq_t hc) hr.1 hr.2 k
  · exact Go.pure (kn (by first | exact hc | exact Decidable.of_not_not hc)) fun T h t k => XS.icmpNo h C.1 rfl (hb C.2.1 hd) rfl (XT.ii_eq_f (by first | exact hc | exact Decidable.of_not_not hc)) k
theorem if_eq (C : Ctx p s m meth c Z own nm B ml rt) {x : Int32} {o : Int} {r : Nat} (hd : decode B pc = .ok (.ifCond .eq o, 3)) (hq : pc + 3 = q) (hr : 0 ≤ (pc : Int) + o ∧ ((pc : Int) + o).toNat = r) (ky : x = 0 → Go p l e R s m args below meth c Z n0 P kc ks μ k n (mkF m r L st)) (kn : ¬ x = 0 → Go p l e R s m args below meth c Z n0 P kc ks μ k n (mkF m q L st)) : Go p l e R s m args below meth c Z n0 P kc ks μ k n (mkF m pc L (.int x :: st)) := by
  subst hq
  by_cases hc : x = 0
  · exact Go.pure (ky hc) fun T h t k => XS.ifYes h C.1 rfl rfl (hb C.2.1 hd) rfl (XT.i0_eq_t hc) hr.1 hr.2 k
  · exact Go.pure (kn (by first | exact hc | exact Decidable.of_not_not hc)) fun T h t k => XS.ifNo h C.1 rfl (hb C.2.1 hd) rfl (XT.i0_eq_f (by first | exact hc | exact Decidable.of_not_not hc)) k
theorem lcmp_eq (C : Ctx p s m meth c Z own nm B ml rt) {x y : Int64} {o : Int} {r pc1 : Nat} (hd0 : decode B pc = .ok (.lcmp, 1)) (h1 : pc + 1 = pc1) (hd : decode B pc1 = .ok (.ifCond .eq o, 3)) (hq : pc1 + 3 = q) (hr : 0 ≤ (pc1 : Int) + o ∧ ((pc1 : Int) + o).toNat = r) (ky : x = y → Go p l e R s m args below meth c Z n0 P kc ks μ k n (mkF m r L st)) (kn : ¬ x = y → Go p l e R s m args below meth c Z n0 P kc ks μ k n (mkF m q L st)) : Go p l e R s m args below meth c Z n0 P kc ks μ k n (mkF m pc L (.long y :: .long x :: st)) := by
  subst hq h1
  refine Go.pure (g' := mkF m (pc + 1) L (.int (XT.cmpL x y) :: st)) ?_ fun T h t k => XT.lcmp h C.1 rfl (hb C.2.1 hd0) rfl k
  by_cases hc : x = y
  · exact Go.pure (ky hc) fun T h t k => XS.ifYes h C.1 rfl rfl (hb C.2.1 hd) rfl (XT.ll_eq_t hc) hr.1 hr.2 k
  · exact Go.pure (kn (by first | exact hc | exact Decidable.of_not_not hc)) fun T h t k => XS.ifNo h C.1 rfl (hb C.2.1 hd) rfl (XT.ll_eq_f (by first | exact hc | exact Decidable.of_not_not hc)) k
theorem icmp_ne (C : Ctx p s m meth c Z own nm B ml rt) {x y : Int32} {o : Int} {r : Nat} (hd : decode B pc = .ok (.if_icmp .ne o, 3)) (hq : pc + 3 = q) (hr : 0 ≤ (pc : Int) + o ∧ ((pc : Int) + o).toNat = r) (ky : ¬ x = y → Go p l e R s m args below meth c Z n0 P kc ks μ k n (mkF m r L st)) (kn : x = y → Go p l e R s m args below meth c Z n0 P kc ks μ k n (mkF m q L st)) : Go p l e R s m args below meth c Z n0 P kc ks μ k n (mkF m pc L (.int y :: .int x :: st)) := by
  subst hq
  by_cases hc : ¬ x = y
  · exact Go.pure (ky hc) fun T h t k => XS.icmpYes h C.1 rfl rfl (hb C.2.1 hd) rfl (XT.ii_ne_t hc) hr.1 hr.2 k
  · exact Go.pure (kn (by first | exact hc | exact Decidable.of_not_not hc)) fun T h t k => XS.icmpNo h C.1 rfl (hb C.2.1 hd) rfl (XT.ii_ne_f (by first | exact hc | exact Decidable.of_not_not hc)) k
theorem if_ne (C : Ctx p s m meth c Z own nm B ml rt) {x : Int32} {o : Int} {r : Nat} (hd : decode B pc = .ok (.ifCond .ne o, 3)) (hq : pc + 3 = q) (hr : 0 ≤ (pc : Int) + o ∧ ((pc : Int) + o).toNat = r) (ky : ¬ x = 0 → Go p l e R s m args below meth c Z n0 P kc ks μ k n (mkF m r L st)) (kn : x = 0 → Go p l e R s m args below meth c Z n0 P kc ks μ k n (mkF m q L st)) : Go p l e R s m args below meth c Z n0 P kc ks μ k n (mkF m pc L (.int x :: st)) := by
  subst hq
  by_cases hc : ¬ x = 0
  · exact Go.pure (ky hc) fun T h t k => XS.ifYes h C.1 rfl rfl (hb C.2.1 hd) rfl (XT.i0_ne_t hc) hr.1 hr.2 k
  · exact Go.pure (kn (by first | exact hc | exact Decidable.of_not_not hc)) fun T h t k => XS.ifNo h C.1 rfl (hb C.2.1 hd) rfl (XT.i0_ne_f (by first | exact hc | exact Decidable.of_not_not hc)) k
theorem lcmp_ne (C : Ctx p s m meth c Z own nm B ml rt) {x y : Int64} {o : Int} {r pc1 : Nat} (hd0 : decode B pc = .ok (.lcmp, 1)) (h1 : pc + 1 = pc1) (hd : decode B pc1 = .ok (.ifCond .ne o, 3)) (hq : pc1 + 3 = q) (hr : 0 ≤ (pc1 : Int) + o ∧ ((pc1 : Int) + o).toNat = r) (ky : ¬ x = y → Go p l e R s m args below meth c Z n0 P kc ks μ k n (mkF m r L st)) (kn : x = y → Go p l e R s m args below meth c Z n0 P kc ks μ k n (mkF m q L st)) : Go p l e R s m args below meth c Z n0 P kc ks μ k n (mkF m pc L (.long y :: .long x :: st)) := by
  subst hq h1
  refine Go.pure (g' := mkF m (pc + 1) L (.int (XT.cmpL x y) :: st)) ?_ fun T h t k => XT.lcmp h C.1 rfl (hb C.2.1 hd0) rfl k
  by_cases hc : ¬ x = y
  · exact Go.pure (ky hc) fun T h t k => XS.ifYes h C.1 rfl rfl (hb C.2.1 hd) rfl (XT.ll_ne_t hc) hr.1 hr.2 k
  · exact Go.pure (kn (by first | exact hc | exact Decidable.of_not_not hc)) fun T h t k => XS.ifNo h C.1 rfl (hb C.2.1 hd) rfl (XT.ll_ne_f (by first | exact hc | exact Decidable.of_not_not hc)) k
theorem icmp_lt (C : Ctx p s m meth c Z own nm B ml rt) {x y : Int32} {o : Int} {r : Nat} (hd : decode B pc = .ok (.if_icmp .lt o, 3)) (hq : pc + 3 = q) (hr : 0 ≤ (pc : Int) + o ∧ ((pc : Int) + o).toNat = r) (ky : x < y → Go p l e R s m args below meth c Z n0 P kc ks μ k n (mkF m r L st)) (kn : ¬ x < y → Go p l e R s m args below meth c Z n0 P kc ks μ k n (mkF m q L st)) : Go p l e R s m args below meth c Z n0 P kc ks μ k n (mkF m pc L (.int y :: .int x :: st)) := by
  subst hq
  by_cases hc : x < y
  · exact Go.pure (ky hc) fun T h t k => XS.icmpYes h C.1 rfl rfl (hb C.2.1 hd) rfl (XT.ii_lt_t hc) hr.1 hr.2 k
  · exact Go.pure (kn (by first | exact hc | exact Decidable.of_not_not hc)) fun T h t k => XS.icmpNo h C.1 rfl (hb C.2.1 hd) rfl (XT.ii_lt_f (by first | exact hc | exact Decidable.of_not_not hc)) k
theorem if_lt (C : Ctx p s m meth c Z own nm B ml rt) {x : Int32} {o : Int} {r : Nat} (hd : decode B pc = .ok (.ifCond .lt o, 3)) (hq : pc + 3 = q) (hr : 0 ≤ (pc : Int) + o ∧ ((pc : Int) + o).toNat = r) (ky : x < 0 → Go p l e R s m args below meth c Z n0 P kc ks μ k n (mkF m r L st)) (kn : ¬ x < 0 → Go p l e R s m args below meth c Z n0 P kc ks μ k n (mkF m q L st)) : Go p l e R s m args below meth c Z n0 P kc ks μ k n (mkF m pc L (.int x :: st)) := by
  subst hq
  by_cases hc : x < 0
  · exact Go.pure (ky hc) fun T h t k => XS.ifYes h C.1 rfl rfl (hb C.2.1 hd) rfl (XT.i0_lt_t hc) hr.1 hr.2 k
  · exact Go.pure (kn (by first | exact hc | exact Decidable.of_not_not hc)) fun T h t k => XS.ifNo h C.1 rfl (hb C.2.1 hd) rfl (XT.i0_lt_f (by first | exact hc | exact Decidable.of_not_not hc)) k
theorem lcmp_lt (C : Ctx p s m meth c Z own nm B ml rt) {x y : Int64} {o : Int} {r pc1 : Nat} (hd0 : decode B pc = .ok (.lcmp, 1)) (h1 : pc + 1 = pc1) (hd : decode B pc1 = .ok (.ifCond .lt o, 3)) (hq : pc1 + 3 = q) (hr : 0 ≤ (pc1 : Int) + o ∧ ((pc1 : Int) + o).toNat = r) (ky : x < y → Go p l e R s m args below meth c Z n0 P kc ks μ k n (mkF m r L st)) (kn : ¬ x < y → Go p l e R s m args below meth c Z n0 P kc ks μ k n (mkF m q L st)) : Go p l e R s m args below meth c Z n0 P kc ks μ k n (mkF m pc L (.long y :: .long x :: st)) := by
  subst hq h1
  refine Go.pure (g' := mkF m (pc + 1) L (.int (XT.cmpL x y) :: st)) ?_ fun T h t k => XT.lcmp h C.1 rfl (hb C.2.1 hd0) rfl k
  by_cases hc : x < y
  · exact Go.pure (ky hc) fun T h t k => XS.ifYes h C.1 rfl rfl (hb C.2.1 hd) rfl (XT.ll_lt_t hc) hr.1 hr.2 k
  · exact Go.pure (kn (by first | exact hc | exact Decidable.of_not_not hc)) fun T h t k => XS.ifNo h C.1 rfl (hb C.2.1 hd) rfl (XT.ll_lt_f (by first | exact hc | exact Decidable.of_not_not hc)) k
theorem icmp_ge (C : Ctx p s m meth c Z own nm B ml rt) {x y : Int32} {o : Int} {r : Nat} (hd : decode B pc = .ok (.if_icmp .ge o, 3)) (hq : pc + 3 = q) (hr : 0 ≤ (pc : Int) + o ∧ ((pc : Int) + o).toNat = r) (ky : ¬ x < y → Go p l e R s m args below meth c Z n0 P kc ks μ k n (mkF m r L st)) (kn : x < y → Go p l e R s m args below meth c Z n0 P kc ks μ k n (mkF m q L st)) : Go p l e R s m args below meth c Z n0 P kc ks μ k n (mkF m pc L (.int y :: .int x :: st)) := by
  subst hq
  by_cases hc : ¬ x < y
  · exact Go.pure (ky hc) fun T h t k => XS.icmpYes h C.1 rfl rfl (hb C.2.1 hd) rfl (XT.ii_ge_t hc) hr.1 hr.2 k
  · exact Go.pure (kn (by first | exact hc | exact Decidable.of_not_not hc)) fun T h t k => XS.icmpNo h C.1 rfl (hb C.2.1 hd) rfl (XT.ii_ge_f (by first | exact hc | exact Decidable.of_not_not hc)) k
theorem if_ge (C : Ctx p s m meth c Z own nm B ml rt) {x : Int32} {o : Int} {r : Nat} (hd : decode B pc = .ok (.ifCond .ge o, 3)) (hq : pc + 3 = q) (hr : 0 ≤ (pc : Int) + o ∧ ((pc : Int) + o).toNat = r) (ky : ¬ x < 0 → Go p l e R s m args below meth c Z n0 P kc ks μ k n (mkF m r L st)) (kn : x < 0 → Go p l e R s m args below meth c Z n0 P kc ks μ k n (mkF m q L st)) : Go p l e R s m args below meth c Z n0 P kc ks μ k n (mkF m pc L (.int x :: st)) := by
  subst hq
  by_cases hc : ¬ x < 0
  · exact Go.pure (ky hc) fun T h t k => XS.ifYes h C.1 rfl rfl (hb C.2.1 hd) rfl (XT.i0_ge_t hc) hr.1 hr.2 k
  · exact Go.pure (kn (by first | exact hc | exact Decidable.of_not_not hc)) fun T h t k => XS.ifNo h C.1 rfl (hb C.2.1 hd) rfl (XT.i0_ge_f (by first | exact hc | exact Decidable.of_not_not hc)) k
theorem lcmp_ge (C : Ctx p s m meth c Z own nm B ml rt) {x y : Int64} {o : Int} {r pc1 : Nat} (hd0 : decode B pc = .ok (.lcmp, 1)) (h1 : pc + 1 = pc1) (hd : decode B pc1 = .ok (.ifCond .ge o, 3)) (hq : pc1 + 3 = q) (hr : 0 ≤ (pc1 : Int) + o ∧ ((pc1 : Int) + o).toNat = r) (ky : ¬ x < y → Go p l e R s m args below meth c Z n0 P kc ks μ k n (mkF m r L st)) (kn : x < y → Go p l e R s m args below meth c Z n0 P kc ks μ k n (mkF m q L st)) : Go p l e R s m args below meth c Z n0 P kc ks μ k n (mkF m pc L (.long y :: .long x :: st)) := by
  subst hq h1
  refine Go.pure (g' := mkF m (pc + 1) L (.int (XT.cmpL x y) :: st)) ?_ fun T h t k => XT.lcmp h C.1 rfl (hb C.2.1 hd0) rfl k
  by_cases hc : ¬ x < y
  · exact Go.pure (ky hc) fun T h t k => XS.ifYes h C.1 rfl rfl (hb C.2.1 hd) rfl (XT.ll_ge_t hc) hr.1 hr.2 k
  · exact Go.pure (kn (by first | exact hc | exact Decidable.of_not_not hc)) fun T h t k => XS.ifNo h C.1 rfl (hb C.2.1 hd) rfl (XT.ll_ge_f (by first | exact hc | exact Decidable.of_not_not hc)) k
theorem icmp_gt (C : Ctx p s m meth c Z own nm B ml rt) {x y : Int32} {o : Int} {r : Nat} (hd : decode B pc = .ok (.if_icmp .gt o, 3)) (hq : pc + 3 = q) (hr : 0 ≤ (pc : Int) + o ∧ ((pc : Int) + o).toNat = r) (ky : y < x → Go p l e R s m args below meth c Z n0 P kc ks μ k n (mkF m r L st)) (kn : ¬ y < x → Go p l e R s m args below meth c Z n0 P kc ks μ k n (mkF m q L st)) : Go p l e R s m args below meth c Z n0 P kc ks μ k n (mkF m pc L (.int y :: .int x :: st)) := by
  subst hq
  by_cases hc : y < x
  · exact Go.pure (ky hc) fun T h t k => XS.icmpYes h C.1 rfl rfl (hb C.2.1 hd) rfl (XT.ii_gt_t hc) hr.1 hr.2 k
  · exact Go.pure (kn (by first | exact hc | exact Decidable.of_not_not hc)) fun T h t k => XS.icmpNo h C.1 rfl (hb C.2.1 hd) rfl (XT.ii_gt_f (by first | exact hc | exact Decidable.of_not_not hc)) k
theorem if_gt (C : Ctx p s m meth c Z own nm B ml rt) {x : Int32} {o : Int} {r : Nat} (hd : decode B pc = .ok (.ifCond .gt o, 3)) (hq : pc + 3 = q) (hr : 0 ≤ (pc : Int) + o ∧ ((pc : Int) + o).toNat = r) (ky : 0 < x → Go p l e R s m args below meth c Z n0 P kc ks μ k n (mkF m r L st)) (kn : ¬ 0 < x → Go p l e R s m args below meth c Z n0 P kc ks μ k n (mkF m q L st)) : Go p l e R s m args below meth c Z n0 P kc ks μ k n (mkF m pc L (.int x :: st)) := by
  subst hq
  by_cases hc : 0 < x
  · exact Go.pure (ky hc) fun T h t k => XS.ifYes h C.1 rfl rfl (hb C.2.1 hd) rfl (XT.i0_gt_t hc) hr.1 hr.2 k
  · exact Go.pure (kn (by first | exact hc | exact Decidable.of_not_not hc)) fun T h t k => XS.ifNo h C.1 rfl (hb C.2.1 hd) rfl (XT.i0_gt_f (by first | exact hc | exact Decidable.of_not_not hc)) k
theorem lcmp_gt (C : Ctx p s m meth c Z own nm B ml rt) {x y : Int64} {o : Int} {r pc1 : Nat} (hd0 : decode B pc = .ok (.lcmp, 1)) (h1 : pc + 1 = pc1) (hd : decode B pc1 = .ok (.ifCond .gt o, 3)) (hq : pc1 + 3 = q) (hr : 0 ≤ (pc1 : Int) + o ∧ ((pc1 : Int) + o).toNat = r) (ky : y < x → Go p l e R s m args below meth c Z n0 P kc ks μ k n (mkF m r L st)) (kn : ¬ y < x → Go p l e R s m args below meth c Z n0 P kc ks μ k n (mkF m q L st)) : Go p l e R s m args below meth c Z n0 P kc ks μ k n (mkF m pc L (.long y :: .long x :: st)) := by
  subst hq h1
  refine Go.pure (g' := mkF m (pc + 1) L (.int (XT.cmpL x y) :: st)) ?_ fun T h t k => XT.lcmp h C.1 rfl (hb C.2.1 hd0) rfl k
  by_cases hc : y < x
  · exact Go.pure (ky hc) fun T h t k => XS.ifYes h C.1 rfl rfl (hb C.2.1 hd) rfl (XT.ll_gt_t hc) hr.1 hr.2 k
  · exact Go.pure (kn (by first | exact hc | exact Decidable.of_not_not hc)) fun T h t k => XS.ifNo h C.1 rfl (hb C.2.1 hd) rfl (XT.ll_gt_f (by first | exact hc | exact Decidable.of_not_not hc)) k
theorem icmp_le (C : Ctx p s m meth c Z own nm B ml rt) {x y : Int32} {o : Int} {r : Nat} (hd : decode B pc = .ok (.if_icmp .le o, 3)) (hq : pc + 3 = q) (hr : 0 ≤ (pc : Int) + o ∧ ((pc : Int) + o).toNat = r) (ky : ¬ y < x → Go p l e R s m args below meth c Z n0 P kc ks μ k n (mkF m r L st)) (kn : y < x → Go p l e R s m args below meth c Z n0 P kc ks μ k n (mkF m q L st)) : Go p l e R s m args below meth c Z n0 P kc ks μ k n (mkF m pc L (.int y :: .int x :: st)) := by
  subst hq
  by_cases hc : ¬ y < x
  · exact Go.pure (ky hc) fun T h t k => XS.icmpYes h C.1 rfl rfl (hb C.2.1 hd) rfl (XT.ii_le_t hc) hr.1 hr.2 k
  · exact Go.pure (kn (by first | exact hc | exact Decidable.of_not_not hc)) fun T h t k => XS.icmpNo h C.1 rfl (hb C.2.1 hd) rfl (XT.ii_le_f (by first | exact hc | exact Decidable.of_not_not hc)) k
theorem if_le (C : Ctx p s m meth c Z own nm B ml rt) {x : Int32} {o : Int} {r : Nat} (hd : decode B pc = .ok (.ifCond .le o, 3)) (hq : pc + 3 = q) (hr : 0 ≤ (pc : Int) + o ∧ ((pc : Int) + o).toNat = r) (ky : ¬ 0 < x → Go p l e R s m args below meth c Z n0 P kc ks μ k n (mkF m r L st)) (kn : 0 < x → Go p l e R s m args below meth c Z n0 P kc ks μ k n (mkF m q L st)) : Go p l e R s m args below meth c Z n0 P kc ks μ k n (mkF m pc L (.int x :: st)) := by
  subst hq
  by_cases hc : ¬ 0 < x
  · exact Go.pure (ky hc) fun T h t k => XS.ifYes h C.1 rfl rfl (hb C.2.1 hd) rfl (XT.i0_le_t hc) hr.1 hr.2 k
  · exact Go.pure (kn (by first | exact hc | exact Decidable.of_not_not hc)) fun T h t k => XS.ifNo h C.1 rfl (hb C.2.1 hd) rfl (XT.i0_le_f (by first | exact hc | exact Decidable.of_not_not hc)) k
theorem lcmp_le (C : Ctx p s m meth c Z own nm B ml rt) {x y : Int64} {o : Int} {r pc1 : Nat} (hd0 : decode B pc = .ok (.lcmp, 1)) (h1 : pc + 1 = pc1) (hd : decode B pc1 = .ok (.ifCond .le o, 3)) (hq : pc1 + 3 = q) (hr : 0 ≤ (pc1 : Int) + o ∧ ((pc1 : Int) + o).toNat = r) (ky : ¬ y < x → Go p l e R s m args below meth c Z n0 P kc ks μ k n (mkF m r L st)) (kn : y < x → Go p l e R s m args below meth c Z n0 P kc ks μ k n (mkF m q L st)) : Go p l e R s m args below meth c Z n0 P kc ks μ k n (mkF m pc L (.long y :: .long x :: st)) := by
  subst hq h1
  refine Go.pure (g' := mkF m (pc + 1) L (.int (XT.cmpL x y) :: st)) ?_ fun T h t k => XT.lcmp h C.1 rfl (hb C.2.1 hd0) rfl k
  by_cases hc : ¬ y < x
  · exact Go.pure (ky hc) fun T h t k => XS.ifYes h C.1 rfl rfl (hb C.2.1 hd) rfl (XT.ll_le_t hc) hr.1 hr.2 k
  · exact Go.pure (kn (by first | exact hc | exact Decidable.of_not_not hc)) fun T h t k => XS.ifNo h C.1 rfl (hb C.2.1 hd) rfl (XT.ll_le_f (by first | exact hc | exact Decidable.of_not_not hc)) k
theorem ifnullY (C : Ctx p s m meth c Z own nm B ml rt) {o : Int} {b : Addr} (hd : decode B pc = .ok (.ifnull o, 3)) (hq : 0 ≤ (pc : Int) + o ∧ ((pc : Int) + o).toNat = q) (k' : Go p l e R s m args below meth c Z n0 P kc ks μ k n (mkF m q L st)) : Go p l e R s m args below meth c Z n0 P kc ks μ k n (mkF m pc L (.null :: st)) := Go.pure k' fun T h t hr => XS.ifnullYes h C.1 rfl rfl (hb C.2.1 hd) rfl hq.1 hq.2 hr
theorem ifnullN (C : Ctx p s m meth c Z own nm B ml rt) {o : Int} {b : Addr} (hd : decode B pc = .ok (.ifnull o, 3)) (hq : pc + 3 = q) (k' : Go p l e R s m args below meth c Z n0 P kc ks μ k n (mkF m q L st)) : Go p l e R s m args below meth c Z n0 P kc ks μ k n (mkF m pc L ((.ref b) :: st)) := by
  subst hq
  exact Go.pure k' fun T h t hr => XS.ifnullNo h C.1 rfl (hb C.2.1 hd) rfl hr
theorem ifnonnullY (C : Ctx p s m meth c Z own nm B ml rt) {o : Int} {b : Addr} (hd : decode B pc = .ok (.ifnonnull o, 3)) (hq : 0 ≤ (pc : Int) + o ∧ ((pc : Int) + o).toNat = q) (k' : Go p l e R s m args below meth c Z n0 P kc ks μ k n (mkF m q L st)) : Go p l e R s m args below meth c Z n0 P kc ks μ k n (mkF m pc L ((.ref b) :: st)) := Go.pure k' fun T h t hr => XT.ifnonnullYes h C.1 rfl rfl (hb C.2.1 hd) rfl hq.1 hq.2 hr
theorem ifnonnullN (C : Ctx p s m meth c Z own nm B ml rt) {o : Int} {b : Addr} (hd : decode B pc = .ok (.ifnonnull o, 3)) (hq : pc + 3 = q) (k' : Go p l e R s m args below meth c Z n0 P kc ks μ k n (mkF m q L st)) : Go p l e R s m args below meth c Z n0 P kc ks μ k n (mkF m pc L (.null :: st)) := by
  subst hq
  exact Go.pure k' fun T h t hr => XT.ifnonnullNo h C.1 rfl (hb C.2.1 hd) rfl hr
theorem acmp_eq (C : Ctx p s m meth c Z own nm B ml rt) {x y : Value} {o : Int} {r : Nat} (hd : decode B pc = .ok (.if_acmp .eq o, 3)) (hq : pc + 3 = q) (hr : 0 ≤ (pc : Int) + o ∧ ((pc : Int) + o).toNat = r) (h1 : x.isRef = true) (h2 : y.isRef = true) (ky : x = y → Go p l e R s m args below meth c Z n0 P kc ks μ k n (mkF m r L st)) (kn : ¬ x = y → Go p l e R s m args below meth c Z n0 P kc ks μ k n (mkF m q L st)) : Go p l e R s m args below meth c Z n0 P kc ks μ k n (mkF m pc L (y :: x :: st)) := by
  subst hq
  by_cases hc : x = y
  · exact Go.pure (ky hc) fun T h t k => XT.acmpYes h C.1 rfl rfl (hb C.2.1 hd) rfl h1 h2 (XT.aa_eq_t hc) hr.1 hr.2 k
  · exact Go.pure (kn (by first | exact hc | exact Decidable.of_not_not hc)) fun T h t k => XT.acmpNo h C.1 rfl (hb C.2.1 hd) rfl h1 h2 (XT.aa_eq_f (by first | exact hc | exact Decidable.of_not_not hc)) k
theorem acmp_ne (C : Ctx p s m meth c Z own nm B ml rt) {x y : Value} {o : Int} {r : Nat} (hd : decode B pc = .ok (.if_acmp .ne o, 3)) (hq : pc + 3 = q) (hr : 0 ≤ (pc : Int) + o ∧ ((pc : Int) + o).toNat = r) (h1 : x.isRef = true) (h2 : y.isRef = true) (ky : ¬ x = y → Go p l e R s m args below meth c Z n0 P kc ks μ k n (mkF m r L st)) (kn : x = y → Go p l e R s m args below meth c Z n0 P kc ks μ k n (mkF m q L st)) : Go p l e R s m args below meth c Z n0 P kc ks μ k n (mkF m pc L (y :: x :: st)) := by
  subst hq
  by_cases hc : ¬ x = y
  · exact Go.pure (ky hc) fun T h t k => XT.acmpYes h C.1 rfl rfl (hb C.2.1 hd) rfl h1 h2 (XT.aa_ne_t hc) hr.1 hr.2 k
  · exact Go.pure (kn (by first | exact hc | exact Decidable.of_not_not hc)) fun T h t k => XT.acmpNo h C.1 rfl (hb C.2.1 hd) rfl h1 h2 (XT.aa_ne_f (by first | exact hc | exact Decidable.of_not_not hc)) k
theorem mem {μ' : Mem} {g : JFrame} (h : μ = μ') (k' : Go p l e R s m args below meth c Z n0 P kc ks μ' k n g) : Go p l e R s m args below meth c Z n0 P kc ks μ k n g := by subst h; exact k'
/-! constants of the pool -/
theorem ldcI (C : Ctx p s m meth c Z own nm B ml rt) {i : Nat} {v : Int32} (hd : decode B pc = .ok (.ldc i, 2)) (hq : pc + 2 = q) (w : (Cond.constant own i v).before a0 Z = true) (k' : Go p l e R s m args below meth c Z n0 P kc ks μ k n (mkF m q L (.int v :: st))) : Go p l e R s m args below meth c Z n0 P kc ks μ k n (mkF m pc L st) := by
  subst hq
  exact Go.stand k' fun T locs X H => ⟨T, X, rfl, X.ldcInt C.1 C.2.2.2.2.1 (mvT C.2.2.2.1 w) (g := mkF m pc L st) rfl (hb C.2.1 hd)⟩
theorem ldcwI (C : Ctx p s m meth c Z own nm B ml rt) {i : Nat} {v : Int32} (hd : decode B pc = .ok (.ldc_w i, 3)) (hq : pc + 3 = q) (w : (Cond.constant own i v).before a0 Z = true) (k' : Go p l e R s m args below meth c Z n0 P kc ks μ k n (mkF m q L (.int v :: st))) : Go p l e R s m args below meth c Z n0 P kc ks μ k n (mkF m pc L st) := by
  subst hq
  exact Go.stand k' fun T locs X H => ⟨T, X, rfl, X.ldcwInt C.1 C.2.2.2.2.1 (mvT C.2.2.2.1 w) (g := mkF m pc L st) rfl (hb C.2.1 hd)⟩
theorem ldcJ (C : Ctx p s m meth c Z own nm B ml rt) {i : Nat} {v : Int64} (hd : decode B pc = .ok (.ldc2_w i, 3)) (hq : pc + 3 = q) (w : (Cond.constantLong own i v).before a0 Z = true) (k' : Go p l e R s m args below meth c Z n0 P kc ks μ k n (mkF m q L (.long v :: st))) : Go p l e R s m args below meth c Z n0 P kc ks μ k n (mkF m pc L st) := by
  subst hq
  exact Go.stand k' fun T locs X H => ⟨T, X, rfl, X.ldc2Long C.1 C.2.2.2.2.1 (mvT C.2.2.2.1 w) (g := mkF m pc L st) rfl (hb C.2.1 hd)⟩
/-! fields -/
theorem getfield (C : Ctx p s m meth c Z own nm B ml rt) {i j : Nat} {R0 O f d host K : String} {fs : List (Key × Value)} {v : Value} {a : Addr} (hd : decode B pc = .ok (.getfield i, 3)) (hq : pc + 3 = q) (w : (Cond.fieldLink own i R0 f d).before a0 Z = true ∨ (Cond.fieldLinkNest own i R0 f d host).before a0 Z = true) (via : Via Z R0 O f d)
    (hμ : μ a = some (.inl (K, fs))) (hj : fs[j]? = some ((O, f, d), v)) (k' : Go p l e R s m args below meth c Z n0 P kc ks μ k n (mkF m q L (v :: st))) : Go p l e R s m args below meth c Z n0 P kc ks μ k n (mkF m pc L (.ref a :: st)) := by
  subst hq
  refine Go.stand k' fun T locs X H => ?_
  have I := H.2 a _ hμ
  exact getF X C.1 C.2.2.2.1 C.2.2.2.2.1 w via rfl (I.2.1 _ (List.mem_of_getElem? hj)) (g := mkF m pc L (.ref a :: st)) rfl rfl (hb C.2.1 hd)
theorem putfield (C : Ctx p s m meth c Z own nm B ml rt) {i j kk : Nat} {R0 O f d host K : String} {fs fs' : List (Key × Value)} {v old : Value} {a : Addr} {ty : FieldType} (hd : decode B pc = .ok (.putfield i, 3)) (hq : pc + 3 = q) (w : (Cond.fieldLink own i R0 f d).before a0 Z = true ∨ (Cond.fieldLinkNest own i R0 f d host).before a0 Z = true) (via : Via Z R0 O f d)
    (wl : (Cond.lays K O f d).before a0 Z = true ∨ ((Cond.laysFinal K O f d).before a0 Z = true ∧ own = O ∧ nm = "<init>")) (wi : (Cond.instantiable K kk).before a0 Z = true) (hty : parseFieldDescriptor d = some ty) (hn : narrow ty v = v) (hf : fits ty v = true)
    (hμ : μ a = some (.inl (K, fs))) (hj : fs[j]? = some ((O, f, d), old)) (hfs : fs.set j ((O, f, d), v) = fs') (ha : n0 ≤ a) (k' : Go p l e R s m args below meth c Z n0 P kc ks (upd μ a (.inl (K, fs'))) k n (mkF m q L st)) : Go p l e R s m args below meth c Z n0 P kc ks μ k n (mkF m pc L (v :: .ref a :: st)) := by
  subst hq
  intro T locs X F H
  have I := H.2 a _ hμ
  obtain ⟨T', h', X', e', W, stp⟩ := putF X C.1 C.2.2.2.1 C.2.2.2.2.1 w via rfl (I.2.1 _ (List.mem_of_getElem? hj)) I.1 (wl.imp id fun z => ⟨z.1, z.2.1, C.2.2.2.2.2.2.2.trans z.2.2⟩) wi hty hn hf (g := mkF m pc L (v :: .ref a :: st)) rfl rfl (hb C.2.1 hd)
  obtain ⟨s2, o, h1, h2⟩ := k' T' _ X' (Fr.snoc X' F ha) (by rw [e']; exact H.wr W ha (IsO.put I hj W hfs))
  exact ⟨s2, o, stp _ h1, up (by first | exact Nat.le_of_eq (by rw [e', W.size]) | (rw [e']; exact E.1)) h2⟩
theorem putfieldN (C : Ctx p s m meth c Z own nm B ml rt) {i j kk : Nat} {R0 O f d K : String} {fs fs' : List (Key × Value)} {v v' old : Value} {a : Addr} {ty : FieldType} (hd : decode B pc = .ok (.putfield i, 3)) (hq : pc + 3 = q) (w : (Cond.fieldLink own i R0 f d).before a0 Z = true) (via : Via Z R0 O f d)
    (wl : (Cond.lays K O f d).before a0 Z = true ∨ ((Cond.laysFinal K O f d).before a0 Z = true ∧ own = O ∧ nm = "<init>")) (wi : (Cond.instantiable K kk).before a0 Z = true) (hty : parseFieldDescriptor d = some ty) (hn : narrow ty v = v') (hf : fits ty v' = true)
    (hμ : μ a = some (.inl (K, fs))) (hj : fs[j]? = some ((O, f, d), old)) (hfs : fs.set j ((O, f, d), v') = fs') (ha : n0 ≤ a) (k' : Go p l e R s m args below meth c Z n0 P kc ks (upd μ a (.inl (K, fs'))) k n (mkF m q L st)) : Go p l e R s m args below meth c Z n0 P kc ks μ k n (mkF m pc L (v :: .ref a :: st)) := by
  subst hq
  intro T locs X F H
  have I := H.2 a _ hμ
  obtain ⟨T', h', X', e', W, stp⟩ := putFN X C.1 C.2.2.2.1 C.2.2.2.2.1 w via rfl (I.2.1 _ (List.mem_of_getElem? hj)) I.1 (wl.imp id fun z => ⟨z.1, z.2.1, C.2.2.2.2.2.2.2.trans z.2.2⟩) wi hty hn hf (g := mkF m pc L (v :: .ref a :: st)) rfl rfl (hb C.2.1 hd)
  obtain ⟨s2, o, h1, h2⟩ := k' T' _ X' (Fr.snoc X' F ha) (by rw [e']; exact H.wr W ha (IsO.put I hj W hfs))
  exact ⟨s2, o, stp _ h1, up (by first | exact Nat.le_of_eq (by rw [e', W.size]) | (rw [e']; exact E.1)) h2⟩
theorem getstatic (C : Ctx p s m meth c Z own nm B ml rt) {i : Nat} {R0 O f d host : String} {v : Value} (hd : decode B pc = .ok (.getstatic i, 3)) (hq : pc + 3 = q) (w : (Cond.fieldLink own i R0 f d).before a0 Z = true ∨ (Cond.fieldLinkNest own i R0 f d host).before a0 Z = true) (via : Via Z R0 O f d)
    (S : Sta Z Z.heap O f d v) (k' : Go p l e R s m args below meth c Z n0 P kc ks μ k n (mkF m q L (v :: st))) : Go p l e R s m args below meth c Z n0 P kc ks μ k n (mkF m pc L st) := by
  subst hq
  exact Go.stand k' fun T locs X H => getS2 X C.1 C.2.2.2.1 C.2.2.2.2.1 w via rfl (S.ext H.1.2) (g := mkF m pc L st) rfl (hb C.2.1 hd)
/-! new objects -/
def AllLaid (Z : State) (a0 : Array Value) (C : String) : List (Key × Value) → Prop
  | [] => True
  | q :: r => (∃ ty, Laid Z a0 C q.1.1 q.1.2.1 q.1.2.2 ∧ parseFieldDescriptor q.1.2.2 = some ty ∧ q.2 = defaultValue ty) ∧ AllLaid Z a0 C r
theorem AllLaid.mem {K : String} : ∀ {fs : List (Key × Value)}, AllLaid Z a0 K fs → ∀ q ∈ fs, ∃ ty, Laid Z a0 K q.1.1 q.1.2.1 q.1.2.2 ∧ parseFieldDescriptor q.1.2.2 = some ty ∧ q.2 = defaultValue ty
  | [], _, _, h => nomatch h
  | _ :: _, H, q, h => (List.mem_cons.mp h).elim (fun z => z ▸ H.1) (AllLaid.mem H.2 q)
theorem AllLaid.pw {K : String} : ∀ {fs : List (Key × Value)}, AllLaid Z a0 K fs → fs.Pairwise (fun q r => q.1.2.1 ≠ r.1.2.1) → fs.Pairwise fun q r => sl Z q ≠ sl Z r
  | [], _, _ => .nil
  | x :: r, H, N => by
    cases N with
    | cons h1 h2 =>
      refine .cons (fun y hy => ?_) (AllLaid.pw H.2 h2)
      obtain ⟨t1, L1, p1, -⟩ := H.1
      obtain ⟨t2, L2, p2, -⟩ := AllLaid.mem H.2 y hy
      exact RoadKit.slot_ne L1 L2 (h1 y hy) p1 p2
theorem new (C : Ctx p s m meth c Z own nm B ml rt) {i ns : Nat} {K : String} {fs : List (Key × Value)} (hd : decode B pc = .ok (.new i, 3)) (hq : pc + 3 = q) (w1 : (Cond.classLink own i K).before a0 Z = true) (w2 : (Cond.instantiable K ns).before a0 Z = true) (w3 : (Cond.initialized K).before a0 Z = true)
    (hl : AllLaid Z a0 K fs) (hnd : fs.Pairwise (fun q r => q.1.2.1 ≠ r.1.2.1)) (hc : k + 1 ≤ R.cells) (hs : n + ns ≤ R.slots)
    (k' : ∀ a : Addr, (∀ b o, μ b = some o → b ≠ a) → n0 ≤ a → Go p l e R s m args below meth c Z n0 P kc ks (upd μ a (.inl (K, fs))) (k + 1) (n + ns) (mkF m q L (.ref a :: st))) : Go p l e R s m args below meth c Z n0 P kc ks μ k n (mkF m pc L st) := by
  subst hq
  intro T locs X F H
  obtain ⟨T', h', X', e', E, A, D, -, stp⟩ := newO X C.1 C.2.2.2.1 C.2.2.2.2.1 w1 w2 w3 rfl (g := mkF m pc L st) rfl (hb C.2.1 hd) hc hs
  obtain ⟨s2, o, h1, h2⟩ := k' T.heap.size H.fresh H.ge T' _ X' F (by
    rw [e']
    refine Hp.set (H.ext E) ⟨A, fun z hz => ?_, hl.pw hnd⟩
    obtain ⟨ty, l1, l2, l3⟩ := hl.mem z hz
    rw [l3]; exact D l1 l2)
  exact ⟨s2, o, stp _ h1, up (by first | exact Nat.le_of_eq (by rw [e', W.size]) | (rw [e']; exact E.1)) h2⟩
theorem newArr (C : Ctx p s m meth c Z own nm B ml rt) {aty : ArrayType} {ty : FieldType} {z : Int32} {cap : Nat} {vs : List Value} (hd : decode B pc = .ok (.newarray aty, 2)) (hq : pc + 2 = q) (ht : newarray.typeOf aty = ty) (w : (Cond.arrayClass ty).before a0 Z = true) (hz : ¬ z < 0) (hcap : z.toNatClampNeg ≤ cap) (hbig : cap * 8 ≤ 536870912) (hvs : List.replicate z.toNatClampNeg (defaultValue ty) = vs)
    (hc : k + 1 ≤ R.cells) (hs : n + cap ≤ R.slots)
    (k' : ∀ a : Addr, (∀ b o, μ b = some o → b ≠ a) → n0 ≤ a → Go p l e R s m args below meth c Z n0 P kc ks (upd μ a (.inr (ty, vs))) (k + 1) (n + cap) (mkF m q L (.ref a :: st))) : Go p l e R s m args below meth c Z n0 P kc ks μ k n (mkF m pc L (.int z :: st)) := by
  subst hq hvs ht
  intro T locs X F H
  obtain ⟨T', h', cA, X', e', E, A, stp⟩ := newP X C.1 C.2.2.2.1 w rfl (g := mkF m pc L (.int z :: st)) rfl (hb C.2.1 hd) rfl hz hcap hbig hc hs
  obtain ⟨s2, o, h1, h2⟩ := k' T.heap.size H.fresh H.ge T' _ X' F (by
    rw [e']
    refine Hp.set (H.ext E) ⟨_, A, by simp [newA], by rw [List.length_replicate]; exact (back32 hz).2, fun v hv => ?_, fun _ K hK => ?_⟩
    · rw [(List.mem_replicate.mp hv).2]; cases aty <;> rfl
    · cases aty <;> cases hK)
  exact ⟨s2, o, stp _ h1, up (by first | exact Nat.le_of_eq (by rw [e', W.size]) | (rw [e']; exact E.1)) h2⟩
theorem newRef (C : Ctx p s m meth c Z own nm B ml rt) {i : Nat} {K : String} {z : Int32} {cap : Nat} {vs : List Value} (hd : decode B pc = .ok (.anewarray i, 3)) (hq : pc + 3 = q) (w1 : (Cond.classLink own i K).before a0 Z = true) (w2 : (Cond.arrayOver (.object K)).before a0 Z = true) (hz : ¬ z < 0) (hcap : z.toNatClampNeg ≤ cap) (hbig : cap * 8 ≤ 536870912) (hvs : List.replicate z.toNatClampNeg Value.null = vs)
    (hc : k + 1 ≤ R.cells) (hs : n + cap ≤ R.slots)
    (k' : ∀ a : Addr, (∀ b o, μ b = some o → b ≠ a) → n0 ≤ a → Go p l e R s m args below meth c Z n0 P kc ks (upd μ a (.inr (.object K, vs))) (k + 1) (n + cap) (mkF m q L (.ref a :: st))) : Go p l e R s m args below meth c Z n0 P kc ks μ k n (mkF m pc L (.int z :: st)) := by
  subst hq hvs
  intro T locs X F H
  obtain ⟨T', h', cA, X', e', E, A, O, stp⟩ := newR X C.1 C.2.2.2.1 C.2.2.2.2.1 w1 w2 rfl (g := mkF m pc L (.int z :: st)) rfl (hb C.2.1 hd) rfl hz hcap hbig hc hs
  obtain ⟨s2, o, h1, h2⟩ := k' T.heap.size H.fresh H.ge T' _ X' F (by
    rw [e']
    refine Hp.set (H.ext E) ⟨_, A, by simp [newA, defaultValue], by rw [List.length_replicate]; exact (back32 hz).2, fun v hv => ?_, fun _ K' hK => ?_⟩
    · rw [(List.mem_replicate.mp hv).2]; rfl
    · cases hK; exact O)
  exact ⟨s2, o, stp _ h1, up (by first | exact Nat.le_of_eq (by rw [e', W.size]) | (rw [e']; exact E.1)) h2⟩
/-! arrays -/
theorem inb {c : Cell} {vs : List Value} {j : Int32} (e : c.slots.toList = vs) (h0 : ¬ j < 0) (hj : j.toNatClampNeg < vs.length) : ¬ (j < 0 ∨ c.slots.size ≤ j.toNatClampNeg) := by
  subst e; rw [Array.length_toList] at hj; rintro (q | q)
  · exact h0 q
  · omega
theorem atL {c : Cell} {vs : List Value} {j : Nat} {v : Value} (e : c.slots.toList = vs) (hv : vs[j]? = some v) : c.slots[j]? = some v := by
  subst e; rw [Array.getElem?_toList] at hv; exact hv
theorem arraylength (C : Ctx p s m meth c Z own nm B ml rt) {ty : FieldType} {vs : List Value} {a : Addr} (hd : decode B pc = .ok (.arraylength, 1)) (hq : pc + 1 = q) (hμ : μ a = some (.inr (ty, vs))) (k' : ∀ z : Int32, z = Int32.ofNat vs.length → z.toInt = vs.length → Go p l e R s m args below meth c Z n0 P kc ks μ k n (mkF m q L (.int z :: st))) : Go p l e R s m args below meth c Z n0 P kc ks μ k n (mkF m pc L (.ref a :: st)) := by
  subst hq
  intro T locs X F H
  obtain ⟨cl, A, e1, hl, -⟩ := H.2 a _ hμ
  have e2 : cl.slots.size = vs.length := by subst e1; rw [Array.length_toList]
  obtain ⟨s2, o, h1, h2⟩ := k' (Int32.ofNat vs.length) rfl (Int32.toInt_ofNat_small hl) T _ X F H
  exact ⟨s2, o, X.arraylength C.1 A.1 (State.isArrayOf_alike C.2.2.2.1.alike A.2.1) (g := mkF m pc L (.ref a :: st)) rfl rfl (hb C.2.1 hd) _ (by rw [e2]; exact h1), h2⟩
theorem iaload (C : Ctx p s m meth c Z own nm B ml rt) {vs : List Value} {a : Addr} {j : Int32} {v : Value} (hd : decode B pc = .ok (.iaload, 1)) (hq : pc + 1 = q) (hμ : μ a = some (.inr (.int, vs))) (h0 : ¬ j < 0) (hv : vs[j.toNatClampNeg]? = some v) (k' : Go p l e R s m args below meth c Z n0 P kc ks μ k n (mkF m q L (v :: st))) : Go p l e R s m args below meth c Z n0 P kc ks μ k n (mkF m pc L (.int j :: .ref a :: st)) := by
  subst hq
  intro T locs X F H
  obtain ⟨cl, A, e1, -⟩ := H.2 a _ hμ
  obtain ⟨s2, o, h1, h2⟩ := k' T _ X F H
  exact ⟨s2, o, X.iaload C.1 A.1 (State.isArrayOf_alike C.2.2.2.1.alike A.2.1) A.2.2 (inb e1 h0 (List.getElem?_eq_some_iff.mp hv).1) (atL e1 hv) (g := mkF m pc L (.int j :: .ref a :: st)) rfl rfl (hb C.2.1 hd) _ h1, h2⟩
theorem laload (C : Ctx p s m meth c Z own nm B ml rt) {vs : List Value} {a : Addr} {j : Int32} {v : Value} (hd : decode B pc = .ok (.laload, 1)) (hq : pc + 1 = q) (hμ : μ a = some (.inr (.long, vs))) (h0 : ¬ j < 0) (hv : vs[j.toNatClampNeg]? = some v) (k' : Go p l e R s m args below meth c Z n0 P kc ks μ k n (mkF m q L (v :: st))) : Go p l e R s m args below meth c Z n0 P kc ks μ k n (mkF m pc L (.int j :: .ref a :: st)) := by
  subst hq
  intro T locs X F H
  obtain ⟨cl, A, e1, -⟩ := H.2 a _ hμ
  obtain ⟨s2, o, h1, h2⟩ := k' T _ X F H
  exact ⟨s2, o, X.laload C.1 A.1 (State.isArrayOf_alike C.2.2.2.1.alike A.2.1) A.2.2 (inb e1 h0 (List.getElem?_eq_some_iff.mp hv).1) (atL e1 hv) (g := mkF m pc L (.int j :: .ref a :: st)) rfl rfl (hb C.2.1 hd) _ h1, h2⟩
theorem caload (C : Ctx p s m meth c Z own nm B ml rt) {vs : List Value} {a : Addr} {j : Int32} {v : Value} (hd : decode B pc = .ok (.caload, 1)) (hq : pc + 1 = q) (hμ : μ a = some (.inr (.char, vs))) (h0 : ¬ j < 0) (hv : vs[j.toNatClampNeg]? = some v) (k' : Go p l e R s m args below meth c Z n0 P kc ks μ k n (mkF m q L (v :: st))) : Go p l e R s m args below meth c Z n0 P kc ks μ k n (mkF m pc L (.int j :: .ref a :: st)) := by
  subst hq
  intro T locs X F H
  obtain ⟨cl, A, e1, -⟩ := H.2 a _ hμ
  obtain ⟨s2, o, h1, h2⟩ := k' T _ X F H
  exact ⟨s2, o, X.caload C.1 A.1 (State.isArrayOf_alike C.2.2.2.1.alike A.2.1) A.2.2 (inb e1 h0 (List.getElem?_eq_some_iff.mp hv).1) (atL e1 hv) (g := mkF m pc L (.int j :: .ref a :: st)) rfl rfl (hb C.2.1 hd) _ h1, h2⟩
theorem baload (C : Ctx p s m meth c Z own nm B ml rt) {vs : List Value} {a : Addr} {j : Int32} {v : Value} (hd : decode B pc = .ok (.baload, 1)) (hq : pc + 1 = q) (hμ : μ a = some (.inr (.byte, vs))) (h0 : ¬ j < 0) (hv : vs[j.toNatClampNeg]? = some v) (k' : Go p l e R s m args below meth c Z n0 P kc ks μ k n (mkF m q L (v :: st))) : Go p l e R s m args below meth c Z n0 P kc ks μ k n (mkF m pc L (.int j :: .ref a :: st)) := by
  subst hq
  intro T locs X F H
  obtain ⟨cl, A, e1, -⟩ := H.2 a _ hμ
  obtain ⟨s2, o, h1, h2⟩ := k' T _ X F H
  exact ⟨s2, o, X.baloadBytes C.1 A.1 (State.isArrayOf_alike C.2.2.2.1.alike A.2.1) A.2.2 (inb e1 h0 (List.getElem?_eq_some_iff.mp hv).1) (atL e1 hv) (g := mkF m pc L (.int j :: .ref a :: st)) rfl rfl (hb C.2.1 hd) _ h1, h2⟩
theorem zaload (C : Ctx p s m meth c Z own nm B ml rt) {vs : List Value} {a : Addr} {j : Int32} {v : Value} (hd : decode B pc = .ok (.baload, 1)) (hq : pc + 1 = q) (hμ : μ a = some (.inr (.boolean, vs))) (h0 : ¬ j < 0) (hv : vs[j.toNatClampNeg]? = some v) (k' : Go p l e R s m args below meth c Z n0 P kc ks μ k n (mkF m q L (v :: st))) : Go p l e R s m args below meth c Z n0 P kc ks μ k n (mkF m pc L (.int j :: .ref a :: st)) := by
  subst hq
  intro T locs X F H
  obtain ⟨cl, A, e1, -⟩ := H.2 a _ hμ
  obtain ⟨s2, o, h1, h2⟩ := k' T _ X F H
  exact ⟨s2, o, X.baloadBooleans C.1 A.1 (State.isArrayOf_alike C.2.2.2.1.alike A.2.1) A.2.2 (inb e1 h0 (List.getElem?_eq_some_iff.mp hv).1) (atL e1 hv) (g := mkF m pc L (.int j :: .ref a :: st)) rfl rfl (hb C.2.1 hd) _ h1, h2⟩
theorem aaload (C : Ctx p s m meth c Z own nm B ml rt) {ty : FieldType} {vs : List Value} {a : Addr} {j : Int32} {v : Value} (hd : decode B pc = .ok (.aaload, 1)) (hq : pc + 1 = q) (hμ : μ a = some (.inr (ty, vs))) (hr : ty.isReference = true) (h0 : ¬ j < 0) (hv : vs[j.toNatClampNeg]? = some v) (k' : Go p l e R s m args below meth c Z n0 P kc ks μ k n (mkF m q L (v :: st))) : Go p l e R s m args below meth c Z n0 P kc ks μ k n (mkF m pc L (.int j :: .ref a :: st)) := by
  subst hq
  intro T locs X F H
  obtain ⟨cl, A, e1, -⟩ := H.2 a _ hμ
  obtain ⟨s2, o, h1, h2⟩ := k' T _ X F H
  exact ⟨s2, o, X.aaload C.1 A.1 (State.isArrayOf_alike C.2.2.2.1.alike A.2.1) hr A.2.2 (inb e1 h0 (List.getElem?_eq_some_iff.mp hv).1) (atL e1 hv) (g := mkF m pc L (.int j :: .ref a :: st)) rfl rfl (hb C.2.1 hd) _ h1, h2⟩
theorem iastore (C : Ctx p s m meth c Z own nm B ml rt) {vs : List Value} {a : Addr} {j : Int32} {x : Int32} (hd : decode B pc = .ok (.iastore, 1)) (hq : pc + 1 = q) (hμ : μ a = some (.inr (.int, vs))) (h0 : ¬ j < 0) (hj : j.toNatClampNeg < vs.length) (ha : n0 ≤ a) (k' : Go p l e R s m args below meth c Z n0 P kc ks (upd μ a (.inr (.int, vs.set j.toNatClampNeg (.int x)))) k n (mkF m q L st)) : Go p l e R s m args below meth c Z n0 P kc ks μ k n (mkF m pc L ((.int x) :: .int j :: .ref a :: st)) := by
  subst hq
  intro T locs X F H
  have I := H.2 a _ hμ
  obtain ⟨cl, A, e1, -⟩ := id I
  obtain ⟨T', h', X', e', W, stp⟩ := stI X C.1 C.2.2.2.1 rfl A (inb e1 h0 hj) (g := mkF m pc L ((.int x) :: .int j :: .ref a :: st)) rfl rfl (hb C.2.1 hd)
  obtain ⟨s2, o, h1, h2⟩ := k' T' _ X' (Fr.snoc X' F ha) (by rw [e']; exact H.wr W ha (IsA.put I rfl W))
  exact ⟨s2, o, stp _ h1, up (by first | exact Nat.le_of_eq (by rw [e', W.size]) | (rw [e']; exact E.1)) h2⟩
theorem lastore (C : Ctx p s m meth c Z own nm B ml rt) {vs : List Value} {a : Addr} {j : Int32} {x : Int64} (hd : decode B pc = .ok (.lastore, 1)) (hq : pc + 1 = q) (hμ : μ a = some (.inr (.long, vs))) (h0 : ¬ j < 0) (hj : j.toNatClampNeg < vs.length) (ha : n0 ≤ a) (k' : Go p l e R s m args below meth c Z n0 P kc ks (upd μ a (.inr (.long, vs.set j.toNatClampNeg (.long x)))) k n (mkF m q L st)) : Go p l e R s m args below meth c Z n0 P kc ks μ k n (mkF m pc L ((.long x) :: .int j :: .ref a :: st)) := by
  subst hq
  intro T locs X F H
  have I := H.2 a _ hμ
  obtain ⟨cl, A, e1, -⟩ := id I
  obtain ⟨T', h', X', e', W, stp⟩ := stJ X C.1 C.2.2.2.1 rfl A (inb e1 h0 hj) (g := mkF m pc L ((.long x) :: .int j :: .ref a :: st)) rfl rfl (hb C.2.1 hd)
  obtain ⟨s2, o, h1, h2⟩ := k' T' _ X' (Fr.snoc X' F ha) (by rw [e']; exact H.wr W ha (IsA.put I rfl W))
  exact ⟨s2, o, stp _ h1, up (by first | exact Nat.le_of_eq (by rw [e', W.size]) | (rw [e']; exact E.1)) h2⟩
theorem castore (C : Ctx p s m meth c Z own nm B ml rt) {vs : List Value} {a : Addr} {j : Int32} {x : Int32} (hd : decode B pc = .ok (.castore, 1)) (hq : pc + 1 = q) (hμ : μ a = some (.inr (.char, vs))) (h0 : ¬ j < 0) (hj : j.toNatClampNeg < vs.length) (ha : n0 ≤ a) (k' : Go p l e R s m args below meth c Z n0 P kc ks (upd μ a (.inr (.char, vs.set j.toNatClampNeg (.int (nar .char x))))) k n (mkF m q L st)) : Go p l e R s m args below meth c Z n0 P kc ks μ k n (mkF m pc L ((.int x) :: .int j :: .ref a :: st)) := by
  subst hq
  intro T locs X F H
  have I := H.2 a _ hμ
  obtain ⟨cl, A, e1, -⟩ := id I
  obtain ⟨T', h', X', e', W, stp⟩ := stC X C.1 C.2.2.2.1 rfl A (inb e1 h0 hj) (g := mkF m pc L ((.int x) :: .int j :: .ref a :: st)) rfl rfl (hb C.2.1 hd)
  obtain ⟨s2, o, h1, h2⟩ := k' T' _ X' (Fr.snoc X' F ha) (by rw [e']; exact H.wr W ha (IsA.put I (fits_nar_char _) W))
  exact ⟨s2, o, stp _ h1, up (by first | exact Nat.le_of_eq (by rw [e', W.size]) | (rw [e']; exact E.1)) h2⟩
theorem bastore (C : Ctx p s m meth c Z own nm B ml rt) {vs : List Value} {a : Addr} {j : Int32} {x : Int32} (hd : decode B pc = .ok (.bastore, 1)) (hq : pc + 1 = q) (hμ : μ a = some (.inr (.byte, vs))) (h0 : ¬ j < 0) (hj : j.toNatClampNeg < vs.length) (ha : n0 ≤ a) (k' : Go p l e R s m args below meth c Z n0 P kc ks (upd μ a (.inr (.byte, vs.set j.toNatClampNeg (.int x.toInt8.toInt32)))) k n (mkF m q L st)) : Go p l e R s m args below meth c Z n0 P kc ks μ k n (mkF m pc L ((.int x) :: .int j :: .ref a :: st)) := by
  subst hq
  intro T locs X F H
  have I := H.2 a _ hμ
  obtain ⟨cl, A, e1, -⟩ := id I
  obtain ⟨T', h', X', e', W, stp⟩ := stB X C.1 C.2.2.2.1 rfl A (inb e1 h0 hj) (g := mkF m pc L ((.int x) :: .int j :: .ref a :: st)) rfl rfl (hb C.2.1 hd)
  obtain ⟨s2, o, h1, h2⟩ := k' T' _ X' (Fr.snoc X' F ha) (by rw [e']; exact H.wr W ha (IsA.put I (fits_nar_byte _) W))
  exact ⟨s2, o, stp _ h1, up (by first | exact Nat.le_of_eq (by rw [e', W.size]) | (rw [e']; exact E.1)) h2⟩
theorem zastore (C : Ctx p s m meth c Z own nm B ml rt) {vs : List Value} {a : Addr} {j : Int32} {x : Int32} (hd : decode B pc = .ok (.bastore, 1)) (hq : pc + 1 = q) (hμ : μ a = some (.inr (.boolean, vs))) (h0 : ¬ j < 0) (hj : j.toNatClampNeg < vs.length) (ha : n0 ≤ a) (k' : Go p l e R s m args below meth c Z n0 P kc ks (upd μ a (.inr (.boolean, vs.set j.toNatClampNeg (.int (nar .boolean x))))) k n (mkF m q L st)) : Go p l e R s m args below meth c Z n0 P kc ks μ k n (mkF m pc L ((.int x) :: .int j :: .ref a :: st)) := by
  subst hq
  intro T locs X F H
  have I := H.2 a _ hμ
  obtain ⟨cl, A, e1, -⟩ := id I
  obtain ⟨T', h', X', e', W, stp⟩ := stZ X C.1 C.2.2.2.1 rfl A (inb e1 h0 hj) (g := mkF m pc L ((.int x) :: .int j :: .ref a :: st)) rfl rfl (hb C.2.1 hd)
  obtain ⟨s2, o, h1, h2⟩ := k' T' _ X' (Fr.snoc X' F ha) (by rw [e']; exact H.wr W ha (IsA.put I (fits_nar_bool _) W))
  exact ⟨s2, o, stp _ h1, up (by first | exact Nat.le_of_eq (by rw [e', W.size]) | (rw [e']; exact E.1)) h2⟩
theorem aastore (C : Ctx p s m meth c Z own nm B ml rt) {K : String} {vs : List Value} {a : Addr} {j : Int32} {v : Value} (hd : decode B pc = .ok (.aastore, 1)) (hq : pc + 1 = q) (hμ : μ a = some (.inr (.object K, vs))) (hv : v = .null ∨ ∃ b, v = .ref b ∧ ∀ h, Hp Z n0 μ h → Ins Z h b K true) (h0 : ¬ j < 0) (hj : j.toNatClampNeg < vs.length) (ha : n0 ≤ a) (k' : Go p l e R s m args below meth c Z n0 P kc ks (upd μ a (.inr (.object K, vs.set j.toNatClampNeg v))) k n (mkF m q L st)) : Go p l e R s m args below meth c Z n0 P kc ks μ k n (mkF m pc L (v :: .int j :: .ref a :: st)) := by
  subst hq
  intro T locs X F H
  have I := H.2 a _ hμ
  obtain ⟨cl, A, e1, -, -, O⟩ := id I
  have S : Sto Z T.heap a v := by
    rcases hv with rfl | ⟨b, rfl, hb⟩
    · exact Or.inl rfl
    · exact Sto.of A (O ha K rfl) (hb _ H)
  have hf : fits (.object K) v = true := by
    rcases hv with rfl | ⟨b, rfl, -⟩ <;> rfl
  obtain ⟨T', h', X', e', W, stp⟩ := stR X C.1 C.2.2.2.1 rfl A (inb e1 h0 hj) rfl S (g := mkF m pc L (v :: .int j :: .ref a :: st)) rfl rfl (hb C.2.1 hd)
  obtain ⟨s2, o, h1, h2⟩ := k' T' _ X' (Fr.snoc X' F ha) (by rw [e']; exact H.wr W ha (IsA.put I hf W))
  exact ⟨s2, o, stp _ h1, up (by first | exact Nat.le_of_eq (by rw [e', W.size]) | (rw [e']; exact E.1)) h2⟩
/-! returns -/
theorem ireturn (C : Ctx p s m meth c Z own nm B ml (some .int)) {z : Int32} (hd : decode B pc = .ok (.ireturn, 1)) (hk : k ≤ kc) (hn : n ≤ ks) (h : P (some (.int z)) μ) : Go p l e R s m args below meth c Z n0 P kc ks μ k n (mkF m pc L (.int z :: st)) := fun T locs X F H => by
  obtain ⟨fs, hr, hrun, hended, hW, hsame⟩ := X.leave (v := some (.int z)) (fun h => by rw [C.2.2.2.2.2.1] at h; cases h) C.2.2.2.2.2.2.1
  exact ⟨_, _, retOut X C.1 C.2.2.2.2.2.1 rfl (Or.inl ⟨rfl, Or.inl rfl, z, rfl⟩) (hb C.2.1 hd) hr, hrun, hended, _, _, rfl, ⟨F, μ, H, h⟩, Nat.le_refl _, ReturnedEndW.of_narrow ⟨_, rfl⟩ hW (hsame.mono hk hn)⟩
theorem nreturn {t : FieldType} (C : Ctx p s m meth c Z own nm B ml (some t)) {z z' : Int32} (hd : decode B pc = .ok (.ireturn, 1)) (ht : t = .boolean ∨ t = .byte ∨ t = .char ∨ t = .short) (hz : nar t z = z') (hk : k ≤ kc) (hn : n ≤ ks) (h : P (some (.int z')) μ) : Go p l e R s m args below meth c Z n0 P kc ks μ k n (mkF m pc L (.int z :: st)) := fun T locs X F H => by
  subst hz
  obtain ⟨fs, hr, hrun, hended, hW, hsame⟩ := X.leave (v := some (.int (nar t z))) (fun h => by rw [C.2.2.2.2.2.1] at h; cases h) C.2.2.2.2.2.2.1
  exact ⟨_, _, retN X C.1 C.2.2.2.2.2.1 ht (hb C.2.1 hd) hr, hrun, hended, _, _, rfl, ⟨F, μ, H, h⟩, Nat.le_refl _, ReturnedEndW.of_narrow ⟨_, rfl⟩ hW (hsame.mono hk hn)⟩
theorem lreturn (C : Ctx p s m meth c Z own nm B ml (some .long)) {z : Int64} (hd : decode B pc = .ok (.lreturn, 1)) (hk : k ≤ kc) (hn : n ≤ ks) (h : P (some (.long z)) μ) : Go p l e R s m args below meth c Z n0 P kc ks μ k n (mkF m pc L (.long z :: st)) := fun T locs X F H => by
  obtain ⟨fs, hr, hrun, hended, hW, hsame⟩ := X.leave (v := some (.long z)) (fun h => by rw [C.2.2.2.2.2.1] at h; cases h) C.2.2.2.2.2.2.1
  exact ⟨_, _, retOut X C.1 C.2.2.2.2.2.1 rfl (Or.inr (Or.inl ⟨rfl, rfl, z, rfl⟩)) (hb C.2.1 hd) hr, hrun, hended, _, _, rfl, ⟨F, μ, H, h⟩, Nat.le_refl _, ReturnedEndW.of_narrow ⟨_, rfl⟩ hW (hsame.mono hk hn)⟩
theorem nref {t : FieldType} {v : Value} (h1 : t.isReference = true) (h2 : v.isRef = true) : narrow t v = v := by
  cases t <;> first | (cases h1; done) | rfl
theorem areturn {t : FieldType} (C : Ctx p s m meth c Z own nm B ml (some t)) {v : Value} (ht : t.isReference = true) (hv : v.isRef = true) (hd : decode B pc = .ok (.areturn, 1)) (hk : k ≤ kc) (hn : n ≤ ks) (h : P (some v) μ) : Go p l e R s m args below meth c Z n0 P kc ks μ k n (mkF m pc L (v :: st)) := fun T locs X F H => by
  obtain ⟨fs, hr, hrun, hended, hW, hsame⟩ := X.leave (v := some v) (fun h => by rw [C.2.2.2.2.2.1] at h; cases h) C.2.2.2.2.2.2.1
  exact ⟨_, _, retOut X C.1 C.2.2.2.2.2.1 (nref ht hv) (Or.inr (Or.inr (Or.inr (Or.inr ⟨rfl, ht, hv⟩)))) (hb C.2.1 hd) hr, hrun, hended, _, _, rfl, ⟨F, μ, H, h⟩, Nat.le_refl _, ReturnedEndW.of_narrow ⟨_, rfl⟩ hW (hsame.mono hk hn)⟩
theorem vreturn (C : Ctx p s m meth c Z own nm B ml none) (hd : decode B pc = .ok (.return_, 1)) (hk : k ≤ kc) (hn : n ≤ ks) (h : P none μ) : Go p l e R s m args below meth c Z n0 P kc ks μ k n (mkF m pc L []) := fun T locs X F H => by
  obtain ⟨fs, hr, hrun, hended, hW, hsame⟩ := X.leave (v := none) (fun _ => rfl) C.2.2.2.2.2.2.1
  exact ⟨_, _, X.returnOut C.1 C.2.2.2.2.2.1 (hb C.2.1 hd) hr, hrun, hended, _, _, rfl, ⟨F, μ, H, h⟩, Nat.le_refl _, ReturnedEndW.of_narrow ⟨_, rfl⟩ hW (hsame.mono hk hn)⟩
/-! what a callee leaves, by the kind of its return -/
def RV (Q : Mem → Prop) : Option Value → Mem → Prop := fun v μ => v = none ∧ Q μ
def RI (Q : Int32 → Mem → Prop) : Option Value → Mem → Prop := fun v μ => ∃ z, v = some (.int z) ∧ Q z μ
def RJ (Q : Int64 → Mem → Prop) : Option Value → Mem → Prop := fun v μ => ∃ z, v = some (.long z) ∧ Q z μ
def RR (Q : Value → Mem → Prop) : Option Value → Mem → Prop := fun v μ => ∃ z : Value, v = some z ∧ z.isRef = true ∧ Q z μ
section Nx
variable {k2 n2 : Nat}
theorem nxV {Q : Mem → Prop} (h : ∀ μ', Q μ' → Go p l e R s m args below meth c Z n0 P kc ks μ' k2 n2 (mkF m q L st)) : ∀ v μ', RV Q v μ' → Go p l e R s m args below meth c Z n0 P kc ks μ' k2 n2 (mkF m q L (v.toList ++ st)) := fun v μ' ⟨e1, e2⟩ => by subst e1; exact h μ' e2
theorem nxI {Q : Int32 → Mem → Prop} (h : ∀ z μ', Q z μ' → Go p l e R s m args below meth c Z n0 P kc ks μ' k2 n2 (mkF m q L (.int z :: st))) : ∀ v μ', RI Q v μ' → Go p l e R s m args below meth c Z n0 P kc ks μ' k2 n2 (mkF m q L (v.toList ++ st)) := fun v μ' ⟨z, e1, e2⟩ => by subst e1; exact h z μ' e2
theorem nxJ {Q : Int64 → Mem → Prop} (h : ∀ z μ', Q z μ' → Go p l e R s m args below meth c Z n0 P kc ks μ' k2 n2 (mkF m q L (.long z :: st))) : ∀ v μ', RJ Q v μ' → Go p l e R s m args below meth c Z n0 P kc ks μ' k2 n2 (mkF m q L (v.toList ++ st)) := fun v μ' ⟨z, e1, e2⟩ => by subst e1; exact h z μ' e2
theorem nxR {Q : Value → Mem → Prop} (h : ∀ z μ', z.isRef = true → Q z μ' → Go p l e R s m args below meth c Z n0 P kc ks μ' k2 n2 (mkF m q L (z :: st))) : ∀ v μ', RR Q v μ' → Go p l e R s m args below meth c Z n0 P kc ks μ' k2 n2 (mkF m q L (v.toList ++ st)) := fun v μ' ⟨z, e1, e2, e3⟩ => by subst e1; exact h z μ' e2 e3
end Nx
/-! calls by contract -/
theorem backs {y : MethodName} {B' : ByteArray} {ml' : Nat} {rt' : Option FieldType} {rm : Room} {len W : Nat} {as' : Array Value} {P' : Option Value → Mem → Prop} {h : Heap}
    (con : Con l Z n0 y B' ml' rt' [] rm rm.cells rm.slots as' μ P') (H : Hp Z n0 μ h) (hZ : Z.Warmed39 s.vm) (wc : (Cond.code y B' ml' rt').before a0 Z = true) (wz : (Cond.initialized y.cls).before a0 Z = true) (hf : rm.frames + 1 ≤ R.frames) (hl : W + (ml' + 11) + rm.locals ≤ R.locals) :
    BackS l R p e below s args y len W (fun A a => a = as' ∧ A.U.heap = h ∧ A.cells + rm.cells ≤ R.cells ∧ A.slots + rm.slots ≤ R.slots)
      (fun A _ v B => ∃ L, (Fr n0 L ∧ ∃ μ', Hp Z n0 μ' B.U.heap ∧ P' v μ') ∧ B.locs = A.locs ++ L ∧ B.cells = A.cells + rm.cells ∧ B.slots = A.slots + rm.slots) :=
  backOfS (Q := fun v h' L => Fr n0 L ∧ ∃ μ', Hp Z n0 μ' h' ∧ P' v μ') (con h H) hZ wc wz hf hl
theorem callS (C : Ctx p s m meth c Z own nm B ml rt) {i : Nat} {y : MethodName} {B' : ByteArray} {ml' : Nat} {rt' : Option FieldType} {rm : Room} {W : Nat} {argsL : List Value} {P' : Option Value → Mem → Prop} {S : List Value} (hd : decode B pc = .ok (.invokestatic i, 3)) (hq : pc + 3 = q)
    (w1 : (Cond.methodLink own i y).before a0 Z = true) (w2 : (Cond.static y).before a0 Z = true) (w3 : (Cond.initialized y.cls).before a0 Z = true) (w4 : (Cond.code y B' ml' rt').before a0 Z = true) (hy : y.cls ≠ "java/lang/invoke/MethodHandle" ∧ y.cls ≠ "java/lang/invoke/VarHandle")
    (hlen : ∀ sig, parseMethodDescriptor y.desc = some sig → argsL.length = sig.parameters.length) (hS : S = argsL.reverse ++ st) (hsz : L.size = ml) (hW : 2 * 0 + (st.map fun v => v.category).sum ≤ W) (hf : rm.frames + 1 ≤ R.frames) (hl : W + (ml' + 11) + rm.locals ≤ R.locals) (hc : k + rm.cells ≤ R.cells) (hs : n + rm.slots ≤ R.slots)
    (con : Con l Z n0 y B' ml' rt' [] rm rm.cells rm.slots argsL.toArray μ P')
    (k' : ∀ s' : State, Ctx p s' m meth c Z own nm B ml rt → ∀ v μ', P' v μ' → Go p l e R s' m args below meth c Z n0 P kc ks μ' (k + rm.cells) (n + rm.slots) (mkF m q L (v.toList ++ st))) : Go p l e R s m args below meth c Z n0 P kc ks μ k n (mkF m pc L S) := by
  subst hq
  intro T locs X F H
  obtain ⟨v, vm1, ⟨T', L', k2, n2⟩, -, X', hS, hgr, ⟨Lc, ⟨N, μ', H', hP⟩, e1, e2, e3⟩, stp⟩ := Jvm.RoadKit.callSS X C.1 (y := y) C.2.2.2.2.1 (mvT C.2.2.2.1 w1) (mvT C.2.2.2.1 w2) (mvT C.2.2.2.1 w3) (mvT C.2.2.2.1 w4) hy (backs (W := W) con H C.2.2.2.1 w4 w3 hf hl) (g := mkF m pc L S) rfl (hsz.trans C.2.2.1.symm) (argsL := argsL) (rest := st) hlen hS hW (hb C.2.1 hd) (fun _ _ => ⟨rfl, rfl, hc, hs⟩)
  dsimp only [Pt.U, Pt.locs, Pt.cells, Pt.slots] at X' e1 e2 e3 stp H' hS hgr
  subst e1 e2 e3
  obtain ⟨s2, o, h1, h2⟩ := k' (s.setVm T'.vm) (C.to hS) v μ' hP T' _ X' (F.app N) H'
  exact ⟨s2, o, stp.trans h1, upS hS (Nat.le_refl _) hgr h2⟩
theorem callI (C : Ctx p s m meth c Z own nm B ml rt) {i : Nat} {y : MethodName} {B' : ByteArray} {ml' : Nat} {rm : Room} {W : Nat} {argsL : List Value} {P' : Option Value → Mem → Prop} {S : List Value} {a : Addr} (hd : decode B pc = .ok (.invokespecial i, 3)) (hq : pc + 3 = q) (hnm : y.name = "<init>")
    (w1 : (Cond.methodLink own i y).before a0 Z = true) (w2 : (Cond.instanceMethod y).before a0 Z = true) (w3 : (Cond.initialized y.cls).before a0 Z = true) (w4 : (Cond.code y B' ml' none).before a0 Z = true) (hy : y.cls ≠ "java/lang/invoke/MethodHandle" ∧ y.cls ≠ "java/lang/invoke/VarHandle")
    (hlen : ∀ sig, parseMethodDescriptor y.desc = some sig → argsL.length = sig.parameters.length) (hS : S = argsL.reverse ++ .ref a :: st) (hsz : L.size = ml) (hW : 2 * 0 + (st.map fun v => v.category).sum ≤ W) (hf : rm.frames + 1 ≤ R.frames) (hl : W + (ml' + 11) + rm.locals ≤ R.locals) (hc : k + rm.cells ≤ R.cells) (hs : n + rm.slots ≤ R.slots)
    (con : Con l Z n0 y B' ml' none [] rm rm.cells rm.slots (.ref a :: argsL).toArray μ P')
    (k' : ∀ s' : State, Ctx p s' m meth c Z own nm B ml rt → ∀ v μ', P' v μ' → Go p l e R s' m args below meth c Z n0 P kc ks μ' (k + rm.cells) (n + rm.slots) (mkF m q L (v.toList ++ st))) : Go p l e R s m args below meth c Z n0 P kc ks μ k n (mkF m pc L S) := by
  subst hq
  intro T locs X F H
  obtain ⟨v, vm1, ⟨T', L', k2, n2⟩, -, X', hS, hgr, ⟨Lc, ⟨N, μ', H', hP⟩, e1, e2, e3⟩, stp⟩ := X.specialBackS C.1 (y := y) hnm C.2.2.2.2.1 (mvT C.2.2.2.1 w1) (mvT C.2.2.2.1 w2) (mvT C.2.2.2.1 w4) hy (backs (W := W) con H C.2.2.2.1 w4 w3 hf hl) (g := mkF m pc L S) rfl (hsz.trans C.2.2.1.symm) (Steps.refl _) (a := a) (argsL := argsL) (rest := st) hlen hS hW (hb C.2.1 hd) (fun _ _ => ⟨rfl, rfl, hc, hs⟩)
  dsimp only [Pt.U, Pt.locs, Pt.cells, Pt.slots] at X' e1 e2 e3 stp H' hS hgr
  subst e1 e2 e3
  obtain ⟨s2, o, h1, h2⟩ := k' (s.setVm T'.vm) (C.to hS) v μ' hP T' _ X' (F.app N) H'
  exact ⟨s2, o, stp.trans h1, upS hS (Nat.le_refl _) hgr h2⟩
theorem initObj (C : Ctx p s m meth c Z own nm B ml rt) {i W : Nat} {a : Addr} (hd : decode B pc = .ok (.invokespecial i, 3)) (hq : pc + 3 = q) (w1 : (Cond.methodLink own i Lib.objectInit).before a0 Z = true) (w2 : (Cond.instanceMethod Lib.objectInit).before a0 Z = true) (w3 : (Cond.code Lib.objectInit ⟨#[0xb1]⟩ 1 none).before a0 Z = true)
    (hsz : L.size = ml) (hf : 1 ≤ R.frames) (hW : 2 * 0 + (st.map fun v => v.category).sum ≤ W) (hl : W + 12 ≤ R.locals) (k' : Go p l e R s m args below meth c Z n0 P kc ks μ k n (mkF m q L st)) : Go p l e R s m args below meth c Z n0 P kc ks μ k n (mkF m pc L (.ref a :: st)) := by
  subst hq
  exact Go.stand k' fun T locs X H => initO X C.1 C.2.2.2.1 C.2.2.2.2.1 w1 w2 w3 rfl (g := mkF m pc L (.ref a :: st)) rfl (hsz.trans C.2.2.1.symm) rfl (hb C.2.1 hd) hf hW hl
theorem callV (C : Ctx p s m meth c Z own nm B ml rt) {i : Nat} {y z : MethodName} {K : String} {fs : List (Key × Value)} {B' : ByteArray} {ml' : Nat} {rt' : Option FieldType} {rm : Room} {W : Nat} {argsL : List Value} {P' : Option Value → Mem → Prop} {S : List Value} {a : Addr} (hd : decode B pc = .ok (.invokevirtual i, 3)) (hq : pc + 3 = q)
    (w1 : (Cond.methodLink own i y).before a0 Z = true) (w2 : (Cond.declares y).before a0 Z = true) (hnf : NotFace s y) (w5 : (Cond.selects K y z).before a0 Z = true) (w6 : (Cond.instanceMethod z).before a0 Z = true) (w3 : (Cond.initialized z.cls).before a0 Z = true) (w4 : (Cond.code z B' ml' rt').before a0 Z = true) (hy : y.cls ≠ "java/lang/invoke/MethodHandle" ∧ y.cls ≠ "java/lang/invoke/VarHandle")
    (hlen : ∀ sig, parseMethodDescriptor y.desc = some sig → argsL.length = sig.parameters.length) (hS : S = argsL.reverse ++ .ref a :: st) (hsz : L.size = ml) (hW : 2 * 0 + (st.map fun v => v.category).sum ≤ W) (hf : rm.frames + 1 ≤ R.frames) (hl : W + (ml' + 11) + rm.locals ≤ R.locals) (hc : k + rm.cells ≤ R.cells) (hs : n + rm.slots ≤ R.slots)
    (hμ : μ a = some (.inl (K, fs))) (con : Con l Z n0 z B' ml' rt' [] rm rm.cells rm.slots (.ref a :: argsL).toArray μ P')
    (k' : ∀ s' : State, Ctx p s' m meth c Z own nm B ml rt → ∀ v μ', P' v μ' → Go p l e R s' m args below meth c Z n0 P kc ks μ' (k + rm.cells) (n + rm.slots) (mkF m q L (v.toList ++ st))) : Go p l e R s m args below meth c Z n0 P kc ks μ k n (mkF m pc L S) := by
  subst hq
  intro T locs X F H
  obtain ⟨cq, kq, qa, qb, qc⟩ := isOf (T := T) C.2.2.2.1 rfl (H.2 a _ hμ).1
  obtain ⟨v, vm1, ⟨T', L', k2, n2⟩, -, X', hS, hgr, ⟨Lc, ⟨N, μ', H', hP⟩, e1, e2, e3⟩, stp⟩ := X.virtualBackS C.1 (y := y) (z := z) C.2.2.2.2.1 (mvT C.2.2.2.1 w1) (mvT C.2.2.2.1 w2) hnf (mvT C.2.2.2.1 w5) (mvT C.2.2.2.1 w6) hy (backs (W := W) con H C.2.2.2.1 w4 w3 hf hl) qa qc (g := mkF m pc L S) rfl (hsz.trans C.2.2.1.symm) (Steps.refl _) (argsL := argsL) (rest := st) hlen hS hW (hb C.2.1 hd) (fun _ _ => ⟨rfl, rfl, hc, hs⟩)
  dsimp only [Pt.U, Pt.locs, Pt.cells, Pt.slots] at X' e1 e2 e3 stp H' hS hgr
  subst e1 e2 e3
  obtain ⟨s2, o, h1, h2⟩ := k' (s.setVm T'.vm) (C.to hS) v μ' hP T' _ X' (F.app N) H'
  exact ⟨s2, o, stp.trans h1, upS hS (Nat.le_refl _) hgr h2⟩
theorem callP (C : Ctx p s m meth c Z own nm B ml rt) {i : Nat} {y : MethodName} {K : String} {fs : List (Key × Value)} {B' : ByteArray} {ml' : Nat} {rt' : Option FieldType} {rm : Room} {W : Nat} {argsL : List Value} {P' : Option Value → Mem → Prop} {S : List Value} {a : Addr} (hd : decode B pc = .ok (.invokevirtual i, 3)) (hq : pc + 3 = q)
    (w1 : (Cond.methodLink own i y).before a0 Z = true) (w2 : (Cond.privateMethod y).before a0 Z = true) {kk : Nat} (w5 : (Cond.instantiable y.cls kk).before a0 Z = true) (w6 : (Cond.instanceMethod y).before a0 Z = true) (w3 : (Cond.initialized y.cls).before a0 Z = true) (w4 : (Cond.code y B' ml' rt').before a0 Z = true) (hy : y.cls ≠ "java/lang/invoke/MethodHandle" ∧ y.cls ≠ "java/lang/invoke/VarHandle")
    (hlen : ∀ sig, parseMethodDescriptor y.desc = some sig → argsL.length = sig.parameters.length) (hS : S = argsL.reverse ++ .ref a :: st) (hsz : L.size = ml) (hW : 2 * 0 + (st.map fun v => v.category).sum ≤ W) (hf : rm.frames + 1 ≤ R.frames) (hl : W + (ml' + 11) + rm.locals ≤ R.locals) (hc : k + rm.cells ≤ R.cells) (hs : n + rm.slots ≤ R.slots)
    (hμ : μ a = some (.inl (K, fs))) (con : Con l Z n0 y B' ml' rt' [] rm rm.cells rm.slots (.ref a :: argsL).toArray μ P')
    (k' : ∀ s' : State, Ctx p s' m meth c Z own nm B ml rt → ∀ v μ', P' v μ' → Go p l e R s' m args below meth c Z n0 P kc ks μ' (k + rm.cells) (n + rm.slots) (mkF m q L (v.toList ++ st))) : Go p l e R s m args below meth c Z n0 P kc ks μ k n (mkF m pc L S) := by
  subst hq
  intro T locs X F H
  obtain ⟨cq, q1, q2⟩ := (H.2 a _ hμ).1.cell
  have hp : s.PrivateAt y := Cond.privateMethod_at (mvP C.2.2.2.1 w2 (args := #[]))
  obtain ⟨c2, k2, i1, i2, -, i4, -⟩ := Cond.instantiable_spec (show (Cond.instantiable y.cls kk).before args s = true from mvT C.2.2.2.1 w5)
  have h5 : (Cond.selects y.cls y y).before args s = true := Jvm.Stand.selects_self_of_private i1 i2 (by simp only [Bool.or_eq_false_iff] at i4; exact i4.1) hp (mvT C.2.2.2.1 w6) hy
  obtain ⟨v, vm1, ⟨T', L', k2, n2⟩, -, X', hS, hgr, ⟨Lc, ⟨N, μ', H', hP⟩, e1, e2, e3⟩, stp⟩ := X.privateBackS C.1 (y := y) C.2.2.2.2.1 (mvT C.2.2.2.1 w1) (mvT C.2.2.2.1 w6) h5 hp (mvT C.2.2.2.1 w4) hy (backs (W := W) con H C.2.2.2.1 w4 w3 hf hl) (g := mkF m pc L S) rfl (hsz.trans C.2.2.1.symm) (Steps.refl _) (a := a) q1 q2 (argsL := argsL) (rest := st) hlen hS hW (hb C.2.1 hd) (fun _ _ => ⟨rfl, rfl, hc, hs⟩)
  dsimp only [Pt.U, Pt.locs, Pt.cells, Pt.slots] at X' e1 e2 e3 stp H' hS hgr
  subst e1 e2 e3
  obtain ⟨s2, o, h1, h2⟩ := k' (s.setVm T'.vm) (C.to hS) v μ' hP T' _ X' (F.app N) H'
  exact ⟨s2, o, stp.trans h1, upS hS (Nat.le_refl _) hgr h2⟩
end Rules
end Jvm.Own
namespace Jvm.Own
open Sem ClassFile Op Lib Jvm.Stand Jvm.Free Jvm.LawKit Jvm.RoadKit
section Dbl
variable {p : Program} {l : Launch} {e : Env} {R : Room} {s : State} {m : MethodId} {args : Array Value} {below : List Frame} {meth : Method} {c : Code} {Z : State} {a0 : Array Value} {n0 : Nat} {P : Option Value → Mem → Prop} {kc ks : Nat} {μ : Mem} {k n : Nat}
  {own nm : String} {B : ByteArray} {ml : Nat} {rt : Option FieldType} {pc q : Nat} {L L' : Array Slot} {st : List Value}
theorem dloadN (C : Ctx p s m meth c Z own nm B ml rt) {i : Fin 4} {v : UInt64} (hd : decode B pc = .ok (.dload_n i, 1)) (hq : pc + 1 = q) (hl : L[i.val]? = some (.val (.double v))) (k' : Go p l e R s m args below meth c Z n0 P kc ks μ k n (mkF m q L (.double v :: st))) : Go p l e R s m args below meth c Z n0 P kc ks μ k n (mkF m pc L st) := by
  subst hq
  exact Go.pure k' fun T h t hr => XS.dloadN h C.1 rfl (hb C.2.1 hd) hl hr
theorem dstoreN (C : Ctx p s m meth c Z own nm B ml rt) {i : Fin 4} {v : UInt64} (hd : decode B pc = .ok (.dstore_n i, 1)) (hq : pc + 1 = q) (hl : storeLocals L i.val (.double v) = some L') (k' : Go p l e R s m args below meth c Z n0 P kc ks μ k n (mkF m q L' st)) : Go p l e R s m args below meth c Z n0 P kc ks μ k n (mkF m pc L (.double v :: st)) := by
  subst hq
  exact Go.pure k' fun T h t hr => XS.dstoreN h C.1 rfl (hb C.2.1 hd) rfl hl hr
theorem dload (C : Ctx p s m meth c Z own nm B ml rt) {i : Nat} {v : UInt64} (hd : decode B pc = .ok (.dload i, 2)) (hq : pc + 2 = q) (hl : L[i]? = some (.val (.double v))) (k' : Go p l e R s m args below meth c Z n0 P kc ks μ k n (mkF m q L (.double v :: st))) : Go p l e R s m args below meth c Z n0 P kc ks μ k n (mkF m pc L st) := by
  subst hq
  exact Go.pure k' fun T h t hr => XS.dload h C.1 rfl (hb C.2.1 hd) hl hr
theorem dstore (C : Ctx p s m meth c Z own nm B ml rt) {i : Nat} {v : UInt64} (hd : decode B pc = .ok (.dstore i, 2)) (hq : pc + 2 = q) (hl : storeLocals L i (.double v) = some L') (k' : Go p l e R s m args below meth c Z n0 P kc ks μ k n (mkF m q L' st)) : Go p l e R s m args below meth c Z n0 P kc ks μ k n (mkF m pc L (.double v :: st)) := by
  subst hq
  exact Go.pure k' fun T h t hr => XS.dstore h C.1 rfl (hb C.2.1 hd) rfl hl hr
theorem dconst0 (C : Ctx p s m meth c Z own nm B ml rt) (hd : decode B pc = .ok (.dconst 0, 1)) (hq : pc + 1 = q) (k' : Go p l e R s m args below meth c Z n0 P kc ks μ k n (mkF m q L (.double FP.dconst0 :: st))) : Go p l e R s m args below meth c Z n0 P kc ks μ k n (mkF m pc L st) := by
  subst hq
  exact Go.pure k' fun T h t hr => XS.dconst0 h C.1 rfl (hb C.2.1 hd) rfl hr
theorem dconst1 (C : Ctx p s m meth c Z own nm B ml rt) (hd : decode B pc = .ok (.dconst 1, 1)) (hq : pc + 1 = q) (k' : Go p l e R s m args below meth c Z n0 P kc ks μ k n (mkF m q L (.double FP.dconst1 :: st))) : Go p l e R s m args below meth c Z n0 P kc ks μ k n (mkF m pc L st) := by
  subst hq
  exact Go.pure k' fun T h t hr => XS.dconst1 h C.1 rfl (hb C.2.1 hd) rfl hr
theorem i2d (C : Ctx p s m meth c Z own nm B ml rt) {x : Int32} (hd : decode B pc = .ok (.i2d, 1)) (hq : pc + 1 = q) (k' : Go p l e R s m args below meth c Z n0 P kc ks μ k n (mkF m q L (.double (FP.i2d x) :: st))) : Go p l e R s m args below meth c Z n0 P kc ks μ k n (mkF m pc L (.int x :: st)) := by
  subst hq
  exact Go.pure k' fun T h t hr => XS.i2dS h C.1 rfl (hb C.2.1 hd) rfl rfl hr
theorem dadd (C : Ctx p s m meth c Z own nm B ml rt) {x y : UInt64} (hd : decode B pc = .ok (.dadd, 1)) (hq : pc + 1 = q) (hn : Jvm.Free.Fl.NoNaN64 (FP.dadd x y)) (k' : Go p l e R s m args below meth c Z n0 P kc ks μ k n (mkF m q L (.double (FP.dadd x y) :: st))) : Go p l e R s m args below meth c Z n0 P kc ks μ k n (mkF m pc L (.double y :: .double x :: st)) := by
  subst hq
  exact Go.pure k' fun T h t hr => XS.daddS h C.1 rfl (hb C.2.1 hd) rfl hn rfl hr
theorem dsub (C : Ctx p s m meth c Z own nm B ml rt) {x y : UInt64} (hd : decode B pc = .ok (.dsub, 1)) (hq : pc + 1 = q) (hn : Jvm.Free.Fl.NoNaN64 (FP.dsub x y)) (k' : Go p l e R s m args below meth c Z n0 P kc ks μ k n (mkF m q L (.double (FP.dsub x y) :: st))) : Go p l e R s m args below meth c Z n0 P kc ks μ k n (mkF m pc L (.double y :: .double x :: st)) := by
  subst hq
  exact Go.pure k' fun T h t hr => XS.dsubS h C.1 rfl (hb C.2.1 hd) rfl hn rfl hr
theorem dmul (C : Ctx p s m meth c Z own nm B ml rt) {x y : UInt64} (hd : decode B pc = .ok (.dmul, 1)) (hq : pc + 1 = q) (hn : Jvm.Free.Fl.NoNaN64 (FP.dmul x y)) (k' : Go p l e R s m args below meth c Z n0 P kc ks μ k n (mkF m q L (.double (FP.dmul x y) :: st))) : Go p l e R s m args below meth c Z n0 P kc ks μ k n (mkF m pc L (.double y :: .double x :: st)) := by
  subst hq
  exact Go.pure k' fun T h t hr => XS.dmulS h C.1 rfl (hb C.2.1 hd) rfl hn rfl hr
theorem ddiv (C : Ctx p s m meth c Z own nm B ml rt) {x y : UInt64} (hd : decode B pc = .ok (.ddiv, 1)) (hq : pc + 1 = q) (hn : Jvm.Free.Fl.NoNaN64 (FP.ddiv x y)) (k' : Go p l e R s m args below meth c Z n0 P kc ks μ k n (mkF m q L (.double (FP.ddiv x y) :: st))) : Go p l e R s m args below meth c Z n0 P kc ks μ k n (mkF m pc L (.double y :: .double x :: st)) := by
  subst hq
  exact Go.pure k' fun T h t hr => XS.ddivS h C.1 rfl (hb C.2.1 hd) rfl hn rfl hr
theorem dcmp (C : Ctx p s m meth c Z own nm B ml rt) {x y : UInt64} {o : CmpOp} (hd : decode B pc = .ok (.dcmp o, 1)) (hq : pc + 1 = q) (k' : ∀ z : Int32, z = cmpValue (FP.dcmp x y) o → Go p l e R s m args below meth c Z n0 P kc ks μ k n (mkF m q L (.int z :: st))) : Go p l e R s m args below meth c Z n0 P kc ks μ k n (mkF m pc L (.double y :: .double x :: st)) := by
  subst hq
  exact Go.pure (k' _ rfl) fun T h t hr => XS.dcmpS h C.1 rfl (hb C.2.1 hd) rfl rfl hr
theorem ldcD (C : Ctx p s m meth c Z own nm B ml rt) {i : Nat} {v : UInt64} (hd : decode B pc = .ok (.ldc2_w i, 3)) (hq : pc + 3 = q) (w : (Cond.constantDouble own i v).before a0 Z = true) (k' : Go p l e R s m args below meth c Z n0 P kc ks μ k n (mkF m q L (.double v :: st))) : Go p l e R s m args below meth c Z n0 P kc ks μ k n (mkF m pc L st) := by
  subst hq
  exact Go.stand k' fun T locs X H => ⟨T, X, rfl, X.ldc2DoubleC C.1 C.2.2.2.2.1 (mvT C.2.2.2.1 w) (g := mkF m pc L st) rfl (hb C.2.1 hd)⟩
theorem dreturn (C : Ctx p s m meth c Z own nm B ml (some .double)) {z : UInt64} (hd : decode B pc = .ok (.dreturn, 1)) (hk : k ≤ kc) (hn : n ≤ ks) (h : P (some (.double z)) μ) : Go p l e R s m args below meth c Z n0 P kc ks μ k n (mkF m pc L (.double z :: st)) := fun T locs X F H => by
  obtain ⟨fs, hr, hrun, hended, hW, hsame⟩ := X.leave (v := some (.double z)) (fun h => by rw [C.2.2.2.2.2.1] at h; cases h) C.2.2.2.2.2.2.1
  exact ⟨_, _, retOut X C.1 C.2.2.2.2.2.1 rfl (Or.inr (Or.inr (Or.inl ⟨rfl, rfl, z, rfl⟩))) (hb C.2.1 hd) hr, hrun, hended, _, _, rfl, ⟨F, μ, H, h⟩, Nat.le_refl _, ReturnedEndW.of_narrow ⟨_, rfl⟩ hW (hsame.mono hk hn)⟩
def RD (Q : UInt64 → Mem → Prop) : Option Value → Mem → Prop := fun v μ => ∃ z, v = some (.double z) ∧ Q z μ
theorem nxD {k2 n2 : Nat} {Q : UInt64 → Mem → Prop} (h : ∀ z μ', Q z μ' → Go p l e R s m args below meth c Z n0 P kc ks μ' k2 n2 (mkF m q L (.double z :: st))) : ∀ v μ', RD Q v μ' → Go p l e R s m args below meth c Z n0 P kc ks μ' k2 n2 (mkF m q L (v.toList ++ st)) := fun v μ' ⟨z, e1, e2⟩ => by subst e1; exact h z μ' e2
end Dbl
end Jvm.Own
namespace Jvm.Own
open Sem ClassFile Op Lib Jvm.Stand Jvm.Free Jvm.LawKit Jvm.RoadKit
section Wide
variable {p : Program} {l : Launch} {e : Env} {R : Room} {s : State} {m : MethodId} {args : Array Value} {below : List Frame} {meth : Method} {c : Code} {Z : State} {a0 : Array Value} {n0 : Nat} {P : Option Value → Mem → Prop} {kc ks : Nat} {μ : Mem} {k n : Nat}
  {own nm : String} {B : ByteArray} {ml : Nat} {rt : Option FieldType} {pc q : Nat} {L L' : Array Slot} {st : List Value}
theorem ldcS (C : Ctx p s m meth c Z own nm B ml rt) {i : Nat} {t : String} {N : Nat} (hd : decode B pc = .ok (.ldc i, 2)) (hq : pc + 2 = q) (w : (Cond.stringLink own i t).before a0 Z = true) (wS : ∀ a ∈ Bundle.stringAtoms, a.before a0 Z = true) (hN : 4 * t.toList.length ≤ N) (hbig : N ≤ 536870912) (hc : k + 2 ≤ R.cells) (hs : n + (N + 4) ≤ R.slots)
    (k' : ∀ s' : State, Ctx p s' m meth c Z own nm B ml rt → ∀ a : Addr, Go p l e R s' m args below meth c Z n0 P kc ks μ (k + 2) (n + (N + 4)) (mkF m q L (.ref a :: st))) : Go p l e R s m args below meth c Z n0 P kc ks μ k n (mkF m pc L st) := by
  subst hq
  intro T locs X F H
  have X0 : Stand p l e R (s.setVm s.vm) m args below meth c T locs k n := X
  obtain ⟨a, T', h', k1, X', e', E, hS, hk1, hZ', ho', stp⟩ := RoadKit.ldcS X0 C.1 C.2.2.2.1 C.2.2.2.2.1 w wS rfl ((State.WarmedH.refl s).since T.heap.size) (Nat.le_refl _) (g := mkF m pc L st) rfl (hb C.2.1 hd) hN hbig hc hs
  obtain ⟨s2, o, h1, h2⟩ := k' (s.setVm T'.vm) (C.to hS) a T' _ X' F (by rw [e']; exact H.ext E)
  exact ⟨s2, o, stp _ h1, upS hS (by rw [e']; exact hk1) (by rw [e']; exact E.1) h2⟩
end Wide
end Jvm.Own
namespace Jvm.Pilot.@@N@@
open Jvm Jvm.ClassFile Sem Op Lib Jvm.Free Jvm.Stand Jvm.LawKit Jvm.RoadKit Bundle Jvm.Own Jvm.Pilot.@@N@@.Jvm.D
section Rnd
open Jvm.FP.Core
theorem nearest_mono {A B C D : Nat} (hB : 0 < B) (hD : 0 < D) (h : A * D ≤ C * B) : nearest A B ≤ nearest C D := by
  refine Nat.le_of_not_lt fun hlt => ?_
  obtain ⟨a1, a2, a3⟩ := nearest_spec A B hB
  obtain ⟨c1, c2, c3⟩ := nearest_spec C D hD
  generalize nearest A B = m at *
  generalize nearest C D = m' at *
  -- (2m' + 1) ≤ 2m - 1
  have k1 : (2 * m' + 1) * (B * D) + B * D ≤ 2 * m * (B * D) := by
    have : (2 * m' + 1) + 1 ≤ 2 * m := by omega
    have := Nat.mul_le_mul_right (B * D) this
    rw [Nat.add_mul, Nat.one_mul] at this; exact this
  have k2 : 2 * m * (B * D) ≤ 2 * (A * D) + B * D := by
    have := Nat.mul_le_mul_right D a2
    rw [Nat.add_mul] at this
    rw [show 2 * m * (B * D) = 2 * m * B * D by ac_rfl, show 2 * (A * D) = 2 * A * D by ac_rfl]; exact this
  have k3 : 2 * (C * B) ≤ (2 * m' + 1) * (B * D) := by
    have := Nat.mul_le_mul_right B c1
    rw [show (2 * m' + 1) * (B * D) = (2 * m' + 1) * D * B by ac_rfl, show 2 * (C * B) = 2 * C * B by ac_rfl]; exact this
  -- so all are equal
  have e1 : 2 * m * (B * D) = 2 * (A * D) + B * D := by omega
  have e2 : 2 * (C * B) = (2 * m' + 1) * (B * D) := by omega
  have e3 : (2 * m' + 1) * (B * D) + B * D = 2 * m * (B * D) := by omega
  have hBD : 0 < B * D := Nat.mul_pos hB hD
  have em : m = m' + 1 := by
    have : ((2 * m' + 1) + 1) * (B * D) = 2 * m * (B * D) := by rw [Nat.add_mul, Nat.one_mul]; exact e3
    have := Nat.eq_of_mul_eq_mul_right hBD this
    omega
  have t1 : 2 * m * B = 2 * A + B := by
    apply Nat.eq_of_mul_eq_mul_right hD
    rw [Nat.add_mul, show 2 * m * B * D = 2 * m * (B * D) by ac_rfl, e1, show 2 * (A * D) = 2 * A * D by ac_rfl]
  have t2 : 2 * C = (2 * m' + 1) * D := by
    apply Nat.eq_of_mul_eq_mul_right hB
    rw [show 2 * C * B = 2 * (C * B) by ac_rfl, e2]; ac_rfl
  have p1 := a3 (Or.inr t1)
  have p2 := c3 (Or.inl t2)
  omega
/-- what a rounded magnitude is worth, in units of 2^e0 -/
theorem round_worth {f : Fmt} (hf : Good f) {s t : Bool} {A B c : Nat} {e q e0 : Int} (hA : 0 < A) (hB : 0 < B) (h : roundRatio f s A B e = .fin t c q) (h0 : e0 ≤ f.qmin) (h0e : e0 ≤ e) :
    t = s ∧ inUnits c q e0 = nearest (inUnits A e e0) (B * 2 ^ (quantum f A B e - e0).toNat) * 2 ^ (quantum f A B e - e0).toNat := by
  have g1 := quantum_ge f A B e
  have g2 := nearest_units_le (f := f) hA hB e
  unfold roundRatio at h
  rw [if_neg (by omega)] at h
  unfold roundAt at h
  generalize quantum f A B e = r at h g1 g2 ⊢
  have ha : inUnits A e e0 = unitsNum A e r * 2 ^ (min e r - e0).toNat := by
    unfold inUnits unitsNum
    rw [show (e - e0).toNat = (e - r).toNat + (min e r - e0).toNat by omega, Nat.pow_add, Nat.mul_assoc]
  have hD : B * 2 ^ (r - e0).toNat = unitsDen B e r * 2 ^ (min e r - e0).toNat := by
    unfold unitsDen
    rw [show (r - e0).toNat = (r - e).toNat + (min e r - e0).toNat by omega, Nat.pow_add, Nat.mul_assoc]
  have hv := settle_value hf (e0 := e0) g2 h (by omega)
  refine ⟨hv.1, ?_⟩
  rw [hv.2, ha, hD, nearest_scale _ _ _ (Nat.two_pow_pos _)]
  rfl
theorem below_le {A B A' B' : Nat} {a : Int} (hB' : 0 < B') (h : A * B' ≤ A' * B) (hb : Below A' B' a) (hB : 0 < B) : Below A B a := by
  unfold Below at *
  have := Nat.mul_le_mul_right (2 ^ (-a).toNat) h
  apply Nat.lt_of_mul_lt_mul_right (a := B')
  calc A * 2 ^ (-a).toNat * B' = A * B' * 2 ^ (-a).toNat := by ac_rfl
    _ ≤ A' * B * 2 ^ (-a).toNat := this
    _ = A' * 2 ^ (-a).toNat * B := by ac_rfl
    _ < B' * 2 ^ a.toNat * B := Nat.mul_lt_mul_of_pos_right hb hB
    _ = B * 2 ^ a.toNat * B' := by ac_rfl
theorem below_shift {A B : Nat} {e e0 y : Int} (h : e0 ≤ e) : Below (inUnits A e e0) B (y - e0) ↔ Below A B (y - e) := by
  have key : ∀ (u v k : Nat), Below (A * 2 ^ k) B (((u + k : Nat) : Int) - v) ↔ Below A B ((u : Int) - v) := by
    intro u v k
    rw [below_iff, below_iff, Nat.pow_add, ← Nat.mul_assoc, show A * 2 ^ k * 2 ^ v = A * 2 ^ v * 2 ^ k by ac_rfl]
    exact Nat.mul_lt_mul_right (Nat.two_pow_pos _)
  have := key (y - e).toNat (-(y - e)).toNat (e - e0).toNat
  rw [show (((y - e).toNat + (e - e0).toNat : Nat) : Int) - ((-(y - e)).toNat : Nat) = y - e0 by omega, show (((y - e).toNat : Nat) : Int) - ((-(y - e)).toNat : Nat) = y - e by omega] at this
  exact this
theorem units0 {U B : Nat} {r e0 : Int} (h : e0 ≤ r) (k : Nat) : U < 2 ^ k * (B * 2 ^ (r - e0).toNat) ↔ Below U B (r + k - e0) := by
  have := units_below U B e0 r k
  unfold unitsNum unitsDen at this
  rw [show (e0 - r).toNat = 0 by omega, Nat.pow_zero, Nat.mul_one] at this
  rw [this, show r - e0 + k = r + k - e0 by omega]
theorem round_mono {f : Fmt} (hf : Good f) {t t' : Bool} {A B A' B' c c' : Nat} {e e' q q' e0 : Int} (hA : 0 < A) (hB : 0 < B) (hA' : 0 < A') (hB' : 0 < B') (h : roundRatio f false A B e = .fin t c q) (h' : roundRatio f false A' B' e' = .fin t' c' q')
    (h0 : e0 ≤ f.qmin) (h0e : e0 ≤ e) (h0e' : e0 ≤ e') (hle : inUnits A e e0 * B' ≤ inUnits A' e' e0 * B) : inUnits c q e0 ≤ inUnits c' q' e0 := by
  have g1 := quantum_ge f A B e
  have g1' := quantum_ge f A' B' e'
  have b1 := quantum_below (f := f) hA hB e
  have b1' := quantum_below (f := f) hA' hB' e'
  have n1 := quantum_not_below (f := f) hA hB e
  have n1' := quantum_not_below (f := f) hA' hB' e'
  rw [(round_worth hf hA hB h h0 h0e).2, (round_worth hf hA' hB' h' h0 h0e').2]
  generalize quantum f A B e = r at *
  generalize quantum f A' B' e' = r' at *
  have hp := two_tails hf
  have hp1 := hf.2
  rw [show r - e + (f.p : Int) = (r + f.p) - e by omega, ← below_shift h0e] at b1
  rw [show r' - e' + (f.p : Int) = (r' + f.p) - e' by omega, ← below_shift h0e'] at b1'
  have hrr : r ≤ r' := by
    refine Int.le_of_not_gt fun hlt => ?_
    rcases n1 with n1 | n1
    · omega
    · rw [show r - e + ((f.p : Int) - 1) = (r + (f.p - 1)) - e by omega, ← below_shift h0e] at n1
      exact n1 (below_le hB' hle (below_mono (by omega) b1') hB)
  rcases Int.lt_or_eq_of_le hrr with hlt | rfl
  · refine Nat.le_trans (Nat.mul_le_mul_right _ (nearest_le (M := 2 ^ f.p) (Nat.mul_pos hB (Nat.two_pow_pos _)) (Nat.le_of_lt ((units0 (by omega) _).mpr b1)))) ?_
    have n2 : f.tails ≤ nearest (inUnits A' e' e0) (B' * 2 ^ (r' - e0).toNat) := by
      refine nearest_ge (Nat.mul_pos hB' (Nat.two_pow_pos _)) (Nat.le_of_not_lt fun q => ?_)
      rcases n1' with n1' | n1'
      · omega
      · apply n1'
        rw [show r' - e' + ((f.p : Int) - 1) = (r' + ((f.p - 1 : Nat) : Int)) - e' by omega, ← below_shift h0e', ← units0 (by omega)]
        exact q
    refine Nat.le_trans ?_ (Nat.mul_le_mul_right _ n2)
    rw [hp, show (r' - e0).toNat = (r - e0).toNat + 1 + (r' - r - 1).toNat by omega, Nat.pow_add, Nat.pow_succ]
    calc 2 * f.tails * 2 ^ (r - e0).toNat = f.tails * (2 ^ (r - e0).toNat * 2) * 1 := by rw [Nat.mul_one]; ac_rfl
      _ ≤ f.tails * (2 ^ (r - e0).toNat * 2) * 2 ^ (r' - r - 1).toNat := Nat.mul_le_mul_left _ (Nat.two_pow_pos _)
      _ = f.tails * (2 ^ (r - e0).toNat * 2 * 2 ^ (r' - r - 1).toNat) := by rw [Nat.mul_assoc]
  · refine Nat.mul_le_mul_right _ (nearest_mono (Nat.mul_pos hB (Nat.two_pow_pos _)) (Nat.mul_pos hB' (Nat.two_pow_pos _)) ?_)
    calc inUnits A e e0 * (B' * 2 ^ (r - e0).toNat) = inUnits A e e0 * B' * 2 ^ (r - e0).toNat := by ac_rfl
      _ ≤ inUnits A' e' e0 * B * 2 ^ (r - e0).toNat := Nat.mul_le_mul_right _ hle
      _ = inUnits A' e' e0 * (B * 2 ^ (r - e0).toNat) := by ac_rfl
theorem qmin64 : b64.qmin = -1074 := by decide
theorem qmax64 : b64.qmax = 971 := by decide
theorem i2d_val {n : Nat} (h0 : 0 < n) (h : n < 2 ^ 31) {x : Int32} (hx : x.toInt = n) : val64 (Jvm.FP.i2d x) = .fin false (n * 2 ^ (52 - n.log2)) ((n.log2 : Int) - 52) := by
  have h1 : 2 ^ n.log2 ≤ n := Nat.log2_self_le (by omega)
  have h2 : n < 2 ^ (n.log2 + 1) := Nat.lt_log2_self
  have hL : n.log2 < 31 := (Nat.log2_lt (by omega)).mpr h
  rw [val64_i2d, hx]
  show roundRatio b64 (decide ((n : Int) < 0)) (n : Int).natAbs 1 0 = _
  rw [show decide ((n : Int) < 0) = false from decide_eq_false (by omega), show (n : Int).natAbs = n from Int.natAbs_natCast n]
  have e53 : n.log2 + (52 - n.log2) = 52 := by omega
  refine roundRatio_exact good_b64 (by decide) ⟨?_, ?_, ?_, Or.inr ?_⟩ ?_
  · show n * 2 ^ (52 - n.log2) < 2 ^ 53
    calc n * 2 ^ (52 - n.log2) < 2 ^ (n.log2 + 1) * 2 ^ (52 - n.log2) := Nat.mul_lt_mul_of_pos_right h2 (Nat.two_pow_pos _)
      _ = 2 ^ 53 := by rw [← Nat.pow_add]; congr 1; omega
  · rw [qmin64]; omega
  · rw [qmax64]; omega
  · show 2 ^ 52 ≤ n * 2 ^ (52 - n.log2)
    calc 2 ^ 52 = 2 ^ n.log2 * 2 ^ (52 - n.log2) := by rw [← Nat.pow_add, e53]
      _ ≤ _ := Nat.mul_le_mul_right _ h1
  · rw [show ((0 : Int) - ((n.log2 : Int) - 52)).toNat = 52 - n.log2 by omega, show ((n.log2 : Int) - 52 - 0).toNat = 0 by omega]; simp
theorem div_val {n B : Nat} (h0 : 0 < n) (h : n < 2 ^ 31) (b0 : 0 < B) (hb : B < 2 ^ 31) {x y : Int32} (hx : x.toInt = n) (hy : y.toInt = B) : val64 (Jvm.FP.ddiv (Jvm.FP.i2d x) (Jvm.FP.i2d y)) = roundRatio b64 false n B 0 := by
  rw [val64_ddiv, i2d_val h0 h hx, i2d_val b0 hb hy]
  have hn : n.log2 < 31 := (Nat.log2_lt (by omega)).mpr h
  have hm : B.log2 < 31 := (Nat.log2_lt (by omega)).mpr hb
  have hd : B * 2 ^ (52 - B.log2) ≠ 0 := Nat.ne_of_gt (Nat.mul_pos b0 (Nat.two_pow_pos _))
  unfold quotient
  simp only [hd, if_false, bne_self_eq_false]
  refine roundRatio_congr (Nat.mul_pos b0 (Nat.two_pow_pos _)) b0 ?_
  generalize n.log2 = u at *
  generalize B.log2 = v at *
  rw [show n * 2 ^ (52 - u) * B * 2 ^ ((u : Int) - 52 - ((v : Int) - 52) - 0).toNat = n * B * (2 ^ (52 - u) * 2 ^ ((u : Int) - 52 - ((v : Int) - 52) - 0).toNat) by ac_rfl,
    show n * (B * 2 ^ (52 - v)) * 2 ^ (0 - ((u : Int) - 52 - ((v : Int) - 52))).toNat = n * B * (2 ^ (52 - v) * 2 ^ (0 - ((u : Int) - 52 - ((v : Int) - 52))).toNat) by ac_rfl, ← Nat.pow_add, ← Nat.pow_add]
  congr 2; omega
theorem lead_le {n B : Nat} (h0 : 0 < n) (h : n ≤ B) : leading n B ≤ 0 := by
  refine Int.le_of_not_gt fun q => ?_
  refine (leading_spec (A := n) (B := B) h0 (by omega)).1 (below_mono (a := 1) (by omega) ?_)
  unfold Below
  rw [show (-(1 : Int)).toNat = 0 from rfl, show (1 : Int).toNat = 1 from rfl]; omega
theorem quant_le {n B : Nat} (h0 : 0 < n) (h : n ≤ B) : -1074 ≤ quantum b64 n B 0 ∧ quantum b64 n B 0 ≤ -52 := by
  have := lead_le h0 h
  unfold quantum; rw [qmin64, show (b64.p : Int) = 53 from rfl]; omega
theorem div_fin {n B : Nat} (h0 : 0 < n) (h : n ≤ B) : ∃ c q, roundRatio b64 false n B 0 = .fin false c q ∧ -1074 ≤ q := by
  have := quant_le h0 h
  unfold roundRatio
  rw [if_neg (by omega)]
  unfold roundAt settle bound
  rw [qmax64]
  split
  · rw [if_pos (by omega)]; exact ⟨_, _, rfl, by omega⟩
  · rw [if_pos (by omega)]; exact ⟨_, _, rfl, by omega⟩
def Worth (a : UInt64) (w : Nat) : Prop := ∃ c q, val64 a = .fin false c q ∧ -1074 ≤ q ∧ inUnits c q (-1074) = w
theorem cmp_nat (x y : Nat) : compare (x : Int) (y : Int) = compare x y := by
  rcases Nat.lt_trichotomy x y with h | h | h
  · rw [Nat.compare_eq_lt.mpr h]; show compareOfLessAndEq (x : Int) y = _; unfold compareOfLessAndEq; rw [if_pos (by omega)]
  · subst h; simp
  · rw [Nat.compare_eq_gt.mpr h]; show compareOfLessAndEq (x : Int) y = _; unfold compareOfLessAndEq; rw [if_neg (by omega), if_neg (by omega)]
theorem cmp_scale (x y k : Nat) (hk : 0 < k) : compare (x * k) (y * k) = compare x y := by
  rcases Nat.lt_trichotomy x y with h | h | h
  · rw [Nat.compare_eq_lt.mpr h]; exact Nat.compare_eq_lt.mpr (Nat.mul_lt_mul_of_pos_right h hk)
  · subst h; simp
  · rw [Nat.compare_eq_gt.mpr h]; exact Nat.compare_eq_gt.mpr (Nat.mul_lt_mul_of_pos_right h hk)
theorem dcmp_worth {a b : UInt64} {w v : Nat} (ha : Worth a w) (hb : Worth b v) : Jvm.FP.dcmp a b = some (compare w v) := by
  obtain ⟨c, q, e1, h1, rfl⟩ := ha
  obtain ⟨d, r, e2, h2, rfl⟩ := hb
  show order (val64 a) (val64 b) = _
  rw [e1, e2]
  show some (compare (signed false (inUnits c q (min q r))) (signed false (inUnits d r (min q r)))) = _
  congr 1
  show compare ((inUnits c q (min q r) : Nat) : Int) ((inUnits d r (min q r) : Nat) : Int) = _
  rw [cmp_nat, inUnits_move c (r := min q r) (e := -1074) (by omega) (by omega), inUnits_move d (r := min q r) (e := -1074) (by omega) (by omega), cmp_scale _ _ _ (Nat.two_pow_pos _)]
theorem score_worth {n B : Nat} (h0 : 0 < n) (h : n ≤ B) (hb : B < 2 ^ 31) {x y : Int32} (hx : x.toInt = n) (hy : y.toInt = B) :
    ∃ w, Worth (Jvm.FP.ddiv (Jvm.FP.i2d x) (Jvm.FP.i2d y)) w ∧ ∃ c q, roundRatio b64 false n B 0 = .fin false c q ∧ inUnits c q (-1074) = w := by
  obtain ⟨c, q, e, hq⟩ := div_fin h0 h
  exact ⟨_, ⟨c, q, (div_val h0 (by omega) (by omega) hb hx hy).trans e, hq, rfl⟩, c, q, e, rfl⟩
theorem score_mono {n B n' B' c c' : Nat} {q q' : Int} (h0 : 0 < n) (h : n ≤ B) (h0' : 0 < n') (h' : n' ≤ B') (e : roundRatio b64 false n B 0 = .fin false c q) (e' : roundRatio b64 false n' B' 0 = .fin false c' q') (hle : n * B' ≤ n' * B) : inUnits c q (-1074) ≤ inUnits c' q' (-1074) := by
  refine round_mono good_b64 h0 (by omega) h0' (by omega) e e' (by rw [qmin64]; omega) (by omega) (by omega) ?_
  unfold inUnits
  generalize ((0 : Int) - -1074).toNat = K
  calc n * 2 ^ K * B' = n * B' * 2 ^ K := by ac_rfl
    _ ≤ n' * B * 2 ^ K := Nat.mul_le_mul_right _ hle
    _ = _ := by ac_rfl
theorem score_strict {n B n' c c' : Nat} {q q' : Int} (h0 : 0 < n) (hlt : n < n') (h' : n' ≤ B) (hb : B < 2 ^ 31) (e : roundRatio b64 false n B 0 = .fin false c q) (e' : roundRatio b64 false n' B 0 = .fin false c' q') : inUnits c q (-1074) < inUnits c' q' (-1074) := by
  have r1 := quant_le h0 (show n ≤ B by omega)
  have r2 := quant_le (show 0 < n' by omega) h'
  rw [(round_worth good_b64 h0 (by omega) e (by rw [qmin64]; omega) (by omega)).2, (round_worth good_b64 (show 0 < n' by omega) (by omega) e' (by rw [qmin64]; omega) (by omega)).2]
  generalize quantum b64 n B 0 = r at *
  generalize quantum b64 n' B 0 = s at *
  have k1 : (r - -1074).toNat ≤ 1022 := by omega
  have k2 : (s - -1074).toNat ≤ 1022 := by omega
  generalize (r - -1074).toNat = k at *
  generalize (s - -1074).toNat = l at *
  have hB : 0 < B := by omega
  obtain ⟨-, a2, -⟩ := nearest_spec (inUnits n 0 (-1074)) (B * 2 ^ k) (Nat.mul_pos hB (Nat.two_pow_pos _))
  obtain ⟨b1, -, -⟩ := nearest_spec (inUnits n' 0 (-1074)) (B * 2 ^ l) (Nat.mul_pos hB (Nat.two_pow_pos _))
  generalize nearest (inUnits n 0 (-1074)) (B * 2 ^ k) = m at *
  generalize nearest (inUnits n' 0 (-1074)) (B * 2 ^ l) = m' at *
  obtain ⟨E, hE⟩ : ∃ E : Nat, E = 2 ^ 1022 := ⟨_, rfl⟩
  obtain ⟨F, hF⟩ : ∃ F : Nat, F = 2 ^ 52 := ⟨_, rfl⟩
  have u : ∀ z : Nat, inUnits z 0 (-1074) = z * F * E := fun z => by
    unfold inUnits; rw [show ((0 : Int) - -1074).toNat = 52 + 1022 from rfl, Nat.pow_add, Nat.mul_assoc, hE, hF]
  rw [u] at a2 b1
  have p1 : 2 ^ k ≤ E := by rw [hE]; exact Nat.pow_le_pow_right (by decide) k1
  have p2 : 2 ^ l ≤ E := by rw [hE]; exact Nat.pow_le_pow_right (by decide) k2
  have pE : 0 < E := by rw [hE]; exact Nat.two_pow_pos 1022
  clear hE
  have d1 : B * 2 ^ k ≤ 2147483648 * E := Nat.mul_le_mul (by omega) p1
  have d2 : B * 2 ^ l ≤ 2147483648 * E := Nat.mul_le_mul (by omega) p2
  apply Nat.lt_of_mul_lt_mul_right (a := B)
  rw [show m * 2 ^ k * B = m * (B * 2 ^ k) by ac_rfl, show m' * 2 ^ l * B = m' * (B * 2 ^ l) by ac_rfl]
  rw [Nat.mul_assoc 2 m] at a2
  rw [Nat.add_mul, Nat.one_mul, Nat.mul_assoc 2 m'] at b1
  have x1 : n * F * E + F * E ≤ n' * F * E := by
    rw [← Nat.add_mul, ← Nat.succ_mul]; exact Nat.mul_le_mul_right _ (Nat.mul_le_mul_right _ hlt)
  have x2 : 4294967297 * E ≤ F * E := Nat.mul_le_mul_right _ (by rw [hF]; decide)
  clear hF
  generalize n * F * E = X at *
  generalize n' * F * E = Y at *
  generalize F * E = G at *
  generalize m * (B * 2 ^ k) = M at *
  generalize m' * (B * 2 ^ l) = M' at *
  generalize B * 2 ^ k = D at *
  generalize B * 2 ^ l = D' at *
  omega
theorem one_worth {B c : Nat} {q : Int} (h0 : 0 < B) (e : roundRatio b64 false B B 0 = .fin false c q) : inUnits c q (-1074) = 2 ^ 1074 := by
  have := roundRatio_exact (f := b64) (s := false) (A := B) (B := B) (c := 2 ^ 52) (e := 0) (q := -52) good_b64 h0 ⟨by decide, by decide, by decide, Or.inr (by decide)⟩ (by rw [show ((0 : Int) - -52).toNat = 52 from rfl, show ((-52 : Int) - 0).toNat = 0 from rfl, Nat.pow_zero, Nat.mul_one, Nat.mul_comm])
  rw [this] at e
  cases e
  unfold inUnits
  rw [show ((-52 : Int) - -1074).toNat = 1022 from rfl, ← Nat.pow_add]
theorem w_one : Worth Jvm.FP.dconst1 (2 ^ 1074) := ⟨2 ^ 52, -52, by decide +kernel, by decide, by unfold inUnits; rw [show ((-52 : Int) - -1074).toNat = 1022 from rfl, ← Nat.pow_add]⟩
theorem w_zero : Worth Jvm.FP.dconst0 0 := ⟨0, -1074, by decide +kernel, by decide, by unfold inUnits; simp⟩
theorem score_pos {n B c : Nat} {q : Int} (h0 : 0 < n) (h : n ≤ B) (hb : B < 2 ^ 31) (e : roundRatio b64 false n B 0 = .fin false c q) : 0 < inUnits c q (-1074) := by
  have r1 := quant_le h0 h
  rw [(round_worth good_b64 h0 (by omega) e (by rw [qmin64]; omega) (by omega)).2]
  generalize quantum b64 n B 0 = r at *
  have k1 : (r - -1074).toNat ≤ 1022 := by omega
  generalize (r - -1074).toNat = k at *
  refine Nat.mul_pos (Nat.pos_of_ne_zero fun hz => ?_) (Nat.two_pow_pos _)
  obtain ⟨a1, -, -⟩ := nearest_spec (inUnits n 0 (-1074)) (B * 2 ^ k) (Nat.mul_pos (by omega) (Nat.two_pow_pos _))
  rw [hz] at a1
  obtain ⟨E, hE⟩ : ∃ E : Nat, E = 2 ^ 1022 := ⟨_, rfl⟩
  have u : inUnits n 0 (-1074) = n * 4503599627370496 * E := by
    unfold inUnits; rw [show ((0 : Int) - -1074).toNat = 52 + 1022 from rfl, Nat.pow_add, Nat.mul_assoc, hE]
  rw [u] at a1
  have p1 : 2 ^ k ≤ E := by rw [hE]; exact Nat.pow_le_pow_right (by decide) k1
  have pE : 0 < E := by rw [hE]; exact Nat.two_pow_pos 1022
  clear hE
  have d1 : B * 2 ^ k ≤ 2147483648 * E := Nat.mul_le_mul (by omega) p1
  have x1 : 4503599627370496 * E ≤ n * 4503599627370496 * E := Nat.mul_le_mul_right _ (by omega)
  generalize n * 4503599627370496 * E = X at *
  generalize B * 2 ^ k = D at *
  omega
end Rnd
section Cv
open Jvm.FP.Core
theorem cvz {a b : UInt64} {w v : Nat} {z : Int32} {o : CmpOp} (e : z = cmpValue (Jvm.FP.dcmp a b) o) (ha : Worth a w) (hb : Worth b v) : (z < 0 ↔ w < v) ∧ (z = 0 ↔ w = v) ∧ (0 < z ↔ v < w) := by
  rw [dcmp_worth ha hb] at e
  rcases Nat.lt_trichotomy w v with h | h | h
  · rw [Nat.compare_eq_lt.mpr h] at e
    obtain rfl : z = -1 := e
    exact ⟨⟨fun _ => h, fun _ => by decide⟩, ⟨fun q => absurd q (by decide), fun q => by omega⟩, ⟨fun q => absurd q (by decide), fun q => by omega⟩⟩
  · rw [Nat.compare_eq_eq.mpr h] at e
    obtain rfl : z = 0 := e
    exact ⟨⟨fun q => absurd q (by decide), fun q => by omega⟩, ⟨fun _ => h, fun _ => rfl⟩, ⟨fun q => absurd q (by decide), fun q => by omega⟩⟩
  · rw [Nat.compare_eq_gt.mpr h] at e
    obtain rfl : z = 1 := e
    exact ⟨⟨fun q => absurd q (by decide), fun q => by omega⟩, ⟨fun q => absurd q (by decide), fun q => by omega⟩, ⟨fun _ => h, fun _ => by decide⟩⟩
theorem cv_gt {a b : UInt64} {w v : Nat} {z : Int32} {o : CmpOp} (e : z = cmpValue (Jvm.FP.dcmp a b) o) (ha : Worth a w) (hb : Worth b v) (h : v < w) : z = 1 := by
  rw [dcmp_worth ha hb, Nat.compare_eq_gt.mpr h] at e; exact e
end Cv
section Sc
open Jvm.FP.Core
/-- w is what the score of bucket r of B is worth -/
def Sc (r B : Int) (w : Nat) : Prop := ∃ (n b c : Nat) (q : Int), 0 < n ∧ n ≤ b ∧ b < 2 ^ 31 ∧ B = b ∧ B - r + 1 = n ∧ roundRatio b64 false n b 0 = .fin false c q ∧ inUnits c q (-1074) = w
theorem sc_of {r B : Int32} (h : 1 ≤ r.toInt ∧ r.toInt ≤ B.toInt) {z : UInt64} (hz : z = Jvm.FP.ddiv (Jvm.FP.i2d (B - r + 1)) (Jvm.FP.i2d B)) : ∃ w, Worth z w ∧ Sc r.toInt B.toInt w := by
  have hB := rng32 B
  have o1 := c_isub B r; have o2 := c_iadd (B - r) 1; have r1 := rng32 (B - r); have r2 := rng32 (B - r + 1)
  simp only [show (1 : Int32).toInt = 1 from rfl] at o2
  have e1 : (B - r).toInt = B.toInt - r.toInt := by omega
  have hx : (B - r + 1).toInt = ((B.toInt - r.toInt + 1).toNat : Int) := by omega
  have hy : B.toInt = (B.toInt.toNat : Int) := by omega
  obtain ⟨w, W, c, q, e, e'⟩ := score_worth (n := (B.toInt - r.toInt + 1).toNat) (B := B.toInt.toNat) (by omega) (by omega) (by omega) hx hy
  exact ⟨w, hz ▸ W, _, _, c, q, by omega, by omega, by omega, hy, by omega, e, e'⟩
theorem sc_pos {r B : Int} {w : Nat} (h : Sc r B w) : 0 < w := by
  obtain ⟨n, b, c, q, h1, h2, h3, -, -, e, rfl⟩ := h
  exact score_pos h1 h2 h3 e
theorem sc_le1 {r B : Int} {w : Nat} (h : Sc r B w) : w ≤ 2 ^ 1074 := by
  obtain ⟨n, b, c, q, h1, h2, h3, -, -, e, rfl⟩ := h
  obtain ⟨c', q', e', -⟩ := div_fin (n := b) (B := b) (by omega) (Nat.le_refl _)
  have := score_mono h1 h2 (show 0 < b by omega) (Nat.le_refl _) e e' (Nat.mul_le_mul_right _ h2)
  rwa [one_worth (by omega) e'] at this
theorem sc_one {r B : Int} {w : Nat} (h : Sc r B w) : w = 2 ^ 1074 ↔ r = 1 := by
  obtain ⟨n, b, c, q, h1, h2, h3, h4, h5, e, rfl⟩ := h
  constructor
  · intro q0
    apply Decidable.byContradiction
    intro hr
    obtain ⟨c', q', e', -⟩ := div_fin (n := b) (B := b) (by omega) (Nat.le_refl _)
    have := score_strict h1 (show n < b by omega) (Nat.le_refl _) h3 e e'
    rw [one_worth (by omega) e', q0] at this
    exact Nat.lt_irrefl _ this
  · intro hr
    obtain rfl : n = b := by omega
    exact one_worth h1 e
theorem sc_mono {r B r' B' : Int} {w w' : Nat} (h : Sc r B w) (h' : Sc r' B' w') (hle : (B - r + 1) * B' ≤ (B' - r' + 1) * B) : w ≤ w' := by
  obtain ⟨n, b, c, q, h1, h2, h3, h4, h5, e, rfl⟩ := h
  obtain ⟨n', b', c', q', h1', h2', h3', h4', h5', e', rfl⟩ := h'
  refine score_mono h1 h2 h1' h2' e e' ?_
  rw [h5, h5', h4, h4'] at hle
  exact_mod_cast hle
theorem sc_ne {r B r' B' : Int} {w w' : Nat} (h : Sc r B w) (h' : Sc r' B' w') (hB : B = B') (hr : r ≠ r') : w ≠ w' := by
  obtain ⟨n, b, c, q, h1, h2, h3, h4, h5, e, rfl⟩ := h
  obtain ⟨n', b', c', q', h1', h2', h3', h4', h5', e', rfl⟩ := h'
  obtain rfl : b = b' := by omega
  rcases Nat.lt_trichotomy n n' with q0 | q0 | q0
  · have := score_strict h1 q0 h2' h3 e e'; omega
  · omega
  · have := score_strict h1' q0 h2 h3 e' e; omega
def mx' (x y : Int32) : Int32 := if x < y then y else x
theorem mx_pos {z u : Int32} (h : z = mx' 1 u) : 1 ≤ z.toInt := by
  subst h; unfold mx'; split
  · rename_i q; rw [Int32.lt_iff_toInt_lt] at q; simp only [show (1 : Int32).toInt = 1 from rfl] at q; omega
  · decide
theorem bb_nz {z u : Int32} (h : z = mx' 1 u) : z ≠ 0 := fun q => by have := mx_pos h; rw [q] at this; exact absurd this (by decide)
theorem rr_in {u z40 z41 r z50 z53 z54 : Int32} (h41 : z41 = mx' 1 z40) (e50 : z50 = r &&& 2147483647) (e53 : z53 = z50 % z41) (e54 : z54 = 1 + z53) : 1 ≤ z54.toInt ∧ z54.toInt ≤ z41.toInt := by
  have hp := mx_pos h41
  have o1 := c_mask r 2147483647 31 (by decide) (by decide)
  have o2 := (c_iremV z50 z41).1; have o3 := c_iadd 1 z53; have r3 := rng32 z54; have r4 := rng32 z41
  rw [← e50] at o1; rw [← e53] at o2; rw [← e54] at o3
  simp only [show (1 : Int32).toInt = 1 from rfl] at o3
  have := o2 (by omega) (by omega)
  omega
theorem notlt1 {z : Int32} (h : 1 ≤ z.toInt) : ¬ z < 1 := by rw [Int32.lt_iff_toInt_lt, show (1 : Int32).toInt = 1 from rfl]; omega
theorem notgt {z w : Int32} (h : z.toInt ≤ w.toInt) : ¬ w < z := by rw [Int32.lt_iff_toInt_lt]; omega
theorem idx3 {u z30 z32 : Int32} (e30 : z30 = u &&& 2147483647) (e32 : z32 = z30 % 3) : ¬ z32 < 0 ∧ z32.toNatClampNeg < 3 := by
  have o1 := c_mask u 2147483647 31 (by decide) (by decide)
  have o2 := (c_irem z30 3 3 (by decide)).1
  rw [← e30] at o1; rw [← e32] at o2
  have := o2 (by omega)
  rw [Int32.lt_iff_toInt_lt, show (0 : Int32).toInt = 0 from rfl]
  simp only [Int32.toNatClampNeg]
  omega
theorem pick3 {E0 E1 E2 : Addr} {i : Nat} (h : i < 3) : ∃ E : Addr, ([(.ref E0), (.ref E1), (.ref E2)] : List Value)[i]? = some (.ref E) := by
  match i, h with
  | 0, _ => exact ⟨E0, rfl⟩
  | 1, _ => exact ⟨E1, rfl⟩
  | 2, _ => exact ⟨E2, rfl⟩
theorem mulL {x y : Int32} : (x.toInt64 * y.toInt64).toInt = x.toInt * y.toInt := by
  have o := c_lmul x.toInt64 y.toInt64; have r := rng64 (x.toInt64 * y.toInt64)
  rw [c_i2l, c_i2l] at o
  have hx := rng32 x; have hy := rng32 y
  have b : -4611686018427387904 ≤ x.toInt * y.toInt ∧ x.toInt * y.toInt ≤ 4611686018427387904 := by
    have h := Int.natAbs_mul x.toInt y.toInt
    have h2 : x.toInt.natAbs * y.toInt.natAbs ≤ 2147483648 * 2147483648 := Nat.mul_le_mul (by omega) (by omega)
    omega
  generalize x.toInt * y.toInt = t at *
  omega
theorem cross {B1 r1 B2 r2 z198 z200 z210 z212 : Int32} {z201 z204 z205 z213 z216 z217 z218 : Int64} (h1 : 1 ≤ r1.toInt ∧ r1.toInt ≤ B1.toInt) (h2 : 1 ≤ r2.toInt ∧ r2.toInt ≤ B2.toInt)
    (e198 : z198 = B1 - r1) (e200 : z200 = z198 + 1) (e201 : z201 = z200.toInt64) (e204 : z204 = B2.toInt64) (e205 : z205 = z201 * z204) (e210 : z210 = B2 - r2) (e212 : z212 = z210 + 1) (e213 : z213 = z212.toInt64) (e216 : z216 = B1.toInt64) (e217 : z217 = z213 * z216) (e218 : z218 = z205 - z217) :
    z218.toInt = (B1.toInt - r1.toInt + 1) * B2.toInt - (B2.toInt - r2.toInt + 1) * B1.toInt := by
  have o1 := c_isub B1 r1; have o2 := c_iadd z198 1; have o3 := c_isub B2 r2; have o4 := c_iadd z210 1
  have a1 := rng32 z198; have a2 := rng32 z200; have a3 := rng32 z210; have a4 := rng32 z212; have a5 := rng32 B1; have a6 := rng32 B2
  rw [← e198] at o1; rw [← e200] at o2; rw [← e210] at o3; rw [← e212] at o4
  simp only [show (1 : Int32).toInt = 1 from rfl] at o2 o4
  have n1 : z200.toInt = B1.toInt - r1.toInt + 1 := by omega
  have n2 : z212.toInt = B2.toInt - r2.toInt + 1 := by omega
  have m1 : z205.toInt = z200.toInt * B2.toInt := by rw [e205, e201, e204]; exact mulL
  have m2 : z217.toInt = z212.toInt * B1.toInt := by rw [e217, e213, e216]; exact mulL
  have o5 := c_lsub z205 z217; rw [← e218] at o5
  have a7 := rng64 z218
  rw [← n1, ← n2, ← m1, ← m2]
  have b1 : 0 ≤ z205.toInt ∧ z205.toInt ≤ 4611686018427387904 := by
    rw [m1]; refine ⟨Int.mul_nonneg (by omega) (by omega), ?_⟩
    exact Int.le_trans (Int.mul_le_mul (by omega : z200.toInt ≤ 2147483648) (by omega : B2.toInt ≤ 2147483648) (by omega) (by omega)) (by decide)
  have b2 : 0 ≤ z217.toInt ∧ z217.toInt ≤ 4611686018427387904 := by
    rw [m2]; refine ⟨Int.mul_nonneg (by omega) (by omega), ?_⟩
    exact Int.le_trans (Int.mul_le_mul (by omega : z212.toInt ≤ 2147483648) (by omega : B1.toInt ≤ 2147483648) (by omega) (by omega)) (by decide)
  omega
theorem lt64 {z : Int64} (h : 0 < z) : 0 < z.toInt := by rw [Int64.lt_iff_toInt_lt] at h; exact h
theorem nlt64 {z : Int64} (h : ¬ 0 < z) : z.toInt ≤ 0 := by rw [Int64.lt_iff_toInt_lt] at h; exact Int.not_lt.mp h
theorem neg64 {z : Int64} (h : z < 0) : z.toInt < 0 := by rw [Int64.lt_iff_toInt_lt] at h; exact h
theorem nneg64 {z : Int64} (h : ¬ z < 0) : 0 ≤ z.toInt := by rw [Int64.lt_iff_toInt_lt] at h; exact Int.not_lt.mp h
end Sc
abbrev o_RS (v0 : Value) (v1 : Value) (v2 : Value) (v3 : Value) (v4 : Value) : Obj := .inl ("com/example/soft_filter/softfilter/ranking/RuleScore", [(("com/example/soft_filter/softfilter/ranking/RuleScore", "rule", "Lcom/example/soft_filter/softfilter/ranking/RankingRule;"), v0), (("com/example/soft_filter/softfilter/ranking/RuleScore", "bucket", "I"), v1), (("com/example/soft_filter/softfilter/ranking/RuleScore", "buckets", "I"), v2), (("com/example/soft_filter/softfilter/ranking/RuleScore", "value", "I"), v3), (("com/example/soft_filter/softfilter/ranking/RuleScore", "maxValue", "I"), v4)])
theorem lay_RS {Z : State} {a0 : Array Value} (hw : ∀ d ∈ tables_1, d.before a0 Z = true) : AllLaid Z a0 "com/example/soft_filter/softfilter/ranking/RuleScore" [(("com/example/soft_filter/softfilter/ranking/RuleScore", "rule", "Lcom/example/soft_filter/softfilter/ranking/RankingRule;"), .null), (("com/example/soft_filter/softfilter/ranking/RuleScore", "bucket", "I"), (.int (0 : Int32))), (("com/example/soft_filter/softfilter/ranking/RuleScore", "buckets", "I"), (.int (0 : Int32))), (("com/example/soft_filter/softfilter/ranking/RuleScore", "value", "I"), (.int (0 : Int32))), (("com/example/soft_filter/softfilter/ranking/RuleScore", "maxValue", "I"), (.int (0 : Int32)))] := ⟨⟨(.object "com/example/soft_filter/softfilter/ranking/RankingRule"), Or.inr (hw _ (List.mem_of_getElem? (i := 42) rfl)), by decide +kernel, rfl⟩, ⟨.int, Or.inr (hw _ (List.mem_of_getElem? (i := 44) rfl)), by decide +kernel, rfl⟩, ⟨.int, Or.inr (hw _ (List.mem_of_getElem? (i := 46) rfl)), by decide +kernel, rfl⟩, ⟨.int, Or.inr (hw _ (List.mem_of_getElem? (i := 48) rfl)), by decide +kernel, rfl⟩, ⟨.int, Or.inr (hw _ (List.mem_of_getElem? (i := 50) rfl)), by decide +kernel, rfl⟩, trivial⟩
theorem strs {Z : State} {a0 : Array Value} (hw : ∀ d ∈ tables_1, d.before a0 Z = true) : ∀ a ∈ Bundle.stringAtoms, a.before a0 Z = true := fun d hd => by
  simp only [Bundle.stringAtoms, List.mem_cons, List.not_mem_nil, or_false] at hd
  rcases hd with rfl | rfl | rfl | rfl | rfl | rfl | rfl
  · exact (hw _ (List.mem_of_getElem? (i := 30) rfl))
  · exact (hw _ (List.mem_of_getElem? (i := 31) rfl))
  · exact (hw _ (List.mem_of_getElem? (i := 32) rfl))
  · exact (hw _ (List.mem_of_getElem? (i := 33) rfl))
  · exact (hw _ (List.mem_of_getElem? (i := 34) rfl))
  · exact (hw _ (List.mem_of_getElem? (i := 35) rfl))
  · exact (hw _ (List.mem_of_getElem? (i := 36) rfl))
abbrev rm_1 : Room := { frames := 0, cells := 0, slots := 0, locals := 0 }
theorem d1_0 : decode jdk_29_method_65_code 0 = .ok (.iload_n 0, 1) := by decide +kernel
theorem d1_1 : decode jdk_29_method_65_code 1 = .ok (.iload_n 1, 1) := by decide +kernel
theorem d1_2 : decode jdk_29_method_65_code 2 = .ok (.if_icmp .lt 7, 3) := by decide +kernel
theorem d1_5 : decode jdk_29_method_65_code 5 = .ok (.iload_n 0, 1) := by decide +kernel
theorem d1_6 : decode jdk_29_method_65_code 6 = .ok (.goto 4, 3) := by decide +kernel
theorem d1_9 : decode jdk_29_method_65_code 9 = .ok (.iload_n 1, 1) := by decide +kernel
theorem d1_10 : decode jdk_29_method_65_code 10 = .ok (.ireturn, 1) := by decide +kernel
set_option maxRecDepth 65536 in
set_option maxHeartbeats 4000000 in
theorem c_max (l : Launch) (Z : State) (a0 : Array Value) (hw : ∀ d ∈ tables_1, d.before a0 Z = true) (n0 : Nat) (μ : Mem) (x : Int32) (y : Int32)  :
    Con l Z n0 (⟨"java/lang/Math", "max", "(II)I"⟩ : MethodName) jdk_29_method_65_code 2 (some .int) [] rm_1 rm_1.cells rm_1.slots #[(.int x), (.int y)] μ (RI fun z μ' => μ' = μ ∧ z = mx' x y) := by
  refine Con.intro (L0 := #[.val (.int x), .val (.int y)]) (Jvm.Free.JP.mathPlain rfl (by decide +kernel)) (fun m => by first | (simp [entryFrame, mkF, argsToLocals, Value.category]; done) | rfl) ?_
  intro p e s m below meth c C
  have C : Ctx p s m meth c Z "java/lang/Math" "max" jdk_29_method_65_code 2 (some .int) := C
  refine Own.iloadN C d1_0 (q := 1) rfl rfl ?_
  refine Own.iloadN C d1_1 (q := 2) rfl rfl ?_
  refine Own.icmp_lt C d1_2 (q := 5) rfl (r := 9) (by decide) (fun h2 => ?_) (fun h2 => ?_)
  · refine Own.iloadN C d1_9 (q := 10) rfl rfl ?_
    refine Own.ireturn C d1_10 (by decide) (by decide) ?_
    exact ⟨_, rfl, rfl, by simp [mx', h2]⟩
  · refine Own.iloadN C d1_5 (q := 6) rfl rfl ?_
    refine Own.goto C d1_6 (q := 10) (by decide) ?_
    refine Own.ireturn C d1_10 (by decide) (by decide) ?_
    exact ⟨_, rfl, rfl, by simp [mx', h2]⟩
abbrev rm_3 : Room := { frames := 1, cells := 0, slots := 0, locals := 12 }
theorem d3_0 : decode jdk_30_method_1_code 0 = .ok (.aload_n 0, 1) := by decide +kernel
theorem d3_1 : decode jdk_30_method_1_code 1 = .ok (.invokespecial 1, 3) := by decide +kernel
theorem d3_4 : decode jdk_30_method_1_code 4 = .ok (.return_, 1) := by decide +kernel
set_option maxRecDepth 65536 in
set_option maxHeartbeats 4000000 in
theorem c_rec (l : Launch) (Z : State) (a0 : Array Value) (hw : ∀ d ∈ tables_1, d.before a0 Z = true) (n0 : Nat) (μ : Mem) (a : Addr)  :
    Con l Z n0 (⟨"java/lang/Record", "<init>", "()V"⟩ : MethodName) jdk_30_method_1_code 1 none [] rm_3 rm_3.cells rm_3.slots #[(.ref a)] μ (RV fun μ' => μ' = μ) := by
  refine Con.intro (L0 := #[.val (.ref a)]) (plainFor_of_name (by first | (simp [plainName, overriddenIn]; done) | decide +kernel)) (fun m => by first | (simp [entryFrame, mkF, argsToLocals, Value.category]; done) | rfl) ?_
  intro p e s m below meth c C
  have C : Ctx p s m meth c Z "java/lang/Record" "<init>" jdk_30_method_1_code 1 none := C
  refine Own.aloadN C d3_0 (q := 1) rfl rfl rfl ?_
  refine Own.initObj C d3_1 (q := 4) rfl (hw _ (List.mem_of_getElem? (i := 26) rfl)) (hw _ (List.mem_of_getElem? (i := 27) rfl)) (hw _ (List.mem_of_getElem? (i := 28) rfl)) rfl (by decide) (W := 0) (Nat.le_of_eq rfl) (by decide) ?_
  refine Own.vreturn C d3_4 (by decide) (by decide) ?_
  exact ⟨rfl, rfl⟩
abbrev rm_5 : Room := { frames := 0, cells := 0, slots := 0, locals := 0 }
theorem d5_0 : decode jdk_31_method_11_code 0 = .ok (.aload_n 0, 1) := by decide +kernel
theorem d5_1 : decode jdk_31_method_11_code 1 = .ok (.ifnonnull 12, 3) := by decide +kernel
theorem d5_13 : decode jdk_31_method_11_code 13 = .ok (.aload_n 0, 1) := by decide +kernel
theorem d5_14 : decode jdk_31_method_11_code 14 = .ok (.areturn, 1) := by decide +kernel
set_option maxRecDepth 65536 in
set_option maxHeartbeats 4000000 in
theorem c_rnn (l : Launch) (Z : State) (a0 : Array Value) (hw : ∀ d ∈ tables_1, d.before a0 Z = true) (n0 : Nat) (μ : Mem) (b : Addr) (t : Addr)  :
    Con l Z n0 (⟨"java/util/Objects", "requireNonNull", "(Ljava/lang/Object;Ljava/lang/String;)Ljava/lang/Object;"⟩ : MethodName) jdk_31_method_11_code 2 (some (.object "java/lang/Object")) [] rm_5 rm_5.cells rm_5.slots #[(.ref b), (.ref t)] μ (RR fun z μ' => μ' = μ ∧ z = .ref b) := by
  refine Con.intro (L0 := #[.val (.ref b), .val (.ref t)]) (plainFor_of_name (by first | (simp [plainName, overriddenIn]; done) | decide +kernel)) (fun m => by first | (simp [entryFrame, mkF, argsToLocals, Value.category]; done) | rfl) ?_
  intro p e s m below meth c C
  have C : Ctx p s m meth c Z "java/util/Objects" "requireNonNull" jdk_31_method_11_code 2 (some (.object "java/lang/Object")) := C
  refine Own.aloadN C d5_0 (q := 1) rfl rfl rfl ?_
  refine Own.ifnonnullY C d5_1 (q := 13) (by decide) ?_
  refine Own.aloadN C d5_13 (q := 14) rfl rfl rfl ?_
  refine Own.areturn C rfl rfl d5_14 (by decide) (by decide) ?_
  exact ⟨_, rfl, rfl, rfl, rfl⟩
theorem pd_0 : parseMethodDescriptor "()V" = some ⟨[], none⟩ := by decide +kernel
theorem pd_1 : parseMethodDescriptor "(Ljava/lang/Object;Ljava/lang/String;)Ljava/lang/Object;" = some ⟨[(.object "java/lang/Object"), (.object "java/lang/String")], some (.object "java/lang/Object")⟩ := by decide +kernel
abbrev rm_2 : Room := { frames := 2, cells := 2, slots := 20, locals := 24 }
theorem d2_0 : decode prog_30_method_1_code 0 = .ok (.aload_n 0, 1) := by decide +kernel
theorem d2_1 : decode prog_30_method_1_code 1 = .ok (.invokespecial 1, 3) := by decide +kernel
theorem d2_4 : decode prog_30_method_1_code 4 = .ok (.aload_n 1, 1) := by decide +kernel
theorem d2_5 : decode prog_30_method_1_code 5 = .ok (.ldc 7, 2) := by decide +kernel
theorem d2_7 : decode prog_30_method_1_code 7 = .ok (.invokestatic 9, 3) := by decide +kernel
theorem d2_10 : decode prog_30_method_1_code 10 = .ok (.pop, 1) := by decide +kernel
theorem d2_11 : decode prog_30_method_1_code 11 = .ok (.iload_n 2, 1) := by decide +kernel
theorem d2_12 : decode prog_30_method_1_code 12 = .ok (.iconst 1, 1) := by decide +kernel
theorem d2_13 : decode prog_30_method_1_code 13 = .ok (.if_icmp .lt 8, 3) := by decide +kernel
theorem d2_16 : decode prog_30_method_1_code 16 = .ok (.iload_n 2, 1) := by decide +kernel
theorem d2_17 : decode prog_30_method_1_code 17 = .ok (.iload_n 3, 1) := by decide +kernel
theorem d2_18 : decode prog_30_method_1_code 18 = .ok (.if_icmp .le 18, 3) := by decide +kernel
theorem d2_36 : decode prog_30_method_1_code 36 = .ok (.aload_n 0, 1) := by decide +kernel
theorem d2_37 : decode prog_30_method_1_code 37 = .ok (.aload_n 1, 1) := by decide +kernel
theorem d2_38 : decode prog_30_method_1_code 38 = .ok (.putfield 24, 3) := by decide +kernel
theorem d2_41 : decode prog_30_method_1_code 41 = .ok (.aload_n 0, 1) := by decide +kernel
theorem d2_42 : decode prog_30_method_1_code 42 = .ok (.iload_n 2, 1) := by decide +kernel
theorem d2_43 : decode prog_30_method_1_code 43 = .ok (.putfield 29, 3) := by decide +kernel
theorem d2_46 : decode prog_30_method_1_code 46 = .ok (.aload_n 0, 1) := by decide +kernel
theorem d2_47 : decode prog_30_method_1_code 47 = .ok (.iload_n 3, 1) := by decide +kernel
theorem d2_48 : decode prog_30_method_1_code 48 = .ok (.putfield 33, 3) := by decide +kernel
theorem d2_51 : decode prog_30_method_1_code 51 = .ok (.aload_n 0, 1) := by decide +kernel
theorem d2_52 : decode prog_30_method_1_code 52 = .ok (.iload 4, 2) := by decide +kernel
theorem d2_54 : decode prog_30_method_1_code 54 = .ok (.putfield 36, 3) := by decide +kernel
theorem d2_57 : decode prog_30_method_1_code 57 = .ok (.aload_n 0, 1) := by decide +kernel
theorem d2_58 : decode prog_30_method_1_code 58 = .ok (.iload 5, 2) := by decide +kernel
theorem d2_60 : decode prog_30_method_1_code 60 = .ok (.putfield 39, 3) := by decide +kernel
theorem d2_63 : decode prog_30_method_1_code 63 = .ok (.return_, 1) := by decide +kernel
set_option maxRecDepth 65536 in
set_option maxHeartbeats 4000000 in
theorem c_init (l : Launch) (Z : State) (a0 : Array Value) (hw : ∀ d ∈ tables_1, d.before a0 Z = true) (n0 : Nat) (μ : Mem) (a : Addr) (E : Addr) (r : Int32) (B : Int32) (v : Int32) (w : Int32) (ha : μ a = some (o_RS .null (.int (0 : Int32)) (.int (0 : Int32)) (.int (0 : Int32)) (.int (0 : Int32)))) (ga : n0 ≤ a) (hr1 : ¬ r < 1) (hr2 : ¬ B < r) :
    Con l Z n0 (⟨"com/example/soft_filter/softfilter/ranking/RuleScore", "<init>", "(Lcom/example/soft_filter/softfilter/ranking/RankingRule;IIII)V"⟩ : MethodName) prog_30_method_1_code 6 none [] rm_2 rm_2.cells rm_2.slots #[(.ref a), (.ref E), (.int r), (.int B), (.int v), (.int w)] μ (RV fun μ' => μ' = upd μ a (o_RS (.ref E) (.int r) (.int B) (.int v) (.int w))) := by
  refine Con.intro (L0 := #[.val (.ref a), .val (.ref E), .val (.int r), .val (.int B), .val (.int v), .val (.int w)]) (plainFor_of_name (by first | (simp [plainName, overriddenIn]; done) | decide +kernel)) (fun m => by first | (simp [entryFrame, mkF, argsToLocals, Value.category]; done) | rfl) ?_
  intro p e s m below meth c C
  have C : Ctx p s m meth c Z "com/example/soft_filter/softfilter/ranking/RuleScore" "<init>" prog_30_method_1_code 6 none := C
  refine Own.aloadN C d2_0 (q := 1) rfl rfl rfl ?_
  refine Own.callI C d2_1 (q := 4) rfl rfl (hw _ (List.mem_of_getElem? (i := 21) rfl)) (hw _ (List.mem_of_getElem? (i := 22) rfl)) (hw _ (List.mem_of_getElem? (i := 24) rfl)) (hw _ (List.mem_of_getElem? (i := 25) rfl)) (by decide) (W := 0) (rm := rm_3) (argsL := []) (st := []) (lenOf pd_0 rfl) rfl rfl (Nat.le_of_eq rfl) (by decide) (by decide) (by decide) (by decide) (c_rec l Z a0 hw n0 _ a) (fun s C => nxV fun μ1 h1 => ?_)
  refine Own.mem h1 ?_
  refine Own.aloadN C d2_4 (q := 5) rfl rfl rfl ?_
  refine Own.ldcS C d2_5 (q := 7) rfl (hw _ (List.mem_of_getElem? (i := 29) rfl)) (strs hw) (N := 16) (by decide) (by decide) (by decide) (by decide) (fun s C t5 => ?_)
  refine Own.callS C d2_7 (q := 10) rfl (hw _ (List.mem_of_getElem? (i := 37) rfl)) (hw _ (List.mem_of_getElem? (i := 38) rfl)) (hw _ (List.mem_of_getElem? (i := 39) rfl)) (hw _ (List.mem_of_getElem? (i := 40) rfl)) (by decide) (W := 0) (rm := rm_5) (argsL := [(.ref E), (.ref t5)]) (st := []) (lenOf pd_1 rfl) rfl rfl (Nat.le_of_eq rfl) (by decide) (by decide) (by decide) (by decide) (c_rnn l Z a0 hw n0 _ E t5) (fun s C => nxR fun z7 μ7 z7_r h7 => ?_)
  obtain ⟨h7m, rfl⟩ := h7
  refine Own.mem h7m ?_
  refine Own.pop C d2_10 (q := 11) rfl rfl ?_
  refine Own.iloadN C d2_11 (q := 12) rfl rfl ?_
  refine Own.iconst C d2_12 (q := 13) rfl (z := 1) (by decide) ?_
  refine Own.icmp_lt C d2_13 (q := 16) rfl (r := 21) (by decide) (fun h13 => ?_) (fun h13 => ?_)
  · exact absurd h13 hr1
  · refine Own.iloadN C d2_16 (q := 17) rfl rfl ?_
    refine Own.iloadN C d2_17 (q := 18) rfl rfl ?_
    refine Own.icmp_le C d2_18 (q := 21) rfl (r := 36) (by decide) (fun h18 => ?_) (fun h18 => ?_)
    · refine Own.aloadN C d2_36 (q := 37) rfl rfl rfl ?_
      refine Own.aloadN C d2_37 (q := 38) rfl rfl rfl ?_
      refine Own.putfield C d2_38 (q := 41) rfl (host := "") (Or.inl (hw _ (List.mem_of_getElem? (i := 41) rfl))) Via.refl (Or.inr ⟨(hw _ (List.mem_of_getElem? (i := 42) rfl)), rfl, rfl⟩) (hw _ (List.mem_of_getElem? (i := 16) rfl)) (ty := (.object "com/example/soft_filter/softfilter/ranking/RankingRule")) (by decide) rfl rfl ha (j := 0) rfl (fs' := [(("com/example/soft_filter/softfilter/ranking/RuleScore", "rule", "Lcom/example/soft_filter/softfilter/ranking/RankingRule;"), (.ref E)), (("com/example/soft_filter/softfilter/ranking/RuleScore", "bucket", "I"), (.int (0 : Int32))), (("com/example/soft_filter/softfilter/ranking/RuleScore", "buckets", "I"), (.int (0 : Int32))), (("com/example/soft_filter/softfilter/ranking/RuleScore", "value", "I"), (.int (0 : Int32))), (("com/example/soft_filter/softfilter/ranking/RuleScore", "maxValue", "I"), (.int (0 : Int32)))]) rfl ga (mem rfl ?_)
      refine Own.aloadN C d2_41 (q := 42) rfl rfl rfl ?_
      refine Own.iloadN C d2_42 (q := 43) rfl rfl ?_
      refine Own.putfield C d2_43 (q := 46) rfl (host := "") (Or.inl (hw _ (List.mem_of_getElem? (i := 43) rfl))) Via.refl (Or.inr ⟨(hw _ (List.mem_of_getElem? (i := 44) rfl)), rfl, rfl⟩) (hw _ (List.mem_of_getElem? (i := 16) rfl)) (ty := .int) (by decide) rfl rfl upd_same (j := 1) rfl (fs' := [(("com/example/soft_filter/softfilter/ranking/RuleScore", "rule", "Lcom/example/soft_filter/softfilter/ranking/RankingRule;"), (.ref E)), (("com/example/soft_filter/softfilter/ranking/RuleScore", "bucket", "I"), (.int r)), (("com/example/soft_filter/softfilter/ranking/RuleScore", "buckets", "I"), (.int (0 : Int32))), (("com/example/soft_filter/softfilter/ranking/RuleScore", "value", "I"), (.int (0 : Int32))), (("com/example/soft_filter/softfilter/ranking/RuleScore", "maxValue", "I"), (.int (0 : Int32)))]) rfl ga (mem upd_upd ?_)
      refine Own.aloadN C d2_46 (q := 47) rfl rfl rfl ?_
      refine Own.iloadN C d2_47 (q := 48) rfl rfl ?_
      refine Own.putfield C d2_48 (q := 51) rfl (host := "") (Or.inl (hw _ (List.mem_of_getElem? (i := 45) rfl))) Via.refl (Or.inr ⟨(hw _ (List.mem_of_getElem? (i := 46) rfl)), rfl, rfl⟩) (hw _ (List.mem_of_getElem? (i := 16) rfl)) (ty := .int) (by decide) rfl rfl upd_same (j := 2) rfl (fs' := [(("com/example/soft_filter/softfilter/ranking/RuleScore", "rule", "Lcom/example/soft_filter/softfilter/ranking/RankingRule;"), (.ref E)), (("com/example/soft_filter/softfilter/ranking/RuleScore", "bucket", "I"), (.int r)), (("com/example/soft_filter/softfilter/ranking/RuleScore", "buckets", "I"), (.int B)), (("com/example/soft_filter/softfilter/ranking/RuleScore", "value", "I"), (.int (0 : Int32))), (("com/example/soft_filter/softfilter/ranking/RuleScore", "maxValue", "I"), (.int (0 : Int32)))]) rfl ga (mem upd_upd ?_)
      refine Own.aloadN C d2_51 (q := 52) rfl rfl rfl ?_
      refine Own.iload C d2_52 (q := 54) rfl rfl ?_
      refine Own.putfield C d2_54 (q := 57) rfl (host := "") (Or.inl (hw _ (List.mem_of_getElem? (i := 47) rfl))) Via.refl (Or.inr ⟨(hw _ (List.mem_of_getElem? (i := 48) rfl)), rfl, rfl⟩) (hw _ (List.mem_of_getElem? (i := 16) rfl)) (ty := .int) (by decide) rfl rfl upd_same (j := 3) rfl (fs' := [(("com/example/soft_filter/softfilter/ranking/RuleScore", "rule", "Lcom/example/soft_filter/softfilter/ranking/RankingRule;"), (.ref E)), (("com/example/soft_filter/softfilter/ranking/RuleScore", "bucket", "I"), (.int r)), (("com/example/soft_filter/softfilter/ranking/RuleScore", "buckets", "I"), (.int B)), (("com/example/soft_filter/softfilter/ranking/RuleScore", "value", "I"), (.int v)), (("com/example/soft_filter/softfilter/ranking/RuleScore", "maxValue", "I"), (.int (0 : Int32)))]) rfl ga (mem upd_upd ?_)
      refine Own.aloadN C d2_57 (q := 58) rfl rfl rfl ?_
      refine Own.iload C d2_58 (q := 60) rfl rfl ?_
      refine Own.putfield C d2_60 (q := 63) rfl (host := "") (Or.inl (hw _ (List.mem_of_getElem? (i := 49) rfl))) Via.refl (Or.inr ⟨(hw _ (List.mem_of_getElem? (i := 50) rfl)), rfl, rfl⟩) (hw _ (List.mem_of_getElem? (i := 16) rfl)) (ty := .int) (by decide) rfl rfl upd_same (j := 4) rfl (fs' := [(("com/example/soft_filter/softfilter/ranking/RuleScore", "rule", "Lcom/example/soft_filter/softfilter/ranking/RankingRule;"), (.ref E)), (("com/example/soft_filter/softfilter/ranking/RuleScore", "bucket", "I"), (.int r)), (("com/example/soft_filter/softfilter/ranking/RuleScore", "buckets", "I"), (.int B)), (("com/example/soft_filter/softfilter/ranking/RuleScore", "value", "I"), (.int v)), (("com/example/soft_filter/softfilter/ranking/RuleScore", "maxValue", "I"), (.int w))]) rfl ga (mem upd_upd ?_)
      refine Own.vreturn C d2_63 (by decide) (by decide) ?_
      exact ⟨rfl, rfl⟩
    · exact absurd h18 hr2
abbrev rm_6 : Room := { frames := 0, cells := 0, slots := 0, locals := 0 }
theorem d6_0 : decode prog_30_method_2_code 0 = .ok (.aload_n 0, 1) := by decide +kernel
theorem d6_1 : decode prog_30_method_2_code 1 = .ok (.getfield 33, 3) := by decide +kernel
theorem d6_4 : decode prog_30_method_2_code 4 = .ok (.aload_n 0, 1) := by decide +kernel
theorem d6_5 : decode prog_30_method_2_code 5 = .ok (.getfield 29, 3) := by decide +kernel
theorem d6_8 : decode prog_30_method_2_code 8 = .ok (.isub, 1) := by decide +kernel
theorem d6_9 : decode prog_30_method_2_code 9 = .ok (.iconst 1, 1) := by decide +kernel
theorem d6_10 : decode prog_30_method_2_code 10 = .ok (.iadd, 1) := by decide +kernel
theorem d6_11 : decode prog_30_method_2_code 11 = .ok (.i2d, 1) := by decide +kernel
theorem d6_12 : decode prog_30_method_2_code 12 = .ok (.aload_n 0, 1) := by decide +kernel
theorem d6_13 : decode prog_30_method_2_code 13 = .ok (.getfield 33, 3) := by decide +kernel
theorem d6_16 : decode prog_30_method_2_code 16 = .ok (.i2d, 1) := by decide +kernel
theorem d6_17 : decode prog_30_method_2_code 17 = .ok (.ddiv, 1) := by decide +kernel
theorem d6_18 : decode prog_30_method_2_code 18 = .ok (.dreturn, 1) := by decide +kernel
set_option maxRecDepth 65536 in
set_option maxHeartbeats 4000000 in
theorem c_score (l : Launch) (Z : State) (a0 : Array Value) (hw : ∀ d ∈ tables_1, d.before a0 Z = true) (n0 : Nat) (μ : Mem) (a : Addr) (E : Value) (r B v w : Int32) (ha : μ a = some (o_RS E (.int r) (.int B) (.int v) (.int w))) (hB : B ≠ 0) :
    Con l Z n0 (⟨"com/example/soft_filter/softfilter/ranking/RuleScore", "score", "()D"⟩ : MethodName) prog_30_method_2_code 1 (some .double) [] rm_6 rm_6.cells rm_6.slots #[(.ref a)] μ (RD fun z μ' => μ' = μ ∧ z = FP.ddiv (FP.i2d (B - r + 1)) (FP.i2d B)) := by
  refine Con.intro (L0 := #[.val (.ref a)]) (plainFor_of_name (by first | (simp [plainName, overriddenIn]; done) | decide +kernel)) (fun m => by first | (simp [entryFrame, mkF, argsToLocals, Value.category]; done) | rfl) ?_
  intro p e s m below meth c C
  have C : Ctx p s m meth c Z "com/example/soft_filter/softfilter/ranking/RuleScore" "score" prog_30_method_2_code 1 (some .double) := C
  refine Own.aloadN C d6_0 (q := 1) rfl rfl rfl ?_
  refine Own.getfield C d6_1 (q := 4) rfl (host := "") (Or.inl (hw _ (List.mem_of_getElem? (i := 45) rfl))) Via.refl ha (j := 2) rfl ?_
  refine Own.aloadN C d6_4 (q := 5) rfl rfl rfl ?_
  refine Own.getfield C d6_5 (q := 8) rfl (host := "") (Or.inl (hw _ (List.mem_of_getElem? (i := 43) rfl))) Via.refl ha (j := 1) rfl ?_
  refine Own.isub C d6_8 (q := 9) rfl fun z8 e8 => ?_
  refine Own.iconst C d6_9 (q := 10) rfl (z := 1) (by decide) ?_
  refine Own.iadd C d6_10 (q := 11) rfl fun z10 e10 => ?_
  refine Own.i2d C d6_11 (q := 12) rfl ?_
  refine Own.aloadN C d6_12 (q := 13) rfl rfl rfl ?_
  refine Own.getfield C d6_13 (q := 16) rfl (host := "") (Or.inl (hw _ (List.mem_of_getElem? (i := 45) rfl))) Via.refl ha (j := 2) rfl ?_
  refine Own.i2d C d6_16 (q := 17) rfl ?_
  refine Own.ddiv C d6_17 (q := 18) rfl (Jvm.Free.Fl.ddiv_out (Jvm.Free.Fl.i2d_fin _).noNaN (Jvm.Free.Fl.i2d_fin _) (Jvm.Free.Fl.i2d_nz hB)) ?_
  refine Own.dreturn C d6_18 (by decide) (by decide) ?_
  exact ⟨_, rfl, rfl, by rw [e10, e8]⟩
theorem pd_2 : parseMethodDescriptor "(II)I" = some ⟨[.int, .int], some .int⟩ := by decide +kernel
theorem pd_3 : parseMethodDescriptor "(Lcom/example/soft_filter/softfilter/ranking/RankingRule;IIII)V" = some ⟨[(.object "com/example/soft_filter/softfilter/ranking/RankingRule"), .int, .int, .int, .int], none⟩ := by decide +kernel
theorem pd_4 : parseMethodDescriptor "()D" = some ⟨[], some .double⟩ := by decide +kernel
set_option maxRecDepth 65536 in
set_option maxHeartbeats 4000000 in
theorem c_law (l : Launch) (Z : State) (a0 : Array Value) (hw : ∀ d ∈ tables_1, d.before a0 Z = true) (n0 : Nat) (μ : Mem) (u1 : Int32) (u2 : Int32) (u3 : Int32) (u4 : Int32) (u5 : Int32) (u6 : Int32) (E0 E1 E2 : Addr) (S0 : Sta Z Z.heap "com/example/soft_filter/softfilter/ranking/RankingRule" "FILTERS" "Lcom/example/soft_filter/softfilter/ranking/RankingRule;" (.ref E0)) (X0 : Exa Z Z.heap E0 "com/example/soft_filter/softfilter/ranking/RankingRule") (S1 : Sta Z Z.heap "com/example/soft_filter/softfilter/ranking/RankingRule" "WORDS" "Lcom/example/soft_filter/softfilter/ranking/RankingRule;" (.ref E1)) (X1 : Exa Z Z.heap E1 "com/example/soft_filter/softfilter/ranking/RankingRule") (S2 : Sta Z Z.heap "com/example/soft_filter/softfilter/ranking/RankingRule" "TYPO" "Lcom/example/soft_filter/softfilter/ranking/RankingRule;" (.ref E2)) (X2 : Exa Z Z.heap E2 "com/example/soft_filter/softfilter/ranking/RankingRule") :
    Con l Z n0 x code maxLocals ret tables_1 room_1 room_1.cells room_1.slots #[(.int u1), (.int u2), (.int u3), (.int u4), (.int u5), (.int u6)] μ (fun v _ => v = some (.int 1)) := by
  refine Con.intro (L0 := #[.val (.int u1), .val (.int u2), .val (.int u3), .val (.int u4), .val (.int u5), .val (.int u6), .unset, .unset, .unset, .unset, .unset, .unset, .unset, .unset, .unset, .unset, .unset, .unset, .unset, .unset, .unset, .unset, .unset, .unset, .unset]) (plainFor_of_name (by first | (simp [plainName, overriddenIn]; done) | decide +kernel)) (fun m => by first | (simp [entryFrame, mkF, argsToLocals, Value.category, maxLocals]; done) | rfl) ?_
  intro p e s m below meth c C
  have C : Ctx p s m meth c Z "com/example/soft_filter/softfilter/ranking/RuleScoreScorePinLaw" "law" code maxLocals (some .boolean) := C
  refine Own.iconst C at_0 (q := 1) rfl (z := 3) (by decide) ?_
  refine Own.newRef C at_1 (q := 4) rfl (hw _ (List.mem_of_getElem? (i := 0) rfl)) (hw _ (List.mem_of_getElem? (i := 1) rfl)) (by decide) (cap := 3) (by decide) (by decide) (vs := [.null, .null, .null]) rfl (by decide) (by decide) fun a1 a1_f a1_g => ?_
  refine Own.dup C at_4 (q := 5) rfl rfl ?_
  refine Own.iconst C at_5 (q := 6) rfl (z := 0) (by decide) ?_
  refine Own.getstatic C at_6 (q := 9) rfl (host := "") (Or.inl (hw _ (List.mem_of_getElem? (i := 2) rfl))) Via.refl S0 ?_
  refine Own.aastore C at_9 (q := 10) rfl upd_same (Or.inr ⟨_, rfl, fun _ H => Ins.self (X0.ext H.1.2)⟩) (by decide) (Nat.le_of_ble_eq_true rfl) a1_g (mem (upd_list (vs' := [(.ref E0), .null, .null]) rfl upd_upd) ?_)
  refine Own.dup C at_10 (q := 11) rfl rfl ?_
  refine Own.iconst C at_11 (q := 12) rfl (z := 1) (by decide) ?_
  refine Own.getstatic C at_12 (q := 15) rfl (host := "") (Or.inl (hw _ (List.mem_of_getElem? (i := 6) rfl))) Via.refl S1 ?_
  refine Own.aastore C at_15 (q := 16) rfl upd_same (Or.inr ⟨_, rfl, fun _ H => Ins.self (X1.ext H.1.2)⟩) (by decide) (Nat.le_of_ble_eq_true rfl) a1_g (mem (upd_list (vs' := [(.ref E0), (.ref E1), .null]) rfl upd_upd) ?_)
  refine Own.dup C at_16 (q := 17) rfl rfl ?_
  refine Own.iconst C at_17 (q := 18) rfl (z := 2) (by decide) ?_
  refine Own.getstatic C at_18 (q := 21) rfl (host := "") (Or.inl (hw _ (List.mem_of_getElem? (i := 8) rfl))) Via.refl S2 ?_
  refine Own.aastore C at_21 (q := 22) rfl upd_same (Or.inr ⟨_, rfl, fun _ H => Ins.self (X2.ext H.1.2)⟩) (by decide) (Nat.le_of_ble_eq_true rfl) a1_g (mem (upd_list (vs' := [(.ref E0), (.ref E1), (.ref E2)]) rfl upd_upd) ?_)
  refine Own.astore C at_22 (q := 24) rfl (L' := #[.val (.int u1), .val (.int u2), .val (.int u3), .val (.int u4), .val (.int u5), .val (.int u6), .val (.ref a1), .unset, .unset, .unset, .unset, .unset, .unset, .unset, .unset, .unset, .unset, .unset, .unset, .unset, .unset, .unset, .unset, .unset, .unset]) rfl rfl ?_
  refine Own.aload C at_24 (q := 26) rfl rfl rfl ?_
  refine Own.iload C at_26 (q := 28) rfl rfl ?_
  refine Own.ldcI C at_28 (q := 30) rfl (hw _ (List.mem_of_getElem? (i := 10) rfl)) ?_
  refine Own.iand C at_30 (q := 31) rfl fun z30 e30 => ?_
  refine Own.iconst C at_31 (q := 32) rfl (z := 3) (by decide) ?_
  refine Own.irem C at_32 (q := 33) rfl (by decide) fun z32 e32 => ?_
  have ix := idx3 e30 e32
  obtain ⟨E, hE⟩ := pick3 (E0 := E0) (E1 := E1) (E2 := E2) ix.2
  refine Own.aaload C at_33 (q := 34) rfl upd_same rfl ix.1 (v := (.ref E)) hE ?_
  refine Own.astore C at_34 (q := 36) rfl (L' := #[.val (.int u1), .val (.int u2), .val (.int u3), .val (.int u4), .val (.int u5), .val (.int u6), .val (.ref a1), .val (.ref E), .unset, .unset, .unset, .unset, .unset, .unset, .unset, .unset, .unset, .unset, .unset, .unset, .unset, .unset, .unset, .unset, .unset]) rfl rfl ?_
  refine Own.iconst C at_36 (q := 37) rfl (z := 1) (by decide) ?_
  refine Own.iloadN C at_37 (q := 38) rfl rfl ?_
  refine Own.ldcI C at_38 (q := 40) rfl (hw _ (List.mem_of_getElem? (i := 10) rfl)) ?_
  refine Own.iand C at_40 (q := 41) rfl fun z40 e40 => ?_
  refine Own.callS C at_41 (q := 44) rfl (hw _ (List.mem_of_getElem? (i := 11) rfl)) (hw _ (List.mem_of_getElem? (i := 12) rfl)) (hw _ (List.mem_of_getElem? (i := 13) rfl)) (hw _ (List.mem_of_getElem? (i := 14) rfl)) (by decide) (W := 0) (rm := rm_1) (argsL := [(.int (1 : Int32)), (.int z40)]) (st := []) (lenOf pd_2 rfl) rfl rfl (Nat.le_of_eq rfl) (by decide) (by decide) (by decide) (by decide) (c_max l Z a0 hw n0 _ (1 : Int32) z40) (fun s C => nxI fun z41 μ41 h41 => ?_)
  obtain ⟨h41m, h41⟩ := h41
  refine Own.mem h41m ?_
  refine Own.istore C at_44 (q := 46) rfl (L' := #[.val (.int u1), .val (.int u2), .val (.int u3), .val (.int u4), .val (.int u5), .val (.int u6), .val (.ref a1), .val (.ref E), .val (.int z41), .unset, .unset, .unset, .unset, .unset, .unset, .unset, .unset, .unset, .unset, .unset, .unset, .unset, .unset, .unset, .unset]) rfl ?_
  refine Own.iconst C at_46 (q := 47) rfl (z := 1) (by decide) ?_
  refine Own.iloadN C at_47 (q := 48) rfl rfl ?_
  refine Own.ldcI C at_48 (q := 50) rfl (hw _ (List.mem_of_getElem? (i := 10) rfl)) ?_
  refine Own.iand C at_50 (q := 51) rfl fun z50 e50 => ?_
  refine Own.iload C at_51 (q := 53) rfl rfl ?_
  refine Own.irem C at_53 (q := 54) rfl (bb_nz h41) fun z53 e53 => ?_
  refine Own.iadd C at_54 (q := 55) rfl fun z54 e54 => ?_
  refine Own.istore C at_55 (q := 57) rfl (L' := #[.val (.int u1), .val (.int u2), .val (.int u3), .val (.int u4), .val (.int u5), .val (.int u6), .val (.ref a1), .val (.ref E), .val (.int z41), .val (.int z54), .unset, .unset, .unset, .unset, .unset, .unset, .unset, .unset, .unset, .unset, .unset, .unset, .unset, .unset, .unset]) rfl ?_
  refine Own.iconst C at_57 (q := 58) rfl (z := 1) (by decide) ?_
  refine Own.iloadN C at_58 (q := 59) rfl rfl ?_
  refine Own.ldcI C at_59 (q := 61) rfl (hw _ (List.mem_of_getElem? (i := 10) rfl)) ?_
  refine Own.iand C at_61 (q := 62) rfl fun z61 e61 => ?_
  refine Own.callS C at_62 (q := 65) rfl (hw _ (List.mem_of_getElem? (i := 11) rfl)) (hw _ (List.mem_of_getElem? (i := 12) rfl)) (hw _ (List.mem_of_getElem? (i := 13) rfl)) (hw _ (List.mem_of_getElem? (i := 14) rfl)) (by decide) (W := 0) (rm := rm_1) (argsL := [(.int (1 : Int32)), (.int z61)]) (st := []) (lenOf pd_2 rfl) rfl rfl (Nat.le_of_eq rfl) (by decide) (by decide) (by decide) (by decide) (c_max l Z a0 hw n0 _ (1 : Int32) z61) (fun s C => nxI fun z62 μ62 h62 => ?_)
  obtain ⟨h62m, h62⟩ := h62
  refine Own.mem h62m ?_
  refine Own.istore C at_65 (q := 67) rfl (L' := #[.val (.int u1), .val (.int u2), .val (.int u3), .val (.int u4), .val (.int u5), .val (.int u6), .val (.ref a1), .val (.ref E), .val (.int z41), .val (.int z54), .val (.int z62), .unset, .unset, .unset, .unset, .unset, .unset, .unset, .unset, .unset, .unset, .unset, .unset, .unset, .unset]) rfl ?_
  refine Own.iconst C at_67 (q := 68) rfl (z := 1) (by decide) ?_
  refine Own.iloadN C at_68 (q := 69) rfl rfl ?_
  refine Own.ldcI C at_69 (q := 71) rfl (hw _ (List.mem_of_getElem? (i := 10) rfl)) ?_
  refine Own.iand C at_71 (q := 72) rfl fun z71 e71 => ?_
  refine Own.iload C at_72 (q := 74) rfl rfl ?_
  refine Own.irem C at_74 (q := 75) rfl (bb_nz h62) fun z74 e74 => ?_
  refine Own.iadd C at_75 (q := 76) rfl fun z75 e75 => ?_
  refine Own.istore C at_76 (q := 78) rfl (L' := #[.val (.int u1), .val (.int u2), .val (.int u3), .val (.int u4), .val (.int u5), .val (.int u6), .val (.ref a1), .val (.ref E), .val (.int z41), .val (.int z54), .val (.int z62), .val (.int z75), .unset, .unset, .unset, .unset, .unset, .unset, .unset, .unset, .unset, .unset, .unset, .unset, .unset]) rfl ?_
  have B1 := rr_in (u := 0) h41 e50 e53 e54
  have B2 := rr_in (u := 0) h62 e71 e74 e75
  refine Own.new C at_78 (q := 81) rfl (hw _ (List.mem_of_getElem? (i := 15) rfl)) (hw _ (List.mem_of_getElem? (i := 16) rfl)) (hw _ (List.mem_of_getElem? (i := 17) rfl)) (lay_RS hw) (by decide) (by decide) (by decide) fun a78 a78_f a78_g => ?_
  have ne_a1_a78 := a78_f _ _ upd_same
  refine Own.dup C at_81 (q := 82) rfl rfl ?_
  refine Own.aload C at_82 (q := 84) rfl rfl rfl ?_
  refine Own.iload C at_84 (q := 86) rfl rfl ?_
  refine Own.iload C at_86 (q := 88) rfl rfl ?_
  refine Own.iload C at_88 (q := 90) rfl rfl ?_
  refine Own.iload C at_90 (q := 92) rfl rfl ?_
  refine Own.callI C at_92 (q := 95) rfl rfl (hw _ (List.mem_of_getElem? (i := 18) rfl)) (hw _ (List.mem_of_getElem? (i := 19) rfl)) (hw _ (List.mem_of_getElem? (i := 17) rfl)) (hw _ (List.mem_of_getElem? (i := 20) rfl)) (by decide) (W := 1) (rm := rm_2) (argsL := [(.ref E), (.int z54), (.int z41), (.int u6), (.int u5)]) (st := [(.ref a78)]) (lenOf pd_3 rfl) rfl rfl (Nat.le_of_eq rfl) (by decide) (by decide) (by decide) (by decide) (c_init l Z a0 hw n0 _ a78 E z54 z41 u6 u5 upd_same a78_g (notlt1 B1.1) (notgt B1.2)) (fun s C => nxV fun μ92 h92 => ?_)
  subst h92
  refine Own.mem upd_upd ?_
  refine Own.astore C at_95 (q := 97) rfl (L' := #[.val (.int u1), .val (.int u2), .val (.int u3), .val (.int u4), .val (.int u5), .val (.int u6), .val (.ref a1), .val (.ref E), .val (.int z41), .val (.int z54), .val (.int z62), .val (.int z75), .val (.ref a78), .unset, .unset, .unset, .unset, .unset, .unset, .unset, .unset, .unset, .unset, .unset, .unset]) rfl rfl ?_
  refine Own.new C at_97 (q := 100) rfl (hw _ (List.mem_of_getElem? (i := 15) rfl)) (hw _ (List.mem_of_getElem? (i := 16) rfl)) (hw _ (List.mem_of_getElem? (i := 17) rfl)) (lay_RS hw) (by decide) (by decide) (by decide) fun a97 a97_f a97_g => ?_
  have ne_a1_a97 := a97_f _ _ (upd_at ne_a1_a78 upd_same)
  have ne_a78_a97 := a97_f _ _ upd_same
  refine Own.dup C at_100 (q := 101) rfl rfl ?_
  refine Own.aload C at_101 (q := 103) rfl rfl rfl ?_
  refine Own.iload C at_103 (q := 105) rfl rfl ?_
  refine Own.iload C at_105 (q := 107) rfl rfl ?_
  refine Own.iload C at_107 (q := 109) rfl rfl ?_
  refine Own.iload C at_109 (q := 111) rfl rfl ?_
  refine Own.callI C at_111 (q := 114) rfl rfl (hw _ (List.mem_of_getElem? (i := 18) rfl)) (hw _ (List.mem_of_getElem? (i := 19) rfl)) (hw _ (List.mem_of_getElem? (i := 17) rfl)) (hw _ (List.mem_of_getElem? (i := 20) rfl)) (by decide) (W := 1) (rm := rm_2) (argsL := [(.ref E), (.int z75), (.int z62), (.int u5), (.int u6)]) (st := [(.ref a97)]) (lenOf pd_3 rfl) rfl rfl (Nat.le_of_eq rfl) (by decide) (by decide) (by decide) (by decide) (c_init l Z a0 hw n0 _ a97 E z75 z62 u5 u6 upd_same a97_g (notlt1 B2.1) (notgt B2.2)) (fun s C => nxV fun μ111 h111 => ?_)
  subst h111
  refine Own.mem upd_upd ?_
  refine Own.astore C at_114 (q := 116) rfl (L' := #[.val (.int u1), .val (.int u2), .val (.int u3), .val (.int u4), .val (.int u5), .val (.int u6), .val (.ref a1), .val (.ref E), .val (.int z41), .val (.int z54), .val (.int z62), .val (.int z75), .val (.ref a78), .val (.ref a97), .unset, .unset, .unset, .unset, .unset, .unset, .unset, .unset, .unset, .unset, .unset]) rfl rfl ?_
  refine Own.new C at_116 (q := 119) rfl (hw _ (List.mem_of_getElem? (i := 15) rfl)) (hw _ (List.mem_of_getElem? (i := 16) rfl)) (hw _ (List.mem_of_getElem? (i := 17) rfl)) (lay_RS hw) (by decide) (by decide) (by decide) fun a116 a116_f a116_g => ?_
  have ne_a1_a116 := a116_f _ _ (upd_at ne_a1_a97 (upd_at ne_a1_a78 upd_same))
  have ne_a78_a116 := a116_f _ _ (upd_at ne_a78_a97 upd_same)
  have ne_a97_a116 := a116_f _ _ upd_same
  refine Own.dup C at_119 (q := 120) rfl rfl ?_
  refine Own.aload C at_120 (q := 122) rfl rfl rfl ?_
  refine Own.iconst C at_122 (q := 123) rfl (z := 2) (by decide) ?_
  refine Own.iconst C at_123 (q := 124) rfl (z := 3) (by decide) ?_
  refine Own.iload C at_124 (q := 126) rfl rfl ?_
  refine Own.iload C at_126 (q := 128) rfl rfl ?_
  refine Own.callI C at_128 (q := 131) rfl rfl (hw _ (List.mem_of_getElem? (i := 18) rfl)) (hw _ (List.mem_of_getElem? (i := 19) rfl)) (hw _ (List.mem_of_getElem? (i := 17) rfl)) (hw _ (List.mem_of_getElem? (i := 20) rfl)) (by decide) (W := 1) (rm := rm_2) (argsL := [(.ref E), (.int (2 : Int32)), (.int (3 : Int32)), (.int u6), (.int u6)]) (st := [(.ref a116)]) (lenOf pd_3 rfl) rfl rfl (Nat.le_of_eq rfl) (by decide) (by decide) (by decide) (by decide) (c_init l Z a0 hw n0 _ a116 E (2 : Int32) (3 : Int32) u6 u6 upd_same a116_g (by decide) (by decide)) (fun s C => nxV fun μ128 h128 => ?_)
  subst h128
  refine Own.mem upd_upd ?_
  refine Own.astore C at_131 (q := 133) rfl (L' := #[.val (.int u1), .val (.int u2), .val (.int u3), .val (.int u4), .val (.int u5), .val (.int u6), .val (.ref a1), .val (.ref E), .val (.int z41), .val (.int z54), .val (.int z62), .val (.int z75), .val (.ref a78), .val (.ref a97), .val (.ref a116), .unset, .unset, .unset, .unset, .unset, .unset, .unset, .unset, .unset, .unset]) rfl rfl ?_
  refine Own.aload C at_133 (q := 135) rfl rfl rfl ?_
  refine Own.callV C at_135 (q := 138) rfl (hw _ (List.mem_of_getElem? (i := 51) rfl)) (hw _ (List.mem_of_getElem? (i := 52) rfl)) (notFace_of_selects (args := #[]) (mvT C.2.2.2.1 (hw _ (List.mem_of_getElem? (i := 54) rfl)))) (hw _ (List.mem_of_getElem? (i := 54) rfl)) (hw _ (List.mem_of_getElem? (i := 53) rfl)) (hw _ (List.mem_of_getElem? (i := 17) rfl)) (hw _ (List.mem_of_getElem? (i := 55) rfl)) (by decide) (W := 0) (rm := rm_6) (argsL := []) (st := []) (lenOf pd_4 rfl) rfl rfl (Nat.le_of_eq rfl) (by decide) (by decide) (by decide) (by decide) (upd_at ne_a78_a116 (upd_at ne_a78_a97 upd_same)) (c_score l Z a0 hw n0 _ a78 (.ref E) z54 z41 u6 u5 (upd_at ne_a78_a116 (upd_at ne_a78_a97 upd_same)) (bb_nz h41)) (fun s C => nxD fun z135 μ135 h135 => ?_)
  obtain ⟨h135m, h135⟩ := h135
  refine Own.mem h135m ?_
  refine Own.dstore C at_138 (q := 140) rfl (L' := #[.val (.int u1), .val (.int u2), .val (.int u3), .val (.int u4), .val (.int u5), .val (.int u6), .val (.ref a1), .val (.ref E), .val (.int z41), .val (.int z54), .val (.int z62), .val (.int z75), .val (.ref a78), .val (.ref a97), .val (.ref a116), .val (.double z135), .second, .unset, .unset, .unset, .unset, .unset, .unset, .unset, .unset]) rfl ?_
  refine Own.aload C at_140 (q := 142) rfl rfl rfl ?_
  refine Own.callV C at_142 (q := 145) rfl (hw _ (List.mem_of_getElem? (i := 51) rfl)) (hw _ (List.mem_of_getElem? (i := 52) rfl)) (notFace_of_selects (args := #[]) (mvT C.2.2.2.1 (hw _ (List.mem_of_getElem? (i := 54) rfl)))) (hw _ (List.mem_of_getElem? (i := 54) rfl)) (hw _ (List.mem_of_getElem? (i := 53) rfl)) (hw _ (List.mem_of_getElem? (i := 17) rfl)) (hw _ (List.mem_of_getElem? (i := 55) rfl)) (by decide) (W := 0) (rm := rm_6) (argsL := []) (st := []) (lenOf pd_4 rfl) rfl rfl (Nat.le_of_eq rfl) (by decide) (by decide) (by decide) (by decide) (upd_at ne_a97_a116 upd_same) (c_score l Z a0 hw n0 _ a97 (.ref E) z75 z62 u5 u6 (upd_at ne_a97_a116 upd_same) (bb_nz h62)) (fun s C => nxD fun z142 μ142 h142 => ?_)
  obtain ⟨h142m, h142⟩ := h142
  refine Own.mem h142m ?_
  refine Own.dstore C at_145 (q := 147) rfl (L' := #[.val (.int u1), .val (.int u2), .val (.int u3), .val (.int u4), .val (.int u5), .val (.int u6), .val (.ref a1), .val (.ref E), .val (.int z41), .val (.int z54), .val (.int z62), .val (.int z75), .val (.ref a78), .val (.ref a97), .val (.ref a116), .val (.double z135), .second, .val (.double z142), .second, .unset, .unset, .unset, .unset, .unset, .unset]) rfl ?_
  obtain ⟨w1, W1, K1⟩ := sc_of B1 h135
  obtain ⟨w2, W2, K2⟩ := sc_of B2 h142
  have J192 : Go p l e room_1 s m #[(.int u1), (.int u2), (.int u3), (.int u4), (.int u5), (.int u6)] below meth c Z n0 (fun v _ => v = some (.int 1)) room_1.cells room_1.slots (upd (upd (upd (upd μ a1 (.inr ((.object "com/example/soft_filter/softfilter/ranking/RankingRule"), [(.ref E0), (.ref E1), (.ref E2)]))) a78 (o_RS (.ref E) (.int z54) (.int z41) (.int u6) (.int u5))) a97 (o_RS (.ref E) (.int z75) (.int z62) (.int u5) (.int u6))) a116 (o_RS (.ref E) (.int (2 : Int32)) (.int (3 : Int32)) (.int u6) (.int u6))) (0 + 1 + 0 + 0 + 1 + 2 + 1 + 2 + 1 + 2 + 0 + 0) (0 + 3 + 0 + 0 + 5 + 20 + 5 + 20 + 5 + 20 + 0 + 0) (mkF m 192 #[.val (.int u1), .val (.int u2), .val (.int u3), .val (.int u4), .val (.int u5), .val (.int u6), .val (.ref a1), .val (.ref E), .val (.int z41), .val (.int z54), .val (.int z62), .val (.int z75), .val (.ref a78), .val (.ref a97), .val (.ref a116), .val (.double z135), .second, .val (.double z142), .second, .unset, .unset, .unset, .unset, .unset, .unset] [(.int (1 : Int32))]) := by
    refine Own.istore C at_192 (q := 194) rfl (L' := #[.val (.int u1), .val (.int u2), .val (.int u3), .val (.int u4), .val (.int u5), .val (.int u6), .val (.ref a1), .val (.ref E), .val (.int z41), .val (.int z54), .val (.int z62), .val (.int z75), .val (.ref a78), .val (.ref a97), .val (.ref a116), .val (.double z135), .second, .val (.double z142), .second, .val (.int (1 : Int32)), .unset, .unset, .unset, .unset, .unset]) rfl ?_
    refine Own.iload C at_194 (q := 196) rfl rfl ?_
    refine Own.iload C at_196 (q := 198) rfl rfl ?_
    refine Own.isub C at_198 (q := 199) rfl fun z198 e198 => ?_
    refine Own.iconst C at_199 (q := 200) rfl (z := 1) (by decide) ?_
    refine Own.iadd C at_200 (q := 201) rfl fun z200 e200 => ?_
    refine Own.i2l C at_201 (q := 202) rfl fun z201 e201 => ?_
    refine Own.iload C at_202 (q := 204) rfl rfl ?_
    refine Own.i2l C at_204 (q := 205) rfl fun z204 e204 => ?_
    refine Own.lmul C at_205 (q := 206) rfl fun z205 e205 => ?_
    refine Own.iload C at_206 (q := 208) rfl rfl ?_
    refine Own.iload C at_208 (q := 210) rfl rfl ?_
    refine Own.isub C at_210 (q := 211) rfl fun z210 e210 => ?_
    refine Own.iconst C at_211 (q := 212) rfl (z := 1) (by decide) ?_
    refine Own.iadd C at_212 (q := 213) rfl fun z212 e212 => ?_
    refine Own.i2l C at_213 (q := 214) rfl fun z213 e213 => ?_
    refine Own.iload C at_214 (q := 216) rfl rfl ?_
    refine Own.i2l C at_216 (q := 217) rfl fun z216 e216 => ?_
    refine Own.lmul C at_217 (q := 218) rfl fun z217 e217 => ?_
    refine Own.lsub C at_218 (q := 219) rfl fun z218 e218 => ?_
    refine Own.lstore C at_219 (q := 221) rfl (L' := #[.val (.int u1), .val (.int u2), .val (.int u3), .val (.int u4), .val (.int u5), .val (.int u6), .val (.ref a1), .val (.ref E), .val (.int z41), .val (.int z54), .val (.int z62), .val (.int z75), .val (.ref a78), .val (.ref a97), .val (.ref a116), .val (.double z135), .second, .val (.double z142), .second, .val (.int (1 : Int32)), .val (.long z218), .second, .unset, .unset, .unset]) rfl ?_
    have HC := cross B1 B2 e198 e200 e201 e204 e205 e210 e212 e213 e216 e217 e218
    have J286 : Go p l e room_1 s m #[(.int u1), (.int u2), (.int u3), (.int u4), (.int u5), (.int u6)] below meth c Z n0 (fun v _ => v = some (.int 1)) room_1.cells room_1.slots (upd (upd (upd (upd μ a1 (.inr ((.object "com/example/soft_filter/softfilter/ranking/RankingRule"), [(.ref E0), (.ref E1), (.ref E2)]))) a78 (o_RS (.ref E) (.int z54) (.int z41) (.int u6) (.int u5))) a97 (o_RS (.ref E) (.int z75) (.int z62) (.int u5) (.int u6))) a116 (o_RS (.ref E) (.int (2 : Int32)) (.int (3 : Int32)) (.int u6) (.int u6))) (0 + 1 + 0 + 0 + 1 + 2 + 1 + 2 + 1 + 2 + 0 + 0) (0 + 3 + 0 + 0 + 5 + 20 + 5 + 20 + 5 + 20 + 0 + 0) (mkF m 286 #[.val (.int u1), .val (.int u2), .val (.int u3), .val (.int u4), .val (.int u5), .val (.int u6), .val (.ref a1), .val (.ref E), .val (.int z41), .val (.int z54), .val (.int z62), .val (.int z75), .val (.ref a78), .val (.ref a97), .val (.ref a116), .val (.double z135), .second, .val (.double z142), .second, .val (.int (1 : Int32)), .val (.long z218), .second, .val (.int (1 : Int32)), .unset, .unset] []) := by
      have J308 : Go p l e room_1 s m #[(.int u1), (.int u2), (.int u3), (.int u4), (.int u5), (.int u6)] below meth c Z n0 (fun v _ => v = some (.int 1)) room_1.cells room_1.slots (upd (upd (upd (upd μ a1 (.inr ((.object "com/example/soft_filter/softfilter/ranking/RankingRule"), [(.ref E0), (.ref E1), (.ref E2)]))) a78 (o_RS (.ref E) (.int z54) (.int z41) (.int u6) (.int u5))) a97 (o_RS (.ref E) (.int z75) (.int z62) (.int u5) (.int u6))) a116 (o_RS (.ref E) (.int (2 : Int32)) (.int (3 : Int32)) (.int u6) (.int u6))) (0 + 1 + 0 + 0 + 1 + 2 + 1 + 2 + 1 + 2 + 0 + 0) (0 + 3 + 0 + 0 + 5 + 20 + 5 + 20 + 5 + 20 + 0 + 0) (mkF m 308 #[.val (.int u1), .val (.int u2), .val (.int u3), .val (.int u4), .val (.int u5), .val (.int u6), .val (.ref a1), .val (.ref E), .val (.int z41), .val (.int z54), .val (.int z62), .val (.int z75), .val (.ref a78), .val (.ref a97), .val (.ref a116), .val (.double z135), .second, .val (.double z142), .second, .val (.int (1 : Int32)), .val (.long z218), .second, .val (.int (1 : Int32)), .unset, .unset] []) := by
        refine Own.iconst C at_308 (q := 309) rfl (z := 1) (by decide) ?_
        refine Own.goto C at_309 (q := 313) (by decide) ?_
        refine Own.istore C at_313 (q := 315) rfl (L' := #[.val (.int u1), .val (.int u2), .val (.int u3), .val (.int u4), .val (.int u5), .val (.int u6), .val (.ref a1), .val (.ref E), .val (.int z41), .val (.int z54), .val (.int z62), .val (.int z75), .val (.ref a78), .val (.ref a97), .val (.ref a116), .val (.double z135), .second, .val (.double z142), .second, .val (.int (1 : Int32)), .val (.long z218), .second, .val (.int (1 : Int32)), .val (.int (1 : Int32)), .unset]) rfl ?_
        refine Own.aload C at_315 (q := 317) rfl rfl rfl ?_
        refine Own.callV C at_317 (q := 320) rfl (hw _ (List.mem_of_getElem? (i := 51) rfl)) (hw _ (List.mem_of_getElem? (i := 52) rfl)) (notFace_of_selects (args := #[]) (mvT C.2.2.2.1 (hw _ (List.mem_of_getElem? (i := 54) rfl)))) (hw _ (List.mem_of_getElem? (i := 54) rfl)) (hw _ (List.mem_of_getElem? (i := 53) rfl)) (hw _ (List.mem_of_getElem? (i := 17) rfl)) (hw _ (List.mem_of_getElem? (i := 55) rfl)) (by decide) (W := 0) (rm := rm_6) (argsL := []) (st := []) (lenOf pd_4 rfl) rfl rfl (Nat.le_of_eq rfl) (by decide) (by decide) (by decide) (by decide) upd_same (c_score l Z a0 hw n0 _ a116 (.ref E) (2 : Int32) (3 : Int32) u6 u6 upd_same (by decide)) (fun s C => nxD fun z317 μ317 h317 => ?_)
        obtain ⟨h317m, h317⟩ := h317
        refine Own.mem h317m ?_
        refine Own.ldcD C at_320 (q := 323) rfl (hw _ (List.mem_of_getElem? (i := 56) rfl)) ?_
        refine Own.dcmp C at_323 (q := 324) rfl fun z323 e323 => ?_
        obtain rfl : z323 = (0 : Int32) := by rw [e323, h317]; decide +kernel
        refine Own.if_ne C at_324 (q := 327) rfl (r := 331) (by decide) (fun h324 => ?_) (fun h324 => ?_)
        · exact absurd h324 (by decide)
        · refine Own.iconst C at_327 (q := 328) rfl (z := 1) (by decide) ?_
          refine Own.goto C at_328 (q := 332) (by decide) ?_
          refine Own.istore C at_332 (q := 334) rfl (L' := #[.val (.int u1), .val (.int u2), .val (.int u3), .val (.int u4), .val (.int u5), .val (.int u6), .val (.ref a1), .val (.ref E), .val (.int z41), .val (.int z54), .val (.int z62), .val (.int z75), .val (.ref a78), .val (.ref a97), .val (.ref a116), .val (.double z135), .second, .val (.double z142), .second, .val (.int (1 : Int32)), .val (.long z218), .second, .val (.int (1 : Int32)), .val (.int (1 : Int32)), .val (.int (1 : Int32))]) rfl ?_
          refine Own.iload C at_334 (q := 336) rfl rfl ?_
          refine Own.if_eq C at_336 (q := 339) rfl (r := 358) (by decide) (fun h336 => ?_) (fun h336 => ?_)
          · exact absurd h336 (by decide)
          · refine Own.iload C at_339 (q := 341) rfl rfl ?_
            refine Own.if_eq C at_341 (q := 344) rfl (r := 358) (by decide) (fun h341 => ?_) (fun h341 => ?_)
            · exact absurd h341 (by decide)
            · refine Own.iload C at_344 (q := 346) rfl rfl ?_
              refine Own.if_eq C at_346 (q := 349) rfl (r := 358) (by decide) (fun h346 => ?_) (fun h346 => ?_)
              · exact absurd h346 (by decide)
              · refine Own.iload C at_349 (q := 351) rfl rfl ?_
                refine Own.if_eq C at_351 (q := 354) rfl (r := 358) (by decide) (fun h351 => ?_) (fun h351 => ?_)
                · exact absurd h351 (by decide)
                · refine Own.iconst C at_354 (q := 355) rfl (z := 1) (by decide) ?_
                  refine Own.goto C at_355 (q := 359) (by decide) ?_
                  refine Own.nreturn C at_359 (by simp) (z' := (1 : Int32)) (by decide) (by decide) (by decide) ?_
                  rfl
      refine Own.iload C at_286 (q := 288) rfl rfl ?_
      refine Own.iload C at_288 (q := 290) rfl rfl ?_
      refine Own.icmp_ne C at_290 (q := 293) rfl (r := 308) (by decide) (fun h290 => ?_) (fun h290 => ?_)
      · exact J308
      · refine Own.iload C at_293 (q := 295) rfl rfl ?_
        refine Own.iload C at_295 (q := 297) rfl rfl ?_
        refine Own.icmp_eq C at_297 (q := 300) rfl (r := 308) (by decide) (fun h297 => ?_) (fun h297 => ?_)
        · exact J308
        · refine Own.dload C at_300 (q := 302) rfl rfl ?_
          refine Own.dload C at_302 (q := 304) rfl rfl ?_
          refine Own.dcmp C at_304 (q := 305) rfl fun z304 e304 => ?_
          refine Own.if_eq C at_305 (q := 308) rfl (r := 312) (by decide) (fun h305 => ?_) (fun h305 => ?_)
          · exact absurd ((cvz e304 W1 W2).2.1.mp h305) (sc_ne K1 K2 (by rw [h290]) (fun q => h297 (Int32.toInt_inj.mp q)))
          · exact J308
    refine Own.lload C at_221 (q := 223) rfl rfl ?_
    refine Own.lconst C at_223 (q := 224) rfl (z := 0) (by decide) ?_
    refine Own.lcmp_le C at_224 (pc1 := 225) rfl at_225 (q := 228) rfl (r := 246) (by decide) (fun h224 => ?_) (fun h224 => ?_)
    · refine Own.lload C at_246 (q := 248) rfl rfl ?_
      refine Own.lconst C at_248 (q := 249) rfl (z := 0) (by decide) ?_
      refine Own.lcmp_ge C at_249 (pc1 := 250) rfl at_250 (q := 253) rfl (r := 271) (by decide) (fun h249 => ?_) (fun h249 => ?_)
      · refine Own.dload C at_271 (q := 273) rfl rfl ?_
        refine Own.dload C at_273 (q := 275) rfl rfl ?_
        refine Own.dcmp C at_275 (q := 276) rfl fun z275 e275 => ?_
        refine Own.if_ne C at_276 (q := 279) rfl (r := 283) (by decide) (fun h276 => ?_) (fun h276 => ?_)
        · exact absurd ((cvz e275 W1 W2).2.1.mpr (Nat.le_antisymm (sc_mono K1 K2 (by have := nlt64 h224; omega)) (sc_mono K2 K1 (by have := nneg64 h249; omega)))) h276
        · refine Own.iconst C at_279 (q := 280) rfl (z := 1) (by decide) ?_
          refine Own.goto C at_280 (q := 284) (by decide) ?_
          refine Own.istore C at_284 (q := 286) rfl (L' := #[.val (.int u1), .val (.int u2), .val (.int u3), .val (.int u4), .val (.int u5), .val (.int u6), .val (.ref a1), .val (.ref E), .val (.int z41), .val (.int z54), .val (.int z62), .val (.int z75), .val (.ref a78), .val (.ref a97), .val (.ref a116), .val (.double z135), .second, .val (.double z142), .second, .val (.int (1 : Int32)), .val (.long z218), .second, .val (.int (1 : Int32)), .unset, .unset]) rfl ?_
          exact J286
      · refine Own.dload C at_253 (q := 255) rfl rfl ?_
        refine Own.dload C at_255 (q := 257) rfl rfl ?_
        refine Own.dcmp C at_257 (q := 258) rfl fun z257 e257 => ?_
        refine Own.if_gt C at_258 (q := 261) rfl (r := 265) (by decide) (fun h258 => ?_) (fun h258 => ?_)
        · exact absurd ((cvz e257 W1 W2).2.2.mp h258) (Nat.not_lt.mpr (sc_mono K1 K2 (by have := neg64 h249; omega)))
        · refine Own.iconst C at_261 (q := 262) rfl (z := 1) (by decide) ?_
          refine Own.goto C at_262 (q := 266) (by decide) ?_
          refine Own.istore C at_266 (q := 268) rfl (L' := #[.val (.int u1), .val (.int u2), .val (.int u3), .val (.int u4), .val (.int u5), .val (.int u6), .val (.ref a1), .val (.ref E), .val (.int z41), .val (.int z54), .val (.int z62), .val (.int z75), .val (.ref a78), .val (.ref a97), .val (.ref a116), .val (.double z135), .second, .val (.double z142), .second, .val (.int (1 : Int32)), .val (.long z218), .second, .val (.int (1 : Int32)), .unset, .unset]) rfl ?_
          refine Own.goto C at_268 (q := 286) (by decide) ?_
          exact J286
    · refine Own.dload C at_228 (q := 230) rfl rfl ?_
      refine Own.dload C at_230 (q := 232) rfl rfl ?_
      refine Own.dcmp C at_232 (q := 233) rfl fun z232 e232 => ?_
      refine Own.if_lt C at_233 (q := 236) rfl (r := 240) (by decide) (fun h233 => ?_) (fun h233 => ?_)
      · exact absurd ((cvz e232 W1 W2).1.mp h233) (Nat.not_lt.mpr (sc_mono K2 K1 (by have := lt64 h224; omega)))
      · refine Own.iconst C at_236 (q := 237) rfl (z := 1) (by decide) ?_
        refine Own.goto C at_237 (q := 241) (by decide) ?_
        refine Own.istore C at_241 (q := 243) rfl (L' := #[.val (.int u1), .val (.int u2), .val (.int u3), .val (.int u4), .val (.int u5), .val (.int u6), .val (.ref a1), .val (.ref E), .val (.int z41), .val (.int z54), .val (.int z62), .val (.int z75), .val (.ref a78), .val (.ref a97), .val (.ref a116), .val (.double z135), .second, .val (.double z142), .second, .val (.int (1 : Int32)), .val (.long z218), .second, .val (.int (1 : Int32)), .unset, .unset]) rfl ?_
        refine Own.goto C at_243 (q := 286) (by decide) ?_
        exact J286
  refine Own.dload C at_147 (q := 149) rfl rfl ?_
  refine Own.dconst0 C at_149 (q := 150) rfl ?_
  refine Own.dcmp C at_150 (q := 151) rfl fun z150 e150 => ?_
  obtain rfl : z150 = (1 : Int32) := cv_gt e150 W1 w_zero (sc_pos K1)
  refine Own.if_le C at_151 (q := 154) rfl (r := 191) (by decide) (fun h151 => ?_) (fun h151 => ?_)
  · exact absurd h151 (by decide)
  · refine Own.dload C at_154 (q := 156) rfl rfl ?_
    refine Own.dconst1 C at_156 (q := 157) rfl ?_
    refine Own.dcmp C at_157 (q := 158) rfl fun z157 e157 => ?_
    refine Own.if_gt C at_158 (q := 161) rfl (r := 191) (by decide) (fun h158 => ?_) (fun h158 => ?_)
    · exact absurd ((cvz e157 W1 w_one).2.2.mp h158) (Nat.not_lt.mpr (sc_le1 K1))
    · refine Own.dload C at_161 (q := 163) rfl rfl ?_
      refine Own.dconst1 C at_163 (q := 164) rfl ?_
      refine Own.dcmp C at_164 (q := 165) rfl fun z164 e164 => ?_
      refine Own.if_ne C at_165 (q := 168) rfl (r := 172) (by decide) (fun h165 => ?_) (fun h165 => ?_)
      · refine Own.iconst C at_172 (q := 173) rfl (z := 0) (by decide) ?_
        refine Own.iload C at_173 (q := 175) rfl rfl ?_
        refine Own.iconst C at_175 (q := 176) rfl (z := 1) (by decide) ?_
        refine Own.icmp_ne C at_176 (q := 179) rfl (r := 183) (by decide) (fun h176 => ?_) (fun h176 => ?_)
        · refine Own.iconst C at_183 (q := 184) rfl (z := 0) (by decide) ?_
          refine Own.icmp_ne C at_184 (q := 187) rfl (r := 191) (by decide) (fun h184 => ?_) (fun h184 => ?_)
          · exact absurd h184 (by decide)
          · refine Own.iconst C at_187 (q := 188) rfl (z := 1) (by decide) ?_
            refine Own.goto C at_188 (q := 192) (by decide) ?_
            exact J192
        · exact absurd ((cvz e164 W1 w_one).2.1.mpr ((sc_one K1).mpr (congrArg Int32.toInt h176))) h165
      · refine Own.iconst C at_168 (q := 169) rfl (z := 1) (by decide) ?_
        refine Own.goto C at_169 (q := 173) (by decide) ?_
        refine Own.iload C at_173 (q := 175) rfl rfl ?_
        refine Own.iconst C at_175 (q := 176) rfl (z := 1) (by decide) ?_
        refine Own.icmp_ne C at_176 (q := 179) rfl (r := 183) (by decide) (fun h176 => ?_) (fun h176 => ?_)
        · exact absurd (Int32.toInt_inj.mp ((sc_one K1).mp ((cvz e164 W1 w_one).2.1.mp h165))) h176
        · refine Own.iconst C at_179 (q := 180) rfl (z := 1) (by decide) ?_
          refine Own.goto C at_180 (q := 184) (by decide) ?_
          refine Own.icmp_ne C at_184 (q := 187) rfl (r := 191) (by decide) (fun h184 => ?_) (fun h184 => ?_)
          · exact absurd h184 (by decide)
          · refine Own.iconst C at_187 (q := 188) rfl (z := 1) (by decide) ?_
            refine Own.goto C at_188 (q := 192) (by decide) ?_
            exact J192
set_option maxRecDepth 65536 in
set_option maxHeartbeats 4000000 in
theorem comes_1 {Post : Tables → Env → Array Value → State → Outcome → State → Prop} (hpost : ∀ tb e args s v u, (limb_1_1.after args s (.returned v) u = true ∧ limb_1_2.after args s (.returned v) u = true ∧ True) → ReturnedEndW s (.returned v) u (Jvm.fieldLocs frame_1_writes args s ++ Jvm.arrayLocs frame_1_arrays args s ++ Jvm.staticLocs frame_1_statics s) 24 1152 → Post tb e args s (.returned v) u) :
    ArmFor flags0 classFile x code maxLocals ret World_1 tables_1 room_1 Calls_1 rest_1 Pre_1 Post := by
  intro l hfl _ _ p e ha hc hk s m args below hf hA hF happ hP
  obtain ⟨hcalls, hrest, hpre⟩ := hP
  obtain ⟨-, -, -, hnamed, -, -, -, hat⟩ := (Spec.applies_iff hf).mp happ
  obtain ⟨hg, hn⟩ := and_e (Cond.before_iff.mp (show (Jvm.Cond.and given_1 narrow_1).before args s = true from hpre))
  obtain ⟨g0, hg⟩ := and_e hg
  obtain ⟨g1, hg⟩ := and_e hg
  obtain ⟨g2, hg⟩ := and_e hg
  obtain ⟨g3, hg⟩ := and_e hg
  obtain ⟨g4, hg⟩ := and_e hg
  obtain ⟨g5, hg⟩ := and_e hg
  have g6 := hg
  obtain ⟨w0, w1, w2, w3, w4, w5, rfl⟩ : ∃ w0 w1 w2 w3 w4 w5 : Value, args = #[w0, w1, w2, w3, w4, w5] := by
    have hs : args.size = 6 := by simpa [Cond.value, given_1] using g0
    obtain ⟨L⟩ := args
    match L, hs with
    | [w0, w1, w2, w3, w4, w5], _ => exact ⟨w0, w1, w2, w3, w4, w5, rfl⟩
  have hw := fun d (hd : d ∈ tables_1) => atoms_spec (ws := Jvm.Cond.code x code maxLocals ret :: tables_1) hat d (List.mem_cons_of_mem _ hd)
  have hfit : Fit s := fun {y c} hc i hi => by
    obtain ⟨ha, rfl⟩ := Array.getElem?_eq_some_iff.mp hc
    have q := List.all_eq_true.mp ((Array.all_eq_true_iff_forall_mem.mp hF) _ (Array.getElem_mem ha)) i (List.mem_range.mpr hi)
    simpa [Array.getElem?_eq_getElem hi] using q
  obtain ⟨i0, ei0⟩ := is_v g1
  obtain rfl : w0 = (.int i0) := Option.some.inj ei0
  obtain ⟨i1, ei1⟩ := is_v g2
  obtain rfl : w1 = (.int i1) := Option.some.inj ei1
  obtain ⟨i2, ei2⟩ := is_v g3
  obtain rfl : w2 = (.int i2) := Option.some.inj ei2
  obtain ⟨i3, ei3⟩ := is_v g4
  obtain rfl : w3 = (.int i3) := Option.some.inj ei3
  obtain ⟨i4, ei4⟩ := is_v g5
  obtain rfl : w4 = (.int i4) := Option.some.inj ei4
  obtain ⟨i5, ei5⟩ := is_v g6
  obtain rfl : w5 = (.int i5) := Option.some.inj ei5
  obtain ⟨c0, hn⟩ := and_e hn
  obtain ⟨c1, c2⟩ := and_e hn
  obtain ⟨E0, ee0⟩ := exa_v c0
  have X0 := Exa.start ee0 c0
  have S0 := Sta.start ee0 (Or.inr ⟨(hw _ (List.mem_of_getElem? (i := 3) rfl)), (hw _ (List.mem_of_getElem? (i := 4) rfl))⟩)
  obtain ⟨E1, ee1⟩ := exa_v c1
  have X1 := Exa.start ee1 c1
  have S1 := Sta.start ee1 (Or.inr ⟨(hw _ (List.mem_of_getElem? (i := 3) rfl)), (hw _ (List.mem_of_getElem? (i := 7) rfl))⟩)
  obtain ⟨E2, ee2⟩ := exa_v c2
  have X2 := Exa.start ee2 c2
  have S2 := Sta.start ee2 (Or.inr ⟨(hw _ (List.mem_of_getElem? (i := 3) rfl)), (hw _ (List.mem_of_getElem? (i := 9) rfl))⟩)
  obtain ⟨n, o, h1, h2, h3, _, L, rfl, ⟨N, _, -, rfl⟩, hq⟩ := c_law l s _ hw s.heap.size (fun _ => none) i0 i1 i2 i3 i4 i5 E0 E1 E2 S0 X0 S1 X1 S2 X2 s.heap ⟨Old.start s, fun _ _ q => nomatch q⟩ p e ha hc hk s m _ below hf ((Spec.applies_iff_loose hf).mp happ).1 ⟨rfl, State.Warmed39.refl s, rfl⟩ trivial
  refine ⟨n, _, h1, h2, h3, hpost _ _ _ _ _ _ ⟨Cond.after_iff.mpr rfl, Cond.after_iff.mpr (eq_i res_at (Term.int_eval (1)) rfl), trivial⟩ ⟨hq.1, hq.2.1, hq.2.2.1, (hq.2.2.2.sift fun y hy => Or.inr (N y hy)).mono (by decide) (by decide)⟩⟩
theorem main_1_1 : Claimed_1_1 := comes_1 fun _ _ _ _ _ _ h hF => ⟨h.1, hF⟩
theorem main_1_2 : Claimed_1_2 := comes_1 fun _ _ _ _ _ _ h hF => ⟨h.2.1, hF⟩
end Jvm.Pilot.@@N@@
namespace Jvm.Pilot.@@N@@
open Jvm Jvm.ClassFile Sem Op Lib Jvm.Free Jvm.Stand Jvm.Pilot.@@N@@.Jvm.D
/-! MADE BY PROGRAM (witnessworld.py) out of the Statement's table words and the real class files: 20 classes; the members and pool entries that the words name. The judged class is class 1, her method 1. -/
namespace start1
open Jvm.ClassFile
def u (s : String) : CpInfo := .utf8 (stringToUtf16 s)
/-- a pool by its gaps: so many unusable entries, then the entry; so many at the end -/
def gap : Nat → List CpInfo → List CpInfo
  | 0, r => r
  | n + 1, r => .unusable :: gap n r
def poolList (es : List (Nat × CpInfo)) (last : Nat) : List CpInfo := es.foldr (fun e r => gap e.1 (e.2 :: r)) (gap last [])
def pool (es : List (Nat × CpInfo)) (last : Nat) : Array CpInfo := ⟨poolList es last⟩
def fileOf (pool : Array CpInfo) (this : Nat) (attrs : Array Attribute := #[]) (ms : Array MethodInfo := #[]) (fl : Nat := 33) (sup : Nat := 0) (ifs : Array Nat := #[]) (fds : Array FieldInfo := #[]) : ClassFile where
  minorVersion := 0
  majorVersion := 65
  constantPool := pool
  accessFlags := fl
  thisClass := this
  superClass := sup
  interfaces := ifs
  fields := fds
  methods := ms
  attributes := attrs
def plain (name : String) (sup : Option ClassId) : Class where
  name := name
  kind := .ordinary
  loader := none
  accessFlags := 33
  super := sup
  interfaces := #[]
  cf := none
  fields := #[]
  methods := #[]
  instanceTypes := #[]
  staticTypes := #[]
  resolved := #[]
  callSites := []
  init := .initialized
  statics := none
  mirror := none

def pool0 : Array CpInfo := pool [(5, u "<init>"), (0, u "()V"), (1, .class_ 10), (1, u "java/lang/Object")] 113

def k0c0 : Code := { maxStack := 0, maxLocals := 1, code := object_method_1_code, exceptionTable := #[], attributes := #[] }
def k0m0 : Method := { name := "<init>", desc := "()V", sig := { parameters := [], returnType := none }, accessFlags := 1, code := some k0c0 }
/-- java/lang/Object -/
def k0 : Class := { plain "java/lang/Object" none with
  accessFlags := 33
  interfaces := #[]
  cf := some (fileOf pool0 8 #[] #[{ accessFlags := 1, nameIndex := 5, descriptorIndex := 6, attributes := #[] }] 33 0 #[] #[])
  fields := #[]
  methods := #[k0m0]
  instanceTypes := #[]
  staticTypes := #[]
  resolved := Array.replicate 124 none
  statics := none }

def pool1 : Array CpInfo := pool [(2, .class_ 4), (1, u "java/lang/Object"), (0, u "<init>"), (0, u "()V"), (0, .class_ 8), (0, u "com/example/soft_filter/softfilter/ranking/RankingRule"), (0, .fieldref 7 10), (0, .nameAndType 11 12), (0, u "FILTERS"), (0, u "Lcom/example/soft_filter/softfilter/ranking/RankingRule;"), (0, .fieldref 7 14), (0, .nameAndType 15 12), (0, u "WORDS"), (0, .fieldref 7 17), (0, .nameAndType 18 12), (0, u "TYPO"), (0, .integer 2147483647), (0, .methodref 21 22), (0, .class_ 23), (0, .nameAndType 24 25), (0, u "java/lang/Math"), (0, u "max"), (0, u "(II)I"), (0, .class_ 27), (0, u "com/example/soft_filter/softfilter/ranking/RuleScore"), (0, .methodref 26 29), (0, .nameAndType 5 30), (0, u "(Lcom/example/soft_filter/softfilter/ranking/RankingRule;IIII)V"), (0, .methodref 26 32), (0, .nameAndType 33 34), (0, u "score"), (0, u "()D"), (0, .double 4604180019048437077), (1, .class_ 38), (0, u "com/example/soft_filter/softfilter/ranking/RuleScoreScorePinLaw"), (2, u "law"), (0, u "(IIIIII)Z")] 5

def k1m0 : Method := { name := "<init>", desc := "()V", sig := { parameters := [], returnType := none }, accessFlags := 1, code := none }
def k1c1 : Code := { maxStack := 7, maxLocals := 25, code := code, exceptionTable := #[], attributes := #[] }
def k1m1 : Method := { name := "law", desc := "(IIIIII)Z", sig := { parameters := [.int, .int, .int, .int, .int, .int], returnType := some .boolean }, accessFlags := 9, code := some k1c1 }
/-- com/example/soft_filter/softfilter/ranking/RuleScoreScorePinLaw -/
def k1 : Class := { plain "com/example/soft_filter/softfilter/ranking/RuleScoreScorePinLaw" (some 0) with
  accessFlags := 49
  interfaces := #[]
  cf := some (fileOf pool1 37 #[] #[{ accessFlags := 1, nameIndex := 5, descriptorIndex := 6, attributes := #[] }, { accessFlags := 9, nameIndex := 41, descriptorIndex := 42, attributes := #[] }] 49 2 #[] #[])
  fields := #[]
  methods := #[k1m0, k1m1]
  instanceTypes := #[]
  staticTypes := #[]
  resolved := Array.replicate 48 none
  statics := none }

def pool2 : Array CpInfo := pool [(1, .class_ 2), (0, u "java/lang/constant/Constable"), (0, .class_ 4), (0, u "java/lang/Object")] 6

/-- java/lang/constant/Constable -/
def k2 : Class := { plain "java/lang/constant/Constable" (some 0) with
  accessFlags := 1537
  interfaces := #[]
  cf := some (fileOf pool2 1 #[] #[] 1537 3 #[] #[])
  fields := #[]
  methods := #[]
  instanceTypes := #[]
  staticTypes := #[]
  resolved := Array.replicate 11 none
  statics := none }

def pool3 : Array CpInfo := pool [(1, .class_ 2), (0, u "java/lang/Comparable"), (0, .class_ 4), (0, u "java/lang/Object")] 7

/-- java/lang/Comparable -/
def k3 : Class := { plain "java/lang/Comparable" (some 0) with
  accessFlags := 1537
  interfaces := #[]
  cf := some (fileOf pool3 1 #[] #[] 1537 3 #[] #[])
  fields := #[]
  methods := #[]
  instanceTypes := #[]
  staticTypes := #[]
  resolved := Array.replicate 12 none
  statics := none }

def pool4 : Array CpInfo := pool [(1, .class_ 2), (0, u "java/io/Serializable"), (0, .class_ 4), (0, u "java/lang/Object")] 2

/-- java/io/Serializable -/
def k4 : Class := { plain "java/io/Serializable" (some 0) with
  accessFlags := 1537
  interfaces := #[]
  cf := some (fileOf pool4 1 #[] #[] 1537 3 #[] #[])
  fields := #[]
  methods := #[]
  instanceTypes := #[]
  staticTypes := #[]
  resolved := Array.replicate 7 none
  statics := none }

def pool5 : Array CpInfo := pool [(2, .class_ 4), (1, u "java/lang/Enum"), (0, u "name"), (0, u "Ljava/lang/String;"), (2, u "ordinal"), (0, u "I"), (1, .class_ 14), (1, u "java/lang/Object"), (4, u "hash"), (86, .class_ 108), (1, u "java/lang/Enum$EnumDesc"), (2, .class_ 112), (0, u "java/lang/constant/Constable"), (0, .class_ 114), (0, u "java/lang/Comparable"), (0, .class_ 116), (0, u "java/io/Serializable")] 87

/-- java/lang/Enum -/
def k5 : Class := { plain "java/lang/Enum" (some 0) with
  accessFlags := 1057
  interfaces := #[2, 3, 4]
  cf := some (fileOf pool5 2 #[.nestMembers #[106]] #[] 1057 12 #[111, 113, 115] #[{ accessFlags := 18, nameIndex := 5, descriptorIndex := 6, attributes := #[] }, { accessFlags := 18, nameIndex := 9, descriptorIndex := 10, attributes := #[] }, { accessFlags := 2, nameIndex := 19, descriptorIndex := 10, attributes := #[] }])
  fields := #[{ name := "name", type := (.object "java/lang/String"), accessFlags := 18, slot := 0, constantValue := 0 }, { name := "ordinal", type := .int, accessFlags := 18, slot := 1, constantValue := 0 }, { name := "hash", type := .int, accessFlags := 2, slot := 2, constantValue := 0 }]
  methods := #[]
  instanceTypes := #[(.object "java/lang/String"), .int, .int]
  staticTypes := #[]
  resolved := Array.replicate 204 none
  statics := none }

def pool6 : Array CpInfo := pool [(1, .class_ 2), (0, u "com/example/soft_filter/softfilter/ranking/RankingRule"), (2, u "FILTERS"), (0, u "Lcom/example/soft_filter/softfilter/ranking/RankingRule;"), (2, u "WORDS"), (2, u "TYPO"), (2, u "$VALUES"), (0, u "[Lcom/example/soft_filter/softfilter/ranking/RankingRule;"), (6, .class_ 25), (1, u "java/lang/Enum"), (8, u "ruleName"), (0, u "Ljava/lang/String;"), (2, u "valueName"), (2, u "maxValueName")] 95

/-- com/example/soft_filter/softfilter/ranking/RankingRule -/
def k6 : Class := { plain "com/example/soft_filter/softfilter/ranking/RankingRule" (some 5) with
  accessFlags := 16433
  interfaces := #[]
  cf := some (fileOf pool6 1 #[] #[] 16433 23 #[] #[{ accessFlags := 16409, nameIndex := 5, descriptorIndex := 6, attributes := #[] }, { accessFlags := 16409, nameIndex := 9, descriptorIndex := 6, attributes := #[] }, { accessFlags := 16409, nameIndex := 12, descriptorIndex := 6, attributes := #[] }, { accessFlags := 18, nameIndex := 34, descriptorIndex := 35, attributes := #[] }, { accessFlags := 18, nameIndex := 38, descriptorIndex := 35, attributes := #[] }, { accessFlags := 18, nameIndex := 41, descriptorIndex := 35, attributes := #[] }, { accessFlags := 4122, nameIndex := 15, descriptorIndex := 16, attributes := #[] }])
  fields := #[{ name := "FILTERS", type := (.object "com/example/soft_filter/softfilter/ranking/RankingRule"), accessFlags := 16409, slot := 0, constantValue := 0 }, { name := "WORDS", type := (.object "com/example/soft_filter/softfilter/ranking/RankingRule"), accessFlags := 16409, slot := 1, constantValue := 0 }, { name := "TYPO", type := (.object "com/example/soft_filter/softfilter/ranking/RankingRule"), accessFlags := 16409, slot := 2, constantValue := 0 }, { name := "ruleName", type := (.object "java/lang/String"), accessFlags := 18, slot := 3, constantValue := 0 }, { name := "valueName", type := (.object "java/lang/String"), accessFlags := 18, slot := 4, constantValue := 0 }, { name := "maxValueName", type := (.object "java/lang/String"), accessFlags := 18, slot := 5, constantValue := 0 }, { name := "$VALUES", type := (.array (.object "com/example/soft_filter/softfilter/ranking/RankingRule")), accessFlags := 4122, slot := 3, constantValue := 0 }]
  methods := #[]
  instanceTypes := #[(.object "java/lang/String"), .int, .int, (.object "java/lang/String"), (.object "java/lang/String"), (.object "java/lang/String")]
  staticTypes := #[(.object "com/example/soft_filter/softfilter/ranking/RankingRule"), (.object "com/example/soft_filter/softfilter/ranking/RankingRule"), (.object "com/example/soft_filter/softfilter/ranking/RankingRule"), (.array (.object "com/example/soft_filter/softfilter/ranking/RankingRule"))]
  resolved := Array.replicate 137 none
  statics := some 0 }

def pool7 : Array CpInfo := pool [(1, .class_ 2), (0, u "java/lang/Math"), (1, .class_ 6), (1, u "java/lang/Object"), (0, u "<init>"), (0, u "()V"), (89, .class_ 100), (1, u "java/lang/Math$RandomNumberGeneratorHolder"), (71, u "negativeZeroFloatBits"), (0, u "J"), (2, u "negativeZeroDoubleBits"), (21, u "max"), (46, u "$assertionsDisabled"), (0, u "Z"), (88, u "(II)I"), (2, u "twoToTheDoubleScaleDown"), (0, u "D"), (4, u "twoToTheDoubleScaleUp"), (9, u "E"), (3, u "PI"), (2, u "TAU"), (2, u "DEGREES_TO_RADIANS"), (0, u "RADIANS_TO_DEGREES")] 94

def k7m0 : Method := { name := "<init>", desc := "()V", sig := { parameters := [], returnType := none }, accessFlags := 2, code := none }
def k7c1 : Code := { maxStack := 2, maxLocals := 2, code := jdk_29_method_65_code, exceptionTable := #[], attributes := #[] }
def k7m1 : Method := { name := "max", desc := "(II)I", sig := { parameters := [.int, .int], returnType := some .int }, accessFlags := 9, code := some k7c1 }
/-- java/lang/Math -/
def k7 : Class := { plain "java/lang/Math" (some 0) with
  accessFlags := 49
  interfaces := #[]
  cf := some (fileOf pool7 1 #[.nestMembers #[98]] #[{ accessFlags := 2, nameIndex := 7, descriptorIndex := 8, attributes := #[] }, { accessFlags := 9, nameIndex := 198, descriptorIndex := 335, attributes := #[] }] 49 4 #[] #[{ accessFlags := 25, nameIndex := 354, descriptorIndex := 339, attributes := #[] }, { accessFlags := 25, nameIndex := 358, descriptorIndex := 339, attributes := #[] }, { accessFlags := 25, nameIndex := 361, descriptorIndex := 339, attributes := #[] }, { accessFlags := 26, nameIndex := 364, descriptorIndex := 339, attributes := #[] }, { accessFlags := 26, nameIndex := 365, descriptorIndex := 339, attributes := #[] }, { accessFlags := 26, nameIndex := 172, descriptorIndex := 173, attributes := #[] }, { accessFlags := 26, nameIndex := 176, descriptorIndex := 173, attributes := #[] }, { accessFlags := 8, nameIndex := 344, descriptorIndex := 339, attributes := #[] }, { accessFlags := 8, nameIndex := 338, descriptorIndex := 339, attributes := #[] }, { accessFlags := 4120, nameIndex := 245, descriptorIndex := 246, attributes := #[] }])
  fields := #[{ name := "E", type := .double, accessFlags := 25, slot := 0, constantValue := 0 }, { name := "PI", type := .double, accessFlags := 25, slot := 1, constantValue := 0 }, { name := "TAU", type := .double, accessFlags := 25, slot := 2, constantValue := 0 }, { name := "DEGREES_TO_RADIANS", type := .double, accessFlags := 26, slot := 3, constantValue := 0 }, { name := "RADIANS_TO_DEGREES", type := .double, accessFlags := 26, slot := 4, constantValue := 0 }, { name := "negativeZeroFloatBits", type := .long, accessFlags := 26, slot := 5, constantValue := 0 }, { name := "negativeZeroDoubleBits", type := .long, accessFlags := 26, slot := 6, constantValue := 0 }, { name := "twoToTheDoubleScaleUp", type := .double, accessFlags := 8, slot := 7, constantValue := 0 }, { name := "twoToTheDoubleScaleDown", type := .double, accessFlags := 8, slot := 8, constantValue := 0 }, { name := "$assertionsDisabled", type := .boolean, accessFlags := 4120, slot := 9, constantValue := 0 }]
  methods := #[k7m0, k7m1]
  instanceTypes := #[]
  staticTypes := #[.double, .double, .double, .double, .double, .long, .long, .double, .double, .boolean]
  resolved := Array.replicate 460 none
  statics := none }

def pool8 : Array CpInfo := pool [(1, .methodref 2 3), (0, .class_ 4), (0, .nameAndType 5 6), (0, u "java/lang/Object"), (0, u "<init>"), (0, u "()V"), (0, .class_ 8), (0, u "java/lang/Record")] 13

def k8c0 : Code := { maxStack := 1, maxLocals := 1, code := jdk_30_method_1_code, exceptionTable := #[], attributes := #[] }
def k8m0 : Method := { name := "<init>", desc := "()V", sig := { parameters := [], returnType := none }, accessFlags := 4, code := some k8c0 }
/-- java/lang/Record -/
def k8 : Class := { plain "java/lang/Record" (some 0) with
  accessFlags := 1057
  interfaces := #[]
  cf := some (fileOf pool8 7 #[] #[{ accessFlags := 4, nameIndex := 5, descriptorIndex := 6, attributes := #[] }] 1057 2 #[] #[])
  fields := #[]
  methods := #[k8m0]
  instanceTypes := #[]
  staticTypes := #[]
  resolved := Array.replicate 22 none
  statics := none }

def pool9 : Array CpInfo := pool [(1, .methodref 2 3), (0, .class_ 4), (0, .nameAndType 5 6), (0, u "java/lang/Record"), (0, u "<init>"), (0, u "()V"), (0, .string 8), (0, u "rule"), (0, .methodref 10 11), (0, .class_ 12), (0, .nameAndType 13 14), (0, u "java/util/Objects"), (0, u "requireNonNull"), (0, u "(Ljava/lang/Object;Ljava/lang/String;)Ljava/lang/Object;"), (9, .fieldref 25 26), (0, .class_ 27), (0, .nameAndType 8 28), (0, u "com/example/soft_filter/softfilter/ranking/RuleScore"), (0, u "Lcom/example/soft_filter/softfilter/ranking/RankingRule;"), (0, .fieldref 25 30), (0, .nameAndType 31 32), (0, u "bucket"), (0, u "I"), (0, .fieldref 25 34), (0, .nameAndType 35 32), (0, u "buckets"), (0, .fieldref 25 37), (0, .nameAndType 38 32), (0, u "value"), (0, .fieldref 25 40), (0, .nameAndType 41 32), (0, u "maxValue"), (12, u "(Lcom/example/soft_filter/softfilter/ranking/RankingRule;IIII)V"), (6, u "score"), (0, u "()D")] 36

def k9c0 : Code := { maxStack := 4, maxLocals := 6, code := prog_30_method_1_code, exceptionTable := #[], attributes := #[] }
def k9m0 : Method := { name := "<init>", desc := "(Lcom/example/soft_filter/softfilter/ranking/RankingRule;IIII)V", sig := { parameters := [(.object "com/example/soft_filter/softfilter/ranking/RankingRule"), .int, .int, .int, .int], returnType := none }, accessFlags := 1, code := some k9c0 }
def k9c1 : Code := { maxStack := 4, maxLocals := 1, code := prog_30_method_2_code, exceptionTable := #[], attributes := #[] }
def k9m1 : Method := { name := "score", desc := "()D", sig := { parameters := [], returnType := some .double }, accessFlags := 1, code := some k9c1 }
/-- com/example/soft_filter/softfilter/ranking/RuleScore -/
def k9 : Class := { plain "com/example/soft_filter/softfilter/ranking/RuleScore" (some 8) with
  accessFlags := 49
  interfaces := #[]
  cf := some (fileOf pool9 25 #[] #[{ accessFlags := 1, nameIndex := 5, descriptorIndex := 54, attributes := #[] }, { accessFlags := 1, nameIndex := 61, descriptorIndex := 62, attributes := #[] }] 49 2 #[] #[{ accessFlags := 18, nameIndex := 8, descriptorIndex := 28, attributes := #[] }, { accessFlags := 18, nameIndex := 31, descriptorIndex := 32, attributes := #[] }, { accessFlags := 18, nameIndex := 35, descriptorIndex := 32, attributes := #[] }, { accessFlags := 18, nameIndex := 38, descriptorIndex := 32, attributes := #[] }, { accessFlags := 18, nameIndex := 41, descriptorIndex := 32, attributes := #[] }])
  fields := #[{ name := "rule", type := (.object "com/example/soft_filter/softfilter/ranking/RankingRule"), accessFlags := 18, slot := 0, constantValue := 0 }, { name := "bucket", type := .int, accessFlags := 18, slot := 1, constantValue := 0 }, { name := "buckets", type := .int, accessFlags := 18, slot := 2, constantValue := 0 }, { name := "value", type := .int, accessFlags := 18, slot := 3, constantValue := 0 }, { name := "maxValue", type := .int, accessFlags := 18, slot := 4, constantValue := 0 }]
  methods := #[k9m0, k9m1]
  instanceTypes := #[(.object "com/example/soft_filter/softfilter/ranking/RankingRule"), .int, .int, .int, .int]
  staticTypes := #[]
  resolved := Array.replicate 99 none
  statics := none }

def pool10 : Array CpInfo := pool [(2, .class_ 4), (1, u "java/lang/CharSequence"), (42, .class_ 48), (0, u "java/lang/CharSequence$1CodePointIterator"), (10, .class_ 60), (0, u "java/lang/CharSequence$1CharIterator"), (5, .class_ 67), (0, u "java/lang/Object")] 63

/-- java/lang/CharSequence -/
def k10 : Class := { plain "java/lang/CharSequence" (some 0) with
  accessFlags := 1537
  interfaces := #[]
  cf := some (fileOf pool10 2 #[.nestMembers #[47, 59]] #[] 1537 66 #[] #[])
  fields := #[]
  methods := #[]
  instanceTypes := #[]
  staticTypes := #[]
  resolved := Array.replicate 131 none
  statics := none }

def pool11 : Array CpInfo := pool [(1, .class_ 2), (0, u "java/lang/constant/ConstantDesc"), (0, .class_ 4), (0, u "java/lang/Object")] 32

/-- java/lang/constant/ConstantDesc -/
def k11 : Class := { plain "java/lang/constant/ConstantDesc" (some 0) with
  accessFlags := 1537
  interfaces := #[]
  cf := some (fileOf pool11 1 #[] #[] 1537 3 #[] #[])
  fields := #[]
  methods := #[]
  instanceTypes := #[]
  staticTypes := #[]
  resolved := Array.replicate 37 none
  statics := none }

def pool12 : Array CpInfo := pool [(2, .class_ 4), (1, u "java/lang/Object"), (0, u "<init>"), (0, u "()V"), (3, .class_ 12), (1, u "java/lang/String"), (0, u "value"), (0, u "[B"), (2, u "coder"), (0, u "B"), (2, u "hash"), (0, u "I"), (2, u "hashIsZero"), (0, u "Z"), (13, u "COMPACT_STRINGS"), (534, .class_ 576), (0, u "java/lang/CharSequence"), (22, u "CASE_INSENSITIVE_ORDER"), (0, u "Ljava/util/Comparator;"), (500, u "serialPersistentFields"), (0, u "[Ljava/io/ObjectStreamField;"), (0, .class_ 1104), (0, u "java/lang/String$CaseInsensitiveComparator"), (1, .class_ 1107), (0, u "java/io/Serializable"), (0, .class_ 1109), (0, u "java/lang/Comparable"), (0, .class_ 1111), (0, u "java/lang/constant/Constable"), (0, .class_ 1113), (0, u "java/lang/constant/ConstantDesc"), (2, u "serialVersionUID"), (0, u "J"), (3, u "REPL"), (0, u "C"), (2, u "LATIN1"), (1, u "UTF16")] 323

def k12m0 : Method := { name := "<init>", desc := "()V", sig := { parameters := [], returnType := none }, accessFlags := 1, code := none }
/-- java/lang/String -/
def k12 : Class := { plain "java/lang/String" (some 0) with
  accessFlags := 49
  interfaces := #[4, 3, 10, 2, 11]
  cf := some (fileOf pool12 10 #[.nestMembers #[1103]] #[{ accessFlags := 1, nameIndex := 5, descriptorIndex := 6, attributes := #[] }] 49 2 #[1106, 1108, 575, 1110, 1112] #[{ accessFlags := 18, nameIndex := 13, descriptorIndex := 14, attributes := #[] }, { accessFlags := 18, nameIndex := 17, descriptorIndex := 18, attributes := #[] }, { accessFlags := 2, nameIndex := 21, descriptorIndex := 22, attributes := #[] }, { accessFlags := 2, nameIndex := 25, descriptorIndex := 26, attributes := #[] }, { accessFlags := 26, nameIndex := 1116, descriptorIndex := 1117, attributes := #[] }, { accessFlags := 24, nameIndex := 40, descriptorIndex := 26, attributes := #[] }, { accessFlags := 26, nameIndex := 1101, descriptorIndex := 1102, attributes := #[] }, { accessFlags := 26, nameIndex := 1121, descriptorIndex := 1122, attributes := #[] }, { accessFlags := 25, nameIndex := 599, descriptorIndex := 600, attributes := #[] }, { accessFlags := 24, nameIndex := 1125, descriptorIndex := 18, attributes := #[] }, { accessFlags := 24, nameIndex := 1127, descriptorIndex := 18, attributes := #[] }])
  fields := #[{ name := "value", type := (.array .byte), accessFlags := 18, slot := 0, constantValue := 0 }, { name := "coder", type := .byte, accessFlags := 18, slot := 1, constantValue := 0 }, { name := "hash", type := .int, accessFlags := 2, slot := 2, constantValue := 0 }, { name := "hashIsZero", type := .boolean, accessFlags := 2, slot := 3, constantValue := 0 }, { name := "serialVersionUID", type := .long, accessFlags := 26, slot := 0, constantValue := 0 }, { name := "COMPACT_STRINGS", type := .boolean, accessFlags := 24, slot := 1, constantValue := 0 }, { name := "serialPersistentFields", type := (.array (.object "java/io/ObjectStreamField")), accessFlags := 26, slot := 2, constantValue := 0 }, { name := "REPL", type := .char, accessFlags := 26, slot := 3, constantValue := 0 }, { name := "CASE_INSENSITIVE_ORDER", type := (.object "java/util/Comparator"), accessFlags := 25, slot := 4, constantValue := 0 }, { name := "LATIN1", type := .byte, accessFlags := 24, slot := 5, constantValue := 0 }, { name := "UTF16", type := .byte, accessFlags := 24, slot := 6, constantValue := 0 }]
  methods := #[k12m0]
  instanceTypes := #[(.array .byte), .byte, .int, .boolean]
  staticTypes := #[.long, .boolean, (.array (.object "java/io/ObjectStreamField")), .char, (.object "java/util/Comparator"), .byte, .byte]
  resolved := Array.replicate 1451 none
  statics := none }

def pool13 : Array CpInfo := pool [(2, .class_ 4), (1, u "java/lang/Object"), (0, u "<init>"), (0, u "()V"), (35, .class_ 44), (1, u "java/util/Objects"), (0, u "requireNonNull"), (48, u "(Ljava/lang/Object;Ljava/lang/String;)Ljava/lang/Object;")] 89

def k13m0 : Method := { name := "<init>", desc := "()V", sig := { parameters := [], returnType := none }, accessFlags := 2, code := none }
def k13c1 : Code := { maxStack := 3, maxLocals := 2, code := jdk_31_method_11_code, exceptionTable := #[], attributes := #[] }
def k13m1 : Method := { name := "requireNonNull", desc := "(Ljava/lang/Object;Ljava/lang/String;)Ljava/lang/Object;", sig := { parameters := [(.object "java/lang/Object"), (.object "java/lang/String")], returnType := some (.object "java/lang/Object") }, accessFlags := 9, code := some k13c1 }
/-- java/util/Objects -/
def k13 : Class := { plain "java/util/Objects" (some 0) with
  accessFlags := 49
  interfaces := #[]
  cf := some (fileOf pool13 42 #[] #[{ accessFlags := 2, nameIndex := 5, descriptorIndex := 6, attributes := #[] }, { accessFlags := 9, nameIndex := 45, descriptorIndex := 94, attributes := #[] }] 49 2 #[] #[])
  fields := #[]
  methods := #[k13m0, k13m1]
  instanceTypes := #[]
  staticTypes := #[]
  resolved := Array.replicate 184 none
  statics := none }

def pool14 : Array CpInfo := pool [(1, u "java/lang/Cloneable"), (0, .class_ 1), (0, u "java/lang/Object"), (0, .class_ 3)] 3

/-- java/lang/Cloneable -/
def k14 : Class := { plain "java/lang/Cloneable" (some 0) with
  accessFlags := 1537
  interfaces := #[]
  cf := some (fileOf pool14 2 #[] #[] 1537 4 #[] #[])
  fields := #[]
  methods := #[]
  instanceTypes := #[]
  staticTypes := #[]
  resolved := Array.replicate 8 none
  statics := none }

/-- the primitive byte -/
def k15 : Class := { plain "byte" none with kind := .primitive 'B', accessFlags := 0x411 }
/-- [B -/
def k16 : Class := { plain "[B" (some 0) with kind := .array 15 .byte, interfaces := #[14, 4], accessFlags := 1041 }

/-- the primitive int -/
def k17 : Class := { plain "int" none with kind := .primitive 'I', accessFlags := 0x411 }
/-- [I -/
def k18 : Class := { plain "[I" (some 0) with kind := .array 17 .int, interfaces := #[14, 4], accessFlags := 1041 }

/-- [Lcom/example/soft_filter/softfilter/ranking/RankingRule; -/
def k19 : Class := { plain "[Lcom/example/soft_filter/softfilter/ranking/RankingRule;" (some 0) with kind := .array 6 (.object "com/example/soft_filter/softfilter/ranking/RankingRule"), interfaces := #[14, 4], accessFlags := 1041 }

def heap : Heap := #[{ cls := 6, slots := #[.ref 1, .ref 2, .ref 3, .null], vm := .statics 6 },
  { cls := 6, slots := #[.null, .int 0, .int 0, .null, .null, .null], vm := .none },
  { cls := 6, slots := #[.null, .int 0, .int 0, .null, .null, .null], vm := .none },
  { cls := 6, slots := #[.null, .int 0, .int 0, .null, .null, .null], vm := .none }]
def classes : Array Class := #[k0, k1, k2, k3, k4, k5, k6, k7, k8, k9, k10, k11, k12, k13, k14, k15, k16, k17, k18, k19]
def interned : List (Array UInt16 × Addr) := []
def slotsUsed : Nat := 22
def theMethod : MethodId := ⟨1, 1⟩
def args0 : Array Value := #[.int 5, .int 6, .int 7, .int 8, .int 9, .int 10]
def aboutOver (below : List Frame) : State where
  vm := { classes := classes, interned := interned.toArray }
  heap := heap
  slotsUsed := slotsUsed
  threads := #[{ frames := .invoking theMethod args0 :: below }]
def below0 : List Frame := [.native { method := ⟨0, 0⟩, args := #[] }]
def about1 : State := aboutOver below0
def p0 : Program := .bare "" "" ""
def e0 : Env := launch0.env 0 0 0
theorem w_frames : about1.frames = Frame.invoking theMethod args0 :: below0 := rfl
set_option maxRecDepth 65536 in
theorem w_args : argsFit about1.vm theMethod args0 = true := by decide +kernel
set_option maxRecDepth 65536 in
theorem w_heap : heapFits about1 = true := by decide +kernel
set_option maxRecDepth 65536 in
theorem w_runnable : about1.curStatus? = some .runnable := by decide +kernel
set_option maxRecDepth 65536 in
theorem w_alone : about1.alone = true := by decide +kernel
set_option maxRecDepth 65536 in
theorem w_named : about1.methodNamed? x = some theMethod := by decide +kernel
set_option maxRecDepth 65536 in
theorem w_hears : about1.hears theMethod below0 = true := by decide +kernel
set_option maxRecDepth 65536 in
theorem w_ripe : about1.ripe theMethod args0 below0 = true := by decide +kernel
theorem w_running : about1.status = .running := rfl
set_option maxRecDepth 65536 in
theorem w_room : about1.hasRoom e0.platform room_1 = true :=
  launch0.hasRoom_least _ room_1 (by decide +kernel) (by decide +kernel) (by decide +kernel) (by decide +kernel) (by decide +kernel) (by decide +kernel)
theorem allAtoms_all (ts : List Jvm.Cond) (a : Array Jvm.Value) (st : Jvm.State) : (allAtoms ts).before a st = ts.all (fun c => c.before a st) := by
  induction ts with
  | nil => rfl
  | cons c t ih =>
    show (Jvm.Cond.and c (allAtoms t)).before a st = _
    rw [Jvm.Cond.before_and, ih, List.all_cons]
def words1 : List Jvm.Cond := Jvm.Cond.code x code maxLocals ret :: tables_1
/-- a 'code' word, met by the world's own term for the bytes: nothing is compared byte by byte -/
theorem code_word {y : MethodName} {bytes : ByteArray} {mx : Nat} {rt : Option FieldType} {a : Array Value} {s : State} {m : MethodId} {meth : Method} {c : Code} (h1 : s.methodNamed? y = some m) (h2 : s.vm.method? m = some meth) (h3 : meth.code = some c) (h4 : c.code = bytes)
    (h5 : (c.maxLocals == mx && c.exceptionTable.isEmpty && decide (c.maxStack ≤ mostOperands) && decide (meth.sig.returnType = rt) && !meth.locks && decide (parseMethodDescriptor y.desc = some meth.sig)) = true) : (Jvm.Cond.code y bytes mx rt).before a s = true := by
  simp only [Bool.and_eq_true, beq_iff_eq, Bool.not_eq_true', decide_eq_true_eq] at h5
  obtain ⟨⟨⟨⟨⟨g1, g2⟩, g3⟩, g4⟩, g5⟩, g6⟩ := h5
  simp [Cond.before, Cond.holds, Cond.value, h1, h2, h3, h4, g1, g2, g3, g4, g5, g6]
def isCode : Jvm.Cond → Bool
  | .code _ _ _ _ => true
  | _ => false
theorem all_split {L : List Jvm.Cond} {P : Jvm.Cond → Bool} (h1 : L.all (fun c => isCode c || P c) = true) (h2 : ∀ c ∈ L.filter isCode, P c = true) : L.all P = true := by
  refine List.all_eq_true.mpr fun c hc => ?_
  have h := List.all_eq_true.mp h1 c hc
  rcases Bool.eq_false_or_eq_true (isCode c) with hi | hi
  · exact h2 c (List.mem_filter.mpr ⟨hc, hi⟩)
  · simpa [hi] using h
set_option maxRecDepth 65536 in
theorem w_c0 : (Jvm.Cond.code x code maxLocals ret).before args0 about1 = true := code_word (m := ⟨1, 1⟩) (meth := k1m1) (c := k1c1) (by decide +kernel) rfl rfl rfl (by decide +kernel)
set_option maxRecDepth 65536 in
theorem w_c1 : (Jvm.Cond.code ({ cls := "java/lang/Math", name := "max", desc := "(II)I" } : Jvm.MethodName) jdk_29_method_65_code (2 : Nat) (Option.some Jvm.ClassFile.FieldType.int)).before args0 about1 = true := code_word (m := ⟨7, 1⟩) (meth := k7m1) (c := k7c1) (by decide +kernel) rfl rfl rfl (by decide +kernel)
set_option maxRecDepth 65536 in
theorem w_c2 : (Jvm.Cond.code ({ cls := "com/example/soft_filter/softfilter/ranking/RuleScore", name := "<init>", desc := "(Lcom/example/soft_filter/softfilter/ranking/RankingRule;IIII)V" } : Jvm.MethodName) prog_30_method_1_code (6 : Nat) (Option.none : Option Jvm.ClassFile.FieldType)).before args0 about1 = true := code_word (m := ⟨9, 0⟩) (meth := k9m0) (c := k9c0) (by decide +kernel) rfl rfl rfl (by decide +kernel)
set_option maxRecDepth 65536 in
theorem w_c3 : (Jvm.Cond.code ({ cls := "java/lang/Record", name := "<init>", desc := "()V" } : Jvm.MethodName) jdk_30_method_1_code (1 : Nat) (Option.none : Option Jvm.ClassFile.FieldType)).before args0 about1 = true := code_word (m := ⟨8, 0⟩) (meth := k8m0) (c := k8c0) (by decide +kernel) rfl rfl rfl (by decide +kernel)
set_option maxRecDepth 65536 in
theorem w_c4 : (Jvm.Cond.code ({ cls := "java/lang/Object", name := "<init>", desc := "()V" } : Jvm.MethodName) object_method_1_code (1 : Nat) (Option.none : Option Jvm.ClassFile.FieldType)).before args0 about1 = true := code_word (m := ⟨0, 0⟩) (meth := k0m0) (c := k0c0) (by decide +kernel) rfl rfl rfl (by decide +kernel)
set_option maxRecDepth 65536 in
theorem w_c5 : (Jvm.Cond.code ({ cls := "java/util/Objects", name := "requireNonNull", desc := "(Ljava/lang/Object;Ljava/lang/String;)Ljava/lang/Object;" } : Jvm.MethodName) jdk_31_method_11_code (2 : Nat) (Option.some (Jvm.ClassFile.FieldType.object "java/lang/Object"))).before args0 about1 = true := code_word (m := ⟨13, 1⟩) (meth := k13m1) (c := k13c1) (by decide +kernel) rfl rfl rfl (by decide +kernel)
set_option maxRecDepth 65536 in
theorem w_c6 : (Jvm.Cond.code ({ cls := "com/example/soft_filter/softfilter/ranking/RuleScore", name := "score", desc := "()D" } : Jvm.MethodName) prog_30_method_2_code (1 : Nat) (Option.some Jvm.ClassFile.FieldType.double)).before args0 about1 = true := code_word (m := ⟨9, 1⟩) (meth := k9m1) (c := k9c1) (by decide +kernel) rfl rfl rfl (by decide +kernel)
def codes1 : List Jvm.Cond := [Jvm.Cond.code x code maxLocals ret, Jvm.Cond.code ({ cls := "java/lang/Math", name := "max", desc := "(II)I" } : Jvm.MethodName) jdk_29_method_65_code (2 : Nat) (Option.some Jvm.ClassFile.FieldType.int), Jvm.Cond.code ({ cls := "com/example/soft_filter/softfilter/ranking/RuleScore", name := "<init>", desc := "(Lcom/example/soft_filter/softfilter/ranking/RankingRule;IIII)V" } : Jvm.MethodName) prog_30_method_1_code (6 : Nat) (Option.none : Option Jvm.ClassFile.FieldType), Jvm.Cond.code ({ cls := "java/lang/Record", name := "<init>", desc := "()V" } : Jvm.MethodName) jdk_30_method_1_code (1 : Nat) (Option.none : Option Jvm.ClassFile.FieldType), Jvm.Cond.code ({ cls := "java/lang/Object", name := "<init>", desc := "()V" } : Jvm.MethodName) object_method_1_code (1 : Nat) (Option.none : Option Jvm.ClassFile.FieldType), Jvm.Cond.code ({ cls := "java/util/Objects", name := "requireNonNull", desc := "(Ljava/lang/Object;Ljava/lang/String;)Ljava/lang/Object;" } : Jvm.MethodName) jdk_31_method_11_code (2 : Nat) (Option.some (Jvm.ClassFile.FieldType.object "java/lang/Object")), Jvm.Cond.code ({ cls := "com/example/soft_filter/softfilter/ranking/RuleScore", name := "score", desc := "()D" } : Jvm.MethodName) prog_30_method_2_code (1 : Nat) (Option.some Jvm.ClassFile.FieldType.double)]
set_option maxRecDepth 65536 in
theorem codes_eq : words1.filter isCode = codes1 := rfl
theorem w_codes : ∀ c ∈ words1.filter isCode, c.before args0 about1 = true := by
  rw [codes_eq]
  intro c hc
  simp only [codes1, List.mem_cons, List.not_mem_nil, or_false] at hc
  rcases hc with rfl | rfl | rfl | rfl | rfl | rfl | rfl
  · exact w_c0
  · exact w_c1
  · exact w_c2
  · exact w_c3
  · exact w_c4
  · exact w_c5
  · exact w_c6
set_option maxRecDepth 65536 in
theorem w_t1 : (words1.take 24).all (fun c => isCode c || c.before args0 about1) = true := by decide +kernel
set_option maxRecDepth 65536 in
theorem w_t2 : ((words1.drop 24).take 24).all (fun c => isCode c || c.before args0 about1) = true := by decide +kernel
set_option maxRecDepth 65536 in
theorem w_t3 : ((words1.drop 24).drop 24).all (fun c => isCode c || c.before args0 about1) = true := by decide +kernel
theorem w_tables : (allAtoms (Jvm.Cond.code x code maxLocals ret :: tables_1)).before args0 about1 = true := by
  rw [allAtoms_all]
  show words1.all (fun c => c.before args0 about1) = true
  refine all_split ?_ w_codes
  rw [← List.take_append_drop 24 words1, List.all_append, w_t1, ← List.take_append_drop 24 (words1.drop 24), List.all_append, w_t2, w_t3]
  rfl
set_option maxRecDepth 65536 in
theorem w_case : (Jvm.Cond.and given_1 narrow_1).before args0 about1 = true := by decide +kernel
theorem w_applies : (headSpec (Jvm.Cond.code x code maxLocals ret :: tables_1) room_1).applies x e0.platform about1 = true :=
  (Spec.applies_iff w_frames).mpr ⟨w_running, w_runnable, w_alone, w_named, w_hears, w_ripe, w_room, w_tables⟩
theorem atStart : AtStart classFile x code maxLocals ret World_1 tables_1 room_1 Calls_1 rest_1 Pre_1 launch0 p0 e0 about1 theMethod args0 below0 :=
  ⟨lists_1, trivial, launch0.admits_env _ _ _, launch0.least_env, fairChoices_fair.cas, fairChoices_fair.clock, w_frames, w_args, w_heap, w_applies, trivial, trivial, w_case⟩
end start1
theorem witness_1 : WitnessClaimed_1 := ⟨start1.p0, start1.e0, start1.about1, start1.theMethod, start1.args0, start1.below0, start1.atStart⟩
end Jvm.Pilot.@@N@@
