import JvmDerived
import JvmDerived.Pilot.@@N@@Statement
import JvmDerived.Pilot.@@N@@Code
set_option linter.unusedVariables false
set_option linter.unusedSimpArgs false
namespace Jvm.Own
open Sem ClassFile Op Lib Jvm.Stand Jvm.Free Jvm.LawKit Jvm.RoadKit
/-! A plain store over the heap: what each address that matters holds. -/
abbrev Key : Type := String × String × String
abbrev Obj : Type := Sum (String × List (Key × Value)) (FieldType × List Value)
abbrev Mem : Type := Addr → Option Obj
def upd (μ : Mem) (a : Addr) (o : Obj) : Mem := fun x => if x = a then some o else μ x
section MemFacts
variable {μ : Mem} {a b : Addr} {o o' : Obj}
theorem upd_same : upd μ a o a = some o := by simp [upd]
theorem upd_ne (h : b ≠ a) : upd μ a o b = μ b := by simp [upd, h]
theorem upd_upd : upd (upd μ a o) a o' = upd μ a o' := by funext x; simp only [upd]; split <;> rfl
theorem upd_at (h : b ≠ a) {q : Obj} (hb : μ b = some q) : upd μ a o b = some q := (upd_ne h).trans hb
theorem upd_id (h : μ a = some o) : upd μ a o = μ := by funext x; simp only [upd]; split <;> simp_all
theorem upd_in {ν : Mem} {w : Obj} (h : upd μ a o = ν) (hb : b ≠ a) : upd (upd μ b w) a o = upd ν b w := by
  subst h; funext x; simp only [upd]
  by_cases h1 : x = a
  · subst h1; simp [Ne.symm hb]
  · by_cases h2 : x = b
    · subst h2; simp [h1]
    · simp [h1, h2]
theorem upd2 {ν ρ : Mem} {o' : Obj} (h1 : upd μ a o = ν) (h2 : upd ν b o' = ρ) : upd (upd μ a o) b o' = ρ := by subst h1; exact h2
theorem upd_list {ty : FieldType} {vs vs' : List Value} {ν : Mem} (h : vs = vs') (e : upd μ a (.inr (ty, vs')) = ν) : upd μ a (.inr (ty, vs)) = ν := by subst h; exact e
end MemFacts
def sl (Z : State) (q : Key × Value) : Nat := RoadKit.slotOf Z q.1.1 q.1.2.1 q.1.2.2
def IsO (Z : State) (h : Heap) (a : Addr) (C : String) (fs : List (Key × Value)) : Prop :=
  Exa Z h a C ∧ (∀ q ∈ fs, Fld Z h a q.1.1 q.1.2.1 q.1.2.2 q.2) ∧ fs.Pairwise fun q r => sl Z q ≠ sl Z r
def nameOf : FieldType → Option String
  | .int => some "[I"
  | .long => some "[J"
  | .object C => some ("[" ++ (FieldType.object C).toString)
  | _ => none
def Tag (Z : State) (n0 : Nat) (h : Heap) (a : Addr) (k : ClassId) (ty : FieldType) : Prop := n0 ≤ a → (∀ C, ty = .object C → Ovr Z k C) ∧ ∀ N, nameOf ty = some N → Exa Z h a N
def IsA (Z : State) (n0 : Nat) (h : Heap) (a : Addr) (ty : FieldType) (vs : List Value) : Prop :=
  ∃ c : Cell, Arr Z h a c ty ∧ c.slots.toList = vs ∧ vs.length < 2 ^ 31 ∧ (∀ v ∈ vs, fits ty v = true) ∧ Tag Z n0 h a c.cls ty
def Is (Z : State) (n0 : Nat) (h : Heap) (a : Addr) : Obj → Prop
  | .inl q => IsO Z h a q.1 q.2
  | .inr q => IsA Z n0 h a q.1 q.2
def Hp (Z : State) (n0 : Nat) (μ : Mem) (h : Heap) : Prop := Old Z n0 h ∧ ∀ a o, μ a = some o → Is Z n0 h a o
section HpFacts
variable {Z : State} {n0 : Nat} {μ : Mem} {h h' : Heap} {a b : Addr} {o : Obj} {sl' : Nat} {v : Value}
theorem Is.lt (H : Is Z n0 h a o) : a < h.size := by
  rcases o with q | q
  · exact H.1.lt
  · obtain ⟨c, A, -⟩ := H; exact A.lt
theorem Is.ext (H : Is Z n0 h a o) (E : Ext h h') : Is Z n0 h' a o := by
  rcases o with q | q
  · exact ⟨H.1.ext E, fun r hr => (H.2.1 r hr).ext E, H.2.2⟩
  · obtain ⟨c, A, r1, r2, r3, r4⟩ := H; exact ⟨c, A.ext E, r1, r2, r3, fun g => ⟨(r4 g).1, fun N q => ((r4 g).2 N q).ext E⟩⟩
theorem Is.other (H : Is Z n0 h b o) (W : Wr h h' a sl' v) (q : b ≠ a) : Is Z n0 h' b o := by
  rcases o with r | r
  · exact ⟨H.1.wr W, fun r hr => (H.2.1 r hr).other W (Or.inl q), H.2.2⟩
  · obtain ⟨c, A, r1, r2, r3, r4⟩ := H; exact ⟨c, A.other W q, r1, r2, r3, fun g => ⟨(r4 g).1, fun N q => ((r4 g).2 N q).wr W⟩⟩
theorem Hp.ext (H : Hp Z n0 μ h) (E : Ext h h') : Hp Z n0 μ h' := ⟨H.1.ext E, fun a o q => (H.2 a o q).ext E⟩
theorem Hp.ge (H : Hp Z n0 μ h) : n0 ≤ h.size := H.1.1 ▸ H.1.2.1
theorem Hp.fresh (H : Hp Z n0 μ h) : ∀ b o, μ b = some o → b ≠ h.size := fun b o q => Nat.ne_of_lt (H.2 b o q).lt
theorem Hp.set (H : Hp Z n0 μ h') (I : Is Z n0 h' a o) : Hp Z n0 (upd μ a o) h' := ⟨H.1, fun b o' q => by
  by_cases e : b = a
  · subst e; rw [upd_same] at q; cases q; exact I
  · rw [upd_ne e] at q; exact H.2 b o' q⟩
theorem Hp.wr (H : Hp Z n0 μ h) (W : Wr h h' a sl' v) (g : n0 ≤ a) (I : Is Z n0 h' a o) : Hp Z n0 (upd μ a o) h' := ⟨H.1.wr W g, fun b o' q => by
  by_cases e : b = a
  · subst e; rw [upd_same] at q; cases q; exact I
  · rw [upd_ne e] at q; exact (H.2 b o' q).other W e⟩
theorem IsO.put {C : String} {fs fs' : List (Key × Value)} {k : Key} {i : Nat} {w : Value} (H : IsO Z h a C fs) (hi : fs[i]? = some (k, w)) (W : Wr h h' a (RoadKit.slotOf Z k.1 k.2.1 k.2.2) v) (e : fs.set i (k, v) = fs') : IsO Z h' a C fs' := by
  subst e
  obtain ⟨hlt, hk⟩ := List.getElem?_eq_some_iff.mp hi
  have F0 := H.2.1 _ (List.mem_of_getElem? hi)
  have hp := List.pairwise_iff_getElem.mp H.2.2
  refine ⟨H.1.wr W, fun q hq => ?_, ?_⟩
  · obtain ⟨j, hj, rfl⟩ := List.mem_iff_getElem.mp hq
    rw [List.length_set] at hj
    by_cases e : i = j
    · subst e; rw [List.getElem_set_self]; exact F0.same W
    · rw [List.getElem_set_ne e]
      refine (H.2.1 _ (List.getElem_mem hj)).other W (Or.inr ?_)
      have e0 : sl Z fs[i] = RoadKit.slotOf Z k.1 k.2.1 k.2.2 := by rw [hk]; rfl
      rcases Nat.lt_or_gt_of_ne e with q | q
      · have := hp i j hlt hj q; rw [e0] at this; exact fun z => this z.symm
      · have := hp j i hj hlt q; rw [e0] at this; exact this
  · rw [List.pairwise_iff_getElem]
    intro x y hx hy hxy
    rw [List.length_set] at hx hy
    have key : ∀ z (hz : z < (fs.set i (k, v)).length) (hz' : z < fs.length), sl Z (fs.set i (k, v))[z] = sl Z fs[z] := fun z hz hz' => by
      by_cases e : i = z
      · subst e; rw [List.getElem_set_self, hk]; rfl
      · rw [List.getElem_set_ne e]
    rw [key x _ hx, key y _ hy]
    exact hp x y hx hy hxy
theorem IsA.put {ty : FieldType} {vs : List Value} {j : Nat} (H : IsA Z n0 h a ty vs) (hv : fits ty v = true) (W : Wr h h' a j v) : IsA Z n0 h' a ty (vs.set j v) := by
  obtain ⟨c, A, rfl, hl, hf, ho⟩ := H
  refine ⟨_, A.same W, by simp [Cell.setSlot], by simpa using hl, fun w hw => ?_, fun g => ⟨(ho g).1, fun N q => ((ho g).2 N q).wr W⟩⟩
  rcases List.mem_or_eq_of_mem_set hw with q | q
  · exact hf w q
  · subst q; exact hv
end HpFacts
abbrev EndsW (s : State) (below : List Frame) (Z : State) (n0 : Nat) (P : Option Value → Mem → Prop) (kc ks : Nat) (t : Nat) (s₂ : State) (o : Outcome) : Prop :=
  s₂.status = .running ∧ Ended s₂ below o ∧ ∃ v L, o = .returned v ∧ (Fr n0 L ∧ ∃ μ', Hp Z n0 μ' s₂.heap ∧ P v μ') ∧ (t ≤ s₂.heap.size ∧ ReturnedEndW s o s₂ L kc ks)
theorem up {s : State} {below : List Frame} {Z : State} {n0 : Nat} {P : Option Value → Mem → Prop} {kc ks t t' : Nat} {s₂ : State} {o : Outcome} (h : t ≤ t') (w : EndsW s below Z n0 P kc ks t' s₂ o) : EndsW s below Z n0 P kc ks t s₂ o := by
  obtain ⟨a, b, v, L, d, e, f, g⟩ := w
  exact ⟨a, b, v, L, d, e, Nat.le_trans h f, g⟩
theorem upS {s : State} {below : List Frame} {Z : State} {n0 : Nat} {P : Option Value → Mem → Prop} {kc ks t t' n' : Nat} {s₂ : State} {o : Outcome} {vm : Vm} (hS : s.Since vm n') (hn : n' ≤ t') (h : t ≤ t') (w : EndsW (s.setVm vm) below Z n0 P kc ks t' s₂ o) : EndsW s below Z n0 P kc ks t s₂ o := by
  obtain ⟨a, b, v, L, d, e, f, g1, g2, g3, g4⟩ := w
  have q := hS.trans (⟨g2, g3⟩ : (s.setVm vm).Since s₂.vm s₂.heap.size) (Nat.le_trans hn f)
  exact ⟨a, b, v, L, d, e, Nat.le_trans h f, g1, q.1, q.2, g4.setVm s.vm⟩
/-- what is left to show from the frame g on -/
def Go (p : Program) (l : Launch) (e : Env) (R : Room) (s : State) (m : MethodId) (args : Array Value) (below : List Frame) (meth : Method) (c : Code) (Z : State) (n0 : Nat) (P : Option Value → Mem → Prop) (kc ks : Nat) (μ : Mem) (k n : Nat) (g : JFrame) : Prop :=
  ∀ T locs, Stand p l e R s m args below meth c T locs k n → Fr n0 locs → Hp Z n0 μ T.heap →
    ∃ s₂ o, Steps p.tables e below (T.setTop g) s₂ ∧ EndsW s below Z n0 P kc ks T.heap.size s₂ o
/-- what stands fast while a body is walked -/
def Ctx (p : Program) (s : State) (m : MethodId) (meth : Method) (c : Code) (Z : State) (own nm : String) (B : ByteArray) (ml : Nat) (rt : Option FieldType) : Prop :=
  p.tables.exec = Jvm.exec ∧ c.code = B ∧ c.maxLocals = ml ∧ Z.Warmed39 s.vm ∧ s.vm.findClass own = some m.cls ∧ meth.sig.returnType = rt ∧ meth.locks = false ∧ meth.name = nm
/-- a body's contract -/
def Con (l : Launch) (Z : State) (n0 : Nat) (y : MethodName) (B : ByteArray) (ml : Nat) (rt : Option FieldType) (ws : List Cond) (rm : Room) (kc ks : Nat) (as : Array Value) (μ : Mem) (P : Option Value → Mem → Prop) : Prop :=
  ∀ h0, Hp Z n0 μ h0 → MetFree l y (head1 (Cond.code y B ml rt :: ws) rm) (fun a U => a = as ∧ Z.Warmed39 U.vm ∧ U.heap = h0) (fun _ _ _ _ _ => True)
    (fun _ U o U' => ∃ v L, o = .returned v ∧ (Fr n0 L ∧ ∃ μ', Hp Z n0 μ' U'.heap ∧ P v μ') ∧ ReturnedEndW U o U' L kc ks)
section Rules
variable {p : Program} {l : Launch} {e : Env} {R : Room} {s : State} {m : MethodId} {args : Array Value} {below : List Frame} {meth : Method} {c : Code} {Z : State} {a0 : Array Value} {n0 : Nat} {P : Option Value → Mem → Prop} {kc ks : Nat} {μ : Mem} {k n : Nat}
  {own nm : String} {B : ByteArray} {ml : Nat} {rt : Option FieldType} {pc q : Nat} {L L' : Array Slot} {st : List Value} {y : MethodName} {ws : List Cond} {rm : Room} {as : Array Value}
/-- what the tables book of String constants stays booked -/
def Pers (s s' : State) : Prop := ∀ own i a, Lit s own i a → Lit s' own i a
theorem Pers.of {s : State} {vm : Vm} {n' : Nat} (hS : s.Since vm n') : Pers s (s.setVm vm) := fun _ _ _ L => State.resolvedAt?_warmed39 hS.1 L
theorem Ctx.to (C : Ctx p s m meth c Z own nm B ml rt) {vm : Vm} {n' : Nat} (hS : s.Since vm n') : Ctx p (s.setVm vm) m meth c Z own nm B ml rt :=
  ⟨C.1, C.2.1, C.2.2.1, State.Warmed39.trans C.2.2.2.1 hS.1, (hS.1.alike.findClass _ _).trans C.2.2.2.2.1, C.2.2.2.2.2⟩
theorem Con.intro {L0 : Array Slot} (hx : plainFor y = true) (hef : ∀ m, entryFrame m as ml = mkF m 0 L0 [])
    (body : ∀ (p : Program) (e : Env) (s : State) (m : MethodId) (below : List Frame) (meth : Method) (c : Code), Ctx p s m meth c Z y.cls y.name B ml rt → Go p l e rm s m as below meth c Z n0 P kc ks μ 0 0 (mkF m 0 L0 [])) : Con l Z n0 y B ml rt ws rm kc ks as μ P := by
  intro h0 H0
  refine MetFree.of_bodySF hx hisR ?_
  intro p e s m args below meth c s₁ Bd hml hP hK
  obtain ⟨rfl, hZ, hh⟩ := hP
  have X0 : Stand p l e rm s m args below meth c s₁ [] 0 0 := Stand.of_body Bd
  have e0 : s₁.heap = h0 := by rw [← hh, Bd.state]; rfl
  obtain ⟨s2, o, g1, g2, g3, g4⟩ := body p e s m below meth c ⟨Bd.exec, Bd.bytes, hml, hZ, findClass_of_methodNamed Bd.named, Bd.returns, Bd.notSynchronized, (name_of_methodNamed Bd.named Bd.method).1⟩ s₁ [] X0 (Fr.nil n0) (by rw [e0]; exact H0)
  obtain ⟨v, L, q1, q2, q3⟩ := g4
  exact ⟨s2, o, castTop (hef m) g1, g2, g3, v, L, q1, q2, q3.2⟩
theorem Go.pure {g g' : JFrame} (K : Go p l e R s m args below meth c Z n0 P kc ks μ k n g') (st : ∀ T, At T m c below → ∀ target, Steps p.tables e below (T.setTop g') target → Steps p.tables e below (T.setTop g) target) : Go p l e R s m args below meth c Z n0 P kc ks μ k n g := fun T locs X F H => by
  obtain ⟨s2, o, h1, h2⟩ := K T locs X F H
  exact ⟨s2, o, st T X.here _ h1, h2⟩
theorem Go.stand {g g' : JFrame} (K : Go p l e R s m args below meth c Z n0 P kc ks μ k n g') (st : ∀ T locs, Stand p l e R s m args below meth c T locs k n → Hp Z n0 μ T.heap → ∃ T', Stand p l e R s m args below meth c T' locs k n ∧ T'.heap = T.heap ∧ ∀ target, Steps p.tables e below (T'.setTop g') target → Steps p.tables e below (T.setTop g) target) : Go p l e R s m args below meth c Z n0 P kc ks μ k n g := fun T locs X F H => by
  obtain ⟨T', X', e', h⟩ := st T locs X H
  obtain ⟨s2, o, h1, h2⟩ := K T' locs X' F (by rw [e']; exact H)
  exact ⟨s2, o, h _ h1, up (Nat.le_of_eq (by rw [e'])) h2⟩
theorem iadd (C : Ctx p s m meth c Z own nm B ml rt) {x y : Int32} (hd : decode B pc = .ok (.iadd, 1)) (hq : pc + 1 = q) (k' : ∀ z : Int32, z = x + y → Go p l e R s m args below meth c Z n0 P kc ks μ k n (mkF m q L (.int z :: st))) : Go p l e R s m args below meth c Z n0 P kc ks μ k n (mkF m pc L (.int y :: .int x :: st)) := by
  subst hq
  exact Go.pure (k' _ rfl) fun T h t hr => XS.iadd h C.1 rfl (hb C.2.1 hd) rfl hr
theorem isub (C : Ctx p s m meth c Z own nm B ml rt) {x y : Int32} (hd : decode B pc = .ok (.isub, 1)) (hq : pc + 1 = q) (k' : ∀ z : Int32, z = x - y → Go p l e R s m args below meth c Z n0 P kc ks μ k n (mkF m q L (.int z :: st))) : Go p l e R s m args below meth c Z n0 P kc ks μ k n (mkF m pc L (.int y :: .int x :: st)) := by
  subst hq
  exact Go.pure (k' _ rfl) fun T h t hr => XS.isub h C.1 rfl (hb C.2.1 hd) rfl hr
theorem imul (C : Ctx p s m meth c Z own nm B ml rt) {x y : Int32} (hd : decode B pc = .ok (.imul, 1)) (hq : pc + 1 = q) (k' : ∀ z : Int32, z = x * y → Go p l e R s m args below meth c Z n0 P kc ks μ k n (mkF m q L (.int z :: st))) : Go p l e R s m args below meth c Z n0 P kc ks μ k n (mkF m pc L (.int y :: .int x :: st)) := by
  subst hq
  exact Go.pure (k' _ rfl) fun T h t hr => XS.imul h C.1 rfl (hb C.2.1 hd) rfl hr
theorem iand (C : Ctx p s m meth c Z own nm B ml rt) {x y : Int32} (hd : decode B pc = .ok (.iand, 1)) (hq : pc + 1 = q) (k' : ∀ z : Int32, z = x &&& y → Go p l e R s m args below meth c Z n0 P kc ks μ k n (mkF m q L (.int z :: st))) : Go p l e R s m args below meth c Z n0 P kc ks μ k n (mkF m pc L (.int y :: .int x :: st)) := by
  subst hq
  exact Go.pure (k' _ rfl) fun T h t hr => XS.iand h C.1 rfl (hb C.2.1 hd) rfl hr
theorem ior (C : Ctx p s m meth c Z own nm B ml rt) {x y : Int32} (hd : decode B pc = .ok (.ior, 1)) (hq : pc + 1 = q) (k' : ∀ z : Int32, z = x ||| y → Go p l e R s m args below meth c Z n0 P kc ks μ k n (mkF m q L (.int z :: st))) : Go p l e R s m args below meth c Z n0 P kc ks μ k n (mkF m pc L (.int y :: .int x :: st)) := by
  subst hq
  exact Go.pure (k' _ rfl) fun T h t hr => XS.ior h C.1 rfl (hb C.2.1 hd) rfl hr
theorem ixor (C : Ctx p s m meth c Z own nm B ml rt) {x y : Int32} (hd : decode B pc = .ok (.ixor, 1)) (hq : pc + 1 = q) (k' : ∀ z : Int32, z = x ^^^ y → Go p l e R s m args below meth c Z n0 P kc ks μ k n (mkF m q L (.int z :: st))) : Go p l e R s m args below meth c Z n0 P kc ks μ k n (mkF m pc L (.int y :: .int x :: st)) := by
  subst hq
  exact Go.pure (k' _ rfl) fun T h t hr => XS.ixor h C.1 rfl (hb C.2.1 hd) rfl hr
theorem ladd (C : Ctx p s m meth c Z own nm B ml rt) {x y : Int64} (hd : decode B pc = .ok (.ladd, 1)) (hq : pc + 1 = q) (k' : ∀ z : Int64, z = x + y → Go p l e R s m args below meth c Z n0 P kc ks μ k n (mkF m q L (.long z :: st))) : Go p l e R s m args below meth c Z n0 P kc ks μ k n (mkF m pc L (.long y :: .long x :: st)) := by
  subst hq
  exact Go.pure (k' _ rfl) fun T h t hr => XS.ladd h C.1 rfl (hb C.2.1 hd) rfl hr
theorem lsub (C : Ctx p s m meth c Z own nm B ml rt) {x y : Int64} (hd : decode B pc = .ok (.lsub, 1)) (hq : pc + 1 = q) (k' : ∀ z : Int64, z = x - y → Go p l e R s m args below meth c Z n0 P kc ks μ k n (mkF m q L (.long z :: st))) : Go p l e R s m args below meth c Z n0 P kc ks μ k n (mkF m pc L (.long y :: .long x :: st)) := by
  subst hq
  exact Go.pure (k' _ rfl) fun T h t hr => XS.lsub h C.1 rfl (hb C.2.1 hd) rfl hr
theorem lmul (C : Ctx p s m meth c Z own nm B ml rt) {x y : Int64} (hd : decode B pc = .ok (.lmul, 1)) (hq : pc + 1 = q) (k' : ∀ z : Int64, z = x * y → Go p l e R s m args below meth c Z n0 P kc ks μ k n (mkF m q L (.long z :: st))) : Go p l e R s m args below meth c Z n0 P kc ks μ k n (mkF m pc L (.long y :: .long x :: st)) := by
  subst hq
  exact Go.pure (k' _ rfl) fun T h t hr => XS.lmul h C.1 rfl (hb C.2.1 hd) rfl hr
theorem land (C : Ctx p s m meth c Z own nm B ml rt) {x y : Int64} (hd : decode B pc = .ok (.land, 1)) (hq : pc + 1 = q) (k' : ∀ z : Int64, z = x &&& y → Go p l e R s m args below meth c Z n0 P kc ks μ k n (mkF m q L (.long z :: st))) : Go p l e R s m args below meth c Z n0 P kc ks μ k n (mkF m pc L (.long y :: .long x :: st)) := by
  subst hq
  exact Go.pure (k' _ rfl) fun T h t hr => XS.land h C.1 rfl (hb C.2.1 hd) rfl hr
theorem lor (C : Ctx p s m meth c Z own nm B ml rt) {x y : Int64} (hd : decode B pc = .ok (.lor, 1)) (hq : pc + 1 = q) (k' : ∀ z : Int64, z = x ||| y → Go p l e R s m args below meth c Z n0 P kc ks μ k n (mkF m q L (.long z :: st))) : Go p l e R s m args below meth c Z n0 P kc ks μ k n (mkF m pc L (.long y :: .long x :: st)) := by
  subst hq
  exact Go.pure (k' _ rfl) fun T h t hr => XS.lor h C.1 rfl (hb C.2.1 hd) rfl hr
theorem lxor (C : Ctx p s m meth c Z own nm B ml rt) {x y : Int64} (hd : decode B pc = .ok (.lxor, 1)) (hq : pc + 1 = q) (k' : ∀ z : Int64, z = x ^^^ y → Go p l e R s m args below meth c Z n0 P kc ks μ k n (mkF m q L (.long z :: st))) : Go p l e R s m args below meth c Z n0 P kc ks μ k n (mkF m pc L (.long y :: .long x :: st)) := by
  subst hq
  exact Go.pure (k' _ rfl) fun T h t hr => XS.lxor h C.1 rfl (hb C.2.1 hd) rfl hr
theorem ishl (C : Ctx p s m meth c Z own nm B ml rt) {x y : Int32} (hd : decode B pc = .ok (.ishl, 1)) (hq : pc + 1 = q) (k' : ∀ z : Int32, z = x <<< (y &&& 31) → Go p l e R s m args below meth c Z n0 P kc ks μ k n (mkF m q L (.int z :: st))) : Go p l e R s m args below meth c Z n0 P kc ks μ k n (mkF m pc L (.int y :: .int x :: st)) := by
  subst hq
  exact Go.pure (k' _ rfl) fun T h t hr => XS.ishl h C.1 rfl (hb C.2.1 hd) rfl hr
theorem ishr (C : Ctx p s m meth c Z own nm B ml rt) {x y : Int32} (hd : decode B pc = .ok (.ishr, 1)) (hq : pc + 1 = q) (k' : ∀ z : Int32, z = x >>> (y &&& 31) → Go p l e R s m args below meth c Z n0 P kc ks μ k n (mkF m q L (.int z :: st))) : Go p l e R s m args below meth c Z n0 P kc ks μ k n (mkF m pc L (.int y :: .int x :: st)) := by
  subst hq
  exact Go.pure (k' _ rfl) fun T h t hr => XS.ishr h C.1 rfl (hb C.2.1 hd) rfl hr
theorem iushr (C : Ctx p s m meth c Z own nm B ml rt) {x y : Int32} (hd : decode B pc = .ok (.iushr, 1)) (hq : pc + 1 = q) (k' : ∀ z : Int32, z = (x.toUInt32 >>> (y &&& 31).toUInt32).toInt32 → Go p l e R s m args below meth c Z n0 P kc ks μ k n (mkF m q L (.int z :: st))) : Go p l e R s m args below meth c Z n0 P kc ks μ k n (mkF m pc L (.int y :: .int x :: st)) := by
  subst hq
  exact Go.pure (k' _ rfl) fun T h t hr => XS.iushr h C.1 rfl (hb C.2.1 hd) rfl hr
theorem lshl (C : Ctx p s m meth c Z own nm B ml rt) {x : Int64} {y : Int32} (hd : decode B pc = .ok (.lshl, 1)) (hq : pc + 1 = q) (k' : ∀ z : Int64, z = x <<< (y &&& 0x3f).toInt64 → Go p l e R s m args below meth c Z n0 P kc ks μ k n (mkF m q L (.long z :: st))) : Go p l e R s m args below meth c Z n0 P kc ks μ k n (mkF m pc L (.int y :: .long x :: st)) := by
  subst hq
  exact Go.pure (k' _ rfl) fun T h t hr => XS.lshl h C.1 rfl (hb C.2.1 hd) rfl hr
theorem lshr (C : Ctx p s m meth c Z own nm B ml rt) {x : Int64} {y : Int32} (hd : decode B pc = .ok (.lshr, 1)) (hq : pc + 1 = q) (k' : ∀ z : Int64, z = x >>> (y &&& 0x3f).toInt64 → Go p l e R s m args below meth c Z n0 P kc ks μ k n (mkF m q L (.long z :: st))) : Go p l e R s m args below meth c Z n0 P kc ks μ k n (mkF m pc L (.int y :: .long x :: st)) := by
  subst hq
  exact Go.pure (k' _ rfl) fun T h t hr => XS.lshr h C.1 rfl (hb C.2.1 hd) rfl hr
theorem lushr (C : Ctx p s m meth c Z own nm B ml rt) {x : Int64} {y : Int32} (hd : decode B pc = .ok (.lushr, 1)) (hq : pc + 1 = q) (k' : ∀ z : Int64, z = (x.toUInt64 >>> (y &&& 0x3f).toInt64.toUInt64).toInt64 → Go p l e R s m args below meth c Z n0 P kc ks μ k n (mkF m q L (.long z :: st))) : Go p l e R s m args below meth c Z n0 P kc ks μ k n (mkF m pc L (.int y :: .long x :: st)) := by
  subst hq
  exact Go.pure (k' _ rfl) fun T h t hr => XS.lushr h C.1 rfl (hb C.2.1 hd) rfl hr
theorem idiv (C : Ctx p s m meth c Z own nm B ml rt) {x y : Int32} (hd : decode B pc = .ok (.idiv, 1)) (hq : pc + 1 = q) (hy : y ≠ 0) (k' : ∀ z : Int32, z = x / y → Go p l e R s m args below meth c Z n0 P kc ks μ k n (mkF m q L (.int z :: st))) : Go p l e R s m args below meth c Z n0 P kc ks μ k n (mkF m pc L (.int y :: .int x :: st)) := by
  subst hq
  exact Go.pure (k' _ rfl) fun T h t hr => XS.idiv h C.1 rfl (hb C.2.1 hd) rfl hy hr
theorem irem (C : Ctx p s m meth c Z own nm B ml rt) {x y : Int32} (hd : decode B pc = .ok (.irem, 1)) (hq : pc + 1 = q) (hy : y ≠ 0) (k' : ∀ z : Int32, z = x % y → Go p l e R s m args below meth c Z n0 P kc ks μ k n (mkF m q L (.int z :: st))) : Go p l e R s m args below meth c Z n0 P kc ks μ k n (mkF m pc L (.int y :: .int x :: st)) := by
  subst hq
  exact Go.pure (k' _ rfl) fun T h t hr => XS.irem h C.1 rfl (hb C.2.1 hd) rfl hy (by rw [irem_eq_mod]; exact hr)
theorem ldiv (C : Ctx p s m meth c Z own nm B ml rt) {x y : Int64} (hd : decode B pc = .ok (.ldiv, 1)) (hq : pc + 1 = q) (hy : y ≠ 0) (k' : ∀ z : Int64, z = x / y → Go p l e R s m args below meth c Z n0 P kc ks μ k n (mkF m q L (.long z :: st))) : Go p l e R s m args below meth c Z n0 P kc ks μ k n (mkF m pc L (.long y :: .long x :: st)) := by
  subst hq
  exact Go.pure (k' _ rfl) fun T h t hr => XS.ldiv h C.1 rfl (hb C.2.1 hd) rfl hy hr
theorem lrem (C : Ctx p s m meth c Z own nm B ml rt) {x y : Int64} (hd : decode B pc = .ok (.lrem, 1)) (hq : pc + 1 = q) (hy : y ≠ 0) (k' : ∀ z : Int64, z = x - (x / y) * y → Go p l e R s m args below meth c Z n0 P kc ks μ k n (mkF m q L (.long z :: st))) : Go p l e R s m args below meth c Z n0 P kc ks μ k n (mkF m pc L (.long y :: .long x :: st)) := by
  subst hq
  exact Go.pure (k' _ rfl) fun T h t hr => XS.lrem h C.1 rfl (hb C.2.1 hd) rfl hy hr
theorem ineg (C : Ctx p s m meth c Z own nm B ml rt) {x : Int32} (hd : decode B pc = .ok (.ineg, 1)) (hq : pc + 1 = q) (k' : ∀ z : Int32, z = -x → Go p l e R s m args below meth c Z n0 P kc ks μ k n (mkF m q L (.int z :: st))) : Go p l e R s m args below meth c Z n0 P kc ks μ k n (mkF m pc L (.int x :: st)) := by
  subst hq
  exact Go.pure (k' _ rfl) fun T h t hr => XS.ineg h C.1 rfl (hb C.2.1 hd) rfl hr
theorem lneg (C : Ctx p s m meth c Z own nm B ml rt) {x : Int64} (hd : decode B pc = .ok (.lneg, 1)) (hq : pc + 1 = q) (k' : ∀ z : Int64, z = -x → Go p l e R s m args below meth c Z n0 P kc ks μ k n (mkF m q L (.long z :: st))) : Go p l e R s m args below meth c Z n0 P kc ks μ k n (mkF m pc L (.long x :: st)) := by
  subst hq
  exact Go.pure (k' _ rfl) fun T h t hr => XS.lneg h C.1 rfl (hb C.2.1 hd) rfl hr
theorem i2l (C : Ctx p s m meth c Z own nm B ml rt) {x : Int32} (hd : decode B pc = .ok (.i2l, 1)) (hq : pc + 1 = q) (k' : ∀ z : Int64, z = x.toInt64 → Go p l e R s m args below meth c Z n0 P kc ks μ k n (mkF m q L (.long z :: st))) : Go p l e R s m args below meth c Z n0 P kc ks μ k n (mkF m pc L (.int x :: st)) := by
  subst hq
  exact Go.pure (k' _ rfl) fun T h t hr => XS.i2l h C.1 rfl (hb C.2.1 hd) rfl hr
theorem l2i (C : Ctx p s m meth c Z own nm B ml rt) {x : Int64} (hd : decode B pc = .ok (.l2i, 1)) (hq : pc + 1 = q) (k' : ∀ z : Int32, z = x.toInt32 → Go p l e R s m args below meth c Z n0 P kc ks μ k n (mkF m q L (.int z :: st))) : Go p l e R s m args below meth c Z n0 P kc ks μ k n (mkF m pc L (.long x :: st)) := by
  subst hq
  exact Go.pure (k' _ rfl) fun T h t hr => XS.l2i h C.1 rfl (hb C.2.1 hd) rfl hr
theorem i2b (C : Ctx p s m meth c Z own nm B ml rt) {x : Int32} (hd : decode B pc = .ok (.i2b, 1)) (hq : pc + 1 = q) (k' : ∀ z : Int32, z = x.toInt8.toInt32 → Go p l e R s m args below meth c Z n0 P kc ks μ k n (mkF m q L (.int z :: st))) : Go p l e R s m args below meth c Z n0 P kc ks μ k n (mkF m pc L (.int x :: st)) := by
  subst hq
  exact Go.pure (k' _ rfl) fun T h t hr => XS.i2b h C.1 rfl (hb C.2.1 hd) rfl hr
theorem i2s (C : Ctx p s m meth c Z own nm B ml rt) {x : Int32} (hd : decode B pc = .ok (.i2s, 1)) (hq : pc + 1 = q) (k' : ∀ z : Int32, z = x.toInt16.toInt32 → Go p l e R s m args below meth c Z n0 P kc ks μ k n (mkF m q L (.int z :: st))) : Go p l e R s m args below meth c Z n0 P kc ks μ k n (mkF m pc L (.int x :: st)) := by
  subst hq
  exact Go.pure (k' _ rfl) fun T h t hr => XS.i2s h C.1 rfl (hb C.2.1 hd) rfl hr
theorem i2c (C : Ctx p s m meth c Z own nm B ml rt) {x : Int32} (hd : decode B pc = .ok (.i2c, 1)) (hq : pc + 1 = q) (k' : ∀ z : Int32, z = x.toUInt32.toUInt16.toUInt32.toInt32 → Go p l e R s m args below meth c Z n0 P kc ks μ k n (mkF m q L (.int z :: st))) : Go p l e R s m args below meth c Z n0 P kc ks μ k n (mkF m pc L (.int x :: st)) := by
  subst hq
  exact Go.pure (k' _ rfl) fun T h t hr => XS.i2c h C.1 rfl (hb C.2.1 hd) rfl hr
theorem iloadN (C : Ctx p s m meth c Z own nm B ml rt) {i : Fin 4} {v : Int32} (hd : decode B pc = .ok (.iload_n i, 1)) (hq : pc + 1 = q) (hl : L[i.val]? = some (.val (.int v))) (k' : Go p l e R s m args below meth c Z n0 P kc ks μ k n (mkF m q L (.int v :: st))) : Go p l e R s m args below meth c Z n0 P kc ks μ k n (mkF m pc L st) := by
  subst hq
  exact Go.pure k' fun T h t hr => XS.iloadN h C.1 rfl (hb C.2.1 hd) hl hr
theorem iload (C : Ctx p s m meth c Z own nm B ml rt) {i : Nat} {v : Int32} (hd : decode B pc = .ok (.iload i, 2)) (hq : pc + 2 = q) (hl : L[i]? = some (.val (.int v))) (k' : Go p l e R s m args below meth c Z n0 P kc ks μ k n (mkF m q L (.int v :: st))) : Go p l e R s m args below meth c Z n0 P kc ks μ k n (mkF m pc L st) := by
  subst hq
  exact Go.pure k' fun T h t hr => XS.iload h C.1 rfl (hb C.2.1 hd) hl hr
theorem istoreN (C : Ctx p s m meth c Z own nm B ml rt) {i : Fin 4} {v : Int32} (hd : decode B pc = .ok (.istore_n i, 1)) (hq : pc + 1 = q) (hl : storeLocals L i.val (.int v) = some L') (k' : Go p l e R s m args below meth c Z n0 P kc ks μ k n (mkF m q L' st)) : Go p l e R s m args below meth c Z n0 P kc ks μ k n (mkF m pc L (.int v :: st)) := by
  subst hq
  exact Go.pure k' fun T h t hr => XS.istoreN h C.1 rfl (hb C.2.1 hd) rfl hl hr
theorem istore (C : Ctx p s m meth c Z own nm B ml rt) {i : Nat} {v : Int32} (hd : decode B pc = .ok (.istore i, 2)) (hq : pc + 2 = q) (hl : storeLocals L i (.int v) = some L') (k' : Go p l e R s m args below meth c Z n0 P kc ks μ k n (mkF m q L' st)) : Go p l e R s m args below meth c Z n0 P kc ks μ k n (mkF m pc L (.int v :: st)) := by
  subst hq
  exact Go.pure k' fun T h t hr => XS.istore h C.1 rfl (hb C.2.1 hd) rfl hl hr
theorem lloadN (C : Ctx p s m meth c Z own nm B ml rt) {i : Fin 4} {v : Int64} (hd : decode B pc = .ok (.lload_n i, 1)) (hq : pc + 1 = q) (hl : L[i.val]? = some (.val (.long v))) (k' : Go p l e R s m args below meth c Z n0 P kc ks μ k n (mkF m q L (.long v :: st))) : Go p l e R s m args below meth c Z n0 P kc ks μ k n (mkF m pc L st) := by
  subst hq
  exact Go.pure k' fun T h t hr => XS.lloadN h C.1 rfl (hb C.2.1 hd) hl hr
theorem lload (C : Ctx p s m meth c Z own nm B ml rt) {i : Nat} {v : Int64} (hd : decode B pc = .ok (.lload i, 2)) (hq : pc + 2 = q) (hl : L[i]? = some (.val (.long v))) (k' : Go p l e R s m args below meth c Z n0 P kc ks μ k n (mkF m q L (.long v :: st))) : Go p l e R s m args below meth c Z n0 P kc ks μ k n (mkF m pc L st) := by
  subst hq
  exact Go.pure k' fun T h t hr => XS.lload h C.1 rfl (hb C.2.1 hd) hl hr
theorem lstoreN (C : Ctx p s m meth c Z own nm B ml rt) {i : Fin 4} {v : Int64} (hd : decode B pc = .ok (.lstore_n i, 1)) (hq : pc + 1 = q) (hl : storeLocals L i.val (.long v) = some L') (k' : Go p l e R s m args below meth c Z n0 P kc ks μ k n (mkF m q L' st)) : Go p l e R s m args below meth c Z n0 P kc ks μ k n (mkF m pc L (.long v :: st)) := by
  subst hq
  exact Go.pure k' fun T h t hr => XS.lstoreN h C.1 rfl (hb C.2.1 hd) rfl hl hr
theorem lstore (C : Ctx p s m meth c Z own nm B ml rt) {i : Nat} {v : Int64} (hd : decode B pc = .ok (.lstore i, 2)) (hq : pc + 2 = q) (hl : storeLocals L i (.long v) = some L') (k' : Go p l e R s m args below meth c Z n0 P kc ks μ k n (mkF m q L' st)) : Go p l e R s m args below meth c Z n0 P kc ks μ k n (mkF m pc L (.long v :: st)) := by
  subst hq
  exact Go.pure k' fun T h t hr => XS.lstore h C.1 rfl (hb C.2.1 hd) rfl hl hr
theorem aloadN (C : Ctx p s m meth c Z own nm B ml rt) {i : Fin 4} {v : Value} (hd : decode B pc = .ok (.aload_n i, 1)) (hq : pc + 1 = q) (hl : L[i.val]? = some (.val v)) (hv : v.isRef = true) (k' : Go p l e R s m args below meth c Z n0 P kc ks μ k n (mkF m q L (v :: st))) : Go p l e R s m args below meth c Z n0 P kc ks μ k n (mkF m pc L st) := by
  subst hq
  exact Go.pure k' fun T h t hr => XS.aloadN h C.1 rfl (hb C.2.1 hd) hl hv hr
theorem aload (C : Ctx p s m meth c Z own nm B ml rt) {i : Nat} {v : Value} (hd : decode B pc = .ok (.aload i, 2)) (hq : pc + 2 = q) (hl : L[i]? = some (.val v)) (hv : v.isRef = true) (k' : Go p l e R s m args below meth c Z n0 P kc ks μ k n (mkF m q L (v :: st))) : Go p l e R s m args below meth c Z n0 P kc ks μ k n (mkF m pc L st) := by
  subst hq
  exact Go.pure k' fun T h t hr => XS.aload h C.1 rfl (hb C.2.1 hd) hl hv hr
theorem astoreN (C : Ctx p s m meth c Z own nm B ml rt) {i : Fin 4} {v : Value} (hd : decode B pc = .ok (.astore_n i, 1)) (hq : pc + 1 = q) (hl : storeLocals L i.val v = some L') (hv : v.isRef = true) (k' : Go p l e R s m args below meth c Z n0 P kc ks μ k n (mkF m q L' st)) : Go p l e R s m args below meth c Z n0 P kc ks μ k n (mkF m pc L (v :: st)) := by
  subst hq
  exact Go.pure k' fun T h t hr => XS.astoreN h C.1 rfl (hb C.2.1 hd) rfl hv hl hr
theorem astore (C : Ctx p s m meth c Z own nm B ml rt) {i : Nat} {v : Value} (hd : decode B pc = .ok (.astore i, 2)) (hq : pc + 2 = q) (hl : storeLocals L i v = some L') (hv : v.isRef = true) (k' : Go p l e R s m args below meth c Z n0 P kc ks μ k n (mkF m q L' st)) : Go p l e R s m args below meth c Z n0 P kc ks μ k n (mkF m pc L (v :: st)) := by
  subst hq
  exact Go.pure k' fun T h t hr => XS.astore h C.1 rfl (hb C.2.1 hd) rfl hv hl hr
theorem iconst (C : Ctx p s m meth c Z own nm B ml rt) {i : Int} {z : Int32} (hd : decode B pc = .ok (.iconst i, 1)) (hq : pc + 1 = q) (hz : Int32.ofInt i = z) (k' : Go p l e R s m args below meth c Z n0 P kc ks μ k n (mkF m q L (.int z :: st))) : Go p l e R s m args below meth c Z n0 P kc ks μ k n (mkF m pc L st) := by
  subst hq
  exact Go.pure k' fun T h t hr => XS.iconst h C.1 rfl (hb C.2.1 hd) (by rw [hz]; exact hr)
theorem bipush (C : Ctx p s m meth c Z own nm B ml rt) {i : Int} {z : Int32} (hd : decode B pc = .ok (.bipush i, 2)) (hq : pc + 2 = q) (hz : (Int8.ofInt i).toInt32 = z) (k' : Go p l e R s m args below meth c Z n0 P kc ks μ k n (mkF m q L (.int z :: st))) : Go p l e R s m args below meth c Z n0 P kc ks μ k n (mkF m pc L st) := by
  subst hq
  exact Go.pure k' fun T h t hr => XS.bipush h C.1 rfl (hb C.2.1 hd) (by rw [hz]; exact hr)
theorem sipush (C : Ctx p s m meth c Z own nm B ml rt) {i : Int} {z : Int32} (hd : decode B pc = .ok (.sipush i, 3)) (hq : pc + 3 = q) (hz : (Int16.ofInt i).toInt32 = z) (k' : Go p l e R s m args below meth c Z n0 P kc ks μ k n (mkF m q L (.int z :: st))) : Go p l e R s m args below meth c Z n0 P kc ks μ k n (mkF m pc L st) := by
  subst hq
  exact Go.pure k' fun T h t hr => XS.sipush h C.1 rfl (hb C.2.1 hd) (by rw [hz]; exact hr)
theorem lconst (C : Ctx p s m meth c Z own nm B ml rt) {i : Fin 2} {z : Int64} (hd : decode B pc = .ok (.lconst i, 1)) (hq : pc + 1 = q) (hz : Int64.ofNat i = z) (k' : Go p l e R s m args below meth c Z n0 P kc ks μ k n (mkF m q L (.long z :: st))) : Go p l e R s m args below meth c Z n0 P kc ks μ k n (mkF m pc L st) := by
  subst hq
  exact Go.pure k' fun T h t hr => XS.lconst h C.1 rfl (hb C.2.1 hd) (by rw [hz]; exact hr)
theorem aconstNull (C : Ctx p s m meth c Z own nm B ml rt)  (hd : decode B pc = .ok (.aconst_null, 1)) (hq : pc + 1 = q) (k' : Go p l e R s m args below meth c Z n0 P kc ks μ k n (mkF m q L (.null :: st))) : Go p l e R s m args below meth c Z n0 P kc ks μ k n (mkF m pc L st) := by
  subst hq
  exact Go.pure k' fun T h t hr => XS.aconstNull h C.1 rfl (hb C.2.1 hd) hr
theorem dup (C : Ctx p s m meth c Z own nm B ml rt) {v : Value} (hd : decode B pc = .ok (.dup, 1)) (hq : pc + 1 = q) (hv : v.category = 1) (k' : Go p l e R s m args below meth c Z n0 P kc ks μ k n (mkF m q L (v :: v :: st))) : Go p l e R s m args below meth c Z n0 P kc ks μ k n (mkF m pc L (v :: st)) := by
  subst hq
  exact Go.pure k' fun T h t hr => XS.dup h C.1 rfl (hb C.2.1 hd) rfl hv hr
theorem pop (C : Ctx p s m meth c Z own nm B ml rt) {v : Value} (hd : decode B pc = .ok (.pop, 1)) (hq : pc + 1 = q) (hv : v.category = 1) (k' : Go p l e R s m args below meth c Z n0 P kc ks μ k n (mkF m q L st)) : Go p l e R s m args below meth c Z n0 P kc ks μ k n (mkF m pc L (v :: st)) := by
  subst hq
  exact Go.pure k' fun T h t hr => XS.pop h C.1 rfl (hb C.2.1 hd) rfl hv hr
theorem dupX1 (C : Ctx p s m meth c Z own nm B ml rt) {v w : Value} (hd : decode B pc = .ok (.dup_x1, 1)) (hq : pc + 1 = q) (hv : v.category = 1) (hw : w.category = 1) (k' : Go p l e R s m args below meth c Z n0 P kc ks μ k n (mkF m q L (v :: w :: v :: st))) : Go p l e R s m args below meth c Z n0 P kc ks μ k n (mkF m pc L (v :: w :: st)) := by
  subst hq
  exact Go.pure k' fun T h t hr => XS.dupX1 h C.1 rfl (hb C.2.1 hd) rfl hv hw hr
theorem dup2 (C : Ctx p s m meth c Z own nm B ml rt) {v w : Value} (hd : decode B pc = .ok (.dup2, 1)) (hq : pc + 1 = q) (hv : v.category = 1) (hw : w.category = 1) (k' : Go p l e R s m args below meth c Z n0 P kc ks μ k n (mkF m q L (v :: w :: v :: w :: st))) : Go p l e R s m args below meth c Z n0 P kc ks μ k n (mkF m pc L (v :: w :: st)) := by
  subst hq
  exact Go.pure k' fun T h t hr => XT.dup2 h C.1 rfl (hb C.2.1 hd) rfl hv hw hr
theorem dup2L (C : Ctx p s m meth c Z own nm B ml rt) {x : Int64} (hd : decode B pc = .ok (.dup2, 1)) (hq : pc + 1 = q) (k' : Go p l e R s m args below meth c Z n0 P kc ks μ k n (mkF m q L (.long x :: .long x :: st))) : Go p l e R s m args below meth c Z n0 P kc ks μ k n (mkF m pc L (.long x :: st)) := by
  subst hq
  exact Go.pure k' fun T h t hr => XT.dup2L h C.1 rfl (hb C.2.1 hd) rfl hr
theorem iinc (C : Ctx p s m meth c Z own nm B ml rt) {i : Nat} {d : Int} {x z : Int32} (hd : decode B pc = .ok (.iinc i d, 3)) (hq : pc + 3 = q) (hl : L[i]? = some (.val (.int x))) (hz : x + Int32.ofInt d = z) (hl' : storeLocals L i (.int z) = some L') (k' : Go p l e R s m args below meth c Z n0 P kc ks μ k n (mkF m q L' st)) : Go p l e R s m args below meth c Z n0 P kc ks μ k n (mkF m pc L st) := by
  subst hq
  exact Go.pure k' fun T h t hr => XS.iinc h C.1 rfl (hb C.2.1 hd) hl (by rw [hz]; exact hl') hr
theorem goto (C : Ctx p s m meth c Z own nm B ml rt) {o : Int} (hd : decode B pc = .ok (.goto o, 3)) (hq : 0 ≤ (pc : Int) + o ∧ ((pc : Int) + o).toNat = q) (k' : Go p l e R s m args below meth c Z n0 P kc ks μ k n (mkF m q L st)) : Go p l e R s m args below meth c Z n0 P kc ks μ k n (mkF m pc L st) := Go.pure k' fun T h t hr => XS.goto h C.1 rfl rfl (hb C.2.1 hd) hq.1 hq.2 hr
theorem icmp_eq (C : Ctx p s m meth c Z own nm B ml rt) {x y : Int32} {o : Int} {r : Nat} (hd : decode B pc = .ok (.if_icmp .eq o, 3)) (hq : pc + 3 = q) (hr : 0 ≤ (pc : Int) + o ∧ ((pc : Int) + o).toNat = r) (ky : x = y → Go p l e R s m args below meth c Z n0 P kc ks μ k n (mkF m r L st)) (kn : ¬ x = y → Go p l e R s m args below meth c Z n0 P kc ks μ k n (mkF m q L st)) : Go p l e R s m args below meth c Z n0 P kc ks μ k n (mkF m pc L (.int y :: .int x :: st)) := by
  subst hq
  by_cases hc : x = y
  · exact Go.pure (ky hc) fun T h t k => XS.icmpYes h C.1 rfl rfl (hb C.2.1 hd) rfl (XT.ii_eq_t hc) hr.1 hr.2 k
  · exact Go.pure (kn (by first | exact hc | exact Decidable.of_not_not hc)) fun T h t k => XS.icmpNo h C.1 rfl (hb C.2.1 hd) rfl (XT.ii_eq_f (by first | exact hc | exact Decidable.of_not_not hc)) k
theorem if_eq (C : Ctx p s m meth c Z own nm B ml rt) {x : Int32} {o : Int} {r : Nat} (hd : decode B pc = .ok (.ifCond .eq o, 3)) (hq : pc + 3 = q) (hr : 0 ≤ (pc : Int) + o ∧ ((pc : Int) + o).toNat = r) (ky : x = 0 → Go p l e R s m args below meth c Z n0 P kc ks μ k n (mkF m r L st)) (kn : ¬ x = 0 → Go p l e R s m args below meth c Z n0 P kc ks μ k n (mkF m q L st)) : Go p l e R s m args below meth c Z n0 P kc ks μ k n (mkF m pc L (.int x :: st)) := by
  subst hq
  by_cases hc : x = 0
  · exact Go.pure (ky hc) fun T h t k => XS.ifYes h C.1 rfl rfl (hb C.2.1 hd) rfl (XT.i0_eq_t hc) hr.1 hr.2 k
  · exact Go.pure (kn (by first | exact hc | exact Decidable.of_not_not hc)) fun T h t k => XS.ifNo h C.1 rfl (hb C.2.1 hd) rfl (XT.i0_eq_f (by first | exact hc | exact Decidable.of_not_not hc)) k
theorem lcmp_eq (C : Ctx p s m meth c Z own nm B ml rt) {x y : Int64} {o : Int} {r pc1 : Nat} (hd0 : decode B pc = .ok (.lcmp, 1)) (h1 : pc + 1 = pc1) (hd : decode B pc1 = .ok (.ifCond .eq o, 3)) (hq : pc1 + 3 = q) (hr : 0 ≤ (pc1 : Int) + o ∧ ((pc1 : Int) + o).toNat = r) (ky : x = y → Go p l e R s m args below meth c Z n0 P kc ks μ k n (mkF m r L st)) (kn : ¬ x = y → Go p l e R s m args below meth c Z n0 P kc ks μ k n (mkF m q L st)) : Go p l e R s m args below meth c Z n0 P kc ks μ k n (mkF m pc L (.long y :: .long x :: st)) := by
  subst hq h1
  refine Go.pure (g' := mkF m (pc + 1) L (.int (XT.cmpL x y) :: st)) ?_ fun T h t k => XT.lcmp h C.1 rfl (hb C.2.1 hd0) rfl k
  by_cases hc : x = y
  · exact Go.pure (ky hc) fun T h t k => XS.ifYes h C.1 rfl rfl (hb C.2.1 hd) rfl (XT.ll_eq_t hc) hr.1 hr.2 k
  · exact Go.pure (kn (by first | exact hc | exact Decidable.of_not_not hc)) fun T h t k => XS.ifNo h C.1 rfl (hb C.2.1 hd) rfl (XT.ll_eq_f (by first | exact hc | exact Decidable.of_not_not hc)) k
theorem icmp_ne (C : Ctx p s m meth c Z own nm B ml rt) {x y : Int32} {o : Int} {r : Nat} (hd : decode B pc = .ok (.if_icmp .ne o, 3)) (hq : pc + 3 = q) (hr : 0 ≤ (pc : Int) + o ∧ ((pc : Int) + o).toNat = r) (ky : ¬ x = y → Go p l e R s m args below meth c Z n0 P kc ks μ k n (mkF m r L st)) (kn : x = y → Go p l e R s m args below meth c Z n0 P kc ks μ k n (mkF m q L st)) : Go p l e R s m args below meth c Z n0 P kc ks μ k n (mkF m pc L (.int y :: .int x :: st)) := by
  subst hq
  by_cases hc : ¬ x = y
  · exact Go.pure (ky hc) fun T h t k => XS.icmpYes h C.1 rfl rfl (hb C.2.1 hd) rfl (XT.ii_ne_t hc) hr.1 hr.2 k
  · exact Go.pure (kn (by first | exact hc | exact Decidable.of_not_not hc)) fun T h t k => XS.icmpNo h C.1 rfl (hb C.2.1 hd) rfl (XT.ii_ne_f (by first | exact hc | exact Decidable.of_not_not hc)) k
theorem if_ne (C : Ctx p s m meth c Z own nm B ml rt) {x : Int32} {o : Int} {r : Nat} (hd : decode B pc = .ok (.ifCond .ne o, 3)) (hq : pc + 3 = q) (hr : 0 ≤ (pc : Int) + o ∧ ((pc : Int) + o).toNat = r) (ky : ¬ x = 0 → Go p l e R s m args below meth c Z n0 P kc ks μ k n (mkF m r L st)) (kn : x = 0 → Go p l e R s m args below meth c Z n0 P kc ks μ k n (mkF m q L st)) : Go p l e R s m args below meth c Z n0 P kc ks μ k n (mkF m pc L (.int x :: st)) := by
  subst hq
  by_cases hc : ¬ x = 0
  · exact Go.pure (ky hc) fun T h t k => XS.ifYes h C.1 rfl rfl (hb C.2.1 hd) rfl (XT.i0_ne_t hc) hr.1 hr.2 k
  · exact Go.pure (kn (by first | exact hc | exact Decidable.of_not_not hc)) fun T h t k => XS.ifNo h C.1 rfl (hb C.2.1 hd) rfl (XT.i0_ne_f (by first | exact hc | exact Decidable.of_not_not hc)) k
theorem lcmp_ne (C : Ctx p s m meth c Z own nm B ml rt) {x y : Int64} {o : Int} {r pc1 : Nat} (hd0 : decode B pc = .ok (.lcmp, 1)) (h1 : pc + 1 = pc1) (hd : decode B pc1 = .ok (.ifCond .ne o, 3)) (hq : pc1 + 3 = q) (hr : 0 ≤ (pc1 : Int) + o ∧ ((pc1 : Int) + o).toNat = r) (ky : ¬ x = y → Go p l e R s m args below meth c Z n0 P kc ks μ k n (mkF m r L st)) (kn : x = y → Go p l e R s m args below meth c Z n0 P kc ks μ k n (mkF m q L st)) : Go p l e R s m args below meth c Z n0 P kc ks μ k n (mkF m pc L (.long y :: .long x :: st)) := by
  subst hq h1
  refine Go.pure (g' := mkF m (pc + 1) L (.int (XT.cmpL x y) :: st)) ?_ fun T h t k => XT.lcmp h C.1 rfl (hb C.2.1 hd0) rfl k
  by_cases hc : ¬ x = y
  · exact Go.pure (ky hc) fun T h t k => XS.ifYes h C.1 rfl rfl (hb C.2.1 hd) rfl (XT.ll_ne_t hc) hr.1 hr.2 k
  · exact Go.pure (kn (by first | exact hc | exact Decidable.of_not_not hc)) fun T h t k => XS.ifNo h C.1 rfl (hb C.2.1 hd) rfl (XT.ll_ne_f (by first | exact hc | exact Decidable.of_not_not hc)) k
theorem icmp_lt (C : Ctx p s m meth c Z own nm B ml rt) {x y : Int32} {o : Int} {r : Nat} (hd : decode B pc = .ok (.if_icmp .lt o, 3)) (hq : pc + 3 = q) (hr : 0 ≤ (pc : Int) + o ∧ ((pc : Int) + o).toNat = r) (ky : x < y → Go p l e R s m args below meth c Z n0 P kc ks μ k n (mkF m r L st)) (kn : ¬ x < y → Go p l e R s m args below meth c Z n0 P kc ks μ k n (mkF m q L st)) : Go p l e R s m args below meth c Z n0 P kc ks μ k n (mkF m pc L (.int y :: .int x :: st)) := by
  subst hq
  by_cases hc : x < y
  · exact Go.pure (ky hc) fun T h t k => XS.icmpYes h C.1 rfl rfl (hb C.2.1 hd) rfl (XT.ii_lt_t hc) hr.1 hr.2 k
  · exact Go.pure (kn (by first | exact hc | exact Decidable.of_not_not hc)) fun T h t k => XS.icmpNo h C.1 rfl (hb C.2.1 hd) rfl (XT.ii_lt_f (by first | exact hc | exact Decidable.of_not_not hc)) k
theorem if_lt (C : Ctx p s m meth c Z own nm B ml rt) {x : Int32} {o : Int} {r : Nat} (hd : decode B pc = .ok (.ifCond .lt o, 3)) (hq : pc + 3 = q) (hr : 0 ≤ (pc : Int) + o ∧ ((pc : Int) + o).toNat = r) (ky : x < 0 → Go p l e R s m args below meth c Z n0 P kc ks μ k n (mkF m r L st)) (kn : ¬ x < 0 → Go p l e R s m args below meth c Z n0 P kc ks μ k n (mkF m q L st)) : Go p l e R s m args below meth c Z n0 P kc ks μ k n (mkF m pc L (.int x :: st)) := by
  subst hq
  by_cases hc : x < 0
  · exact Go.pure (ky hc) fun T h t k => XS.ifYes h C.1 rfl rfl (hb C.2.1 hd) rfl (XT.i0_lt_t hc) hr.1 hr.2 k
  · exact Go.pure (kn (by first | exact hc | exact Decidable.of_not_not hc)) fun T h t k => XS.ifNo h C.1 rfl (hb C.2.1 hd) rfl (XT.i0_lt_f (by first | exact hc | exact Decidable.of_not_not hc)) k
theorem lcmp_lt (C : Ctx p s m meth c Z own nm B ml rt) {x y : Int64} {o : Int} {r pc1 : Nat} (hd0 : decode B pc = .ok (.lcmp, 1)) (h1 : pc + 1 = pc1) (hd : decode B pc1 = .ok (.ifCond .lt o, 3)) (hq : pc1 + 3 = q) (hr : 0 ≤ (pc1 : Int) + o ∧ ((pc1 : Int) + o).toNat = r) (ky : x < y → Go p l e R s m args below meth c Z n0 P kc ks μ k n (mkF m r L st)) (kn : ¬ x < y → Go p l e R s m args below meth c Z n0 P kc ks μ k n (mkF m q L st)) : Go p l e R s m args below meth c Z n0 P kc ks μ k n (mkF m pc L (.long y :: .long x :: st)) := by
  subst hq h1
  refine Go.pure (g' := mkF m (pc + 1) L (.int (XT.cmpL x y) :: st)) ?_ fun T h t k => XT.lcmp h C.1 rfl (hb C.2.1 hd0) rfl k
  by_cases hc : x < y
  · exact Go.pure (ky hc) fun T h t k => XS.ifYes h C.1 rfl rfl (hb C.2.1 hd) rfl (XT.ll_lt_t hc) hr.1 hr.2 k
  · exact Go.pure (kn (by first | exact hc | exact Decidable.of_not_not hc)) fun T h t k => XS.ifNo h C.1 rfl (hb C.2.1 hd) rfl (XT.ll_lt_f (by first | exact hc | exact Decidable.of_not_not hc)) k
theorem icmp_ge (C : Ctx p s m meth c Z own nm B ml rt) {x y : Int32} {o : Int} {r : Nat} (hd : decode B pc = .ok (.if_icmp .ge o, 3)) (hq : pc + 3 = q) (hr : 0 ≤ (pc : Int) + o ∧ ((pc : Int) + o).toNat = r) (ky : ¬ x < y → Go p l e R s m args below meth c Z n0 P kc ks μ k n (mkF m r L st)) (kn : x < y → Go p l e R s m args below meth c Z n0 P kc ks μ k n (mkF m q L st)) : Go p l e R s m args below meth c Z n0 P kc ks μ k n (mkF m pc L (.int y :: .int x :: st)) := by
  subst hq
  by_cases hc : ¬ x < y
  · exact Go.pure (ky hc) fun T h t k => XS.icmpYes h C.1 rfl rfl (hb C.2.1 hd) rfl (XT.ii_ge_t hc) hr.1 hr.2 k
  · exact Go.pure (kn (by first | exact hc | exact Decidable.of_not_not hc)) fun T h t k => XS.icmpNo h C.1 rfl (hb C.2.1 hd) rfl (XT.ii_ge_f (by first | exact hc | exact Decidable.of_not_not hc)) k
theorem if_ge (C : Ctx p s m meth c Z own nm B ml rt) {x : Int32} {o : Int} {r : Nat} (hd : decode B pc = .ok (.ifCond .ge o, 3)) (hq : pc + 3 = q) (hr : 0 ≤ (pc : Int) + o ∧ ((pc : Int) + o).toNat = r) (ky : ¬ x < 0 → Go p l e R s m args below meth c Z n0 P kc ks μ k n (mkF m r L st)) (kn : x < 0 → Go p l e R s m args below meth c Z n0 P kc ks μ k n (mkF m q L st)) : Go p l e R s m args below meth c Z n0 P kc ks μ k n (mkF m pc L (.int x :: st)) := by
  subst hq
  by_cases hc : ¬ x < 0
  · exact Go.pure (ky hc) fun T h t k => XS.ifYes h C.1 rfl rfl (hb C.2.1 hd) rfl (XT.i0_ge_t hc) hr.1 hr.2 k
  · exact Go.pure (kn (by first | exact hc | exact Decidable.of_not_not hc)) fun T h t k => XS.ifNo h C.1 rfl (hb C.2.1 hd) rfl (XT.i0_ge_f (by first | exact hc | exact Decidable.of_not_not hc)) k
theorem lcmp_ge (C : Ctx p s m meth c Z own nm B ml rt) {x y : Int64} {o : Int} {r pc1 : Nat} (hd0 : decode B pc = .ok (.lcmp, 1)) (h1 : pc + 1 = pc1) (hd : decode B pc1 = .ok (.ifCond .ge o, 3)) (hq : pc1 + 3 = q) (hr : 0 ≤ (pc1 : Int) + o ∧ ((pc1 : Int) + o).toNat = r) (ky : ¬ x < y → Go p l e R s m args below meth c Z n0 P kc ks μ k n (mkF m r L st)) (kn : x < y → Go p l e R s m args below meth c Z n0 P kc ks μ k n (mkF m q L st)) : Go p l e R s m args below meth c Z n0 P kc ks μ k n (mkF m pc L (.long y :: .long x :: st)) := by
  subst hq h1
  refine Go.pure (g' := mkF m (pc + 1) L (.int (XT.cmpL x y) :: st)) ?_ fun T h t k => XT.lcmp h C.1 rfl (hb C.2.1 hd0) rfl k
  by_cases hc : ¬ x < y
  · exact Go.pure (ky hc) fun T h t k => XS.ifYes h C.1 rfl rfl (hb C.2.1 hd) rfl (XT.ll_ge_t hc) hr.1 hr.2 k
  · exact Go.pure (kn (by first | exact hc | exact Decidable.of_not_not hc)) fun T h t k => XS.ifNo h C.1 rfl (hb C.2.1 hd) rfl (XT.ll_ge_f (by first | exact hc | exact Decidable.of_not_not hc)) k
theorem icmp_gt (C : Ctx p s m meth c Z own nm B ml rt) {x y : Int32} {o : Int} {r : Nat} (hd : decode B pc = .ok (.if_icmp .gt o, 3)) (hq : pc + 3 = q) (hr : 0 ≤ (pc : Int) + o ∧ ((pc : Int) + o).toNat = r) (ky : y < x → Go p l e R s m args below meth c Z n0 P kc ks μ k n (mkF m r L st)) (kn : ¬ y < x → Go p l e R s m args below meth c Z n0 P kc ks μ k n (mkF m q L st)) : Go p l e R s m args below meth c Z n0 P kc ks μ k n (mkF m pc L (.int y :: .int x :: st)) := by
  subst hq
  by_cases hc : y < x
  · exact Go.pure (ky hc) fun T h t k => XS.icmpYes h C.1 rfl rfl (hb C.2.1 hd) rfl (XT.ii_gt_t hc) hr.1 hr.2 k
  · exact Go.pure (kn (by first | exact hc | exact Decidable.of_not_not hc)) fun T h t k => XS.icmpNo h C.1 rfl (hb C.2.1 hd) rfl (XT.ii_gt_f (by first | exact hc | exact Decidable.of_not_not hc)) k
theorem if_gt (C : Ctx p s m meth c Z own nm B ml rt) {x : Int32} {o : Int} {r : Nat} (hd : decode B pc = .ok (.ifCond .gt o, 3)) (hq : pc + 3 = q) (hr : 0 ≤ (pc : Int) + o ∧ ((pc : Int) + o).toNat = r) (ky : 0 < x → Go p l e R s m args below meth c Z n0 P kc ks μ k n (mkF m r L st)) (kn : ¬ 0 < x → Go p l e R s m args below meth c Z n0 P kc ks μ k n (mkF m q L st)) : Go p l e R s m args below meth c Z n0 P kc ks μ k n (mkF m pc L (.int x :: st)) := by
  subst hq
  by_cases hc : 0 < x
  · exact Go.pure (ky hc) fun T h t k => XS.ifYes h C.1 rfl rfl (hb C.2.1 hd) rfl (XT.i0_gt_t hc) hr.1 hr.2 k
  · exact Go.pure (kn (by first | exact hc | exact Decidable.of_not_not hc)) fun T h t k => XS.ifNo h C.1 rfl (hb C.2.1 hd) rfl (XT.i0_gt_f (by first | exact hc | exact Decidable.of_not_not hc)) k
theorem lcmp_gt (C : Ctx p s m meth c Z own nm B ml rt) {x y : Int64} {o : Int} {r pc1 : Nat} (hd0 : decode B pc = .ok (.lcmp, 1)) (h1 : pc + 1 = pc1) (hd : decode B pc1 = .ok (.ifCond .gt o, 3)) (hq : pc1 + 3 = q) (hr : 0 ≤ (pc1 : Int) + o ∧ ((pc1 : Int) + o).toNat = r) (ky : y < x → Go p l e R s m args below meth c Z n0 P kc ks μ k n (mkF m r L st)) (kn : ¬ y < x → Go p l e R s m args below meth c Z n0 P kc ks μ k n (mkF m q L st)) : Go p l e R s m args below meth c Z n0 P kc ks μ k n (mkF m pc L (.long y :: .long x :: st)) := by
  subst hq h1
  refine Go.pure (g' := mkF m (pc + 1) L (.int (XT.cmpL x y) :: st)) ?_ fun T h t k => XT.lcmp h C.1 rfl (hb C.2.1 hd0) rfl k
  by_cases hc : y < x
  · exact Go.pure (ky hc) fun T h t k => XS.ifYes h C.1 rfl rfl (hb C.2.1 hd) rfl (XT.ll_gt_t hc) hr.1 hr.2 k
  · exact Go.pure (kn (by first | exact hc | exact Decidable.of_not_not hc)) fun T h t k => XS.ifNo h C.1 rfl (hb C.2.1 hd) rfl (XT.ll_gt_f (by first | exact hc | exact Decidable.of_not_not hc)) k
theorem icmp_le (C : Ctx p s m meth c Z own nm B ml rt) {x y : Int32} {o : Int} {r : Nat} (hd : decode B pc = .ok (.if_icmp .le o, 3)) (hq : pc + 3 = q) (hr : 0 ≤ (pc : Int) + o ∧ ((pc : Int) + o).toNat = r) (ky : ¬ y < x → Go p l e R s m args below meth c Z n0 P kc ks μ k n (mkF m r L st)) (kn : y < x → Go p l e R s m args below meth c Z n0 P kc ks μ k n (mkF m q L st)) : Go p l e R s m args below meth c Z n0 P kc ks μ k n (mkF m pc L (.int y :: .int x :: st)) := by
  subst hq
  by_cases hc : ¬ y < x
  · exact Go.pure (ky hc) fun T h t k => XS.icmpYes h C.1 rfl rfl (hb C.2.1 hd) rfl (XT.ii_le_t hc) hr.1 hr.2 k
  · exact Go.pure (kn (by first | exact hc | exact Decidable.of_not_not hc)) fun T h t k => XS.icmpNo h C.1 rfl (hb C.2.1 hd) rfl (XT.ii_le_f (by first | exact hc | exact Decidable.of_not_not hc)) k
theorem if_le (C : Ctx p s m meth c Z own nm B ml rt) {x : Int32} {o : Int} {r : Nat} (hd : decode B pc = .ok (.ifCond .le o, 3)) (hq : pc + 3 = q) (hr : 0 ≤ (pc : Int) + o ∧ ((pc : Int) + o).toNat = r) (ky : ¬ 0 < x → Go p l e R s m args below meth c Z n0 P kc ks μ k n (mkF m r L st)) (kn : 0 < x → Go p l e R s m args below meth c Z n0 P kc ks μ k n (mkF m q L st)) : Go p l e R s m args below meth c Z n0 P kc ks μ k n (mkF m pc L (.int x :: st)) := by
  subst hq
  by_cases hc : ¬ 0 < x
  · exact Go.pure (ky hc) fun T h t k => XS.ifYes h C.1 rfl rfl (hb C.2.1 hd) rfl (XT.i0_le_t hc) hr.1 hr.2 k
  · exact Go.pure (kn (by first | exact hc | exact Decidable.of_not_not hc)) fun T h t k => XS.ifNo h C.1 rfl (hb C.2.1 hd) rfl (XT.i0_le_f (by first | exact hc | exact Decidable.of_not_not hc)) k
theorem lcmp_le (C : Ctx p s m meth c Z own nm B ml rt) {x y : Int64} {o : Int} {r pc1 : Nat} (hd0 : decode B pc = .ok (.lcmp, 1)) (h1 : pc + 1 = pc1) (hd : decode B pc1 = .ok (.ifCond .le o, 3)) (hq : pc1 + 3 = q) (hr : 0 ≤ (pc1 : Int) + o ∧ ((pc1 : Int) + o).toNat = r) (ky : ¬ y < x → Go p l e R s m args below meth c Z n0 P kc ks μ k n (mkF m r L st)) (kn : y < x → Go p l e R s m args below meth c Z n0 P kc ks μ k n (mkF m q L st)) : Go p l e R s m args below meth c Z n0 P kc ks μ k n (mkF m pc L (.long y :: .long x :: st)) := by
  subst hq h1
  refine Go.pure (g' := mkF m (pc + 1) L (.int (XT.cmpL x y) :: st)) ?_ fun T h t k => XT.lcmp h C.1 rfl (hb C.2.1 hd0) rfl k
  by_cases hc : ¬ y < x
  · exact Go.pure (ky hc) fun T h t k => XS.ifYes h C.1 rfl rfl (hb C.2.1 hd) rfl (XT.ll_le_t hc) hr.1 hr.2 k
  · exact Go.pure (kn (by first | exact hc | exact Decidable.of_not_not hc)) fun T h t k => XS.ifNo h C.1 rfl (hb C.2.1 hd) rfl (XT.ll_le_f (by first | exact hc | exact Decidable.of_not_not hc)) k
theorem ifnullY (C : Ctx p s m meth c Z own nm B ml rt) {o : Int} {b : Addr} (hd : decode B pc = .ok (.ifnull o, 3)) (hq : 0 ≤ (pc : Int) + o ∧ ((pc : Int) + o).toNat = q) (k' : Go p l e R s m args below meth c Z n0 P kc ks μ k n (mkF m q L st)) : Go p l e R s m args below meth c Z n0 P kc ks μ k n (mkF m pc L (.null :: st)) := Go.pure k' fun T h t hr => XS.ifnullYes h C.1 rfl rfl (hb C.2.1 hd) rfl hq.1 hq.2 hr
theorem ifnullN (C : Ctx p s m meth c Z own nm B ml rt) {o : Int} {b : Addr} (hd : decode B pc = .ok (.ifnull o, 3)) (hq : pc + 3 = q) (k' : Go p l e R s m args below meth c Z n0 P kc ks μ k n (mkF m q L st)) : Go p l e R s m args below meth c Z n0 P kc ks μ k n (mkF m pc L ((.ref b) :: st)) := by
  subst hq
  exact Go.pure k' fun T h t hr => XS.ifnullNo h C.1 rfl (hb C.2.1 hd) rfl hr
theorem ifnonnullY (C : Ctx p s m meth c Z own nm B ml rt) {o : Int} {b : Addr} (hd : decode B pc = .ok (.ifnonnull o, 3)) (hq : 0 ≤ (pc : Int) + o ∧ ((pc : Int) + o).toNat = q) (k' : Go p l e R s m args below meth c Z n0 P kc ks μ k n (mkF m q L st)) : Go p l e R s m args below meth c Z n0 P kc ks μ k n (mkF m pc L ((.ref b) :: st)) := Go.pure k' fun T h t hr => XT.ifnonnullYes h C.1 rfl rfl (hb C.2.1 hd) rfl hq.1 hq.2 hr
theorem ifnonnullN (C : Ctx p s m meth c Z own nm B ml rt) {o : Int} {b : Addr} (hd : decode B pc = .ok (.ifnonnull o, 3)) (hq : pc + 3 = q) (k' : Go p l e R s m args below meth c Z n0 P kc ks μ k n (mkF m q L st)) : Go p l e R s m args below meth c Z n0 P kc ks μ k n (mkF m pc L (.null :: st)) := by
  subst hq
  exact Go.pure k' fun T h t hr => XT.ifnonnullNo h C.1 rfl (hb C.2.1 hd) rfl hr
theorem acmp_eq (C : Ctx p s m meth c Z own nm B ml rt) {x y : Value} {o : Int} {r : Nat} (hd : decode B pc = .ok (.if_acmp .eq o, 3)) (hq : pc + 3 = q) (hr : 0 ≤ (pc : Int) + o ∧ ((pc : Int) + o).toNat = r) (h1 : x.isRef = true) (h2 : y.isRef = true) (ky : x = y → Go p l e R s m args below meth c Z n0 P kc ks μ k n (mkF m r L st)) (kn : ¬ x = y → Go p l e R s m args below meth c Z n0 P kc ks μ k n (mkF m q L st)) : Go p l e R s m args below meth c Z n0 P kc ks μ k n (mkF m pc L (y :: x :: st)) := by
  subst hq
  by_cases hc : x = y
  · exact Go.pure (ky hc) fun T h t k => XT.acmpYes h C.1 rfl rfl (hb C.2.1 hd) rfl h1 h2 (XT.aa_eq_t hc) hr.1 hr.2 k
  · exact Go.pure (kn (by first | exact hc | exact Decidable.of_not_not hc)) fun T h t k => XT.acmpNo h C.1 rfl (hb C.2.1 hd) rfl h1 h2 (XT.aa_eq_f (by first | exact hc | exact Decidable.of_not_not hc)) k
theorem acmp_ne (C : Ctx p s m meth c Z own nm B ml rt) {x y : Value} {o : Int} {r : Nat} (hd : decode B pc = .ok (.if_acmp .ne o, 3)) (hq : pc + 3 = q) (hr : 0 ≤ (pc : Int) + o ∧ ((pc : Int) + o).toNat = r) (h1 : x.isRef = true) (h2 : y.isRef = true) (ky : ¬ x = y → Go p l e R s m args below meth c Z n0 P kc ks μ k n (mkF m r L st)) (kn : x = y → Go p l e R s m args below meth c Z n0 P kc ks μ k n (mkF m q L st)) : Go p l e R s m args below meth c Z n0 P kc ks μ k n (mkF m pc L (y :: x :: st)) := by
  subst hq
  by_cases hc : ¬ x = y
  · exact Go.pure (ky hc) fun T h t k => XT.acmpYes h C.1 rfl rfl (hb C.2.1 hd) rfl h1 h2 (XT.aa_ne_t hc) hr.1 hr.2 k
  · exact Go.pure (kn (by first | exact hc | exact Decidable.of_not_not hc)) fun T h t k => XT.acmpNo h C.1 rfl (hb C.2.1 hd) rfl h1 h2 (XT.aa_ne_f (by first | exact hc | exact Decidable.of_not_not hc)) k
theorem mem {μ' : Mem} {g : JFrame} (h : μ = μ') (k' : Go p l e R s m args below meth c Z n0 P kc ks μ' k n g) : Go p l e R s m args below meth c Z n0 P kc ks μ k n g := by subst h; exact k'
/-! constants of the pool -/
theorem ldcI (C : Ctx p s m meth c Z own nm B ml rt) {i : Nat} {v : Int32} (hd : decode B pc = .ok (.ldc i, 2)) (hq : pc + 2 = q) (w : (Cond.constant own i v).before a0 Z = true) (k' : Go p l e R s m args below meth c Z n0 P kc ks μ k n (mkF m q L (.int v :: st))) : Go p l e R s m args below meth c Z n0 P kc ks μ k n (mkF m pc L st) := by
  subst hq
  exact Go.stand k' fun T locs X H => ⟨T, X, rfl, X.ldcInt C.1 C.2.2.2.2.1 (mvT C.2.2.2.1 w) (g := mkF m pc L st) rfl (hb C.2.1 hd)⟩
theorem ldcwI (C : Ctx p s m meth c Z own nm B ml rt) {i : Nat} {v : Int32} (hd : decode B pc = .ok (.ldc_w i, 3)) (hq : pc + 3 = q) (w : (Cond.constant own i v).before a0 Z = true) (k' : Go p l e R s m args below meth c Z n0 P kc ks μ k n (mkF m q L (.int v :: st))) : Go p l e R s m args below meth c Z n0 P kc ks μ k n (mkF m pc L st) := by
  subst hq
  exact Go.stand k' fun T locs X H => ⟨T, X, rfl, X.ldcwInt C.1 C.2.2.2.2.1 (mvT C.2.2.2.1 w) (g := mkF m pc L st) rfl (hb C.2.1 hd)⟩
theorem ldcJ (C : Ctx p s m meth c Z own nm B ml rt) {i : Nat} {v : Int64} (hd : decode B pc = .ok (.ldc2_w i, 3)) (hq : pc + 3 = q) (w : (Cond.constantLong own i v).before a0 Z = true) (k' : Go p l e R s m args below meth c Z n0 P kc ks μ k n (mkF m q L (.long v :: st))) : Go p l e R s m args below meth c Z n0 P kc ks μ k n (mkF m pc L st) := by
  subst hq
  exact Go.stand k' fun T locs X H => ⟨T, X, rfl, X.ldc2Long C.1 C.2.2.2.2.1 (mvT C.2.2.2.1 w) (g := mkF m pc L st) rfl (hb C.2.1 hd)⟩
/-! fields -/
theorem getfield (C : Ctx p s m meth c Z own nm B ml rt) {i j : Nat} {R0 O f d host K : String} {fs : List (Key × Value)} {v : Value} {a : Addr} (hd : decode B pc = .ok (.getfield i, 3)) (hq : pc + 3 = q) (w : (Cond.fieldLink own i R0 f d).before a0 Z = true ∨ (Cond.fieldLinkNest own i R0 f d host).before a0 Z = true) (via : Via Z R0 O f d)
    (hμ : μ a = some (.inl (K, fs))) (hj : fs[j]? = some ((O, f, d), v)) (k' : Go p l e R s m args below meth c Z n0 P kc ks μ k n (mkF m q L (v :: st))) : Go p l e R s m args below meth c Z n0 P kc ks μ k n (mkF m pc L (.ref a :: st)) := by
  subst hq
  refine Go.stand k' fun T locs X H => ?_
  have I := H.2 a _ hμ
  exact getF X C.1 C.2.2.2.1 C.2.2.2.2.1 w via rfl (I.2.1 _ (List.mem_of_getElem? hj)) (g := mkF m pc L (.ref a :: st)) rfl rfl (hb C.2.1 hd)
theorem putfield (C : Ctx p s m meth c Z own nm B ml rt) {i j kk : Nat} {R0 O f d host K : String} {fs fs' : List (Key × Value)} {v old : Value} {a : Addr} {ty : FieldType} (hd : decode B pc = .ok (.putfield i, 3)) (hq : pc + 3 = q) (w : (Cond.fieldLink own i R0 f d).before a0 Z = true ∨ (Cond.fieldLinkNest own i R0 f d host).before a0 Z = true) (via : Via Z R0 O f d)
    (wl : (Cond.lays K O f d).before a0 Z = true ∨ ((Cond.laysFinal K O f d).before a0 Z = true ∧ own = O ∧ nm = "<init>")) (wi : (Cond.instantiable K kk).before a0 Z = true) (hty : parseFieldDescriptor d = some ty) (hn : narrow ty v = v) (hf : fits ty v = true)
    (hμ : μ a = some (.inl (K, fs))) (hj : fs[j]? = some ((O, f, d), old)) (hfs : fs.set j ((O, f, d), v) = fs') (ha : n0 ≤ a) (k' : Go p l e R s m args below meth c Z n0 P kc ks (upd μ a (.inl (K, fs'))) k n (mkF m q L st)) : Go p l e R s m args below meth c Z n0 P kc ks μ k n (mkF m pc L (v :: .ref a :: st)) := by
  subst hq
  intro T locs X F H
  have I := H.2 a _ hμ
  obtain ⟨T', h', X', e', W, stp⟩ := putF X C.1 C.2.2.2.1 C.2.2.2.2.1 w via rfl (I.2.1 _ (List.mem_of_getElem? hj)) I.1 (wl.imp id fun z => ⟨z.1, z.2.1, C.2.2.2.2.2.2.2.trans z.2.2⟩) wi hty hn hf (g := mkF m pc L (v :: .ref a :: st)) rfl rfl (hb C.2.1 hd)
  obtain ⟨s2, o, h1, h2⟩ := k' T' _ X' (Fr.snoc X' F ha) (by rw [e']; exact H.wr W ha (IsO.put I hj W hfs))
  exact ⟨s2, o, stp _ h1, up (by first | exact Nat.le_of_eq (by rw [e', W.size]) | (rw [e']; exact E.1)) h2⟩
theorem putfieldN (C : Ctx p s m meth c Z own nm B ml rt) {i j kk : Nat} {R0 O f d K : String} {fs fs' : List (Key × Value)} {v v' old : Value} {a : Addr} {ty : FieldType} (hd : decode B pc = .ok (.putfield i, 3)) (hq : pc + 3 = q) (w : (Cond.fieldLink own i R0 f d).before a0 Z = true) (via : Via Z R0 O f d)
    (wl : (Cond.lays K O f d).before a0 Z = true ∨ ((Cond.laysFinal K O f d).before a0 Z = true ∧ own = O ∧ nm = "<init>")) (wi : (Cond.instantiable K kk).before a0 Z = true) (hty : parseFieldDescriptor d = some ty) (hn : narrow ty v = v') (hf : fits ty v' = true)
    (hμ : μ a = some (.inl (K, fs))) (hj : fs[j]? = some ((O, f, d), old)) (hfs : fs.set j ((O, f, d), v') = fs') (ha : n0 ≤ a) (k' : Go p l e R s m args below meth c Z n0 P kc ks (upd μ a (.inl (K, fs'))) k n (mkF m q L st)) : Go p l e R s m args below meth c Z n0 P kc ks μ k n (mkF m pc L (v :: .ref a :: st)) := by
  subst hq
  intro T locs X F H
  have I := H.2 a _ hμ
  obtain ⟨T', h', X', e', W, stp⟩ := putFN X C.1 C.2.2.2.1 C.2.2.2.2.1 w via rfl (I.2.1 _ (List.mem_of_getElem? hj)) I.1 (wl.imp id fun z => ⟨z.1, z.2.1, C.2.2.2.2.2.2.2.trans z.2.2⟩) wi hty hn hf (g := mkF m pc L (v :: .ref a :: st)) rfl rfl (hb C.2.1 hd)
  obtain ⟨s2, o, h1, h2⟩ := k' T' _ X' (Fr.snoc X' F ha) (by rw [e']; exact H.wr W ha (IsO.put I hj W hfs))
  exact ⟨s2, o, stp _ h1, up (by first | exact Nat.le_of_eq (by rw [e', W.size]) | (rw [e']; exact E.1)) h2⟩
theorem getstatic (C : Ctx p s m meth c Z own nm B ml rt) {i : Nat} {R0 O f d host : String} {v : Value} (hd : decode B pc = .ok (.getstatic i, 3)) (hq : pc + 3 = q) (w : (Cond.fieldLink own i R0 f d).before a0 Z = true ∨ (Cond.fieldLinkNest own i R0 f d host).before a0 Z = true) (via : Via Z R0 O f d)
    (S : Sta Z Z.heap O f d v) (k' : Go p l e R s m args below meth c Z n0 P kc ks μ k n (mkF m q L (v :: st))) : Go p l e R s m args below meth c Z n0 P kc ks μ k n (mkF m pc L st) := by
  subst hq
  exact Go.stand k' fun T locs X H => getS2 X C.1 C.2.2.2.1 C.2.2.2.2.1 w via rfl (S.ext H.1.2) (g := mkF m pc L st) rfl (hb C.2.1 hd)
/-! new objects -/
def AllLaid (Z : State) (a0 : Array Value) (C : String) : List (Key × Value) → Prop
  | [] => True
  | q :: r => (∃ ty, Laid Z a0 C q.1.1 q.1.2.1 q.1.2.2 ∧ parseFieldDescriptor q.1.2.2 = some ty ∧ q.2 = defaultValue ty) ∧ AllLaid Z a0 C r
theorem AllLaid.mem {K : String} : ∀ {fs : List (Key × Value)}, AllLaid Z a0 K fs → ∀ q ∈ fs, ∃ ty, Laid Z a0 K q.1.1 q.1.2.1 q.1.2.2 ∧ parseFieldDescriptor q.1.2.2 = some ty ∧ q.2 = defaultValue ty
  | [], _, _, h => nomatch h
  | _ :: _, H, q, h => (List.mem_cons.mp h).elim (fun z => z ▸ H.1) (AllLaid.mem H.2 q)
theorem AllLaid.pw {K : String} : ∀ {fs : List (Key × Value)}, AllLaid Z a0 K fs → fs.Pairwise (fun q r => q.1.2.1 ≠ r.1.2.1) → fs.Pairwise fun q r => sl Z q ≠ sl Z r
  | [], _, _ => .nil
  | x :: r, H, N => by
    cases N with
    | cons h1 h2 =>
      refine .cons (fun y hy => ?_) (AllLaid.pw H.2 h2)
      obtain ⟨t1, L1, p1, -⟩ := H.1
      obtain ⟨t2, L2, p2, -⟩ := AllLaid.mem H.2 y hy
      exact RoadKit.slot_ne L1 L2 (h1 y hy) p1 p2
theorem new (C : Ctx p s m meth c Z own nm B ml rt) {i ns : Nat} {K : String} {fs : List (Key × Value)} (hd : decode B pc = .ok (.new i, 3)) (hq : pc + 3 = q) (w1 : (Cond.classLink own i K).before a0 Z = true) (w2 : (Cond.instantiable K ns).before a0 Z = true) (w3 : (Cond.initialized K).before a0 Z = true)
    (hl : AllLaid Z a0 K fs) (hnd : fs.Pairwise (fun q r => q.1.2.1 ≠ r.1.2.1)) (hc : k + 1 ≤ R.cells) (hs : n + ns ≤ R.slots)
    (k' : ∀ a : Addr, (∀ b o, μ b = some o → b ≠ a) → n0 ≤ a → Go p l e R s m args below meth c Z n0 P kc ks (upd μ a (.inl (K, fs))) (k + 1) (n + ns) (mkF m q L (.ref a :: st))) : Go p l e R s m args below meth c Z n0 P kc ks μ k n (mkF m pc L st) := by
  subst hq
  intro T locs X F H
  obtain ⟨T', h', X', e', E, A, D, -, stp⟩ := newO X C.1 C.2.2.2.1 C.2.2.2.2.1 w1 w2 w3 rfl (g := mkF m pc L st) rfl (hb C.2.1 hd) hc hs
  obtain ⟨s2, o, h1, h2⟩ := k' T.heap.size H.fresh H.ge T' _ X' F (by
    rw [e']
    refine Hp.set (H.ext E) ⟨A, fun z hz => ?_, hl.pw hnd⟩
    obtain ⟨ty, l1, l2, l3⟩ := hl.mem z hz
    rw [l3]; exact D l1 l2)
  exact ⟨s2, o, stp _ h1, up (by first | exact Nat.le_of_eq (by rw [e', W.size]) | (rw [e']; exact E.1)) h2⟩
theorem newArr (C : Ctx p s m meth c Z own nm B ml rt) {aty : ArrayType} {ty : FieldType} {z : Int32} {cap : Nat} {vs : List Value} (hd : decode B pc = .ok (.newarray aty, 2)) (hq : pc + 2 = q) (ht : newarray.typeOf aty = ty) (w : (Cond.arrayClass ty).before a0 Z = true) (hz : ¬ z < 0) (hcap : z.toNatClampNeg ≤ cap) (hbig : cap * 8 ≤ 536870912) (hvs : List.replicate z.toNatClampNeg (defaultValue ty) = vs)
    (hc : k + 1 ≤ R.cells) (hs : n + cap ≤ R.slots)
    (k' : ∀ a : Addr, (∀ b o, μ b = some o → b ≠ a) → n0 ≤ a → Go p l e R s m args below meth c Z n0 P kc ks (upd μ a (.inr (ty, vs))) (k + 1) (n + cap) (mkF m q L (.ref a :: st))) : Go p l e R s m args below meth c Z n0 P kc ks μ k n (mkF m pc L (.int z :: st)) := by
  subst hq hvs ht
  intro T locs X F H
  obtain ⟨T', h', cA, X', e', E, A, Ex, stp⟩ := newPE X C.1 C.2.2.2.1 w rfl (g := mkF m pc L (.int z :: st)) rfl (hb C.2.1 hd) rfl hz hcap hbig hc hs rfl
  obtain ⟨s2, o, h1, h2⟩ := k' T.heap.size H.fresh H.ge T' _ X' F (by
    rw [e']
    refine Hp.set (H.ext E) ⟨_, A, by simp [newA], by rw [List.length_replicate]; exact (back32 hz).2, fun v hv => ?_, fun _ => ⟨fun K hK => ?_, fun N hK => ?_⟩⟩
    · rw [(List.mem_replicate.mp hv).2]; cases aty <;> rfl
    · cases aty <;> cases hK
    · cases aty <;> cases hK <;> exact Ex)
  exact ⟨s2, o, stp _ h1, up (by first | exact Nat.le_of_eq (by rw [e', W.size]) | (rw [e']; exact E.1)) h2⟩
theorem newRef (C : Ctx p s m meth c Z own nm B ml rt) {i : Nat} {K : String} {z : Int32} {cap : Nat} {vs : List Value} (hd : decode B pc = .ok (.anewarray i, 3)) (hq : pc + 3 = q) (w1 : (Cond.classLink own i K).before a0 Z = true) (w2 : (Cond.arrayOver (.object K)).before a0 Z = true) (hz : ¬ z < 0) (hcap : z.toNatClampNeg ≤ cap) (hbig : cap * 8 ≤ 536870912) (hvs : List.replicate z.toNatClampNeg Value.null = vs)
    (hc : k + 1 ≤ R.cells) (hs : n + cap ≤ R.slots)
    (k' : ∀ a : Addr, (∀ b o, μ b = some o → b ≠ a) → n0 ≤ a → Go p l e R s m args below meth c Z n0 P kc ks (upd μ a (.inr (.object K, vs))) (k + 1) (n + cap) (mkF m q L (.ref a :: st))) : Go p l e R s m args below meth c Z n0 P kc ks μ k n (mkF m pc L (.int z :: st)) := by
  subst hq hvs
  intro T locs X F H
  obtain ⟨T', h', cA, X', e', E, A, Ex, O, stp⟩ := newRE X C.1 C.2.2.2.1 C.2.2.2.2.1 w1 w2 rfl (g := mkF m pc L (.int z :: st)) rfl (hb C.2.1 hd) rfl hz hcap hbig hc hs rfl
  obtain ⟨s2, o, h1, h2⟩ := k' T.heap.size H.fresh H.ge T' _ X' F (by
    rw [e']
    refine Hp.set (H.ext E) ⟨_, A, by simp [newA, defaultValue], by rw [List.length_replicate]; exact (back32 hz).2, fun v hv => ?_, fun _ => ⟨fun K' hK => ?_, fun N hK => ?_⟩⟩
    · rw [(List.mem_replicate.mp hv).2]; rfl
    · cases hK; exact O
    · cases hK; exact Ex)
  exact ⟨s2, o, stp _ h1, up (by first | exact Nat.le_of_eq (by rw [e', W.size]) | (rw [e']; exact E.1)) h2⟩
/-! arrays -/
theorem inb {c : Cell} {vs : List Value} {j : Int32} (e : c.slots.toList = vs) (h0 : ¬ j < 0) (hj : j.toNatClampNeg < vs.length) : ¬ (j < 0 ∨ c.slots.size ≤ j.toNatClampNeg) := by
  subst e; rw [Array.length_toList] at hj; rintro (q | q)
  · exact h0 q
  · omega
theorem atL {c : Cell} {vs : List Value} {j : Nat} {v : Value} (e : c.slots.toList = vs) (hv : vs[j]? = some v) : c.slots[j]? = some v := by
  subst e; rw [Array.getElem?_toList] at hv; exact hv
theorem arraylength (C : Ctx p s m meth c Z own nm B ml rt) {ty : FieldType} {vs : List Value} {a : Addr} (hd : decode B pc = .ok (.arraylength, 1)) (hq : pc + 1 = q) (hμ : μ a = some (.inr (ty, vs))) (k' : ∀ z : Int32, z = Int32.ofNat vs.length → z.toInt = vs.length → Go p l e R s m args below meth c Z n0 P kc ks μ k n (mkF m q L (.int z :: st))) : Go p l e R s m args below meth c Z n0 P kc ks μ k n (mkF m pc L (.ref a :: st)) := by
  subst hq
  intro T locs X F H
  obtain ⟨cl, A, e1, hl, -⟩ := H.2 a _ hμ
  have e2 : cl.slots.size = vs.length := by subst e1; rw [Array.length_toList]
  obtain ⟨s2, o, h1, h2⟩ := k' (Int32.ofNat vs.length) rfl (Int32.toInt_ofNat_small hl) T _ X F H
  exact ⟨s2, o, X.arraylength C.1 A.1 (State.isArrayOf_alike C.2.2.2.1.alike A.2.1) (g := mkF m pc L (.ref a :: st)) rfl rfl (hb C.2.1 hd) _ (by rw [e2]; exact h1), h2⟩
theorem iaload (C : Ctx p s m meth c Z own nm B ml rt) {vs : List Value} {a : Addr} {j : Int32} {v : Value} (hd : decode B pc = .ok (.iaload, 1)) (hq : pc + 1 = q) (hμ : μ a = some (.inr (.int, vs))) (h0 : ¬ j < 0) (hv : vs[j.toNatClampNeg]? = some v) (k' : Go p l e R s m args below meth c Z n0 P kc ks μ k n (mkF m q L (v :: st))) : Go p l e R s m args below meth c Z n0 P kc ks μ k n (mkF m pc L (.int j :: .ref a :: st)) := by
  subst hq
  intro T locs X F H
  obtain ⟨cl, A, e1, -⟩ := H.2 a _ hμ
  obtain ⟨s2, o, h1, h2⟩ := k' T _ X F H
  exact ⟨s2, o, X.iaload C.1 A.1 (State.isArrayOf_alike C.2.2.2.1.alike A.2.1) A.2.2 (inb e1 h0 (List.getElem?_eq_some_iff.mp hv).1) (atL e1 hv) (g := mkF m pc L (.int j :: .ref a :: st)) rfl rfl (hb C.2.1 hd) _ h1, h2⟩
theorem laload (C : Ctx p s m meth c Z own nm B ml rt) {vs : List Value} {a : Addr} {j : Int32} {v : Value} (hd : decode B pc = .ok (.laload, 1)) (hq : pc + 1 = q) (hμ : μ a = some (.inr (.long, vs))) (h0 : ¬ j < 0) (hv : vs[j.toNatClampNeg]? = some v) (k' : Go p l e R s m args below meth c Z n0 P kc ks μ k n (mkF m q L (v :: st))) : Go p l e R s m args below meth c Z n0 P kc ks μ k n (mkF m pc L (.int j :: .ref a :: st)) := by
  subst hq
  intro T locs X F H
  obtain ⟨cl, A, e1, -⟩ := H.2 a _ hμ
  obtain ⟨s2, o, h1, h2⟩ := k' T _ X F H
  exact ⟨s2, o, X.laload C.1 A.1 (State.isArrayOf_alike C.2.2.2.1.alike A.2.1) A.2.2 (inb e1 h0 (List.getElem?_eq_some_iff.mp hv).1) (atL e1 hv) (g := mkF m pc L (.int j :: .ref a :: st)) rfl rfl (hb C.2.1 hd) _ h1, h2⟩
theorem caload (C : Ctx p s m meth c Z own nm B ml rt) {vs : List Value} {a : Addr} {j : Int32} {v : Value} (hd : decode B pc = .ok (.caload, 1)) (hq : pc + 1 = q) (hμ : μ a = some (.inr (.char, vs))) (h0 : ¬ j < 0) (hv : vs[j.toNatClampNeg]? = some v) (k' : Go p l e R s m args below meth c Z n0 P kc ks μ k n (mkF m q L (v :: st))) : Go p l e R s m args below meth c Z n0 P kc ks μ k n (mkF m pc L (.int j :: .ref a :: st)) := by
  subst hq
  intro T locs X F H
  obtain ⟨cl, A, e1, -⟩ := H.2 a _ hμ
  obtain ⟨s2, o, h1, h2⟩ := k' T _ X F H
  exact ⟨s2, o, X.caload C.1 A.1 (State.isArrayOf_alike C.2.2.2.1.alike A.2.1) A.2.2 (inb e1 h0 (List.getElem?_eq_some_iff.mp hv).1) (atL e1 hv) (g := mkF m pc L (.int j :: .ref a :: st)) rfl rfl (hb C.2.1 hd) _ h1, h2⟩
theorem baload (C : Ctx p s m meth c Z own nm B ml rt) {vs : List Value} {a : Addr} {j : Int32} {v : Value} (hd : decode B pc = .ok (.baload, 1)) (hq : pc + 1 = q) (hμ : μ a = some (.inr (.byte, vs))) (h0 : ¬ j < 0) (hv : vs[j.toNatClampNeg]? = some v) (k' : Go p l e R s m args below meth c Z n0 P kc ks μ k n (mkF m q L (v :: st))) : Go p l e R s m args below meth c Z n0 P kc ks μ k n (mkF m pc L (.int j :: .ref a :: st)) := by
  subst hq
  intro T locs X F H
  obtain ⟨cl, A, e1, -⟩ := H.2 a _ hμ
  obtain ⟨s2, o, h1, h2⟩ := k' T _ X F H
  exact ⟨s2, o, X.baloadBytes C.1 A.1 (State.isArrayOf_alike C.2.2.2.1.alike A.2.1) A.2.2 (inb e1 h0 (List.getElem?_eq_some_iff.mp hv).1) (atL e1 hv) (g := mkF m pc L (.int j :: .ref a :: st)) rfl rfl (hb C.2.1 hd) _ h1, h2⟩
theorem zaload (C : Ctx p s m meth c Z own nm B ml rt) {vs : List Value} {a : Addr} {j : Int32} {v : Value} (hd : decode B pc = .ok (.baload, 1)) (hq : pc + 1 = q) (hμ : μ a = some (.inr (.boolean, vs))) (h0 : ¬ j < 0) (hv : vs[j.toNatClampNeg]? = some v) (k' : Go p l e R s m args below meth c Z n0 P kc ks μ k n (mkF m q L (v :: st))) : Go p l e R s m args below meth c Z n0 P kc ks μ k n (mkF m pc L (.int j :: .ref a :: st)) := by
  subst hq
  intro T locs X F H
  obtain ⟨cl, A, e1, -⟩ := H.2 a _ hμ
  obtain ⟨s2, o, h1, h2⟩ := k' T _ X F H
  exact ⟨s2, o, X.baloadBooleans C.1 A.1 (State.isArrayOf_alike C.2.2.2.1.alike A.2.1) A.2.2 (inb e1 h0 (List.getElem?_eq_some_iff.mp hv).1) (atL e1 hv) (g := mkF m pc L (.int j :: .ref a :: st)) rfl rfl (hb C.2.1 hd) _ h1, h2⟩
theorem aaload (C : Ctx p s m meth c Z own nm B ml rt) {ty : FieldType} {vs : List Value} {a : Addr} {j : Int32} {v : Value} (hd : decode B pc = .ok (.aaload, 1)) (hq : pc + 1 = q) (hμ : μ a = some (.inr (ty, vs))) (hr : ty.isReference = true) (h0 : ¬ j < 0) (hv : vs[j.toNatClampNeg]? = some v) (k' : Go p l e R s m args below meth c Z n0 P kc ks μ k n (mkF m q L (v :: st))) : Go p l e R s m args below meth c Z n0 P kc ks μ k n (mkF m pc L (.int j :: .ref a :: st)) := by
  subst hq
  intro T locs X F H
  obtain ⟨cl, A, e1, -⟩ := H.2 a _ hμ
  obtain ⟨s2, o, h1, h2⟩ := k' T _ X F H
  exact ⟨s2, o, X.aaload C.1 A.1 (State.isArrayOf_alike C.2.2.2.1.alike A.2.1) hr A.2.2 (inb e1 h0 (List.getElem?_eq_some_iff.mp hv).1) (atL e1 hv) (g := mkF m pc L (.int j :: .ref a :: st)) rfl rfl (hb C.2.1 hd) _ h1, h2⟩
theorem iastore (C : Ctx p s m meth c Z own nm B ml rt) {vs : List Value} {a : Addr} {j : Int32} {x : Int32} (hd : decode B pc = .ok (.iastore, 1)) (hq : pc + 1 = q) (hμ : μ a = some (.inr (.int, vs))) (h0 : ¬ j < 0) (hj : j.toNatClampNeg < vs.length) (ha : n0 ≤ a) (k' : Go p l e R s m args below meth c Z n0 P kc ks (upd μ a (.inr (.int, vs.set j.toNatClampNeg (.int x)))) k n (mkF m q L st)) : Go p l e R s m args below meth c Z n0 P kc ks μ k n (mkF m pc L ((.int x) :: .int j :: .ref a :: st)) := by
  subst hq
  intro T locs X F H
  have I := H.2 a _ hμ
  obtain ⟨cl, A, e1, -⟩ := id I
  obtain ⟨T', h', X', e', W, stp⟩ := stI X C.1 C.2.2.2.1 rfl A (inb e1 h0 hj) (g := mkF m pc L ((.int x) :: .int j :: .ref a :: st)) rfl rfl (hb C.2.1 hd)
  obtain ⟨s2, o, h1, h2⟩ := k' T' _ X' (Fr.snoc X' F ha) (by rw [e']; exact H.wr W ha (IsA.put I rfl W))
  exact ⟨s2, o, stp _ h1, up (by first | exact Nat.le_of_eq (by rw [e', W.size]) | (rw [e']; exact E.1)) h2⟩
theorem lastore (C : Ctx p s m meth c Z own nm B ml rt) {vs : List Value} {a : Addr} {j : Int32} {x : Int64} (hd : decode B pc = .ok (.lastore, 1)) (hq : pc + 1 = q) (hμ : μ a = some (.inr (.long, vs))) (h0 : ¬ j < 0) (hj : j.toNatClampNeg < vs.length) (ha : n0 ≤ a) (k' : Go p l e R s m args below meth c Z n0 P kc ks (upd μ a (.inr (.long, vs.set j.toNatClampNeg (.long x)))) k n (mkF m q L st)) : Go p l e R s m args below meth c Z n0 P kc ks μ k n (mkF m pc L ((.long x) :: .int j :: .ref a :: st)) := by
  subst hq
  intro T locs X F H
  have I := H.2 a _ hμ
  obtain ⟨cl, A, e1, -⟩ := id I
  obtain ⟨T', h', X', e', W, stp⟩ := stJ X C.1 C.2.2.2.1 rfl A (inb e1 h0 hj) (g := mkF m pc L ((.long x) :: .int j :: .ref a :: st)) rfl rfl (hb C.2.1 hd)
  obtain ⟨s2, o, h1, h2⟩ := k' T' _ X' (Fr.snoc X' F ha) (by rw [e']; exact H.wr W ha (IsA.put I rfl W))
  exact ⟨s2, o, stp _ h1, up (by first | exact Nat.le_of_eq (by rw [e', W.size]) | (rw [e']; exact E.1)) h2⟩
theorem castore (C : Ctx p s m meth c Z own nm B ml rt) {vs : List Value} {a : Addr} {j : Int32} {x : Int32} (hd : decode B pc = .ok (.castore, 1)) (hq : pc + 1 = q) (hμ : μ a = some (.inr (.char, vs))) (h0 : ¬ j < 0) (hj : j.toNatClampNeg < vs.length) (ha : n0 ≤ a) (k' : Go p l e R s m args below meth c Z n0 P kc ks (upd μ a (.inr (.char, vs.set j.toNatClampNeg (.int (nar .char x))))) k n (mkF m q L st)) : Go p l e R s m args below meth c Z n0 P kc ks μ k n (mkF m pc L ((.int x) :: .int j :: .ref a :: st)) := by
  subst hq
  intro T locs X F H
  have I := H.2 a _ hμ
  obtain ⟨cl, A, e1, -⟩ := id I
  obtain ⟨T', h', X', e', W, stp⟩ := stC X C.1 C.2.2.2.1 rfl A (inb e1 h0 hj) (g := mkF m pc L ((.int x) :: .int j :: .ref a :: st)) rfl rfl (hb C.2.1 hd)
  obtain ⟨s2, o, h1, h2⟩ := k' T' _ X' (Fr.snoc X' F ha) (by rw [e']; exact H.wr W ha (IsA.put I (fits_nar_char _) W))
  exact ⟨s2, o, stp _ h1, up (by first | exact Nat.le_of_eq (by rw [e', W.size]) | (rw [e']; exact E.1)) h2⟩
theorem bastore (C : Ctx p s m meth c Z own nm B ml rt) {vs : List Value} {a : Addr} {j : Int32} {x : Int32} (hd : decode B pc = .ok (.bastore, 1)) (hq : pc + 1 = q) (hμ : μ a = some (.inr (.byte, vs))) (h0 : ¬ j < 0) (hj : j.toNatClampNeg < vs.length) (ha : n0 ≤ a) (k' : Go p l e R s m args below meth c Z n0 P kc ks (upd μ a (.inr (.byte, vs.set j.toNatClampNeg (.int x.toInt8.toInt32)))) k n (mkF m q L st)) : Go p l e R s m args below meth c Z n0 P kc ks μ k n (mkF m pc L ((.int x) :: .int j :: .ref a :: st)) := by
  subst hq
  intro T locs X F H
  have I := H.2 a _ hμ
  obtain ⟨cl, A, e1, -⟩ := id I
  obtain ⟨T', h', X', e', W, stp⟩ := stB X C.1 C.2.2.2.1 rfl A (inb e1 h0 hj) (g := mkF m pc L ((.int x) :: .int j :: .ref a :: st)) rfl rfl (hb C.2.1 hd)
  obtain ⟨s2, o, h1, h2⟩ := k' T' _ X' (Fr.snoc X' F ha) (by rw [e']; exact H.wr W ha (IsA.put I (fits_nar_byte _) W))
  exact ⟨s2, o, stp _ h1, up (by first | exact Nat.le_of_eq (by rw [e', W.size]) | (rw [e']; exact E.1)) h2⟩
theorem zastore (C : Ctx p s m meth c Z own nm B ml rt) {vs : List Value} {a : Addr} {j : Int32} {x : Int32} (hd : decode B pc = .ok (.bastore, 1)) (hq : pc + 1 = q) (hμ : μ a = some (.inr (.boolean, vs))) (h0 : ¬ j < 0) (hj : j.toNatClampNeg < vs.length) (ha : n0 ≤ a) (k' : Go p l e R s m args below meth c Z n0 P kc ks (upd μ a (.inr (.boolean, vs.set j.toNatClampNeg (.int (nar .boolean x))))) k n (mkF m q L st)) : Go p l e R s m args below meth c Z n0 P kc ks μ k n (mkF m pc L ((.int x) :: .int j :: .ref a :: st)) := by
  subst hq
  intro T locs X F H
  have I := H.2 a _ hμ
  obtain ⟨cl, A, e1, -⟩ := id I
  obtain ⟨T', h', X', e', W, stp⟩ := stZ X C.1 C.2.2.2.1 rfl A (inb e1 h0 hj) (g := mkF m pc L ((.int x) :: .int j :: .ref a :: st)) rfl rfl (hb C.2.1 hd)
  obtain ⟨s2, o, h1, h2⟩ := k' T' _ X' (Fr.snoc X' F ha) (by rw [e']; exact H.wr W ha (IsA.put I (fits_nar_bool _) W))
  exact ⟨s2, o, stp _ h1, up (by first | exact Nat.le_of_eq (by rw [e', W.size]) | (rw [e']; exact E.1)) h2⟩
theorem aastore (C : Ctx p s m meth c Z own nm B ml rt) {K : String} {vs : List Value} {a : Addr} {j : Int32} {v : Value} (hd : decode B pc = .ok (.aastore, 1)) (hq : pc + 1 = q) (hμ : μ a = some (.inr (.object K, vs))) (hv : v = .null ∨ ∃ b, v = .ref b ∧ ∀ h, Hp Z n0 μ h → Ins Z h b K true) (h0 : ¬ j < 0) (hj : j.toNatClampNeg < vs.length) (ha : n0 ≤ a) (k' : Go p l e R s m args below meth c Z n0 P kc ks (upd μ a (.inr (.object K, vs.set j.toNatClampNeg v))) k n (mkF m q L st)) : Go p l e R s m args below meth c Z n0 P kc ks μ k n (mkF m pc L (v :: .int j :: .ref a :: st)) := by
  subst hq
  intro T locs X F H
  have I := H.2 a _ hμ
  obtain ⟨cl, A, e1, -, -, O⟩ := id I
  have S : Sto Z T.heap a v := by
    rcases hv with rfl | ⟨b, rfl, hb⟩
    · exact Or.inl rfl
    · exact Sto.of A ((O ha).1 K rfl) (hb _ H)
  have hf : fits (.object K) v = true := by
    rcases hv with rfl | ⟨b, rfl, -⟩ <;> rfl
  obtain ⟨T', h', X', e', W, stp⟩ := stR X C.1 C.2.2.2.1 rfl A (inb e1 h0 hj) rfl S (g := mkF m pc L (v :: .int j :: .ref a :: st)) rfl rfl (hb C.2.1 hd)
  obtain ⟨s2, o, h1, h2⟩ := k' T' _ X' (Fr.snoc X' F ha) (by rw [e']; exact H.wr W ha (IsA.put I hf W))
  exact ⟨s2, o, stp _ h1, up (by first | exact Nat.le_of_eq (by rw [e', W.size]) | (rw [e']; exact E.1)) h2⟩
/-! returns -/
theorem ireturn (C : Ctx p s m meth c Z own nm B ml (some .int)) {z : Int32} (hd : decode B pc = .ok (.ireturn, 1)) (hk : k ≤ kc) (hn : n ≤ ks) (h : P (some (.int z)) μ) : Go p l e R s m args below meth c Z n0 P kc ks μ k n (mkF m pc L (.int z :: st)) := fun T locs X F H => by
  obtain ⟨fs, hr, hrun, hended, hW, hsame⟩ := X.leave (v := some (.int z)) (fun h => by rw [C.2.2.2.2.2.1] at h; cases h) C.2.2.2.2.2.2.1
  exact ⟨_, _, retOut X C.1 C.2.2.2.2.2.1 rfl (Or.inl ⟨rfl, Or.inl rfl, z, rfl⟩) (hb C.2.1 hd) hr, hrun, hended, _, _, rfl, ⟨F, μ, H, h⟩, Nat.le_refl _, ReturnedEndW.of_narrow ⟨_, rfl⟩ hW (hsame.mono hk hn)⟩
theorem nreturn {t : FieldType} (C : Ctx p s m meth c Z own nm B ml (some t)) {z z' : Int32} (hd : decode B pc = .ok (.ireturn, 1)) (ht : t = .boolean ∨ t = .byte ∨ t = .char ∨ t = .short) (hz : nar t z = z') (hk : k ≤ kc) (hn : n ≤ ks) (h : P (some (.int z')) μ) : Go p l e R s m args below meth c Z n0 P kc ks μ k n (mkF m pc L (.int z :: st)) := fun T locs X F H => by
  subst hz
  obtain ⟨fs, hr, hrun, hended, hW, hsame⟩ := X.leave (v := some (.int (nar t z))) (fun h => by rw [C.2.2.2.2.2.1] at h; cases h) C.2.2.2.2.2.2.1
  exact ⟨_, _, retN X C.1 C.2.2.2.2.2.1 ht (hb C.2.1 hd) hr, hrun, hended, _, _, rfl, ⟨F, μ, H, h⟩, Nat.le_refl _, ReturnedEndW.of_narrow ⟨_, rfl⟩ hW (hsame.mono hk hn)⟩
theorem lreturn (C : Ctx p s m meth c Z own nm B ml (some .long)) {z : Int64} (hd : decode B pc = .ok (.lreturn, 1)) (hk : k ≤ kc) (hn : n ≤ ks) (h : P (some (.long z)) μ) : Go p l e R s m args below meth c Z n0 P kc ks μ k n (mkF m pc L (.long z :: st)) := fun T locs X F H => by
  obtain ⟨fs, hr, hrun, hended, hW, hsame⟩ := X.leave (v := some (.long z)) (fun h => by rw [C.2.2.2.2.2.1] at h; cases h) C.2.2.2.2.2.2.1
  exact ⟨_, _, retOut X C.1 C.2.2.2.2.2.1 rfl (Or.inr (Or.inl ⟨rfl, rfl, z, rfl⟩)) (hb C.2.1 hd) hr, hrun, hended, _, _, rfl, ⟨F, μ, H, h⟩, Nat.le_refl _, ReturnedEndW.of_narrow ⟨_, rfl⟩ hW (hsame.mono hk hn)⟩
theorem nref {t : FieldType} {v : Value} (h1 : t.isReference = true) (h2 : v.isRef = true) : narrow t v = v := by
  cases t <;> first | (cases h1; done) | rfl
theorem areturn {t : FieldType} (C : Ctx p s m meth c Z own nm B ml (some t)) {v : Value} (ht : t.isReference = true) (hv : v.isRef = true) (hd : decode B pc = .ok (.areturn, 1)) (hk : k ≤ kc) (hn : n ≤ ks) (h : P (some v) μ) : Go p l e R s m args below meth c Z n0 P kc ks μ k n (mkF m pc L (v :: st)) := fun T locs X F H => by
  obtain ⟨fs, hr, hrun, hended, hW, hsame⟩ := X.leave (v := some v) (fun h => by rw [C.2.2.2.2.2.1] at h; cases h) C.2.2.2.2.2.2.1
  exact ⟨_, _, retOut X C.1 C.2.2.2.2.2.1 (nref ht hv) (Or.inr (Or.inr (Or.inr (Or.inr ⟨rfl, ht, hv⟩)))) (hb C.2.1 hd) hr, hrun, hended, _, _, rfl, ⟨F, μ, H, h⟩, Nat.le_refl _, ReturnedEndW.of_narrow ⟨_, rfl⟩ hW (hsame.mono hk hn)⟩
theorem vreturn (C : Ctx p s m meth c Z own nm B ml none) (hd : decode B pc = .ok (.return_, 1)) (hk : k ≤ kc) (hn : n ≤ ks) (h : P none μ) : Go p l e R s m args below meth c Z n0 P kc ks μ k n (mkF m pc L []) := fun T locs X F H => by
  obtain ⟨fs, hr, hrun, hended, hW, hsame⟩ := X.leave (v := none) (fun _ => rfl) C.2.2.2.2.2.2.1
  exact ⟨_, _, X.returnOut C.1 C.2.2.2.2.2.1 (hb C.2.1 hd) hr, hrun, hended, _, _, rfl, ⟨F, μ, H, h⟩, Nat.le_refl _, ReturnedEndW.of_narrow ⟨_, rfl⟩ hW (hsame.mono hk hn)⟩
/-! what a callee leaves, by the kind of its return -/
def RV (Q : Mem → Prop) : Option Value → Mem → Prop := fun v μ => v = none ∧ Q μ
def RI (Q : Int32 → Mem → Prop) : Option Value → Mem → Prop := fun v μ => ∃ z, v = some (.int z) ∧ Q z μ
def RJ (Q : Int64 → Mem → Prop) : Option Value → Mem → Prop := fun v μ => ∃ z, v = some (.long z) ∧ Q z μ
def RR (Q : Value → Mem → Prop) : Option Value → Mem → Prop := fun v μ => ∃ z : Value, v = some z ∧ z.isRef = true ∧ Q z μ
section Nx
variable {k2 n2 : Nat}
theorem nxV {Q : Mem → Prop} (h : ∀ μ', Q μ' → Go p l e R s m args below meth c Z n0 P kc ks μ' k2 n2 (mkF m q L st)) : ∀ v μ', RV Q v μ' → Go p l e R s m args below meth c Z n0 P kc ks μ' k2 n2 (mkF m q L (v.toList ++ st)) := fun v μ' ⟨e1, e2⟩ => by subst e1; exact h μ' e2
theorem nxI {Q : Int32 → Mem → Prop} (h : ∀ z μ', Q z μ' → Go p l e R s m args below meth c Z n0 P kc ks μ' k2 n2 (mkF m q L (.int z :: st))) : ∀ v μ', RI Q v μ' → Go p l e R s m args below meth c Z n0 P kc ks μ' k2 n2 (mkF m q L (v.toList ++ st)) := fun v μ' ⟨z, e1, e2⟩ => by subst e1; exact h z μ' e2
theorem nxJ {Q : Int64 → Mem → Prop} (h : ∀ z μ', Q z μ' → Go p l e R s m args below meth c Z n0 P kc ks μ' k2 n2 (mkF m q L (.long z :: st))) : ∀ v μ', RJ Q v μ' → Go p l e R s m args below meth c Z n0 P kc ks μ' k2 n2 (mkF m q L (v.toList ++ st)) := fun v μ' ⟨z, e1, e2⟩ => by subst e1; exact h z μ' e2
theorem nxR {Q : Value → Mem → Prop} (h : ∀ z μ', z.isRef = true → Q z μ' → Go p l e R s m args below meth c Z n0 P kc ks μ' k2 n2 (mkF m q L (z :: st))) : ∀ v μ', RR Q v μ' → Go p l e R s m args below meth c Z n0 P kc ks μ' k2 n2 (mkF m q L (v.toList ++ st)) := fun v μ' ⟨z, e1, e2, e3⟩ => by subst e1; exact h z μ' e2 e3
end Nx
/-! calls by contract -/
theorem backs {y : MethodName} {B' : ByteArray} {ml' : Nat} {rt' : Option FieldType} {rm : Room} {len W : Nat} {as' : Array Value} {P' : Option Value → Mem → Prop} {h : Heap}
    (con : Con l Z n0 y B' ml' rt' [] rm rm.cells rm.slots as' μ P') (H : Hp Z n0 μ h) (hZ : Z.Warmed39 s.vm) (wc : (Cond.code y B' ml' rt').before a0 Z = true) (wz : (Cond.initialized y.cls).before a0 Z = true) (hf : rm.frames + 1 ≤ R.frames) (hl : W + (ml' + 11) + rm.locals ≤ R.locals) :
    BackS l R p e below s args y len W (fun A a => a = as' ∧ A.U.heap = h ∧ A.cells + rm.cells ≤ R.cells ∧ A.slots + rm.slots ≤ R.slots)
      (fun A _ v B => ∃ L, (Fr n0 L ∧ ∃ μ', Hp Z n0 μ' B.U.heap ∧ P' v μ') ∧ B.locs = A.locs ++ L ∧ B.cells = A.cells + rm.cells ∧ B.slots = A.slots + rm.slots) :=
  backOfS (Q := fun v h' L => Fr n0 L ∧ ∃ μ', Hp Z n0 μ' h' ∧ P' v μ') (con h H) hZ wc wz hf hl
theorem callS (C : Ctx p s m meth c Z own nm B ml rt) {i : Nat} {y : MethodName} {B' : ByteArray} {ml' : Nat} {rt' : Option FieldType} {rm : Room} {W : Nat} {argsL : List Value} {P' : Option Value → Mem → Prop} {S : List Value} (hd : decode B pc = .ok (.invokestatic i, 3)) (hq : pc + 3 = q)
    (w1 : (Cond.methodLink own i y).before a0 Z = true) (w2 : (Cond.static y).before a0 Z = true) (w3 : (Cond.initialized y.cls).before a0 Z = true) (w4 : (Cond.code y B' ml' rt').before a0 Z = true) (hy : y.cls ≠ "java/lang/invoke/MethodHandle" ∧ y.cls ≠ "java/lang/invoke/VarHandle")
    (hlen : ∀ sig, parseMethodDescriptor y.desc = some sig → argsL.length = sig.parameters.length) (hS : S = argsL.reverse ++ st) (hsz : L.size = ml) (hW : 2 * 0 + (st.map fun v => v.category).sum ≤ W) (hf : rm.frames + 1 ≤ R.frames) (hl : W + (ml' + 11) + rm.locals ≤ R.locals) (hc : k + rm.cells ≤ R.cells) (hs : n + rm.slots ≤ R.slots)
    (con : Con l Z n0 y B' ml' rt' [] rm rm.cells rm.slots argsL.toArray μ P')
    (k' : ∀ s' : State, Ctx p s' m meth c Z own nm B ml rt → Pers s s' → ∀ v μ', P' v μ' → Go p l e R s' m args below meth c Z n0 P kc ks μ' (k + rm.cells) (n + rm.slots) (mkF m q L (v.toList ++ st))) : Go p l e R s m args below meth c Z n0 P kc ks μ k n (mkF m pc L S) := by
  subst hq
  intro T locs X F H
  obtain ⟨v, vm1, ⟨T', L', k2, n2⟩, -, X', hS, hgr, ⟨Lc, ⟨N, μ', H', hP⟩, e1, e2, e3⟩, stp⟩ := Jvm.RoadKit.callSS X C.1 (y := y) C.2.2.2.2.1 (mvT C.2.2.2.1 w1) (mvT C.2.2.2.1 w2) (mvT C.2.2.2.1 w3) (mvT C.2.2.2.1 w4) hy (backs (W := W) con H C.2.2.2.1 w4 w3 hf hl) (g := mkF m pc L S) rfl (hsz.trans C.2.2.1.symm) (argsL := argsL) (rest := st) hlen hS hW (hb C.2.1 hd) (fun _ _ => ⟨rfl, rfl, hc, hs⟩)
  dsimp only [Pt.U, Pt.locs, Pt.cells, Pt.slots] at X' e1 e2 e3 stp H' hS hgr
  subst e1 e2 e3
  obtain ⟨s2, o, h1, h2⟩ := k' (s.setVm T'.vm) (C.to hS) (Pers.of hS) v μ' hP T' _ X' (F.app N) H'
  exact ⟨s2, o, stp.trans h1, upS hS (Nat.le_refl _) hgr h2⟩
theorem callI (C : Ctx p s m meth c Z own nm B ml rt) {i : Nat} {y : MethodName} {B' : ByteArray} {ml' : Nat} {rm : Room} {W : Nat} {argsL : List Value} {P' : Option Value → Mem → Prop} {S : List Value} {a : Addr} (hd : decode B pc = .ok (.invokespecial i, 3)) (hq : pc + 3 = q) (hnm : y.name = "<init>")
    (w1 : (Cond.methodLink own i y).before a0 Z = true) (w2 : (Cond.instanceMethod y).before a0 Z = true) (w3 : (Cond.initialized y.cls).before a0 Z = true) (w4 : (Cond.code y B' ml' none).before a0 Z = true) (hy : y.cls ≠ "java/lang/invoke/MethodHandle" ∧ y.cls ≠ "java/lang/invoke/VarHandle")
    (hlen : ∀ sig, parseMethodDescriptor y.desc = some sig → argsL.length = sig.parameters.length) (hS : S = argsL.reverse ++ .ref a :: st) (hsz : L.size = ml) (hW : 2 * 0 + (st.map fun v => v.category).sum ≤ W) (hf : rm.frames + 1 ≤ R.frames) (hl : W + (ml' + 11) + rm.locals ≤ R.locals) (hc : k + rm.cells ≤ R.cells) (hs : n + rm.slots ≤ R.slots)
    (con : Con l Z n0 y B' ml' none [] rm rm.cells rm.slots (.ref a :: argsL).toArray μ P')
    (k' : ∀ s' : State, Ctx p s' m meth c Z own nm B ml rt → Pers s s' → ∀ v μ', P' v μ' → Go p l e R s' m args below meth c Z n0 P kc ks μ' (k + rm.cells) (n + rm.slots) (mkF m q L (v.toList ++ st))) : Go p l e R s m args below meth c Z n0 P kc ks μ k n (mkF m pc L S) := by
  subst hq
  intro T locs X F H
  obtain ⟨v, vm1, ⟨T', L', k2, n2⟩, -, X', hS, hgr, ⟨Lc, ⟨N, μ', H', hP⟩, e1, e2, e3⟩, stp⟩ := X.specialBackS C.1 (y := y) hnm C.2.2.2.2.1 (mvT C.2.2.2.1 w1) (mvT C.2.2.2.1 w2) (mvT C.2.2.2.1 w4) hy (backs (W := W) con H C.2.2.2.1 w4 w3 hf hl) (g := mkF m pc L S) rfl (hsz.trans C.2.2.1.symm) (Steps.refl _) (a := a) (argsL := argsL) (rest := st) hlen hS hW (hb C.2.1 hd) (fun _ _ => ⟨rfl, rfl, hc, hs⟩)
  dsimp only [Pt.U, Pt.locs, Pt.cells, Pt.slots] at X' e1 e2 e3 stp H' hS hgr
  subst e1 e2 e3
  obtain ⟨s2, o, h1, h2⟩ := k' (s.setVm T'.vm) (C.to hS) (Pers.of hS) v μ' hP T' _ X' (F.app N) H'
  exact ⟨s2, o, stp.trans h1, upS hS (Nat.le_refl _) hgr h2⟩
theorem initObj (C : Ctx p s m meth c Z own nm B ml rt) {i W : Nat} {a : Addr} (hd : decode B pc = .ok (.invokespecial i, 3)) (hq : pc + 3 = q) (w1 : (Cond.methodLink own i Lib.objectInit).before a0 Z = true) (w2 : (Cond.instanceMethod Lib.objectInit).before a0 Z = true) (w3 : (Cond.code Lib.objectInit ⟨#[0xb1]⟩ 1 none).before a0 Z = true)
    (hsz : L.size = ml) (hf : 1 ≤ R.frames) (hW : 2 * 0 + (st.map fun v => v.category).sum ≤ W) (hl : W + 12 ≤ R.locals) (k' : Go p l e R s m args below meth c Z n0 P kc ks μ k n (mkF m q L st)) : Go p l e R s m args below meth c Z n0 P kc ks μ k n (mkF m pc L (.ref a :: st)) := by
  subst hq
  exact Go.stand k' fun T locs X H => initO X C.1 C.2.2.2.1 C.2.2.2.2.1 w1 w2 w3 rfl (g := mkF m pc L (.ref a :: st)) rfl (hsz.trans C.2.2.1.symm) rfl (hb C.2.1 hd) hf hW hl
theorem callV (C : Ctx p s m meth c Z own nm B ml rt) {i : Nat} {y z : MethodName} {K : String} {fs : List (Key × Value)} {B' : ByteArray} {ml' : Nat} {rt' : Option FieldType} {rm : Room} {W : Nat} {argsL : List Value} {P' : Option Value → Mem → Prop} {S : List Value} {a : Addr} (hd : decode B pc = .ok (.invokevirtual i, 3)) (hq : pc + 3 = q)
    (w1 : (Cond.methodLink own i y).before a0 Z = true) (w2 : (Cond.declares y).before a0 Z = true) (hnf : NotFace s y) (w5 : (Cond.selects K y z).before a0 Z = true) (w6 : (Cond.instanceMethod z).before a0 Z = true) (w3 : (Cond.initialized z.cls).before a0 Z = true) (w4 : (Cond.code z B' ml' rt').before a0 Z = true) (hy : y.cls ≠ "java/lang/invoke/MethodHandle" ∧ y.cls ≠ "java/lang/invoke/VarHandle")
    (hlen : ∀ sig, parseMethodDescriptor y.desc = some sig → argsL.length = sig.parameters.length) (hS : S = argsL.reverse ++ .ref a :: st) (hsz : L.size = ml) (hW : 2 * 0 + (st.map fun v => v.category).sum ≤ W) (hf : rm.frames + 1 ≤ R.frames) (hl : W + (ml' + 11) + rm.locals ≤ R.locals) (hc : k + rm.cells ≤ R.cells) (hs : n + rm.slots ≤ R.slots)
    (hμ : μ a = some (.inl (K, fs))) (con : Con l Z n0 z B' ml' rt' [] rm rm.cells rm.slots (.ref a :: argsL).toArray μ P')
    (k' : ∀ s' : State, Ctx p s' m meth c Z own nm B ml rt → Pers s s' → ∀ v μ', P' v μ' → Go p l e R s' m args below meth c Z n0 P kc ks μ' (k + rm.cells) (n + rm.slots) (mkF m q L (v.toList ++ st))) : Go p l e R s m args below meth c Z n0 P kc ks μ k n (mkF m pc L S) := by
  subst hq
  intro T locs X F H
  obtain ⟨cq, kq, qa, qb, qc⟩ := isOf (T := T) C.2.2.2.1 rfl (H.2 a _ hμ).1
  obtain ⟨v, vm1, ⟨T', L', k2, n2⟩, -, X', hS, hgr, ⟨Lc, ⟨N, μ', H', hP⟩, e1, e2, e3⟩, stp⟩ := X.virtualBackS C.1 (y := y) (z := z) C.2.2.2.2.1 (mvT C.2.2.2.1 w1) (mvT C.2.2.2.1 w2) hnf (mvT C.2.2.2.1 w5) (mvT C.2.2.2.1 w6) hy (backs (W := W) con H C.2.2.2.1 w4 w3 hf hl) qa qc (g := mkF m pc L S) rfl (hsz.trans C.2.2.1.symm) (Steps.refl _) (argsL := argsL) (rest := st) hlen hS hW (hb C.2.1 hd) (fun _ _ => ⟨rfl, rfl, hc, hs⟩)
  dsimp only [Pt.U, Pt.locs, Pt.cells, Pt.slots] at X' e1 e2 e3 stp H' hS hgr
  subst e1 e2 e3
  obtain ⟨s2, o, h1, h2⟩ := k' (s.setVm T'.vm) (C.to hS) (Pers.of hS) v μ' hP T' _ X' (F.app N) H'
  exact ⟨s2, o, stp.trans h1, upS hS (Nat.le_refl _) hgr h2⟩
theorem callP (C : Ctx p s m meth c Z own nm B ml rt) {i : Nat} {y : MethodName} {K : String} {fs : List (Key × Value)} {B' : ByteArray} {ml' : Nat} {rt' : Option FieldType} {rm : Room} {W : Nat} {argsL : List Value} {P' : Option Value → Mem → Prop} {S : List Value} {a : Addr} (hd : decode B pc = .ok (.invokevirtual i, 3)) (hq : pc + 3 = q)
    (w1 : (Cond.methodLink own i y).before a0 Z = true) (w2 : (Cond.privateMethod y).before a0 Z = true) {kk : Nat} (w5 : (Cond.instantiable y.cls kk).before a0 Z = true) (w6 : (Cond.instanceMethod y).before a0 Z = true) (w3 : (Cond.initialized y.cls).before a0 Z = true) (w4 : (Cond.code y B' ml' rt').before a0 Z = true) (hy : y.cls ≠ "java/lang/invoke/MethodHandle" ∧ y.cls ≠ "java/lang/invoke/VarHandle")
    (hlen : ∀ sig, parseMethodDescriptor y.desc = some sig → argsL.length = sig.parameters.length) (hS : S = argsL.reverse ++ .ref a :: st) (hsz : L.size = ml) (hW : 2 * 0 + (st.map fun v => v.category).sum ≤ W) (hf : rm.frames + 1 ≤ R.frames) (hl : W + (ml' + 11) + rm.locals ≤ R.locals) (hc : k + rm.cells ≤ R.cells) (hs : n + rm.slots ≤ R.slots)
    (hμ : μ a = some (.inl (K, fs))) (con : Con l Z n0 y B' ml' rt' [] rm rm.cells rm.slots (.ref a :: argsL).toArray μ P')
    (k' : ∀ s' : State, Ctx p s' m meth c Z own nm B ml rt → Pers s s' → ∀ v μ', P' v μ' → Go p l e R s' m args below meth c Z n0 P kc ks μ' (k + rm.cells) (n + rm.slots) (mkF m q L (v.toList ++ st))) : Go p l e R s m args below meth c Z n0 P kc ks μ k n (mkF m pc L S) := by
  subst hq
  intro T locs X F H
  obtain ⟨cq, q1, q2⟩ := (H.2 a _ hμ).1.cell
  have hp : s.PrivateAt y := Cond.privateMethod_at (mvP C.2.2.2.1 w2 (args := #[]))
  obtain ⟨c2, k2, i1, i2, -, i4, -⟩ := Cond.instantiable_spec (show (Cond.instantiable y.cls kk).before args s = true from mvT C.2.2.2.1 w5)
  have h5 : (Cond.selects y.cls y y).before args s = true := Jvm.Stand.selects_self_of_private i1 i2 (by simp only [Bool.or_eq_false_iff] at i4; exact i4.1) hp (mvT C.2.2.2.1 w6) hy
  obtain ⟨v, vm1, ⟨T', L', k2, n2⟩, -, X', hS, hgr, ⟨Lc, ⟨N, μ', H', hP⟩, e1, e2, e3⟩, stp⟩ := X.privateBackS C.1 (y := y) C.2.2.2.2.1 (mvT C.2.2.2.1 w1) (mvT C.2.2.2.1 w6) h5 hp (mvT C.2.2.2.1 w4) hy (backs (W := W) con H C.2.2.2.1 w4 w3 hf hl) (g := mkF m pc L S) rfl (hsz.trans C.2.2.1.symm) (Steps.refl _) (a := a) q1 q2 (argsL := argsL) (rest := st) hlen hS hW (hb C.2.1 hd) (fun _ _ => ⟨rfl, rfl, hc, hs⟩)
  dsimp only [Pt.U, Pt.locs, Pt.cells, Pt.slots] at X' e1 e2 e3 stp H' hS hgr
  subst e1 e2 e3
  obtain ⟨s2, o, h1, h2⟩ := k' (s.setVm T'.vm) (C.to hS) (Pers.of hS) v μ' hP T' _ X' (F.app N) H'
  exact ⟨s2, o, stp.trans h1, upS hS (Nat.le_refl _) hgr h2⟩
end Rules
end Jvm.Own
namespace Jvm.Own
open Sem ClassFile Op Lib Jvm.Stand Jvm.Free Jvm.LawKit Jvm.RoadKit
section Dbl
variable {p : Program} {l : Launch} {e : Env} {R : Room} {s : State} {m : MethodId} {args : Array Value} {below : List Frame} {meth : Method} {c : Code} {Z : State} {a0 : Array Value} {n0 : Nat} {P : Option Value → Mem → Prop} {kc ks : Nat} {μ : Mem} {k n : Nat}
  {own nm : String} {B : ByteArray} {ml : Nat} {rt : Option FieldType} {pc q : Nat} {L L' : Array Slot} {st : List Value}
theorem dloadN (C : Ctx p s m meth c Z own nm B ml rt) {i : Fin 4} {v : UInt64} (hd : decode B pc = .ok (.dload_n i, 1)) (hq : pc + 1 = q) (hl : L[i.val]? = some (.val (.double v))) (k' : Go p l e R s m args below meth c Z n0 P kc ks μ k n (mkF m q L (.double v :: st))) : Go p l e R s m args below meth c Z n0 P kc ks μ k n (mkF m pc L st) := by
  subst hq
  exact Go.pure k' fun T h t hr => XS.dloadN h C.1 rfl (hb C.2.1 hd) hl hr
theorem dstoreN (C : Ctx p s m meth c Z own nm B ml rt) {i : Fin 4} {v : UInt64} (hd : decode B pc = .ok (.dstore_n i, 1)) (hq : pc + 1 = q) (hl : storeLocals L i.val (.double v) = some L') (k' : Go p l e R s m args below meth c Z n0 P kc ks μ k n (mkF m q L' st)) : Go p l e R s m args below meth c Z n0 P kc ks μ k n (mkF m pc L (.double v :: st)) := by
  subst hq
  exact Go.pure k' fun T h t hr => XS.dstoreN h C.1 rfl (hb C.2.1 hd) rfl hl hr
theorem dload (C : Ctx p s m meth c Z own nm B ml rt) {i : Nat} {v : UInt64} (hd : decode B pc = .ok (.dload i, 2)) (hq : pc + 2 = q) (hl : L[i]? = some (.val (.double v))) (k' : Go p l e R s m args below meth c Z n0 P kc ks μ k n (mkF m q L (.double v :: st))) : Go p l e R s m args below meth c Z n0 P kc ks μ k n (mkF m pc L st) := by
  subst hq
  exact Go.pure k' fun T h t hr => XS.dload h C.1 rfl (hb C.2.1 hd) hl hr
theorem dstore (C : Ctx p s m meth c Z own nm B ml rt) {i : Nat} {v : UInt64} (hd : decode B pc = .ok (.dstore i, 2)) (hq : pc + 2 = q) (hl : storeLocals L i (.double v) = some L') (k' : Go p l e R s m args below meth c Z n0 P kc ks μ k n (mkF m q L' st)) : Go p l e R s m args below meth c Z n0 P kc ks μ k n (mkF m pc L (.double v :: st)) := by
  subst hq
  exact Go.pure k' fun T h t hr => XS.dstore h C.1 rfl (hb C.2.1 hd) rfl hl hr
theorem dconst0 (C : Ctx p s m meth c Z own nm B ml rt) (hd : decode B pc = .ok (.dconst 0, 1)) (hq : pc + 1 = q) (k' : Go p l e R s m args below meth c Z n0 P kc ks μ k n (mkF m q L (.double FP.dconst0 :: st))) : Go p l e R s m args below meth c Z n0 P kc ks μ k n (mkF m pc L st) := by
  subst hq
  exact Go.pure k' fun T h t hr => XS.dconst0 h C.1 rfl (hb C.2.1 hd) rfl hr
theorem dconst1 (C : Ctx p s m meth c Z own nm B ml rt) (hd : decode B pc = .ok (.dconst 1, 1)) (hq : pc + 1 = q) (k' : Go p l e R s m args below meth c Z n0 P kc ks μ k n (mkF m q L (.double FP.dconst1 :: st))) : Go p l e R s m args below meth c Z n0 P kc ks μ k n (mkF m pc L st) := by
  subst hq
  exact Go.pure k' fun T h t hr => XS.dconst1 h C.1 rfl (hb C.2.1 hd) rfl hr
theorem i2d (C : Ctx p s m meth c Z own nm B ml rt) {x : Int32} (hd : decode B pc = .ok (.i2d, 1)) (hq : pc + 1 = q) (k' : Go p l e R s m args below meth c Z n0 P kc ks μ k n (mkF m q L (.double (FP.i2d x) :: st))) : Go p l e R s m args below meth c Z n0 P kc ks μ k n (mkF m pc L (.int x :: st)) := by
  subst hq
  exact Go.pure k' fun T h t hr => XS.i2dS h C.1 rfl (hb C.2.1 hd) rfl rfl hr
theorem dadd (C : Ctx p s m meth c Z own nm B ml rt) {x y : UInt64} (hd : decode B pc = .ok (.dadd, 1)) (hq : pc + 1 = q) (hn : Jvm.Free.Fl.NoNaN64 (FP.dadd x y)) (k' : Go p l e R s m args below meth c Z n0 P kc ks μ k n (mkF m q L (.double (FP.dadd x y) :: st))) : Go p l e R s m args below meth c Z n0 P kc ks μ k n (mkF m pc L (.double y :: .double x :: st)) := by
  subst hq
  exact Go.pure k' fun T h t hr => XS.daddS h C.1 rfl (hb C.2.1 hd) rfl hn rfl hr
theorem dsub (C : Ctx p s m meth c Z own nm B ml rt) {x y : UInt64} (hd : decode B pc = .ok (.dsub, 1)) (hq : pc + 1 = q) (hn : Jvm.Free.Fl.NoNaN64 (FP.dsub x y)) (k' : Go p l e R s m args below meth c Z n0 P kc ks μ k n (mkF m q L (.double (FP.dsub x y) :: st))) : Go p l e R s m args below meth c Z n0 P kc ks μ k n (mkF m pc L (.double y :: .double x :: st)) := by
  subst hq
  exact Go.pure k' fun T h t hr => XS.dsubS h C.1 rfl (hb C.2.1 hd) rfl hn rfl hr
theorem dmul (C : Ctx p s m meth c Z own nm B ml rt) {x y : UInt64} (hd : decode B pc = .ok (.dmul, 1)) (hq : pc + 1 = q) (hn : Jvm.Free.Fl.NoNaN64 (FP.dmul x y)) (k' : Go p l e R s m args below meth c Z n0 P kc ks μ k n (mkF m q L (.double (FP.dmul x y) :: st))) : Go p l e R s m args below meth c Z n0 P kc ks μ k n (mkF m pc L (.double y :: .double x :: st)) := by
  subst hq
  exact Go.pure k' fun T h t hr => XS.dmulS h C.1 rfl (hb C.2.1 hd) rfl hn rfl hr
theorem ddiv (C : Ctx p s m meth c Z own nm B ml rt) {x y : UInt64} (hd : decode B pc = .ok (.ddiv, 1)) (hq : pc + 1 = q) (hn : Jvm.Free.Fl.NoNaN64 (FP.ddiv x y)) (k' : Go p l e R s m args below meth c Z n0 P kc ks μ k n (mkF m q L (.double (FP.ddiv x y) :: st))) : Go p l e R s m args below meth c Z n0 P kc ks μ k n (mkF m pc L (.double y :: .double x :: st)) := by
  subst hq
  exact Go.pure k' fun T h t hr => XS.ddivS h C.1 rfl (hb C.2.1 hd) rfl hn rfl hr
theorem dcmp (C : Ctx p s m meth c Z own nm B ml rt) {x y : UInt64} {o : CmpOp} (hd : decode B pc = .ok (.dcmp o, 1)) (hq : pc + 1 = q) (k' : ∀ z : Int32, z = cmpValue (FP.dcmp x y) o → Go p l e R s m args below meth c Z n0 P kc ks μ k n (mkF m q L (.int z :: st))) : Go p l e R s m args below meth c Z n0 P kc ks μ k n (mkF m pc L (.double y :: .double x :: st)) := by
  subst hq
  exact Go.pure (k' _ rfl) fun T h t hr => XS.dcmpS h C.1 rfl (hb C.2.1 hd) rfl rfl hr
theorem ldcD (C : Ctx p s m meth c Z own nm B ml rt) {i : Nat} {v : UInt64} (hd : decode B pc = .ok (.ldc2_w i, 3)) (hq : pc + 3 = q) (w : (Cond.constantDouble own i v).before a0 Z = true) (k' : Go p l e R s m args below meth c Z n0 P kc ks μ k n (mkF m q L (.double v :: st))) : Go p l e R s m args below meth c Z n0 P kc ks μ k n (mkF m pc L st) := by
  subst hq
  exact Go.stand k' fun T locs X H => ⟨T, X, rfl, X.ldc2DoubleC C.1 C.2.2.2.2.1 (mvT C.2.2.2.1 w) (g := mkF m pc L st) rfl (hb C.2.1 hd)⟩
theorem dreturn (C : Ctx p s m meth c Z own nm B ml (some .double)) {z : UInt64} (hd : decode B pc = .ok (.dreturn, 1)) (hk : k ≤ kc) (hn : n ≤ ks) (h : P (some (.double z)) μ) : Go p l e R s m args below meth c Z n0 P kc ks μ k n (mkF m pc L (.double z :: st)) := fun T locs X F H => by
  obtain ⟨fs, hr, hrun, hended, hW, hsame⟩ := X.leave (v := some (.double z)) (fun h => by rw [C.2.2.2.2.2.1] at h; cases h) C.2.2.2.2.2.2.1
  exact ⟨_, _, retOut X C.1 C.2.2.2.2.2.1 rfl (Or.inr (Or.inr (Or.inl ⟨rfl, rfl, z, rfl⟩))) (hb C.2.1 hd) hr, hrun, hended, _, _, rfl, ⟨F, μ, H, h⟩, Nat.le_refl _, ReturnedEndW.of_narrow ⟨_, rfl⟩ hW (hsame.mono hk hn)⟩
def RD (Q : UInt64 → Mem → Prop) : Option Value → Mem → Prop := fun v μ => ∃ z, v = some (.double z) ∧ Q z μ
theorem nxD {k2 n2 : Nat} {Q : UInt64 → Mem → Prop} (h : ∀ z μ', Q z μ' → Go p l e R s m args below meth c Z n0 P kc ks μ' k2 n2 (mkF m q L (.double z :: st))) : ∀ v μ', RD Q v μ' → Go p l e R s m args below meth c Z n0 P kc ks μ' k2 n2 (mkF m q L (v.toList ++ st)) := fun v μ' ⟨z, e1, e2⟩ => by subst e1; exact h z μ' e2
end Dbl
end Jvm.Own
namespace Jvm.Own
open Sem ClassFile Op Lib Jvm.Stand Jvm.Free Jvm.LawKit Jvm.RoadKit
section Wide
variable {p : Program} {l : Launch} {e : Env} {R : Room} {s : State} {m : MethodId} {args : Array Value} {below : List Frame} {meth : Method} {c : Code} {Z : State} {a0 : Array Value} {n0 : Nat} {P : Option Value → Mem → Prop} {kc ks : Nat} {μ : Mem} {k n : Nat}
  {own nm : String} {B : ByteArray} {ml : Nat} {rt : Option FieldType} {pc q : Nat} {L L' : Array Slot} {st : List Value}
theorem ldcS (C : Ctx p s m meth c Z own nm B ml rt) {i : Nat} {t : String} {N : Nat} (hd : decode B pc = .ok (.ldc i, 2)) (hq : pc + 2 = q) (w : (Cond.stringLink own i t).before a0 Z = true) (wS : ∀ a ∈ Bundle.stringAtoms, a.before a0 Z = true) (hN : 4 * t.toList.length ≤ N) (hbig : N ≤ 536870912) (hc : k + 2 ≤ R.cells) (hs : n + (N + 4) ≤ R.slots)
    (k' : ∀ s' : State, Ctx p s' m meth c Z own nm B ml rt → ∀ a : Addr, Go p l e R s' m args below meth c Z n0 P kc ks μ (k + 2) (n + (N + 4)) (mkF m q L (.ref a :: st))) : Go p l e R s m args below meth c Z n0 P kc ks μ k n (mkF m pc L st) := by
  subst hq
  intro T locs X F H
  have X0 : Stand p l e R (s.setVm s.vm) m args below meth c T locs k n := X
  obtain ⟨a, T', h', k1, X', e', E, hS, hk1, hZ', ho', stp⟩ := RoadKit.ldcS X0 C.1 C.2.2.2.1 C.2.2.2.2.1 w wS rfl ((State.WarmedH.refl s).since T.heap.size) (Nat.le_refl _) (g := mkF m pc L st) rfl (hb C.2.1 hd) hN hbig hc hs
  obtain ⟨s2, o, h1, h2⟩ := k' (s.setVm T'.vm) (C.to hS) a T' _ X' F (by rw [e']; exact H.ext E)
  exact ⟨s2, o, stp _ h1, upS hS (by rw [e']; exact hk1) (by rw [e']; exact E.1) h2⟩
end Wide
end Jvm.Own
namespace Jvm.Own
open Sem ClassFile Op Lib Jvm.Stand Jvm.Free Jvm.LawKit Jvm.RoadKit
theorem ne_ra {μ : Mem} {a b : Addr} {x : FieldType × List Value} {y : String × List (Key × Value)} (h1 : μ b = some (.inr x)) (h2 : μ a = some (.inl y)) : b ≠ a := fun e => by subst e; rw [h1] at h2; cases h2
theorem ne_oo {μ : Mem} {a b : Addr} {C D : String} {x y : List (Key × Value)} (h1 : μ b = some (.inl (C, x))) (h2 : μ a = some (.inl (D, y))) (h : C ≠ D) : b ≠ a := fun e => by subst e; rw [h1] at h2; cases h2; exact h rfl
theorem upd_cases {μ : Mem} {a x : Addr} {o o' : Obj} (h : upd μ a o x = some o') : (x = a ∧ o = o') ∨ μ x = some o' := by
  unfold upd at h; split at h
  · rename_i e; exact Or.inl ⟨e, Option.some.inj h⟩
  · exact Or.inr h
section Lit
variable {p : Program} {l : Launch} {e : Env} {R : Room} {s : State} {m : MethodId} {args : Array Value} {below : List Frame} {meth : Method} {c : Code} {Z : State} {a0 : Array Value} {n0 : Nat} {P : Option Value → Mem → Prop} {kc ks : Nat} {μ : Mem} {k n : Nat}
  {own nm : String} {B : ByteArray} {ml : Nat} {rt : Option FieldType} {pc q : Nat} {L L' : Array Slot} {st : List Value}
theorem castYes (C : Ctx p s m meth c Z own nm B ml rt) {i : Nat} {K : String} {a : Addr} {fs : List (Key × Value)} (hd : decode B pc = .ok (.checkcast i, 3)) (hq : pc + 3 = q) (w : (Cond.classLink own i K).before a0 Z = true) (hμ : μ a = some (.inl (K, fs))) (k' : Go p l e R s m args below meth c Z n0 P kc ks μ k n (mkF m q L (.ref a :: st))) : Go p l e R s m args below meth c Z n0 P kc ks μ k n (mkF m pc L (.ref a :: st)) := by
  subst hq
  exact Go.stand k' fun T locs X H => castY X C.1 C.2.2.2.1 C.2.2.2.2.1 w rfl (Ins.self (H.2 a _ hμ).1) (g := mkF m pc L (.ref a :: st)) rfl rfl (hb C.2.1 hd)
theorem castArr (C : Ctx p s m meth c Z own nm B ml rt) {i : Nat} {K : String} {a : Addr} {ty : FieldType} {vs : List Value} (hd : decode B pc = .ok (.checkcast i, 3)) (hq : pc + 3 = q) (w : (Cond.classLink own i K).before a0 Z = true) (hμ : μ a = some (.inr (ty, vs))) (ha : n0 ≤ a) (hN : nameOf ty = some K) (k' : Go p l e R s m args below meth c Z n0 P kc ks μ k n (mkF m q L (.ref a :: st))) : Go p l e R s m args below meth c Z n0 P kc ks μ k n (mkF m pc L (.ref a :: st)) := by
  subst hq
  refine Go.stand k' fun T locs X H => ?_
  obtain ⟨cl, -, -, -, -, t⟩ := H.2 a _ hμ
  exact castY X C.1 C.2.2.2.1 C.2.2.2.2.1 w rfl (Ins.self ((t ha).2 K hN)) (g := mkF m pc L (.ref a :: st)) rfl rfl (hb C.2.1 hd)
theorem l2d (C : Ctx p s m meth c Z own nm B ml rt) {x : Int64} (hd : decode B pc = .ok (.l2d, 1)) (hq : pc + 1 = q) (k' : Go p l e R s m args below meth c Z n0 P kc ks μ k n (mkF m q L (.double (FP.l2d x) :: st))) : Go p l e R s m args below meth c Z n0 P kc ks μ k n (mkF m pc L (.long x :: st)) := by
  subst hq
  exact Go.pure k' fun T h t hr => XS.l2dS h C.1 rfl (hb C.2.1 hd) rfl rfl hr
theorem ddivE (C : Ctx p s m meth c Z own nm B ml rt) {x y z : UInt64} (hd : decode B pc = .ok (.ddiv, 1)) (hq : pc + 1 = q) (hn : Jvm.Free.Fl.NoNaN64 (FP.ddiv x y)) (hz : FP.ddiv x y = z) (k' : Go p l e R s m args below meth c Z n0 P kc ks μ k n (mkF m q L (.double z :: st))) : Go p l e R s m args below meth c Z n0 P kc ks μ k n (mkF m pc L (.double y :: .double x :: st)) := by
  subst hz; exact Own.ddiv C hd hq hn k'
theorem dmulE (C : Ctx p s m meth c Z own nm B ml rt) {x y z : UInt64} (hd : decode B pc = .ok (.dmul, 1)) (hq : pc + 1 = q) (hn : Jvm.Free.Fl.NoNaN64 (FP.dmul x y)) (hz : FP.dmul x y = z) (k' : Go p l e R s m args below meth c Z n0 P kc ks μ k n (mkF m q L (.double z :: st))) : Go p l e R s m args below meth c Z n0 P kc ks μ k n (mkF m pc L (.double y :: .double x :: st)) := by
  subst hz; exact Own.dmul C hd hq hn k'
theorem daload (C : Ctx p s m meth c Z own nm B ml rt) {vs : List Value} {a : Addr} {j : Int32} {v : Value} (hd : decode B pc = .ok (.daload, 1)) (hq : pc + 1 = q) (hμ : μ a = some (.inr (.double, vs))) (h0 : ¬ j < 0) (hv : vs[j.toNatClampNeg]? = some v) (k' : Go p l e R s m args below meth c Z n0 P kc ks μ k n (mkF m q L (v :: st))) : Go p l e R s m args below meth c Z n0 P kc ks μ k n (mkF m pc L (.int j :: .ref a :: st)) := by
  subst hq
  intro T locs X F H
  obtain ⟨cl, A, e1, -⟩ := H.2 a _ hμ
  obtain ⟨s2, o, h1, h2⟩ := k' T _ X F H
  exact ⟨s2, o, X.daload C.1 A.1 (State.isArrayOf_alike C.2.2.2.1.alike A.2.1) A.2.2 (inb e1 h0 (List.getElem?_eq_some_iff.mp hv).1) (atL e1 hv) (g := mkF m pc L (.int j :: .ref a :: st)) rfl rfl (hb C.2.1 hd) _ h1, h2⟩
theorem dastore (C : Ctx p s m meth c Z own nm B ml rt) {vs : List Value} {a : Addr} {j : Int32} {x : UInt64} (hd : decode B pc = .ok (.dastore, 1)) (hq : pc + 1 = q) (hμ : μ a = some (.inr (.double, vs))) (h0 : ¬ j < 0) (hj : j.toNatClampNeg < vs.length) (ha : n0 ≤ a) (k' : Go p l e R s m args below meth c Z n0 P kc ks (upd μ a (.inr (.double, vs.set j.toNatClampNeg (.double x)))) k n (mkF m q L st)) : Go p l e R s m args below meth c Z n0 P kc ks μ k n (mkF m pc L ((.double x) :: .int j :: .ref a :: st)) := by
  subst hq
  intro T locs X F H
  have I := H.2 a _ hμ
  obtain ⟨cl, A, e1, -⟩ := id I
  obtain ⟨T', h', X', e', W, stp⟩ := stD X C.1 C.2.2.2.1 rfl A (inb e1 h0 hj) (g := mkF m pc L ((.double x) :: .int j :: .ref a :: st)) rfl rfl (hb C.2.1 hd)
  obtain ⟨s2, o, h1, h2⟩ := k' T' _ X' (Fr.snoc X' F ha) (by rw [e']; exact H.wr W ha (IsA.put I rfl W))
  exact ⟨s2, o, stp _ h1, up (Nat.le_of_eq (by rw [e', W.size])) h2⟩
theorem strsAt {as : Array Value} (hZ : Z.Warmed39 s.vm) (wS : ∀ a ∈ Bundle.stringAtoms, a.before a0 Z = true) : ∀ a ∈ Bundle.stringAtoms, a.before as s = true := fun d hd => by
  have q := wS d hd
  by_cases hA : d = .arrayClass .byte
  · subst hA; exact mvA hZ q
  · simp only [Bundle.stringAtoms, List.mem_cons, List.not_mem_nil, or_false] at hd
    rcases hd with rfl | rfl | rfl | rfl | rfl | rfl | rfl <;> first | exact absurd rfl hA | exact mv hZ q
theorem ldcL (C : Ctx p s m meth c Z own nm B ml rt) {i : Nat} {t : String} {N : Nat} (hd : decode B pc = .ok (.ldc i, 2)) (hq : pc + 2 = q) (w : (Cond.stringLink own i t).before a0 Z = true) (wS : ∀ a ∈ Bundle.stringAtoms, a.before a0 Z = true) (hN : 4 * t.toList.length ≤ N) (hbig : N ≤ 536870912) (hc : k + 2 ≤ R.cells) (hs : n + (N + 4) ≤ R.slots)
    (k' : ∀ s' : State, Ctx p s' m meth c Z own nm B ml rt → Pers s s' → ∀ a : Addr, Lit s' own i a → Go p l e R s' m args below meth c Z n0 P kc ks μ (k + 2) (n + (N + 4)) (mkF m q L (.ref a :: st))) : Go p l e R s m args below meth c Z n0 P kc ks μ k n (mkF m pc L st) := by
  subst hq
  intro T locs X F H
  obtain ⟨a, T', X', hS, ⟨kk, hkk, hrr⟩, hb', -, stp⟩ := X.ldcStringCold C.1 (own := own) C.2.2.2.2.1 (mvS (s := s) C.2.2.2.1 w) (strsAt C.2.2.2.1 wS) (g := mkF m pc L st) rfl (hb C.2.1 hd) hN hbig hc hs
  have E := ext_of hb'
  have hf : T'.vm.findClass own = some m.cls := by rw [hS.1.alike.findClass]; exact C.2.2.2.2.1
  have LI : Lit (s.setVm T'.vm) own i a := by simp [Lit, State.resolvedAt?, hf, hkk, hrr]
  obtain ⟨s2, o, h1, h2⟩ := k' (s.setVm T'.vm) (C.to hS) (Pers.of hS) a LI T' _ X' F (H.ext E)
  exact ⟨s2, o, stp _ h1, upS hS (Nat.le_refl _) E.1 h2⟩
theorem ldcA (C : Ctx p s m meth c Z own nm B ml rt) {i : Nat} {t : String} {a : Addr} (hd : decode B pc = .ok (.ldc i, 2)) (hq : pc + 2 = q) (w : (Cond.stringLink own i t).before a0 Z = true) (LI : Lit s own i a) (k' : Go p l e R s m args below meth c Z n0 P kc ks μ k n (mkF m q L (.ref a :: st))) : Go p l e R s m args below meth c Z n0 P kc ks μ k n (mkF m pc L st) := by
  subst hq
  refine Go.stand k' fun T locs X H => ⟨T, X, rfl, ?_⟩
  have X0 : Stand p l e R (s.setVm s.vm) m args below meth c T locs k n := X
  exact RoadKit.ldcAgain X0 C.1 C.2.2.2.1 C.2.2.2.2.1 w LI (g := mkF m pc L st) rfl (hb C.2.1 hd)
/-- the frame of the law: its start's heap, and which texts have been loaded since the case's start -/
def Lt (Z : State) (n0 : Nat) (s : State) (Ts : List String) : Prop := (∀ (b : Addr) (cl : Cell), Z.heap[b]? = some cl → s.heap[b]? = some cl) ∧ s.heap.size = n0 ∧ IB Z s.vm Ts
abbrev kVal : Key := ("java/lang/String", "value", "[B")
/-- no object of the store is a String of the bytes vs, nor those bytes -/
def SepO (Z : State) (μ : Mem) (vs : List Value) : Obj → Prop
  | .inl q => (∃ nn a0, (Cond.instantiable q.1 nn).before a0 Z = true) ∧ (q.1 ≠ "java/lang/String" ∨ ∃ b ws, q.2 = [(kVal, .ref b)] ∧ μ b = some (.inr (.byte, ws)) ∧ ws ≠ vs)
  | .inr q => q.1 ≠ .byte ∨ q.2 ≠ vs
theorem is_arv {h : Heap} {y : Addr} {ty : FieldType} {vs : List Value} (A : IsA Z n0 h y ty vs) : ∃ kk, Arv Z h y kk ty (Int32.ofNat vs.length) vs .null := by
  obtain ⟨cl, a1, rfl, hl, hf, -⟩ := A
  rw [Array.length_toList] at hl ⊢
  have e1 : (Int32.ofNat cl.slots.size).toInt = cl.slots.size := Int32.toInt_ofNat_small hl
  have at_ : ∀ i (hi : i < cl.slots.size), cl.slots.toList.getD i .null = cl.slots[i] := fun i hi => by rw [List.getD_eq_getElem?_getD, Array.getElem?_toList, Array.getElem?_eq_getElem hi]; rfl
  refine ⟨cl.cls, cl, a1, rfl, ?_, ?_, fun i hi => ?_, fun i hi => ?_⟩
  · simp only [Int32.toNatClampNeg]; omega
  · rw [Int32.lt_iff_toInt_lt, e1, show (0 : Int32).toInt = 0 from rfl]; omega
  · rw [at_ i hi, Array.getElem?_eq_getElem hi]
  · rw [at_ i hi]; exact hf _ (Array.mem_toList_iff.mpr (Array.getElem_mem hi))
theorem exa_ne_arr {h : Heap} {x y : Addr} {K : String} {ty : FieldType} {vs : List Value} {nn : Nat} (E : Exa Z h x K) (A : IsA Z n0 h y ty vs) (w : (Cond.instantiable K nn).before a0 Z = true) : x ≠ y := by
  obtain ⟨kk, F⟩ := is_arv A
  exact Exa.neArv E F w
theorem arr_ty {h : Heap} {x : Addr} {cl cl' : Cell} {ty ty' : FieldType} (A : Arr Z h x cl ty) (A' : Arr Z h x cl' ty') : cl = cl' ∧ ty = ty' := by
  obtain ⟨e1, ⟨-, k1, h1, c1, d1⟩, -⟩ := A
  obtain ⟨e2, ⟨-, k2, h2, c2, d2⟩, -⟩ := A'
  cases e1.symm.trans e2
  cases h1.symm.trans h2
  rw [d1] at d2; cases d2
  exact ⟨rfl, rfl⟩
theorem arv_is {h : Heap} {b : Addr} {kk : ClassId} {z : Int32} {vs : List Value} (hz : z.toNatClampNeg = vs.length) (hl : vs.length < 2 ^ 31) (A : Arv Z h b kk .byte z vs (.int 0)) : IsA Z n0 h b .byte vs := by
  obtain ⟨cl, a1, -, a3, -, a5, a6⟩ := A
  have e : cl.slots.toList = vs := by
    apply List.ext_getElem?
    intro i
    rw [Array.getElem?_toList]
    by_cases hi : i < cl.slots.size
    · rw [a5 i hi, List.getD_eq_getElem?_getD, List.getElem?_eq_getElem (by omega)]; rfl
    · rw [Array.getElem?_eq_none (by omega), List.getElem?_eq_none (by omega)]
  refine ⟨cl, a1, e, hl, fun v hv => ?_, fun _ => ⟨fun K q => (by cases q), fun N q => (by cases q)⟩⟩
  obtain ⟨i, hi, rfl⟩ := List.mem_iff_getElem.mp hv
  have := a6 i (by omega)
  rw [List.getD_eq_getElem?_getD, List.getElem?_eq_getElem hi] at this; exact this
theorem sep {h : Heap} {vs : List Value} {a b : Addr} {nn : Nat} (H : Hp Z n0 μ h) (EX : Exa Z h a "java/lang/String") (FV : Fld Z h a "java/lang/String" "value" "[B" (.ref b)) (IB : IsA Z n0 h b .byte vs) (wi : (Cond.instantiable "java/lang/String" nn).before a0 Z = true) (hs : ∀ x o, μ x = some o → SepO Z μ vs o) : (∀ x o, μ x = some o → x ≠ b ∧ x ≠ a) ∧ a ≠ b := by
  have IB0 := IB
  obtain ⟨cb, Ab, eb, -⟩ := IB
  have hB : ∀ x ws, μ x = some (.inr (.byte, ws)) → ws ≠ vs → x ≠ b := fun x ws hx hne q => by
    subst q
    obtain ⟨c1, A1, e1, -⟩ := H.2 x _ hx
    obtain ⟨rfl, -⟩ := arr_ty A1 Ab
    exact hne (e1.symm.trans eb)
  refine ⟨fun x o hx => ?_, exa_ne_arr EX IB0 wi⟩
  have I := H.2 x o hx
  have S := hs x o hx
  rcases o with ⟨K, fs⟩ | ⟨ty, ws⟩
  · obtain ⟨⟨n1, a1, w1⟩, S⟩ := S
    refine ⟨exa_ne_arr I.1 IB0 w1, ?_⟩
    rcases S with S | ⟨b1, ws, e1, e2, e3⟩
    · exact Exa.ne (C := K) I.1 EX S
    · have F1 : Fld Z h x "java/lang/String" "value" "[B" (.ref b1) := I.2.1 (kVal, .ref b1) (by show _ ∈ fs; rw [show fs = _ from e1]; exact List.mem_singleton.mpr rfl)
      exact F1.ne FV (fun q => hB b1 ws e2 e3 (by cases q; rfl))
  · have I0 : IsA Z n0 h x ty ws := I
    obtain ⟨c1, A1, e1, -⟩ := I
    refine ⟨?_, fun q => exa_ne_arr EX I0 wi q.symm⟩
    rcases S with S | S
    · intro q; subst q; exact S (arr_ty A1 Ab).2
    · intro q; subst q
      obtain ⟨rfl, -⟩ := arr_ty A1 Ab
      exact S (e1.symm.trans eb)
theorem ldcT (C : Ctx p s m meth c Z own nm B ml rt) {i : Nat} {t : String} {Ts : List String} {N : Nat} {vs : List Value} (LT : Lt Z n0 s Ts) (hd : decode B pc = .ok (.ldc i, 2)) (hq : pc + 2 = q) (w : (Cond.stringLink own i t).before a0 Z = true) (wS : ∀ a ∈ Bundle.stringAtoms, a.before a0 Z = true) (hh : Jvm.Lit.constHeld Z own i) (hcw : Jvm.Lit.compactW.before a0 Z = true) (hnot : t ∉ Ts)
    (ht : (∀ c ∈ t.toList, c.toNat < 256) ∧ t.toList.map (fun c => Value.int (Jvm.Lit.byteI c.toNat.toUInt16)) = vs) (hlen : vs.length < 2 ^ 31) (hN : 4 * t.toList.length ≤ N) (hbig : N ≤ 536870912) (hc : k + 2 ≤ R.cells) (hs : n + (N + 4) ≤ R.slots) (hsep : ∀ x o, μ x = some o → SepO Z μ vs o)
    (k' : ∀ s' : State, Ctx p s' m meth c Z own nm B ml rt → Lt Z n0 s' (t :: Ts) → ∀ b a : Addr, (∀ x o, μ x = some o → x ≠ b) → (∀ x o, upd μ b (.inr (.byte, vs)) x = some o → x ≠ a) →
      Go p l e R s' m args below meth c Z n0 P kc ks (upd (upd μ b (.inr (.byte, vs))) a (.inl ("java/lang/String", [(kVal, .ref b)]))) (k + 2) (n + (N + 4)) (mkF m q L (.ref a :: st))) : Go p l e R s m args below meth c Z n0 P kc ks μ k n (mkF m pc L st) := by
  subst hq
  intro T locs X F H
  have X0 : Stand p l e R (s.setVm s.vm) m args below meth c T locs k n := X
  have hzz : (Int32.ofNat vs.length).toInt = vs.length := Int32.toInt_ofNat_small hlen
  have hz1 : ¬ Int32.ofNat vs.length < 0 := by rw [Int32.lt_iff_toInt_lt, hzz, show (0 : Int32).toInt = 0 from rfl]; omega
  have hz2 : (Int32.ofNat vs.length).toNatClampNeg = vs.length := by simp only [Int32.toNatClampNeg]; omega
  obtain ⟨a, T', h', k1, b, kk, X', e', E, hS, hk1, hZ', ho', EX, FC, FV, AV, ha, hb', IB', -, -, stp⟩ := RoadKit.ldcSVd X0 C.1 C.2.2.2.1 C.2.2.2.2.1 w wS rfl ((State.WarmedH.refl s).since T.heap.size) (Nat.le_refl _) (by rw [LT.2.1]; exact F) LT.1 LT.2.2 hnot hh hcw ht hz1 hz2 (g := mkF m pc L st) rfl (hb C.2.1 hd) hN hbig hc hs
  have wi : (Cond.instantiable "java/lang/String" 4).before a0 Z = true := wS _ (by simp [Bundle.stringAtoms, Bundle.sN])
  have IBb : IsA Z n0 h' b .byte vs := arv_is hz2 hlen AV
  have H' := H.ext E
  obtain ⟨q1, q2⟩ := sep H' EX FV IBb wi hsep
  have IA : Is Z n0 h' a (.inl ("java/lang/String", [(kVal, .ref b)])) := ⟨EX, fun z hz => by cases List.mem_singleton.mp hz; exact FV, List.pairwise_singleton _ _⟩
  obtain ⟨s2, o, h1, h2⟩ := k' (s.setVm T'.vm) (C.to hS) ⟨LT.1, LT.2.1, IB'⟩ b a (fun x o hx => (q1 x o hx).1) (fun x o hx => by
    rcases upd_cases hx with ⟨rfl, -⟩ | hx
    · exact fun z => q2 z.symm
    · exact (q1 x o hx).2) T' _ X' F (by rw [e']; exact (H'.set (o := .inr (.byte, vs)) IBb).set IA)
  exact ⟨s2, o, stp _ h1, upS hS (by rw [e']; exact hk1) (by rw [e']; exact E.1) h2⟩
/-- the law's own contract: from the case's very start -/
def ConL (l : Launch) (Z : State) (n0 : Nat) (y : MethodName) (B : ByteArray) (ml : Nat) (rt : Option FieldType) (ws : List Cond) (rm : Room) (kc ks : Nat) (as : Array Value) (μ : Mem) (P : Option Value → Mem → Prop) : Prop :=
  Z.heap.size = n0 → Hp Z n0 μ Z.heap → MetFree l y (head1 (Cond.code y B ml rt :: ws) rm) (fun a U => a = as ∧ U = Z) (fun _ _ _ _ _ => True)
    (fun _ U o U' => ∃ v L, o = .returned v ∧ (Fr n0 L ∧ ∃ μ', Hp Z n0 μ' U'.heap ∧ P v μ') ∧ ReturnedEndW U o U' L kc ks)
theorem ConL.intro {y : MethodName} {ws : List Cond} {rm : Room} {as : Array Value} {L0 : Array Slot} (hx : plainFor y = true) (hef : ∀ m, entryFrame m as ml = mkF m 0 L0 [])
    (body : ∀ (p : Program) (e : Env) (s : State) (m : MethodId) (below : List Frame) (meth : Method) (c : Code), Ctx p s m meth c Z y.cls y.name B ml rt → Lt Z n0 s [] → Go p l e rm s m as below meth c Z n0 P kc ks μ 0 0 (mkF m 0 L0 [])) : ConL l Z n0 y B ml rt ws rm kc ks as μ P := by
  intro hn H0
  refine MetFree.of_bodySF hx hisR ?_
  intro p e s m args below meth c s₁ Bd hml hP hK
  obtain ⟨rfl, rfl⟩ := hP
  have X0 : Stand p l e rm s m args below meth c s₁ [] 0 0 := Stand.of_body Bd
  have e0 : s₁.heap = s.heap := by rw [Bd.state]; rfl
  obtain ⟨s2, o, g1, g2, g3, v, L, q1, q2, q3⟩ := body p e s m below meth c ⟨Bd.exec, Bd.bytes, hml, State.Warmed39.refl s, findClass_of_methodNamed Bd.named, Bd.returns, Bd.notSynchronized, (name_of_methodNamed Bd.named Bd.method).1⟩ ⟨fun _ _ q => q, hn, IB.start⟩ s₁ [] X0 (Fr.nil n0) (by rw [e0]; exact H0)
  exact ⟨s2, o, castTop (hef m) g1, g2, g3, v, L, q1, q2, q3.2⟩
end Lit
end Jvm.Own
namespace Jvm.Pilot.@@N@@
open Jvm Jvm.ClassFile Sem Op Lib Jvm.Free Jvm.Stand Jvm.LawKit Jvm.RoadKit Bundle Jvm.Own Jvm.Pilot.@@N@@.Jvm.D
section Rnd
open Jvm.FP.Core
theorem nearest_mono {A B C D : Nat} (hB : 0 < B) (hD : 0 < D) (h : A * D ≤ C * B) : nearest A B ≤ nearest C D := by
  refine Nat.le_of_not_lt fun hlt => ?_
  obtain ⟨a1, a2, a3⟩ := nearest_spec A B hB
  obtain ⟨c1, c2, c3⟩ := nearest_spec C D hD
  generalize nearest A B = m at *
  generalize nearest C D = m' at *
  -- (2m' + 1) ≤ 2m - 1
  have k1 : (2 * m' + 1) * (B * D) + B * D ≤ 2 * m * (B * D) := by
    have : (2 * m' + 1) + 1 ≤ 2 * m := by omega
    have := Nat.mul_le_mul_right (B * D) this
    rw [Nat.add_mul, Nat.one_mul] at this; exact this
  have k2 : 2 * m * (B * D) ≤ 2 * (A * D) + B * D := by
    have := Nat.mul_le_mul_right D a2
    rw [Nat.add_mul] at this
    rw [show 2 * m * (B * D) = 2 * m * B * D by ac_rfl, show 2 * (A * D) = 2 * A * D by ac_rfl]; exact this
  have k3 : 2 * (C * B) ≤ (2 * m' + 1) * (B * D) := by
    have := Nat.mul_le_mul_right B c1
    rw [show (2 * m' + 1) * (B * D) = (2 * m' + 1) * D * B by ac_rfl, show 2 * (C * B) = 2 * C * B by ac_rfl]; exact this
  -- so all are equal
  have e1 : 2 * m * (B * D) = 2 * (A * D) + B * D := by omega
  have e2 : 2 * (C * B) = (2 * m' + 1) * (B * D) := by omega
  have e3 : (2 * m' + 1) * (B * D) + B * D = 2 * m * (B * D) := by omega
  have hBD : 0 < B * D := Nat.mul_pos hB hD
  have em : m = m' + 1 := by
    have : ((2 * m' + 1) + 1) * (B * D) = 2 * m * (B * D) := by rw [Nat.add_mul, Nat.one_mul]; exact e3
    have := Nat.eq_of_mul_eq_mul_right hBD this
    omega
  have t1 : 2 * m * B = 2 * A + B := by
    apply Nat.eq_of_mul_eq_mul_right hD
    rw [Nat.add_mul, show 2 * m * B * D = 2 * m * (B * D) by ac_rfl, e1, show 2 * (A * D) = 2 * A * D by ac_rfl]
  have t2 : 2 * C = (2 * m' + 1) * D := by
    apply Nat.eq_of_mul_eq_mul_right hB
    rw [show 2 * C * B = 2 * (C * B) by ac_rfl, e2]; ac_rfl
  have p1 := a3 (Or.inr t1)
  have p2 := c3 (Or.inl t2)
  omega
/-- what a rounded magnitude is worth, in units of 2^e0 -/
theorem round_worth {f : Fmt} (hf : Good f) {s t : Bool} {A B c : Nat} {e q e0 : Int} (hA : 0 < A) (hB : 0 < B) (h : roundRatio f s A B e = .fin t c q) (h0 : e0 ≤ f.qmin) (h0e : e0 ≤ e) :
    t = s ∧ inUnits c q e0 = nearest (inUnits A e e0) (B * 2 ^ (quantum f A B e - e0).toNat) * 2 ^ (quantum f A B e - e0).toNat := by
  have g1 := quantum_ge f A B e
  have g2 := nearest_units_le (f := f) hA hB e
  unfold roundRatio at h
  rw [if_neg (by omega)] at h
  unfold roundAt at h
  generalize quantum f A B e = r at h g1 g2 ⊢
  have ha : inUnits A e e0 = unitsNum A e r * 2 ^ (min e r - e0).toNat := by
    unfold inUnits unitsNum
    rw [show (e - e0).toNat = (e - r).toNat + (min e r - e0).toNat by omega, Nat.pow_add, Nat.mul_assoc]
  have hD : B * 2 ^ (r - e0).toNat = unitsDen B e r * 2 ^ (min e r - e0).toNat := by
    unfold unitsDen
    rw [show (r - e0).toNat = (r - e).toNat + (min e r - e0).toNat by omega, Nat.pow_add, Nat.mul_assoc]
  have hv := settle_value hf (e0 := e0) g2 h (by omega)
  refine ⟨hv.1, ?_⟩
  rw [hv.2, ha, hD, nearest_scale _ _ _ (Nat.two_pow_pos _)]
  rfl
theorem below_le {A B A' B' : Nat} {a : Int} (hB' : 0 < B') (h : A * B' ≤ A' * B) (hb : Below A' B' a) (hB : 0 < B) : Below A B a := by
  unfold Below at *
  have := Nat.mul_le_mul_right (2 ^ (-a).toNat) h
  apply Nat.lt_of_mul_lt_mul_right (a := B')
  calc A * 2 ^ (-a).toNat * B' = A * B' * 2 ^ (-a).toNat := by ac_rfl
    _ ≤ A' * B * 2 ^ (-a).toNat := this
    _ = A' * 2 ^ (-a).toNat * B := by ac_rfl
    _ < B' * 2 ^ a.toNat * B := Nat.mul_lt_mul_of_pos_right hb hB
    _ = B * 2 ^ a.toNat * B' := by ac_rfl
theorem below_shift {A B : Nat} {e e0 y : Int} (h : e0 ≤ e) : Below (inUnits A e e0) B (y - e0) ↔ Below A B (y - e) := by
  have key : ∀ (u v k : Nat), Below (A * 2 ^ k) B (((u + k : Nat) : Int) - v) ↔ Below A B ((u : Int) - v) := by
    intro u v k
    rw [below_iff, below_iff, Nat.pow_add, ← Nat.mul_assoc, show A * 2 ^ k * 2 ^ v = A * 2 ^ v * 2 ^ k by ac_rfl]
    exact Nat.mul_lt_mul_right (Nat.two_pow_pos _)
  have := key (y - e).toNat (-(y - e)).toNat (e - e0).toNat
  rw [show (((y - e).toNat + (e - e0).toNat : Nat) : Int) - ((-(y - e)).toNat : Nat) = y - e0 by omega, show (((y - e).toNat : Nat) : Int) - ((-(y - e)).toNat : Nat) = y - e by omega] at this
  exact this
theorem units0 {U B : Nat} {r e0 : Int} (h : e0 ≤ r) (k : Nat) : U < 2 ^ k * (B * 2 ^ (r - e0).toNat) ↔ Below U B (r + k - e0) := by
  have := units_below U B e0 r k
  unfold unitsNum unitsDen at this
  rw [show (e0 - r).toNat = 0 by omega, Nat.pow_zero, Nat.mul_one] at this
  rw [this, show r - e0 + k = r + k - e0 by omega]
theorem round_mono {f : Fmt} (hf : Good f) {t t' : Bool} {A B A' B' c c' : Nat} {e e' q q' e0 : Int} (hA : 0 < A) (hB : 0 < B) (hA' : 0 < A') (hB' : 0 < B') (h : roundRatio f false A B e = .fin t c q) (h' : roundRatio f false A' B' e' = .fin t' c' q')
    (h0 : e0 ≤ f.qmin) (h0e : e0 ≤ e) (h0e' : e0 ≤ e') (hle : inUnits A e e0 * B' ≤ inUnits A' e' e0 * B) : inUnits c q e0 ≤ inUnits c' q' e0 := by
  have g1 := quantum_ge f A B e
  have g1' := quantum_ge f A' B' e'
  have b1 := quantum_below (f := f) hA hB e
  have b1' := quantum_below (f := f) hA' hB' e'
  have n1 := quantum_not_below (f := f) hA hB e
  have n1' := quantum_not_below (f := f) hA' hB' e'
  rw [(round_worth hf hA hB h h0 h0e).2, (round_worth hf hA' hB' h' h0 h0e').2]
  generalize quantum f A B e = r at *
  generalize quantum f A' B' e' = r' at *
  have hp := two_tails hf
  have hp1 := hf.2
  rw [show r - e + (f.p : Int) = (r + f.p) - e by omega, ← below_shift h0e] at b1
  rw [show r' - e' + (f.p : Int) = (r' + f.p) - e' by omega, ← below_shift h0e'] at b1'
  have hrr : r ≤ r' := by
    refine Int.le_of_not_gt fun hlt => ?_
    rcases n1 with n1 | n1
    · omega
    · rw [show r - e + ((f.p : Int) - 1) = (r + (f.p - 1)) - e by omega, ← below_shift h0e] at n1
      exact n1 (below_le hB' hle (below_mono (by omega) b1') hB)
  rcases Int.lt_or_eq_of_le hrr with hlt | rfl
  · refine Nat.le_trans (Nat.mul_le_mul_right _ (nearest_le (M := 2 ^ f.p) (Nat.mul_pos hB (Nat.two_pow_pos _)) (Nat.le_of_lt ((units0 (by omega) _).mpr b1)))) ?_
    have n2 : f.tails ≤ nearest (inUnits A' e' e0) (B' * 2 ^ (r' - e0).toNat) := by
      refine nearest_ge (Nat.mul_pos hB' (Nat.two_pow_pos _)) (Nat.le_of_not_lt fun q => ?_)
      rcases n1' with n1' | n1'
      · omega
      · apply n1'
        rw [show r' - e' + ((f.p : Int) - 1) = (r' + ((f.p - 1 : Nat) : Int)) - e' by omega, ← below_shift h0e', ← units0 (by omega)]
        exact q
    refine Nat.le_trans ?_ (Nat.mul_le_mul_right _ n2)
    rw [hp, show (r' - e0).toNat = (r - e0).toNat + 1 + (r' - r - 1).toNat by omega, Nat.pow_add, Nat.pow_succ]
    calc 2 * f.tails * 2 ^ (r - e0).toNat = f.tails * (2 ^ (r - e0).toNat * 2) * 1 := by rw [Nat.mul_one]; ac_rfl
      _ ≤ f.tails * (2 ^ (r - e0).toNat * 2) * 2 ^ (r' - r - 1).toNat := Nat.mul_le_mul_left _ (Nat.two_pow_pos _)
      _ = f.tails * (2 ^ (r - e0).toNat * 2 * 2 ^ (r' - r - 1).toNat) := by rw [Nat.mul_assoc]
  · refine Nat.mul_le_mul_right _ (nearest_mono (Nat.mul_pos hB (Nat.two_pow_pos _)) (Nat.mul_pos hB' (Nat.two_pow_pos _)) ?_)
    calc inUnits A e e0 * (B' * 2 ^ (r - e0).toNat) = inUnits A e e0 * B' * 2 ^ (r - e0).toNat := by ac_rfl
      _ ≤ inUnits A' e' e0 * B * 2 ^ (r - e0).toNat := Nat.mul_le_mul_right _ hle
      _ = inUnits A' e' e0 * (B * 2 ^ (r - e0).toNat) := by ac_rfl
theorem qmin64 : b64.qmin = -1074 := by decide
theorem qmax64 : b64.qmax = 971 := by decide
theorem i2d_val {n : Nat} (h0 : 0 < n) (h : n < 2 ^ 31) {x : Int32} (hx : x.toInt = n) : val64 (Jvm.FP.i2d x) = .fin false (n * 2 ^ (52 - n.log2)) ((n.log2 : Int) - 52) := by
  have h1 : 2 ^ n.log2 ≤ n := Nat.log2_self_le (by omega)
  have h2 : n < 2 ^ (n.log2 + 1) := Nat.lt_log2_self
  have hL : n.log2 < 31 := (Nat.log2_lt (by omega)).mpr h
  rw [val64_i2d, hx]
  show roundRatio b64 (decide ((n : Int) < 0)) (n : Int).natAbs 1 0 = _
  rw [show decide ((n : Int) < 0) = false from decide_eq_false (by omega), show (n : Int).natAbs = n from Int.natAbs_natCast n]
  have e53 : n.log2 + (52 - n.log2) = 52 := by omega
  refine roundRatio_exact good_b64 (by decide) ⟨?_, ?_, ?_, Or.inr ?_⟩ ?_
  · show n * 2 ^ (52 - n.log2) < 2 ^ 53
    calc n * 2 ^ (52 - n.log2) < 2 ^ (n.log2 + 1) * 2 ^ (52 - n.log2) := Nat.mul_lt_mul_of_pos_right h2 (Nat.two_pow_pos _)
      _ = 2 ^ 53 := by rw [← Nat.pow_add]; congr 1; omega
  · rw [qmin64]; omega
  · rw [qmax64]; omega
  · show 2 ^ 52 ≤ n * 2 ^ (52 - n.log2)
    calc 2 ^ 52 = 2 ^ n.log2 * 2 ^ (52 - n.log2) := by rw [← Nat.pow_add, e53]
      _ ≤ _ := Nat.mul_le_mul_right _ h1
  · rw [show ((0 : Int) - ((n.log2 : Int) - 52)).toNat = 52 - n.log2 by omega, show ((n.log2 : Int) - 52 - 0).toNat = 0 by omega]; simp
theorem div_val {n B : Nat} (h0 : 0 < n) (h : n < 2 ^ 31) (b0 : 0 < B) (hb : B < 2 ^ 31) {x y : Int32} (hx : x.toInt = n) (hy : y.toInt = B) : val64 (Jvm.FP.ddiv (Jvm.FP.i2d x) (Jvm.FP.i2d y)) = roundRatio b64 false n B 0 := by
  rw [val64_ddiv, i2d_val h0 h hx, i2d_val b0 hb hy]
  have hn : n.log2 < 31 := (Nat.log2_lt (by omega)).mpr h
  have hm : B.log2 < 31 := (Nat.log2_lt (by omega)).mpr hb
  have hd : B * 2 ^ (52 - B.log2) ≠ 0 := Nat.ne_of_gt (Nat.mul_pos b0 (Nat.two_pow_pos _))
  unfold quotient
  simp only [hd, if_false, bne_self_eq_false]
  refine roundRatio_congr (Nat.mul_pos b0 (Nat.two_pow_pos _)) b0 ?_
  generalize n.log2 = u at *
  generalize B.log2 = v at *
  rw [show n * 2 ^ (52 - u) * B * 2 ^ ((u : Int) - 52 - ((v : Int) - 52) - 0).toNat = n * B * (2 ^ (52 - u) * 2 ^ ((u : Int) - 52 - ((v : Int) - 52) - 0).toNat) by ac_rfl,
    show n * (B * 2 ^ (52 - v)) * 2 ^ (0 - ((u : Int) - 52 - ((v : Int) - 52))).toNat = n * B * (2 ^ (52 - v) * 2 ^ (0 - ((u : Int) - 52 - ((v : Int) - 52))).toNat) by ac_rfl, ← Nat.pow_add, ← Nat.pow_add]
  congr 2; omega
theorem lead_le {n B : Nat} (h0 : 0 < n) (h : n ≤ B) : leading n B ≤ 0 := by
  refine Int.le_of_not_gt fun q => ?_
  refine (leading_spec (A := n) (B := B) h0 (by omega)).1 (below_mono (a := 1) (by omega) ?_)
  unfold Below
  rw [show (-(1 : Int)).toNat = 0 from rfl, show (1 : Int).toNat = 1 from rfl]; omega
theorem quant_le {n B : Nat} (h0 : 0 < n) (h : n ≤ B) : -1074 ≤ quantum b64 n B 0 ∧ quantum b64 n B 0 ≤ -52 := by
  have := lead_le h0 h
  unfold quantum; rw [qmin64, show (b64.p : Int) = 53 from rfl]; omega
theorem div_fin {n B : Nat} (h0 : 0 < n) (h : n ≤ B) : ∃ c q, roundRatio b64 false n B 0 = .fin false c q ∧ -1074 ≤ q := by
  have := quant_le h0 h
  unfold roundRatio
  rw [if_neg (by omega)]
  unfold roundAt settle bound
  rw [qmax64]
  split
  · rw [if_pos (by omega)]; exact ⟨_, _, rfl, by omega⟩
  · rw [if_pos (by omega)]; exact ⟨_, _, rfl, by omega⟩
def Worth (a : UInt64) (w : Nat) : Prop := ∃ c q, val64 a = .fin false c q ∧ -1074 ≤ q ∧ inUnits c q (-1074) = w
theorem cmp_nat (x y : Nat) : compare (x : Int) (y : Int) = compare x y := by
  rcases Nat.lt_trichotomy x y with h | h | h
  · rw [Nat.compare_eq_lt.mpr h]; show compareOfLessAndEq (x : Int) y = _; unfold compareOfLessAndEq; rw [if_pos (by omega)]
  · subst h; simp
  · rw [Nat.compare_eq_gt.mpr h]; show compareOfLessAndEq (x : Int) y = _; unfold compareOfLessAndEq; rw [if_neg (by omega), if_neg (by omega)]
theorem cmp_scale (x y k : Nat) (hk : 0 < k) : compare (x * k) (y * k) = compare x y := by
  rcases Nat.lt_trichotomy x y with h | h | h
  · rw [Nat.compare_eq_lt.mpr h]; exact Nat.compare_eq_lt.mpr (Nat.mul_lt_mul_of_pos_right h hk)
  · subst h; simp
  · rw [Nat.compare_eq_gt.mpr h]; exact Nat.compare_eq_gt.mpr (Nat.mul_lt_mul_of_pos_right h hk)
theorem dcmp_worth {a b : UInt64} {w v : Nat} (ha : Worth a w) (hb : Worth b v) : Jvm.FP.dcmp a b = some (compare w v) := by
  obtain ⟨c, q, e1, h1, rfl⟩ := ha
  obtain ⟨d, r, e2, h2, rfl⟩ := hb
  show order (val64 a) (val64 b) = _
  rw [e1, e2]
  show some (compare (signed false (inUnits c q (min q r))) (signed false (inUnits d r (min q r)))) = _
  congr 1
  show compare ((inUnits c q (min q r) : Nat) : Int) ((inUnits d r (min q r) : Nat) : Int) = _
  rw [cmp_nat, inUnits_move c (r := min q r) (e := -1074) (by omega) (by omega), inUnits_move d (r := min q r) (e := -1074) (by omega) (by omega), cmp_scale _ _ _ (Nat.two_pow_pos _)]
theorem score_worth {n B : Nat} (h0 : 0 < n) (h : n ≤ B) (hb : B < 2 ^ 31) {x y : Int32} (hx : x.toInt = n) (hy : y.toInt = B) :
    ∃ w, Worth (Jvm.FP.ddiv (Jvm.FP.i2d x) (Jvm.FP.i2d y)) w ∧ ∃ c q, roundRatio b64 false n B 0 = .fin false c q ∧ inUnits c q (-1074) = w := by
  obtain ⟨c, q, e, hq⟩ := div_fin h0 h
  exact ⟨_, ⟨c, q, (div_val h0 (by omega) (by omega) hb hx hy).trans e, hq, rfl⟩, c, q, e, rfl⟩
theorem score_mono {n B n' B' c c' : Nat} {q q' : Int} (h0 : 0 < n) (h : n ≤ B) (h0' : 0 < n') (h' : n' ≤ B') (e : roundRatio b64 false n B 0 = .fin false c q) (e' : roundRatio b64 false n' B' 0 = .fin false c' q') (hle : n * B' ≤ n' * B) : inUnits c q (-1074) ≤ inUnits c' q' (-1074) := by
  refine round_mono good_b64 h0 (by omega) h0' (by omega) e e' (by rw [qmin64]; omega) (by omega) (by omega) ?_
  unfold inUnits
  generalize ((0 : Int) - -1074).toNat = K
  calc n * 2 ^ K * B' = n * B' * 2 ^ K := by ac_rfl
    _ ≤ n' * B * 2 ^ K := Nat.mul_le_mul_right _ hle
    _ = _ := by ac_rfl
theorem score_strict {n B n' c c' : Nat} {q q' : Int} (h0 : 0 < n) (hlt : n < n') (h' : n' ≤ B) (hb : B < 2 ^ 31) (e : roundRatio b64 false n B 0 = .fin false c q) (e' : roundRatio b64 false n' B 0 = .fin false c' q') : inUnits c q (-1074) < inUnits c' q' (-1074) := by
  have r1 := quant_le h0 (show n ≤ B by omega)
  have r2 := quant_le (show 0 < n' by omega) h'
  rw [(round_worth good_b64 h0 (by omega) e (by rw [qmin64]; omega) (by omega)).2, (round_worth good_b64 (show 0 < n' by omega) (by omega) e' (by rw [qmin64]; omega) (by omega)).2]
  generalize quantum b64 n B 0 = r at *
  generalize quantum b64 n' B 0 = s at *
  have k1 : (r - -1074).toNat ≤ 1022 := by omega
  have k2 : (s - -1074).toNat ≤ 1022 := by omega
  generalize (r - -1074).toNat = k at *
  generalize (s - -1074).toNat = l at *
  have hB : 0 < B := by omega
  obtain ⟨-, a2, -⟩ := nearest_spec (inUnits n 0 (-1074)) (B * 2 ^ k) (Nat.mul_pos hB (Nat.two_pow_pos _))
  obtain ⟨b1, -, -⟩ := nearest_spec (inUnits n' 0 (-1074)) (B * 2 ^ l) (Nat.mul_pos hB (Nat.two_pow_pos _))
  generalize nearest (inUnits n 0 (-1074)) (B * 2 ^ k) = m at *
  generalize nearest (inUnits n' 0 (-1074)) (B * 2 ^ l) = m' at *
  obtain ⟨E, hE⟩ : ∃ E : Nat, E = 2 ^ 1022 := ⟨_, rfl⟩
  obtain ⟨F, hF⟩ : ∃ F : Nat, F = 2 ^ 52 := ⟨_, rfl⟩
  have u : ∀ z : Nat, inUnits z 0 (-1074) = z * F * E := fun z => by
    unfold inUnits; rw [show ((0 : Int) - -1074).toNat = 52 + 1022 from rfl, Nat.pow_add, Nat.mul_assoc, hE, hF]
  rw [u] at a2 b1
  have p1 : 2 ^ k ≤ E := by rw [hE]; exact Nat.pow_le_pow_right (by decide) k1
  have p2 : 2 ^ l ≤ E := by rw [hE]; exact Nat.pow_le_pow_right (by decide) k2
  have pE : 0 < E := by rw [hE]; exact Nat.two_pow_pos 1022
  clear hE
  have d1 : B * 2 ^ k ≤ 2147483648 * E := Nat.mul_le_mul (by omega) p1
  have d2 : B * 2 ^ l ≤ 2147483648 * E := Nat.mul_le_mul (by omega) p2
  apply Nat.lt_of_mul_lt_mul_right (a := B)
  rw [show m * 2 ^ k * B = m * (B * 2 ^ k) by ac_rfl, show m' * 2 ^ l * B = m' * (B * 2 ^ l) by ac_rfl]
  rw [Nat.mul_assoc 2 m] at a2
  rw [Nat.add_mul, Nat.one_mul, Nat.mul_assoc 2 m'] at b1
  have x1 : n * F * E + F * E ≤ n' * F * E := by
    rw [← Nat.add_mul, ← Nat.succ_mul]; exact Nat.mul_le_mul_right _ (Nat.mul_le_mul_right _ hlt)
  have x2 : 4294967297 * E ≤ F * E := Nat.mul_le_mul_right _ (by rw [hF]; decide)
  clear hF
  generalize n * F * E = X at *
  generalize n' * F * E = Y at *
  generalize F * E = G at *
  generalize m * (B * 2 ^ k) = M at *
  generalize m' * (B * 2 ^ l) = M' at *
  generalize B * 2 ^ k = D at *
  generalize B * 2 ^ l = D' at *
  omega
theorem one_worth {B c : Nat} {q : Int} (h0 : 0 < B) (e : roundRatio b64 false B B 0 = .fin false c q) : inUnits c q (-1074) = 2 ^ 1074 := by
  have := roundRatio_exact (f := b64) (s := false) (A := B) (B := B) (c := 2 ^ 52) (e := 0) (q := -52) good_b64 h0 ⟨by decide, by decide, by decide, Or.inr (by decide)⟩ (by rw [show ((0 : Int) - -52).toNat = 52 from rfl, show ((-52 : Int) - 0).toNat = 0 from rfl, Nat.pow_zero, Nat.mul_one, Nat.mul_comm])
  rw [this] at e
  cases e
  unfold inUnits
  rw [show ((-52 : Int) - -1074).toNat = 1022 from rfl, ← Nat.pow_add]
theorem w_one : Worth Jvm.FP.dconst1 (2 ^ 1074) := ⟨2 ^ 52, -52, by decide +kernel, by decide, by unfold inUnits; rw [show ((-52 : Int) - -1074).toNat = 1022 from rfl, ← Nat.pow_add]⟩
theorem w_zero : Worth Jvm.FP.dconst0 0 := ⟨0, -1074, by decide +kernel, by decide, by unfold inUnits; simp⟩
theorem score_pos {n B c : Nat} {q : Int} (h0 : 0 < n) (h : n ≤ B) (hb : B < 2 ^ 31) (e : roundRatio b64 false n B 0 = .fin false c q) : 0 < inUnits c q (-1074) := by
  have r1 := quant_le h0 h
  rw [(round_worth good_b64 h0 (by omega) e (by rw [qmin64]; omega) (by omega)).2]
  generalize quantum b64 n B 0 = r at *
  have k1 : (r - -1074).toNat ≤ 1022 := by omega
  generalize (r - -1074).toNat = k at *
  refine Nat.mul_pos (Nat.pos_of_ne_zero fun hz => ?_) (Nat.two_pow_pos _)
  obtain ⟨a1, -, -⟩ := nearest_spec (inUnits n 0 (-1074)) (B * 2 ^ k) (Nat.mul_pos (by omega) (Nat.two_pow_pos _))
  rw [hz] at a1
  obtain ⟨E, hE⟩ : ∃ E : Nat, E = 2 ^ 1022 := ⟨_, rfl⟩
  have u : inUnits n 0 (-1074) = n * 4503599627370496 * E := by
    unfold inUnits; rw [show ((0 : Int) - -1074).toNat = 52 + 1022 from rfl, Nat.pow_add, Nat.mul_assoc, hE]
  rw [u] at a1
  have p1 : 2 ^ k ≤ E := by rw [hE]; exact Nat.pow_le_pow_right (by decide) k1
  have pE : 0 < E := by rw [hE]; exact Nat.two_pow_pos 1022
  clear hE
  have d1 : B * 2 ^ k ≤ 2147483648 * E := Nat.mul_le_mul (by omega) p1
  have x1 : 4503599627370496 * E ≤ n * 4503599627370496 * E := Nat.mul_le_mul_right _ (by omega)
  generalize n * 4503599627370496 * E = X at *
  generalize B * 2 ^ k = D at *
  omega
end Rnd
section RndB
open Jvm.FP.Core
theorem units_trans {c : Nat} {q e e0 : Int} (h : e ≤ q) (h0 : e0 ≤ e) : inUnits c q e0 = inUnits c q e * 2 ^ (e - e0).toNat := by
  unfold inUnits; rw [Nat.mul_assoc, ← Nat.pow_add]; congr 2; omega
/-- w is what U / B * 2^e, rounded, is worth -/
def Rd (U B : Nat) (e : Int) (w : Nat) : Prop := ∃ (c : Nat) (q : Int), roundRatio b64 false U B e = .fin false c q ∧ -1074 ≤ q ∧ inUnits c q (-1074) = w
theorem Rd.fun {U B : Nat} {e : Int} {w w' : Nat} (h : Rd U B e w) (h' : Rd U B e w') : w = w' := by
  obtain ⟨c, q, e1, -, rfl⟩ := h; obtain ⟨c', q', e1', -, rfl⟩ := h'
  rw [e1] at e1'; cases e1'; rfl
theorem Rd.zero {B : Nat} {e : Int} : Rd 0 B e 0 := ⟨0, b64.qmin, by unfold roundRatio; rw [if_pos rfl], by rw [qmin64]; decide, by unfold inUnits; rw [Nat.zero_mul]⟩
theorem rd_mono {U B U' B' : Nat} {e : Int} {w w' : Nat} (he : -2148 ≤ e) (hB : 0 < B) (hB' : 0 < B') (h : Rd U B e w) (h' : Rd U' B' e w') (hle : U * B' ≤ U' * B) : w ≤ w' := by
  rcases Nat.eq_zero_or_pos U with rfl | hU
  · rw [h.fun Rd.zero]; exact Nat.zero_le _
  have hU' : 0 < U' := by
    rcases Nat.eq_zero_or_pos U' with rfl | q
    · rw [Nat.zero_mul] at hle; have := Nat.mul_pos hU hB'; omega
    · exact q
  obtain ⟨c, q, e1, h1, rfl⟩ := h; obtain ⟨c', q', e1', h1', rfl⟩ := h'
  have r := round_mono good_b64 (e0 := -2148) hU hB hU' hB' e1 e1' (by rw [qmin64]; decide) he he (by
    unfold inUnits
    calc U * 2 ^ (e - -2148).toNat * B' = U * B' * 2 ^ (e - -2148).toNat := by ac_rfl
      _ ≤ U' * B * 2 ^ (e - -2148).toNat := Nat.mul_le_mul_right _ hle
      _ = U' * 2 ^ (e - -2148).toNat * B := by ac_rfl)
  rw [units_trans (e := -1074) h1 (by decide), units_trans (e := -1074) h1' (by decide)] at r
  exact Nat.le_of_mul_le_mul_right r (Nat.two_pow_pos _)
theorem rr_kind (U B : Nat) (e : Int) : (∃ c q, roundRatio b64 false U B e = .fin false c q) ∨ roundRatio b64 false U B e = .inf false := by
  unfold roundRatio roundAt settle bound
  repeat' split
  all_goals first | exact Or.inl ⟨_, _, rfl⟩ | exact Or.inr rfl
theorem rr_ge {U B c : Nat} {e q : Int} (hB : 0 < B) (h : roundRatio b64 false U B e = .fin false c q) : -1074 ≤ q ∧ q ≤ 971 := by
  have := roundRatio_fits good_b64 false U hB e
  rw [h] at this
  exact ⟨by rw [← qmin64]; exact this.2.1, by rw [← qmax64]; exact this.2.2.1⟩
theorem pow_exact {k : Nat} {e : Int} (h1 : -1022 ≤ (k : Int) + e) (h2 : (k : Int) + e ≤ 1000) : roundRatio b64 false (2 ^ k) 1 e = .fin false (2 ^ 52) (k + e - 52) := by
  refine roundRatio_exact good_b64 (by decide) ⟨by decide, by rw [qmin64]; omega, by rw [qmax64]; omega, Or.inr (by decide)⟩ ?_
  rw [Nat.mul_one, ← Nat.pow_add, ← Nat.pow_add]; congr 1; omega
/-- at most 2^k units of 2^e: the rounded value is finite, and at most that -/
theorem rd_ub {U B k : Nat} {e : Int} (hB : 0 < B) (he : -2148 ≤ e) (h1 : -1022 ≤ (k : Int) + e) (h2 : (k : Int) + e ≤ 900) (h : U ≤ 2 ^ k * B) : ∃ w, Rd U B e w ∧ w ≤ 2 ^ ((k : Int) + e + 1074).toNat := by
  have P := pow_exact h1 (by omega)
  have hp : Rd (2 ^ k) 1 e (2 ^ ((k : Int) + e + 1074).toNat) := ⟨_, _, P, by omega, by unfold inUnits; rw [← Nat.pow_add]; congr 1; omega⟩
  rcases rr_kind U B e with ⟨c, q, r⟩ | r
  · have g := rr_ge hB r
    refine ⟨_, ⟨c, q, r, g.1, rfl⟩, rd_mono he hB (by decide) ⟨c, q, r, g.1, rfl⟩ hp (by rw [Nat.mul_one]; exact h)⟩
  · exfalso
    have i := (roundRatio_inf good_b64 (e0 := -2148) hB (by rw [qmin64]; decide) he).mp r
    rw [qmax64, show b64.p = 53 from rfl, show ((971 : Int) - 1 - -2148).toNat = 3118 from rfl] at i
    have j : inUnits U e (-2148) ≤ 2 ^ k * B * 2 ^ (e - -2148).toNat := Nat.mul_le_mul_right _ h
    have j2 : 2 ^ k * B * 2 ^ (e - -2148).toNat = 2 ^ (k + (e - -2148).toNat) * B := by rw [Nat.pow_add]; ac_rfl
    have j3 : 2 ^ (k + (e - -2148).toNat) ≤ 2 ^ 3048 := Nat.pow_le_pow_right (by decide) (by omega)
    have j4 : 2 ^ 3048 * B < (2 ^ (53 + 1) - 1) * 2 ^ 3118 * B := Nat.mul_lt_mul_of_pos_right (by decide +kernel) hB
    have j5 := Nat.mul_le_mul_right B j3
    rw [j2] at j
    exact absurd (Nat.le_trans i (Nat.le_trans j j5)) (Nat.not_le.mpr j4)
theorem rd_lb {U B k : Nat} {e : Int} {w : Nat} (hB : 0 < B) (he : -2148 ≤ e) (h1 : -1022 ≤ (k : Int) + e) (h2 : (k : Int) + e ≤ 900) (h : 2 ^ k * B ≤ U) (r : Rd U B e w) : 2 ^ ((k : Int) + e + 1074).toNat ≤ w := by
  have P := pow_exact h1 (by omega)
  have hp : Rd (2 ^ k) 1 e (2 ^ ((k : Int) + e + 1074).toNat) := ⟨_, _, P, by omega, by unfold inUnits; rw [← Nat.pow_add]; congr 1; omega⟩
  exact rd_mono he (by decide) hB hp r (by rw [Nat.mul_one]; exact h)
theorem Worth.of_rd {a : UInt64} {U B : Nat} {e : Int} {w : Nat} (h : val64 a = roundRatio b64 false U B e) (r : Rd U B e w) : Worth a w := by
  obtain ⟨c, q, e1, h1, h2⟩ := r; exact ⟨c, q, h.trans e1, h1, h2⟩
theorem mul_w {a b : UInt64} {wa wb : Nat} (ha : Worth a wa) (hb : Worth b wb) : val64 (Jvm.FP.dmul a b) = roundRatio b64 false (wa * wb) 1 (-2148) := by
  obtain ⟨c, q, e1, h1, rfl⟩ := ha; obtain ⟨d, r, e2, h2, rfl⟩ := hb
  rw [val64_dmul, e1, e2]
  show roundRatio b64 false (c * d) 1 (q + r) = _
  refine roundRatio_congr (by decide) (by decide) ?_
  unfold inUnits
  rw [Nat.mul_one, Nat.mul_one, show ((-2148 : Int) - (q + r)).toNat = 0 by omega, Nat.pow_zero, Nat.mul_one]
  calc c * d * 2 ^ (q + r - -2148).toNat = c * d * (2 ^ (q - -1074).toNat * 2 ^ (r - -1074).toNat) := by rw [← Nat.pow_add]; congr 2; omega
    _ = _ := by ac_rfl
theorem add_w {a b : UInt64} {wa wb : Nat} (ha : Worth a wa) (hb : Worth b wb) : val64 (Jvm.FP.dadd a b) = roundRatio b64 false (wa + wb) 1 (-1074) := by
  obtain ⟨c, q, e1, h1, rfl⟩ := ha; obtain ⟨d, r, e2, h2, rfl⟩ := hb
  rw [val64_dadd, e1, e2]
  have hs : sumUnits false c q false d r (min q r) = ((inUnits c q (min q r) + inUnits d r (min q r) : Nat) : Int) := by
    unfold sumUnits signed; simp
  show roundRatio b64 (sumSign false false (sumUnits false c q false d r (min q r))) (sumUnits false c q false d r (min q r)).natAbs 1 (min q r) = _
  rw [hs, show sumSign false false ((inUnits c q (min q r) + inUnits d r (min q r) : Nat) : Int) = false by unfold sumSign; split <;> simp <;> omega, Int.natAbs_natCast]
  refine roundRatio_congr (by decide) (by decide) ?_
  rw [Nat.mul_one, Nat.mul_one, show ((-1074 : Int) - min q r).toNat = 0 by omega, Nat.pow_zero, Nat.mul_one, Nat.add_mul, ← units_trans (by omega) (by omega), ← units_trans (by omega) (by omega)]
theorem div_w {a b : UInt64} {wa wb : Nat} (ha : Worth a wa) (hb : Worth b wb) (hz : 0 < wb) : val64 (Jvm.FP.ddiv a b) = roundRatio b64 false wa wb 0 := by
  obtain ⟨c, q, e1, h1, rfl⟩ := ha; obtain ⟨d, r, e2, h2, rfl⟩ := hb
  rw [val64_ddiv, e1, e2]
  have hd : 0 < d := by
    rcases Nat.eq_zero_or_pos d with rfl | x
    · unfold inUnits at hz; rw [Nat.zero_mul] at hz; omega
    · exact x
  show (if d = 0 then (if c = 0 then Datum.nan else Datum.inf (false != false)) else roundRatio b64 (false != false) c d (q - r)) = _
  rw [if_neg (by omega)]
  refine roundRatio_congr hd hz ?_
  unfold inUnits
  have k1 : (r - -1074).toNat + (q - r - 0).toNat = (q - -1074).toNat + (0 - (q - r)).toNat := by omega
  calc c * (d * 2 ^ (r - -1074).toNat) * 2 ^ (q - r - 0).toNat = c * d * 2 ^ ((r - -1074).toNat + (q - r - 0).toNat) := by rw [Nat.pow_add]; ac_rfl
    _ = c * d * 2 ^ ((q - -1074).toNat + (0 - (q - r)).toNat) := by rw [k1]
    _ = c * 2 ^ (q - -1074).toNat * d * 2 ^ (0 - (q - r)).toNat := by rw [Nat.pow_add]; ac_rfl
theorem mul_rd {a b : UInt64} {wa wb k l : Nat} (ha : Worth a wa) (hb : Worth b wb) (h1 : wa ≤ 2 ^ (k + 1074)) (h2 : wb ≤ 2 ^ (l + 1074)) (hk : k + l ≤ 500) : ∃ w, Worth (Jvm.FP.dmul a b) w ∧ Rd (wa * wb) 1 (-2148) w ∧ w ≤ 2 ^ (k + l + 1074) := by
  obtain ⟨w, r, u⟩ := rd_ub (U := wa * wb) (B := 1) (k := k + l + 2148) (e := -2148) (by decide) (by decide) (by omega) (by omega) (by
    have q := Nat.mul_le_mul h1 h2
    rw [← Nat.pow_add, show k + 1074 + (l + 1074) = k + l + 2148 by omega] at q
    rw [Nat.mul_one]; exact q)
  exact ⟨w, .of_rd (mul_w ha hb) r, r, by rw [show (((k + l + 2148 : Nat) : Int) + -2148 + 1074).toNat = k + l + 1074 by omega] at u; exact u⟩
theorem add_rd {a b : UInt64} {wa wb k : Nat} (ha : Worth a wa) (hb : Worth b wb) (h1 : wa ≤ 2 ^ (k + 1074)) (h2 : wb ≤ 2 ^ (k + 1074)) (hk : k ≤ 500) : ∃ w, Worth (Jvm.FP.dadd a b) w ∧ Rd (wa + wb) 1 (-1074) w ∧ w ≤ 2 ^ (k + 1 + 1074) := by
  obtain ⟨w, r, u⟩ := rd_ub (U := wa + wb) (B := 1) (k := k + 1 + 1074) (e := -1074) (by decide) (by decide) (by omega) (by omega) (by
    rw [Nat.mul_one, show k + 1 + 1074 = k + 1074 + 1 by omega, Nat.pow_succ]; omega)
  exact ⟨w, .of_rd (add_w ha hb) r, r, by rw [show (((k + 1 + 1074 : Nat) : Int) + -1074 + 1074).toNat = k + 1 + 1074 by omega] at u; exact u⟩
theorem div_rd {a b : UInt64} {wa wb k j : Nat} (ha : Worth a wa) (hb : Worth b wb) (h1 : wa ≤ 2 ^ (k + 1074)) (h2 : 2 ^ (1074 - j) ≤ wb) (hj : j ≤ 500) (hk : k ≤ 300) : ∃ w, Worth (Jvm.FP.ddiv a b) w ∧ Rd wa wb 0 w ∧ w ≤ 2 ^ (k + j + 1074) := by
  have hz : 0 < wb := Nat.lt_of_lt_of_le (Nat.two_pow_pos _) h2
  obtain ⟨w, r, u⟩ := rd_ub (U := wa) (B := wb) (k := k + j) (e := 0) hz (by decide) (by omega) (by omega) (by
    calc wa ≤ 2 ^ (k + 1074) := h1
      _ = 2 ^ (k + j) * 2 ^ (1074 - j) := by rw [← Nat.pow_add]; congr 1; omega
      _ ≤ 2 ^ (k + j) * wb := Nat.mul_le_mul_left _ h2)
  exact ⟨w, .of_rd (div_w ha hb hz) r, r, by rw [show (((k + j : Nat) : Int) + 0 + 1074).toNat = k + j + 1074 by omega] at u; exact u⟩
/-- whole numbers are exact -/
theorem int_w {x : UInt64} {n : Nat} (hn : n < 2 ^ 53) (h : val64 x = roundRatio b64 false n 1 0) : Worth x (n * 2 ^ 1074) := by
  rcases Nat.eq_zero_or_pos n with rfl | h0
  · rw [Nat.zero_mul]; exact .of_rd h Rd.zero
  have h1 : 2 ^ n.log2 ≤ n := Nat.log2_self_le (by omega)
  have h2 : n < 2 ^ (n.log2 + 1) := Nat.lt_log2_self
  have hL : n.log2 < 53 := (Nat.log2_lt (by omega)).mpr hn
  have e : roundRatio b64 false n 1 0 = .fin false (n * 2 ^ (52 - n.log2)) ((n.log2 : Int) - 52) := by
    refine roundRatio_exact good_b64 (by decide) ⟨?_, ?_, ?_, Or.inr ?_⟩ ?_
    · show n * 2 ^ (52 - n.log2) < 2 ^ 53
      calc n * 2 ^ (52 - n.log2) < 2 ^ (n.log2 + 1) * 2 ^ (52 - n.log2) := Nat.mul_lt_mul_of_pos_right h2 (Nat.two_pow_pos _)
        _ = 2 ^ 53 := by rw [← Nat.pow_add]; congr 1; omega
    · rw [qmin64]; omega
    · rw [qmax64]; omega
    · show 2 ^ 52 ≤ n * 2 ^ (52 - n.log2)
      calc 2 ^ 52 = 2 ^ n.log2 * 2 ^ (52 - n.log2) := by rw [← Nat.pow_add]; congr 1; omega
        _ ≤ _ := Nat.mul_le_mul_right _ h1
    · rw [show ((0 : Int) - ((n.log2 : Int) - 52)).toNat = 52 - n.log2 by omega, show ((n.log2 : Int) - 52 - 0).toNat = 0 by omega]; simp
  refine ⟨_, _, h.trans e, by omega, ?_⟩
  unfold inUnits
  rw [Nat.mul_assoc, ← Nat.pow_add]; congr 2; omega
theorem i2d_r {n : Nat} {x : Int32} (hx : x.toInt = n) : val64 (Jvm.FP.i2d x) = roundRatio b64 false n 1 0 := by
  rw [val64_i2d, hx]
  show roundRatio b64 (decide ((n : Int) < 0)) (n : Int).natAbs 1 0 = _
  rw [show decide ((n : Int) < 0) = false from decide_eq_false (by omega), Int.natAbs_natCast]
theorem l2d_r {n : Nat} {x : Int64} (hx : x.toInt = n) : val64 (Jvm.FP.l2d x) = roundRatio b64 false n 1 0 := by
  rw [val64_l2d, hx]
  show roundRatio b64 (decide ((n : Int) < 0)) (n : Int).natAbs 1 0 = _
  rw [show decide ((n : Int) < 0) = false from decide_eq_false (by omega), Int.natAbs_natCast]
theorem i2d_w {n : Nat} {x : Int32} (hx : x.toInt = n) : Worth (Jvm.FP.i2d x) (n * 2 ^ 1074) := int_w (by have := x.toInt_lt; omega) (i2d_r hx)
theorem l2d_w {n : Nat} {x : Int64} (hn : n < 2 ^ 53) (hx : x.toInt = n) : Worth (Jvm.FP.l2d x) (n * 2 ^ 1074) := int_w hn (l2d_r hx)
theorem Worth.ne {a : UInt64} {w : Nat} (h : Worth a w) : val64 a ≠ .nan := by obtain ⟨c, q, e, -⟩ := h; rw [e]; exact fun z => by cases z
theorem Worth.fun {a : UInt64} {w w' : Nat} (h : Worth a w) (h' : Worth a w') : w = w' := by
  obtain ⟨c, q, e1, -, rfl⟩ := h; obtain ⟨c', q', e1', -, rfl⟩ := h'
  rw [e1] at e1'; cases e1'; rfl
end RndB
section Cv
open Jvm.FP.Core
theorem cvz {a b : UInt64} {w v : Nat} {z : Int32} {o : CmpOp} (e : z = cmpValue (Jvm.FP.dcmp a b) o) (ha : Worth a w) (hb : Worth b v) : (z < 0 ↔ w < v) ∧ (z = 0 ↔ w = v) ∧ (0 < z ↔ v < w) := by
  rw [dcmp_worth ha hb] at e
  rcases Nat.lt_trichotomy w v with h | h | h
  · rw [Nat.compare_eq_lt.mpr h] at e
    obtain rfl : z = -1 := e
    exact ⟨⟨fun _ => h, fun _ => by decide⟩, ⟨fun q => absurd q (by decide), fun q => by omega⟩, ⟨fun q => absurd q (by decide), fun q => by omega⟩⟩
  · rw [Nat.compare_eq_eq.mpr h] at e
    obtain rfl : z = 0 := e
    exact ⟨⟨fun q => absurd q (by decide), fun q => by omega⟩, ⟨fun _ => h, fun _ => rfl⟩, ⟨fun q => absurd q (by decide), fun q => by omega⟩⟩
  · rw [Nat.compare_eq_gt.mpr h] at e
    obtain rfl : z = 1 := e
    exact ⟨⟨fun q => absurd q (by decide), fun q => by omega⟩, ⟨fun q => absurd q (by decide), fun q => by omega⟩, ⟨fun _ => h, fun _ => by decide⟩⟩
theorem cv_gt {a b : UInt64} {w v : Nat} {z : Int32} {o : CmpOp} (e : z = cmpValue (Jvm.FP.dcmp a b) o) (ha : Worth a w) (hb : Worth b v) (h : v < w) : z = 1 := by
  rw [dcmp_worth ha hb, Nat.compare_eq_gt.mpr h] at e; exact e
end Cv
section Bm
open Jvm.FP.Core
abbrev cK : UInt64 := 4608083138725491507
abbrev cQ : UInt64 := 4598175219545276416
abbrev cT : UInt64 := 4604930618986332160
abbrev cC : UInt64 := 4612136378390124954
abbrev cD : UInt64 := 4634204016564240384
abbrev cZ : UInt64 := 4599075939470750515
theorem exact_rd {n : Nat} {e : Int} (hn : n < 2 ^ 53) (h1 : -1000 ≤ e) (h2 : e ≤ 900) : Rd n 1 e (n * 2 ^ (e + 1074).toNat) := by
  rcases Nat.eq_zero_or_pos n with rfl | h0
  · rw [Nat.zero_mul]; exact Rd.zero
  have g1 : 2 ^ n.log2 ≤ n := Nat.log2_self_le (by omega)
  have g2 : n < 2 ^ (n.log2 + 1) := Nat.lt_log2_self
  have hL : n.log2 < 53 := (Nat.log2_lt (by omega)).mpr hn
  have r : roundRatio b64 false n 1 e = .fin false (n * 2 ^ (52 - n.log2)) (e + (n.log2 : Int) - 52) := by
    refine roundRatio_exact good_b64 (by decide) ⟨?_, ?_, ?_, Or.inr ?_⟩ ?_
    · show n * 2 ^ (52 - n.log2) < 2 ^ 53
      calc n * 2 ^ (52 - n.log2) < 2 ^ (n.log2 + 1) * 2 ^ (52 - n.log2) := Nat.mul_lt_mul_of_pos_right g2 (Nat.two_pow_pos _)
        _ = 2 ^ 53 := by rw [← Nat.pow_add]; congr 1; omega
    · rw [qmin64]; omega
    · rw [qmax64]; omega
    · show 2 ^ 52 ≤ n * 2 ^ (52 - n.log2)
      calc 2 ^ 52 = 2 ^ n.log2 * 2 ^ (52 - n.log2) := by rw [← Nat.pow_add]; congr 1; omega
        _ ≤ _ := Nat.mul_le_mul_right _ g1
    · rw [show (e - (e + (n.log2 : Int) - 52)).toNat = 52 - n.log2 by omega, show (e + (n.log2 : Int) - 52 - e).toNat = 0 by omega]; simp
  refine ⟨_, _, r, by omega, ?_⟩
  unfold inUnits
  rw [Nat.mul_assoc, ← Nat.pow_add, show 52 - n.log2 + (e + (n.log2 : Int) - 52 - -1074).toNat = (e + 1074).toNat by omega]
theorem const_w {a : UInt64} {c : Nat} {q : Int} (h : val64 a = .fin false c q) (hq : -1074 ≤ q) : Worth a (c * 2 ^ (q + 1074).toNat) := ⟨c, q, h, hq, by unfold inUnits; rw [show q - -1074 = q + 1074 by omega]⟩
theorem vT : val64 cT = .fin false (3 * 2 ^ 51) (-53) := by decide +kernel
theorem vQ : val64 cQ = .fin false (2 ^ 52) (-54) := by decide +kernel
theorem vK : val64 cK = .fin false 5404319552844595 (-52) := by decide +kernel
theorem vC : val64 cC = .fin false 4953959590107546 (-51) := by decide +kernel
theorem vD : val64 cD = .fin false (2 ^ 52) (-46) := by decide +kernel
abbrev wT : Nat := 3 * 2 ^ 51 * 2 ^ ((-53 : Int) + 1074).toNat
abbrev wQ : Nat := 2 ^ 52 * 2 ^ ((-54 : Int) + 1074).toNat
abbrev wK : Nat := 5404319552844595 * 2 ^ ((-52 : Int) + 1074).toNat
abbrev wC : Nat := 4953959590107546 * 2 ^ ((-51 : Int) + 1074).toNat
abbrev wD : Nat := 2 ^ 52 * 2 ^ ((-46 : Int) + 1074).toNat
theorem WT : Worth cT wT := const_w vT (by decide)
theorem WQ : Worth cQ wQ := const_w vQ (by decide)
theorem WK : Worth cK wK := const_w vK (by decide)
theorem WC : Worth cC wC := const_w vC (by decide)
theorem WD : Worth cD wD := const_w vD (by decide)
theorem bT : wT ≤ 2 ^ (0 + 1074) := by decide +kernel
theorem bQ : wQ ≤ 2 ^ (31 + 1074) := by decide +kernel
theorem bK : wK ≤ 2 ^ (1 + 1074) := by decide +kernel
theorem bC : wC ≤ 2 ^ (2 + 1074) := by decide +kernel
theorem lQ : 2 ^ 1072 ≤ wQ := by decide +kernel
theorem lK : 2 ^ 1074 ≤ wK := by decide +kernel
theorem lD : 2 ^ (1074 - 0) ≤ wD := by decide +kernel
abbrev p1 (l : Int32) : UInt64 := Jvm.FP.dmul cT (Jvm.FP.i2d l)
abbrev p2 (l : Int32) (avg : UInt64) : UInt64 := Jvm.FP.ddiv (p1 l) avg
abbrev p3 (l : Int32) (avg : UInt64) : UInt64 := Jvm.FP.dadd cQ (p2 l avg)
abbrev norm (l : Int32) (avg : UInt64) : UInt64 := Jvm.FP.dmul cK (p3 l avg)
/-- how the normalisation of a length n under the average L comes about -/
def Chain (n L : Nat) (l : Int32) (avg : UInt64) (w : Nat) : Prop := ∃ w1 w2 w3, Worth (p1 l) w1 ∧ Rd (wT * (n * 2 ^ 1074)) 1 (-2148) w1 ∧ Worth (p2 l avg) w2 ∧ Rd w1 (L * 2 ^ 1074) 0 w2 ∧ Worth (p3 l avg) w3 ∧ Rd (wQ + w2) 1 (-1074) w3 ∧ Worth (norm l avg) w ∧ Rd (wK * w3) 1 (-2148) w ∧ w ≤ 2 ^ (33 + 1074) ∧ 2 ^ 1072 ≤ w
theorem le_pow {n k : Nat} (h : n ≤ 2 ^ k) : n * 2 ^ 1074 ≤ 2 ^ (k + 1074) := by rw [Nat.pow_add]; exact Nat.mul_le_mul_right _ h
theorem chain {n L : Nat} {l : Int32} {avg : UInt64} (hl : l.toInt = n) (hn : n ≤ 2 ^ 30) (hL : 0 < L) (ha : Worth avg (L * 2 ^ 1074)) : ∃ w, Chain n L l avg w := by
  obtain ⟨w1, a1, b1, c1⟩ := mul_rd (k := 0) (l := 30) WT (i2d_w hl) bT (le_pow hn) (by decide)
  obtain ⟨w2, a2, b2, c2⟩ := div_rd (k := 30) (j := 0) a1 ha (by rw [Nat.zero_add] at c1; exact c1) (by rw [Nat.sub_zero]; exact Nat.le_mul_of_pos_left _ hL) (by decide) (by decide)
  obtain ⟨w3, a3, b3, c3⟩ := add_rd (k := 31) WQ a2 bQ (Nat.le_trans c2 (Nat.pow_le_pow_right (by decide) (by decide))) (by decide)
  obtain ⟨w4, a4, b4, c4⟩ := mul_rd (k := 1) (l := 32) WK a3 bK c3 (by decide)
  have d3 := rd_lb (k := 1072) (by decide) (by decide) (by decide) (by decide) (by rw [Nat.mul_one]; exact Nat.le_trans lQ (Nat.le_add_right _ _)) b3
  rw [show (((1072 : Nat) : Int) + -1074 + 1074).toNat = 1072 from rfl] at d3
  have d4 := rd_lb (k := 1074 + 1072) (by decide) (by decide) (by decide) (by decide) (by rw [Nat.mul_one, Nat.pow_add]; exact Nat.mul_le_mul lK d3) b4
  rw [show (((1074 + 1072 : Nat) : Int) + -2148 + 1074).toNat = 1072 from rfl] at d4
  exact ⟨w4, w1, w2, w3, a1, b1, a2, b2, a3, b3, a4, b4, c4, d4⟩
theorem chain_mono {n n' L : Nat} {l l' : Int32} {avg : UInt64} {w w' : Nat} (hL : 0 < L) (h : Chain n L l avg w) (h' : Chain n' L l' avg w') (hn : n ≤ n') : w ≤ w' := by
  obtain ⟨w1, w2, w3, -, b1, -, b2, -, b3, -, b4, -, -⟩ := h
  obtain ⟨w1', w2', w3', -, b1', -, b2', -, b3', -, b4', -, -⟩ := h'
  have hp : 0 < L * 2 ^ 1074 := Nat.mul_pos hL (Nat.two_pow_pos _)
  have e1 := rd_mono (by decide) (by decide) (by decide) b1 b1' (by rw [Nat.mul_one, Nat.mul_one]; exact Nat.mul_le_mul_left _ (Nat.mul_le_mul_right _ hn))
  have e2 := rd_mono (by decide) hp hp b2 b2' (Nat.mul_le_mul_right _ e1)
  have e3 := rd_mono (by decide) (by decide) (by decide) b3 b3' (by rw [Nat.mul_one, Nat.mul_one]; exact Nat.add_le_add_left e2 _)
  exact rd_mono (by decide) (by decide) (by decide) b4 b4' (by rw [Nat.mul_one, Nat.mul_one]; exact Nat.mul_le_mul_left _ e3)
theorem avg_w {t : Int64} {L : Nat} (hL : 0 < L) (hb : L ≤ 2 ^ 30) (ht : t.toInt = ((3 * L : Nat) : Int)) : Worth (Jvm.FP.ddiv (Jvm.FP.l2d t) (Jvm.FP.i2d 3)) (L * 2 ^ 1074) := by
  refine int_w (by omega) ?_
  rw [div_w (l2d_w (by omega) ht) (i2d_w (n := 3) (x := 3) rfl) (Nat.mul_pos (by decide) (Nat.two_pow_pos _))]
  refine roundRatio_congr (Nat.mul_pos (by decide) (Nat.two_pow_pos _)) (by decide) ?_
  generalize (2 : Nat) ^ 1074 = P
  generalize (2 : Nat) ^ ((0 : Int) - 0).toNat = S
  rw [Nat.mul_one]; ac_rfl
theorem mean_norm {l : Int32} {L : Nat} {avg : UInt64} (hl : l.toInt = L) (hL : 0 < L) (hb : L ≤ 2 ^ 30) (ha : Worth avg (L * 2 ^ 1074)) : norm l avg = cK := by
  have r1 : Worth (p1 l) (3 * L * 2 ^ 1072) := by
    have r := exact_rd (n := 3 * L) (e := -2) (by omega) (by decide) (by decide)
    rw [show ((-2 : Int) + 1074).toNat = 1072 from rfl] at r
    refine .of_rd ?_ r
    rw [mul_w WT (i2d_w hl)]
    refine roundRatio_congr (by decide) (by decide) ?_
    rw [show ((-2148 : Int) - -2).toNat = 0 from rfl, show ((-2 : Int) - -2148).toNat = 2146 from rfl, Nat.pow_zero, Nat.mul_one, Nat.mul_one, Nat.mul_one, show (2146 : Nat) = 51 + ((-53 : Int) + 1074).toNat + 1074 from rfl, Nat.pow_add, Nat.pow_add]
    show 3 * 2 ^ 51 * 2 ^ ((-53 : Int) + 1074).toNat * (L * 2 ^ 1074) = _
    generalize (2 : Nat) ^ 1074 = P
    generalize (2 : Nat) ^ ((-53 : Int) + 1074).toNat = S
    generalize (2 : Nat) ^ 51 = R
    ac_rfl
  have r2 : p2 l avg = cT := by
    refine val64_inj ?_ ?_
    · show val64 (Jvm.FP.ddiv (p1 l) avg) ≠ _
      obtain ⟨w, a, -⟩ := div_rd (k := 32) (j := 0) r1 ha (Nat.le_trans (Nat.mul_le_mul_left _ (Nat.pow_le_pow_right (by decide) (show 1072 ≤ 1074 by decide))) (le_pow (by omega))) (by rw [Nat.sub_zero]; exact Nat.le_mul_of_pos_left _ hL) (by decide) (by decide)
      exact a.ne
    · show val64 (Jvm.FP.ddiv (p1 l) avg) = _
      rw [div_w r1 ha (Nat.mul_pos hL (Nat.two_pow_pos _)), vT, ← show roundRatio b64 false 3 1 (-2) = .fin false (3 * 2 ^ 51) (-53) by decide +kernel]
      refine roundRatio_congr (Nat.mul_pos hL (Nat.two_pow_pos _)) (by decide) ?_
      rw [show ((0 : Int) - -2).toNat = 2 from rfl, show ((-2 : Int) - 0).toNat = 0 from rfl, Nat.pow_zero, Nat.mul_one, Nat.mul_one, show (1074 : Nat) = 1072 + 2 from rfl, Nat.pow_add]
      generalize (2 : Nat) ^ 1072 = P
      generalize (2 : Nat) ^ 2 = R
      ac_rfl
  show Jvm.FP.dmul cK (Jvm.FP.dadd cQ (p2 l avg)) = cK
  rw [r2]; decide +kernel
theorem zero_norm {L : Nat} {avg : UInt64} (hL : 0 < L) (ha : Worth avg (L * 2 ^ 1074)) : norm 0 avg = cZ := by
  have r1 : p1 0 = Jvm.FP.dconst0 := by decide +kernel
  have r2 : p2 0 avg = Jvm.FP.dconst0 := by
    have e : val64 (Jvm.FP.ddiv Jvm.FP.dconst0 avg) = val64 Jvm.FP.dconst0 := by
      rw [div_w w_zero ha (Nat.mul_pos hL (Nat.two_pow_pos _))]
      unfold roundRatio; rw [if_pos rfl]; decide +kernel
    show Jvm.FP.ddiv (p1 0) avg = _
    rw [r1]
    exact val64_inj (by rw [e]; exact w_zero.ne) e
  show Jvm.FP.dmul cK (Jvm.FP.dadd cQ (p2 0 avg)) = cZ
  rw [r2]; decide +kernel
abbrev idfOf (i : Int32) : UInt64 := Jvm.FP.ddiv (Jvm.FP.i2d i) cD
abbrev numOf (i f : Int32) : UInt64 := Jvm.FP.dmul (Jvm.FP.dmul (idfOf i) (Jvm.FP.i2d f)) cC
theorem num_w {i f : Int32} {a b : Nat} (hi : i.toInt = a) (ha : a ≤ 2 ^ 20) (hf : f.toInt = b) (hb : b ≤ 2 ^ 31) : (∃ w, Worth (idfOf i) w) ∧ (∃ w, Worth (Jvm.FP.dmul (idfOf i) (Jvm.FP.i2d f)) w) ∧ ∃ w, Worth (numOf i f) w ∧ w ≤ 2 ^ (53 + 1074) := by
  obtain ⟨w1, a1, -, c1⟩ := div_rd (k := 20) (j := 0) (i2d_w hi) WD (le_pow ha) lD (by decide) (by decide)
  obtain ⟨w2, a2, -, c2⟩ := mul_rd (k := 20 + 0) (l := 31) a1 (i2d_w hf) c1 (le_pow hb) (by decide)
  obtain ⟨w3, a3, -, c3⟩ := mul_rd (k := 20 + 0 + 31) (l := 2) a2 WC c2 bC (by decide)
  exact ⟨⟨w1, a1⟩, ⟨w2, a2⟩, w3, a3, c3⟩
/-- a weight: the numerator X over f and a normalisation v worth w -/
def Wt (X : UInt64) (f : Int32) (v : UInt64) (b w wX wd ww : Nat) : Prop := Worth (Jvm.FP.dadd (Jvm.FP.i2d f) v) wd ∧ Rd (b * 2 ^ 1074 + w) 1 (-1074) wd ∧ 0 < wd ∧ Worth (Jvm.FP.ddiv X (Jvm.FP.dadd (Jvm.FP.i2d f) v)) ww ∧ Rd wX wd 0 ww
theorem wt {X v : UInt64} {f : Int32} {b w wX : Nat} (hX : Worth X wX) (hX2 : wX ≤ 2 ^ (53 + 1074)) (hf : f.toInt = b) (hb : b ≤ 2 ^ 31) (hv : Worth v w) (hv1 : w ≤ 2 ^ (33 + 1074)) (hv2 : 2 ^ 1072 ≤ w) : ∃ wd ww, Wt X f v b w wX wd ww := by
  obtain ⟨wd, a1, b1, -⟩ := add_rd (k := 33) (i2d_w hf) hv (Nat.le_trans (le_pow hb) (Nat.pow_le_pow_right (by decide) (by decide))) hv1 (by decide)
  have d := rd_lb (k := 1072) (by decide) (by decide) (by decide) (by decide) (by rw [Nat.mul_one]; exact Nat.le_trans hv2 (Nat.le_add_left _ _)) b1
  rw [show (((1072 : Nat) : Int) + -1074 + 1074).toNat = 1072 from rfl] at d
  obtain ⟨ww, a2, b2, -⟩ := div_rd (k := 53) (j := 2) hX a1 hX2 (by rw [show 1074 - 2 = 1072 from rfl]; exact d) (by decide) (by decide)
  exact ⟨wd, ww, a1, b1, Nat.lt_of_lt_of_le (Nat.two_pow_pos _) d, a2, b2⟩
theorem wt_anti {X v v' : UInt64} {f : Int32} {b w w' wX wd wd' ww ww' : Nat} (h : Wt X f v b w wX wd ww) (h' : Wt X f v' b w' wX wd' ww') (hw : w ≤ w') : ww' ≤ ww := by
  obtain ⟨-, b1, d1, -, e1⟩ := h; obtain ⟨-, b1', d1', -, e1'⟩ := h'
  have q := rd_mono (by decide) (by decide) (by decide) b1 b1' (by rw [Nat.mul_one, Nat.mul_one]; exact Nat.add_le_add_left hw _)
  exact rd_mono (by decide) d1' d1 e1' e1 (Nat.mul_le_mul_left _ q)
end Bm
section Bw
open Jvm.FP.Core
theorem Worth.nn {a : UInt64} {w : Nat} (h : Worth a w) : Jvm.Free.Fl.NoNaN64 a := Jvm.Free.Fl.noNaN64_no.mpr (by show decide (val64 a = .nan) = false; exact decide_eq_false h.ne)
def NN (l : Int32) (av v : UInt64) : Prop := Jvm.Free.Fl.NoNaN64 (p1 l) ∧ Jvm.Free.Fl.NoNaN64 (p2 l av) ∧ Jvm.Free.Fl.NoNaN64 (p3 l av) ∧ Jvm.Free.Fl.NoNaN64 (norm l av) ∧ norm l av = v
theorem nn_of {n L : Nat} {l : Int32} {av v : UInt64} {w : Nat} (h : Chain n L l av w) (e : norm l av = v) : NN l av v := by
  obtain ⟨w1, w2, w3, a1, -, a2, -, a3, -, a4, -⟩ := h
  exact ⟨a1.nn, a2.nn, a3.nn, a4.nn, e⟩
theorem chain_v {n L : Nat} {l : Int32} {av v : UInt64} {w : Nat} (h : Chain n L l av w) (e : norm l av = v) : Worth v w ∧ w ≤ 2 ^ (33 + 1074) ∧ 2 ^ 1072 ≤ w := by
  obtain ⟨w1, w2, w3, -, -, -, -, -, -, a4, -, c, d⟩ := h
  exact ⟨e ▸ a4, c, d⟩
theorem num_w' {i f : Int32} {a b : Nat} {idf : UInt64} (e : Jvm.FP.ddiv (Jvm.FP.i2d i) cD = idf) (hi : i.toInt = a) (ha : a ≤ 2 ^ 20) (hf : f.toInt = b) (hb : b ≤ 2 ^ 31) : (∃ w, Worth (Jvm.FP.dmul idf (Jvm.FP.i2d f)) w) ∧ ∃ w, Worth (Jvm.FP.dmul (Jvm.FP.dmul idf (Jvm.FP.i2d f)) cC) w ∧ w ≤ 2 ^ (53 + 1074) := by
  subst e; exact (num_w hi ha hf hb).2
theorem idf_nn {i : Int32} {a : Nat} (hi : i.toInt = a) (ha : a ≤ 2 ^ 20) : Jvm.Free.Fl.NoNaN64 (Jvm.FP.ddiv (Jvm.FP.i2d i) cD) := by
  obtain ⟨⟨w, h⟩, -⟩ := num_w (f := 0) (b := 0) hi ha rfl (by decide); exact h.nn
theorem Wt.re {X v v' : UInt64} {f : Int32} {b w wX wd ww : Nat} (h : Wt X f v b w wX wd ww) (e : v = v') : Wt X f v' b w wX wd ww := e ▸ h
def LL (l0 l1 : Int32) : Prop := 0 ≤ l0.toInt ∧ l0.toInt < 1073741824 ∧ 0 ≤ l1.toInt ∧ l1.toInt < 1073741824 ∧ (l0.toInt + l1.toInt) % 2 = 0 ∧ 0 < l0.toInt + l1.toInt
theorem ll_a {x y z3 z9 z13 z14 z21 : Int32} (e3 : z3 = x &&& 1073741823) (e9 : z9 = y &&& 1073741822) (e13 : z13 = z3 &&& 1) (e14 : z14 = z9 ||| z13) (e21 : z21 = z3 + z14) :
    0 ≤ z3.toInt ∧ z3.toInt < 1073741824 ∧ 0 ≤ z14.toInt ∧ z14.toInt < 1073741824 ∧ (z3.toInt + z14.toInt) % 2 = 0 ∧ z21.toInt = z3.toInt + z14.toInt := by
  have o1 := c_mask x 1073741823 30 (by decide) (by decide); rw [← e3] at o1
  have o2 := c_and y 1073741822 (by decide); rw [← e9, show (1073741822 : Int32).toInt = 1073741822 from rfl] at o2
  have o3 := c_mask z9 1 1 (by decide) (by decide)
  have o4 : z9 &&& 1 = 0 := by rw [e9, Int32.and_assoc, show (1073741822 : Int32) &&& 1 = 0 by decide]; exact Int32.and_zero
  rw [o4, show (0 : Int32).toInt = 0 from rfl] at o3
  have o5 := c_mask z3 1 1 (by decide) (by decide); rw [← e13] at o5
  have o6 := c_or z9 z13 1 (by decide) 2 (by decide) (by omega) (by omega) (by omega); rw [← e14] at o6
  have o7 := c_iadd z3 z14; rw [← e21] at o7
  have r1 := rng32 z14; have r2 := rng32 z21
  omega
theorem ll_ne {x y z3 z9 z13 z14 z21 : Int32} (e3 : z3 = x &&& 1073741823) (e9 : z9 = y &&& 1073741822) (e13 : z13 = z3 &&& 1) (e14 : z14 = z9 ||| z13) (e21 : z21 = z3 + z14) (h : ¬ z21 = 0) : LL z3 z14 := by
  obtain ⟨a1, a2, a3, a4, a5, a6⟩ := ll_a e3 e9 e13 e14 e21
  have : z21.toInt ≠ 0 := fun q => h (Int32.toInt_inj.mp q)
  exact ⟨a1, a2, a3, a4, a5, by omega⟩
theorem ll_eq {x y z3 z9 z13 z14 z21 : Int32} (e3 : z3 = x &&& 1073741823) (e9 : z9 = y &&& 1073741822) (e13 : z13 = z3 &&& 1) (e14 : z14 = z9 ||| z13) (e21 : z21 = z3 + z14) (h : z21 = 0) : LL z3 2 := by
  obtain ⟨a1, a2, a3, a4, a5, a6⟩ := ll_a e3 e9 e13 e14 e21
  have : z21.toInt = 0 := by rw [h]; rfl
  have e2 : (2 : Int32).toInt = 2 := rfl
  unfold LL; rw [e2]; omega
theorem bw {l0 l1 z32 z34 : Int32} {z39 z42 z43 z46 z47 : Int64} (h : LL l0 l1) (e32 : z32 = l0 + l1) (e34 : z34 = z32 / 2) (e39 : z39 = l0.toInt64) (e42 : z42 = l1.toInt64) (e43 : z43 = z39 + z42) (e46 : z46 = z34.toInt64) (e47 : z47 = z43 + z46) :
    ∃ n0 n1 L : Nat, l0.toInt = n0 ∧ l1.toInt = n1 ∧ z34.toInt = L ∧ n0 ≤ 2 ^ 30 ∧ n1 ≤ 2 ^ 30 ∧ L ≤ 2 ^ 30 ∧ 0 < L ∧ n0 + n1 = 2 * L ∧ z47.toInt = ((3 * L : Nat) : Int) := by
  obtain ⟨a1, a2, a3, a4, a5, a6⟩ := h
  have o1 := c_iadd l0 l1; rw [← e32] at o1
  have r1 := rng32 z32
  have o2 := (c_idiv z32 2 2 (by decide) (by decide)).1; rw [← e34] at o2
  have o3 := c_i2l l0; rw [← e39] at o3
  have o4 := c_i2l l1; rw [← e42] at o4
  have o5 := c_i2l z34; rw [← e46] at o5
  have o6 := c_ladd z39 z42; rw [← e43] at o6
  have o7 := c_ladd z43 z46; rw [← e47] at o7
  have r2 := rng64 z43; have r3 := rng64 z47
  have e1 : z32.toInt = l0.toInt + l1.toInt := by omega
  have e2 := o2 (by omega)
  refine ⟨l0.toInt.toNat, l1.toInt.toNat, z34.toInt.toNat, by omega, by omega, by omega, by omega, by omega, by omega, by omega, by omega, by omega⟩
theorem m20 {z i : Int32} (e : z = i &&& 1048575) : ∃ a : Nat, z.toInt = a ∧ a ≤ 2 ^ 20 := by
  have o := c_mask i 1048575 20 (by decide) (by decide); rw [← e] at o
  exact ⟨z.toInt.toNat, by omega, by omega⟩
theorem m31 {z i : Int32} (e : z = i &&& 2147483647) : ∃ a : Nat, z.toInt = a ∧ a ≤ 2 ^ 31 := by
  have o := c_mask i 2147483647 31 (by decide) (by decide); rw [← e] at o
  exact ⟨z.toInt.toNat, by omega, by omega⟩
theorem nneg {x : Int32} {n : Nat} (h : x.toInt = n) : ¬ x < 0 := by rw [Int32.lt_iff_toInt_lt, show (0 : Int32).toInt = 0 from rfl]; omega
theorem tok {t : Int64} {L : Nat} (h : t.toInt = ((3 * L : Nat) : Int)) (hL : 0 < L) : ¬ t < 1 := by rw [Int64.lt_iff_toInt_lt, show (1 : Int64).toInt = 1 from rfl]; omega
theorem gt_i {x y : Int32} (h : y < x) : y.toInt < x.toInt := Int32.lt_iff_toInt_lt.mp h
theorem le_i {x y : Int32} (h : ¬ y < x) : x.toInt ≤ y.toInt := Int.not_lt.mp fun q => h (Int32.lt_iff_toInt_lt.mpr q)
theorem ix20 {i z : Int32} (hi : 0 ≤ i.toInt ∧ i.toInt ≤ 100) (e : z = i + 128) : ¬ z < 0 ∧ z.toNatClampNeg < 256 := by
  have o := c_iadd i 128; rw [← e, show (128 : Int32).toInt = 128 from rfl] at o
  have r := rng32 z
  rw [Int32.lt_iff_toInt_lt, show (0 : Int32).toInt = 0 from rfl]
  simp only [Int32.toNatClampNeg]; omega
end Bw
abbrev o_Ix (v0 : Value) (v1 : Value) (v2 : Value) (v3 : Value) (v4 : Value) (v5 : Value) (v6 : Value) (v7 : Value) (v8 : Value) : Obj := .inl ("com/example/thin_index/thinindex/Index", [(("com/example/thin_index/thinindex/Index", "documentIds", "[Ljava/lang/String;"), v0), (("com/example/thin_index/thinindex/Index", "documentLengths", "[I"), v1), (("com/example/thin_index/thinindex/Index", "tokenCount", "J"), v2), (("com/example/thin_index/thinindex/Index", "terms", "[Ljava/lang/String;"), v3), (("com/example/thin_index/thinindex/Index", "documentFrequencies", "[I"), v4), (("com/example/thin_index/thinindex/Index", "collectionFrequencies", "[J"), v5), (("com/example/thin_index/thinindex/Index", "postingsStart", "[I"), v6), (("com/example/thin_index/thinindex/Index", "postingDocuments", "[I"), v7), (("com/example/thin_index/thinindex/Index", "postingFrequencies", "[I"), v8)])
theorem lay_Ix {Z : State} {a0 : Array Value} (hw : ∀ d ∈ tables_1, d.before a0 Z = true) : AllLaid Z a0 "com/example/thin_index/thinindex/Index" [(("com/example/thin_index/thinindex/Index", "documentIds", "[Ljava/lang/String;"), .null), (("com/example/thin_index/thinindex/Index", "documentLengths", "[I"), .null), (("com/example/thin_index/thinindex/Index", "tokenCount", "J"), (.long (0 : Int64))), (("com/example/thin_index/thinindex/Index", "terms", "[Ljava/lang/String;"), .null), (("com/example/thin_index/thinindex/Index", "documentFrequencies", "[I"), .null), (("com/example/thin_index/thinindex/Index", "collectionFrequencies", "[J"), .null), (("com/example/thin_index/thinindex/Index", "postingsStart", "[I"), .null), (("com/example/thin_index/thinindex/Index", "postingDocuments", "[I"), .null), (("com/example/thin_index/thinindex/Index", "postingFrequencies", "[I"), .null)] := ⟨⟨(.array (.object "java/lang/String")), Or.inr (hw _ (List.mem_of_getElem? (i := 35) rfl)), by decide +kernel, rfl⟩, ⟨(.array .int), Or.inr (hw _ (List.mem_of_getElem? (i := 40) rfl)), by decide +kernel, rfl⟩, ⟨.long, Or.inr (hw _ (List.mem_of_getElem? (i := 42) rfl)), by decide +kernel, rfl⟩, ⟨(.array (.object "java/lang/String")), Or.inr (hw _ (List.mem_of_getElem? (i := 45) rfl)), by decide +kernel, rfl⟩, ⟨(.array .int), Or.inr (hw _ (List.mem_of_getElem? (i := 48) rfl)), by decide +kernel, rfl⟩, ⟨(.array .long), Or.inr (hw _ (List.mem_of_getElem? (i := 53) rfl)), by decide +kernel, rfl⟩, ⟨(.array .int), Or.inr (hw _ (List.mem_of_getElem? (i := 56) rfl)), by decide +kernel, rfl⟩, ⟨(.array .int), Or.inr (hw _ (List.mem_of_getElem? (i := 59) rfl)), by decide +kernel, rfl⟩, ⟨(.array .int), Or.inr (hw _ (List.mem_of_getElem? (i := 62) rfl)), by decide +kernel, rfl⟩, trivial⟩
abbrev o_Bm (v0 : Value) (v1 : Value) : Obj := .inl ("com/example/thin_index/thinindex/Bm25", [(("com/example/thin_index/thinindex/Bm25", "index", "Lcom/example/thin_index/thinindex/Index;"), v0), (("com/example/thin_index/thinindex/Bm25", "lengthNormalisations", "[D"), v1)])
theorem lay_Bm {Z : State} {a0 : Array Value} (hw : ∀ d ∈ tables_1, d.before a0 Z = true) : AllLaid Z a0 "com/example/thin_index/thinindex/Bm25" [(("com/example/thin_index/thinindex/Bm25", "index", "Lcom/example/thin_index/thinindex/Index;"), .null), (("com/example/thin_index/thinindex/Bm25", "lengthNormalisations", "[D"), .null)] := ⟨⟨(.object "com/example/thin_index/thinindex/Index"), Or.inr (hw _ (List.mem_of_getElem? (i := 130) rfl)), by decide +kernel, rfl⟩, ⟨(.array .double), Or.inr (hw _ (List.mem_of_getElem? (i := 143) rfl)), by decide +kernel, rfl⟩, trivial⟩
abbrev o_Str (v : Value) : Obj := .inl ("java/lang/String", [(("java/lang/String", "value", "[B"), v)])
theorem strs {Z : State} {a0 : Array Value} (hw : ∀ d ∈ tables_1, d.before a0 Z = true) : ∀ a ∈ Bundle.stringAtoms, a.before a0 Z = true := fun d hd => by
  simp only [Bundle.stringAtoms, List.mem_cons, List.not_mem_nil, or_false] at hd
  rcases hd with rfl | rfl | rfl | rfl | rfl | rfl | rfl
  · exact (hw _ (List.mem_of_getElem? (i := 8) rfl))
  · exact (hw _ (List.mem_of_getElem? (i := 9) rfl))
  · exact (hw _ (List.mem_of_getElem? (i := 10) rfl))
  · exact (hw _ (List.mem_of_getElem? (i := 11) rfl))
  · exact (hw _ (List.mem_of_getElem? (i := 12) rfl))
  · exact (hw _ (List.mem_of_getElem? (i := 13) rfl))
  · exact (hw _ (List.mem_of_getElem? (i := 14) rfl))
abbrev rm_3 : Room := { frames := 0, cells := 0, slots := 0, locals := 0 }
theorem d3_0 : decode jdk_31_method_11_code 0 = .ok (.aload_n 0, 1) := by decide +kernel
theorem d3_1 : decode jdk_31_method_11_code 1 = .ok (.ifnonnull 12, 3) := by decide +kernel
theorem d3_13 : decode jdk_31_method_11_code 13 = .ok (.aload_n 0, 1) := by decide +kernel
theorem d3_14 : decode jdk_31_method_11_code 14 = .ok (.areturn, 1) := by decide +kernel
set_option maxRecDepth 65536 in
set_option maxHeartbeats 4000000 in
theorem c_rnn (l : Launch) (Z : State) (a0 : Array Value) (hw : ∀ d ∈ tables_1, d.before a0 Z = true) (n0 : Nat) (μ : Mem) (b : Addr) (t : Addr)  :
    Con l Z n0 (⟨"java/util/Objects", "requireNonNull", "(Ljava/lang/Object;Ljava/lang/String;)Ljava/lang/Object;"⟩ : MethodName) jdk_31_method_11_code 2 (some (.object "java/lang/Object")) [] rm_3 rm_3.cells rm_3.slots #[(.ref b), (.ref t)] μ (RR fun z μ' => μ' = μ ∧ z = .ref b) := by
  refine Con.intro (L0 := #[.val (.ref b), .val (.ref t)]) (plainFor_of_name (by first | (simp [plainName, overriddenIn]; done) | decide +kernel)) (fun m => by first | (simp [entryFrame, mkF, argsToLocals, Value.category]; done) | rfl) ?_
  intro p e s m below meth c C
  have C : Ctx p s m meth c Z "java/util/Objects" "requireNonNull" jdk_31_method_11_code 2 (some (.object "java/lang/Object")) := C
  refine Own.aloadN C d3_0 (q := 1) rfl rfl rfl ?_
  refine Own.ifnonnullY C d3_1 (q := 13) (by decide) ?_
  refine Own.aloadN C d3_13 (q := 14) rfl rfl rfl ?_
  refine Own.areturn C rfl rfl d3_14 (by decide) (by decide) ?_
  exact ⟨_, rfl, rfl, rfl, rfl⟩
abbrev rm_5 : Room := { frames := 0, cells := 0, slots := 0, locals := 0 }
theorem d5_0 : decode prog_15_method_22_code 0 = .ok (.iload_n 0, 1) := by decide +kernel
theorem d5_1 : decode prog_15_method_22_code 1 = .ok (.ifCond .ne 12, 3) := by decide +kernel
theorem d5_13 : decode prog_15_method_22_code 13 = .ok (.return_, 1) := by decide +kernel
set_option maxRecDepth 65536 in
set_option maxHeartbeats 4000000 in
theorem c_chk (l : Launch) (Z : State) (a0 : Array Value) (hw : ∀ d ∈ tables_1, d.before a0 Z = true) (n0 : Nat) (μ : Mem) (t : Addr)  :
    Con l Z n0 (⟨"com/example/thin_index/thinindex/Index", "check", "(ZLjava/lang/String;)V"⟩ : MethodName) prog_15_method_22_code 2 none [] rm_5 rm_5.cells rm_5.slots #[(.int (1 : Int32)), (.ref t)] μ (RV fun μ' => μ' = μ) := by
  refine Con.intro (L0 := #[.val (.int (1 : Int32)), .val (.ref t)]) (plainFor_of_name (by first | (simp [plainName, overriddenIn]; done) | decide +kernel)) (fun m => by first | (simp [entryFrame, mkF, argsToLocals, Value.category]; done) | rfl) ?_
  intro p e s m below meth c C
  have C : Ctx p s m meth c Z "com/example/thin_index/thinindex/Index" "check" prog_15_method_22_code 2 none := C
  refine Own.iloadN C d5_0 (q := 1) rfl rfl ?_
  refine Own.if_ne C d5_1 (q := 4) rfl (r := 13) (by decide) (fun h1 => ?_) (fun h1 => ?_)
  · refine Own.vreturn C d5_13 (by decide) (by decide) ?_
    exact ⟨rfl, rfl⟩
  · exact absurd h1 (by decide)
abbrev rm_8 : Room := { frames := 0, cells := 0, slots := 0, locals := 0 }
theorem d8_0 : decode prog_15_method_23_code 0 = .ok (.iload_n 0, 1) := by decide +kernel
theorem d8_1 : decode prog_15_method_23_code 1 = .ok (.ifCond .ne 22, 3) := by decide +kernel
theorem d8_23 : decode prog_15_method_23_code 23 = .ok (.return_, 1) := by decide +kernel
set_option maxRecDepth 65536 in
set_option maxHeartbeats 4000000 in
theorem c_chk4 (l : Launch) (Z : State) (a0 : Array Value) (hw : ∀ d ∈ tables_1, d.before a0 Z = true) (n0 : Nat) (μ : Mem) (t : Addr) (v : Value) (u : Addr) (hv : v.isRef = true) :
    Con l Z n0 (⟨"com/example/thin_index/thinindex/Index", "check", "(ZLjava/lang/String;Ljava/lang/Object;Ljava/lang/String;)V"⟩ : MethodName) prog_15_method_23_code 4 none [] rm_8 rm_8.cells rm_8.slots #[(.int (1 : Int32)), (.ref t), v, (.ref u)] μ (RV fun μ' => μ' = μ) := by
  refine Con.intro (L0 := #[.val (.int (1 : Int32)), .val (.ref t), .val v, .val (.ref u)]) (plainFor_of_name (by first | (simp [plainName, overriddenIn]; done) | decide +kernel)) (fun m => by first | (simp [entryFrame, mkF, argsToLocals, Value.category]; done) | rfl | (rcases ref_cases hv with rfl | ⟨_, rfl⟩ <;> simp [entryFrame, mkF, argsToLocals, Value.category])) ?_
  intro p e s m below meth c C
  have C : Ctx p s m meth c Z "com/example/thin_index/thinindex/Index" "check" prog_15_method_23_code 4 none := C
  refine Own.iloadN C d8_0 (q := 1) rfl rfl ?_
  refine Own.if_ne C d8_1 (q := 4) rfl (r := 23) (by decide) (fun h1 => ?_) (fun h1 => ?_)
  · refine Own.vreturn C d8_23 (by decide) (by decide) ?_
    exact ⟨rfl, rfl⟩
  · exact absurd h1 (by decide)
abbrev rm_6 : Room := { frames := 0, cells := 0, slots := 0, locals := 0 }
theorem d6_0 : decode jdk_42_method_55_code 0 = .ok (.aload_n 0, 1) := by decide +kernel
theorem d6_1 : decode jdk_42_method_55_code 1 = .ok (.getfield 9, 3) := by decide +kernel
theorem d6_4 : decode jdk_42_method_55_code 4 = .ok (.arraylength, 1) := by decide +kernel
theorem d6_5 : decode jdk_42_method_55_code 5 = .ok (.ifCond .ne 7, 3) := by decide +kernel
theorem d6_12 : decode jdk_42_method_55_code 12 = .ok (.iconst 0, 1) := by decide +kernel
theorem d6_13 : decode jdk_42_method_55_code 13 = .ok (.ireturn, 1) := by decide +kernel
set_option maxRecDepth 65536 in
set_option maxHeartbeats 4000000 in
theorem c_emp (l : Launch) (Z : State) (a0 : Array Value) (hw : ∀ d ∈ tables_1, d.before a0 Z = true) (n0 : Nat) (μ : Mem) (a : Addr) (b : Addr) (x : Int32) (ha : μ a = some (o_Str (.ref b))) (hb : μ b = some (.inr (.byte, [(.int x)]))) :
    Con l Z n0 (⟨"java/lang/String", "isEmpty", "()Z"⟩ : MethodName) jdk_42_method_55_code 1 (some .boolean) [] rm_6 rm_6.cells rm_6.slots #[(.ref a)] μ (RI fun z μ' => μ' = μ ∧ z = 0) := by
  refine Con.intro (L0 := #[.val (.ref a)]) (plainFor_of_name (by first | (simp [plainName, overriddenIn]; done) | decide +kernel)) (fun m => by first | (simp [entryFrame, mkF, argsToLocals, Value.category]; done) | rfl) ?_
  intro p e s m below meth c C
  have C : Ctx p s m meth c Z "java/lang/String" "isEmpty" jdk_42_method_55_code 1 (some .boolean) := C
  refine Own.aloadN C d6_0 (q := 1) rfl rfl rfl ?_
  refine Own.getfield C d6_1 (q := 4) rfl (host := "") (Or.inl (hw _ (List.mem_of_getElem? (i := 76) rfl))) Via.refl ha (j := 0) rfl ?_
  refine Own.arraylength C d6_4 (q := 5) rfl hb fun z4 e4 e4i => ?_
  obtain rfl : z4 = (1 : Int32) := e4.trans (by rfl)
  refine Own.if_ne C d6_5 (q := 8) rfl (r := 12) (by decide) (fun h5 => ?_) (fun h5 => ?_)
  · refine Own.iconst C d6_12 (q := 13) rfl (z := 0) (by decide) ?_
    refine Own.nreturn C d6_13 (by simp) (z' := (0 : Int32)) (by decide) (by decide) (by decide) ?_
    exact ⟨_, rfl, rfl, rfl⟩
  · exact absurd h5 (by decide)
abbrev rm_7 : Room := { frames := 0, cells := 0, slots := 0, locals := 0 }
theorem d7_0 : decode jdk_33_method_22_code 0 = .ok (.iload_n 0, 1) := by decide +kernel
theorem d7_1 : decode jdk_33_method_22_code 1 = .ok (.bipush (-128), 2) := by decide +kernel
theorem d7_3 : decode jdk_33_method_22_code 3 = .ok (.if_icmp .lt 20, 3) := by decide +kernel
theorem d7_6 : decode jdk_33_method_22_code 6 = .ok (.iload_n 0, 1) := by decide +kernel
theorem d7_7 : decode jdk_33_method_22_code 7 = .ok (.getstatic 191, 3) := by decide +kernel
theorem d7_10 : decode jdk_33_method_22_code 10 = .ok (.if_icmp .gt 13, 3) := by decide +kernel
theorem d7_13 : decode jdk_33_method_22_code 13 = .ok (.getstatic 195, 3) := by decide +kernel
theorem d7_16 : decode jdk_33_method_22_code 16 = .ok (.iload_n 0, 1) := by decide +kernel
theorem d7_17 : decode jdk_33_method_22_code 17 = .ok (.sipush 128, 3) := by decide +kernel
theorem d7_20 : decode jdk_33_method_22_code 20 = .ok (.iadd, 1) := by decide +kernel
theorem d7_21 : decode jdk_33_method_22_code 21 = .ok (.aaload, 1) := by decide +kernel
theorem d7_22 : decode jdk_33_method_22_code 22 = .ok (.areturn, 1) := by decide +kernel
set_option maxRecDepth 65536 in
set_option maxHeartbeats 4000000 in
theorem c_vof (l : Launch) (Z : State) (a0 : Array Value) (hw : ∀ d ∈ tables_1, d.before a0 Z = true) (n0 : Nat) (μ : Mem) (i : Int32) (CA : Addr) (vs : List Value) (SH : Sta Z Z.heap "java/lang/Integer$IntegerCache" "high" "I" (.int 127)) (SC : Sta Z Z.heap "java/lang/Integer$IntegerCache" "cache" "[Ljava/lang/Integer;" (.ref CA)) (hvs : ∀ j, j < 256 → ∃ v, vs[j]? = some v ∧ v.isRef = true) (hCA : μ CA = some (.inr ((.object "java/lang/Integer"), vs))) (hi : 0 ≤ i.toInt ∧ i.toInt ≤ 100) :
    Con l Z n0 (⟨"java/lang/Integer", "valueOf", "(I)Ljava/lang/Integer;"⟩ : MethodName) jdk_33_method_22_code 1 (some (.object "java/lang/Integer")) [] rm_7 rm_7.cells rm_7.slots #[(.int i)] μ (RR fun z μ' => μ' = μ) := by
  refine Con.intro (L0 := #[.val (.int i)]) (plainFor_of_name (by first | (simp [plainName, overriddenIn]; done) | decide +kernel)) (fun m => by first | (simp [entryFrame, mkF, argsToLocals, Value.category]; done) | rfl) ?_
  intro p e s m below meth c C
  have C : Ctx p s m meth c Z "java/lang/Integer" "valueOf" jdk_33_method_22_code 1 (some (.object "java/lang/Integer")) := C
  refine Own.iloadN C d7_0 (q := 1) rfl rfl ?_
  refine Own.bipush C d7_1 (q := 3) rfl (z := -128) (by decide) ?_
  refine Own.icmp_lt C d7_3 (q := 6) rfl (r := 23) (by decide) (fun h3 => ?_) (fun h3 => ?_)
  · exact absurd (gt_i h3) (by rw [show (-128 : Int32).toInt = -128 from rfl]; omega)
  · refine Own.iloadN C d7_6 (q := 7) rfl rfl ?_
    refine Own.getstatic C d7_7 (q := 10) rfl (host := "") (Or.inl (hw _ (List.mem_of_getElem? (i := 82) rfl))) Via.refl SH ?_
    refine Own.icmp_gt C d7_10 (q := 13) rfl (r := 23) (by decide) (fun h10 => ?_) (fun h10 => ?_)
    · exact absurd (gt_i h10) (by rw [show (127 : Int32).toInt = 127 from rfl]; omega)
    · refine Own.getstatic C d7_13 (q := 16) rfl (host := "") (Or.inl (hw _ (List.mem_of_getElem? (i := 84) rfl))) Via.refl SC ?_
      refine Own.iloadN C d7_16 (q := 17) rfl rfl ?_
      refine Own.sipush C d7_17 (q := 20) rfl (z := 128) (by decide) ?_
      refine Own.iadd C d7_20 (q := 21) rfl fun z20 e20 => ?_
      obtain ⟨v, hv, hr⟩ := hvs z20.toNatClampNeg (ix20 hi e20).2
      refine Own.aaload C d7_21 (q := 22) rfl hCA rfl (ix20 hi e20).1 (v := v) hv ?_
      refine Own.areturn C rfl hr d7_22 (by decide) (by decide) ?_
      exact ⟨_, rfl, hr, rfl⟩
abbrev rm_11 : Room := { frames := 0, cells := 0, slots := 0, locals := 0 }
theorem d11_0 : decode prog_15_method_12_code 0 = .ok (.aload_n 0, 1) := by decide +kernel
theorem d11_1 : decode prog_15_method_12_code 1 = .ok (.getfield 47, 3) := by decide +kernel
theorem d11_4 : decode prog_15_method_12_code 4 = .ok (.iload_n 1, 1) := by decide +kernel
theorem d11_5 : decode prog_15_method_12_code 5 = .ok (.iaload, 1) := by decide +kernel
theorem d11_6 : decode prog_15_method_12_code 6 = .ok (.ireturn, 1) := by decide +kernel
set_option maxRecDepth 65536 in
set_option maxHeartbeats 4000000 in
theorem c_pst (l : Launch) (Z : State) (a0 : Array Value) (hw : ∀ d ∈ tables_1, d.before a0 Z = true) (n0 : Nat) (μ : Mem) (a : Addr) (i : Int32) (r : Int32) (A1 A2 A4 A5 A6 A7 A8 A9 : Addr) (l0 l1 l2 : Int32) (tk : Int64) (ha : μ a = some (o_Ix (.ref A1) (.ref A2) (.long tk) (.ref A4) (.ref A5) (.ref A6) (.ref A7) (.ref A8) (.ref A9))) (h_A7 : μ A7 = some (.inr (.int, [(.int (0 : Int32)), (.int (0 : Int32))]))) (h_A2 : μ A2 = some (.inr (.int, [(.int l0), (.int l1), (.int l2)]))) (hi : ¬ i < 0) (hv : ([(.int (0 : Int32)), (.int (0 : Int32))] : List Value)[i.toNatClampNeg]? = some (.int r)) :
    Con l Z n0 (⟨"com/example/thin_index/thinindex/Index", "postingsStart", "(I)I"⟩ : MethodName) prog_15_method_12_code 2 (some .int) [] rm_11 rm_11.cells rm_11.slots #[(.ref a), (.int i)] μ (RI fun z μ' => μ' = μ ∧ r = z) := by
  refine Con.intro (L0 := #[.val (.ref a), .val (.int i)]) (plainFor_of_name (by first | (simp [plainName, overriddenIn]; done) | decide +kernel)) (fun m => by first | (simp [entryFrame, mkF, argsToLocals, Value.category]; done) | rfl) ?_
  intro p e s m below meth c C
  have C : Ctx p s m meth c Z "com/example/thin_index/thinindex/Index" "postingsStart" prog_15_method_12_code 2 (some .int) := C
  refine Own.aloadN C d11_0 (q := 1) rfl rfl rfl ?_
  refine Own.getfield C d11_1 (q := 4) rfl (host := "") (Or.inl (hw _ (List.mem_of_getElem? (i := 55) rfl))) Via.refl ha (j := 6) rfl ?_
  refine Own.iloadN C d11_4 (q := 5) rfl rfl ?_
  refine Own.iaload C d11_5 (q := 6) rfl h_A7 hi (v := (.int r)) hv ?_
  refine Own.ireturn C d11_6 (by decide) (by decide) ?_
  exact ⟨_, rfl, rfl, rfl⟩
abbrev rm_16 : Room := { frames := 0, cells := 0, slots := 0, locals := 0 }
theorem d16_0 : decode prog_15_method_4_code 0 = .ok (.aload_n 0, 1) := by decide +kernel
theorem d16_1 : decode prog_15_method_4_code 1 = .ok (.getfield 25, 3) := by decide +kernel
theorem d16_4 : decode prog_15_method_4_code 4 = .ok (.iload_n 1, 1) := by decide +kernel
theorem d16_5 : decode prog_15_method_4_code 5 = .ok (.iaload, 1) := by decide +kernel
theorem d16_6 : decode prog_15_method_4_code 6 = .ok (.ireturn, 1) := by decide +kernel
set_option maxRecDepth 65536 in
set_option maxHeartbeats 4000000 in
theorem c_dln (l : Launch) (Z : State) (a0 : Array Value) (hw : ∀ d ∈ tables_1, d.before a0 Z = true) (n0 : Nat) (μ : Mem) (a : Addr) (i : Int32) (r : Int32) (A1 A2 A4 A5 A6 A7 A8 A9 : Addr) (l0 l1 l2 : Int32) (tk : Int64) (ha : μ a = some (o_Ix (.ref A1) (.ref A2) (.long tk) (.ref A4) (.ref A5) (.ref A6) (.ref A7) (.ref A8) (.ref A9))) (h_A7 : μ A7 = some (.inr (.int, [(.int (0 : Int32)), (.int (0 : Int32))]))) (h_A2 : μ A2 = some (.inr (.int, [(.int l0), (.int l1), (.int l2)]))) (hi : ¬ i < 0) (hv : ([(.int l0), (.int l1), (.int l2)] : List Value)[i.toNatClampNeg]? = some (.int r)) :
    Con l Z n0 (⟨"com/example/thin_index/thinindex/Index", "documentLength", "(I)I"⟩ : MethodName) prog_15_method_4_code 2 (some .int) [] rm_16 rm_16.cells rm_16.slots #[(.ref a), (.int i)] μ (RI fun z μ' => μ' = μ ∧ r = z) := by
  refine Con.intro (L0 := #[.val (.ref a), .val (.int i)]) (plainFor_of_name (by first | (simp [plainName, overriddenIn]; done) | decide +kernel)) (fun m => by first | (simp [entryFrame, mkF, argsToLocals, Value.category]; done) | rfl) ?_
  intro p e s m below meth c C
  have C : Ctx p s m meth c Z "com/example/thin_index/thinindex/Index" "documentLength" prog_15_method_4_code 2 (some .int) := C
  refine Own.aloadN C d16_0 (q := 1) rfl rfl rfl ?_
  refine Own.getfield C d16_1 (q := 4) rfl (host := "") (Or.inl (hw _ (List.mem_of_getElem? (i := 39) rfl))) Via.refl ha (j := 1) rfl ?_
  refine Own.iloadN C d16_4 (q := 5) rfl rfl ?_
  refine Own.iaload C d16_5 (q := 6) rfl h_A2 hi (v := (.int r)) hv ?_
  refine Own.ireturn C d16_6 (by decide) (by decide) ?_
  exact ⟨_, rfl, rfl, rfl⟩
abbrev rm_10 : Room := { frames := 0, cells := 0, slots := 0, locals := 0 }
theorem d10_0 : decode prog_15_method_13_code 0 = .ok (.aload_n 0, 1) := by decide +kernel
theorem d10_1 : decode prog_15_method_13_code 1 = .ok (.getfield 47, 3) := by decide +kernel
theorem d10_4 : decode prog_15_method_13_code 4 = .ok (.iload_n 1, 1) := by decide +kernel
theorem d10_5 : decode prog_15_method_13_code 5 = .ok (.iconst 1, 1) := by decide +kernel
theorem d10_6 : decode prog_15_method_13_code 6 = .ok (.iadd, 1) := by decide +kernel
theorem d10_7 : decode prog_15_method_13_code 7 = .ok (.iaload, 1) := by decide +kernel
theorem d10_8 : decode prog_15_method_13_code 8 = .ok (.ireturn, 1) := by decide +kernel
set_option maxRecDepth 65536 in
set_option maxHeartbeats 4000000 in
theorem c_pen (l : Launch) (Z : State) (a0 : Array Value) (hw : ∀ d ∈ tables_1, d.before a0 Z = true) (n0 : Nat) (μ : Mem) (a : Addr) (A1 A2 A4 A5 A6 A7 A8 A9 : Addr) (tk : Int64) (ha : μ a = some (o_Ix (.ref A1) (.ref A2) (.long tk) (.ref A4) (.ref A5) (.ref A6) (.ref A7) (.ref A8) (.ref A9))) (h_A7 : μ A7 = some (.inr (.int, [(.int (0 : Int32)), (.int (0 : Int32))]))) :
    Con l Z n0 (⟨"com/example/thin_index/thinindex/Index", "postingsEnd", "(I)I"⟩ : MethodName) prog_15_method_13_code 2 (some .int) [] rm_10 rm_10.cells rm_10.slots #[(.ref a), (.int (0 : Int32))] μ (RI fun z μ' => μ' = μ ∧ z = 0) := by
  refine Con.intro (L0 := #[.val (.ref a), .val (.int (0 : Int32))]) (plainFor_of_name (by first | (simp [plainName, overriddenIn]; done) | decide +kernel)) (fun m => by first | (simp [entryFrame, mkF, argsToLocals, Value.category]; done) | rfl) ?_
  intro p e s m below meth c C
  have C : Ctx p s m meth c Z "com/example/thin_index/thinindex/Index" "postingsEnd" prog_15_method_13_code 2 (some .int) := C
  refine Own.aloadN C d10_0 (q := 1) rfl rfl rfl ?_
  refine Own.getfield C d10_1 (q := 4) rfl (host := "") (Or.inl (hw _ (List.mem_of_getElem? (i := 55) rfl))) Via.refl ha (j := 6) rfl ?_
  refine Own.iloadN C d10_4 (q := 5) rfl rfl ?_
  refine Own.iconst C d10_5 (q := 6) rfl (z := 1) (by decide) ?_
  refine Own.iadd C d10_6 (q := 7) rfl fun z6 e6 => ?_
  obtain rfl : z6 = (1 : Int32) := e6.trans (by decide)
  refine Own.iaload C d10_7 (q := 8) rfl h_A7 (by decide) (v := (.int (0 : Int32))) rfl ?_
  refine Own.ireturn C d10_8 (by decide) (by decide) ?_
  exact ⟨_, rfl, rfl, rfl⟩
theorem pd_0 : parseMethodDescriptor "(I)I" = some ⟨[.int], some .int⟩ := by decide +kernel
abbrev rm_12 : Room := { frames := 1, cells := 0, slots := 0, locals := 14 }
theorem d12_0 : decode prog_15_method_21_code 0 = .ok (.iconst (-1), 1) := by decide +kernel
theorem d12_1 : decode prog_15_method_21_code 1 = .ok (.istore_n 2, 1) := by decide +kernel
theorem d12_2 : decode prog_15_method_21_code 2 = .ok (.aload_n 0, 1) := by decide +kernel
theorem d12_3 : decode prog_15_method_21_code 3 = .ok (.iload_n 1, 1) := by decide +kernel
theorem d12_4 : decode prog_15_method_21_code 4 = .ok (.invokevirtual 82, 3) := by decide +kernel
theorem d12_7 : decode prog_15_method_21_code 7 = .ok (.istore_n 3, 1) := by decide +kernel
theorem d12_8 : decode prog_15_method_21_code 8 = .ok (.iload_n 3, 1) := by decide +kernel
theorem d12_9 : decode prog_15_method_21_code 9 = .ok (.aload_n 0, 1) := by decide +kernel
theorem d12_10 : decode prog_15_method_21_code 10 = .ok (.iload_n 1, 1) := by decide +kernel
theorem d12_11 : decode prog_15_method_21_code 11 = .ok (.invokevirtual 69, 3) := by decide +kernel
theorem d12_14 : decode prog_15_method_21_code 14 = .ok (.if_icmp .ge 116, 3) := by decide +kernel
theorem d12_130 : decode prog_15_method_21_code 130 = .ok (.return_, 1) := by decide +kernel
set_option maxRecDepth 65536 in
set_option maxHeartbeats 4000000 in
theorem c_cpo (l : Launch) (Z : State) (a0 : Array Value) (hw : ∀ d ∈ tables_1, d.before a0 Z = true) (n0 : Nat) (μ : Mem) (a : Addr) (CA : Addr) (vs : List Value) (SH : Sta Z Z.heap "java/lang/Integer$IntegerCache" "high" "I" (.int 127)) (SC : Sta Z Z.heap "java/lang/Integer$IntegerCache" "cache" "[Ljava/lang/Integer;" (.ref CA)) (hvs : ∀ j, j < 256 → ∃ v, vs[j]? = some v ∧ v.isRef = true) (A1 A2 A4 A5 A6 A7 A8 A9 s0 s1 s2 s3 b0 b1 b2 b3 : Addr) (l0 l1 l2 : Int32) (tk : Int64) (h_A1 : μ A1 = some (.inr ((.object "java/lang/String"), [(.ref s0), (.ref s1), (.ref s2)]))) (h_A2 : μ A2 = some (.inr (.int, [(.int l0), (.int l1), (.int l2)]))) (h_A4 : μ A4 = some (.inr ((.object "java/lang/String"), [(.ref s3)]))) (h_A5 : μ A5 = some (.inr (.int, [(.int (1 : Int32))]))) (h_A6 : μ A6 = some (.inr (.long, [(.long tk)]))) (h_A7 : μ A7 = some (.inr (.int, [(.int (0 : Int32)), (.int (0 : Int32))]))) (h_A8 : μ A8 = some (.inr (.int, []))) (h_A9 : μ A9 = some (.inr (.int, []))) (h_s0 : μ s0 = some (o_Str (.ref b0))) (h_s1 : μ s1 = some (o_Str (.ref b1))) (h_s2 : μ s2 = some (o_Str (.ref b2))) (h_s3 : μ s3 = some (o_Str (.ref b3))) (h_b0 : μ b0 = some (.inr (.byte, [(.int (97 : Int32))]))) (h_b1 : μ b1 = some (.inr (.byte, [(.int (98 : Int32))]))) (h_b2 : μ b2 = some (.inr (.byte, [(.int (99 : Int32))]))) (h_b3 : μ b3 = some (.inr (.byte, [(.int (116 : Int32))]))) (h_CA : μ CA = some (.inr ((.object "java/lang/Integer"), vs))) (y0 : ¬ l0 < 0) (y1 : ¬ l1 < 0) (y2 : ¬ l2 < 0) (ys : 0 + l0.toInt64 + l1.toInt64 + l2.toInt64 = tk) (yt : ¬ tk < 1) (ha : μ a = some (o_Ix (.ref A1) (.ref A2) (.long tk) (.ref A4) (.ref A5) (.ref A6) (.ref A7) (.ref A8) (.ref A9))) :
    Con l Z n0 (⟨"com/example/thin_index/thinindex/Index", "checkPostings", "(I)V"⟩ : MethodName) prog_15_method_21_code 5 none [] rm_12 rm_12.cells rm_12.slots #[(.ref a), (.int (0 : Int32))] μ (RV fun μ' => μ' = μ) := by
  refine Con.intro (L0 := #[.val (.ref a), .val (.int (0 : Int32)), .unset, .unset, .unset]) (plainFor_of_name (by first | (simp [plainName, overriddenIn]; done) | decide +kernel)) (fun m => by first | (simp [entryFrame, mkF, argsToLocals, Value.category]; done) | rfl) ?_
  intro p e s m below meth c C
  have C : Ctx p s m meth c Z "com/example/thin_index/thinindex/Index" "checkPostings" prog_15_method_21_code 5 none := C
  refine Own.iconst C d12_0 (q := 1) rfl (z := -1) (by decide) ?_
  refine Own.istoreN C d12_1 (q := 2) rfl (L' := #[.val (.ref a), .val (.int (0 : Int32)), .val (.int (-1 : Int32)), .unset, .unset]) rfl ?_
  refine Own.aloadN C d12_2 (q := 3) rfl rfl rfl ?_
  refine Own.iloadN C d12_3 (q := 4) rfl rfl ?_
  refine Own.callV C d12_4 (q := 7) rfl (hw _ (List.mem_of_getElem? (i := 105) rfl)) (hw _ (List.mem_of_getElem? (i := 106) rfl)) (notFace_of_selects (args := #[]) (mvT C.2.2.2.1 (hw _ (List.mem_of_getElem? (i := 108) rfl)))) (hw _ (List.mem_of_getElem? (i := 108) rfl)) (hw _ (List.mem_of_getElem? (i := 107) rfl)) (hw _ (List.mem_of_getElem? (i := 4) rfl)) (hw _ (List.mem_of_getElem? (i := 109) rfl)) (by decide) (W := 0) (rm := rm_11) (argsL := [(.int (0 : Int32))]) (st := []) (lenOf pd_0 rfl) rfl rfl (Nat.le_of_eq rfl) (by decide) (by decide) (by decide) (by decide) ha (c_pst l Z a0 hw n0 _ a (0 : Int32) (0 : Int32) A1 A2 A4 A5 A6 A7 A8 A9 l0 l1 l2 tk ha h_A7 h_A2 (by decide) rfl) (fun s C PP => nxI fun z4 μ4 h4 => ?_)
  obtain ⟨h4m, rfl⟩ := h4
  refine Own.mem h4m ?_
  refine Own.istoreN C d12_7 (q := 8) rfl (L' := #[.val (.ref a), .val (.int (0 : Int32)), .val (.int (-1 : Int32)), .val (.int (0 : Int32)), .unset]) rfl ?_
  refine Own.iloadN C d12_8 (q := 9) rfl rfl ?_
  refine Own.aloadN C d12_9 (q := 10) rfl rfl rfl ?_
  refine Own.iloadN C d12_10 (q := 11) rfl rfl ?_
  refine Own.callV C d12_11 (q := 14) rfl (hw _ (List.mem_of_getElem? (i := 100) rfl)) (hw _ (List.mem_of_getElem? (i := 101) rfl)) (notFace_of_selects (args := #[]) (mvT C.2.2.2.1 (hw _ (List.mem_of_getElem? (i := 103) rfl)))) (hw _ (List.mem_of_getElem? (i := 103) rfl)) (hw _ (List.mem_of_getElem? (i := 102) rfl)) (hw _ (List.mem_of_getElem? (i := 4) rfl)) (hw _ (List.mem_of_getElem? (i := 104) rfl)) (by decide) (W := 1) (rm := rm_10) (argsL := [(.int (0 : Int32))]) (st := [(.int (0 : Int32))]) (lenOf pd_0 rfl) rfl rfl (Nat.le_of_eq rfl) (by decide) (by decide) (by decide) (by decide) ha (c_pen l Z a0 hw n0 _ a A1 A2 A4 A5 A6 A7 A8 A9 tk ha h_A7) (fun s C PP => nxI fun z11 μ11 h11 => ?_)
  obtain ⟨h11m, rfl⟩ := h11
  refine Own.mem h11m ?_
  refine Own.icmp_ge C d12_14 (q := 17) rfl (r := 130) (by decide) (fun h14 => ?_) (fun h14 => ?_)
  · refine Own.vreturn C d12_130 (by decide) (by decide) ?_
    exact ⟨rfl, rfl⟩
  · exact absurd h14 (by decide)
theorem pd_1 : parseMethodDescriptor "(ZLjava/lang/String;)V" = some ⟨[.boolean, (.object "java/lang/String")], none⟩ := by decide +kernel
theorem pd_2 : parseMethodDescriptor "()Z" = some ⟨[], some .boolean⟩ := by decide +kernel
theorem pd_3 : parseMethodDescriptor "(I)Ljava/lang/Integer;" = some ⟨[.int], some (.object "java/lang/Integer")⟩ := by decide +kernel
theorem pd_4 : parseMethodDescriptor "(ZLjava/lang/String;Ljava/lang/Object;Ljava/lang/String;)V" = some ⟨[.boolean, (.object "java/lang/String"), (.object "java/lang/Object"), (.object "java/lang/String")], none⟩ := by decide +kernel
abbrev rm_4 : Room := { frames := 1, cells := 10, slots := 572, locals := 15 }
theorem d4_0 : decode prog_15_method_19_code 0 = .ok (.aload_n 0, 1) := by decide +kernel
theorem d4_1 : decode prog_15_method_19_code 1 = .ok (.getfield 25, 3) := by decide +kernel
theorem d4_4 : decode prog_15_method_19_code 4 = .ok (.arraylength, 1) := by decide +kernel
theorem d4_5 : decode prog_15_method_19_code 5 = .ok (.aload_n 0, 1) := by decide +kernel
theorem d4_6 : decode prog_15_method_19_code 6 = .ok (.getfield 17, 3) := by decide +kernel
theorem d4_9 : decode prog_15_method_19_code 9 = .ok (.arraylength, 1) := by decide +kernel
theorem d4_10 : decode prog_15_method_19_code 10 = .ok (.if_icmp .ne 7, 3) := by decide +kernel
theorem d4_13 : decode prog_15_method_19_code 13 = .ok (.iconst 1, 1) := by decide +kernel
theorem d4_14 : decode prog_15_method_19_code 14 = .ok (.goto 4, 3) := by decide +kernel
theorem d4_18 : decode prog_15_method_19_code 18 = .ok (.ldc 118, 2) := by decide +kernel
theorem d4_20 : decode prog_15_method_19_code 20 = .ok (.invokestatic 120, 3) := by decide +kernel
theorem d4_23 : decode prog_15_method_19_code 23 = .ok (.lconst 0, 1) := by decide +kernel
theorem d4_24 : decode prog_15_method_19_code 24 = .ok (.lstore_n 1, 1) := by decide +kernel
theorem d4_25 : decode prog_15_method_19_code 25 = .ok (.iconst 0, 1) := by decide +kernel
theorem d4_26 : decode prog_15_method_19_code 26 = .ok (.istore_n 3, 1) := by decide +kernel
theorem d4_27 : decode prog_15_method_19_code 27 = .ok (.iload_n 3, 1) := by decide +kernel
theorem d4_28 : decode prog_15_method_19_code 28 = .ok (.aload_n 0, 1) := by decide +kernel
theorem d4_29 : decode prog_15_method_19_code 29 = .ok (.getfield 17, 3) := by decide +kernel
theorem d4_32 : decode prog_15_method_19_code 32 = .ok (.arraylength, 1) := by decide +kernel
theorem d4_33 : decode prog_15_method_19_code 33 = .ok (.if_icmp .ge 81, 3) := by decide +kernel
theorem d4_36 : decode prog_15_method_19_code 36 = .ok (.aload_n 0, 1) := by decide +kernel
theorem d4_37 : decode prog_15_method_19_code 37 = .ok (.getfield 17, 3) := by decide +kernel
theorem d4_40 : decode prog_15_method_19_code 40 = .ok (.iload_n 3, 1) := by decide +kernel
theorem d4_41 : decode prog_15_method_19_code 41 = .ok (.aaload, 1) := by decide +kernel
theorem d4_42 : decode prog_15_method_19_code 42 = .ok (.ifnull 19, 3) := by decide +kernel
theorem d4_45 : decode prog_15_method_19_code 45 = .ok (.aload_n 0, 1) := by decide +kernel
theorem d4_46 : decode prog_15_method_19_code 46 = .ok (.getfield 17, 3) := by decide +kernel
theorem d4_49 : decode prog_15_method_19_code 49 = .ok (.iload_n 3, 1) := by decide +kernel
theorem d4_50 : decode prog_15_method_19_code 50 = .ok (.aaload, 1) := by decide +kernel
theorem d4_51 : decode prog_15_method_19_code 51 = .ok (.invokevirtual 124, 3) := by decide +kernel
theorem d4_54 : decode prog_15_method_19_code 54 = .ok (.ifCond .ne 7, 3) := by decide +kernel
theorem d4_57 : decode prog_15_method_19_code 57 = .ok (.iconst 1, 1) := by decide +kernel
theorem d4_58 : decode prog_15_method_19_code 58 = .ok (.goto 4, 3) := by decide +kernel
theorem d4_62 : decode prog_15_method_19_code 62 = .ok (.ldc 128, 2) := by decide +kernel
theorem d4_64 : decode prog_15_method_19_code 64 = .ok (.iload_n 3, 1) := by decide +kernel
theorem d4_65 : decode prog_15_method_19_code 65 = .ok (.invokestatic 130, 3) := by decide +kernel
theorem d4_68 : decode prog_15_method_19_code 68 = .ok (.ldc 136, 2) := by decide +kernel
theorem d4_70 : decode prog_15_method_19_code 70 = .ok (.invokestatic 138, 3) := by decide +kernel
theorem d4_73 : decode prog_15_method_19_code 73 = .ok (.aload_n 0, 1) := by decide +kernel
theorem d4_74 : decode prog_15_method_19_code 74 = .ok (.getfield 25, 3) := by decide +kernel
theorem d4_77 : decode prog_15_method_19_code 77 = .ok (.iload_n 3, 1) := by decide +kernel
theorem d4_78 : decode prog_15_method_19_code 78 = .ok (.iaload, 1) := by decide +kernel
theorem d4_79 : decode prog_15_method_19_code 79 = .ok (.ifCond .lt 7, 3) := by decide +kernel
theorem d4_82 : decode prog_15_method_19_code 82 = .ok (.iconst 1, 1) := by decide +kernel
theorem d4_83 : decode prog_15_method_19_code 83 = .ok (.goto 4, 3) := by decide +kernel
theorem d4_87 : decode prog_15_method_19_code 87 = .ok (.ldc 128, 2) := by decide +kernel
theorem d4_89 : decode prog_15_method_19_code 89 = .ok (.iload_n 3, 1) := by decide +kernel
theorem d4_90 : decode prog_15_method_19_code 90 = .ok (.invokestatic 130, 3) := by decide +kernel
theorem d4_93 : decode prog_15_method_19_code 93 = .ok (.ldc 141, 2) := by decide +kernel
theorem d4_95 : decode prog_15_method_19_code 95 = .ok (.invokestatic 138, 3) := by decide +kernel
theorem d4_98 : decode prog_15_method_19_code 98 = .ok (.lload_n 1, 1) := by decide +kernel
theorem d4_99 : decode prog_15_method_19_code 99 = .ok (.aload_n 0, 1) := by decide +kernel
theorem d4_100 : decode prog_15_method_19_code 100 = .ok (.getfield 25, 3) := by decide +kernel
theorem d4_103 : decode prog_15_method_19_code 103 = .ok (.iload_n 3, 1) := by decide +kernel
theorem d4_104 : decode prog_15_method_19_code 104 = .ok (.iaload, 1) := by decide +kernel
theorem d4_105 : decode prog_15_method_19_code 105 = .ok (.i2l, 1) := by decide +kernel
theorem d4_106 : decode prog_15_method_19_code 106 = .ok (.ladd, 1) := by decide +kernel
theorem d4_107 : decode prog_15_method_19_code 107 = .ok (.lstore_n 1, 1) := by decide +kernel
theorem d4_108 : decode prog_15_method_19_code 108 = .ok (.iinc 3 1, 3) := by decide +kernel
theorem d4_111 : decode prog_15_method_19_code 111 = .ok (.goto (-84), 3) := by decide +kernel
theorem d4_114 : decode prog_15_method_19_code 114 = .ok (.lload_n 1, 1) := by decide +kernel
theorem d4_115 : decode prog_15_method_19_code 115 = .ok (.aload_n 0, 1) := by decide +kernel
theorem d4_116 : decode prog_15_method_19_code 116 = .ok (.getfield 27, 3) := by decide +kernel
theorem d4_119 : decode prog_15_method_19_code 119 = .ok (.lcmp, 1) := by decide +kernel
theorem d4_120 : decode prog_15_method_19_code 120 = .ok (.ifCond .ne 7, 3) := by decide +kernel
theorem d4_123 : decode prog_15_method_19_code 123 = .ok (.iconst 1, 1) := by decide +kernel
theorem d4_124 : decode prog_15_method_19_code 124 = .ok (.goto 4, 3) := by decide +kernel
theorem d4_128 : decode prog_15_method_19_code 128 = .ok (.ldc 143, 2) := by decide +kernel
theorem d4_130 : decode prog_15_method_19_code 130 = .ok (.invokestatic 120, 3) := by decide +kernel
theorem d4_133 : decode prog_15_method_19_code 133 = .ok (.return_, 1) := by decide +kernel
set_option maxRecDepth 65536 in
set_option maxHeartbeats 4000000 in
theorem c_cdo (l : Launch) (Z : State) (a0 : Array Value) (hw : ∀ d ∈ tables_1, d.before a0 Z = true) (n0 : Nat) (μ : Mem) (a : Addr) (CA : Addr) (vs : List Value) (SH : Sta Z Z.heap "java/lang/Integer$IntegerCache" "high" "I" (.int 127)) (SC : Sta Z Z.heap "java/lang/Integer$IntegerCache" "cache" "[Ljava/lang/Integer;" (.ref CA)) (hvs : ∀ j, j < 256 → ∃ v, vs[j]? = some v ∧ v.isRef = true) (A1 A2 A4 A5 A6 A7 A8 A9 s0 s1 s2 s3 b0 b1 b2 b3 : Addr) (l0 l1 l2 : Int32) (tk : Int64) (h_A1 : μ A1 = some (.inr ((.object "java/lang/String"), [(.ref s0), (.ref s1), (.ref s2)]))) (h_A2 : μ A2 = some (.inr (.int, [(.int l0), (.int l1), (.int l2)]))) (h_A4 : μ A4 = some (.inr ((.object "java/lang/String"), [(.ref s3)]))) (h_A5 : μ A5 = some (.inr (.int, [(.int (1 : Int32))]))) (h_A6 : μ A6 = some (.inr (.long, [(.long tk)]))) (h_A7 : μ A7 = some (.inr (.int, [(.int (0 : Int32)), (.int (0 : Int32))]))) (h_A8 : μ A8 = some (.inr (.int, []))) (h_A9 : μ A9 = some (.inr (.int, []))) (h_s0 : μ s0 = some (o_Str (.ref b0))) (h_s1 : μ s1 = some (o_Str (.ref b1))) (h_s2 : μ s2 = some (o_Str (.ref b2))) (h_s3 : μ s3 = some (o_Str (.ref b3))) (h_b0 : μ b0 = some (.inr (.byte, [(.int (97 : Int32))]))) (h_b1 : μ b1 = some (.inr (.byte, [(.int (98 : Int32))]))) (h_b2 : μ b2 = some (.inr (.byte, [(.int (99 : Int32))]))) (h_b3 : μ b3 = some (.inr (.byte, [(.int (116 : Int32))]))) (h_CA : μ CA = some (.inr ((.object "java/lang/Integer"), vs))) (y0 : ¬ l0 < 0) (y1 : ¬ l1 < 0) (y2 : ¬ l2 < 0) (ys : 0 + l0.toInt64 + l1.toInt64 + l2.toInt64 = tk) (yt : ¬ tk < 1) (ha : μ a = some (o_Ix (.ref A1) (.ref A2) (.long tk) (.ref A4) (.ref A5) (.ref A6) (.ref A7) (.ref A8) (.ref A9))) :
    Con l Z n0 (⟨"com/example/thin_index/thinindex/Index", "checkDocuments", "()V"⟩ : MethodName) prog_15_method_19_code 4 none [] rm_4 rm_4.cells rm_4.slots #[(.ref a)] μ (RV fun μ' => μ' = μ) := by
  refine Con.intro (L0 := #[.val (.ref a), .unset, .unset, .unset]) (plainFor_of_name (by first | (simp [plainName, overriddenIn]; done) | decide +kernel)) (fun m => by first | (simp [entryFrame, mkF, argsToLocals, Value.category]; done) | rfl) ?_
  intro p e s m below meth c C
  have C : Ctx p s m meth c Z "com/example/thin_index/thinindex/Index" "checkDocuments" prog_15_method_19_code 4 none := C
  refine Own.aloadN C d4_0 (q := 1) rfl rfl rfl ?_
  refine Own.getfield C d4_1 (q := 4) rfl (host := "") (Or.inl (hw _ (List.mem_of_getElem? (i := 39) rfl))) Via.refl ha (j := 1) rfl ?_
  refine Own.arraylength C d4_4 (q := 5) rfl h_A2 fun z4 e4 e4i => ?_
  obtain rfl : z4 = (3 : Int32) := e4.trans (by rfl)
  refine Own.aloadN C d4_5 (q := 6) rfl rfl rfl ?_
  refine Own.getfield C d4_6 (q := 9) rfl (host := "") (Or.inl (hw _ (List.mem_of_getElem? (i := 34) rfl))) Via.refl ha (j := 0) rfl ?_
  refine Own.arraylength C d4_9 (q := 10) rfl h_A1 fun z9 e9 e9i => ?_
  obtain rfl : z9 = (3 : Int32) := e9.trans (by rfl)
  refine Own.icmp_ne C d4_10 (q := 13) rfl (r := 17) (by decide) (fun h10 => ?_) (fun h10 => ?_)
  · exact absurd h10 (by decide)
  · refine Own.iconst C d4_13 (q := 14) rfl (z := 1) (by decide) ?_
    refine Own.goto C d4_14 (q := 18) (by decide) ?_
    refine Own.ldcL C d4_18 (q := 20) rfl (hw _ (List.mem_of_getElem? (i := 67) rfl)) (strs hw) (N := 172) (by decide) (by decide) (by decide) (by decide) (fun s C PP t18 LI_t18 => ?_)
    refine Own.callS C d4_20 (q := 23) rfl (hw _ (List.mem_of_getElem? (i := 68) rfl)) (hw _ (List.mem_of_getElem? (i := 69) rfl)) (hw _ (List.mem_of_getElem? (i := 4) rfl)) (hw _ (List.mem_of_getElem? (i := 70) rfl)) (by decide) (W := 0) (rm := rm_5) (argsL := [(.int (1 : Int32)), (.ref t18)]) (st := []) (lenOf pd_1 rfl) rfl rfl (Nat.le_of_eq rfl) (by decide) (by decide) (by decide) (by decide) (c_chk l Z a0 hw n0 _ t18) (fun s C PP => nxV fun μ20 h20 => ?_)
    have LI_t18 := PP _ _ _ LI_t18
    refine Own.mem h20 ?_
    refine Own.lconst C d4_23 (q := 24) rfl (z := 0) (by decide) ?_
    refine Own.lstoreN C d4_24 (q := 25) rfl (L' := #[.val (.ref a), .val (.long (0 : Int64)), .second, .unset]) rfl ?_
    refine Own.iconst C d4_25 (q := 26) rfl (z := 0) (by decide) ?_
    refine Own.istoreN C d4_26 (q := 27) rfl (L' := #[.val (.ref a), .val (.long (0 : Int64)), .second, .val (.int (0 : Int32))]) rfl ?_
    refine Own.iloadN C d4_27 (q := 28) rfl rfl ?_
    refine Own.aloadN C d4_28 (q := 29) rfl rfl rfl ?_
    refine Own.getfield C d4_29 (q := 32) rfl (host := "") (Or.inl (hw _ (List.mem_of_getElem? (i := 34) rfl))) Via.refl ha (j := 0) rfl ?_
    refine Own.arraylength C d4_32 (q := 33) rfl h_A1 fun z32 e32 e32i => ?_
    obtain rfl : z32 = (3 : Int32) := e32.trans (by rfl)
    refine Own.icmp_ge C d4_33 (q := 36) rfl (r := 114) (by decide) (fun h33 => ?_) (fun h33 => ?_)
    · exact absurd h33 (by decide)
    · refine Own.aloadN C d4_36 (q := 37) rfl rfl rfl ?_
      refine Own.getfield C d4_37 (q := 40) rfl (host := "") (Or.inl (hw _ (List.mem_of_getElem? (i := 34) rfl))) Via.refl ha (j := 0) rfl ?_
      refine Own.iloadN C d4_40 (q := 41) rfl rfl ?_
      refine Own.aaload C d4_41 (q := 42) rfl h_A1 rfl (by decide) (v := (.ref s0)) rfl ?_
      refine Own.ifnullN C d4_42 (q := 45) rfl ?_
      refine Own.aloadN C d4_45 (q := 46) rfl rfl rfl ?_
      refine Own.getfield C d4_46 (q := 49) rfl (host := "") (Or.inl (hw _ (List.mem_of_getElem? (i := 34) rfl))) Via.refl ha (j := 0) rfl ?_
      refine Own.iloadN C d4_49 (q := 50) rfl rfl ?_
      refine Own.aaload C d4_50 (q := 51) rfl h_A1 rfl (by decide) (v := (.ref s0)) rfl ?_
      refine Own.callV C d4_51 (q := 54) rfl (hw _ (List.mem_of_getElem? (i := 71) rfl)) (hw _ (List.mem_of_getElem? (i := 72) rfl)) (notFace_of_selects (args := #[]) (mvT C.2.2.2.1 (hw _ (List.mem_of_getElem? (i := 74) rfl)))) (hw _ (List.mem_of_getElem? (i := 74) rfl)) (hw _ (List.mem_of_getElem? (i := 73) rfl)) (hw _ (List.mem_of_getElem? (i := 8) rfl)) (hw _ (List.mem_of_getElem? (i := 75) rfl)) (by decide) (W := 0) (rm := rm_6) (argsL := []) (st := []) (lenOf pd_2 rfl) rfl rfl (Nat.le_of_eq rfl) (by decide) (by decide) (by decide) (by decide) h_s0 (c_emp l Z a0 hw n0 _ s0 b0 (97 : Int32) h_s0 h_b0) (fun s C PP => nxI fun z51 μ51 h51 => ?_)
      have LI_t18 := PP _ _ _ LI_t18
      obtain ⟨h51m, rfl⟩ := h51
      refine Own.mem h51m ?_
      refine Own.if_ne C d4_54 (q := 57) rfl (r := 61) (by decide) (fun h54 => ?_) (fun h54 => ?_)
      · exact absurd h54 (by decide)
      · refine Own.iconst C d4_57 (q := 58) rfl (z := 1) (by decide) ?_
        refine Own.goto C d4_58 (q := 62) (by decide) ?_
        refine Own.ldcL C d4_62 (q := 64) rfl (hw _ (List.mem_of_getElem? (i := 77) rfl)) (strs hw) (N := 32) (by decide) (by decide) (by decide) (by decide) (fun s C PP t62 LI_t62 => ?_)
        have LI_t18 := PP _ _ _ LI_t18
        refine Own.iloadN C d4_64 (q := 65) rfl rfl ?_
        refine Own.callS C d4_65 (q := 68) rfl (hw _ (List.mem_of_getElem? (i := 78) rfl)) (hw _ (List.mem_of_getElem? (i := 79) rfl)) (hw _ (List.mem_of_getElem? (i := 80) rfl)) (hw _ (List.mem_of_getElem? (i := 81) rfl)) (by decide) (W := 2) (rm := rm_7) (argsL := [(.int (0 : Int32))]) (st := [(.ref t62), (.int (1 : Int32))]) (lenOf pd_3 rfl) rfl rfl (Nat.le_of_eq rfl) (by decide) (by decide) (by decide) (by decide) (c_vof l Z a0 hw n0 _ (0 : Int32) CA vs SH SC hvs h_CA (by decide)) (fun s C PP => nxR fun z65 μ65 z65_r h65 => ?_)
        have LI_t18 := PP _ _ _ LI_t18
        have LI_t62 := PP _ _ _ LI_t62
        refine Own.mem h65 ?_
        refine Own.ldcL C d4_68 (q := 70) rfl (hw _ (List.mem_of_getElem? (i := 85) rfl)) (strs hw) (N := 68) (by decide) (by decide) (by decide) (by decide) (fun s C PP t68 LI_t68 => ?_)
        have LI_t18 := PP _ _ _ LI_t18
        have LI_t62 := PP _ _ _ LI_t62
        refine Own.callS C d4_70 (q := 73) rfl (hw _ (List.mem_of_getElem? (i := 86) rfl)) (hw _ (List.mem_of_getElem? (i := 87) rfl)) (hw _ (List.mem_of_getElem? (i := 4) rfl)) (hw _ (List.mem_of_getElem? (i := 88) rfl)) (by decide) (W := 0) (rm := rm_8) (argsL := [(.int (1 : Int32)), (.ref t62), z65, (.ref t68)]) (st := []) (lenOf pd_4 rfl) rfl rfl (Nat.le_of_eq rfl) (by decide) (by decide) (by decide) (by decide) (c_chk4 l Z a0 hw n0 _ t62 z65 t68 z65_r) (fun s C PP => nxV fun μ70 h70 => ?_)
        have LI_t18 := PP _ _ _ LI_t18
        have LI_t62 := PP _ _ _ LI_t62
        have LI_t68 := PP _ _ _ LI_t68
        refine Own.mem h70 ?_
        refine Own.aloadN C d4_73 (q := 74) rfl rfl rfl ?_
        refine Own.getfield C d4_74 (q := 77) rfl (host := "") (Or.inl (hw _ (List.mem_of_getElem? (i := 39) rfl))) Via.refl ha (j := 1) rfl ?_
        refine Own.iloadN C d4_77 (q := 78) rfl rfl ?_
        refine Own.iaload C d4_78 (q := 79) rfl h_A2 (by decide) (v := (.int l0)) rfl ?_
        refine Own.if_lt C d4_79 (q := 82) rfl (r := 86) (by decide) (fun h79 => ?_) (fun h79 => ?_)
        · exact absurd h79 y0
        · refine Own.iconst C d4_82 (q := 83) rfl (z := 1) (by decide) ?_
          refine Own.goto C d4_83 (q := 87) (by decide) ?_
          refine Own.ldcA C d4_87 (q := 89) rfl (hw _ (List.mem_of_getElem? (i := 77) rfl)) LI_t62 ?_
          refine Own.iloadN C d4_89 (q := 90) rfl rfl ?_
          refine Own.callS C d4_90 (q := 93) rfl (hw _ (List.mem_of_getElem? (i := 78) rfl)) (hw _ (List.mem_of_getElem? (i := 79) rfl)) (hw _ (List.mem_of_getElem? (i := 80) rfl)) (hw _ (List.mem_of_getElem? (i := 81) rfl)) (by decide) (W := 2) (rm := rm_7) (argsL := [(.int (0 : Int32))]) (st := [(.ref t62), (.int (1 : Int32))]) (lenOf pd_3 rfl) rfl rfl (Nat.le_of_eq rfl) (by decide) (by decide) (by decide) (by decide) (c_vof l Z a0 hw n0 _ (0 : Int32) CA vs SH SC hvs h_CA (by decide)) (fun s C PP => nxR fun z90 μ90 z90_r h90 => ?_)
          have LI_t18 := PP _ _ _ LI_t18
          have LI_t62 := PP _ _ _ LI_t62
          have LI_t68 := PP _ _ _ LI_t68
          refine Own.mem h90 ?_
          refine Own.ldcL C d4_93 (q := 95) rfl (hw _ (List.mem_of_getElem? (i := 89) rfl)) (strs hw) (N := 84) (by decide) (by decide) (by decide) (by decide) (fun s C PP t93 LI_t93 => ?_)
          have LI_t18 := PP _ _ _ LI_t18
          have LI_t62 := PP _ _ _ LI_t62
          have LI_t68 := PP _ _ _ LI_t68
          refine Own.callS C d4_95 (q := 98) rfl (hw _ (List.mem_of_getElem? (i := 86) rfl)) (hw _ (List.mem_of_getElem? (i := 87) rfl)) (hw _ (List.mem_of_getElem? (i := 4) rfl)) (hw _ (List.mem_of_getElem? (i := 88) rfl)) (by decide) (W := 0) (rm := rm_8) (argsL := [(.int (1 : Int32)), (.ref t62), z90, (.ref t93)]) (st := []) (lenOf pd_4 rfl) rfl rfl (Nat.le_of_eq rfl) (by decide) (by decide) (by decide) (by decide) (c_chk4 l Z a0 hw n0 _ t62 z90 t93 z90_r) (fun s C PP => nxV fun μ95 h95 => ?_)
          have LI_t18 := PP _ _ _ LI_t18
          have LI_t62 := PP _ _ _ LI_t62
          have LI_t68 := PP _ _ _ LI_t68
          have LI_t93 := PP _ _ _ LI_t93
          refine Own.mem h95 ?_
          refine Own.lloadN C d4_98 (q := 99) rfl rfl ?_
          refine Own.aloadN C d4_99 (q := 100) rfl rfl rfl ?_
          refine Own.getfield C d4_100 (q := 103) rfl (host := "") (Or.inl (hw _ (List.mem_of_getElem? (i := 39) rfl))) Via.refl ha (j := 1) rfl ?_
          refine Own.iloadN C d4_103 (q := 104) rfl rfl ?_
          refine Own.iaload C d4_104 (q := 105) rfl h_A2 (by decide) (v := (.int l0)) rfl ?_
          refine Own.i2l C d4_105 (q := 106) rfl fun z105 e105 => ?_
          refine Own.ladd C d4_106 (q := 107) rfl fun z106 e106 => ?_
          refine Own.lstoreN C d4_107 (q := 108) rfl (L' := #[.val (.ref a), .val (.long z106), .second, .val (.int (0 : Int32))]) rfl ?_
          refine Own.iinc C d4_108 (q := 111) rfl rfl (z := (1 : Int32)) (by decide) (L' := #[.val (.ref a), .val (.long z106), .second, .val (.int (1 : Int32))]) rfl ?_
          refine Own.goto C d4_111 (q := 27) (by decide) ?_
          refine Own.iloadN C d4_27 (q := 28) rfl rfl ?_
          refine Own.aloadN C d4_28 (q := 29) rfl rfl rfl ?_
          refine Own.getfield C d4_29 (q := 32) rfl (host := "") (Or.inl (hw _ (List.mem_of_getElem? (i := 34) rfl))) Via.refl ha (j := 0) rfl ?_
          refine Own.arraylength C d4_32 (q := 33) rfl h_A1 fun z32_1 e32_1 e32_1i => ?_
          obtain rfl : z32_1 = (3 : Int32) := e32_1.trans (by rfl)
          refine Own.icmp_ge C d4_33 (q := 36) rfl (r := 114) (by decide) (fun h33_1 => ?_) (fun h33_1 => ?_)
          · exact absurd h33_1 (by decide)
          · refine Own.aloadN C d4_36 (q := 37) rfl rfl rfl ?_
            refine Own.getfield C d4_37 (q := 40) rfl (host := "") (Or.inl (hw _ (List.mem_of_getElem? (i := 34) rfl))) Via.refl ha (j := 0) rfl ?_
            refine Own.iloadN C d4_40 (q := 41) rfl rfl ?_
            refine Own.aaload C d4_41 (q := 42) rfl h_A1 rfl (by decide) (v := (.ref s1)) rfl ?_
            refine Own.ifnullN C d4_42 (q := 45) rfl ?_
            refine Own.aloadN C d4_45 (q := 46) rfl rfl rfl ?_
            refine Own.getfield C d4_46 (q := 49) rfl (host := "") (Or.inl (hw _ (List.mem_of_getElem? (i := 34) rfl))) Via.refl ha (j := 0) rfl ?_
            refine Own.iloadN C d4_49 (q := 50) rfl rfl ?_
            refine Own.aaload C d4_50 (q := 51) rfl h_A1 rfl (by decide) (v := (.ref s1)) rfl ?_
            refine Own.callV C d4_51 (q := 54) rfl (hw _ (List.mem_of_getElem? (i := 71) rfl)) (hw _ (List.mem_of_getElem? (i := 72) rfl)) (notFace_of_selects (args := #[]) (mvT C.2.2.2.1 (hw _ (List.mem_of_getElem? (i := 74) rfl)))) (hw _ (List.mem_of_getElem? (i := 74) rfl)) (hw _ (List.mem_of_getElem? (i := 73) rfl)) (hw _ (List.mem_of_getElem? (i := 8) rfl)) (hw _ (List.mem_of_getElem? (i := 75) rfl)) (by decide) (W := 0) (rm := rm_6) (argsL := []) (st := []) (lenOf pd_2 rfl) rfl rfl (Nat.le_of_eq rfl) (by decide) (by decide) (by decide) (by decide) h_s1 (c_emp l Z a0 hw n0 _ s1 b1 (98 : Int32) h_s1 h_b1) (fun s C PP => nxI fun z51_1 μ51_1 h51_1 => ?_)
            have LI_t18 := PP _ _ _ LI_t18
            have LI_t62 := PP _ _ _ LI_t62
            have LI_t68 := PP _ _ _ LI_t68
            have LI_t93 := PP _ _ _ LI_t93
            obtain ⟨h51_1m, rfl⟩ := h51_1
            refine Own.mem h51_1m ?_
            refine Own.if_ne C d4_54 (q := 57) rfl (r := 61) (by decide) (fun h54_1 => ?_) (fun h54_1 => ?_)
            · exact absurd h54_1 (by decide)
            · refine Own.iconst C d4_57 (q := 58) rfl (z := 1) (by decide) ?_
              refine Own.goto C d4_58 (q := 62) (by decide) ?_
              refine Own.ldcA C d4_62 (q := 64) rfl (hw _ (List.mem_of_getElem? (i := 77) rfl)) LI_t62 ?_
              refine Own.iloadN C d4_64 (q := 65) rfl rfl ?_
              refine Own.callS C d4_65 (q := 68) rfl (hw _ (List.mem_of_getElem? (i := 78) rfl)) (hw _ (List.mem_of_getElem? (i := 79) rfl)) (hw _ (List.mem_of_getElem? (i := 80) rfl)) (hw _ (List.mem_of_getElem? (i := 81) rfl)) (by decide) (W := 2) (rm := rm_7) (argsL := [(.int (1 : Int32))]) (st := [(.ref t62), (.int (1 : Int32))]) (lenOf pd_3 rfl) rfl rfl (Nat.le_of_eq rfl) (by decide) (by decide) (by decide) (by decide) (c_vof l Z a0 hw n0 _ (1 : Int32) CA vs SH SC hvs h_CA (by decide)) (fun s C PP => nxR fun z65_1 μ65_1 z65_1_r h65_1 => ?_)
              have LI_t18 := PP _ _ _ LI_t18
              have LI_t62 := PP _ _ _ LI_t62
              have LI_t68 := PP _ _ _ LI_t68
              have LI_t93 := PP _ _ _ LI_t93
              refine Own.mem h65_1 ?_
              refine Own.ldcA C d4_68 (q := 70) rfl (hw _ (List.mem_of_getElem? (i := 85) rfl)) LI_t68 ?_
              refine Own.callS C d4_70 (q := 73) rfl (hw _ (List.mem_of_getElem? (i := 86) rfl)) (hw _ (List.mem_of_getElem? (i := 87) rfl)) (hw _ (List.mem_of_getElem? (i := 4) rfl)) (hw _ (List.mem_of_getElem? (i := 88) rfl)) (by decide) (W := 0) (rm := rm_8) (argsL := [(.int (1 : Int32)), (.ref t62), z65_1, (.ref t68)]) (st := []) (lenOf pd_4 rfl) rfl rfl (Nat.le_of_eq rfl) (by decide) (by decide) (by decide) (by decide) (c_chk4 l Z a0 hw n0 _ t62 z65_1 t68 z65_1_r) (fun s C PP => nxV fun μ70_1 h70_1 => ?_)
              have LI_t18 := PP _ _ _ LI_t18
              have LI_t62 := PP _ _ _ LI_t62
              have LI_t68 := PP _ _ _ LI_t68
              have LI_t93 := PP _ _ _ LI_t93
              refine Own.mem h70_1 ?_
              refine Own.aloadN C d4_73 (q := 74) rfl rfl rfl ?_
              refine Own.getfield C d4_74 (q := 77) rfl (host := "") (Or.inl (hw _ (List.mem_of_getElem? (i := 39) rfl))) Via.refl ha (j := 1) rfl ?_
              refine Own.iloadN C d4_77 (q := 78) rfl rfl ?_
              refine Own.iaload C d4_78 (q := 79) rfl h_A2 (by decide) (v := (.int l1)) rfl ?_
              refine Own.if_lt C d4_79 (q := 82) rfl (r := 86) (by decide) (fun h79_1 => ?_) (fun h79_1 => ?_)
              · exact absurd h79_1 y1
              · refine Own.iconst C d4_82 (q := 83) rfl (z := 1) (by decide) ?_
                refine Own.goto C d4_83 (q := 87) (by decide) ?_
                refine Own.ldcA C d4_87 (q := 89) rfl (hw _ (List.mem_of_getElem? (i := 77) rfl)) LI_t62 ?_
                refine Own.iloadN C d4_89 (q := 90) rfl rfl ?_
                refine Own.callS C d4_90 (q := 93) rfl (hw _ (List.mem_of_getElem? (i := 78) rfl)) (hw _ (List.mem_of_getElem? (i := 79) rfl)) (hw _ (List.mem_of_getElem? (i := 80) rfl)) (hw _ (List.mem_of_getElem? (i := 81) rfl)) (by decide) (W := 2) (rm := rm_7) (argsL := [(.int (1 : Int32))]) (st := [(.ref t62), (.int (1 : Int32))]) (lenOf pd_3 rfl) rfl rfl (Nat.le_of_eq rfl) (by decide) (by decide) (by decide) (by decide) (c_vof l Z a0 hw n0 _ (1 : Int32) CA vs SH SC hvs h_CA (by decide)) (fun s C PP => nxR fun z90_1 μ90_1 z90_1_r h90_1 => ?_)
                have LI_t18 := PP _ _ _ LI_t18
                have LI_t62 := PP _ _ _ LI_t62
                have LI_t68 := PP _ _ _ LI_t68
                have LI_t93 := PP _ _ _ LI_t93
                refine Own.mem h90_1 ?_
                refine Own.ldcA C d4_93 (q := 95) rfl (hw _ (List.mem_of_getElem? (i := 89) rfl)) LI_t93 ?_
                refine Own.callS C d4_95 (q := 98) rfl (hw _ (List.mem_of_getElem? (i := 86) rfl)) (hw _ (List.mem_of_getElem? (i := 87) rfl)) (hw _ (List.mem_of_getElem? (i := 4) rfl)) (hw _ (List.mem_of_getElem? (i := 88) rfl)) (by decide) (W := 0) (rm := rm_8) (argsL := [(.int (1 : Int32)), (.ref t62), z90_1, (.ref t93)]) (st := []) (lenOf pd_4 rfl) rfl rfl (Nat.le_of_eq rfl) (by decide) (by decide) (by decide) (by decide) (c_chk4 l Z a0 hw n0 _ t62 z90_1 t93 z90_1_r) (fun s C PP => nxV fun μ95_1 h95_1 => ?_)
                have LI_t18 := PP _ _ _ LI_t18
                have LI_t62 := PP _ _ _ LI_t62
                have LI_t68 := PP _ _ _ LI_t68
                have LI_t93 := PP _ _ _ LI_t93
                refine Own.mem h95_1 ?_
                refine Own.lloadN C d4_98 (q := 99) rfl rfl ?_
                refine Own.aloadN C d4_99 (q := 100) rfl rfl rfl ?_
                refine Own.getfield C d4_100 (q := 103) rfl (host := "") (Or.inl (hw _ (List.mem_of_getElem? (i := 39) rfl))) Via.refl ha (j := 1) rfl ?_
                refine Own.iloadN C d4_103 (q := 104) rfl rfl ?_
                refine Own.iaload C d4_104 (q := 105) rfl h_A2 (by decide) (v := (.int l1)) rfl ?_
                refine Own.i2l C d4_105 (q := 106) rfl fun z105_1 e105_1 => ?_
                refine Own.ladd C d4_106 (q := 107) rfl fun z106_1 e106_1 => ?_
                refine Own.lstoreN C d4_107 (q := 108) rfl (L' := #[.val (.ref a), .val (.long z106_1), .second, .val (.int (1 : Int32))]) rfl ?_
                refine Own.iinc C d4_108 (q := 111) rfl rfl (z := (2 : Int32)) (by decide) (L' := #[.val (.ref a), .val (.long z106_1), .second, .val (.int (2 : Int32))]) rfl ?_
                refine Own.goto C d4_111 (q := 27) (by decide) ?_
                refine Own.iloadN C d4_27 (q := 28) rfl rfl ?_
                refine Own.aloadN C d4_28 (q := 29) rfl rfl rfl ?_
                refine Own.getfield C d4_29 (q := 32) rfl (host := "") (Or.inl (hw _ (List.mem_of_getElem? (i := 34) rfl))) Via.refl ha (j := 0) rfl ?_
                refine Own.arraylength C d4_32 (q := 33) rfl h_A1 fun z32_2 e32_2 e32_2i => ?_
                obtain rfl : z32_2 = (3 : Int32) := e32_2.trans (by rfl)
                refine Own.icmp_ge C d4_33 (q := 36) rfl (r := 114) (by decide) (fun h33_2 => ?_) (fun h33_2 => ?_)
                · exact absurd h33_2 (by decide)
                · refine Own.aloadN C d4_36 (q := 37) rfl rfl rfl ?_
                  refine Own.getfield C d4_37 (q := 40) rfl (host := "") (Or.inl (hw _ (List.mem_of_getElem? (i := 34) rfl))) Via.refl ha (j := 0) rfl ?_
                  refine Own.iloadN C d4_40 (q := 41) rfl rfl ?_
                  refine Own.aaload C d4_41 (q := 42) rfl h_A1 rfl (by decide) (v := (.ref s2)) rfl ?_
                  refine Own.ifnullN C d4_42 (q := 45) rfl ?_
                  refine Own.aloadN C d4_45 (q := 46) rfl rfl rfl ?_
                  refine Own.getfield C d4_46 (q := 49) rfl (host := "") (Or.inl (hw _ (List.mem_of_getElem? (i := 34) rfl))) Via.refl ha (j := 0) rfl ?_
                  refine Own.iloadN C d4_49 (q := 50) rfl rfl ?_
                  refine Own.aaload C d4_50 (q := 51) rfl h_A1 rfl (by decide) (v := (.ref s2)) rfl ?_
                  refine Own.callV C d4_51 (q := 54) rfl (hw _ (List.mem_of_getElem? (i := 71) rfl)) (hw _ (List.mem_of_getElem? (i := 72) rfl)) (notFace_of_selects (args := #[]) (mvT C.2.2.2.1 (hw _ (List.mem_of_getElem? (i := 74) rfl)))) (hw _ (List.mem_of_getElem? (i := 74) rfl)) (hw _ (List.mem_of_getElem? (i := 73) rfl)) (hw _ (List.mem_of_getElem? (i := 8) rfl)) (hw _ (List.mem_of_getElem? (i := 75) rfl)) (by decide) (W := 0) (rm := rm_6) (argsL := []) (st := []) (lenOf pd_2 rfl) rfl rfl (Nat.le_of_eq rfl) (by decide) (by decide) (by decide) (by decide) h_s2 (c_emp l Z a0 hw n0 _ s2 b2 (99 : Int32) h_s2 h_b2) (fun s C PP => nxI fun z51_2 μ51_2 h51_2 => ?_)
                  have LI_t18 := PP _ _ _ LI_t18
                  have LI_t62 := PP _ _ _ LI_t62
                  have LI_t68 := PP _ _ _ LI_t68
                  have LI_t93 := PP _ _ _ LI_t93
                  obtain ⟨h51_2m, rfl⟩ := h51_2
                  refine Own.mem h51_2m ?_
                  refine Own.if_ne C d4_54 (q := 57) rfl (r := 61) (by decide) (fun h54_2 => ?_) (fun h54_2 => ?_)
                  · exact absurd h54_2 (by decide)
                  · refine Own.iconst C d4_57 (q := 58) rfl (z := 1) (by decide) ?_
                    refine Own.goto C d4_58 (q := 62) (by decide) ?_
                    refine Own.ldcA C d4_62 (q := 64) rfl (hw _ (List.mem_of_getElem? (i := 77) rfl)) LI_t62 ?_
                    refine Own.iloadN C d4_64 (q := 65) rfl rfl ?_
                    refine Own.callS C d4_65 (q := 68) rfl (hw _ (List.mem_of_getElem? (i := 78) rfl)) (hw _ (List.mem_of_getElem? (i := 79) rfl)) (hw _ (List.mem_of_getElem? (i := 80) rfl)) (hw _ (List.mem_of_getElem? (i := 81) rfl)) (by decide) (W := 2) (rm := rm_7) (argsL := [(.int (2 : Int32))]) (st := [(.ref t62), (.int (1 : Int32))]) (lenOf pd_3 rfl) rfl rfl (Nat.le_of_eq rfl) (by decide) (by decide) (by decide) (by decide) (c_vof l Z a0 hw n0 _ (2 : Int32) CA vs SH SC hvs h_CA (by decide)) (fun s C PP => nxR fun z65_2 μ65_2 z65_2_r h65_2 => ?_)
                    have LI_t18 := PP _ _ _ LI_t18
                    have LI_t62 := PP _ _ _ LI_t62
                    have LI_t68 := PP _ _ _ LI_t68
                    have LI_t93 := PP _ _ _ LI_t93
                    refine Own.mem h65_2 ?_
                    refine Own.ldcA C d4_68 (q := 70) rfl (hw _ (List.mem_of_getElem? (i := 85) rfl)) LI_t68 ?_
                    refine Own.callS C d4_70 (q := 73) rfl (hw _ (List.mem_of_getElem? (i := 86) rfl)) (hw _ (List.mem_of_getElem? (i := 87) rfl)) (hw _ (List.mem_of_getElem? (i := 4) rfl)) (hw _ (List.mem_of_getElem? (i := 88) rfl)) (by decide) (W := 0) (rm := rm_8) (argsL := [(.int (1 : Int32)), (.ref t62), z65_2, (.ref t68)]) (st := []) (lenOf pd_4 rfl) rfl rfl (Nat.le_of_eq rfl) (by decide) (by decide) (by decide) (by decide) (c_chk4 l Z a0 hw n0 _ t62 z65_2 t68 z65_2_r) (fun s C PP => nxV fun μ70_2 h70_2 => ?_)
                    have LI_t18 := PP _ _ _ LI_t18
                    have LI_t62 := PP _ _ _ LI_t62
                    have LI_t68 := PP _ _ _ LI_t68
                    have LI_t93 := PP _ _ _ LI_t93
                    refine Own.mem h70_2 ?_
                    refine Own.aloadN C d4_73 (q := 74) rfl rfl rfl ?_
                    refine Own.getfield C d4_74 (q := 77) rfl (host := "") (Or.inl (hw _ (List.mem_of_getElem? (i := 39) rfl))) Via.refl ha (j := 1) rfl ?_
                    refine Own.iloadN C d4_77 (q := 78) rfl rfl ?_
                    refine Own.iaload C d4_78 (q := 79) rfl h_A2 (by decide) (v := (.int l2)) rfl ?_
                    refine Own.if_lt C d4_79 (q := 82) rfl (r := 86) (by decide) (fun h79_2 => ?_) (fun h79_2 => ?_)
                    · exact absurd h79_2 y2
                    · refine Own.iconst C d4_82 (q := 83) rfl (z := 1) (by decide) ?_
                      refine Own.goto C d4_83 (q := 87) (by decide) ?_
                      refine Own.ldcA C d4_87 (q := 89) rfl (hw _ (List.mem_of_getElem? (i := 77) rfl)) LI_t62 ?_
                      refine Own.iloadN C d4_89 (q := 90) rfl rfl ?_
                      refine Own.callS C d4_90 (q := 93) rfl (hw _ (List.mem_of_getElem? (i := 78) rfl)) (hw _ (List.mem_of_getElem? (i := 79) rfl)) (hw _ (List.mem_of_getElem? (i := 80) rfl)) (hw _ (List.mem_of_getElem? (i := 81) rfl)) (by decide) (W := 2) (rm := rm_7) (argsL := [(.int (2 : Int32))]) (st := [(.ref t62), (.int (1 : Int32))]) (lenOf pd_3 rfl) rfl rfl (Nat.le_of_eq rfl) (by decide) (by decide) (by decide) (by decide) (c_vof l Z a0 hw n0 _ (2 : Int32) CA vs SH SC hvs h_CA (by decide)) (fun s C PP => nxR fun z90_2 μ90_2 z90_2_r h90_2 => ?_)
                      have LI_t18 := PP _ _ _ LI_t18
                      have LI_t62 := PP _ _ _ LI_t62
                      have LI_t68 := PP _ _ _ LI_t68
                      have LI_t93 := PP _ _ _ LI_t93
                      refine Own.mem h90_2 ?_
                      refine Own.ldcA C d4_93 (q := 95) rfl (hw _ (List.mem_of_getElem? (i := 89) rfl)) LI_t93 ?_
                      refine Own.callS C d4_95 (q := 98) rfl (hw _ (List.mem_of_getElem? (i := 86) rfl)) (hw _ (List.mem_of_getElem? (i := 87) rfl)) (hw _ (List.mem_of_getElem? (i := 4) rfl)) (hw _ (List.mem_of_getElem? (i := 88) rfl)) (by decide) (W := 0) (rm := rm_8) (argsL := [(.int (1 : Int32)), (.ref t62), z90_2, (.ref t93)]) (st := []) (lenOf pd_4 rfl) rfl rfl (Nat.le_of_eq rfl) (by decide) (by decide) (by decide) (by decide) (c_chk4 l Z a0 hw n0 _ t62 z90_2 t93 z90_2_r) (fun s C PP => nxV fun μ95_2 h95_2 => ?_)
                      have LI_t18 := PP _ _ _ LI_t18
                      have LI_t62 := PP _ _ _ LI_t62
                      have LI_t68 := PP _ _ _ LI_t68
                      have LI_t93 := PP _ _ _ LI_t93
                      refine Own.mem h95_2 ?_
                      refine Own.lloadN C d4_98 (q := 99) rfl rfl ?_
                      refine Own.aloadN C d4_99 (q := 100) rfl rfl rfl ?_
                      refine Own.getfield C d4_100 (q := 103) rfl (host := "") (Or.inl (hw _ (List.mem_of_getElem? (i := 39) rfl))) Via.refl ha (j := 1) rfl ?_
                      refine Own.iloadN C d4_103 (q := 104) rfl rfl ?_
                      refine Own.iaload C d4_104 (q := 105) rfl h_A2 (by decide) (v := (.int l2)) rfl ?_
                      refine Own.i2l C d4_105 (q := 106) rfl fun z105_2 e105_2 => ?_
                      refine Own.ladd C d4_106 (q := 107) rfl fun z106_2 e106_2 => ?_
                      refine Own.lstoreN C d4_107 (q := 108) rfl (L' := #[.val (.ref a), .val (.long z106_2), .second, .val (.int (2 : Int32))]) rfl ?_
                      refine Own.iinc C d4_108 (q := 111) rfl rfl (z := (3 : Int32)) (by decide) (L' := #[.val (.ref a), .val (.long z106_2), .second, .val (.int (3 : Int32))]) rfl ?_
                      refine Own.goto C d4_111 (q := 27) (by decide) ?_
                      refine Own.iloadN C d4_27 (q := 28) rfl rfl ?_
                      refine Own.aloadN C d4_28 (q := 29) rfl rfl rfl ?_
                      refine Own.getfield C d4_29 (q := 32) rfl (host := "") (Or.inl (hw _ (List.mem_of_getElem? (i := 34) rfl))) Via.refl ha (j := 0) rfl ?_
                      refine Own.arraylength C d4_32 (q := 33) rfl h_A1 fun z32_3 e32_3 e32_3i => ?_
                      obtain rfl : z32_3 = (3 : Int32) := e32_3.trans (by rfl)
                      refine Own.icmp_ge C d4_33 (q := 36) rfl (r := 114) (by decide) (fun h33_3 => ?_) (fun h33_3 => ?_)
                      · refine Own.lloadN C d4_114 (q := 115) rfl rfl ?_
                        refine Own.aloadN C d4_115 (q := 116) rfl rfl rfl ?_
                        refine Own.getfield C d4_116 (q := 119) rfl (host := "") (Or.inl (hw _ (List.mem_of_getElem? (i := 41) rfl))) Via.refl ha (j := 2) rfl ?_
                        refine Own.lcmp_ne C d4_119 (pc1 := 120) rfl d4_120 (q := 123) rfl (r := 127) (by decide) (fun h119 => ?_) (fun h119 => ?_)
                        · exact absurd (by rw [e106_2, e105_2, e106_1, e105_1, e106, e105]; exact ys) h119
                        · refine Own.iconst C d4_123 (q := 124) rfl (z := 1) (by decide) ?_
                          refine Own.goto C d4_124 (q := 128) (by decide) ?_
                          refine Own.ldcL C d4_128 (q := 130) rfl (hw _ (List.mem_of_getElem? (i := 90) rfl)) (strs hw) (N := 196) (by decide) (by decide) (by decide) (by decide) (fun s C PP t128 LI_t128 => ?_)
                          have LI_t18 := PP _ _ _ LI_t18
                          have LI_t62 := PP _ _ _ LI_t62
                          have LI_t68 := PP _ _ _ LI_t68
                          have LI_t93 := PP _ _ _ LI_t93
                          refine Own.callS C d4_130 (q := 133) rfl (hw _ (List.mem_of_getElem? (i := 68) rfl)) (hw _ (List.mem_of_getElem? (i := 69) rfl)) (hw _ (List.mem_of_getElem? (i := 4) rfl)) (hw _ (List.mem_of_getElem? (i := 70) rfl)) (by decide) (W := 0) (rm := rm_5) (argsL := [(.int (1 : Int32)), (.ref t128)]) (st := []) (lenOf pd_1 rfl) rfl rfl (Nat.le_of_eq rfl) (by decide) (by decide) (by decide) (by decide) (c_chk l Z a0 hw n0 _ t128) (fun s C PP => nxV fun μ130 h130 => ?_)
                          have LI_t18 := PP _ _ _ LI_t18
                          have LI_t62 := PP _ _ _ LI_t62
                          have LI_t68 := PP _ _ _ LI_t68
                          have LI_t93 := PP _ _ _ LI_t93
                          have LI_t128 := PP _ _ _ LI_t128
                          refine Own.mem h130 ?_
                          refine Own.vreturn C d4_133 (by decide) (by decide) ?_
                          exact ⟨rfl, rfl⟩
                      · exact absurd h33_3 (by decide)
theorem pd_5 : parseMethodDescriptor "(I)V" = some ⟨[.int], none⟩ := by decide +kernel
abbrev rm_9 : Room := { frames := 2, cells := 18, slots := 1092, locals := 30 }
theorem d9_0 : decode prog_15_method_20_code 0 = .ok (.aload_n 0, 1) := by decide +kernel
theorem d9_1 : decode prog_15_method_20_code 1 = .ok (.getfield 33, 3) := by decide +kernel
theorem d9_4 : decode prog_15_method_20_code 4 = .ok (.arraylength, 1) := by decide +kernel
theorem d9_5 : decode prog_15_method_20_code 5 = .ok (.istore_n 1, 1) := by decide +kernel
theorem d9_6 : decode prog_15_method_20_code 6 = .ok (.aload_n 0, 1) := by decide +kernel
theorem d9_7 : decode prog_15_method_20_code 7 = .ok (.getfield 37, 3) := by decide +kernel
theorem d9_10 : decode prog_15_method_20_code 10 = .ok (.arraylength, 1) := by decide +kernel
theorem d9_11 : decode prog_15_method_20_code 11 = .ok (.iload_n 1, 1) := by decide +kernel
theorem d9_12 : decode prog_15_method_20_code 12 = .ok (.if_icmp .ne 16, 3) := by decide +kernel
theorem d9_15 : decode prog_15_method_20_code 15 = .ok (.aload_n 0, 1) := by decide +kernel
theorem d9_16 : decode prog_15_method_20_code 16 = .ok (.getfield 43, 3) := by decide +kernel
theorem d9_19 : decode prog_15_method_20_code 19 = .ok (.arraylength, 1) := by decide +kernel
theorem d9_20 : decode prog_15_method_20_code 20 = .ok (.iload_n 1, 1) := by decide +kernel
theorem d9_21 : decode prog_15_method_20_code 21 = .ok (.if_icmp .ne 7, 3) := by decide +kernel
theorem d9_24 : decode prog_15_method_20_code 24 = .ok (.iconst 1, 1) := by decide +kernel
theorem d9_25 : decode prog_15_method_20_code 25 = .ok (.goto 4, 3) := by decide +kernel
theorem d9_29 : decode prog_15_method_20_code 29 = .ok (.ldc 145, 2) := by decide +kernel
theorem d9_31 : decode prog_15_method_20_code 31 = .ok (.invokestatic 120, 3) := by decide +kernel
theorem d9_34 : decode prog_15_method_20_code 34 = .ok (.aload_n 0, 1) := by decide +kernel
theorem d9_35 : decode prog_15_method_20_code 35 = .ok (.getfield 47, 3) := by decide +kernel
theorem d9_38 : decode prog_15_method_20_code 38 = .ok (.arraylength, 1) := by decide +kernel
theorem d9_39 : decode prog_15_method_20_code 39 = .ok (.iload_n 1, 1) := by decide +kernel
theorem d9_40 : decode prog_15_method_20_code 40 = .ok (.iconst 1, 1) := by decide +kernel
theorem d9_41 : decode prog_15_method_20_code 41 = .ok (.iadd, 1) := by decide +kernel
theorem d9_42 : decode prog_15_method_20_code 42 = .ok (.if_icmp .ne 43, 3) := by decide +kernel
theorem d9_45 : decode prog_15_method_20_code 45 = .ok (.aload_n 0, 1) := by decide +kernel
theorem d9_46 : decode prog_15_method_20_code 46 = .ok (.getfield 47, 3) := by decide +kernel
theorem d9_49 : decode prog_15_method_20_code 49 = .ok (.iconst 0, 1) := by decide +kernel
theorem d9_50 : decode prog_15_method_20_code 50 = .ok (.iaload, 1) := by decide +kernel
theorem d9_51 : decode prog_15_method_20_code 51 = .ok (.ifCond .ne 34, 3) := by decide +kernel
theorem d9_54 : decode prog_15_method_20_code 54 = .ok (.aload_n 0, 1) := by decide +kernel
theorem d9_55 : decode prog_15_method_20_code 55 = .ok (.getfield 47, 3) := by decide +kernel
theorem d9_58 : decode prog_15_method_20_code 58 = .ok (.iload_n 1, 1) := by decide +kernel
theorem d9_59 : decode prog_15_method_20_code 59 = .ok (.iaload, 1) := by decide +kernel
theorem d9_60 : decode prog_15_method_20_code 60 = .ok (.aload_n 0, 1) := by decide +kernel
theorem d9_61 : decode prog_15_method_20_code 61 = .ok (.getfield 51, 3) := by decide +kernel
theorem d9_64 : decode prog_15_method_20_code 64 = .ok (.arraylength, 1) := by decide +kernel
theorem d9_65 : decode prog_15_method_20_code 65 = .ok (.if_icmp .ne 20, 3) := by decide +kernel
theorem d9_68 : decode prog_15_method_20_code 68 = .ok (.aload_n 0, 1) := by decide +kernel
theorem d9_69 : decode prog_15_method_20_code 69 = .ok (.getfield 55, 3) := by decide +kernel
theorem d9_72 : decode prog_15_method_20_code 72 = .ok (.arraylength, 1) := by decide +kernel
theorem d9_73 : decode prog_15_method_20_code 73 = .ok (.aload_n 0, 1) := by decide +kernel
theorem d9_74 : decode prog_15_method_20_code 74 = .ok (.getfield 51, 3) := by decide +kernel
theorem d9_77 : decode prog_15_method_20_code 77 = .ok (.arraylength, 1) := by decide +kernel
theorem d9_78 : decode prog_15_method_20_code 78 = .ok (.if_icmp .ne 7, 3) := by decide +kernel
theorem d9_81 : decode prog_15_method_20_code 81 = .ok (.iconst 1, 1) := by decide +kernel
theorem d9_82 : decode prog_15_method_20_code 82 = .ok (.goto 4, 3) := by decide +kernel
theorem d9_86 : decode prog_15_method_20_code 86 = .ok (.ldc 147, 2) := by decide +kernel
theorem d9_88 : decode prog_15_method_20_code 88 = .ok (.invokestatic 120, 3) := by decide +kernel
theorem d9_91 : decode prog_15_method_20_code 91 = .ok (.lconst 0, 1) := by decide +kernel
theorem d9_92 : decode prog_15_method_20_code 92 = .ok (.lstore_n 2, 1) := by decide +kernel
theorem d9_93 : decode prog_15_method_20_code 93 = .ok (.iconst 0, 1) := by decide +kernel
theorem d9_94 : decode prog_15_method_20_code 94 = .ok (.istore 4, 2) := by decide +kernel
theorem d9_96 : decode prog_15_method_20_code 96 = .ok (.iload 4, 2) := by decide +kernel
theorem d9_98 : decode prog_15_method_20_code 98 = .ok (.iload_n 1, 1) := by decide +kernel
theorem d9_99 : decode prog_15_method_20_code 99 = .ok (.if_icmp .ge 259, 3) := by decide +kernel
theorem d9_102 : decode prog_15_method_20_code 102 = .ok (.aload_n 0, 1) := by decide +kernel
theorem d9_103 : decode prog_15_method_20_code 103 = .ok (.getfield 33, 3) := by decide +kernel
theorem d9_106 : decode prog_15_method_20_code 106 = .ok (.iload 4, 2) := by decide +kernel
theorem d9_108 : decode prog_15_method_20_code 108 = .ok (.aaload, 1) := by decide +kernel
theorem d9_109 : decode prog_15_method_20_code 109 = .ok (.ifnull 20, 3) := by decide +kernel
theorem d9_112 : decode prog_15_method_20_code 112 = .ok (.aload_n 0, 1) := by decide +kernel
theorem d9_113 : decode prog_15_method_20_code 113 = .ok (.getfield 33, 3) := by decide +kernel
theorem d9_116 : decode prog_15_method_20_code 116 = .ok (.iload 4, 2) := by decide +kernel
theorem d9_118 : decode prog_15_method_20_code 118 = .ok (.aaload, 1) := by decide +kernel
theorem d9_119 : decode prog_15_method_20_code 119 = .ok (.invokevirtual 124, 3) := by decide +kernel
theorem d9_122 : decode prog_15_method_20_code 122 = .ok (.ifCond .ne 7, 3) := by decide +kernel
theorem d9_125 : decode prog_15_method_20_code 125 = .ok (.iconst 1, 1) := by decide +kernel
theorem d9_126 : decode prog_15_method_20_code 126 = .ok (.goto 4, 3) := by decide +kernel
theorem d9_130 : decode prog_15_method_20_code 130 = .ok (.ldc 149, 2) := by decide +kernel
theorem d9_132 : decode prog_15_method_20_code 132 = .ok (.iload 4, 2) := by decide +kernel
theorem d9_134 : decode prog_15_method_20_code 134 = .ok (.invokestatic 130, 3) := by decide +kernel
theorem d9_137 : decode prog_15_method_20_code 137 = .ok (.ldc 151, 2) := by decide +kernel
theorem d9_139 : decode prog_15_method_20_code 139 = .ok (.invokestatic 138, 3) := by decide +kernel
theorem d9_142 : decode prog_15_method_20_code 142 = .ok (.iload 4, 2) := by decide +kernel
theorem d9_144 : decode prog_15_method_20_code 144 = .ok (.ifCond .eq 25, 3) := by decide +kernel
theorem d9_169 : decode prog_15_method_20_code 169 = .ok (.iconst 1, 1) := by decide +kernel
theorem d9_170 : decode prog_15_method_20_code 170 = .ok (.goto 4, 3) := by decide +kernel
theorem d9_174 : decode prog_15_method_20_code 174 = .ok (.ldc 149, 2) := by decide +kernel
theorem d9_176 : decode prog_15_method_20_code 176 = .ok (.aload_n 0, 1) := by decide +kernel
theorem d9_177 : decode prog_15_method_20_code 177 = .ok (.getfield 33, 3) := by decide +kernel
theorem d9_180 : decode prog_15_method_20_code 180 = .ok (.iload 4, 2) := by decide +kernel
theorem d9_182 : decode prog_15_method_20_code 182 = .ok (.aaload, 1) := by decide +kernel
theorem d9_183 : decode prog_15_method_20_code 183 = .ok (.ldc 157, 2) := by decide +kernel
theorem d9_185 : decode prog_15_method_20_code 185 = .ok (.invokestatic 138, 3) := by decide +kernel
theorem d9_188 : decode prog_15_method_20_code 188 = .ok (.aload_n 0, 1) := by decide +kernel
theorem d9_189 : decode prog_15_method_20_code 189 = .ok (.iload 4, 2) := by decide +kernel
theorem d9_191 : decode prog_15_method_20_code 191 = .ok (.invokevirtual 69, 3) := by decide +kernel
theorem d9_194 : decode prog_15_method_20_code 194 = .ok (.aload_n 0, 1) := by decide +kernel
theorem d9_195 : decode prog_15_method_20_code 195 = .ok (.iload 4, 2) := by decide +kernel
theorem d9_197 : decode prog_15_method_20_code 197 = .ok (.invokevirtual 82, 3) := by decide +kernel
theorem d9_200 : decode prog_15_method_20_code 200 = .ok (.isub, 1) := by decide +kernel
theorem d9_201 : decode prog_15_method_20_code 201 = .ok (.istore 5, 2) := by decide +kernel
theorem d9_203 : decode prog_15_method_20_code 203 = .ok (.iload 5, 2) := by decide +kernel
theorem d9_205 : decode prog_15_method_20_code 205 = .ok (.ifCond .lt 21, 3) := by decide +kernel
theorem d9_208 : decode prog_15_method_20_code 208 = .ok (.aload_n 0, 1) := by decide +kernel
theorem d9_209 : decode prog_15_method_20_code 209 = .ok (.iload 4, 2) := by decide +kernel
theorem d9_211 : decode prog_15_method_20_code 211 = .ok (.invokevirtual 69, 3) := by decide +kernel
theorem d9_214 : decode prog_15_method_20_code 214 = .ok (.aload_n 0, 1) := by decide +kernel
theorem d9_215 : decode prog_15_method_20_code 215 = .ok (.getfield 51, 3) := by decide +kernel
theorem d9_218 : decode prog_15_method_20_code 218 = .ok (.arraylength, 1) := by decide +kernel
theorem d9_219 : decode prog_15_method_20_code 219 = .ok (.if_icmp .gt 7, 3) := by decide +kernel
theorem d9_222 : decode prog_15_method_20_code 222 = .ok (.iconst 1, 1) := by decide +kernel
theorem d9_223 : decode prog_15_method_20_code 223 = .ok (.goto 4, 3) := by decide +kernel
theorem d9_227 : decode prog_15_method_20_code 227 = .ok (.ldc 149, 2) := by decide +kernel
theorem d9_229 : decode prog_15_method_20_code 229 = .ok (.aload_n 0, 1) := by decide +kernel
theorem d9_230 : decode prog_15_method_20_code 230 = .ok (.getfield 33, 3) := by decide +kernel
theorem d9_233 : decode prog_15_method_20_code 233 = .ok (.iload 4, 2) := by decide +kernel
theorem d9_235 : decode prog_15_method_20_code 235 = .ok (.aaload, 1) := by decide +kernel
theorem d9_236 : decode prog_15_method_20_code 236 = .ok (.ldc 159, 2) := by decide +kernel
theorem d9_238 : decode prog_15_method_20_code 238 = .ok (.invokestatic 138, 3) := by decide +kernel
theorem d9_241 : decode prog_15_method_20_code 241 = .ok (.iload 5, 2) := by decide +kernel
theorem d9_243 : decode prog_15_method_20_code 243 = .ok (.aload_n 0, 1) := by decide +kernel
theorem d9_244 : decode prog_15_method_20_code 244 = .ok (.getfield 37, 3) := by decide +kernel
theorem d9_247 : decode prog_15_method_20_code 247 = .ok (.iload 4, 2) := by decide +kernel
theorem d9_249 : decode prog_15_method_20_code 249 = .ok (.iaload, 1) := by decide +kernel
theorem d9_250 : decode prog_15_method_20_code 250 = .ok (.if_icmp .gt 7, 3) := by decide +kernel
theorem d9_253 : decode prog_15_method_20_code 253 = .ok (.iconst 1, 1) := by decide +kernel
theorem d9_254 : decode prog_15_method_20_code 254 = .ok (.goto 4, 3) := by decide +kernel
theorem d9_258 : decode prog_15_method_20_code 258 = .ok (.ldc 149, 2) := by decide +kernel
theorem d9_260 : decode prog_15_method_20_code 260 = .ok (.aload_n 0, 1) := by decide +kernel
theorem d9_261 : decode prog_15_method_20_code 261 = .ok (.getfield 33, 3) := by decide +kernel
theorem d9_264 : decode prog_15_method_20_code 264 = .ok (.iload 4, 2) := by decide +kernel
theorem d9_266 : decode prog_15_method_20_code 266 = .ok (.aaload, 1) := by decide +kernel
theorem d9_267 : decode prog_15_method_20_code 267 = .ok (.ldc 161, 2) := by decide +kernel
theorem d9_269 : decode prog_15_method_20_code 269 = .ok (.invokestatic 138, 3) := by decide +kernel
theorem d9_272 : decode prog_15_method_20_code 272 = .ok (.aload_n 0, 1) := by decide +kernel
theorem d9_273 : decode prog_15_method_20_code 273 = .ok (.getfield 37, 3) := by decide +kernel
theorem d9_276 : decode prog_15_method_20_code 276 = .ok (.iload 4, 2) := by decide +kernel
theorem d9_278 : decode prog_15_method_20_code 278 = .ok (.iaload, 1) := by decide +kernel
theorem d9_279 : decode prog_15_method_20_code 279 = .ok (.iconst 1, 1) := by decide +kernel
theorem d9_280 : decode prog_15_method_20_code 280 = .ok (.if_icmp .lt 41, 3) := by decide +kernel
theorem d9_283 : decode prog_15_method_20_code 283 = .ok (.aload_n 0, 1) := by decide +kernel
theorem d9_284 : decode prog_15_method_20_code 284 = .ok (.getfield 37, 3) := by decide +kernel
theorem d9_287 : decode prog_15_method_20_code 287 = .ok (.iload 4, 2) := by decide +kernel
theorem d9_289 : decode prog_15_method_20_code 289 = .ok (.iaload, 1) := by decide +kernel
theorem d9_290 : decode prog_15_method_20_code 290 = .ok (.aload_n 0, 1) := by decide +kernel
theorem d9_291 : decode prog_15_method_20_code 291 = .ok (.getfield 17, 3) := by decide +kernel
theorem d9_294 : decode prog_15_method_20_code 294 = .ok (.arraylength, 1) := by decide +kernel
theorem d9_295 : decode prog_15_method_20_code 295 = .ok (.if_icmp .gt 26, 3) := by decide +kernel
theorem d9_298 : decode prog_15_method_20_code 298 = .ok (.aload_n 0, 1) := by decide +kernel
theorem d9_299 : decode prog_15_method_20_code 299 = .ok (.getfield 43, 3) := by decide +kernel
theorem d9_302 : decode prog_15_method_20_code 302 = .ok (.iload 4, 2) := by decide +kernel
theorem d9_304 : decode prog_15_method_20_code 304 = .ok (.laload, 1) := by decide +kernel
theorem d9_305 : decode prog_15_method_20_code 305 = .ok (.aload_n 0, 1) := by decide +kernel
theorem d9_306 : decode prog_15_method_20_code 306 = .ok (.getfield 37, 3) := by decide +kernel
theorem d9_309 : decode prog_15_method_20_code 309 = .ok (.iload 4, 2) := by decide +kernel
theorem d9_311 : decode prog_15_method_20_code 311 = .ok (.iaload, 1) := by decide +kernel
theorem d9_312 : decode prog_15_method_20_code 312 = .ok (.i2l, 1) := by decide +kernel
theorem d9_313 : decode prog_15_method_20_code 313 = .ok (.lcmp, 1) := by decide +kernel
theorem d9_314 : decode prog_15_method_20_code 314 = .ok (.ifCond .lt 7, 3) := by decide +kernel
theorem d9_317 : decode prog_15_method_20_code 317 = .ok (.iconst 1, 1) := by decide +kernel
theorem d9_318 : decode prog_15_method_20_code 318 = .ok (.goto 4, 3) := by decide +kernel
theorem d9_322 : decode prog_15_method_20_code 322 = .ok (.ldc 149, 2) := by decide +kernel
theorem d9_324 : decode prog_15_method_20_code 324 = .ok (.aload_n 0, 1) := by decide +kernel
theorem d9_325 : decode prog_15_method_20_code 325 = .ok (.getfield 33, 3) := by decide +kernel
theorem d9_328 : decode prog_15_method_20_code 328 = .ok (.iload 4, 2) := by decide +kernel
theorem d9_330 : decode prog_15_method_20_code 330 = .ok (.aaload, 1) := by decide +kernel
theorem d9_331 : decode prog_15_method_20_code 331 = .ok (.ldc 163, 2) := by decide +kernel
theorem d9_333 : decode prog_15_method_20_code 333 = .ok (.invokestatic 138, 3) := by decide +kernel
theorem d9_336 : decode prog_15_method_20_code 336 = .ok (.aload_n 0, 1) := by decide +kernel
theorem d9_337 : decode prog_15_method_20_code 337 = .ok (.iload 4, 2) := by decide +kernel
theorem d9_339 : decode prog_15_method_20_code 339 = .ok (.invokevirtual 165, 3) := by decide +kernel
theorem d9_342 : decode prog_15_method_20_code 342 = .ok (.lload_n 2, 1) := by decide +kernel
theorem d9_343 : decode prog_15_method_20_code 343 = .ok (.aload_n 0, 1) := by decide +kernel
theorem d9_344 : decode prog_15_method_20_code 344 = .ok (.getfield 43, 3) := by decide +kernel
theorem d9_347 : decode prog_15_method_20_code 347 = .ok (.iload 4, 2) := by decide +kernel
theorem d9_349 : decode prog_15_method_20_code 349 = .ok (.laload, 1) := by decide +kernel
theorem d9_350 : decode prog_15_method_20_code 350 = .ok (.ladd, 1) := by decide +kernel
theorem d9_351 : decode prog_15_method_20_code 351 = .ok (.lstore_n 2, 1) := by decide +kernel
theorem d9_352 : decode prog_15_method_20_code 352 = .ok (.iinc 4 1, 3) := by decide +kernel
theorem d9_355 : decode prog_15_method_20_code 355 = .ok (.goto (-259), 3) := by decide +kernel
theorem d9_358 : decode prog_15_method_20_code 358 = .ok (.lload_n 2, 1) := by decide +kernel
theorem d9_359 : decode prog_15_method_20_code 359 = .ok (.aload_n 0, 1) := by decide +kernel
theorem d9_360 : decode prog_15_method_20_code 360 = .ok (.getfield 27, 3) := by decide +kernel
theorem d9_363 : decode prog_15_method_20_code 363 = .ok (.lcmp, 1) := by decide +kernel
theorem d9_364 : decode prog_15_method_20_code 364 = .ok (.ifCond .ne 7, 3) := by decide +kernel
theorem d9_367 : decode prog_15_method_20_code 367 = .ok (.iconst 1, 1) := by decide +kernel
theorem d9_368 : decode prog_15_method_20_code 368 = .ok (.goto 4, 3) := by decide +kernel
theorem d9_372 : decode prog_15_method_20_code 372 = .ok (.ldc 169, 2) := by decide +kernel
theorem d9_374 : decode prog_15_method_20_code 374 = .ok (.invokestatic 120, 3) := by decide +kernel
theorem d9_377 : decode prog_15_method_20_code 377 = .ok (.return_, 1) := by decide +kernel
set_option maxRecDepth 65536 in
set_option maxHeartbeats 4000000 in
theorem c_cte (l : Launch) (Z : State) (a0 : Array Value) (hw : ∀ d ∈ tables_1, d.before a0 Z = true) (n0 : Nat) (μ : Mem) (a : Addr) (CA : Addr) (vs : List Value) (SH : Sta Z Z.heap "java/lang/Integer$IntegerCache" "high" "I" (.int 127)) (SC : Sta Z Z.heap "java/lang/Integer$IntegerCache" "cache" "[Ljava/lang/Integer;" (.ref CA)) (hvs : ∀ j, j < 256 → ∃ v, vs[j]? = some v ∧ v.isRef = true) (A1 A2 A4 A5 A6 A7 A8 A9 s0 s1 s2 s3 b0 b1 b2 b3 : Addr) (l0 l1 l2 : Int32) (tk : Int64) (h_A1 : μ A1 = some (.inr ((.object "java/lang/String"), [(.ref s0), (.ref s1), (.ref s2)]))) (h_A2 : μ A2 = some (.inr (.int, [(.int l0), (.int l1), (.int l2)]))) (h_A4 : μ A4 = some (.inr ((.object "java/lang/String"), [(.ref s3)]))) (h_A5 : μ A5 = some (.inr (.int, [(.int (1 : Int32))]))) (h_A6 : μ A6 = some (.inr (.long, [(.long tk)]))) (h_A7 : μ A7 = some (.inr (.int, [(.int (0 : Int32)), (.int (0 : Int32))]))) (h_A8 : μ A8 = some (.inr (.int, []))) (h_A9 : μ A9 = some (.inr (.int, []))) (h_s0 : μ s0 = some (o_Str (.ref b0))) (h_s1 : μ s1 = some (o_Str (.ref b1))) (h_s2 : μ s2 = some (o_Str (.ref b2))) (h_s3 : μ s3 = some (o_Str (.ref b3))) (h_b0 : μ b0 = some (.inr (.byte, [(.int (97 : Int32))]))) (h_b1 : μ b1 = some (.inr (.byte, [(.int (98 : Int32))]))) (h_b2 : μ b2 = some (.inr (.byte, [(.int (99 : Int32))]))) (h_b3 : μ b3 = some (.inr (.byte, [(.int (116 : Int32))]))) (h_CA : μ CA = some (.inr ((.object "java/lang/Integer"), vs))) (y0 : ¬ l0 < 0) (y1 : ¬ l1 < 0) (y2 : ¬ l2 < 0) (ys : 0 + l0.toInt64 + l1.toInt64 + l2.toInt64 = tk) (yt : ¬ tk < 1) (ha : μ a = some (o_Ix (.ref A1) (.ref A2) (.long tk) (.ref A4) (.ref A5) (.ref A6) (.ref A7) (.ref A8) (.ref A9))) :
    Con l Z n0 (⟨"com/example/thin_index/thinindex/Index", "checkTerms", "()V"⟩ : MethodName) prog_15_method_20_code 6 none [] rm_9 rm_9.cells rm_9.slots #[(.ref a)] μ (RV fun μ' => μ' = μ) := by
  refine Con.intro (L0 := #[.val (.ref a), .unset, .unset, .unset, .unset, .unset]) (plainFor_of_name (by first | (simp [plainName, overriddenIn]; done) | decide +kernel)) (fun m => by first | (simp [entryFrame, mkF, argsToLocals, Value.category]; done) | rfl) ?_
  intro p e s m below meth c C
  have C : Ctx p s m meth c Z "com/example/thin_index/thinindex/Index" "checkTerms" prog_15_method_20_code 6 none := C
  refine Own.aloadN C d9_0 (q := 1) rfl rfl rfl ?_
  refine Own.getfield C d9_1 (q := 4) rfl (host := "") (Or.inl (hw _ (List.mem_of_getElem? (i := 44) rfl))) Via.refl ha (j := 3) rfl ?_
  refine Own.arraylength C d9_4 (q := 5) rfl h_A4 fun z4 e4 e4i => ?_
  obtain rfl : z4 = (1 : Int32) := e4.trans (by rfl)
  refine Own.istoreN C d9_5 (q := 6) rfl (L' := #[.val (.ref a), .val (.int (1 : Int32)), .unset, .unset, .unset, .unset]) rfl ?_
  refine Own.aloadN C d9_6 (q := 7) rfl rfl rfl ?_
  refine Own.getfield C d9_7 (q := 10) rfl (host := "") (Or.inl (hw _ (List.mem_of_getElem? (i := 47) rfl))) Via.refl ha (j := 4) rfl ?_
  refine Own.arraylength C d9_10 (q := 11) rfl h_A5 fun z10 e10 e10i => ?_
  obtain rfl : z10 = (1 : Int32) := e10.trans (by rfl)
  refine Own.iloadN C d9_11 (q := 12) rfl rfl ?_
  refine Own.icmp_ne C d9_12 (q := 15) rfl (r := 28) (by decide) (fun h12 => ?_) (fun h12 => ?_)
  · exact absurd h12 (by decide)
  · refine Own.aloadN C d9_15 (q := 16) rfl rfl rfl ?_
    refine Own.getfield C d9_16 (q := 19) rfl (host := "") (Or.inl (hw _ (List.mem_of_getElem? (i := 52) rfl))) Via.refl ha (j := 5) rfl ?_
    refine Own.arraylength C d9_19 (q := 20) rfl h_A6 fun z19 e19 e19i => ?_
    obtain rfl : z19 = (1 : Int32) := e19.trans (by rfl)
    refine Own.iloadN C d9_20 (q := 21) rfl rfl ?_
    refine Own.icmp_ne C d9_21 (q := 24) rfl (r := 28) (by decide) (fun h21 => ?_) (fun h21 => ?_)
    · exact absurd h21 (by decide)
    · refine Own.iconst C d9_24 (q := 25) rfl (z := 1) (by decide) ?_
      refine Own.goto C d9_25 (q := 29) (by decide) ?_
      refine Own.ldcL C d9_29 (q := 31) rfl (hw _ (List.mem_of_getElem? (i := 95) rfl)) (strs hw) (N := 152) (by decide) (by decide) (by decide) (by decide) (fun s C PP t29 LI_t29 => ?_)
      refine Own.callS C d9_31 (q := 34) rfl (hw _ (List.mem_of_getElem? (i := 68) rfl)) (hw _ (List.mem_of_getElem? (i := 69) rfl)) (hw _ (List.mem_of_getElem? (i := 4) rfl)) (hw _ (List.mem_of_getElem? (i := 70) rfl)) (by decide) (W := 0) (rm := rm_5) (argsL := [(.int (1 : Int32)), (.ref t29)]) (st := []) (lenOf pd_1 rfl) rfl rfl (Nat.le_of_eq rfl) (by decide) (by decide) (by decide) (by decide) (c_chk l Z a0 hw n0 _ t29) (fun s C PP => nxV fun μ31 h31 => ?_)
      have LI_t29 := PP _ _ _ LI_t29
      refine Own.mem h31 ?_
      refine Own.aloadN C d9_34 (q := 35) rfl rfl rfl ?_
      refine Own.getfield C d9_35 (q := 38) rfl (host := "") (Or.inl (hw _ (List.mem_of_getElem? (i := 55) rfl))) Via.refl ha (j := 6) rfl ?_
      refine Own.arraylength C d9_38 (q := 39) rfl h_A7 fun z38 e38 e38i => ?_
      obtain rfl : z38 = (2 : Int32) := e38.trans (by rfl)
      refine Own.iloadN C d9_39 (q := 40) rfl rfl ?_
      refine Own.iconst C d9_40 (q := 41) rfl (z := 1) (by decide) ?_
      refine Own.iadd C d9_41 (q := 42) rfl fun z41 e41 => ?_
      obtain rfl : z41 = (2 : Int32) := e41.trans (by decide)
      refine Own.icmp_ne C d9_42 (q := 45) rfl (r := 85) (by decide) (fun h42 => ?_) (fun h42 => ?_)
      · exact absurd h42 (by decide)
      · refine Own.aloadN C d9_45 (q := 46) rfl rfl rfl ?_
        refine Own.getfield C d9_46 (q := 49) rfl (host := "") (Or.inl (hw _ (List.mem_of_getElem? (i := 55) rfl))) Via.refl ha (j := 6) rfl ?_
        refine Own.iconst C d9_49 (q := 50) rfl (z := 0) (by decide) ?_
        refine Own.iaload C d9_50 (q := 51) rfl h_A7 (by decide) (v := (.int (0 : Int32))) rfl ?_
        refine Own.if_ne C d9_51 (q := 54) rfl (r := 85) (by decide) (fun h51 => ?_) (fun h51 => ?_)
        · exact absurd h51 (by decide)
        · refine Own.aloadN C d9_54 (q := 55) rfl rfl rfl ?_
          refine Own.getfield C d9_55 (q := 58) rfl (host := "") (Or.inl (hw _ (List.mem_of_getElem? (i := 55) rfl))) Via.refl ha (j := 6) rfl ?_
          refine Own.iloadN C d9_58 (q := 59) rfl rfl ?_
          refine Own.iaload C d9_59 (q := 60) rfl h_A7 (by decide) (v := (.int (0 : Int32))) rfl ?_
          refine Own.aloadN C d9_60 (q := 61) rfl rfl rfl ?_
          refine Own.getfield C d9_61 (q := 64) rfl (host := "") (Or.inl (hw _ (List.mem_of_getElem? (i := 58) rfl))) Via.refl ha (j := 7) rfl ?_
          refine Own.arraylength C d9_64 (q := 65) rfl h_A8 fun z64 e64 e64i => ?_
          obtain rfl : z64 = (0 : Int32) := e64.trans (by rfl)
          refine Own.icmp_ne C d9_65 (q := 68) rfl (r := 85) (by decide) (fun h65 => ?_) (fun h65 => ?_)
          · exact absurd h65 (by decide)
          · refine Own.aloadN C d9_68 (q := 69) rfl rfl rfl ?_
            refine Own.getfield C d9_69 (q := 72) rfl (host := "") (Or.inl (hw _ (List.mem_of_getElem? (i := 61) rfl))) Via.refl ha (j := 8) rfl ?_
            refine Own.arraylength C d9_72 (q := 73) rfl h_A9 fun z72 e72 e72i => ?_
            obtain rfl : z72 = (0 : Int32) := e72.trans (by rfl)
            refine Own.aloadN C d9_73 (q := 74) rfl rfl rfl ?_
            refine Own.getfield C d9_74 (q := 77) rfl (host := "") (Or.inl (hw _ (List.mem_of_getElem? (i := 58) rfl))) Via.refl ha (j := 7) rfl ?_
            refine Own.arraylength C d9_77 (q := 78) rfl h_A8 fun z77 e77 e77i => ?_
            obtain rfl : z77 = (0 : Int32) := e77.trans (by rfl)
            refine Own.icmp_ne C d9_78 (q := 81) rfl (r := 85) (by decide) (fun h78 => ?_) (fun h78 => ?_)
            · exact absurd h78 (by decide)
            · refine Own.iconst C d9_81 (q := 82) rfl (z := 1) (by decide) ?_
              refine Own.goto C d9_82 (q := 86) (by decide) ?_
              refine Own.ldcL C d9_86 (q := 88) rfl (hw _ (List.mem_of_getElem? (i := 96) rfl)) (strs hw) (N := 124) (by decide) (by decide) (by decide) (by decide) (fun s C PP t86 LI_t86 => ?_)
              have LI_t29 := PP _ _ _ LI_t29
              refine Own.callS C d9_88 (q := 91) rfl (hw _ (List.mem_of_getElem? (i := 68) rfl)) (hw _ (List.mem_of_getElem? (i := 69) rfl)) (hw _ (List.mem_of_getElem? (i := 4) rfl)) (hw _ (List.mem_of_getElem? (i := 70) rfl)) (by decide) (W := 0) (rm := rm_5) (argsL := [(.int (1 : Int32)), (.ref t86)]) (st := []) (lenOf pd_1 rfl) rfl rfl (Nat.le_of_eq rfl) (by decide) (by decide) (by decide) (by decide) (c_chk l Z a0 hw n0 _ t86) (fun s C PP => nxV fun μ88 h88 => ?_)
              have LI_t29 := PP _ _ _ LI_t29
              have LI_t86 := PP _ _ _ LI_t86
              refine Own.mem h88 ?_
              refine Own.lconst C d9_91 (q := 92) rfl (z := 0) (by decide) ?_
              refine Own.lstoreN C d9_92 (q := 93) rfl (L' := #[.val (.ref a), .val (.int (1 : Int32)), .val (.long (0 : Int64)), .second, .unset, .unset]) rfl ?_
              refine Own.iconst C d9_93 (q := 94) rfl (z := 0) (by decide) ?_
              refine Own.istore C d9_94 (q := 96) rfl (L' := #[.val (.ref a), .val (.int (1 : Int32)), .val (.long (0 : Int64)), .second, .val (.int (0 : Int32)), .unset]) rfl ?_
              refine Own.iload C d9_96 (q := 98) rfl rfl ?_
              refine Own.iloadN C d9_98 (q := 99) rfl rfl ?_
              refine Own.icmp_ge C d9_99 (q := 102) rfl (r := 358) (by decide) (fun h99 => ?_) (fun h99 => ?_)
              · exact absurd h99 (by decide)
              · refine Own.aloadN C d9_102 (q := 103) rfl rfl rfl ?_
                refine Own.getfield C d9_103 (q := 106) rfl (host := "") (Or.inl (hw _ (List.mem_of_getElem? (i := 44) rfl))) Via.refl ha (j := 3) rfl ?_
                refine Own.iload C d9_106 (q := 108) rfl rfl ?_
                refine Own.aaload C d9_108 (q := 109) rfl h_A4 rfl (by decide) (v := (.ref s3)) rfl ?_
                refine Own.ifnullN C d9_109 (q := 112) rfl ?_
                refine Own.aloadN C d9_112 (q := 113) rfl rfl rfl ?_
                refine Own.getfield C d9_113 (q := 116) rfl (host := "") (Or.inl (hw _ (List.mem_of_getElem? (i := 44) rfl))) Via.refl ha (j := 3) rfl ?_
                refine Own.iload C d9_116 (q := 118) rfl rfl ?_
                refine Own.aaload C d9_118 (q := 119) rfl h_A4 rfl (by decide) (v := (.ref s3)) rfl ?_
                refine Own.callV C d9_119 (q := 122) rfl (hw _ (List.mem_of_getElem? (i := 71) rfl)) (hw _ (List.mem_of_getElem? (i := 72) rfl)) (notFace_of_selects (args := #[]) (mvT C.2.2.2.1 (hw _ (List.mem_of_getElem? (i := 74) rfl)))) (hw _ (List.mem_of_getElem? (i := 74) rfl)) (hw _ (List.mem_of_getElem? (i := 73) rfl)) (hw _ (List.mem_of_getElem? (i := 8) rfl)) (hw _ (List.mem_of_getElem? (i := 75) rfl)) (by decide) (W := 0) (rm := rm_6) (argsL := []) (st := []) (lenOf pd_2 rfl) rfl rfl (Nat.le_of_eq rfl) (by decide) (by decide) (by decide) (by decide) h_s3 (c_emp l Z a0 hw n0 _ s3 b3 (116 : Int32) h_s3 h_b3) (fun s C PP => nxI fun z119 μ119 h119 => ?_)
                have LI_t29 := PP _ _ _ LI_t29
                have LI_t86 := PP _ _ _ LI_t86
                obtain ⟨h119m, rfl⟩ := h119
                refine Own.mem h119m ?_
                refine Own.if_ne C d9_122 (q := 125) rfl (r := 129) (by decide) (fun h122 => ?_) (fun h122 => ?_)
                · exact absurd h122 (by decide)
                · refine Own.iconst C d9_125 (q := 126) rfl (z := 1) (by decide) ?_
                  refine Own.goto C d9_126 (q := 130) (by decide) ?_
                  refine Own.ldcL C d9_130 (q := 132) rfl (hw _ (List.mem_of_getElem? (i := 97) rfl)) (strs hw) (N := 16) (by decide) (by decide) (by decide) (by decide) (fun s C PP t130 LI_t130 => ?_)
                  have LI_t29 := PP _ _ _ LI_t29
                  have LI_t86 := PP _ _ _ LI_t86
                  refine Own.iload C d9_132 (q := 134) rfl rfl ?_
                  refine Own.callS C d9_134 (q := 137) rfl (hw _ (List.mem_of_getElem? (i := 78) rfl)) (hw _ (List.mem_of_getElem? (i := 79) rfl)) (hw _ (List.mem_of_getElem? (i := 80) rfl)) (hw _ (List.mem_of_getElem? (i := 81) rfl)) (by decide) (W := 2) (rm := rm_7) (argsL := [(.int (0 : Int32))]) (st := [(.ref t130), (.int (1 : Int32))]) (lenOf pd_3 rfl) rfl rfl (Nat.le_of_eq rfl) (by decide) (by decide) (by decide) (by decide) (c_vof l Z a0 hw n0 _ (0 : Int32) CA vs SH SC hvs h_CA (by decide)) (fun s C PP => nxR fun z134 μ134 z134_r h134 => ?_)
                  have LI_t29 := PP _ _ _ LI_t29
                  have LI_t86 := PP _ _ _ LI_t86
                  have LI_t130 := PP _ _ _ LI_t130
                  refine Own.mem h134 ?_
                  refine Own.ldcL C d9_137 (q := 139) rfl (hw _ (List.mem_of_getElem? (i := 98) rfl)) (strs hw) (N := 32) (by decide) (by decide) (by decide) (by decide) (fun s C PP t137 LI_t137 => ?_)
                  have LI_t29 := PP _ _ _ LI_t29
                  have LI_t86 := PP _ _ _ LI_t86
                  have LI_t130 := PP _ _ _ LI_t130
                  refine Own.callS C d9_139 (q := 142) rfl (hw _ (List.mem_of_getElem? (i := 86) rfl)) (hw _ (List.mem_of_getElem? (i := 87) rfl)) (hw _ (List.mem_of_getElem? (i := 4) rfl)) (hw _ (List.mem_of_getElem? (i := 88) rfl)) (by decide) (W := 0) (rm := rm_8) (argsL := [(.int (1 : Int32)), (.ref t130), z134, (.ref t137)]) (st := []) (lenOf pd_4 rfl) rfl rfl (Nat.le_of_eq rfl) (by decide) (by decide) (by decide) (by decide) (c_chk4 l Z a0 hw n0 _ t130 z134 t137 z134_r) (fun s C PP => nxV fun μ139 h139 => ?_)
                  have LI_t29 := PP _ _ _ LI_t29
                  have LI_t86 := PP _ _ _ LI_t86
                  have LI_t130 := PP _ _ _ LI_t130
                  have LI_t137 := PP _ _ _ LI_t137
                  refine Own.mem h139 ?_
                  refine Own.iload C d9_142 (q := 144) rfl rfl ?_
                  refine Own.if_eq C d9_144 (q := 147) rfl (r := 169) (by decide) (fun h144 => ?_) (fun h144 => ?_)
                  · refine Own.iconst C d9_169 (q := 170) rfl (z := 1) (by decide) ?_
                    refine Own.goto C d9_170 (q := 174) (by decide) ?_
                    refine Own.ldcA C d9_174 (q := 176) rfl (hw _ (List.mem_of_getElem? (i := 97) rfl)) LI_t130 ?_
                    refine Own.aloadN C d9_176 (q := 177) rfl rfl rfl ?_
                    refine Own.getfield C d9_177 (q := 180) rfl (host := "") (Or.inl (hw _ (List.mem_of_getElem? (i := 44) rfl))) Via.refl ha (j := 3) rfl ?_
                    refine Own.iload C d9_180 (q := 182) rfl rfl ?_
                    refine Own.aaload C d9_182 (q := 183) rfl h_A4 rfl (by decide) (v := (.ref s3)) rfl ?_
                    refine Own.ldcL C d9_183 (q := 185) rfl (hw _ (List.mem_of_getElem? (i := 99) rfl)) (strs hw) (N := 112) (by decide) (by decide) (by decide) (by decide) (fun s C PP t183 LI_t183 => ?_)
                    have LI_t29 := PP _ _ _ LI_t29
                    have LI_t86 := PP _ _ _ LI_t86
                    have LI_t130 := PP _ _ _ LI_t130
                    have LI_t137 := PP _ _ _ LI_t137
                    refine Own.callS C d9_185 (q := 188) rfl (hw _ (List.mem_of_getElem? (i := 86) rfl)) (hw _ (List.mem_of_getElem? (i := 87) rfl)) (hw _ (List.mem_of_getElem? (i := 4) rfl)) (hw _ (List.mem_of_getElem? (i := 88) rfl)) (by decide) (W := 0) (rm := rm_8) (argsL := [(.int (1 : Int32)), (.ref t130), (.ref s3), (.ref t183)]) (st := []) (lenOf pd_4 rfl) rfl rfl (Nat.le_of_eq rfl) (by decide) (by decide) (by decide) (by decide) (c_chk4 l Z a0 hw n0 _ t130 (.ref s3) t183 rfl) (fun s C PP => nxV fun μ185 h185 => ?_)
                    have LI_t29 := PP _ _ _ LI_t29
                    have LI_t86 := PP _ _ _ LI_t86
                    have LI_t130 := PP _ _ _ LI_t130
                    have LI_t137 := PP _ _ _ LI_t137
                    have LI_t183 := PP _ _ _ LI_t183
                    refine Own.mem h185 ?_
                    refine Own.aloadN C d9_188 (q := 189) rfl rfl rfl ?_
                    refine Own.iload C d9_189 (q := 191) rfl rfl ?_
                    refine Own.callV C d9_191 (q := 194) rfl (hw _ (List.mem_of_getElem? (i := 100) rfl)) (hw _ (List.mem_of_getElem? (i := 101) rfl)) (notFace_of_selects (args := #[]) (mvT C.2.2.2.1 (hw _ (List.mem_of_getElem? (i := 103) rfl)))) (hw _ (List.mem_of_getElem? (i := 103) rfl)) (hw _ (List.mem_of_getElem? (i := 102) rfl)) (hw _ (List.mem_of_getElem? (i := 4) rfl)) (hw _ (List.mem_of_getElem? (i := 104) rfl)) (by decide) (W := 0) (rm := rm_10) (argsL := [(.int (0 : Int32))]) (st := []) (lenOf pd_0 rfl) rfl rfl (Nat.le_of_eq rfl) (by decide) (by decide) (by decide) (by decide) ha (c_pen l Z a0 hw n0 _ a A1 A2 A4 A5 A6 A7 A8 A9 tk ha h_A7) (fun s C PP => nxI fun z191 μ191 h191 => ?_)
                    have LI_t29 := PP _ _ _ LI_t29
                    have LI_t86 := PP _ _ _ LI_t86
                    have LI_t130 := PP _ _ _ LI_t130
                    have LI_t137 := PP _ _ _ LI_t137
                    have LI_t183 := PP _ _ _ LI_t183
                    obtain ⟨h191m, rfl⟩ := h191
                    refine Own.mem h191m ?_
                    refine Own.aloadN C d9_194 (q := 195) rfl rfl rfl ?_
                    refine Own.iload C d9_195 (q := 197) rfl rfl ?_
                    refine Own.callV C d9_197 (q := 200) rfl (hw _ (List.mem_of_getElem? (i := 105) rfl)) (hw _ (List.mem_of_getElem? (i := 106) rfl)) (notFace_of_selects (args := #[]) (mvT C.2.2.2.1 (hw _ (List.mem_of_getElem? (i := 108) rfl)))) (hw _ (List.mem_of_getElem? (i := 108) rfl)) (hw _ (List.mem_of_getElem? (i := 107) rfl)) (hw _ (List.mem_of_getElem? (i := 4) rfl)) (hw _ (List.mem_of_getElem? (i := 109) rfl)) (by decide) (W := 1) (rm := rm_11) (argsL := [(.int (0 : Int32))]) (st := [(.int (0 : Int32))]) (lenOf pd_0 rfl) rfl rfl (Nat.le_of_eq rfl) (by decide) (by decide) (by decide) (by decide) ha (c_pst l Z a0 hw n0 _ a (0 : Int32) (0 : Int32) A1 A2 A4 A5 A6 A7 A8 A9 l0 l1 l2 tk ha h_A7 h_A2 (by decide) rfl) (fun s C PP => nxI fun z197 μ197 h197 => ?_)
                    have LI_t29 := PP _ _ _ LI_t29
                    have LI_t86 := PP _ _ _ LI_t86
                    have LI_t130 := PP _ _ _ LI_t130
                    have LI_t137 := PP _ _ _ LI_t137
                    have LI_t183 := PP _ _ _ LI_t183
                    obtain ⟨h197m, rfl⟩ := h197
                    refine Own.mem h197m ?_
                    refine Own.isub C d9_200 (q := 201) rfl fun z200 e200 => ?_
                    obtain rfl : z200 = (0 : Int32) := e200.trans (by decide)
                    refine Own.istore C d9_201 (q := 203) rfl (L' := #[.val (.ref a), .val (.int (1 : Int32)), .val (.long (0 : Int64)), .second, .val (.int (0 : Int32)), .val (.int (0 : Int32))]) rfl ?_
                    refine Own.iload C d9_203 (q := 205) rfl rfl ?_
                    refine Own.if_lt C d9_205 (q := 208) rfl (r := 226) (by decide) (fun h205 => ?_) (fun h205 => ?_)
                    · exact absurd h205 (by decide)
                    · refine Own.aloadN C d9_208 (q := 209) rfl rfl rfl ?_
                      refine Own.iload C d9_209 (q := 211) rfl rfl ?_
                      refine Own.callV C d9_211 (q := 214) rfl (hw _ (List.mem_of_getElem? (i := 100) rfl)) (hw _ (List.mem_of_getElem? (i := 101) rfl)) (notFace_of_selects (args := #[]) (mvT C.2.2.2.1 (hw _ (List.mem_of_getElem? (i := 103) rfl)))) (hw _ (List.mem_of_getElem? (i := 103) rfl)) (hw _ (List.mem_of_getElem? (i := 102) rfl)) (hw _ (List.mem_of_getElem? (i := 4) rfl)) (hw _ (List.mem_of_getElem? (i := 104) rfl)) (by decide) (W := 0) (rm := rm_10) (argsL := [(.int (0 : Int32))]) (st := []) (lenOf pd_0 rfl) rfl rfl (Nat.le_of_eq rfl) (by decide) (by decide) (by decide) (by decide) ha (c_pen l Z a0 hw n0 _ a A1 A2 A4 A5 A6 A7 A8 A9 tk ha h_A7) (fun s C PP => nxI fun z211 μ211 h211 => ?_)
                      have LI_t29 := PP _ _ _ LI_t29
                      have LI_t86 := PP _ _ _ LI_t86
                      have LI_t130 := PP _ _ _ LI_t130
                      have LI_t137 := PP _ _ _ LI_t137
                      have LI_t183 := PP _ _ _ LI_t183
                      obtain ⟨h211m, rfl⟩ := h211
                      refine Own.mem h211m ?_
                      refine Own.aloadN C d9_214 (q := 215) rfl rfl rfl ?_
                      refine Own.getfield C d9_215 (q := 218) rfl (host := "") (Or.inl (hw _ (List.mem_of_getElem? (i := 58) rfl))) Via.refl ha (j := 7) rfl ?_
                      refine Own.arraylength C d9_218 (q := 219) rfl h_A8 fun z218 e218 e218i => ?_
                      obtain rfl : z218 = (0 : Int32) := e218.trans (by rfl)
                      refine Own.icmp_gt C d9_219 (q := 222) rfl (r := 226) (by decide) (fun h219 => ?_) (fun h219 => ?_)
                      · exact absurd h219 (by decide)
                      · refine Own.iconst C d9_222 (q := 223) rfl (z := 1) (by decide) ?_
                        refine Own.goto C d9_223 (q := 227) (by decide) ?_
                        refine Own.ldcA C d9_227 (q := 229) rfl (hw _ (List.mem_of_getElem? (i := 97) rfl)) LI_t130 ?_
                        refine Own.aloadN C d9_229 (q := 230) rfl rfl rfl ?_
                        refine Own.getfield C d9_230 (q := 233) rfl (host := "") (Or.inl (hw _ (List.mem_of_getElem? (i := 44) rfl))) Via.refl ha (j := 3) rfl ?_
                        refine Own.iload C d9_233 (q := 235) rfl rfl ?_
                        refine Own.aaload C d9_235 (q := 236) rfl h_A4 rfl (by decide) (v := (.ref s3)) rfl ?_
                        refine Own.ldcL C d9_236 (q := 238) rfl (hw _ (List.mem_of_getElem? (i := 110) rfl)) (strs hw) (N := 116) (by decide) (by decide) (by decide) (by decide) (fun s C PP t236 LI_t236 => ?_)
                        have LI_t29 := PP _ _ _ LI_t29
                        have LI_t86 := PP _ _ _ LI_t86
                        have LI_t130 := PP _ _ _ LI_t130
                        have LI_t137 := PP _ _ _ LI_t137
                        have LI_t183 := PP _ _ _ LI_t183
                        refine Own.callS C d9_238 (q := 241) rfl (hw _ (List.mem_of_getElem? (i := 86) rfl)) (hw _ (List.mem_of_getElem? (i := 87) rfl)) (hw _ (List.mem_of_getElem? (i := 4) rfl)) (hw _ (List.mem_of_getElem? (i := 88) rfl)) (by decide) (W := 0) (rm := rm_8) (argsL := [(.int (1 : Int32)), (.ref t130), (.ref s3), (.ref t236)]) (st := []) (lenOf pd_4 rfl) rfl rfl (Nat.le_of_eq rfl) (by decide) (by decide) (by decide) (by decide) (c_chk4 l Z a0 hw n0 _ t130 (.ref s3) t236 rfl) (fun s C PP => nxV fun μ238 h238 => ?_)
                        have LI_t29 := PP _ _ _ LI_t29
                        have LI_t86 := PP _ _ _ LI_t86
                        have LI_t130 := PP _ _ _ LI_t130
                        have LI_t137 := PP _ _ _ LI_t137
                        have LI_t183 := PP _ _ _ LI_t183
                        have LI_t236 := PP _ _ _ LI_t236
                        refine Own.mem h238 ?_
                        refine Own.iload C d9_241 (q := 243) rfl rfl ?_
                        refine Own.aloadN C d9_243 (q := 244) rfl rfl rfl ?_
                        refine Own.getfield C d9_244 (q := 247) rfl (host := "") (Or.inl (hw _ (List.mem_of_getElem? (i := 47) rfl))) Via.refl ha (j := 4) rfl ?_
                        refine Own.iload C d9_247 (q := 249) rfl rfl ?_
                        refine Own.iaload C d9_249 (q := 250) rfl h_A5 (by decide) (v := (.int (1 : Int32))) rfl ?_
                        refine Own.icmp_gt C d9_250 (q := 253) rfl (r := 257) (by decide) (fun h250 => ?_) (fun h250 => ?_)
                        · exact absurd h250 (by decide)
                        · refine Own.iconst C d9_253 (q := 254) rfl (z := 1) (by decide) ?_
                          refine Own.goto C d9_254 (q := 258) (by decide) ?_
                          refine Own.ldcA C d9_258 (q := 260) rfl (hw _ (List.mem_of_getElem? (i := 97) rfl)) LI_t130 ?_
                          refine Own.aloadN C d9_260 (q := 261) rfl rfl rfl ?_
                          refine Own.getfield C d9_261 (q := 264) rfl (host := "") (Or.inl (hw _ (List.mem_of_getElem? (i := 44) rfl))) Via.refl ha (j := 3) rfl ?_
                          refine Own.iload C d9_264 (q := 266) rfl rfl ?_
                          refine Own.aaload C d9_266 (q := 267) rfl h_A4 rfl (by decide) (v := (.ref s3)) rfl ?_
                          refine Own.ldcL C d9_267 (q := 269) rfl (hw _ (List.mem_of_getElem? (i := 111) rfl)) (strs hw) (N := 180) (by decide) (by decide) (by decide) (by decide) (fun s C PP t267 LI_t267 => ?_)
                          have LI_t29 := PP _ _ _ LI_t29
                          have LI_t86 := PP _ _ _ LI_t86
                          have LI_t130 := PP _ _ _ LI_t130
                          have LI_t137 := PP _ _ _ LI_t137
                          have LI_t183 := PP _ _ _ LI_t183
                          have LI_t236 := PP _ _ _ LI_t236
                          refine Own.callS C d9_269 (q := 272) rfl (hw _ (List.mem_of_getElem? (i := 86) rfl)) (hw _ (List.mem_of_getElem? (i := 87) rfl)) (hw _ (List.mem_of_getElem? (i := 4) rfl)) (hw _ (List.mem_of_getElem? (i := 88) rfl)) (by decide) (W := 0) (rm := rm_8) (argsL := [(.int (1 : Int32)), (.ref t130), (.ref s3), (.ref t267)]) (st := []) (lenOf pd_4 rfl) rfl rfl (Nat.le_of_eq rfl) (by decide) (by decide) (by decide) (by decide) (c_chk4 l Z a0 hw n0 _ t130 (.ref s3) t267 rfl) (fun s C PP => nxV fun μ269 h269 => ?_)
                          have LI_t29 := PP _ _ _ LI_t29
                          have LI_t86 := PP _ _ _ LI_t86
                          have LI_t130 := PP _ _ _ LI_t130
                          have LI_t137 := PP _ _ _ LI_t137
                          have LI_t183 := PP _ _ _ LI_t183
                          have LI_t236 := PP _ _ _ LI_t236
                          have LI_t267 := PP _ _ _ LI_t267
                          refine Own.mem h269 ?_
                          refine Own.aloadN C d9_272 (q := 273) rfl rfl rfl ?_
                          refine Own.getfield C d9_273 (q := 276) rfl (host := "") (Or.inl (hw _ (List.mem_of_getElem? (i := 47) rfl))) Via.refl ha (j := 4) rfl ?_
                          refine Own.iload C d9_276 (q := 278) rfl rfl ?_
                          refine Own.iaload C d9_278 (q := 279) rfl h_A5 (by decide) (v := (.int (1 : Int32))) rfl ?_
                          refine Own.iconst C d9_279 (q := 280) rfl (z := 1) (by decide) ?_
                          refine Own.icmp_lt C d9_280 (q := 283) rfl (r := 321) (by decide) (fun h280 => ?_) (fun h280 => ?_)
                          · exact absurd h280 (by decide)
                          · refine Own.aloadN C d9_283 (q := 284) rfl rfl rfl ?_
                            refine Own.getfield C d9_284 (q := 287) rfl (host := "") (Or.inl (hw _ (List.mem_of_getElem? (i := 47) rfl))) Via.refl ha (j := 4) rfl ?_
                            refine Own.iload C d9_287 (q := 289) rfl rfl ?_
                            refine Own.iaload C d9_289 (q := 290) rfl h_A5 (by decide) (v := (.int (1 : Int32))) rfl ?_
                            refine Own.aloadN C d9_290 (q := 291) rfl rfl rfl ?_
                            refine Own.getfield C d9_291 (q := 294) rfl (host := "") (Or.inl (hw _ (List.mem_of_getElem? (i := 34) rfl))) Via.refl ha (j := 0) rfl ?_
                            refine Own.arraylength C d9_294 (q := 295) rfl h_A1 fun z294 e294 e294i => ?_
                            obtain rfl : z294 = (3 : Int32) := e294.trans (by rfl)
                            refine Own.icmp_gt C d9_295 (q := 298) rfl (r := 321) (by decide) (fun h295 => ?_) (fun h295 => ?_)
                            · exact absurd h295 (by decide)
                            · refine Own.aloadN C d9_298 (q := 299) rfl rfl rfl ?_
                              refine Own.getfield C d9_299 (q := 302) rfl (host := "") (Or.inl (hw _ (List.mem_of_getElem? (i := 52) rfl))) Via.refl ha (j := 5) rfl ?_
                              refine Own.iload C d9_302 (q := 304) rfl rfl ?_
                              refine Own.laload C d9_304 (q := 305) rfl h_A6 (by decide) (v := (.long tk)) rfl ?_
                              refine Own.aloadN C d9_305 (q := 306) rfl rfl rfl ?_
                              refine Own.getfield C d9_306 (q := 309) rfl (host := "") (Or.inl (hw _ (List.mem_of_getElem? (i := 47) rfl))) Via.refl ha (j := 4) rfl ?_
                              refine Own.iload C d9_309 (q := 311) rfl rfl ?_
                              refine Own.iaload C d9_311 (q := 312) rfl h_A5 (by decide) (v := (.int (1 : Int32))) rfl ?_
                              refine Own.i2l C d9_312 (q := 313) rfl fun z312 e312 => ?_
                              obtain rfl : z312 = (1 : Int64) := e312.trans (by decide)
                              refine Own.lcmp_lt C d9_313 (pc1 := 314) rfl d9_314 (q := 317) rfl (r := 321) (by decide) (fun h313 => ?_) (fun h313 => ?_)
                              · exact absurd h313 yt
                              · refine Own.iconst C d9_317 (q := 318) rfl (z := 1) (by decide) ?_
                                refine Own.goto C d9_318 (q := 322) (by decide) ?_
                                refine Own.ldcA C d9_322 (q := 324) rfl (hw _ (List.mem_of_getElem? (i := 97) rfl)) LI_t130 ?_
                                refine Own.aloadN C d9_324 (q := 325) rfl rfl rfl ?_
                                refine Own.getfield C d9_325 (q := 328) rfl (host := "") (Or.inl (hw _ (List.mem_of_getElem? (i := 44) rfl))) Via.refl ha (j := 3) rfl ?_
                                refine Own.iload C d9_328 (q := 330) rfl rfl ?_
                                refine Own.aaload C d9_330 (q := 331) rfl h_A4 rfl (by decide) (v := (.ref s3)) rfl ?_
                                refine Own.ldcL C d9_331 (q := 333) rfl (hw _ (List.mem_of_getElem? (i := 112) rfl)) (strs hw) (N := 104) (by decide) (by decide) (by decide) (by decide) (fun s C PP t331 LI_t331 => ?_)
                                have LI_t29 := PP _ _ _ LI_t29
                                have LI_t86 := PP _ _ _ LI_t86
                                have LI_t130 := PP _ _ _ LI_t130
                                have LI_t137 := PP _ _ _ LI_t137
                                have LI_t183 := PP _ _ _ LI_t183
                                have LI_t236 := PP _ _ _ LI_t236
                                have LI_t267 := PP _ _ _ LI_t267
                                refine Own.callS C d9_333 (q := 336) rfl (hw _ (List.mem_of_getElem? (i := 86) rfl)) (hw _ (List.mem_of_getElem? (i := 87) rfl)) (hw _ (List.mem_of_getElem? (i := 4) rfl)) (hw _ (List.mem_of_getElem? (i := 88) rfl)) (by decide) (W := 0) (rm := rm_8) (argsL := [(.int (1 : Int32)), (.ref t130), (.ref s3), (.ref t331)]) (st := []) (lenOf pd_4 rfl) rfl rfl (Nat.le_of_eq rfl) (by decide) (by decide) (by decide) (by decide) (c_chk4 l Z a0 hw n0 _ t130 (.ref s3) t331 rfl) (fun s C PP => nxV fun μ333 h333 => ?_)
                                have LI_t29 := PP _ _ _ LI_t29
                                have LI_t86 := PP _ _ _ LI_t86
                                have LI_t130 := PP _ _ _ LI_t130
                                have LI_t137 := PP _ _ _ LI_t137
                                have LI_t183 := PP _ _ _ LI_t183
                                have LI_t236 := PP _ _ _ LI_t236
                                have LI_t267 := PP _ _ _ LI_t267
                                have LI_t331 := PP _ _ _ LI_t331
                                refine Own.mem h333 ?_
                                refine Own.aloadN C d9_336 (q := 337) rfl rfl rfl ?_
                                refine Own.iload C d9_337 (q := 339) rfl rfl ?_
                                refine Own.callP C d9_339 (q := 342) rfl (hw _ (List.mem_of_getElem? (i := 113) rfl)) (hw _ (List.mem_of_getElem? (i := 115) rfl)) (hw _ (List.mem_of_getElem? (i := 3) rfl)) (hw _ (List.mem_of_getElem? (i := 114) rfl)) (hw _ (List.mem_of_getElem? (i := 4) rfl)) (hw _ (List.mem_of_getElem? (i := 116) rfl)) (by decide) (W := 0) (rm := rm_12) (argsL := [(.int (0 : Int32))]) (st := []) (lenOf pd_5 rfl) rfl rfl (Nat.le_of_eq rfl) (by decide) (by decide) (by decide) (by decide) ha (c_cpo l Z a0 hw n0 _ a CA vs SH SC hvs A1 A2 A4 A5 A6 A7 A8 A9 s0 s1 s2 s3 b0 b1 b2 b3 l0 l1 l2 tk h_A1 h_A2 h_A4 h_A5 h_A6 h_A7 h_A8 h_A9 h_s0 h_s1 h_s2 h_s3 h_b0 h_b1 h_b2 h_b3 h_CA y0 y1 y2 ys yt ha) (fun s C PP => nxV fun μ339 h339 => ?_)
                                have LI_t29 := PP _ _ _ LI_t29
                                have LI_t86 := PP _ _ _ LI_t86
                                have LI_t130 := PP _ _ _ LI_t130
                                have LI_t137 := PP _ _ _ LI_t137
                                have LI_t183 := PP _ _ _ LI_t183
                                have LI_t236 := PP _ _ _ LI_t236
                                have LI_t267 := PP _ _ _ LI_t267
                                have LI_t331 := PP _ _ _ LI_t331
                                refine Own.mem h339 ?_
                                refine Own.lloadN C d9_342 (q := 343) rfl rfl ?_
                                refine Own.aloadN C d9_343 (q := 344) rfl rfl rfl ?_
                                refine Own.getfield C d9_344 (q := 347) rfl (host := "") (Or.inl (hw _ (List.mem_of_getElem? (i := 52) rfl))) Via.refl ha (j := 5) rfl ?_
                                refine Own.iload C d9_347 (q := 349) rfl rfl ?_
                                refine Own.laload C d9_349 (q := 350) rfl h_A6 (by decide) (v := (.long tk)) rfl ?_
                                refine Own.ladd C d9_350 (q := 351) rfl fun z350 e350 => ?_
                                refine Own.lstoreN C d9_351 (q := 352) rfl (L' := #[.val (.ref a), .val (.int (1 : Int32)), .val (.long z350), .second, .val (.int (0 : Int32)), .val (.int (0 : Int32))]) rfl ?_
                                refine Own.iinc C d9_352 (q := 355) rfl rfl (z := (1 : Int32)) (by decide) (L' := #[.val (.ref a), .val (.int (1 : Int32)), .val (.long z350), .second, .val (.int (1 : Int32)), .val (.int (0 : Int32))]) rfl ?_
                                refine Own.goto C d9_355 (q := 96) (by decide) ?_
                                refine Own.iload C d9_96 (q := 98) rfl rfl ?_
                                refine Own.iloadN C d9_98 (q := 99) rfl rfl ?_
                                refine Own.icmp_ge C d9_99 (q := 102) rfl (r := 358) (by decide) (fun h99_1 => ?_) (fun h99_1 => ?_)
                                · refine Own.lloadN C d9_358 (q := 359) rfl rfl ?_
                                  refine Own.aloadN C d9_359 (q := 360) rfl rfl rfl ?_
                                  refine Own.getfield C d9_360 (q := 363) rfl (host := "") (Or.inl (hw _ (List.mem_of_getElem? (i := 41) rfl))) Via.refl ha (j := 2) rfl ?_
                                  refine Own.lcmp_ne C d9_363 (pc1 := 364) rfl d9_364 (q := 367) rfl (r := 371) (by decide) (fun h363 => ?_) (fun h363 => ?_)
                                  · exact absurd (by rw [e350]; exact Int64.zero_add _) h363
                                  · refine Own.iconst C d9_367 (q := 368) rfl (z := 1) (by decide) ?_
                                    refine Own.goto C d9_368 (q := 372) (by decide) ?_
                                    refine Own.ldcL C d9_372 (q := 374) rfl (hw _ (List.mem_of_getElem? (i := 117) rfl)) (strs hw) (N := 220) (by decide) (by decide) (by decide) (by decide) (fun s C PP t372 LI_t372 => ?_)
                                    have LI_t29 := PP _ _ _ LI_t29
                                    have LI_t86 := PP _ _ _ LI_t86
                                    have LI_t130 := PP _ _ _ LI_t130
                                    have LI_t137 := PP _ _ _ LI_t137
                                    have LI_t183 := PP _ _ _ LI_t183
                                    have LI_t236 := PP _ _ _ LI_t236
                                    have LI_t267 := PP _ _ _ LI_t267
                                    have LI_t331 := PP _ _ _ LI_t331
                                    refine Own.callS C d9_374 (q := 377) rfl (hw _ (List.mem_of_getElem? (i := 68) rfl)) (hw _ (List.mem_of_getElem? (i := 69) rfl)) (hw _ (List.mem_of_getElem? (i := 4) rfl)) (hw _ (List.mem_of_getElem? (i := 70) rfl)) (by decide) (W := 0) (rm := rm_5) (argsL := [(.int (1 : Int32)), (.ref t372)]) (st := []) (lenOf pd_1 rfl) rfl rfl (Nat.le_of_eq rfl) (by decide) (by decide) (by decide) (by decide) (c_chk l Z a0 hw n0 _ t372) (fun s C PP => nxV fun μ374 h374 => ?_)
                                    have LI_t29 := PP _ _ _ LI_t29
                                    have LI_t86 := PP _ _ _ LI_t86
                                    have LI_t130 := PP _ _ _ LI_t130
                                    have LI_t137 := PP _ _ _ LI_t137
                                    have LI_t183 := PP _ _ _ LI_t183
                                    have LI_t236 := PP _ _ _ LI_t236
                                    have LI_t267 := PP _ _ _ LI_t267
                                    have LI_t331 := PP _ _ _ LI_t331
                                    have LI_t372 := PP _ _ _ LI_t372
                                    refine Own.mem h374 ?_
                                    refine Own.vreturn C d9_377 (by decide) (by decide) ?_
                                    exact ⟨rfl, rfl⟩
                                · exact absurd h99_1 (by decide)
                  · exact absurd h144 (by decide)
theorem pd_6 : parseMethodDescriptor "(Ljava/lang/Object;Ljava/lang/String;)Ljava/lang/Object;" = some ⟨[(.object "java/lang/Object"), (.object "java/lang/String")], some (.object "java/lang/Object")⟩ := by decide +kernel
theorem pd_7 : parseMethodDescriptor "()V" = some ⟨[], none⟩ := by decide +kernel
abbrev rm_1 : Room := { frames := 3, cells := 44, slots := 2168, locals := 47 }
theorem d1_0 : decode prog_15_method_1_code 0 = .ok (.aload_n 0, 1) := by decide +kernel
theorem d1_1 : decode prog_15_method_1_code 1 = .ok (.invokespecial 1, 3) := by decide +kernel
theorem d1_4 : decode prog_15_method_1_code 4 = .ok (.aload_n 0, 1) := by decide +kernel
theorem d1_5 : decode prog_15_method_1_code 5 = .ok (.aload_n 1, 1) := by decide +kernel
theorem d1_6 : decode prog_15_method_1_code 6 = .ok (.ldc 7, 2) := by decide +kernel
theorem d1_8 : decode prog_15_method_1_code 8 = .ok (.invokestatic 9, 3) := by decide +kernel
theorem d1_11 : decode prog_15_method_1_code 11 = .ok (.checkcast 15, 3) := by decide +kernel
theorem d1_14 : decode prog_15_method_1_code 14 = .ok (.putfield 17, 3) := by decide +kernel
theorem d1_17 : decode prog_15_method_1_code 17 = .ok (.aload_n 0, 1) := by decide +kernel
theorem d1_18 : decode prog_15_method_1_code 18 = .ok (.aload_n 2, 1) := by decide +kernel
theorem d1_19 : decode prog_15_method_1_code 19 = .ok (.ldc 21, 2) := by decide +kernel
theorem d1_21 : decode prog_15_method_1_code 21 = .ok (.invokestatic 9, 3) := by decide +kernel
theorem d1_24 : decode prog_15_method_1_code 24 = .ok (.checkcast 23, 3) := by decide +kernel
theorem d1_27 : decode prog_15_method_1_code 27 = .ok (.putfield 25, 3) := by decide +kernel
theorem d1_30 : decode prog_15_method_1_code 30 = .ok (.aload_n 0, 1) := by decide +kernel
theorem d1_31 : decode prog_15_method_1_code 31 = .ok (.lload_n 3, 1) := by decide +kernel
theorem d1_32 : decode prog_15_method_1_code 32 = .ok (.putfield 27, 3) := by decide +kernel
theorem d1_35 : decode prog_15_method_1_code 35 = .ok (.aload_n 0, 1) := by decide +kernel
theorem d1_36 : decode prog_15_method_1_code 36 = .ok (.aload 5, 2) := by decide +kernel
theorem d1_38 : decode prog_15_method_1_code 38 = .ok (.ldc 31, 2) := by decide +kernel
theorem d1_40 : decode prog_15_method_1_code 40 = .ok (.invokestatic 9, 3) := by decide +kernel
theorem d1_43 : decode prog_15_method_1_code 43 = .ok (.checkcast 15, 3) := by decide +kernel
theorem d1_46 : decode prog_15_method_1_code 46 = .ok (.putfield 33, 3) := by decide +kernel
theorem d1_49 : decode prog_15_method_1_code 49 = .ok (.aload_n 0, 1) := by decide +kernel
theorem d1_50 : decode prog_15_method_1_code 50 = .ok (.aload 6, 2) := by decide +kernel
theorem d1_52 : decode prog_15_method_1_code 52 = .ok (.ldc 35, 2) := by decide +kernel
theorem d1_54 : decode prog_15_method_1_code 54 = .ok (.invokestatic 9, 3) := by decide +kernel
theorem d1_57 : decode prog_15_method_1_code 57 = .ok (.checkcast 23, 3) := by decide +kernel
theorem d1_60 : decode prog_15_method_1_code 60 = .ok (.putfield 37, 3) := by decide +kernel
theorem d1_63 : decode prog_15_method_1_code 63 = .ok (.aload_n 0, 1) := by decide +kernel
theorem d1_64 : decode prog_15_method_1_code 64 = .ok (.aload 7, 2) := by decide +kernel
theorem d1_66 : decode prog_15_method_1_code 66 = .ok (.ldc 39, 2) := by decide +kernel
theorem d1_68 : decode prog_15_method_1_code 68 = .ok (.invokestatic 9, 3) := by decide +kernel
theorem d1_71 : decode prog_15_method_1_code 71 = .ok (.checkcast 41, 3) := by decide +kernel
theorem d1_74 : decode prog_15_method_1_code 74 = .ok (.putfield 43, 3) := by decide +kernel
theorem d1_77 : decode prog_15_method_1_code 77 = .ok (.aload_n 0, 1) := by decide +kernel
theorem d1_78 : decode prog_15_method_1_code 78 = .ok (.aload 8, 2) := by decide +kernel
theorem d1_80 : decode prog_15_method_1_code 80 = .ok (.ldc 45, 2) := by decide +kernel
theorem d1_82 : decode prog_15_method_1_code 82 = .ok (.invokestatic 9, 3) := by decide +kernel
theorem d1_85 : decode prog_15_method_1_code 85 = .ok (.checkcast 23, 3) := by decide +kernel
theorem d1_88 : decode prog_15_method_1_code 88 = .ok (.putfield 47, 3) := by decide +kernel
theorem d1_91 : decode prog_15_method_1_code 91 = .ok (.aload_n 0, 1) := by decide +kernel
theorem d1_92 : decode prog_15_method_1_code 92 = .ok (.aload 9, 2) := by decide +kernel
theorem d1_94 : decode prog_15_method_1_code 94 = .ok (.ldc 49, 2) := by decide +kernel
theorem d1_96 : decode prog_15_method_1_code 96 = .ok (.invokestatic 9, 3) := by decide +kernel
theorem d1_99 : decode prog_15_method_1_code 99 = .ok (.checkcast 23, 3) := by decide +kernel
theorem d1_102 : decode prog_15_method_1_code 102 = .ok (.putfield 51, 3) := by decide +kernel
theorem d1_105 : decode prog_15_method_1_code 105 = .ok (.aload_n 0, 1) := by decide +kernel
theorem d1_106 : decode prog_15_method_1_code 106 = .ok (.aload 10, 2) := by decide +kernel
theorem d1_108 : decode prog_15_method_1_code 108 = .ok (.ldc 53, 2) := by decide +kernel
theorem d1_110 : decode prog_15_method_1_code 110 = .ok (.invokestatic 9, 3) := by decide +kernel
theorem d1_113 : decode prog_15_method_1_code 113 = .ok (.checkcast 23, 3) := by decide +kernel
theorem d1_116 : decode prog_15_method_1_code 116 = .ok (.putfield 55, 3) := by decide +kernel
theorem d1_119 : decode prog_15_method_1_code 119 = .ok (.aload_n 0, 1) := by decide +kernel
theorem d1_120 : decode prog_15_method_1_code 120 = .ok (.invokevirtual 57, 3) := by decide +kernel
theorem d1_123 : decode prog_15_method_1_code 123 = .ok (.aload_n 0, 1) := by decide +kernel
theorem d1_124 : decode prog_15_method_1_code 124 = .ok (.invokevirtual 60, 3) := by decide +kernel
theorem d1_127 : decode prog_15_method_1_code 127 = .ok (.return_, 1) := by decide +kernel
set_option maxRecDepth 65536 in
set_option maxHeartbeats 4000000 in
theorem c_ix (l : Launch) (Z : State) (a0 : Array Value) (hw : ∀ d ∈ tables_1, d.before a0 Z = true) (n0 : Nat) (μ : Mem) (a : Addr) (A1 : Addr) (A2 : Addr) (tk : Int64) (A4 : Addr) (A5 : Addr) (A6 : Addr) (A7 : Addr) (A8 : Addr) (A9 : Addr) (CA : Addr) (vs : List Value) (SH : Sta Z Z.heap "java/lang/Integer$IntegerCache" "high" "I" (.int 127)) (SC : Sta Z Z.heap "java/lang/Integer$IntegerCache" "cache" "[Ljava/lang/Integer;" (.ref CA)) (hvs : ∀ j, j < 256 → ∃ v, vs[j]? = some v ∧ v.isRef = true) (s0 s1 s2 s3 b0 b1 b2 b3 : Addr) (l0 l1 l2 : Int32) (h_A1 : μ A1 = some (.inr ((.object "java/lang/String"), [(.ref s0), (.ref s1), (.ref s2)]))) (h_A2 : μ A2 = some (.inr (.int, [(.int l0), (.int l1), (.int l2)]))) (h_A4 : μ A4 = some (.inr ((.object "java/lang/String"), [(.ref s3)]))) (h_A5 : μ A5 = some (.inr (.int, [(.int (1 : Int32))]))) (h_A6 : μ A6 = some (.inr (.long, [(.long tk)]))) (h_A7 : μ A7 = some (.inr (.int, [(.int (0 : Int32)), (.int (0 : Int32))]))) (h_A8 : μ A8 = some (.inr (.int, []))) (h_A9 : μ A9 = some (.inr (.int, []))) (h_s0 : μ s0 = some (o_Str (.ref b0))) (h_s1 : μ s1 = some (o_Str (.ref b1))) (h_s2 : μ s2 = some (o_Str (.ref b2))) (h_s3 : μ s3 = some (o_Str (.ref b3))) (h_b0 : μ b0 = some (.inr (.byte, [(.int (97 : Int32))]))) (h_b1 : μ b1 = some (.inr (.byte, [(.int (98 : Int32))]))) (h_b2 : μ b2 = some (.inr (.byte, [(.int (99 : Int32))]))) (h_b3 : μ b3 = some (.inr (.byte, [(.int (116 : Int32))]))) (h_CA : μ CA = some (.inr ((.object "java/lang/Integer"), vs))) (y0 : ¬ l0 < 0) (y1 : ¬ l1 < 0) (y2 : ¬ l2 < 0) (ys : 0 + l0.toInt64 + l1.toInt64 + l2.toInt64 = tk) (yt : ¬ tk < 1) (ha : μ a = some (o_Ix .null .null (.long (0 : Int64)) .null .null .null .null .null .null)) (ga : n0 ≤ a) (g_A1 : n0 ≤ A1) (g_A2 : n0 ≤ A2) (g_A4 : n0 ≤ A4) (g_A5 : n0 ≤ A5) (g_A6 : n0 ≤ A6) (g_A7 : n0 ≤ A7) (g_A8 : n0 ≤ A8) (g_A9 : n0 ≤ A9) :
    Con l Z n0 (⟨"com/example/thin_index/thinindex/Index", "<init>", "([Ljava/lang/String;[IJ[Ljava/lang/String;[I[J[I[I[I)V"⟩ : MethodName) prog_15_method_1_code 11 none [] rm_1 rm_1.cells rm_1.slots #[(.ref a), (.ref A1), (.ref A2), (.long tk), (.ref A4), (.ref A5), (.ref A6), (.ref A7), (.ref A8), (.ref A9)] μ (RV fun μ' => μ' = upd μ a (o_Ix (.ref A1) (.ref A2) (.long tk) (.ref A4) (.ref A5) (.ref A6) (.ref A7) (.ref A8) (.ref A9))) := by
  refine Con.intro (L0 := #[.val (.ref a), .val (.ref A1), .val (.ref A2), .val (.long tk), .second, .val (.ref A4), .val (.ref A5), .val (.ref A6), .val (.ref A7), .val (.ref A8), .val (.ref A9)]) (plainFor_of_name (by first | (simp [plainName, overriddenIn]; done) | decide +kernel)) (fun m => by first | (simp [entryFrame, mkF, argsToLocals, Value.category]; done) | rfl) ?_
  intro p e s m below meth c C
  have C : Ctx p s m meth c Z "com/example/thin_index/thinindex/Index" "<init>" prog_15_method_1_code 11 none := C
  refine Own.aloadN C d1_0 (q := 1) rfl rfl rfl ?_
  refine Own.initObj C d1_1 (q := 4) rfl (hw _ (List.mem_of_getElem? (i := 24) rfl)) (hw _ (List.mem_of_getElem? (i := 25) rfl)) (hw _ (List.mem_of_getElem? (i := 26) rfl)) rfl (by decide) (W := 0) (Nat.le_of_eq rfl) (by decide) ?_
  refine Own.aloadN C d1_4 (q := 5) rfl rfl rfl ?_
  refine Own.aloadN C d1_5 (q := 6) rfl rfl rfl ?_
  refine Own.ldcL C d1_6 (q := 8) rfl (hw _ (List.mem_of_getElem? (i := 27) rfl)) (strs hw) (N := 44) (by decide) (by decide) (by decide) (by decide) (fun s C PP t6 LI_t6 => ?_)
  refine Own.callS C d1_8 (q := 11) rfl (hw _ (List.mem_of_getElem? (i := 28) rfl)) (hw _ (List.mem_of_getElem? (i := 29) rfl)) (hw _ (List.mem_of_getElem? (i := 30) rfl)) (hw _ (List.mem_of_getElem? (i := 31) rfl)) (by decide) (W := 1) (rm := rm_3) (argsL := [(.ref A1), (.ref t6)]) (st := [(.ref a)]) (lenOf pd_6 rfl) rfl rfl (Nat.le_of_eq rfl) (by decide) (by decide) (by decide) (by decide) (c_rnn l Z a0 hw n0 _ A1 t6) (fun s C PP => nxR fun z8 μ8 z8_r h8 => ?_)
  have LI_t6 := PP _ _ _ LI_t6
  obtain ⟨h8m, rfl⟩ := h8
  refine Own.mem h8m ?_
  refine Own.castArr C d1_11 (q := 14) rfl (hw _ (List.mem_of_getElem? (i := 32) rfl)) h_A1 g_A1 (K := "[Ljava/lang/String;") rfl ?_
  refine Own.putfield C d1_14 (q := 17) rfl (host := "") (Or.inl (hw _ (List.mem_of_getElem? (i := 34) rfl))) Via.refl (Or.inr ⟨(hw _ (List.mem_of_getElem? (i := 35) rfl)), rfl, rfl⟩) (hw _ (List.mem_of_getElem? (i := 3) rfl)) (ty := (.array (.object "java/lang/String"))) (by decide) rfl rfl ha (j := 0) rfl (fs' := [(("com/example/thin_index/thinindex/Index", "documentIds", "[Ljava/lang/String;"), (.ref A1)), (("com/example/thin_index/thinindex/Index", "documentLengths", "[I"), .null), (("com/example/thin_index/thinindex/Index", "tokenCount", "J"), (.long (0 : Int64))), (("com/example/thin_index/thinindex/Index", "terms", "[Ljava/lang/String;"), .null), (("com/example/thin_index/thinindex/Index", "documentFrequencies", "[I"), .null), (("com/example/thin_index/thinindex/Index", "collectionFrequencies", "[J"), .null), (("com/example/thin_index/thinindex/Index", "postingsStart", "[I"), .null), (("com/example/thin_index/thinindex/Index", "postingDocuments", "[I"), .null), (("com/example/thin_index/thinindex/Index", "postingFrequencies", "[I"), .null)]) rfl ga (mem rfl ?_)
  refine Own.aloadN C d1_17 (q := 18) rfl rfl rfl ?_
  refine Own.aloadN C d1_18 (q := 19) rfl rfl rfl ?_
  refine Own.ldcL C d1_19 (q := 21) rfl (hw _ (List.mem_of_getElem? (i := 36) rfl)) (strs hw) (N := 60) (by decide) (by decide) (by decide) (by decide) (fun s C PP t19 LI_t19 => ?_)
  have LI_t6 := PP _ _ _ LI_t6
  refine Own.callS C d1_21 (q := 24) rfl (hw _ (List.mem_of_getElem? (i := 28) rfl)) (hw _ (List.mem_of_getElem? (i := 29) rfl)) (hw _ (List.mem_of_getElem? (i := 30) rfl)) (hw _ (List.mem_of_getElem? (i := 31) rfl)) (by decide) (W := 1) (rm := rm_3) (argsL := [(.ref A2), (.ref t19)]) (st := [(.ref a)]) (lenOf pd_6 rfl) rfl rfl (Nat.le_of_eq rfl) (by decide) (by decide) (by decide) (by decide) (c_rnn l Z a0 hw n0 _ A2 t19) (fun s C PP => nxR fun z21 μ21 z21_r h21 => ?_)
  have LI_t6 := PP _ _ _ LI_t6
  have LI_t19 := PP _ _ _ LI_t19
  obtain ⟨h21m, rfl⟩ := h21
  refine Own.mem h21m ?_
  refine Own.castArr C d1_24 (q := 27) rfl (hw _ (List.mem_of_getElem? (i := 37) rfl)) (upd_at (ne_ra h_A2 ha) h_A2) g_A2 (K := "[I") rfl ?_
  refine Own.putfield C d1_27 (q := 30) rfl (host := "") (Or.inl (hw _ (List.mem_of_getElem? (i := 39) rfl))) Via.refl (Or.inr ⟨(hw _ (List.mem_of_getElem? (i := 40) rfl)), rfl, rfl⟩) (hw _ (List.mem_of_getElem? (i := 3) rfl)) (ty := (.array .int)) (by decide) rfl rfl upd_same (j := 1) rfl (fs' := [(("com/example/thin_index/thinindex/Index", "documentIds", "[Ljava/lang/String;"), (.ref A1)), (("com/example/thin_index/thinindex/Index", "documentLengths", "[I"), (.ref A2)), (("com/example/thin_index/thinindex/Index", "tokenCount", "J"), (.long (0 : Int64))), (("com/example/thin_index/thinindex/Index", "terms", "[Ljava/lang/String;"), .null), (("com/example/thin_index/thinindex/Index", "documentFrequencies", "[I"), .null), (("com/example/thin_index/thinindex/Index", "collectionFrequencies", "[J"), .null), (("com/example/thin_index/thinindex/Index", "postingsStart", "[I"), .null), (("com/example/thin_index/thinindex/Index", "postingDocuments", "[I"), .null), (("com/example/thin_index/thinindex/Index", "postingFrequencies", "[I"), .null)]) rfl ga (mem upd_upd ?_)
  refine Own.aloadN C d1_30 (q := 31) rfl rfl rfl ?_
  refine Own.lloadN C d1_31 (q := 32) rfl rfl ?_
  refine Own.putfield C d1_32 (q := 35) rfl (host := "") (Or.inl (hw _ (List.mem_of_getElem? (i := 41) rfl))) Via.refl (Or.inr ⟨(hw _ (List.mem_of_getElem? (i := 42) rfl)), rfl, rfl⟩) (hw _ (List.mem_of_getElem? (i := 3) rfl)) (ty := .long) (by decide) rfl rfl upd_same (j := 2) rfl (fs' := [(("com/example/thin_index/thinindex/Index", "documentIds", "[Ljava/lang/String;"), (.ref A1)), (("com/example/thin_index/thinindex/Index", "documentLengths", "[I"), (.ref A2)), (("com/example/thin_index/thinindex/Index", "tokenCount", "J"), (.long tk)), (("com/example/thin_index/thinindex/Index", "terms", "[Ljava/lang/String;"), .null), (("com/example/thin_index/thinindex/Index", "documentFrequencies", "[I"), .null), (("com/example/thin_index/thinindex/Index", "collectionFrequencies", "[J"), .null), (("com/example/thin_index/thinindex/Index", "postingsStart", "[I"), .null), (("com/example/thin_index/thinindex/Index", "postingDocuments", "[I"), .null), (("com/example/thin_index/thinindex/Index", "postingFrequencies", "[I"), .null)]) rfl ga (mem upd_upd ?_)
  refine Own.aloadN C d1_35 (q := 36) rfl rfl rfl ?_
  refine Own.aload C d1_36 (q := 38) rfl rfl rfl ?_
  refine Own.ldcL C d1_38 (q := 40) rfl (hw _ (List.mem_of_getElem? (i := 43) rfl)) (strs hw) (N := 20) (by decide) (by decide) (by decide) (by decide) (fun s C PP t38 LI_t38 => ?_)
  have LI_t6 := PP _ _ _ LI_t6
  have LI_t19 := PP _ _ _ LI_t19
  refine Own.callS C d1_40 (q := 43) rfl (hw _ (List.mem_of_getElem? (i := 28) rfl)) (hw _ (List.mem_of_getElem? (i := 29) rfl)) (hw _ (List.mem_of_getElem? (i := 30) rfl)) (hw _ (List.mem_of_getElem? (i := 31) rfl)) (by decide) (W := 1) (rm := rm_3) (argsL := [(.ref A4), (.ref t38)]) (st := [(.ref a)]) (lenOf pd_6 rfl) rfl rfl (Nat.le_of_eq rfl) (by decide) (by decide) (by decide) (by decide) (c_rnn l Z a0 hw n0 _ A4 t38) (fun s C PP => nxR fun z40 μ40 z40_r h40 => ?_)
  have LI_t6 := PP _ _ _ LI_t6
  have LI_t19 := PP _ _ _ LI_t19
  have LI_t38 := PP _ _ _ LI_t38
  obtain ⟨h40m, rfl⟩ := h40
  refine Own.mem h40m ?_
  refine Own.castArr C d1_43 (q := 46) rfl (hw _ (List.mem_of_getElem? (i := 32) rfl)) (upd_at (ne_ra h_A4 ha) h_A4) g_A4 (K := "[Ljava/lang/String;") rfl ?_
  refine Own.putfield C d1_46 (q := 49) rfl (host := "") (Or.inl (hw _ (List.mem_of_getElem? (i := 44) rfl))) Via.refl (Or.inr ⟨(hw _ (List.mem_of_getElem? (i := 45) rfl)), rfl, rfl⟩) (hw _ (List.mem_of_getElem? (i := 3) rfl)) (ty := (.array (.object "java/lang/String"))) (by decide) rfl rfl upd_same (j := 3) rfl (fs' := [(("com/example/thin_index/thinindex/Index", "documentIds", "[Ljava/lang/String;"), (.ref A1)), (("com/example/thin_index/thinindex/Index", "documentLengths", "[I"), (.ref A2)), (("com/example/thin_index/thinindex/Index", "tokenCount", "J"), (.long tk)), (("com/example/thin_index/thinindex/Index", "terms", "[Ljava/lang/String;"), (.ref A4)), (("com/example/thin_index/thinindex/Index", "documentFrequencies", "[I"), .null), (("com/example/thin_index/thinindex/Index", "collectionFrequencies", "[J"), .null), (("com/example/thin_index/thinindex/Index", "postingsStart", "[I"), .null), (("com/example/thin_index/thinindex/Index", "postingDocuments", "[I"), .null), (("com/example/thin_index/thinindex/Index", "postingFrequencies", "[I"), .null)]) rfl ga (mem upd_upd ?_)
  refine Own.aloadN C d1_49 (q := 50) rfl rfl rfl ?_
  refine Own.aload C d1_50 (q := 52) rfl rfl rfl ?_
  refine Own.ldcL C d1_52 (q := 54) rfl (hw _ (List.mem_of_getElem? (i := 46) rfl)) (strs hw) (N := 76) (by decide) (by decide) (by decide) (by decide) (fun s C PP t52 LI_t52 => ?_)
  have LI_t6 := PP _ _ _ LI_t6
  have LI_t19 := PP _ _ _ LI_t19
  have LI_t38 := PP _ _ _ LI_t38
  refine Own.callS C d1_54 (q := 57) rfl (hw _ (List.mem_of_getElem? (i := 28) rfl)) (hw _ (List.mem_of_getElem? (i := 29) rfl)) (hw _ (List.mem_of_getElem? (i := 30) rfl)) (hw _ (List.mem_of_getElem? (i := 31) rfl)) (by decide) (W := 1) (rm := rm_3) (argsL := [(.ref A5), (.ref t52)]) (st := [(.ref a)]) (lenOf pd_6 rfl) rfl rfl (Nat.le_of_eq rfl) (by decide) (by decide) (by decide) (by decide) (c_rnn l Z a0 hw n0 _ A5 t52) (fun s C PP => nxR fun z54 μ54 z54_r h54 => ?_)
  have LI_t6 := PP _ _ _ LI_t6
  have LI_t19 := PP _ _ _ LI_t19
  have LI_t38 := PP _ _ _ LI_t38
  have LI_t52 := PP _ _ _ LI_t52
  obtain ⟨h54m, rfl⟩ := h54
  refine Own.mem h54m ?_
  refine Own.castArr C d1_57 (q := 60) rfl (hw _ (List.mem_of_getElem? (i := 37) rfl)) (upd_at (ne_ra h_A5 ha) h_A5) g_A5 (K := "[I") rfl ?_
  refine Own.putfield C d1_60 (q := 63) rfl (host := "") (Or.inl (hw _ (List.mem_of_getElem? (i := 47) rfl))) Via.refl (Or.inr ⟨(hw _ (List.mem_of_getElem? (i := 48) rfl)), rfl, rfl⟩) (hw _ (List.mem_of_getElem? (i := 3) rfl)) (ty := (.array .int)) (by decide) rfl rfl upd_same (j := 4) rfl (fs' := [(("com/example/thin_index/thinindex/Index", "documentIds", "[Ljava/lang/String;"), (.ref A1)), (("com/example/thin_index/thinindex/Index", "documentLengths", "[I"), (.ref A2)), (("com/example/thin_index/thinindex/Index", "tokenCount", "J"), (.long tk)), (("com/example/thin_index/thinindex/Index", "terms", "[Ljava/lang/String;"), (.ref A4)), (("com/example/thin_index/thinindex/Index", "documentFrequencies", "[I"), (.ref A5)), (("com/example/thin_index/thinindex/Index", "collectionFrequencies", "[J"), .null), (("com/example/thin_index/thinindex/Index", "postingsStart", "[I"), .null), (("com/example/thin_index/thinindex/Index", "postingDocuments", "[I"), .null), (("com/example/thin_index/thinindex/Index", "postingFrequencies", "[I"), .null)]) rfl ga (mem upd_upd ?_)
  refine Own.aloadN C d1_63 (q := 64) rfl rfl rfl ?_
  refine Own.aload C d1_64 (q := 66) rfl rfl rfl ?_
  refine Own.ldcL C d1_66 (q := 68) rfl (hw _ (List.mem_of_getElem? (i := 49) rfl)) (strs hw) (N := 84) (by decide) (by decide) (by decide) (by decide) (fun s C PP t66 LI_t66 => ?_)
  have LI_t6 := PP _ _ _ LI_t6
  have LI_t19 := PP _ _ _ LI_t19
  have LI_t38 := PP _ _ _ LI_t38
  have LI_t52 := PP _ _ _ LI_t52
  refine Own.callS C d1_68 (q := 71) rfl (hw _ (List.mem_of_getElem? (i := 28) rfl)) (hw _ (List.mem_of_getElem? (i := 29) rfl)) (hw _ (List.mem_of_getElem? (i := 30) rfl)) (hw _ (List.mem_of_getElem? (i := 31) rfl)) (by decide) (W := 1) (rm := rm_3) (argsL := [(.ref A6), (.ref t66)]) (st := [(.ref a)]) (lenOf pd_6 rfl) rfl rfl (Nat.le_of_eq rfl) (by decide) (by decide) (by decide) (by decide) (c_rnn l Z a0 hw n0 _ A6 t66) (fun s C PP => nxR fun z68 μ68 z68_r h68 => ?_)
  have LI_t6 := PP _ _ _ LI_t6
  have LI_t19 := PP _ _ _ LI_t19
  have LI_t38 := PP _ _ _ LI_t38
  have LI_t52 := PP _ _ _ LI_t52
  have LI_t66 := PP _ _ _ LI_t66
  obtain ⟨h68m, rfl⟩ := h68
  refine Own.mem h68m ?_
  refine Own.castArr C d1_71 (q := 74) rfl (hw _ (List.mem_of_getElem? (i := 50) rfl)) (upd_at (ne_ra h_A6 ha) h_A6) g_A6 (K := "[J") rfl ?_
  refine Own.putfield C d1_74 (q := 77) rfl (host := "") (Or.inl (hw _ (List.mem_of_getElem? (i := 52) rfl))) Via.refl (Or.inr ⟨(hw _ (List.mem_of_getElem? (i := 53) rfl)), rfl, rfl⟩) (hw _ (List.mem_of_getElem? (i := 3) rfl)) (ty := (.array .long)) (by decide) rfl rfl upd_same (j := 5) rfl (fs' := [(("com/example/thin_index/thinindex/Index", "documentIds", "[Ljava/lang/String;"), (.ref A1)), (("com/example/thin_index/thinindex/Index", "documentLengths", "[I"), (.ref A2)), (("com/example/thin_index/thinindex/Index", "tokenCount", "J"), (.long tk)), (("com/example/thin_index/thinindex/Index", "terms", "[Ljava/lang/String;"), (.ref A4)), (("com/example/thin_index/thinindex/Index", "documentFrequencies", "[I"), (.ref A5)), (("com/example/thin_index/thinindex/Index", "collectionFrequencies", "[J"), (.ref A6)), (("com/example/thin_index/thinindex/Index", "postingsStart", "[I"), .null), (("com/example/thin_index/thinindex/Index", "postingDocuments", "[I"), .null), (("com/example/thin_index/thinindex/Index", "postingFrequencies", "[I"), .null)]) rfl ga (mem upd_upd ?_)
  refine Own.aloadN C d1_77 (q := 78) rfl rfl rfl ?_
  refine Own.aload C d1_78 (q := 80) rfl rfl rfl ?_
  refine Own.ldcL C d1_80 (q := 82) rfl (hw _ (List.mem_of_getElem? (i := 54) rfl)) (strs hw) (N := 52) (by decide) (by decide) (by decide) (by decide) (fun s C PP t80 LI_t80 => ?_)
  have LI_t6 := PP _ _ _ LI_t6
  have LI_t19 := PP _ _ _ LI_t19
  have LI_t38 := PP _ _ _ LI_t38
  have LI_t52 := PP _ _ _ LI_t52
  have LI_t66 := PP _ _ _ LI_t66
  refine Own.callS C d1_82 (q := 85) rfl (hw _ (List.mem_of_getElem? (i := 28) rfl)) (hw _ (List.mem_of_getElem? (i := 29) rfl)) (hw _ (List.mem_of_getElem? (i := 30) rfl)) (hw _ (List.mem_of_getElem? (i := 31) rfl)) (by decide) (W := 1) (rm := rm_3) (argsL := [(.ref A7), (.ref t80)]) (st := [(.ref a)]) (lenOf pd_6 rfl) rfl rfl (Nat.le_of_eq rfl) (by decide) (by decide) (by decide) (by decide) (c_rnn l Z a0 hw n0 _ A7 t80) (fun s C PP => nxR fun z82 μ82 z82_r h82 => ?_)
  have LI_t6 := PP _ _ _ LI_t6
  have LI_t19 := PP _ _ _ LI_t19
  have LI_t38 := PP _ _ _ LI_t38
  have LI_t52 := PP _ _ _ LI_t52
  have LI_t66 := PP _ _ _ LI_t66
  have LI_t80 := PP _ _ _ LI_t80
  obtain ⟨h82m, rfl⟩ := h82
  refine Own.mem h82m ?_
  refine Own.castArr C d1_85 (q := 88) rfl (hw _ (List.mem_of_getElem? (i := 37) rfl)) (upd_at (ne_ra h_A7 ha) h_A7) g_A7 (K := "[I") rfl ?_
  refine Own.putfield C d1_88 (q := 91) rfl (host := "") (Or.inl (hw _ (List.mem_of_getElem? (i := 55) rfl))) Via.refl (Or.inr ⟨(hw _ (List.mem_of_getElem? (i := 56) rfl)), rfl, rfl⟩) (hw _ (List.mem_of_getElem? (i := 3) rfl)) (ty := (.array .int)) (by decide) rfl rfl upd_same (j := 6) rfl (fs' := [(("com/example/thin_index/thinindex/Index", "documentIds", "[Ljava/lang/String;"), (.ref A1)), (("com/example/thin_index/thinindex/Index", "documentLengths", "[I"), (.ref A2)), (("com/example/thin_index/thinindex/Index", "tokenCount", "J"), (.long tk)), (("com/example/thin_index/thinindex/Index", "terms", "[Ljava/lang/String;"), (.ref A4)), (("com/example/thin_index/thinindex/Index", "documentFrequencies", "[I"), (.ref A5)), (("com/example/thin_index/thinindex/Index", "collectionFrequencies", "[J"), (.ref A6)), (("com/example/thin_index/thinindex/Index", "postingsStart", "[I"), (.ref A7)), (("com/example/thin_index/thinindex/Index", "postingDocuments", "[I"), .null), (("com/example/thin_index/thinindex/Index", "postingFrequencies", "[I"), .null)]) rfl ga (mem upd_upd ?_)
  refine Own.aloadN C d1_91 (q := 92) rfl rfl rfl ?_
  refine Own.aload C d1_92 (q := 94) rfl rfl rfl ?_
  refine Own.ldcL C d1_94 (q := 96) rfl (hw _ (List.mem_of_getElem? (i := 57) rfl)) (strs hw) (N := 64) (by decide) (by decide) (by decide) (by decide) (fun s C PP t94 LI_t94 => ?_)
  have LI_t6 := PP _ _ _ LI_t6
  have LI_t19 := PP _ _ _ LI_t19
  have LI_t38 := PP _ _ _ LI_t38
  have LI_t52 := PP _ _ _ LI_t52
  have LI_t66 := PP _ _ _ LI_t66
  have LI_t80 := PP _ _ _ LI_t80
  refine Own.callS C d1_96 (q := 99) rfl (hw _ (List.mem_of_getElem? (i := 28) rfl)) (hw _ (List.mem_of_getElem? (i := 29) rfl)) (hw _ (List.mem_of_getElem? (i := 30) rfl)) (hw _ (List.mem_of_getElem? (i := 31) rfl)) (by decide) (W := 1) (rm := rm_3) (argsL := [(.ref A8), (.ref t94)]) (st := [(.ref a)]) (lenOf pd_6 rfl) rfl rfl (Nat.le_of_eq rfl) (by decide) (by decide) (by decide) (by decide) (c_rnn l Z a0 hw n0 _ A8 t94) (fun s C PP => nxR fun z96 μ96 z96_r h96 => ?_)
  have LI_t6 := PP _ _ _ LI_t6
  have LI_t19 := PP _ _ _ LI_t19
  have LI_t38 := PP _ _ _ LI_t38
  have LI_t52 := PP _ _ _ LI_t52
  have LI_t66 := PP _ _ _ LI_t66
  have LI_t80 := PP _ _ _ LI_t80
  have LI_t94 := PP _ _ _ LI_t94
  obtain ⟨h96m, rfl⟩ := h96
  refine Own.mem h96m ?_
  refine Own.castArr C d1_99 (q := 102) rfl (hw _ (List.mem_of_getElem? (i := 37) rfl)) (upd_at (ne_ra h_A8 ha) h_A8) g_A8 (K := "[I") rfl ?_
  refine Own.putfield C d1_102 (q := 105) rfl (host := "") (Or.inl (hw _ (List.mem_of_getElem? (i := 58) rfl))) Via.refl (Or.inr ⟨(hw _ (List.mem_of_getElem? (i := 59) rfl)), rfl, rfl⟩) (hw _ (List.mem_of_getElem? (i := 3) rfl)) (ty := (.array .int)) (by decide) rfl rfl upd_same (j := 7) rfl (fs' := [(("com/example/thin_index/thinindex/Index", "documentIds", "[Ljava/lang/String;"), (.ref A1)), (("com/example/thin_index/thinindex/Index", "documentLengths", "[I"), (.ref A2)), (("com/example/thin_index/thinindex/Index", "tokenCount", "J"), (.long tk)), (("com/example/thin_index/thinindex/Index", "terms", "[Ljava/lang/String;"), (.ref A4)), (("com/example/thin_index/thinindex/Index", "documentFrequencies", "[I"), (.ref A5)), (("com/example/thin_index/thinindex/Index", "collectionFrequencies", "[J"), (.ref A6)), (("com/example/thin_index/thinindex/Index", "postingsStart", "[I"), (.ref A7)), (("com/example/thin_index/thinindex/Index", "postingDocuments", "[I"), (.ref A8)), (("com/example/thin_index/thinindex/Index", "postingFrequencies", "[I"), .null)]) rfl ga (mem upd_upd ?_)
  refine Own.aloadN C d1_105 (q := 106) rfl rfl rfl ?_
  refine Own.aload C d1_106 (q := 108) rfl rfl rfl ?_
  refine Own.ldcL C d1_108 (q := 110) rfl (hw _ (List.mem_of_getElem? (i := 60) rfl)) (strs hw) (N := 72) (by decide) (by decide) (by decide) (by decide) (fun s C PP t108 LI_t108 => ?_)
  have LI_t6 := PP _ _ _ LI_t6
  have LI_t19 := PP _ _ _ LI_t19
  have LI_t38 := PP _ _ _ LI_t38
  have LI_t52 := PP _ _ _ LI_t52
  have LI_t66 := PP _ _ _ LI_t66
  have LI_t80 := PP _ _ _ LI_t80
  have LI_t94 := PP _ _ _ LI_t94
  refine Own.callS C d1_110 (q := 113) rfl (hw _ (List.mem_of_getElem? (i := 28) rfl)) (hw _ (List.mem_of_getElem? (i := 29) rfl)) (hw _ (List.mem_of_getElem? (i := 30) rfl)) (hw _ (List.mem_of_getElem? (i := 31) rfl)) (by decide) (W := 1) (rm := rm_3) (argsL := [(.ref A9), (.ref t108)]) (st := [(.ref a)]) (lenOf pd_6 rfl) rfl rfl (Nat.le_of_eq rfl) (by decide) (by decide) (by decide) (by decide) (c_rnn l Z a0 hw n0 _ A9 t108) (fun s C PP => nxR fun z110 μ110 z110_r h110 => ?_)
  have LI_t6 := PP _ _ _ LI_t6
  have LI_t19 := PP _ _ _ LI_t19
  have LI_t38 := PP _ _ _ LI_t38
  have LI_t52 := PP _ _ _ LI_t52
  have LI_t66 := PP _ _ _ LI_t66
  have LI_t80 := PP _ _ _ LI_t80
  have LI_t94 := PP _ _ _ LI_t94
  have LI_t108 := PP _ _ _ LI_t108
  obtain ⟨h110m, rfl⟩ := h110
  refine Own.mem h110m ?_
  refine Own.castArr C d1_113 (q := 116) rfl (hw _ (List.mem_of_getElem? (i := 37) rfl)) (upd_at (ne_ra h_A9 ha) h_A9) g_A9 (K := "[I") rfl ?_
  refine Own.putfield C d1_116 (q := 119) rfl (host := "") (Or.inl (hw _ (List.mem_of_getElem? (i := 61) rfl))) Via.refl (Or.inr ⟨(hw _ (List.mem_of_getElem? (i := 62) rfl)), rfl, rfl⟩) (hw _ (List.mem_of_getElem? (i := 3) rfl)) (ty := (.array .int)) (by decide) rfl rfl upd_same (j := 8) rfl (fs' := [(("com/example/thin_index/thinindex/Index", "documentIds", "[Ljava/lang/String;"), (.ref A1)), (("com/example/thin_index/thinindex/Index", "documentLengths", "[I"), (.ref A2)), (("com/example/thin_index/thinindex/Index", "tokenCount", "J"), (.long tk)), (("com/example/thin_index/thinindex/Index", "terms", "[Ljava/lang/String;"), (.ref A4)), (("com/example/thin_index/thinindex/Index", "documentFrequencies", "[I"), (.ref A5)), (("com/example/thin_index/thinindex/Index", "collectionFrequencies", "[J"), (.ref A6)), (("com/example/thin_index/thinindex/Index", "postingsStart", "[I"), (.ref A7)), (("com/example/thin_index/thinindex/Index", "postingDocuments", "[I"), (.ref A8)), (("com/example/thin_index/thinindex/Index", "postingFrequencies", "[I"), (.ref A9))]) rfl ga (mem upd_upd ?_)
  refine Own.aloadN C d1_119 (q := 120) rfl rfl rfl ?_
  refine Own.callP C d1_120 (q := 123) rfl (hw _ (List.mem_of_getElem? (i := 63) rfl)) (hw _ (List.mem_of_getElem? (i := 65) rfl)) (hw _ (List.mem_of_getElem? (i := 3) rfl)) (hw _ (List.mem_of_getElem? (i := 64) rfl)) (hw _ (List.mem_of_getElem? (i := 4) rfl)) (hw _ (List.mem_of_getElem? (i := 66) rfl)) (by decide) (W := 0) (rm := rm_4) (argsL := []) (st := []) (lenOf pd_7 rfl) rfl rfl (Nat.le_of_eq rfl) (by decide) (by decide) (by decide) (by decide) upd_same (c_cdo l Z a0 hw n0 _ a CA vs SH SC hvs A1 A2 A4 A5 A6 A7 A8 A9 s0 s1 s2 s3 b0 b1 b2 b3 l0 l1 l2 tk (upd_at (ne_ra h_A1 ha) h_A1) (upd_at (ne_ra h_A2 ha) h_A2) (upd_at (ne_ra h_A4 ha) h_A4) (upd_at (ne_ra h_A5 ha) h_A5) (upd_at (ne_ra h_A6 ha) h_A6) (upd_at (ne_ra h_A7 ha) h_A7) (upd_at (ne_ra h_A8 ha) h_A8) (upd_at (ne_ra h_A9 ha) h_A9) (upd_at (ne_oo h_s0 ha (by decide)) h_s0) (upd_at (ne_oo h_s1 ha (by decide)) h_s1) (upd_at (ne_oo h_s2 ha (by decide)) h_s2) (upd_at (ne_oo h_s3 ha (by decide)) h_s3) (upd_at (ne_ra h_b0 ha) h_b0) (upd_at (ne_ra h_b1 ha) h_b1) (upd_at (ne_ra h_b2 ha) h_b2) (upd_at (ne_ra h_b3 ha) h_b3) (upd_at (ne_ra h_CA ha) h_CA) y0 y1 y2 ys yt upd_same) (fun s C PP => nxV fun μ120 h120 => ?_)
  have LI_t6 := PP _ _ _ LI_t6
  have LI_t19 := PP _ _ _ LI_t19
  have LI_t38 := PP _ _ _ LI_t38
  have LI_t52 := PP _ _ _ LI_t52
  have LI_t66 := PP _ _ _ LI_t66
  have LI_t80 := PP _ _ _ LI_t80
  have LI_t94 := PP _ _ _ LI_t94
  have LI_t108 := PP _ _ _ LI_t108
  refine Own.mem h120 ?_
  refine Own.aloadN C d1_123 (q := 124) rfl rfl rfl ?_
  refine Own.callP C d1_124 (q := 127) rfl (hw _ (List.mem_of_getElem? (i := 91) rfl)) (hw _ (List.mem_of_getElem? (i := 93) rfl)) (hw _ (List.mem_of_getElem? (i := 3) rfl)) (hw _ (List.mem_of_getElem? (i := 92) rfl)) (hw _ (List.mem_of_getElem? (i := 4) rfl)) (hw _ (List.mem_of_getElem? (i := 94) rfl)) (by decide) (W := 0) (rm := rm_9) (argsL := []) (st := []) (lenOf pd_7 rfl) rfl rfl (Nat.le_of_eq rfl) (by decide) (by decide) (by decide) (by decide) upd_same (c_cte l Z a0 hw n0 _ a CA vs SH SC hvs A1 A2 A4 A5 A6 A7 A8 A9 s0 s1 s2 s3 b0 b1 b2 b3 l0 l1 l2 tk (upd_at (ne_ra h_A1 ha) h_A1) (upd_at (ne_ra h_A2 ha) h_A2) (upd_at (ne_ra h_A4 ha) h_A4) (upd_at (ne_ra h_A5 ha) h_A5) (upd_at (ne_ra h_A6 ha) h_A6) (upd_at (ne_ra h_A7 ha) h_A7) (upd_at (ne_ra h_A8 ha) h_A8) (upd_at (ne_ra h_A9 ha) h_A9) (upd_at (ne_oo h_s0 ha (by decide)) h_s0) (upd_at (ne_oo h_s1 ha (by decide)) h_s1) (upd_at (ne_oo h_s2 ha (by decide)) h_s2) (upd_at (ne_oo h_s3 ha (by decide)) h_s3) (upd_at (ne_ra h_b0 ha) h_b0) (upd_at (ne_ra h_b1 ha) h_b1) (upd_at (ne_ra h_b2 ha) h_b2) (upd_at (ne_ra h_b3 ha) h_b3) (upd_at (ne_ra h_CA ha) h_CA) y0 y1 y2 ys yt upd_same) (fun s C PP => nxV fun μ124 h124 => ?_)
  have LI_t6 := PP _ _ _ LI_t6
  have LI_t19 := PP _ _ _ LI_t19
  have LI_t38 := PP _ _ _ LI_t38
  have LI_t52 := PP _ _ _ LI_t52
  have LI_t66 := PP _ _ _ LI_t66
  have LI_t80 := PP _ _ _ LI_t80
  have LI_t94 := PP _ _ _ LI_t94
  have LI_t108 := PP _ _ _ LI_t108
  refine Own.mem h124 ?_
  refine Own.vreturn C d1_127 (by decide) (by decide) ?_
  exact ⟨rfl, rfl⟩
abbrev rm_14 : Room := { frames := 0, cells := 0, slots := 0, locals := 0 }
theorem d14_0 : decode prog_15_method_2_code 0 = .ok (.aload_n 0, 1) := by decide +kernel
theorem d14_1 : decode prog_15_method_2_code 1 = .ok (.getfield 17, 3) := by decide +kernel
theorem d14_4 : decode prog_15_method_2_code 4 = .ok (.arraylength, 1) := by decide +kernel
theorem d14_5 : decode prog_15_method_2_code 5 = .ok (.ireturn, 1) := by decide +kernel
set_option maxRecDepth 65536 in
set_option maxHeartbeats 4000000 in
theorem c_dct (l : Launch) (Z : State) (a0 : Array Value) (hw : ∀ d ∈ tables_1, d.before a0 Z = true) (n0 : Nat) (μ : Mem) (a : Addr) (A1 A2 A4 A5 A6 A7 A8 A9 s0 s1 s2 : Addr) (tk : Int64) (ha : μ a = some (o_Ix (.ref A1) (.ref A2) (.long tk) (.ref A4) (.ref A5) (.ref A6) (.ref A7) (.ref A8) (.ref A9))) (h_A1 : μ A1 = some (.inr ((.object "java/lang/String"), [(.ref s0), (.ref s1), (.ref s2)]))) :
    Con l Z n0 (⟨"com/example/thin_index/thinindex/Index", "documentCount", "()I"⟩ : MethodName) prog_15_method_2_code 1 (some .int) [] rm_14 rm_14.cells rm_14.slots #[(.ref a)] μ (RI fun z μ' => μ' = μ ∧ z = 3) := by
  refine Con.intro (L0 := #[.val (.ref a)]) (plainFor_of_name (by first | (simp [plainName, overriddenIn]; done) | decide +kernel)) (fun m => by first | (simp [entryFrame, mkF, argsToLocals, Value.category]; done) | rfl) ?_
  intro p e s m below meth c C
  have C : Ctx p s m meth c Z "com/example/thin_index/thinindex/Index" "documentCount" prog_15_method_2_code 1 (some .int) := C
  refine Own.aloadN C d14_0 (q := 1) rfl rfl rfl ?_
  refine Own.getfield C d14_1 (q := 4) rfl (host := "") (Or.inl (hw _ (List.mem_of_getElem? (i := 34) rfl))) Via.refl ha (j := 0) rfl ?_
  refine Own.arraylength C d14_4 (q := 5) rfl h_A1 fun z4 e4 e4i => ?_
  obtain rfl : z4 = (3 : Int32) := e4.trans (by rfl)
  refine Own.ireturn C d14_5 (by decide) (by decide) ?_
  exact ⟨_, rfl, rfl, rfl⟩
abbrev rm_15 : Room := { frames := 0, cells := 0, slots := 0, locals := 0 }
theorem d15_0 : decode prog_15_method_5_code 0 = .ok (.aload_n 0, 1) := by decide +kernel
theorem d15_1 : decode prog_15_method_5_code 1 = .ok (.getfield 27, 3) := by decide +kernel
theorem d15_4 : decode prog_15_method_5_code 4 = .ok (.lreturn, 1) := by decide +kernel
set_option maxRecDepth 65536 in
set_option maxHeartbeats 4000000 in
theorem c_tct (l : Launch) (Z : State) (a0 : Array Value) (hw : ∀ d ∈ tables_1, d.before a0 Z = true) (n0 : Nat) (μ : Mem) (a : Addr) (A1 A2 A4 A5 A6 A7 A8 A9 : Addr) (tk : Int64) (ha : μ a = some (o_Ix (.ref A1) (.ref A2) (.long tk) (.ref A4) (.ref A5) (.ref A6) (.ref A7) (.ref A8) (.ref A9))) :
    Con l Z n0 (⟨"com/example/thin_index/thinindex/Index", "tokenCount", "()J"⟩ : MethodName) prog_15_method_5_code 1 (some .long) [] rm_15 rm_15.cells rm_15.slots #[(.ref a)] μ (RJ fun z μ' => μ' = μ ∧ tk = z) := by
  refine Con.intro (L0 := #[.val (.ref a)]) (plainFor_of_name (by first | (simp [plainName, overriddenIn]; done) | decide +kernel)) (fun m => by first | (simp [entryFrame, mkF, argsToLocals, Value.category]; done) | rfl) ?_
  intro p e s m below meth c C
  have C : Ctx p s m meth c Z "com/example/thin_index/thinindex/Index" "tokenCount" prog_15_method_5_code 1 (some .long) := C
  refine Own.aloadN C d15_0 (q := 1) rfl rfl rfl ?_
  refine Own.getfield C d15_1 (q := 4) rfl (host := "") (Or.inl (hw _ (List.mem_of_getElem? (i := 41) rfl))) Via.refl ha (j := 2) rfl ?_
  refine Own.lreturn C d15_4 (by decide) (by decide) ?_
  exact ⟨_, rfl, rfl, rfl⟩
theorem pd_8 : parseMethodDescriptor "()I" = some ⟨[], some .int⟩ := by decide +kernel
theorem pd_9 : parseMethodDescriptor "()J" = some ⟨[], some .long⟩ := by decide +kernel
abbrev rm_13 : Room := { frames := 1, cells := 3, slots := 27, locals := 21 }
theorem d13_0 : decode prog_5_method_1_code 0 = .ok (.aload_n 0, 1) := by decide +kernel
theorem d13_1 : decode prog_5_method_1_code 1 = .ok (.invokespecial 1, 3) := by decide +kernel
theorem d13_4 : decode prog_5_method_1_code 4 = .ok (.aload_n 0, 1) := by decide +kernel
theorem d13_5 : decode prog_5_method_1_code 5 = .ok (.aload_n 1, 1) := by decide +kernel
theorem d13_6 : decode prog_5_method_1_code 6 = .ok (.ldc 7, 2) := by decide +kernel
theorem d13_8 : decode prog_5_method_1_code 8 = .ok (.invokestatic 9, 3) := by decide +kernel
theorem d13_11 : decode prog_5_method_1_code 11 = .ok (.checkcast 15, 3) := by decide +kernel
theorem d13_14 : decode prog_5_method_1_code 14 = .ok (.putfield 17, 3) := by decide +kernel
theorem d13_17 : decode prog_5_method_1_code 17 = .ok (.aload_n 1, 1) := by decide +kernel
theorem d13_18 : decode prog_5_method_1_code 18 = .ok (.invokevirtual 22, 3) := by decide +kernel
theorem d13_21 : decode prog_5_method_1_code 21 = .ok (.istore_n 2, 1) := by decide +kernel
theorem d13_22 : decode prog_5_method_1_code 22 = .ok (.aload_n 1, 1) := by decide +kernel
theorem d13_23 : decode prog_5_method_1_code 23 = .ok (.invokevirtual 26, 3) := by decide +kernel
theorem d13_26 : decode prog_5_method_1_code 26 = .ok (.l2d, 1) := by decide +kernel
theorem d13_27 : decode prog_5_method_1_code 27 = .ok (.iload_n 2, 1) := by decide +kernel
theorem d13_28 : decode prog_5_method_1_code 28 = .ok (.i2d, 1) := by decide +kernel
theorem d13_29 : decode prog_5_method_1_code 29 = .ok (.ddiv, 1) := by decide +kernel
theorem d13_30 : decode prog_5_method_1_code 30 = .ok (.dstore_n 3, 1) := by decide +kernel
theorem d13_31 : decode prog_5_method_1_code 31 = .ok (.aload_n 0, 1) := by decide +kernel
theorem d13_32 : decode prog_5_method_1_code 32 = .ok (.iload_n 2, 1) := by decide +kernel
theorem d13_33 : decode prog_5_method_1_code 33 = .ok (.newarray .double, 2) := by decide +kernel
theorem d13_35 : decode prog_5_method_1_code 35 = .ok (.putfield 30, 3) := by decide +kernel
theorem d13_38 : decode prog_5_method_1_code 38 = .ok (.iconst 0, 1) := by decide +kernel
theorem d13_39 : decode prog_5_method_1_code 39 = .ok (.istore 5, 2) := by decide +kernel
theorem d13_41 : decode prog_5_method_1_code 41 = .ok (.iload 5, 2) := by decide +kernel
theorem d13_43 : decode prog_5_method_1_code 43 = .ok (.iload_n 2, 1) := by decide +kernel
theorem d13_44 : decode prog_5_method_1_code 44 = .ok (.if_icmp .ge 37, 3) := by decide +kernel
theorem d13_47 : decode prog_5_method_1_code 47 = .ok (.aload_n 0, 1) := by decide +kernel
theorem d13_48 : decode prog_5_method_1_code 48 = .ok (.getfield 30, 3) := by decide +kernel
theorem d13_51 : decode prog_5_method_1_code 51 = .ok (.iload 5, 2) := by decide +kernel
theorem d13_53 : decode prog_5_method_1_code 53 = .ok (.ldc2_w 34, 3) := by decide +kernel
theorem d13_56 : decode prog_5_method_1_code 56 = .ok (.ldc2_w 36, 3) := by decide +kernel
theorem d13_59 : decode prog_5_method_1_code 59 = .ok (.ldc2_w 38, 3) := by decide +kernel
theorem d13_62 : decode prog_5_method_1_code 62 = .ok (.aload_n 1, 1) := by decide +kernel
theorem d13_63 : decode prog_5_method_1_code 63 = .ok (.iload 5, 2) := by decide +kernel
theorem d13_65 : decode prog_5_method_1_code 65 = .ok (.invokevirtual 40, 3) := by decide +kernel
theorem d13_68 : decode prog_5_method_1_code 68 = .ok (.i2d, 1) := by decide +kernel
theorem d13_69 : decode prog_5_method_1_code 69 = .ok (.dmul, 1) := by decide +kernel
theorem d13_70 : decode prog_5_method_1_code 70 = .ok (.dload_n 3, 1) := by decide +kernel
theorem d13_71 : decode prog_5_method_1_code 71 = .ok (.ddiv, 1) := by decide +kernel
theorem d13_72 : decode prog_5_method_1_code 72 = .ok (.dadd, 1) := by decide +kernel
theorem d13_73 : decode prog_5_method_1_code 73 = .ok (.dmul, 1) := by decide +kernel
theorem d13_74 : decode prog_5_method_1_code 74 = .ok (.dastore, 1) := by decide +kernel
theorem d13_75 : decode prog_5_method_1_code 75 = .ok (.iinc 5 1, 3) := by decide +kernel
theorem d13_78 : decode prog_5_method_1_code 78 = .ok (.goto (-37), 3) := by decide +kernel
theorem d13_81 : decode prog_5_method_1_code 81 = .ok (.return_, 1) := by decide +kernel
set_option maxRecDepth 65536 in
set_option maxHeartbeats 4000000 in
theorem c_bm (l : Launch) (Z : State) (a0 : Array Value) (hw : ∀ d ∈ tables_1, d.before a0 Z = true) (n0 : Nat) (μ : Mem) (a : Addr) (ix : Addr) (A1 A2 A4 A5 A6 A7 A8 A9 s0 s1 s2 : Addr) (l0 l1 l2 : Int32) (tk : Int64) (av v0 v1 v2 : UInt64) (qa : Jvm.Free.Fl.NoNaN64 (FP.ddiv (FP.l2d tk) (FP.i2d 3))) (eav : FP.ddiv (FP.l2d tk) (FP.i2d 3) = av) (N0 : NN l0 av v0) (N1 : NN l1 av v1) (N2 : NN l2 av v2) (ha : μ a = some (o_Bm .null .null)) (ga : n0 ≤ a) (hx : μ ix = some (o_Ix (.ref A1) (.ref A2) (.long tk) (.ref A4) (.ref A5) (.ref A6) (.ref A7) (.ref A8) (.ref A9))) (h_A1 : μ A1 = some (.inr ((.object "java/lang/String"), [(.ref s0), (.ref s1), (.ref s2)]))) (h_A2 : μ A2 = some (.inr (.int, [(.int l0), (.int l1), (.int l2)]))) (h_A7 : μ A7 = some (.inr (.int, [(.int (0 : Int32)), (.int (0 : Int32))]))) :
    Con l Z n0 (⟨"com/example/thin_index/thinindex/Bm25", "<init>", "(Lcom/example/thin_index/thinindex/Index;)V"⟩ : MethodName) prog_5_method_1_code 6 none [] rm_13 rm_13.cells rm_13.slots #[(.ref a), (.ref ix)] μ (RV fun μ' => ∃ d, a ≠ d ∧ (∀ x o, μ x = some o → x ≠ d) ∧ n0 ≤ d ∧ μ' = upd (upd μ a (o_Bm (.ref ix) (.ref d))) d (.inr (.double, [(.double v0), (.double v1), (.double v2)]))) := by
  refine Con.intro (L0 := #[.val (.ref a), .val (.ref ix), .unset, .unset, .unset, .unset]) (plainFor_of_name (by first | (simp [plainName, overriddenIn]; done) | decide +kernel)) (fun m => by first | (simp [entryFrame, mkF, argsToLocals, Value.category]; done) | rfl) ?_
  intro p e s m below meth c C
  have C : Ctx p s m meth c Z "com/example/thin_index/thinindex/Bm25" "<init>" prog_5_method_1_code 6 none := C
  refine Own.aloadN C d13_0 (q := 1) rfl rfl rfl ?_
  refine Own.initObj C d13_1 (q := 4) rfl (hw _ (List.mem_of_getElem? (i := 124) rfl)) (hw _ (List.mem_of_getElem? (i := 25) rfl)) (hw _ (List.mem_of_getElem? (i := 26) rfl)) rfl (by decide) (W := 0) (Nat.le_of_eq rfl) (by decide) ?_
  refine Own.aloadN C d13_4 (q := 5) rfl rfl rfl ?_
  refine Own.aloadN C d13_5 (q := 6) rfl rfl rfl ?_
  refine Own.ldcL C d13_6 (q := 8) rfl (hw _ (List.mem_of_getElem? (i := 125) rfl)) (strs hw) (N := 20) (by decide) (by decide) (by decide) (by decide) (fun s C PP t6 LI_t6 => ?_)
  refine Own.callS C d13_8 (q := 11) rfl (hw _ (List.mem_of_getElem? (i := 126) rfl)) (hw _ (List.mem_of_getElem? (i := 29) rfl)) (hw _ (List.mem_of_getElem? (i := 30) rfl)) (hw _ (List.mem_of_getElem? (i := 31) rfl)) (by decide) (W := 1) (rm := rm_3) (argsL := [(.ref ix), (.ref t6)]) (st := [(.ref a)]) (lenOf pd_6 rfl) rfl rfl (Nat.le_of_eq rfl) (by decide) (by decide) (by decide) (by decide) (c_rnn l Z a0 hw n0 _ ix t6) (fun s C PP => nxR fun z8 μ8 z8_r h8 => ?_)
  have LI_t6 := PP _ _ _ LI_t6
  obtain ⟨h8m, rfl⟩ := h8
  refine Own.mem h8m ?_
  refine Own.castYes C d13_11 (q := 14) rfl (hw _ (List.mem_of_getElem? (i := 127) rfl)) hx ?_
  refine Own.putfield C d13_14 (q := 17) rfl (host := "") (Or.inl (hw _ (List.mem_of_getElem? (i := 129) rfl))) Via.refl (Or.inr ⟨(hw _ (List.mem_of_getElem? (i := 130) rfl)), rfl, rfl⟩) (hw _ (List.mem_of_getElem? (i := 119) rfl)) (ty := (.object "com/example/thin_index/thinindex/Index")) (by decide) rfl rfl ha (j := 0) rfl (fs' := [(("com/example/thin_index/thinindex/Bm25", "index", "Lcom/example/thin_index/thinindex/Index;"), (.ref ix)), (("com/example/thin_index/thinindex/Bm25", "lengthNormalisations", "[D"), .null)]) rfl ga (mem rfl ?_)
  refine Own.aloadN C d13_17 (q := 18) rfl rfl rfl ?_
  refine Own.callV C d13_18 (q := 21) rfl (hw _ (List.mem_of_getElem? (i := 131) rfl)) (hw _ (List.mem_of_getElem? (i := 132) rfl)) (notFace_of_selects (args := #[]) (mvT C.2.2.2.1 (hw _ (List.mem_of_getElem? (i := 134) rfl)))) (hw _ (List.mem_of_getElem? (i := 134) rfl)) (hw _ (List.mem_of_getElem? (i := 133) rfl)) (hw _ (List.mem_of_getElem? (i := 4) rfl)) (hw _ (List.mem_of_getElem? (i := 135) rfl)) (by decide) (W := 0) (rm := rm_14) (argsL := []) (st := []) (lenOf pd_8 rfl) rfl rfl (Nat.le_of_eq rfl) (by decide) (by decide) (by decide) (by decide) (upd_at (ne_oo hx ha (by decide)) hx) (c_dct l Z a0 hw n0 _ ix A1 A2 A4 A5 A6 A7 A8 A9 s0 s1 s2 tk (upd_at (ne_oo hx ha (by decide)) hx) (upd_at (ne_ra h_A1 ha) h_A1)) (fun s C PP => nxI fun z18 μ18 h18 => ?_)
  have LI_t6 := PP _ _ _ LI_t6
  obtain ⟨h18m, rfl⟩ := h18
  refine Own.mem h18m ?_
  refine Own.istoreN C d13_21 (q := 22) rfl (L' := #[.val (.ref a), .val (.ref ix), .val (.int (3 : Int32)), .unset, .unset, .unset]) rfl ?_
  refine Own.aloadN C d13_22 (q := 23) rfl rfl rfl ?_
  refine Own.callV C d13_23 (q := 26) rfl (hw _ (List.mem_of_getElem? (i := 136) rfl)) (hw _ (List.mem_of_getElem? (i := 137) rfl)) (notFace_of_selects (args := #[]) (mvT C.2.2.2.1 (hw _ (List.mem_of_getElem? (i := 139) rfl)))) (hw _ (List.mem_of_getElem? (i := 139) rfl)) (hw _ (List.mem_of_getElem? (i := 138) rfl)) (hw _ (List.mem_of_getElem? (i := 4) rfl)) (hw _ (List.mem_of_getElem? (i := 140) rfl)) (by decide) (W := 0) (rm := rm_15) (argsL := []) (st := []) (lenOf pd_9 rfl) rfl rfl (Nat.le_of_eq rfl) (by decide) (by decide) (by decide) (by decide) (upd_at (ne_oo hx ha (by decide)) hx) (c_tct l Z a0 hw n0 _ ix A1 A2 A4 A5 A6 A7 A8 A9 tk (upd_at (ne_oo hx ha (by decide)) hx)) (fun s C PP => nxJ fun z23 μ23 h23 => ?_)
  have LI_t6 := PP _ _ _ LI_t6
  obtain ⟨h23m, rfl⟩ := h23
  refine Own.mem h23m ?_
  refine Own.l2d C d13_26 (q := 27) rfl ?_
  refine Own.iloadN C d13_27 (q := 28) rfl rfl ?_
  refine Own.i2d C d13_28 (q := 29) rfl ?_
  refine Own.ddivE C d13_29 (q := 30) rfl qa eav ?_
  refine Own.dstoreN C d13_30 (q := 31) rfl (L' := #[.val (.ref a), .val (.ref ix), .val (.int (3 : Int32)), .val (.double av), .second, .unset]) rfl ?_
  refine Own.aloadN C d13_31 (q := 32) rfl rfl rfl ?_
  refine Own.iloadN C d13_32 (q := 33) rfl rfl ?_
  refine Own.newArr C d13_33 (q := 35) rfl (ty := .double) rfl (hw _ (List.mem_of_getElem? (i := 141) rfl)) (by decide) (cap := 3) (by decide) (by decide) (vs := [(.double 0), (.double 0), (.double 0)]) rfl (by decide) (by decide) fun d d_f d_g => ?_
  have ne_a_d := d_f _ _ upd_same
  have ne_ix_d := d_f _ _ (upd_at (ne_oo hx ha (by decide)) hx)
  have ne_A1_d := d_f _ _ (upd_at (ne_ra h_A1 ha) h_A1)
  have ne_A2_d := d_f _ _ (upd_at (ne_ra h_A2 ha) h_A2)
  have ne_A7_d := d_f _ _ (upd_at (ne_ra h_A7 ha) h_A7)
  refine Own.putfield C d13_35 (q := 38) rfl (host := "") (Or.inl (hw _ (List.mem_of_getElem? (i := 142) rfl))) Via.refl (Or.inr ⟨(hw _ (List.mem_of_getElem? (i := 143) rfl)), rfl, rfl⟩) (hw _ (List.mem_of_getElem? (i := 119) rfl)) (ty := (.array .double)) (by decide) rfl rfl (upd_at ne_a_d upd_same) (j := 1) rfl (fs' := [(("com/example/thin_index/thinindex/Bm25", "index", "Lcom/example/thin_index/thinindex/Index;"), (.ref ix)), (("com/example/thin_index/thinindex/Bm25", "lengthNormalisations", "[D"), (.ref d))]) rfl ga (mem (upd_in upd_upd (Ne.symm ne_a_d)) ?_)
  refine Own.iconst C d13_38 (q := 39) rfl (z := 0) (by decide) ?_
  refine Own.istore C d13_39 (q := 41) rfl (L' := #[.val (.ref a), .val (.ref ix), .val (.int (3 : Int32)), .val (.double av), .second, .val (.int (0 : Int32))]) rfl ?_
  refine Own.iload C d13_41 (q := 43) rfl rfl ?_
  refine Own.iloadN C d13_43 (q := 44) rfl rfl ?_
  refine Own.icmp_ge C d13_44 (q := 47) rfl (r := 81) (by decide) (fun h44 => ?_) (fun h44 => ?_)
  · exact absurd h44 (by decide)
  · refine Own.aloadN C d13_47 (q := 48) rfl rfl rfl ?_
    refine Own.getfield C d13_48 (q := 51) rfl (host := "") (Or.inl (hw _ (List.mem_of_getElem? (i := 142) rfl))) Via.refl (upd_at ne_a_d upd_same) (j := 1) rfl ?_
    refine Own.iload C d13_51 (q := 53) rfl rfl ?_
    refine Own.ldcD C d13_53 (q := 56) rfl (hw _ (List.mem_of_getElem? (i := 144) rfl)) ?_
    refine Own.ldcD C d13_56 (q := 59) rfl (hw _ (List.mem_of_getElem? (i := 145) rfl)) ?_
    refine Own.ldcD C d13_59 (q := 62) rfl (hw _ (List.mem_of_getElem? (i := 146) rfl)) ?_
    refine Own.aloadN C d13_62 (q := 63) rfl rfl rfl ?_
    refine Own.iload C d13_63 (q := 65) rfl rfl ?_
    refine Own.callV C d13_65 (q := 68) rfl (hw _ (List.mem_of_getElem? (i := 147) rfl)) (hw _ (List.mem_of_getElem? (i := 148) rfl)) (notFace_of_selects (args := #[]) (mvT C.2.2.2.1 (hw _ (List.mem_of_getElem? (i := 150) rfl)))) (hw _ (List.mem_of_getElem? (i := 150) rfl)) (hw _ (List.mem_of_getElem? (i := 149) rfl)) (hw _ (List.mem_of_getElem? (i := 4) rfl)) (hw _ (List.mem_of_getElem? (i := 151) rfl)) (by decide) (W := 8) (rm := rm_16) (argsL := [(.int (0 : Int32))]) (st := [(.double (4604930618986332160 : UInt64)), (.double (4598175219545276416 : UInt64)), (.double (4608083138725491507 : UInt64)), (.int (0 : Int32)), (.ref d)]) (lenOf pd_0 rfl) rfl rfl (Nat.le_of_eq rfl) (by decide) (by decide) (by decide) (by decide) (upd_at ne_ix_d (upd_at (ne_oo hx ha (by decide)) hx)) (c_dln l Z a0 hw n0 _ ix (0 : Int32) l0 A1 A2 A4 A5 A6 A7 A8 A9 l0 l1 l2 tk (upd_at ne_ix_d (upd_at (ne_oo hx ha (by decide)) hx)) (upd_at ne_A7_d (upd_at (ne_ra h_A7 ha) h_A7)) (upd_at ne_A2_d (upd_at (ne_ra h_A2 ha) h_A2)) (by decide) rfl) (fun s C PP => nxI fun z65 μ65 h65 => ?_)
    have LI_t6 := PP _ _ _ LI_t6
    obtain ⟨h65m, rfl⟩ := h65
    refine Own.mem h65m ?_
    refine Own.i2d C d13_68 (q := 69) rfl ?_
    refine Own.dmul C d13_69 (q := 70) rfl N0.1 ?_
    refine Own.dloadN C d13_70 (q := 71) rfl rfl ?_
    refine Own.ddiv C d13_71 (q := 72) rfl N0.2.1 ?_
    refine Own.dadd C d13_72 (q := 73) rfl N0.2.2.1 ?_
    refine Own.dmulE C d13_73 (q := 74) rfl N0.2.2.2.1 N0.2.2.2.2 ?_
    refine Own.dastore C d13_74 (q := 75) rfl upd_same (by decide) (Nat.le_of_ble_eq_true rfl) d_g (mem (upd_list (vs' := [(.double v0), (.double 0), (.double 0)]) rfl upd_upd) ?_)
    refine Own.iinc C d13_75 (q := 78) rfl rfl (z := (1 : Int32)) (by decide) (L' := #[.val (.ref a), .val (.ref ix), .val (.int (3 : Int32)), .val (.double av), .second, .val (.int (1 : Int32))]) rfl ?_
    refine Own.goto C d13_78 (q := 41) (by decide) ?_
    refine Own.iload C d13_41 (q := 43) rfl rfl ?_
    refine Own.iloadN C d13_43 (q := 44) rfl rfl ?_
    refine Own.icmp_ge C d13_44 (q := 47) rfl (r := 81) (by decide) (fun h44_1 => ?_) (fun h44_1 => ?_)
    · exact absurd h44_1 (by decide)
    · refine Own.aloadN C d13_47 (q := 48) rfl rfl rfl ?_
      refine Own.getfield C d13_48 (q := 51) rfl (host := "") (Or.inl (hw _ (List.mem_of_getElem? (i := 142) rfl))) Via.refl (upd_at ne_a_d upd_same) (j := 1) rfl ?_
      refine Own.iload C d13_51 (q := 53) rfl rfl ?_
      refine Own.ldcD C d13_53 (q := 56) rfl (hw _ (List.mem_of_getElem? (i := 144) rfl)) ?_
      refine Own.ldcD C d13_56 (q := 59) rfl (hw _ (List.mem_of_getElem? (i := 145) rfl)) ?_
      refine Own.ldcD C d13_59 (q := 62) rfl (hw _ (List.mem_of_getElem? (i := 146) rfl)) ?_
      refine Own.aloadN C d13_62 (q := 63) rfl rfl rfl ?_
      refine Own.iload C d13_63 (q := 65) rfl rfl ?_
      refine Own.callV C d13_65 (q := 68) rfl (hw _ (List.mem_of_getElem? (i := 147) rfl)) (hw _ (List.mem_of_getElem? (i := 148) rfl)) (notFace_of_selects (args := #[]) (mvT C.2.2.2.1 (hw _ (List.mem_of_getElem? (i := 150) rfl)))) (hw _ (List.mem_of_getElem? (i := 150) rfl)) (hw _ (List.mem_of_getElem? (i := 149) rfl)) (hw _ (List.mem_of_getElem? (i := 4) rfl)) (hw _ (List.mem_of_getElem? (i := 151) rfl)) (by decide) (W := 8) (rm := rm_16) (argsL := [(.int (1 : Int32))]) (st := [(.double (4604930618986332160 : UInt64)), (.double (4598175219545276416 : UInt64)), (.double (4608083138725491507 : UInt64)), (.int (1 : Int32)), (.ref d)]) (lenOf pd_0 rfl) rfl rfl (Nat.le_of_eq rfl) (by decide) (by decide) (by decide) (by decide) (upd_at ne_ix_d (upd_at (ne_oo hx ha (by decide)) hx)) (c_dln l Z a0 hw n0 _ ix (1 : Int32) l1 A1 A2 A4 A5 A6 A7 A8 A9 l0 l1 l2 tk (upd_at ne_ix_d (upd_at (ne_oo hx ha (by decide)) hx)) (upd_at ne_A7_d (upd_at (ne_ra h_A7 ha) h_A7)) (upd_at ne_A2_d (upd_at (ne_ra h_A2 ha) h_A2)) (by decide) rfl) (fun s C PP => nxI fun z65_1 μ65_1 h65_1 => ?_)
      have LI_t6 := PP _ _ _ LI_t6
      obtain ⟨h65_1m, rfl⟩ := h65_1
      refine Own.mem h65_1m ?_
      refine Own.i2d C d13_68 (q := 69) rfl ?_
      refine Own.dmul C d13_69 (q := 70) rfl N1.1 ?_
      refine Own.dloadN C d13_70 (q := 71) rfl rfl ?_
      refine Own.ddiv C d13_71 (q := 72) rfl N1.2.1 ?_
      refine Own.dadd C d13_72 (q := 73) rfl N1.2.2.1 ?_
      refine Own.dmulE C d13_73 (q := 74) rfl N1.2.2.2.1 N1.2.2.2.2 ?_
      refine Own.dastore C d13_74 (q := 75) rfl upd_same (by decide) (Nat.le_of_ble_eq_true rfl) d_g (mem (upd_list (vs' := [(.double v0), (.double v1), (.double 0)]) rfl upd_upd) ?_)
      refine Own.iinc C d13_75 (q := 78) rfl rfl (z := (2 : Int32)) (by decide) (L' := #[.val (.ref a), .val (.ref ix), .val (.int (3 : Int32)), .val (.double av), .second, .val (.int (2 : Int32))]) rfl ?_
      refine Own.goto C d13_78 (q := 41) (by decide) ?_
      refine Own.iload C d13_41 (q := 43) rfl rfl ?_
      refine Own.iloadN C d13_43 (q := 44) rfl rfl ?_
      refine Own.icmp_ge C d13_44 (q := 47) rfl (r := 81) (by decide) (fun h44_2 => ?_) (fun h44_2 => ?_)
      · exact absurd h44_2 (by decide)
      · refine Own.aloadN C d13_47 (q := 48) rfl rfl rfl ?_
        refine Own.getfield C d13_48 (q := 51) rfl (host := "") (Or.inl (hw _ (List.mem_of_getElem? (i := 142) rfl))) Via.refl (upd_at ne_a_d upd_same) (j := 1) rfl ?_
        refine Own.iload C d13_51 (q := 53) rfl rfl ?_
        refine Own.ldcD C d13_53 (q := 56) rfl (hw _ (List.mem_of_getElem? (i := 144) rfl)) ?_
        refine Own.ldcD C d13_56 (q := 59) rfl (hw _ (List.mem_of_getElem? (i := 145) rfl)) ?_
        refine Own.ldcD C d13_59 (q := 62) rfl (hw _ (List.mem_of_getElem? (i := 146) rfl)) ?_
        refine Own.aloadN C d13_62 (q := 63) rfl rfl rfl ?_
        refine Own.iload C d13_63 (q := 65) rfl rfl ?_
        refine Own.callV C d13_65 (q := 68) rfl (hw _ (List.mem_of_getElem? (i := 147) rfl)) (hw _ (List.mem_of_getElem? (i := 148) rfl)) (notFace_of_selects (args := #[]) (mvT C.2.2.2.1 (hw _ (List.mem_of_getElem? (i := 150) rfl)))) (hw _ (List.mem_of_getElem? (i := 150) rfl)) (hw _ (List.mem_of_getElem? (i := 149) rfl)) (hw _ (List.mem_of_getElem? (i := 4) rfl)) (hw _ (List.mem_of_getElem? (i := 151) rfl)) (by decide) (W := 8) (rm := rm_16) (argsL := [(.int (2 : Int32))]) (st := [(.double (4604930618986332160 : UInt64)), (.double (4598175219545276416 : UInt64)), (.double (4608083138725491507 : UInt64)), (.int (2 : Int32)), (.ref d)]) (lenOf pd_0 rfl) rfl rfl (Nat.le_of_eq rfl) (by decide) (by decide) (by decide) (by decide) (upd_at ne_ix_d (upd_at (ne_oo hx ha (by decide)) hx)) (c_dln l Z a0 hw n0 _ ix (2 : Int32) l2 A1 A2 A4 A5 A6 A7 A8 A9 l0 l1 l2 tk (upd_at ne_ix_d (upd_at (ne_oo hx ha (by decide)) hx)) (upd_at ne_A7_d (upd_at (ne_ra h_A7 ha) h_A7)) (upd_at ne_A2_d (upd_at (ne_ra h_A2 ha) h_A2)) (by decide) rfl) (fun s C PP => nxI fun z65_2 μ65_2 h65_2 => ?_)
        have LI_t6 := PP _ _ _ LI_t6
        obtain ⟨h65_2m, rfl⟩ := h65_2
        refine Own.mem h65_2m ?_
        refine Own.i2d C d13_68 (q := 69) rfl ?_
        refine Own.dmul C d13_69 (q := 70) rfl N2.1 ?_
        refine Own.dloadN C d13_70 (q := 71) rfl rfl ?_
        refine Own.ddiv C d13_71 (q := 72) rfl N2.2.1 ?_
        refine Own.dadd C d13_72 (q := 73) rfl N2.2.2.1 ?_
        refine Own.dmulE C d13_73 (q := 74) rfl N2.2.2.2.1 N2.2.2.2.2 ?_
        refine Own.dastore C d13_74 (q := 75) rfl upd_same (by decide) (Nat.le_of_ble_eq_true rfl) d_g (mem (upd_list (vs' := [(.double v0), (.double v1), (.double v2)]) rfl upd_upd) ?_)
        refine Own.iinc C d13_75 (q := 78) rfl rfl (z := (3 : Int32)) (by decide) (L' := #[.val (.ref a), .val (.ref ix), .val (.int (3 : Int32)), .val (.double av), .second, .val (.int (3 : Int32))]) rfl ?_
        refine Own.goto C d13_78 (q := 41) (by decide) ?_
        refine Own.iload C d13_41 (q := 43) rfl rfl ?_
        refine Own.iloadN C d13_43 (q := 44) rfl rfl ?_
        refine Own.icmp_ge C d13_44 (q := 47) rfl (r := 81) (by decide) (fun h44_3 => ?_) (fun h44_3 => ?_)
        · refine Own.vreturn C d13_81 (by decide) (by decide) ?_
          refine ⟨rfl, _, ne_a_d, ?_, d_g, rfl⟩
          intro x o hx
          by_cases q : x = a
          · subst q; exact ne_a_d
          · exact d_f x o (upd_at q hx)
        · exact absurd h44_3 (by decide)
abbrev rm_17 : Room := { frames := 0, cells := 0, slots := 0, locals := 0 }
theorem d17_0 : decode prog_5_method_3_code 0 = .ok (.dload_n 1, 1) := by decide +kernel
theorem d17_1 : decode prog_5_method_3_code 1 = .ok (.iload_n 3, 1) := by decide +kernel
theorem d17_2 : decode prog_5_method_3_code 2 = .ok (.i2d, 1) := by decide +kernel
theorem d17_3 : decode prog_5_method_3_code 3 = .ok (.dmul, 1) := by decide +kernel
theorem d17_4 : decode prog_5_method_3_code 4 = .ok (.ldc2_w 55, 3) := by decide +kernel
theorem d17_7 : decode prog_5_method_3_code 7 = .ok (.dmul, 1) := by decide +kernel
theorem d17_8 : decode prog_5_method_3_code 8 = .ok (.iload_n 3, 1) := by decide +kernel
theorem d17_9 : decode prog_5_method_3_code 9 = .ok (.i2d, 1) := by decide +kernel
theorem d17_10 : decode prog_5_method_3_code 10 = .ok (.aload_n 0, 1) := by decide +kernel
theorem d17_11 : decode prog_5_method_3_code 11 = .ok (.getfield 30, 3) := by decide +kernel
theorem d17_14 : decode prog_5_method_3_code 14 = .ok (.iload 4, 2) := by decide +kernel
theorem d17_16 : decode prog_5_method_3_code 16 = .ok (.daload, 1) := by decide +kernel
theorem d17_17 : decode prog_5_method_3_code 17 = .ok (.dadd, 1) := by decide +kernel
theorem d17_18 : decode prog_5_method_3_code 18 = .ok (.ddiv, 1) := by decide +kernel
theorem d17_19 : decode prog_5_method_3_code 19 = .ok (.dreturn, 1) := by decide +kernel
set_option maxRecDepth 65536 in
set_option maxHeartbeats 4000000 in
theorem c_wt (l : Launch) (Z : State) (a0 : Array Value) (hw : ∀ d ∈ tables_1, d.before a0 Z = true) (n0 : Nat) (μ : Mem) (a : Addr) (idf : UInt64) (f : Int32) (i : Int32) (ix d : Addr) (v0 v1 v2 v : UInt64) (u1 : Jvm.Free.Fl.NoNaN64 (FP.dmul idf (FP.i2d f))) (u2 : Jvm.Free.Fl.NoNaN64 (FP.dmul (FP.dmul idf (FP.i2d f)) (4612136378390124954 : UInt64))) (u3 : Jvm.Free.Fl.NoNaN64 (FP.dadd (FP.i2d f) v)) (u4 : Jvm.Free.Fl.NoNaN64 (FP.ddiv (FP.dmul (FP.dmul idf (FP.i2d f)) (4612136378390124954 : UInt64)) (FP.dadd (FP.i2d f) v))) (ha : μ a = some (o_Bm (.ref ix) (.ref d))) (hd : μ d = some (.inr (.double, [(.double v0), (.double v1), (.double v2)]))) (hi : ¬ i < 0) (hv : ([(.double v0), (.double v1), (.double v2)] : List Value)[i.toNatClampNeg]? = some (.double v)) :
    Con l Z n0 (⟨"com/example/thin_index/thinindex/Bm25", "weight", "(DII)D"⟩ : MethodName) prog_5_method_3_code 5 (some .double) [] rm_17 rm_17.cells rm_17.slots #[(.ref a), (.double idf), (.int f), (.int i)] μ (RD fun z μ' => μ' = μ ∧ z = FP.ddiv (FP.dmul (FP.dmul idf (FP.i2d f)) (4612136378390124954 : UInt64)) (FP.dadd (FP.i2d f) v)) := by
  refine Con.intro (L0 := #[.val (.ref a), .val (.double idf), .second, .val (.int f), .val (.int i)]) (plainFor_of_name (by first | (simp [plainName, overriddenIn]; done) | decide +kernel)) (fun m => by first | (simp [entryFrame, mkF, argsToLocals, Value.category]; done) | rfl) ?_
  intro p e s m below meth c C
  have C : Ctx p s m meth c Z "com/example/thin_index/thinindex/Bm25" "weight" prog_5_method_3_code 5 (some .double) := C
  refine Own.dloadN C d17_0 (q := 1) rfl rfl ?_
  refine Own.iloadN C d17_1 (q := 2) rfl rfl ?_
  refine Own.i2d C d17_2 (q := 3) rfl ?_
  refine Own.dmul C d17_3 (q := 4) rfl u1 ?_
  refine Own.ldcD C d17_4 (q := 7) rfl (hw _ (List.mem_of_getElem? (i := 160) rfl)) ?_
  refine Own.dmul C d17_7 (q := 8) rfl u2 ?_
  refine Own.iloadN C d17_8 (q := 9) rfl rfl ?_
  refine Own.i2d C d17_9 (q := 10) rfl ?_
  refine Own.aloadN C d17_10 (q := 11) rfl rfl rfl ?_
  refine Own.getfield C d17_11 (q := 14) rfl (host := "") (Or.inl (hw _ (List.mem_of_getElem? (i := 142) rfl))) Via.refl ha (j := 1) rfl ?_
  refine Own.iload C d17_14 (q := 16) rfl rfl ?_
  refine Own.daload C d17_16 (q := 17) rfl hd hi (v := (.double v)) hv ?_
  refine Own.dadd C d17_17 (q := 18) rfl u3 ?_
  refine Own.ddiv C d17_18 (q := 19) rfl u4 ?_
  refine Own.dreturn C d17_19 (by decide) (by decide) ?_
  exact ⟨_, rfl, rfl, rfl⟩
theorem pd_10 : parseMethodDescriptor "([Ljava/lang/String;[IJ[Ljava/lang/String;[I[J[I[I[I)V" = some ⟨[(.array (.object "java/lang/String")), (.array .int), .long, (.array (.object "java/lang/String")), (.array .int), (.array .long), (.array .int), (.array .int), (.array .int)], none⟩ := by decide +kernel
theorem pd_11 : parseMethodDescriptor "(Lcom/example/thin_index/thinindex/Index;)V" = some ⟨[(.object "com/example/thin_index/thinindex/Index")], none⟩ := by decide +kernel
theorem pd_12 : parseMethodDescriptor "(DII)D" = some ⟨[.double, .int, .int], some .double⟩ := by decide +kernel
set_option maxRecDepth 65536 in
set_option maxHeartbeats 4000000 in
theorem c_law (l : Launch) (Z : State) (a0 : Array Value) (hw : ∀ d ∈ tables_1, d.before a0 Z = true) (n0 : Nat) (μ : Mem) (x1 : Int32) (x2 : Int32) (x3 : Int32) (x4 : Int32) (CA : Addr) (vs : List Value) (SH : Sta Z Z.heap "java/lang/Integer$IntegerCache" "high" "I" (.int 127)) (SC : Sta Z Z.heap "java/lang/Integer$IntegerCache" "cache" "[Ljava/lang/Integer;" (.ref CA)) (hvs : ∀ j, j < 256 → ∃ v, vs[j]? = some v ∧ v.isRef = true) (hh13 : Jvm.Lit.constHeld Z "com/example/thin_index/thinindex/Bm25WeightPinLaw" 13) (hh15 : Jvm.Lit.constHeld Z "com/example/thin_index/thinindex/Bm25WeightPinLaw" 15) (hh17 : Jvm.Lit.constHeld Z "com/example/thin_index/thinindex/Bm25WeightPinLaw" 17) (hh19 : Jvm.Lit.constHeld Z "com/example/thin_index/thinindex/Bm25WeightPinLaw" 19) (hcw : Jvm.Lit.compactW.before a0 Z = true) :
    ConL l Z n0 x code maxLocals ret tables_1 room_1 room_1.cells room_1.slots #[(.int x1), (.int x2), (.int x3), (.int x4)] (upd (fun _ => none) CA (.inr ((.object "java/lang/Integer"), vs))) (fun v _ => v = some (.int 1)) := by
  refine ConL.intro (L0 := #[.val (.int x1), .val (.int x2), .val (.int x3), .val (.int x4), .unset, .unset, .unset, .unset, .unset, .unset, .unset, .unset, .unset, .unset, .unset, .unset, .unset, .unset, .unset, .unset, .unset, .unset, .unset, .unset, .unset, .unset]) (plainFor_of_name (by first | (simp [plainName, overriddenIn]; done) | decide +kernel)) (fun m => by first | (simp [entryFrame, mkF, argsToLocals, Value.category, maxLocals]; done) | rfl) ?_
  intro p e s m below meth c C LT
  have C : Ctx p s m meth c Z "com/example/thin_index/thinindex/Bm25WeightPinLaw" "law" code maxLocals (some .boolean) := C
  refine Own.iloadN C at_0 (q := 1) rfl rfl ?_
  refine Own.ldcI C at_1 (q := 3) rfl (hw _ (List.mem_of_getElem? (i := 0) rfl)) ?_
  refine Own.iand C at_3 (q := 4) rfl fun z3 e3 => ?_
  refine Own.istore C at_4 (q := 6) rfl (L' := #[.val (.int x1), .val (.int x2), .val (.int x3), .val (.int x4), .val (.int z3), .unset, .unset, .unset, .unset, .unset, .unset, .unset, .unset, .unset, .unset, .unset, .unset, .unset, .unset, .unset, .unset, .unset, .unset, .unset, .unset, .unset]) rfl ?_
  refine Own.iloadN C at_6 (q := 7) rfl rfl ?_
  refine Own.ldcI C at_7 (q := 9) rfl (hw _ (List.mem_of_getElem? (i := 1) rfl)) ?_
  refine Own.iand C at_9 (q := 10) rfl fun z9 e9 => ?_
  refine Own.iload C at_10 (q := 12) rfl rfl ?_
  refine Own.iconst C at_12 (q := 13) rfl (z := 1) (by decide) ?_
  refine Own.iand C at_13 (q := 14) rfl fun z13 e13 => ?_
  refine Own.ior C at_14 (q := 15) rfl fun z14 e14 => ?_
  refine Own.istore C at_15 (q := 17) rfl (L' := #[.val (.int x1), .val (.int x2), .val (.int x3), .val (.int x4), .val (.int z3), .val (.int z14), .unset, .unset, .unset, .unset, .unset, .unset, .unset, .unset, .unset, .unset, .unset, .unset, .unset, .unset, .unset, .unset, .unset, .unset, .unset, .unset]) rfl ?_
  have J28 : ∀ l1 : Int32, LL z3 l1 → Go p l e room_1 s m #[(.int x1), (.int x2), (.int x3), (.int x4)] below meth c Z n0 (fun v _ => v = some (.int 1)) room_1.cells room_1.slots (upd (fun _ => none) CA (.inr ((.object "java/lang/Integer"), vs))) (0) (0) (mkF m 28 #[.val (.int x1), .val (.int x2), .val (.int x3), .val (.int x4), .val (.int z3), .val (.int l1), .unset, .unset, .unset, .unset, .unset, .unset, .unset, .unset, .unset, .unset, .unset, .unset, .unset, .unset, .unset, .unset, .unset, .unset, .unset, .unset] []) := by
    intro l1 hl1
    refine Own.iload C at_28 (q := 30) rfl rfl ?_
    refine Own.iload C at_30 (q := 32) rfl rfl ?_
    refine Own.iadd C at_32 (q := 33) rfl fun z32 e32 => ?_
    refine Own.iconst C at_33 (q := 34) rfl (z := 2) (by decide) ?_
    refine Own.idiv C at_34 (q := 35) rfl (by decide) fun z34 e34 => ?_
    refine Own.istore C at_35 (q := 37) rfl (L' := #[.val (.int x1), .val (.int x2), .val (.int x3), .val (.int x4), .val (.int z3), .val (.int l1), .val (.int z34), .unset, .unset, .unset, .unset, .unset, .unset, .unset, .unset, .unset, .unset, .unset, .unset, .unset, .unset, .unset, .unset, .unset, .unset, .unset]) rfl ?_
    refine Own.iload C at_37 (q := 39) rfl rfl ?_
    refine Own.i2l C at_39 (q := 40) rfl fun z39 e39 => ?_
    refine Own.iload C at_40 (q := 42) rfl rfl ?_
    refine Own.i2l C at_42 (q := 43) rfl fun z42 e42 => ?_
    refine Own.ladd C at_43 (q := 44) rfl fun z43 e43 => ?_
    refine Own.iload C at_44 (q := 46) rfl rfl ?_
    refine Own.i2l C at_46 (q := 47) rfl fun z46 e46 => ?_
    refine Own.ladd C at_47 (q := 48) rfl fun z47 e47 => ?_
    refine Own.lstore C at_48 (q := 50) rfl (L' := #[.val (.int x1), .val (.int x2), .val (.int x3), .val (.int x4), .val (.int z3), .val (.int l1), .val (.int z34), .val (.long z47), .second, .unset, .unset, .unset, .unset, .unset, .unset, .unset, .unset, .unset, .unset, .unset, .unset, .unset, .unset, .unset, .unset, .unset]) rfl ?_
    obtain ⟨m0, m1, mL, q_0, q_1, q_2, k_0, k_1, k_2, q_L, q_s, q_t⟩ := bw hl1 e32 e34 e39 e42 e43 e46 e47
    refine Own.new C at_50 (q := 53) rfl (hw _ (List.mem_of_getElem? (i := 2) rfl)) (hw _ (List.mem_of_getElem? (i := 3) rfl)) (hw _ (List.mem_of_getElem? (i := 4) rfl)) (lay_Ix hw) (by decide) (by decide) (by decide) fun a50 a50_f a50_g => ?_
    have ne_CA_a50 := a50_f _ _ upd_same
    refine Own.dup C at_53 (q := 54) rfl rfl ?_
    refine Own.iconst C at_54 (q := 55) rfl (z := 3) (by decide) ?_
    refine Own.newRef C at_55 (q := 58) rfl (hw _ (List.mem_of_getElem? (i := 5) rfl)) (hw _ (List.mem_of_getElem? (i := 6) rfl)) (by decide) (cap := 3) (by decide) (by decide) (vs := [.null, .null, .null]) rfl (by decide) (by decide) fun a55 a55_f a55_g => ?_
    have ne_a50_a55 := a55_f _ _ upd_same
    have ne_CA_a55 := a55_f _ _ (upd_at ne_CA_a50 upd_same)
    refine Own.dup C at_58 (q := 59) rfl rfl ?_
    refine Own.iconst C at_59 (q := 60) rfl (z := 0) (by decide) ?_
    have sep60 : ∀ x o, (upd (upd (upd (fun _ => none) CA (.inr ((.object "java/lang/Integer"), vs))) a50 (o_Ix .null .null (.long (0 : Int64)) .null .null .null .null .null .null)) a55 (.inr ((.object "java/lang/String"), [.null, .null, .null]))) x = some o → SepO Z (upd (upd (upd (fun _ => none) CA (.inr ((.object "java/lang/Integer"), vs))) a50 (o_Ix .null .null (.long (0 : Int64)) .null .null .null .null .null .null)) a55 (.inr ((.object "java/lang/String"), [.null, .null, .null]))) [.int 97] o := by
      intro x o h
      rcases upd_cases h with ⟨-, rfl⟩ | h
      · exact Or.inl (by intro h; cases h)
      rcases upd_cases h with ⟨-, rfl⟩ | h
      · exact ⟨⟨_, _, (hw _ (List.mem_of_getElem? (i := 3) rfl))⟩, Or.inl (by decide)⟩
      rcases upd_cases h with ⟨-, rfl⟩ | h
      · exact Or.inl (by intro h; cases h)
      · cases h
    refine Own.ldcT C LT at_60 (q := 62) rfl (hw _ (List.mem_of_getElem? (i := 7) rfl)) (strs hw) hh13 hcw (by decide) (t := "a") (N := 4) (vs := [.int 97]) ⟨by decide, by rfl⟩ (by decide) (by decide) (by decide) (by decide) (by decide) sep60 (fun s C LT b0 s0 b0_f s0_f => ?_)
    have ne_a50_b0 := b0_f _ _ (upd_at ne_a50_a55 upd_same)
    have ne_a55_b0 := b0_f _ _ upd_same
    have ne_CA_b0 := b0_f _ _ (upd_at ne_CA_a55 (upd_at ne_CA_a50 upd_same))
    have ne_a50_s0 := s0_f _ _ (upd_at ne_a50_b0 (upd_at ne_a50_a55 upd_same))
    have ne_a55_s0 := s0_f _ _ (upd_at ne_a55_b0 upd_same)
    have ne_b0_s0 := s0_f _ _ upd_same
    have ne_CA_s0 := s0_f _ _ (upd_at ne_CA_b0 (upd_at ne_CA_a55 (upd_at ne_CA_a50 upd_same)))
    refine Own.aastore C at_62 (q := 63) rfl (upd_at ne_a55_s0 (upd_at ne_a55_b0 upd_same)) (Or.inr ⟨_, rfl, fun _ H => Ins.self (H.2 _ _ upd_same).1⟩) (by decide) (Nat.le_of_ble_eq_true rfl) a55_g (mem (upd_list (vs' := [(.ref s0), .null, .null]) rfl (upd_in (upd_in upd_upd (Ne.symm ne_a55_b0)) (Ne.symm ne_a55_s0))) ?_)
    refine Own.dup C at_63 (q := 64) rfl rfl ?_
    refine Own.iconst C at_64 (q := 65) rfl (z := 1) (by decide) ?_
    have sep65 : ∀ x o, (upd (upd (upd (upd (upd (fun _ => none) CA (.inr ((.object "java/lang/Integer"), vs))) a50 (o_Ix .null .null (.long (0 : Int64)) .null .null .null .null .null .null)) a55 (.inr ((.object "java/lang/String"), [(.ref s0), .null, .null]))) b0 (.inr (.byte, [(.int (97 : Int32))]))) s0 (o_Str (.ref b0))) x = some o → SepO Z (upd (upd (upd (upd (upd (fun _ => none) CA (.inr ((.object "java/lang/Integer"), vs))) a50 (o_Ix .null .null (.long (0 : Int64)) .null .null .null .null .null .null)) a55 (.inr ((.object "java/lang/String"), [(.ref s0), .null, .null]))) b0 (.inr (.byte, [(.int (97 : Int32))]))) s0 (o_Str (.ref b0))) [.int 98] o := by
      intro x o h
      rcases upd_cases h with ⟨-, rfl⟩ | h
      · exact ⟨⟨_, _, (hw _ (List.mem_of_getElem? (i := 9) rfl))⟩, Or.inr ⟨_, _, rfl, (upd_at ne_b0_s0 upd_same), by decide⟩⟩
      rcases upd_cases h with ⟨-, rfl⟩ | h
      · exact Or.inr (by decide)
      rcases upd_cases h with ⟨-, rfl⟩ | h
      · exact Or.inl (by intro h; cases h)
      rcases upd_cases h with ⟨-, rfl⟩ | h
      · exact ⟨⟨_, _, (hw _ (List.mem_of_getElem? (i := 3) rfl))⟩, Or.inl (by decide)⟩
      rcases upd_cases h with ⟨-, rfl⟩ | h
      · exact Or.inl (by intro h; cases h)
      · cases h
    refine Own.ldcT C LT at_65 (q := 67) rfl (hw _ (List.mem_of_getElem? (i := 16) rfl)) (strs hw) hh15 hcw (by decide) (t := "b") (N := 4) (vs := [.int 98]) ⟨by decide, by rfl⟩ (by decide) (by decide) (by decide) (by decide) (by decide) sep65 (fun s C LT b1 s1 b1_f s1_f => ?_)
    have ne_a50_b1 := b1_f _ _ (upd_at ne_a50_s0 (upd_at ne_a50_b0 (upd_at ne_a50_a55 upd_same)))
    have ne_a55_b1 := b1_f _ _ (upd_at ne_a55_s0 (upd_at ne_a55_b0 upd_same))
    have ne_b0_b1 := b1_f _ _ (upd_at ne_b0_s0 upd_same)
    have ne_s0_b1 := b1_f _ _ upd_same
    have ne_CA_b1 := b1_f _ _ (upd_at ne_CA_s0 (upd_at ne_CA_b0 (upd_at ne_CA_a55 (upd_at ne_CA_a50 upd_same))))
    have ne_a50_s1 := s1_f _ _ (upd_at ne_a50_b1 (upd_at ne_a50_s0 (upd_at ne_a50_b0 (upd_at ne_a50_a55 upd_same))))
    have ne_a55_s1 := s1_f _ _ (upd_at ne_a55_b1 (upd_at ne_a55_s0 (upd_at ne_a55_b0 upd_same)))
    have ne_b0_s1 := s1_f _ _ (upd_at ne_b0_b1 (upd_at ne_b0_s0 upd_same))
    have ne_s0_s1 := s1_f _ _ (upd_at ne_s0_b1 upd_same)
    have ne_b1_s1 := s1_f _ _ upd_same
    have ne_CA_s1 := s1_f _ _ (upd_at ne_CA_b1 (upd_at ne_CA_s0 (upd_at ne_CA_b0 (upd_at ne_CA_a55 (upd_at ne_CA_a50 upd_same)))))
    refine Own.aastore C at_67 (q := 68) rfl (upd_at ne_a55_s1 (upd_at ne_a55_b1 (upd_at ne_a55_s0 (upd_at ne_a55_b0 upd_same)))) (Or.inr ⟨_, rfl, fun _ H => Ins.self (H.2 _ _ upd_same).1⟩) (by decide) (Nat.le_of_ble_eq_true rfl) a55_g (mem (upd_list (vs' := [(.ref s0), (.ref s1), .null]) rfl (upd_in (upd_in (upd_in (upd_in upd_upd (Ne.symm ne_a55_b0)) (Ne.symm ne_a55_s0)) (Ne.symm ne_a55_b1)) (Ne.symm ne_a55_s1))) ?_)
    refine Own.dup C at_68 (q := 69) rfl rfl ?_
    refine Own.iconst C at_69 (q := 70) rfl (z := 2) (by decide) ?_
    have sep70 : ∀ x o, (upd (upd (upd (upd (upd (upd (upd (fun _ => none) CA (.inr ((.object "java/lang/Integer"), vs))) a50 (o_Ix .null .null (.long (0 : Int64)) .null .null .null .null .null .null)) a55 (.inr ((.object "java/lang/String"), [(.ref s0), (.ref s1), .null]))) b0 (.inr (.byte, [(.int (97 : Int32))]))) s0 (o_Str (.ref b0))) b1 (.inr (.byte, [(.int (98 : Int32))]))) s1 (o_Str (.ref b1))) x = some o → SepO Z (upd (upd (upd (upd (upd (upd (upd (fun _ => none) CA (.inr ((.object "java/lang/Integer"), vs))) a50 (o_Ix .null .null (.long (0 : Int64)) .null .null .null .null .null .null)) a55 (.inr ((.object "java/lang/String"), [(.ref s0), (.ref s1), .null]))) b0 (.inr (.byte, [(.int (97 : Int32))]))) s0 (o_Str (.ref b0))) b1 (.inr (.byte, [(.int (98 : Int32))]))) s1 (o_Str (.ref b1))) [.int 99] o := by
      intro x o h
      rcases upd_cases h with ⟨-, rfl⟩ | h
      · exact ⟨⟨_, _, (hw _ (List.mem_of_getElem? (i := 9) rfl))⟩, Or.inr ⟨_, _, rfl, (upd_at ne_b1_s1 upd_same), by decide⟩⟩
      rcases upd_cases h with ⟨-, rfl⟩ | h
      · exact Or.inr (by decide)
      rcases upd_cases h with ⟨-, rfl⟩ | h
      · exact ⟨⟨_, _, (hw _ (List.mem_of_getElem? (i := 9) rfl))⟩, Or.inr ⟨_, _, rfl, (upd_at ne_b0_s1 (upd_at ne_b0_b1 (upd_at ne_b0_s0 upd_same))), by decide⟩⟩
      rcases upd_cases h with ⟨-, rfl⟩ | h
      · exact Or.inr (by decide)
      rcases upd_cases h with ⟨-, rfl⟩ | h
      · exact Or.inl (by intro h; cases h)
      rcases upd_cases h with ⟨-, rfl⟩ | h
      · exact ⟨⟨_, _, (hw _ (List.mem_of_getElem? (i := 3) rfl))⟩, Or.inl (by decide)⟩
      rcases upd_cases h with ⟨-, rfl⟩ | h
      · exact Or.inl (by intro h; cases h)
      · cases h
    refine Own.ldcT C LT at_70 (q := 72) rfl (hw _ (List.mem_of_getElem? (i := 17) rfl)) (strs hw) hh17 hcw (by decide) (t := "c") (N := 4) (vs := [.int 99]) ⟨by decide, by rfl⟩ (by decide) (by decide) (by decide) (by decide) (by decide) sep70 (fun s C LT b2 s2 b2_f s2_f => ?_)
    have ne_a50_b2 := b2_f _ _ (upd_at ne_a50_s1 (upd_at ne_a50_b1 (upd_at ne_a50_s0 (upd_at ne_a50_b0 (upd_at ne_a50_a55 upd_same)))))
    have ne_a55_b2 := b2_f _ _ (upd_at ne_a55_s1 (upd_at ne_a55_b1 (upd_at ne_a55_s0 (upd_at ne_a55_b0 upd_same))))
    have ne_b0_b2 := b2_f _ _ (upd_at ne_b0_s1 (upd_at ne_b0_b1 (upd_at ne_b0_s0 upd_same)))
    have ne_s0_b2 := b2_f _ _ (upd_at ne_s0_s1 (upd_at ne_s0_b1 upd_same))
    have ne_b1_b2 := b2_f _ _ (upd_at ne_b1_s1 upd_same)
    have ne_s1_b2 := b2_f _ _ upd_same
    have ne_CA_b2 := b2_f _ _ (upd_at ne_CA_s1 (upd_at ne_CA_b1 (upd_at ne_CA_s0 (upd_at ne_CA_b0 (upd_at ne_CA_a55 (upd_at ne_CA_a50 upd_same))))))
    have ne_a50_s2 := s2_f _ _ (upd_at ne_a50_b2 (upd_at ne_a50_s1 (upd_at ne_a50_b1 (upd_at ne_a50_s0 (upd_at ne_a50_b0 (upd_at ne_a50_a55 upd_same))))))
    have ne_a55_s2 := s2_f _ _ (upd_at ne_a55_b2 (upd_at ne_a55_s1 (upd_at ne_a55_b1 (upd_at ne_a55_s0 (upd_at ne_a55_b0 upd_same)))))
    have ne_b0_s2 := s2_f _ _ (upd_at ne_b0_b2 (upd_at ne_b0_s1 (upd_at ne_b0_b1 (upd_at ne_b0_s0 upd_same))))
    have ne_s0_s2 := s2_f _ _ (upd_at ne_s0_b2 (upd_at ne_s0_s1 (upd_at ne_s0_b1 upd_same)))
    have ne_b1_s2 := s2_f _ _ (upd_at ne_b1_b2 (upd_at ne_b1_s1 upd_same))
    have ne_s1_s2 := s2_f _ _ (upd_at ne_s1_b2 upd_same)
    have ne_b2_s2 := s2_f _ _ upd_same
    have ne_CA_s2 := s2_f _ _ (upd_at ne_CA_b2 (upd_at ne_CA_s1 (upd_at ne_CA_b1 (upd_at ne_CA_s0 (upd_at ne_CA_b0 (upd_at ne_CA_a55 (upd_at ne_CA_a50 upd_same)))))))
    refine Own.aastore C at_72 (q := 73) rfl (upd_at ne_a55_s2 (upd_at ne_a55_b2 (upd_at ne_a55_s1 (upd_at ne_a55_b1 (upd_at ne_a55_s0 (upd_at ne_a55_b0 upd_same)))))) (Or.inr ⟨_, rfl, fun _ H => Ins.self (H.2 _ _ upd_same).1⟩) (by decide) (Nat.le_of_ble_eq_true rfl) a55_g (mem (upd_list (vs' := [(.ref s0), (.ref s1), (.ref s2)]) rfl (upd_in (upd_in (upd_in (upd_in (upd_in (upd_in upd_upd (Ne.symm ne_a55_b0)) (Ne.symm ne_a55_s0)) (Ne.symm ne_a55_b1)) (Ne.symm ne_a55_s1)) (Ne.symm ne_a55_b2)) (Ne.symm ne_a55_s2))) ?_)
    refine Own.iconst C at_73 (q := 74) rfl (z := 3) (by decide) ?_
    refine Own.newArr C at_74 (q := 76) rfl (ty := .int) rfl (hw _ (List.mem_of_getElem? (i := 18) rfl)) (by decide) (cap := 3) (by decide) (by decide) (vs := [(.int (0 : Int32)), (.int (0 : Int32)), (.int (0 : Int32))]) rfl (by decide) (by decide) fun a74 a74_f a74_g => ?_
    have ne_a50_a74 := a74_f _ _ (upd_at ne_a50_s2 (upd_at ne_a50_b2 (upd_at ne_a50_s1 (upd_at ne_a50_b1 (upd_at ne_a50_s0 (upd_at ne_a50_b0 (upd_at ne_a50_a55 upd_same)))))))
    have ne_a55_a74 := a74_f _ _ (upd_at ne_a55_s2 (upd_at ne_a55_b2 (upd_at ne_a55_s1 (upd_at ne_a55_b1 (upd_at ne_a55_s0 (upd_at ne_a55_b0 upd_same))))))
    have ne_b0_a74 := a74_f _ _ (upd_at ne_b0_s2 (upd_at ne_b0_b2 (upd_at ne_b0_s1 (upd_at ne_b0_b1 (upd_at ne_b0_s0 upd_same)))))
    have ne_s0_a74 := a74_f _ _ (upd_at ne_s0_s2 (upd_at ne_s0_b2 (upd_at ne_s0_s1 (upd_at ne_s0_b1 upd_same))))
    have ne_b1_a74 := a74_f _ _ (upd_at ne_b1_s2 (upd_at ne_b1_b2 (upd_at ne_b1_s1 upd_same)))
    have ne_s1_a74 := a74_f _ _ (upd_at ne_s1_s2 (upd_at ne_s1_b2 upd_same))
    have ne_b2_a74 := a74_f _ _ (upd_at ne_b2_s2 upd_same)
    have ne_s2_a74 := a74_f _ _ upd_same
    have ne_CA_a74 := a74_f _ _ (upd_at ne_CA_s2 (upd_at ne_CA_b2 (upd_at ne_CA_s1 (upd_at ne_CA_b1 (upd_at ne_CA_s0 (upd_at ne_CA_b0 (upd_at ne_CA_a55 (upd_at ne_CA_a50 upd_same))))))))
    refine Own.dup C at_76 (q := 77) rfl rfl ?_
    refine Own.iconst C at_77 (q := 78) rfl (z := 0) (by decide) ?_
    refine Own.iload C at_78 (q := 80) rfl rfl ?_
    refine Own.iastore C at_80 (q := 81) rfl upd_same (by decide) (Nat.le_of_ble_eq_true rfl) a74_g (mem (upd_list (vs' := [(.int z3), (.int (0 : Int32)), (.int (0 : Int32))]) rfl upd_upd) ?_)
    refine Own.dup C at_81 (q := 82) rfl rfl ?_
    refine Own.iconst C at_82 (q := 83) rfl (z := 1) (by decide) ?_
    refine Own.iload C at_83 (q := 85) rfl rfl ?_
    refine Own.iastore C at_85 (q := 86) rfl upd_same (by decide) (Nat.le_of_ble_eq_true rfl) a74_g (mem (upd_list (vs' := [(.int z3), (.int l1), (.int (0 : Int32))]) rfl upd_upd) ?_)
    refine Own.dup C at_86 (q := 87) rfl rfl ?_
    refine Own.iconst C at_87 (q := 88) rfl (z := 2) (by decide) ?_
    refine Own.iload C at_88 (q := 90) rfl rfl ?_
    refine Own.iastore C at_90 (q := 91) rfl upd_same (by decide) (Nat.le_of_ble_eq_true rfl) a74_g (mem (upd_list (vs' := [(.int z3), (.int l1), (.int z34)]) rfl upd_upd) ?_)
    refine Own.lload C at_91 (q := 93) rfl rfl ?_
    refine Own.iconst C at_93 (q := 94) rfl (z := 1) (by decide) ?_
    refine Own.newRef C at_94 (q := 97) rfl (hw _ (List.mem_of_getElem? (i := 5) rfl)) (hw _ (List.mem_of_getElem? (i := 6) rfl)) (by decide) (cap := 1) (by decide) (by decide) (vs := [.null]) rfl (by decide) (by decide) fun a94 a94_f a94_g => ?_
    have ne_a50_a94 := a94_f _ _ (upd_at ne_a50_a74 (upd_at ne_a50_s2 (upd_at ne_a50_b2 (upd_at ne_a50_s1 (upd_at ne_a50_b1 (upd_at ne_a50_s0 (upd_at ne_a50_b0 (upd_at ne_a50_a55 upd_same))))))))
    have ne_a55_a94 := a94_f _ _ (upd_at ne_a55_a74 (upd_at ne_a55_s2 (upd_at ne_a55_b2 (upd_at ne_a55_s1 (upd_at ne_a55_b1 (upd_at ne_a55_s0 (upd_at ne_a55_b0 upd_same)))))))
    have ne_b0_a94 := a94_f _ _ (upd_at ne_b0_a74 (upd_at ne_b0_s2 (upd_at ne_b0_b2 (upd_at ne_b0_s1 (upd_at ne_b0_b1 (upd_at ne_b0_s0 upd_same))))))
    have ne_s0_a94 := a94_f _ _ (upd_at ne_s0_a74 (upd_at ne_s0_s2 (upd_at ne_s0_b2 (upd_at ne_s0_s1 (upd_at ne_s0_b1 upd_same)))))
    have ne_b1_a94 := a94_f _ _ (upd_at ne_b1_a74 (upd_at ne_b1_s2 (upd_at ne_b1_b2 (upd_at ne_b1_s1 upd_same))))
    have ne_s1_a94 := a94_f _ _ (upd_at ne_s1_a74 (upd_at ne_s1_s2 (upd_at ne_s1_b2 upd_same)))
    have ne_b2_a94 := a94_f _ _ (upd_at ne_b2_a74 (upd_at ne_b2_s2 upd_same))
    have ne_s2_a94 := a94_f _ _ (upd_at ne_s2_a74 upd_same)
    have ne_a74_a94 := a94_f _ _ upd_same
    have ne_CA_a94 := a94_f _ _ (upd_at ne_CA_a74 (upd_at ne_CA_s2 (upd_at ne_CA_b2 (upd_at ne_CA_s1 (upd_at ne_CA_b1 (upd_at ne_CA_s0 (upd_at ne_CA_b0 (upd_at ne_CA_a55 (upd_at ne_CA_a50 upd_same)))))))))
    refine Own.dup C at_97 (q := 98) rfl rfl ?_
    refine Own.iconst C at_98 (q := 99) rfl (z := 0) (by decide) ?_
    have sep99 : ∀ x o, (upd (upd (upd (upd (upd (upd (upd (upd (upd (upd (upd (fun _ => none) CA (.inr ((.object "java/lang/Integer"), vs))) a50 (o_Ix .null .null (.long (0 : Int64)) .null .null .null .null .null .null)) a55 (.inr ((.object "java/lang/String"), [(.ref s0), (.ref s1), (.ref s2)]))) b0 (.inr (.byte, [(.int (97 : Int32))]))) s0 (o_Str (.ref b0))) b1 (.inr (.byte, [(.int (98 : Int32))]))) s1 (o_Str (.ref b1))) b2 (.inr (.byte, [(.int (99 : Int32))]))) s2 (o_Str (.ref b2))) a74 (.inr (.int, [(.int z3), (.int l1), (.int z34)]))) a94 (.inr ((.object "java/lang/String"), [.null]))) x = some o → SepO Z (upd (upd (upd (upd (upd (upd (upd (upd (upd (upd (upd (fun _ => none) CA (.inr ((.object "java/lang/Integer"), vs))) a50 (o_Ix .null .null (.long (0 : Int64)) .null .null .null .null .null .null)) a55 (.inr ((.object "java/lang/String"), [(.ref s0), (.ref s1), (.ref s2)]))) b0 (.inr (.byte, [(.int (97 : Int32))]))) s0 (o_Str (.ref b0))) b1 (.inr (.byte, [(.int (98 : Int32))]))) s1 (o_Str (.ref b1))) b2 (.inr (.byte, [(.int (99 : Int32))]))) s2 (o_Str (.ref b2))) a74 (.inr (.int, [(.int z3), (.int l1), (.int z34)]))) a94 (.inr ((.object "java/lang/String"), [.null]))) [.int 116] o := by
      intro x o h
      rcases upd_cases h with ⟨-, rfl⟩ | h
      · exact Or.inl (by intro h; cases h)
      rcases upd_cases h with ⟨-, rfl⟩ | h
      · exact Or.inl (by intro h; cases h)
      rcases upd_cases h with ⟨-, rfl⟩ | h
      · exact ⟨⟨_, _, (hw _ (List.mem_of_getElem? (i := 9) rfl))⟩, Or.inr ⟨_, _, rfl, (upd_at ne_b2_a94 (upd_at ne_b2_a74 (upd_at ne_b2_s2 upd_same))), by decide⟩⟩
      rcases upd_cases h with ⟨-, rfl⟩ | h
      · exact Or.inr (by decide)
      rcases upd_cases h with ⟨-, rfl⟩ | h
      · exact ⟨⟨_, _, (hw _ (List.mem_of_getElem? (i := 9) rfl))⟩, Or.inr ⟨_, _, rfl, (upd_at ne_b1_a94 (upd_at ne_b1_a74 (upd_at ne_b1_s2 (upd_at ne_b1_b2 (upd_at ne_b1_s1 upd_same))))), by decide⟩⟩
      rcases upd_cases h with ⟨-, rfl⟩ | h
      · exact Or.inr (by decide)
      rcases upd_cases h with ⟨-, rfl⟩ | h
      · exact ⟨⟨_, _, (hw _ (List.mem_of_getElem? (i := 9) rfl))⟩, Or.inr ⟨_, _, rfl, (upd_at ne_b0_a94 (upd_at ne_b0_a74 (upd_at ne_b0_s2 (upd_at ne_b0_b2 (upd_at ne_b0_s1 (upd_at ne_b0_b1 (upd_at ne_b0_s0 upd_same))))))), by decide⟩⟩
      rcases upd_cases h with ⟨-, rfl⟩ | h
      · exact Or.inr (by decide)
      rcases upd_cases h with ⟨-, rfl⟩ | h
      · exact Or.inl (by intro h; cases h)
      rcases upd_cases h with ⟨-, rfl⟩ | h
      · exact ⟨⟨_, _, (hw _ (List.mem_of_getElem? (i := 3) rfl))⟩, Or.inl (by decide)⟩
      rcases upd_cases h with ⟨-, rfl⟩ | h
      · exact Or.inl (by intro h; cases h)
      · cases h
    refine Own.ldcT C LT at_99 (q := 101) rfl (hw _ (List.mem_of_getElem? (i := 19) rfl)) (strs hw) hh19 hcw (by decide) (t := "t") (N := 4) (vs := [.int 116]) ⟨by decide, by rfl⟩ (by decide) (by decide) (by decide) (by decide) (by decide) sep99 (fun s C LT b3 s3 b3_f s3_f => ?_)
    have ne_a50_b3 := b3_f _ _ (upd_at ne_a50_a94 (upd_at ne_a50_a74 (upd_at ne_a50_s2 (upd_at ne_a50_b2 (upd_at ne_a50_s1 (upd_at ne_a50_b1 (upd_at ne_a50_s0 (upd_at ne_a50_b0 (upd_at ne_a50_a55 upd_same)))))))))
    have ne_a55_b3 := b3_f _ _ (upd_at ne_a55_a94 (upd_at ne_a55_a74 (upd_at ne_a55_s2 (upd_at ne_a55_b2 (upd_at ne_a55_s1 (upd_at ne_a55_b1 (upd_at ne_a55_s0 (upd_at ne_a55_b0 upd_same))))))))
    have ne_b0_b3 := b3_f _ _ (upd_at ne_b0_a94 (upd_at ne_b0_a74 (upd_at ne_b0_s2 (upd_at ne_b0_b2 (upd_at ne_b0_s1 (upd_at ne_b0_b1 (upd_at ne_b0_s0 upd_same)))))))
    have ne_s0_b3 := b3_f _ _ (upd_at ne_s0_a94 (upd_at ne_s0_a74 (upd_at ne_s0_s2 (upd_at ne_s0_b2 (upd_at ne_s0_s1 (upd_at ne_s0_b1 upd_same))))))
    have ne_b1_b3 := b3_f _ _ (upd_at ne_b1_a94 (upd_at ne_b1_a74 (upd_at ne_b1_s2 (upd_at ne_b1_b2 (upd_at ne_b1_s1 upd_same)))))
    have ne_s1_b3 := b3_f _ _ (upd_at ne_s1_a94 (upd_at ne_s1_a74 (upd_at ne_s1_s2 (upd_at ne_s1_b2 upd_same))))
    have ne_b2_b3 := b3_f _ _ (upd_at ne_b2_a94 (upd_at ne_b2_a74 (upd_at ne_b2_s2 upd_same)))
    have ne_s2_b3 := b3_f _ _ (upd_at ne_s2_a94 (upd_at ne_s2_a74 upd_same))
    have ne_a74_b3 := b3_f _ _ (upd_at ne_a74_a94 upd_same)
    have ne_a94_b3 := b3_f _ _ upd_same
    have ne_CA_b3 := b3_f _ _ (upd_at ne_CA_a94 (upd_at ne_CA_a74 (upd_at ne_CA_s2 (upd_at ne_CA_b2 (upd_at ne_CA_s1 (upd_at ne_CA_b1 (upd_at ne_CA_s0 (upd_at ne_CA_b0 (upd_at ne_CA_a55 (upd_at ne_CA_a50 upd_same))))))))))
    have ne_a50_s3 := s3_f _ _ (upd_at ne_a50_b3 (upd_at ne_a50_a94 (upd_at ne_a50_a74 (upd_at ne_a50_s2 (upd_at ne_a50_b2 (upd_at ne_a50_s1 (upd_at ne_a50_b1 (upd_at ne_a50_s0 (upd_at ne_a50_b0 (upd_at ne_a50_a55 upd_same))))))))))
    have ne_a55_s3 := s3_f _ _ (upd_at ne_a55_b3 (upd_at ne_a55_a94 (upd_at ne_a55_a74 (upd_at ne_a55_s2 (upd_at ne_a55_b2 (upd_at ne_a55_s1 (upd_at ne_a55_b1 (upd_at ne_a55_s0 (upd_at ne_a55_b0 upd_same)))))))))
    have ne_b0_s3 := s3_f _ _ (upd_at ne_b0_b3 (upd_at ne_b0_a94 (upd_at ne_b0_a74 (upd_at ne_b0_s2 (upd_at ne_b0_b2 (upd_at ne_b0_s1 (upd_at ne_b0_b1 (upd_at ne_b0_s0 upd_same))))))))
    have ne_s0_s3 := s3_f _ _ (upd_at ne_s0_b3 (upd_at ne_s0_a94 (upd_at ne_s0_a74 (upd_at ne_s0_s2 (upd_at ne_s0_b2 (upd_at ne_s0_s1 (upd_at ne_s0_b1 upd_same)))))))
    have ne_b1_s3 := s3_f _ _ (upd_at ne_b1_b3 (upd_at ne_b1_a94 (upd_at ne_b1_a74 (upd_at ne_b1_s2 (upd_at ne_b1_b2 (upd_at ne_b1_s1 upd_same))))))
    have ne_s1_s3 := s3_f _ _ (upd_at ne_s1_b3 (upd_at ne_s1_a94 (upd_at ne_s1_a74 (upd_at ne_s1_s2 (upd_at ne_s1_b2 upd_same)))))
    have ne_b2_s3 := s3_f _ _ (upd_at ne_b2_b3 (upd_at ne_b2_a94 (upd_at ne_b2_a74 (upd_at ne_b2_s2 upd_same))))
    have ne_s2_s3 := s3_f _ _ (upd_at ne_s2_b3 (upd_at ne_s2_a94 (upd_at ne_s2_a74 upd_same)))
    have ne_a74_s3 := s3_f _ _ (upd_at ne_a74_b3 (upd_at ne_a74_a94 upd_same))
    have ne_a94_s3 := s3_f _ _ (upd_at ne_a94_b3 upd_same)
    have ne_b3_s3 := s3_f _ _ upd_same
    have ne_CA_s3 := s3_f _ _ (upd_at ne_CA_b3 (upd_at ne_CA_a94 (upd_at ne_CA_a74 (upd_at ne_CA_s2 (upd_at ne_CA_b2 (upd_at ne_CA_s1 (upd_at ne_CA_b1 (upd_at ne_CA_s0 (upd_at ne_CA_b0 (upd_at ne_CA_a55 (upd_at ne_CA_a50 upd_same)))))))))))
    refine Own.aastore C at_101 (q := 102) rfl (upd_at ne_a94_s3 (upd_at ne_a94_b3 upd_same)) (Or.inr ⟨_, rfl, fun _ H => Ins.self (H.2 _ _ upd_same).1⟩) (by decide) (Nat.le_of_ble_eq_true rfl) a94_g (mem (upd_list (vs' := [(.ref s3)]) rfl (upd_in (upd_in upd_upd (Ne.symm ne_a94_b3)) (Ne.symm ne_a94_s3))) ?_)
    refine Own.iconst C at_102 (q := 103) rfl (z := 1) (by decide) ?_
    refine Own.newArr C at_103 (q := 105) rfl (ty := .int) rfl (hw _ (List.mem_of_getElem? (i := 18) rfl)) (by decide) (cap := 1) (by decide) (by decide) (vs := [(.int (0 : Int32))]) rfl (by decide) (by decide) fun a103 a103_f a103_g => ?_
    have ne_a50_a103 := a103_f _ _ (upd_at ne_a50_s3 (upd_at ne_a50_b3 (upd_at ne_a50_a94 (upd_at ne_a50_a74 (upd_at ne_a50_s2 (upd_at ne_a50_b2 (upd_at ne_a50_s1 (upd_at ne_a50_b1 (upd_at ne_a50_s0 (upd_at ne_a50_b0 (upd_at ne_a50_a55 upd_same)))))))))))
    have ne_a55_a103 := a103_f _ _ (upd_at ne_a55_s3 (upd_at ne_a55_b3 (upd_at ne_a55_a94 (upd_at ne_a55_a74 (upd_at ne_a55_s2 (upd_at ne_a55_b2 (upd_at ne_a55_s1 (upd_at ne_a55_b1 (upd_at ne_a55_s0 (upd_at ne_a55_b0 upd_same))))))))))
    have ne_b0_a103 := a103_f _ _ (upd_at ne_b0_s3 (upd_at ne_b0_b3 (upd_at ne_b0_a94 (upd_at ne_b0_a74 (upd_at ne_b0_s2 (upd_at ne_b0_b2 (upd_at ne_b0_s1 (upd_at ne_b0_b1 (upd_at ne_b0_s0 upd_same)))))))))
    have ne_s0_a103 := a103_f _ _ (upd_at ne_s0_s3 (upd_at ne_s0_b3 (upd_at ne_s0_a94 (upd_at ne_s0_a74 (upd_at ne_s0_s2 (upd_at ne_s0_b2 (upd_at ne_s0_s1 (upd_at ne_s0_b1 upd_same))))))))
    have ne_b1_a103 := a103_f _ _ (upd_at ne_b1_s3 (upd_at ne_b1_b3 (upd_at ne_b1_a94 (upd_at ne_b1_a74 (upd_at ne_b1_s2 (upd_at ne_b1_b2 (upd_at ne_b1_s1 upd_same)))))))
    have ne_s1_a103 := a103_f _ _ (upd_at ne_s1_s3 (upd_at ne_s1_b3 (upd_at ne_s1_a94 (upd_at ne_s1_a74 (upd_at ne_s1_s2 (upd_at ne_s1_b2 upd_same))))))
    have ne_b2_a103 := a103_f _ _ (upd_at ne_b2_s3 (upd_at ne_b2_b3 (upd_at ne_b2_a94 (upd_at ne_b2_a74 (upd_at ne_b2_s2 upd_same)))))
    have ne_s2_a103 := a103_f _ _ (upd_at ne_s2_s3 (upd_at ne_s2_b3 (upd_at ne_s2_a94 (upd_at ne_s2_a74 upd_same))))
    have ne_a74_a103 := a103_f _ _ (upd_at ne_a74_s3 (upd_at ne_a74_b3 (upd_at ne_a74_a94 upd_same)))
    have ne_a94_a103 := a103_f _ _ (upd_at ne_a94_s3 (upd_at ne_a94_b3 upd_same))
    have ne_b3_a103 := a103_f _ _ (upd_at ne_b3_s3 upd_same)
    have ne_s3_a103 := a103_f _ _ upd_same
    have ne_CA_a103 := a103_f _ _ (upd_at ne_CA_s3 (upd_at ne_CA_b3 (upd_at ne_CA_a94 (upd_at ne_CA_a74 (upd_at ne_CA_s2 (upd_at ne_CA_b2 (upd_at ne_CA_s1 (upd_at ne_CA_b1 (upd_at ne_CA_s0 (upd_at ne_CA_b0 (upd_at ne_CA_a55 (upd_at ne_CA_a50 upd_same))))))))))))
    refine Own.dup C at_105 (q := 106) rfl rfl ?_
    refine Own.iconst C at_106 (q := 107) rfl (z := 0) (by decide) ?_
    refine Own.iconst C at_107 (q := 108) rfl (z := 1) (by decide) ?_
    refine Own.iastore C at_108 (q := 109) rfl upd_same (by decide) (Nat.le_of_ble_eq_true rfl) a103_g (mem (upd_list (vs' := [(.int (1 : Int32))]) rfl upd_upd) ?_)
    refine Own.iconst C at_109 (q := 110) rfl (z := 1) (by decide) ?_
    refine Own.newArr C at_110 (q := 112) rfl (ty := .long) rfl (hw _ (List.mem_of_getElem? (i := 20) rfl)) (by decide) (cap := 1) (by decide) (by decide) (vs := [(.long (0 : Int64))]) rfl (by decide) (by decide) fun a110 a110_f a110_g => ?_
    have ne_a50_a110 := a110_f _ _ (upd_at ne_a50_a103 (upd_at ne_a50_s3 (upd_at ne_a50_b3 (upd_at ne_a50_a94 (upd_at ne_a50_a74 (upd_at ne_a50_s2 (upd_at ne_a50_b2 (upd_at ne_a50_s1 (upd_at ne_a50_b1 (upd_at ne_a50_s0 (upd_at ne_a50_b0 (upd_at ne_a50_a55 upd_same))))))))))))
    have ne_a55_a110 := a110_f _ _ (upd_at ne_a55_a103 (upd_at ne_a55_s3 (upd_at ne_a55_b3 (upd_at ne_a55_a94 (upd_at ne_a55_a74 (upd_at ne_a55_s2 (upd_at ne_a55_b2 (upd_at ne_a55_s1 (upd_at ne_a55_b1 (upd_at ne_a55_s0 (upd_at ne_a55_b0 upd_same)))))))))))
    have ne_b0_a110 := a110_f _ _ (upd_at ne_b0_a103 (upd_at ne_b0_s3 (upd_at ne_b0_b3 (upd_at ne_b0_a94 (upd_at ne_b0_a74 (upd_at ne_b0_s2 (upd_at ne_b0_b2 (upd_at ne_b0_s1 (upd_at ne_b0_b1 (upd_at ne_b0_s0 upd_same))))))))))
    have ne_s0_a110 := a110_f _ _ (upd_at ne_s0_a103 (upd_at ne_s0_s3 (upd_at ne_s0_b3 (upd_at ne_s0_a94 (upd_at ne_s0_a74 (upd_at ne_s0_s2 (upd_at ne_s0_b2 (upd_at ne_s0_s1 (upd_at ne_s0_b1 upd_same)))))))))
    have ne_b1_a110 := a110_f _ _ (upd_at ne_b1_a103 (upd_at ne_b1_s3 (upd_at ne_b1_b3 (upd_at ne_b1_a94 (upd_at ne_b1_a74 (upd_at ne_b1_s2 (upd_at ne_b1_b2 (upd_at ne_b1_s1 upd_same))))))))
    have ne_s1_a110 := a110_f _ _ (upd_at ne_s1_a103 (upd_at ne_s1_s3 (upd_at ne_s1_b3 (upd_at ne_s1_a94 (upd_at ne_s1_a74 (upd_at ne_s1_s2 (upd_at ne_s1_b2 upd_same)))))))
    have ne_b2_a110 := a110_f _ _ (upd_at ne_b2_a103 (upd_at ne_b2_s3 (upd_at ne_b2_b3 (upd_at ne_b2_a94 (upd_at ne_b2_a74 (upd_at ne_b2_s2 upd_same))))))
    have ne_s2_a110 := a110_f _ _ (upd_at ne_s2_a103 (upd_at ne_s2_s3 (upd_at ne_s2_b3 (upd_at ne_s2_a94 (upd_at ne_s2_a74 upd_same)))))
    have ne_a74_a110 := a110_f _ _ (upd_at ne_a74_a103 (upd_at ne_a74_s3 (upd_at ne_a74_b3 (upd_at ne_a74_a94 upd_same))))
    have ne_a94_a110 := a110_f _ _ (upd_at ne_a94_a103 (upd_at ne_a94_s3 (upd_at ne_a94_b3 upd_same)))
    have ne_b3_a110 := a110_f _ _ (upd_at ne_b3_a103 (upd_at ne_b3_s3 upd_same))
    have ne_s3_a110 := a110_f _ _ (upd_at ne_s3_a103 upd_same)
    have ne_a103_a110 := a110_f _ _ upd_same
    have ne_CA_a110 := a110_f _ _ (upd_at ne_CA_a103 (upd_at ne_CA_s3 (upd_at ne_CA_b3 (upd_at ne_CA_a94 (upd_at ne_CA_a74 (upd_at ne_CA_s2 (upd_at ne_CA_b2 (upd_at ne_CA_s1 (upd_at ne_CA_b1 (upd_at ne_CA_s0 (upd_at ne_CA_b0 (upd_at ne_CA_a55 (upd_at ne_CA_a50 upd_same)))))))))))))
    refine Own.dup C at_112 (q := 113) rfl rfl ?_
    refine Own.iconst C at_113 (q := 114) rfl (z := 0) (by decide) ?_
    refine Own.lload C at_114 (q := 116) rfl rfl ?_
    refine Own.lastore C at_116 (q := 117) rfl upd_same (by decide) (Nat.le_of_ble_eq_true rfl) a110_g (mem (upd_list (vs' := [(.long z47)]) rfl upd_upd) ?_)
    refine Own.iconst C at_117 (q := 118) rfl (z := 2) (by decide) ?_
    refine Own.newArr C at_118 (q := 120) rfl (ty := .int) rfl (hw _ (List.mem_of_getElem? (i := 18) rfl)) (by decide) (cap := 2) (by decide) (by decide) (vs := [(.int (0 : Int32)), (.int (0 : Int32))]) rfl (by decide) (by decide) fun a118 a118_f a118_g => ?_
    have ne_a50_a118 := a118_f _ _ (upd_at ne_a50_a110 (upd_at ne_a50_a103 (upd_at ne_a50_s3 (upd_at ne_a50_b3 (upd_at ne_a50_a94 (upd_at ne_a50_a74 (upd_at ne_a50_s2 (upd_at ne_a50_b2 (upd_at ne_a50_s1 (upd_at ne_a50_b1 (upd_at ne_a50_s0 (upd_at ne_a50_b0 (upd_at ne_a50_a55 upd_same)))))))))))))
    have ne_a55_a118 := a118_f _ _ (upd_at ne_a55_a110 (upd_at ne_a55_a103 (upd_at ne_a55_s3 (upd_at ne_a55_b3 (upd_at ne_a55_a94 (upd_at ne_a55_a74 (upd_at ne_a55_s2 (upd_at ne_a55_b2 (upd_at ne_a55_s1 (upd_at ne_a55_b1 (upd_at ne_a55_s0 (upd_at ne_a55_b0 upd_same))))))))))))
    have ne_b0_a118 := a118_f _ _ (upd_at ne_b0_a110 (upd_at ne_b0_a103 (upd_at ne_b0_s3 (upd_at ne_b0_b3 (upd_at ne_b0_a94 (upd_at ne_b0_a74 (upd_at ne_b0_s2 (upd_at ne_b0_b2 (upd_at ne_b0_s1 (upd_at ne_b0_b1 (upd_at ne_b0_s0 upd_same)))))))))))
    have ne_s0_a118 := a118_f _ _ (upd_at ne_s0_a110 (upd_at ne_s0_a103 (upd_at ne_s0_s3 (upd_at ne_s0_b3 (upd_at ne_s0_a94 (upd_at ne_s0_a74 (upd_at ne_s0_s2 (upd_at ne_s0_b2 (upd_at ne_s0_s1 (upd_at ne_s0_b1 upd_same))))))))))
    have ne_b1_a118 := a118_f _ _ (upd_at ne_b1_a110 (upd_at ne_b1_a103 (upd_at ne_b1_s3 (upd_at ne_b1_b3 (upd_at ne_b1_a94 (upd_at ne_b1_a74 (upd_at ne_b1_s2 (upd_at ne_b1_b2 (upd_at ne_b1_s1 upd_same)))))))))
    have ne_s1_a118 := a118_f _ _ (upd_at ne_s1_a110 (upd_at ne_s1_a103 (upd_at ne_s1_s3 (upd_at ne_s1_b3 (upd_at ne_s1_a94 (upd_at ne_s1_a74 (upd_at ne_s1_s2 (upd_at ne_s1_b2 upd_same))))))))
    have ne_b2_a118 := a118_f _ _ (upd_at ne_b2_a110 (upd_at ne_b2_a103 (upd_at ne_b2_s3 (upd_at ne_b2_b3 (upd_at ne_b2_a94 (upd_at ne_b2_a74 (upd_at ne_b2_s2 upd_same)))))))
    have ne_s2_a118 := a118_f _ _ (upd_at ne_s2_a110 (upd_at ne_s2_a103 (upd_at ne_s2_s3 (upd_at ne_s2_b3 (upd_at ne_s2_a94 (upd_at ne_s2_a74 upd_same))))))
    have ne_a74_a118 := a118_f _ _ (upd_at ne_a74_a110 (upd_at ne_a74_a103 (upd_at ne_a74_s3 (upd_at ne_a74_b3 (upd_at ne_a74_a94 upd_same)))))
    have ne_a94_a118 := a118_f _ _ (upd_at ne_a94_a110 (upd_at ne_a94_a103 (upd_at ne_a94_s3 (upd_at ne_a94_b3 upd_same))))
    have ne_b3_a118 := a118_f _ _ (upd_at ne_b3_a110 (upd_at ne_b3_a103 (upd_at ne_b3_s3 upd_same)))
    have ne_s3_a118 := a118_f _ _ (upd_at ne_s3_a110 (upd_at ne_s3_a103 upd_same))
    have ne_a103_a118 := a118_f _ _ (upd_at ne_a103_a110 upd_same)
    have ne_a110_a118 := a118_f _ _ upd_same
    have ne_CA_a118 := a118_f _ _ (upd_at ne_CA_a110 (upd_at ne_CA_a103 (upd_at ne_CA_s3 (upd_at ne_CA_b3 (upd_at ne_CA_a94 (upd_at ne_CA_a74 (upd_at ne_CA_s2 (upd_at ne_CA_b2 (upd_at ne_CA_s1 (upd_at ne_CA_b1 (upd_at ne_CA_s0 (upd_at ne_CA_b0 (upd_at ne_CA_a55 (upd_at ne_CA_a50 upd_same))))))))))))))
    refine Own.dup C at_120 (q := 121) rfl rfl ?_
    refine Own.iconst C at_121 (q := 122) rfl (z := 0) (by decide) ?_
    refine Own.iconst C at_122 (q := 123) rfl (z := 0) (by decide) ?_
    refine Own.iastore C at_123 (q := 124) rfl upd_same (by decide) (Nat.le_of_ble_eq_true rfl) a118_g (mem (upd_list (vs' := [(.int (0 : Int32)), (.int (0 : Int32))]) rfl upd_upd) ?_)
    refine Own.dup C at_124 (q := 125) rfl rfl ?_
    refine Own.iconst C at_125 (q := 126) rfl (z := 1) (by decide) ?_
    refine Own.iconst C at_126 (q := 127) rfl (z := 0) (by decide) ?_
    refine Own.iastore C at_127 (q := 128) rfl upd_same (by decide) (Nat.le_of_ble_eq_true rfl) a118_g (mem (upd_list (vs' := [(.int (0 : Int32)), (.int (0 : Int32))]) rfl upd_upd) ?_)
    refine Own.iconst C at_128 (q := 129) rfl (z := 0) (by decide) ?_
    refine Own.newArr C at_129 (q := 131) rfl (ty := .int) rfl (hw _ (List.mem_of_getElem? (i := 18) rfl)) (by decide) (cap := 0) (by decide) (by decide) (vs := []) rfl (by decide) (by decide) fun a129 a129_f a129_g => ?_
    have ne_a50_a129 := a129_f _ _ (upd_at ne_a50_a118 (upd_at ne_a50_a110 (upd_at ne_a50_a103 (upd_at ne_a50_s3 (upd_at ne_a50_b3 (upd_at ne_a50_a94 (upd_at ne_a50_a74 (upd_at ne_a50_s2 (upd_at ne_a50_b2 (upd_at ne_a50_s1 (upd_at ne_a50_b1 (upd_at ne_a50_s0 (upd_at ne_a50_b0 (upd_at ne_a50_a55 upd_same))))))))))))))
    have ne_a55_a129 := a129_f _ _ (upd_at ne_a55_a118 (upd_at ne_a55_a110 (upd_at ne_a55_a103 (upd_at ne_a55_s3 (upd_at ne_a55_b3 (upd_at ne_a55_a94 (upd_at ne_a55_a74 (upd_at ne_a55_s2 (upd_at ne_a55_b2 (upd_at ne_a55_s1 (upd_at ne_a55_b1 (upd_at ne_a55_s0 (upd_at ne_a55_b0 upd_same)))))))))))))
    have ne_b0_a129 := a129_f _ _ (upd_at ne_b0_a118 (upd_at ne_b0_a110 (upd_at ne_b0_a103 (upd_at ne_b0_s3 (upd_at ne_b0_b3 (upd_at ne_b0_a94 (upd_at ne_b0_a74 (upd_at ne_b0_s2 (upd_at ne_b0_b2 (upd_at ne_b0_s1 (upd_at ne_b0_b1 (upd_at ne_b0_s0 upd_same))))))))))))
    have ne_s0_a129 := a129_f _ _ (upd_at ne_s0_a118 (upd_at ne_s0_a110 (upd_at ne_s0_a103 (upd_at ne_s0_s3 (upd_at ne_s0_b3 (upd_at ne_s0_a94 (upd_at ne_s0_a74 (upd_at ne_s0_s2 (upd_at ne_s0_b2 (upd_at ne_s0_s1 (upd_at ne_s0_b1 upd_same)))))))))))
    have ne_b1_a129 := a129_f _ _ (upd_at ne_b1_a118 (upd_at ne_b1_a110 (upd_at ne_b1_a103 (upd_at ne_b1_s3 (upd_at ne_b1_b3 (upd_at ne_b1_a94 (upd_at ne_b1_a74 (upd_at ne_b1_s2 (upd_at ne_b1_b2 (upd_at ne_b1_s1 upd_same))))))))))
    have ne_s1_a129 := a129_f _ _ (upd_at ne_s1_a118 (upd_at ne_s1_a110 (upd_at ne_s1_a103 (upd_at ne_s1_s3 (upd_at ne_s1_b3 (upd_at ne_s1_a94 (upd_at ne_s1_a74 (upd_at ne_s1_s2 (upd_at ne_s1_b2 upd_same)))))))))
    have ne_b2_a129 := a129_f _ _ (upd_at ne_b2_a118 (upd_at ne_b2_a110 (upd_at ne_b2_a103 (upd_at ne_b2_s3 (upd_at ne_b2_b3 (upd_at ne_b2_a94 (upd_at ne_b2_a74 (upd_at ne_b2_s2 upd_same))))))))
    have ne_s2_a129 := a129_f _ _ (upd_at ne_s2_a118 (upd_at ne_s2_a110 (upd_at ne_s2_a103 (upd_at ne_s2_s3 (upd_at ne_s2_b3 (upd_at ne_s2_a94 (upd_at ne_s2_a74 upd_same)))))))
    have ne_a74_a129 := a129_f _ _ (upd_at ne_a74_a118 (upd_at ne_a74_a110 (upd_at ne_a74_a103 (upd_at ne_a74_s3 (upd_at ne_a74_b3 (upd_at ne_a74_a94 upd_same))))))
    have ne_a94_a129 := a129_f _ _ (upd_at ne_a94_a118 (upd_at ne_a94_a110 (upd_at ne_a94_a103 (upd_at ne_a94_s3 (upd_at ne_a94_b3 upd_same)))))
    have ne_b3_a129 := a129_f _ _ (upd_at ne_b3_a118 (upd_at ne_b3_a110 (upd_at ne_b3_a103 (upd_at ne_b3_s3 upd_same))))
    have ne_s3_a129 := a129_f _ _ (upd_at ne_s3_a118 (upd_at ne_s3_a110 (upd_at ne_s3_a103 upd_same)))
    have ne_a103_a129 := a129_f _ _ (upd_at ne_a103_a118 (upd_at ne_a103_a110 upd_same))
    have ne_a110_a129 := a129_f _ _ (upd_at ne_a110_a118 upd_same)
    have ne_a118_a129 := a129_f _ _ upd_same
    have ne_CA_a129 := a129_f _ _ (upd_at ne_CA_a118 (upd_at ne_CA_a110 (upd_at ne_CA_a103 (upd_at ne_CA_s3 (upd_at ne_CA_b3 (upd_at ne_CA_a94 (upd_at ne_CA_a74 (upd_at ne_CA_s2 (upd_at ne_CA_b2 (upd_at ne_CA_s1 (upd_at ne_CA_b1 (upd_at ne_CA_s0 (upd_at ne_CA_b0 (upd_at ne_CA_a55 (upd_at ne_CA_a50 upd_same)))))))))))))))
    refine Own.iconst C at_131 (q := 132) rfl (z := 0) (by decide) ?_
    refine Own.newArr C at_132 (q := 134) rfl (ty := .int) rfl (hw _ (List.mem_of_getElem? (i := 18) rfl)) (by decide) (cap := 0) (by decide) (by decide) (vs := []) rfl (by decide) (by decide) fun a132 a132_f a132_g => ?_
    have ne_a50_a132 := a132_f _ _ (upd_at ne_a50_a129 (upd_at ne_a50_a118 (upd_at ne_a50_a110 (upd_at ne_a50_a103 (upd_at ne_a50_s3 (upd_at ne_a50_b3 (upd_at ne_a50_a94 (upd_at ne_a50_a74 (upd_at ne_a50_s2 (upd_at ne_a50_b2 (upd_at ne_a50_s1 (upd_at ne_a50_b1 (upd_at ne_a50_s0 (upd_at ne_a50_b0 (upd_at ne_a50_a55 upd_same)))))))))))))))
    have ne_a55_a132 := a132_f _ _ (upd_at ne_a55_a129 (upd_at ne_a55_a118 (upd_at ne_a55_a110 (upd_at ne_a55_a103 (upd_at ne_a55_s3 (upd_at ne_a55_b3 (upd_at ne_a55_a94 (upd_at ne_a55_a74 (upd_at ne_a55_s2 (upd_at ne_a55_b2 (upd_at ne_a55_s1 (upd_at ne_a55_b1 (upd_at ne_a55_s0 (upd_at ne_a55_b0 upd_same))))))))))))))
    have ne_b0_a132 := a132_f _ _ (upd_at ne_b0_a129 (upd_at ne_b0_a118 (upd_at ne_b0_a110 (upd_at ne_b0_a103 (upd_at ne_b0_s3 (upd_at ne_b0_b3 (upd_at ne_b0_a94 (upd_at ne_b0_a74 (upd_at ne_b0_s2 (upd_at ne_b0_b2 (upd_at ne_b0_s1 (upd_at ne_b0_b1 (upd_at ne_b0_s0 upd_same)))))))))))))
    have ne_s0_a132 := a132_f _ _ (upd_at ne_s0_a129 (upd_at ne_s0_a118 (upd_at ne_s0_a110 (upd_at ne_s0_a103 (upd_at ne_s0_s3 (upd_at ne_s0_b3 (upd_at ne_s0_a94 (upd_at ne_s0_a74 (upd_at ne_s0_s2 (upd_at ne_s0_b2 (upd_at ne_s0_s1 (upd_at ne_s0_b1 upd_same))))))))))))
    have ne_b1_a132 := a132_f _ _ (upd_at ne_b1_a129 (upd_at ne_b1_a118 (upd_at ne_b1_a110 (upd_at ne_b1_a103 (upd_at ne_b1_s3 (upd_at ne_b1_b3 (upd_at ne_b1_a94 (upd_at ne_b1_a74 (upd_at ne_b1_s2 (upd_at ne_b1_b2 (upd_at ne_b1_s1 upd_same)))))))))))
    have ne_s1_a132 := a132_f _ _ (upd_at ne_s1_a129 (upd_at ne_s1_a118 (upd_at ne_s1_a110 (upd_at ne_s1_a103 (upd_at ne_s1_s3 (upd_at ne_s1_b3 (upd_at ne_s1_a94 (upd_at ne_s1_a74 (upd_at ne_s1_s2 (upd_at ne_s1_b2 upd_same))))))))))
    have ne_b2_a132 := a132_f _ _ (upd_at ne_b2_a129 (upd_at ne_b2_a118 (upd_at ne_b2_a110 (upd_at ne_b2_a103 (upd_at ne_b2_s3 (upd_at ne_b2_b3 (upd_at ne_b2_a94 (upd_at ne_b2_a74 (upd_at ne_b2_s2 upd_same)))))))))
    have ne_s2_a132 := a132_f _ _ (upd_at ne_s2_a129 (upd_at ne_s2_a118 (upd_at ne_s2_a110 (upd_at ne_s2_a103 (upd_at ne_s2_s3 (upd_at ne_s2_b3 (upd_at ne_s2_a94 (upd_at ne_s2_a74 upd_same))))))))
    have ne_a74_a132 := a132_f _ _ (upd_at ne_a74_a129 (upd_at ne_a74_a118 (upd_at ne_a74_a110 (upd_at ne_a74_a103 (upd_at ne_a74_s3 (upd_at ne_a74_b3 (upd_at ne_a74_a94 upd_same)))))))
    have ne_a94_a132 := a132_f _ _ (upd_at ne_a94_a129 (upd_at ne_a94_a118 (upd_at ne_a94_a110 (upd_at ne_a94_a103 (upd_at ne_a94_s3 (upd_at ne_a94_b3 upd_same))))))
    have ne_b3_a132 := a132_f _ _ (upd_at ne_b3_a129 (upd_at ne_b3_a118 (upd_at ne_b3_a110 (upd_at ne_b3_a103 (upd_at ne_b3_s3 upd_same)))))
    have ne_s3_a132 := a132_f _ _ (upd_at ne_s3_a129 (upd_at ne_s3_a118 (upd_at ne_s3_a110 (upd_at ne_s3_a103 upd_same))))
    have ne_a103_a132 := a132_f _ _ (upd_at ne_a103_a129 (upd_at ne_a103_a118 (upd_at ne_a103_a110 upd_same)))
    have ne_a110_a132 := a132_f _ _ (upd_at ne_a110_a129 (upd_at ne_a110_a118 upd_same))
    have ne_a118_a132 := a132_f _ _ (upd_at ne_a118_a129 upd_same)
    have ne_a129_a132 := a132_f _ _ upd_same
    have ne_CA_a132 := a132_f _ _ (upd_at ne_CA_a129 (upd_at ne_CA_a118 (upd_at ne_CA_a110 (upd_at ne_CA_a103 (upd_at ne_CA_s3 (upd_at ne_CA_b3 (upd_at ne_CA_a94 (upd_at ne_CA_a74 (upd_at ne_CA_s2 (upd_at ne_CA_b2 (upd_at ne_CA_s1 (upd_at ne_CA_b1 (upd_at ne_CA_s0 (upd_at ne_CA_b0 (upd_at ne_CA_a55 (upd_at ne_CA_a50 upd_same))))))))))))))))
    refine Own.callI C at_134 (q := 137) rfl rfl (hw _ (List.mem_of_getElem? (i := 21) rfl)) (hw _ (List.mem_of_getElem? (i := 22) rfl)) (hw _ (List.mem_of_getElem? (i := 4) rfl)) (hw _ (List.mem_of_getElem? (i := 23) rfl)) (by decide) (W := 1) (rm := rm_1) (argsL := [(.ref a55), (.ref a74), (.long z47), (.ref a94), (.ref a103), (.ref a110), (.ref a118), (.ref a129), (.ref a132)]) (st := [(.ref a50)]) (lenOf pd_10 rfl) rfl rfl (Nat.le_of_eq rfl) (by decide) (by decide) (by decide) (by decide) (c_ix l Z a0 hw n0 _ a50 a55 a74 z47 a94 a103 a110 a118 a129 a132 CA vs SH SC hvs s0 s1 s2 s3 b0 b1 b2 b3 z3 l1 z34 (upd_at ne_a55_a132 (upd_at ne_a55_a129 (upd_at ne_a55_a118 (upd_at ne_a55_a110 (upd_at ne_a55_a103 (upd_at ne_a55_s3 (upd_at ne_a55_b3 (upd_at ne_a55_a94 (upd_at ne_a55_a74 (upd_at ne_a55_s2 (upd_at ne_a55_b2 (upd_at ne_a55_s1 (upd_at ne_a55_b1 (upd_at ne_a55_s0 (upd_at ne_a55_b0 upd_same))))))))))))))) (upd_at ne_a74_a132 (upd_at ne_a74_a129 (upd_at ne_a74_a118 (upd_at ne_a74_a110 (upd_at ne_a74_a103 (upd_at ne_a74_s3 (upd_at ne_a74_b3 (upd_at ne_a74_a94 upd_same)))))))) (upd_at ne_a94_a132 (upd_at ne_a94_a129 (upd_at ne_a94_a118 (upd_at ne_a94_a110 (upd_at ne_a94_a103 (upd_at ne_a94_s3 (upd_at ne_a94_b3 upd_same))))))) (upd_at ne_a103_a132 (upd_at ne_a103_a129 (upd_at ne_a103_a118 (upd_at ne_a103_a110 upd_same)))) (upd_at ne_a110_a132 (upd_at ne_a110_a129 (upd_at ne_a110_a118 upd_same))) (upd_at ne_a118_a132 (upd_at ne_a118_a129 upd_same)) (upd_at ne_a129_a132 upd_same) upd_same (upd_at ne_s0_a132 (upd_at ne_s0_a129 (upd_at ne_s0_a118 (upd_at ne_s0_a110 (upd_at ne_s0_a103 (upd_at ne_s0_s3 (upd_at ne_s0_b3 (upd_at ne_s0_a94 (upd_at ne_s0_a74 (upd_at ne_s0_s2 (upd_at ne_s0_b2 (upd_at ne_s0_s1 (upd_at ne_s0_b1 upd_same))))))))))))) (upd_at ne_s1_a132 (upd_at ne_s1_a129 (upd_at ne_s1_a118 (upd_at ne_s1_a110 (upd_at ne_s1_a103 (upd_at ne_s1_s3 (upd_at ne_s1_b3 (upd_at ne_s1_a94 (upd_at ne_s1_a74 (upd_at ne_s1_s2 (upd_at ne_s1_b2 upd_same))))))))))) (upd_at ne_s2_a132 (upd_at ne_s2_a129 (upd_at ne_s2_a118 (upd_at ne_s2_a110 (upd_at ne_s2_a103 (upd_at ne_s2_s3 (upd_at ne_s2_b3 (upd_at ne_s2_a94 (upd_at ne_s2_a74 upd_same))))))))) (upd_at ne_s3_a132 (upd_at ne_s3_a129 (upd_at ne_s3_a118 (upd_at ne_s3_a110 (upd_at ne_s3_a103 upd_same))))) (upd_at ne_b0_a132 (upd_at ne_b0_a129 (upd_at ne_b0_a118 (upd_at ne_b0_a110 (upd_at ne_b0_a103 (upd_at ne_b0_s3 (upd_at ne_b0_b3 (upd_at ne_b0_a94 (upd_at ne_b0_a74 (upd_at ne_b0_s2 (upd_at ne_b0_b2 (upd_at ne_b0_s1 (upd_at ne_b0_b1 (upd_at ne_b0_s0 upd_same)))))))))))))) (upd_at ne_b1_a132 (upd_at ne_b1_a129 (upd_at ne_b1_a118 (upd_at ne_b1_a110 (upd_at ne_b1_a103 (upd_at ne_b1_s3 (upd_at ne_b1_b3 (upd_at ne_b1_a94 (upd_at ne_b1_a74 (upd_at ne_b1_s2 (upd_at ne_b1_b2 (upd_at ne_b1_s1 upd_same)))))))))))) (upd_at ne_b2_a132 (upd_at ne_b2_a129 (upd_at ne_b2_a118 (upd_at ne_b2_a110 (upd_at ne_b2_a103 (upd_at ne_b2_s3 (upd_at ne_b2_b3 (upd_at ne_b2_a94 (upd_at ne_b2_a74 (upd_at ne_b2_s2 upd_same)))))))))) (upd_at ne_b3_a132 (upd_at ne_b3_a129 (upd_at ne_b3_a118 (upd_at ne_b3_a110 (upd_at ne_b3_a103 (upd_at ne_b3_s3 upd_same)))))) (upd_at ne_CA_a132 (upd_at ne_CA_a129 (upd_at ne_CA_a118 (upd_at ne_CA_a110 (upd_at ne_CA_a103 (upd_at ne_CA_s3 (upd_at ne_CA_b3 (upd_at ne_CA_a94 (upd_at ne_CA_a74 (upd_at ne_CA_s2 (upd_at ne_CA_b2 (upd_at ne_CA_s1 (upd_at ne_CA_b1 (upd_at ne_CA_s0 (upd_at ne_CA_b0 (upd_at ne_CA_a55 (upd_at ne_CA_a50 upd_same))))))))))))))))) (nneg q_0) (nneg q_1) (nneg q_2) (by rw [e47, e46, e43, e42, e39, Int64.zero_add]) (tok q_t q_L) (upd_at ne_a50_a132 (upd_at ne_a50_a129 (upd_at ne_a50_a118 (upd_at ne_a50_a110 (upd_at ne_a50_a103 (upd_at ne_a50_s3 (upd_at ne_a50_b3 (upd_at ne_a50_a94 (upd_at ne_a50_a74 (upd_at ne_a50_s2 (upd_at ne_a50_b2 (upd_at ne_a50_s1 (upd_at ne_a50_b1 (upd_at ne_a50_s0 (upd_at ne_a50_b0 (upd_at ne_a50_a55 upd_same)))))))))))))))) a50_g a55_g a74_g a94_g a103_g a110_g a118_g a129_g a132_g) (fun s C PP => nxV fun μ134 h134 => ?_)
    subst h134
    refine Own.mem (upd_in (upd_in (upd_in (upd_in (upd_in (upd_in (upd_in (upd_in (upd_in (upd_in (upd_in (upd_in (upd_in (upd_in (upd_in (upd_in upd_upd (Ne.symm ne_a50_a55)) (Ne.symm ne_a50_b0)) (Ne.symm ne_a50_s0)) (Ne.symm ne_a50_b1)) (Ne.symm ne_a50_s1)) (Ne.symm ne_a50_b2)) (Ne.symm ne_a50_s2)) (Ne.symm ne_a50_a74)) (Ne.symm ne_a50_a94)) (Ne.symm ne_a50_b3)) (Ne.symm ne_a50_s3)) (Ne.symm ne_a50_a103)) (Ne.symm ne_a50_a110)) (Ne.symm ne_a50_a118)) (Ne.symm ne_a50_a129)) (Ne.symm ne_a50_a132)) ?_
    refine Own.astore C at_137 (q := 139) rfl (L' := #[.val (.int x1), .val (.int x2), .val (.int x3), .val (.int x4), .val (.int z3), .val (.int l1), .val (.int z34), .val (.long z47), .second, .val (.ref a50), .unset, .unset, .unset, .unset, .unset, .unset, .unset, .unset, .unset, .unset, .unset, .unset, .unset, .unset, .unset, .unset]) rfl rfl ?_
    have AW := avg_w q_L k_2 q_t
    have QA := AW.nn
    obtain ⟨av, eav⟩ : ∃ av : UInt64, FP.ddiv (FP.l2d z47) (FP.i2d 3) = av := ⟨_, rfl⟩
    rw [eav] at AW
    obtain ⟨w0, C0⟩ := chain q_0 k_0 q_L AW
    obtain ⟨v0, ev0⟩ : ∃ v : UInt64, norm z3 av = v := ⟨_, rfl⟩
    obtain ⟨V0, V0a, V0b⟩ := chain_v C0 ev0
    obtain ⟨w1, C1⟩ := chain q_1 k_1 q_L AW
    obtain ⟨v1, ev1⟩ : ∃ v : UInt64, norm l1 av = v := ⟨_, rfl⟩
    obtain ⟨V1, V1a, V1b⟩ := chain_v C1 ev1
    obtain ⟨w2, C2⟩ := chain q_2 k_2 q_L AW
    obtain ⟨v2, ev2⟩ : ∃ v : UInt64, norm z34 av = v := ⟨_, rfl⟩
    obtain ⟨V2, V2a, V2b⟩ := chain_v C2 ev2
    have M2 : v2 = cK := ev2 ▸ mean_norm q_2 q_L k_2 AW
    refine Own.new C at_139 (q := 142) rfl (hw _ (List.mem_of_getElem? (i := 118) rfl)) (hw _ (List.mem_of_getElem? (i := 119) rfl)) (hw _ (List.mem_of_getElem? (i := 120) rfl)) (lay_Bm hw) (by decide) (by decide) (by decide) fun a139 a139_f a139_g => ?_
    have ne_a50_a139 := a139_f _ _ (upd_at ne_a50_a132 (upd_at ne_a50_a129 (upd_at ne_a50_a118 (upd_at ne_a50_a110 (upd_at ne_a50_a103 (upd_at ne_a50_s3 (upd_at ne_a50_b3 (upd_at ne_a50_a94 (upd_at ne_a50_a74 (upd_at ne_a50_s2 (upd_at ne_a50_b2 (upd_at ne_a50_s1 (upd_at ne_a50_b1 (upd_at ne_a50_s0 (upd_at ne_a50_b0 (upd_at ne_a50_a55 upd_same))))))))))))))))
    have ne_a55_a139 := a139_f _ _ (upd_at ne_a55_a132 (upd_at ne_a55_a129 (upd_at ne_a55_a118 (upd_at ne_a55_a110 (upd_at ne_a55_a103 (upd_at ne_a55_s3 (upd_at ne_a55_b3 (upd_at ne_a55_a94 (upd_at ne_a55_a74 (upd_at ne_a55_s2 (upd_at ne_a55_b2 (upd_at ne_a55_s1 (upd_at ne_a55_b1 (upd_at ne_a55_s0 (upd_at ne_a55_b0 upd_same)))))))))))))))
    have ne_b0_a139 := a139_f _ _ (upd_at ne_b0_a132 (upd_at ne_b0_a129 (upd_at ne_b0_a118 (upd_at ne_b0_a110 (upd_at ne_b0_a103 (upd_at ne_b0_s3 (upd_at ne_b0_b3 (upd_at ne_b0_a94 (upd_at ne_b0_a74 (upd_at ne_b0_s2 (upd_at ne_b0_b2 (upd_at ne_b0_s1 (upd_at ne_b0_b1 (upd_at ne_b0_s0 upd_same))))))))))))))
    have ne_s0_a139 := a139_f _ _ (upd_at ne_s0_a132 (upd_at ne_s0_a129 (upd_at ne_s0_a118 (upd_at ne_s0_a110 (upd_at ne_s0_a103 (upd_at ne_s0_s3 (upd_at ne_s0_b3 (upd_at ne_s0_a94 (upd_at ne_s0_a74 (upd_at ne_s0_s2 (upd_at ne_s0_b2 (upd_at ne_s0_s1 (upd_at ne_s0_b1 upd_same)))))))))))))
    have ne_b1_a139 := a139_f _ _ (upd_at ne_b1_a132 (upd_at ne_b1_a129 (upd_at ne_b1_a118 (upd_at ne_b1_a110 (upd_at ne_b1_a103 (upd_at ne_b1_s3 (upd_at ne_b1_b3 (upd_at ne_b1_a94 (upd_at ne_b1_a74 (upd_at ne_b1_s2 (upd_at ne_b1_b2 (upd_at ne_b1_s1 upd_same))))))))))))
    have ne_s1_a139 := a139_f _ _ (upd_at ne_s1_a132 (upd_at ne_s1_a129 (upd_at ne_s1_a118 (upd_at ne_s1_a110 (upd_at ne_s1_a103 (upd_at ne_s1_s3 (upd_at ne_s1_b3 (upd_at ne_s1_a94 (upd_at ne_s1_a74 (upd_at ne_s1_s2 (upd_at ne_s1_b2 upd_same)))))))))))
    have ne_b2_a139 := a139_f _ _ (upd_at ne_b2_a132 (upd_at ne_b2_a129 (upd_at ne_b2_a118 (upd_at ne_b2_a110 (upd_at ne_b2_a103 (upd_at ne_b2_s3 (upd_at ne_b2_b3 (upd_at ne_b2_a94 (upd_at ne_b2_a74 (upd_at ne_b2_s2 upd_same))))))))))
    have ne_s2_a139 := a139_f _ _ (upd_at ne_s2_a132 (upd_at ne_s2_a129 (upd_at ne_s2_a118 (upd_at ne_s2_a110 (upd_at ne_s2_a103 (upd_at ne_s2_s3 (upd_at ne_s2_b3 (upd_at ne_s2_a94 (upd_at ne_s2_a74 upd_same)))))))))
    have ne_a74_a139 := a139_f _ _ (upd_at ne_a74_a132 (upd_at ne_a74_a129 (upd_at ne_a74_a118 (upd_at ne_a74_a110 (upd_at ne_a74_a103 (upd_at ne_a74_s3 (upd_at ne_a74_b3 (upd_at ne_a74_a94 upd_same))))))))
    have ne_a94_a139 := a139_f _ _ (upd_at ne_a94_a132 (upd_at ne_a94_a129 (upd_at ne_a94_a118 (upd_at ne_a94_a110 (upd_at ne_a94_a103 (upd_at ne_a94_s3 (upd_at ne_a94_b3 upd_same)))))))
    have ne_b3_a139 := a139_f _ _ (upd_at ne_b3_a132 (upd_at ne_b3_a129 (upd_at ne_b3_a118 (upd_at ne_b3_a110 (upd_at ne_b3_a103 (upd_at ne_b3_s3 upd_same))))))
    have ne_s3_a139 := a139_f _ _ (upd_at ne_s3_a132 (upd_at ne_s3_a129 (upd_at ne_s3_a118 (upd_at ne_s3_a110 (upd_at ne_s3_a103 upd_same)))))
    have ne_a103_a139 := a139_f _ _ (upd_at ne_a103_a132 (upd_at ne_a103_a129 (upd_at ne_a103_a118 (upd_at ne_a103_a110 upd_same))))
    have ne_a110_a139 := a139_f _ _ (upd_at ne_a110_a132 (upd_at ne_a110_a129 (upd_at ne_a110_a118 upd_same)))
    have ne_a118_a139 := a139_f _ _ (upd_at ne_a118_a132 (upd_at ne_a118_a129 upd_same))
    have ne_a129_a139 := a139_f _ _ (upd_at ne_a129_a132 upd_same)
    have ne_a132_a139 := a139_f _ _ upd_same
    have ne_CA_a139 := a139_f _ _ (upd_at ne_CA_a132 (upd_at ne_CA_a129 (upd_at ne_CA_a118 (upd_at ne_CA_a110 (upd_at ne_CA_a103 (upd_at ne_CA_s3 (upd_at ne_CA_b3 (upd_at ne_CA_a94 (upd_at ne_CA_a74 (upd_at ne_CA_s2 (upd_at ne_CA_b2 (upd_at ne_CA_s1 (upd_at ne_CA_b1 (upd_at ne_CA_s0 (upd_at ne_CA_b0 (upd_at ne_CA_a55 (upd_at ne_CA_a50 upd_same)))))))))))))))))
    refine Own.dup C at_142 (q := 143) rfl rfl ?_
    refine Own.aload C at_143 (q := 145) rfl rfl rfl ?_
    refine Own.callI C at_145 (q := 148) rfl rfl (hw _ (List.mem_of_getElem? (i := 121) rfl)) (hw _ (List.mem_of_getElem? (i := 122) rfl)) (hw _ (List.mem_of_getElem? (i := 120) rfl)) (hw _ (List.mem_of_getElem? (i := 123) rfl)) (by decide) (W := 1) (rm := rm_13) (argsL := [(.ref a50)]) (st := [(.ref a139)]) (lenOf pd_11 rfl) rfl rfl (Nat.le_of_eq rfl) (by decide) (by decide) (by decide) (by decide) (c_bm l Z a0 hw n0 _ a139 a50 a55 a74 a94 a103 a110 a118 a129 a132 s0 s1 s2 z3 l1 z34 z47 av v0 v1 v2 QA eav (nn_of C0 ev0) (nn_of C1 ev1) (nn_of C2 ev2) upd_same a139_g (upd_at ne_a50_a139 (upd_at ne_a50_a132 (upd_at ne_a50_a129 (upd_at ne_a50_a118 (upd_at ne_a50_a110 (upd_at ne_a50_a103 (upd_at ne_a50_s3 (upd_at ne_a50_b3 (upd_at ne_a50_a94 (upd_at ne_a50_a74 (upd_at ne_a50_s2 (upd_at ne_a50_b2 (upd_at ne_a50_s1 (upd_at ne_a50_b1 (upd_at ne_a50_s0 (upd_at ne_a50_b0 (upd_at ne_a50_a55 upd_same))))))))))))))))) (upd_at ne_a55_a139 (upd_at ne_a55_a132 (upd_at ne_a55_a129 (upd_at ne_a55_a118 (upd_at ne_a55_a110 (upd_at ne_a55_a103 (upd_at ne_a55_s3 (upd_at ne_a55_b3 (upd_at ne_a55_a94 (upd_at ne_a55_a74 (upd_at ne_a55_s2 (upd_at ne_a55_b2 (upd_at ne_a55_s1 (upd_at ne_a55_b1 (upd_at ne_a55_s0 (upd_at ne_a55_b0 upd_same)))))))))))))))) (upd_at ne_a74_a139 (upd_at ne_a74_a132 (upd_at ne_a74_a129 (upd_at ne_a74_a118 (upd_at ne_a74_a110 (upd_at ne_a74_a103 (upd_at ne_a74_s3 (upd_at ne_a74_b3 (upd_at ne_a74_a94 upd_same))))))))) (upd_at ne_a118_a139 (upd_at ne_a118_a132 (upd_at ne_a118_a129 upd_same)))) (fun s C PP => nxV fun μ145 h145 => ?_)
    obtain ⟨d, nd, d_f, d_g, rfl⟩ := h145
    have ne_a50_d := d_f _ _ (upd_at ne_a50_a139 (upd_at ne_a50_a132 (upd_at ne_a50_a129 (upd_at ne_a50_a118 (upd_at ne_a50_a110 (upd_at ne_a50_a103 (upd_at ne_a50_s3 (upd_at ne_a50_b3 (upd_at ne_a50_a94 (upd_at ne_a50_a74 (upd_at ne_a50_s2 (upd_at ne_a50_b2 (upd_at ne_a50_s1 (upd_at ne_a50_b1 (upd_at ne_a50_s0 (upd_at ne_a50_b0 (upd_at ne_a50_a55 upd_same)))))))))))))))))
    have ne_a55_d := d_f _ _ (upd_at ne_a55_a139 (upd_at ne_a55_a132 (upd_at ne_a55_a129 (upd_at ne_a55_a118 (upd_at ne_a55_a110 (upd_at ne_a55_a103 (upd_at ne_a55_s3 (upd_at ne_a55_b3 (upd_at ne_a55_a94 (upd_at ne_a55_a74 (upd_at ne_a55_s2 (upd_at ne_a55_b2 (upd_at ne_a55_s1 (upd_at ne_a55_b1 (upd_at ne_a55_s0 (upd_at ne_a55_b0 upd_same))))))))))))))))
    have ne_b0_d := d_f _ _ (upd_at ne_b0_a139 (upd_at ne_b0_a132 (upd_at ne_b0_a129 (upd_at ne_b0_a118 (upd_at ne_b0_a110 (upd_at ne_b0_a103 (upd_at ne_b0_s3 (upd_at ne_b0_b3 (upd_at ne_b0_a94 (upd_at ne_b0_a74 (upd_at ne_b0_s2 (upd_at ne_b0_b2 (upd_at ne_b0_s1 (upd_at ne_b0_b1 (upd_at ne_b0_s0 upd_same)))))))))))))))
    have ne_s0_d := d_f _ _ (upd_at ne_s0_a139 (upd_at ne_s0_a132 (upd_at ne_s0_a129 (upd_at ne_s0_a118 (upd_at ne_s0_a110 (upd_at ne_s0_a103 (upd_at ne_s0_s3 (upd_at ne_s0_b3 (upd_at ne_s0_a94 (upd_at ne_s0_a74 (upd_at ne_s0_s2 (upd_at ne_s0_b2 (upd_at ne_s0_s1 (upd_at ne_s0_b1 upd_same))))))))))))))
    have ne_b1_d := d_f _ _ (upd_at ne_b1_a139 (upd_at ne_b1_a132 (upd_at ne_b1_a129 (upd_at ne_b1_a118 (upd_at ne_b1_a110 (upd_at ne_b1_a103 (upd_at ne_b1_s3 (upd_at ne_b1_b3 (upd_at ne_b1_a94 (upd_at ne_b1_a74 (upd_at ne_b1_s2 (upd_at ne_b1_b2 (upd_at ne_b1_s1 upd_same)))))))))))))
    have ne_s1_d := d_f _ _ (upd_at ne_s1_a139 (upd_at ne_s1_a132 (upd_at ne_s1_a129 (upd_at ne_s1_a118 (upd_at ne_s1_a110 (upd_at ne_s1_a103 (upd_at ne_s1_s3 (upd_at ne_s1_b3 (upd_at ne_s1_a94 (upd_at ne_s1_a74 (upd_at ne_s1_s2 (upd_at ne_s1_b2 upd_same))))))))))))
    have ne_b2_d := d_f _ _ (upd_at ne_b2_a139 (upd_at ne_b2_a132 (upd_at ne_b2_a129 (upd_at ne_b2_a118 (upd_at ne_b2_a110 (upd_at ne_b2_a103 (upd_at ne_b2_s3 (upd_at ne_b2_b3 (upd_at ne_b2_a94 (upd_at ne_b2_a74 (upd_at ne_b2_s2 upd_same)))))))))))
    have ne_s2_d := d_f _ _ (upd_at ne_s2_a139 (upd_at ne_s2_a132 (upd_at ne_s2_a129 (upd_at ne_s2_a118 (upd_at ne_s2_a110 (upd_at ne_s2_a103 (upd_at ne_s2_s3 (upd_at ne_s2_b3 (upd_at ne_s2_a94 (upd_at ne_s2_a74 upd_same))))))))))
    have ne_a74_d := d_f _ _ (upd_at ne_a74_a139 (upd_at ne_a74_a132 (upd_at ne_a74_a129 (upd_at ne_a74_a118 (upd_at ne_a74_a110 (upd_at ne_a74_a103 (upd_at ne_a74_s3 (upd_at ne_a74_b3 (upd_at ne_a74_a94 upd_same)))))))))
    have ne_a94_d := d_f _ _ (upd_at ne_a94_a139 (upd_at ne_a94_a132 (upd_at ne_a94_a129 (upd_at ne_a94_a118 (upd_at ne_a94_a110 (upd_at ne_a94_a103 (upd_at ne_a94_s3 (upd_at ne_a94_b3 upd_same))))))))
    have ne_b3_d := d_f _ _ (upd_at ne_b3_a139 (upd_at ne_b3_a132 (upd_at ne_b3_a129 (upd_at ne_b3_a118 (upd_at ne_b3_a110 (upd_at ne_b3_a103 (upd_at ne_b3_s3 upd_same)))))))
    have ne_s3_d := d_f _ _ (upd_at ne_s3_a139 (upd_at ne_s3_a132 (upd_at ne_s3_a129 (upd_at ne_s3_a118 (upd_at ne_s3_a110 (upd_at ne_s3_a103 upd_same))))))
    have ne_a103_d := d_f _ _ (upd_at ne_a103_a139 (upd_at ne_a103_a132 (upd_at ne_a103_a129 (upd_at ne_a103_a118 (upd_at ne_a103_a110 upd_same)))))
    have ne_a110_d := d_f _ _ (upd_at ne_a110_a139 (upd_at ne_a110_a132 (upd_at ne_a110_a129 (upd_at ne_a110_a118 upd_same))))
    have ne_a118_d := d_f _ _ (upd_at ne_a118_a139 (upd_at ne_a118_a132 (upd_at ne_a118_a129 upd_same)))
    have ne_a129_d := d_f _ _ (upd_at ne_a129_a139 (upd_at ne_a129_a132 upd_same))
    have ne_a132_d := d_f _ _ (upd_at ne_a132_a139 upd_same)
    have ne_a139_d := nd
    have ne_CA_d := d_f _ _ (upd_at ne_CA_a139 (upd_at ne_CA_a132 (upd_at ne_CA_a129 (upd_at ne_CA_a118 (upd_at ne_CA_a110 (upd_at ne_CA_a103 (upd_at ne_CA_s3 (upd_at ne_CA_b3 (upd_at ne_CA_a94 (upd_at ne_CA_a74 (upd_at ne_CA_s2 (upd_at ne_CA_b2 (upd_at ne_CA_s1 (upd_at ne_CA_b1 (upd_at ne_CA_s0 (upd_at ne_CA_b0 (upd_at ne_CA_a55 (upd_at ne_CA_a50 upd_same))))))))))))))))))
    refine Own.mem (congrArg (fun m' => upd m' d (.inr (.double, [(.double v0), (.double v1), (.double v2)]))) upd_upd) ?_
    refine Own.astore C at_148 (q := 150) rfl (L' := #[.val (.int x1), .val (.int x2), .val (.int x3), .val (.int x4), .val (.int z3), .val (.int l1), .val (.int z34), .val (.long z47), .second, .val (.ref a50), .val (.ref a139), .unset, .unset, .unset, .unset, .unset, .unset, .unset, .unset, .unset, .unset, .unset, .unset, .unset, .unset, .unset]) rfl rfl ?_
    refine Own.iloadN C at_150 (q := 151) rfl rfl ?_
    refine Own.ldcI C at_151 (q := 153) rfl (hw _ (List.mem_of_getElem? (i := 152) rfl)) ?_
    refine Own.iand C at_153 (q := 154) rfl fun z153 e153 => ?_
    refine Own.i2d C at_154 (q := 155) rfl ?_
    refine Own.ldcD C at_155 (q := 158) rfl (hw _ (List.mem_of_getElem? (i := 153) rfl)) ?_
    obtain ⟨ai, q_i, k_i⟩ := m20 e153
    obtain ⟨idf, eidf⟩ : ∃ d : UInt64, FP.ddiv (FP.i2d z153) cD = d := ⟨_, rfl⟩
    refine Own.ddivE C at_158 (q := 159) rfl (idf_nn q_i k_i) eidf ?_
    refine Own.dstore C at_159 (q := 161) rfl (L' := #[.val (.int x1), .val (.int x2), .val (.int x3), .val (.int x4), .val (.int z3), .val (.int l1), .val (.int z34), .val (.long z47), .second, .val (.ref a50), .val (.ref a139), .val (.double idf), .second, .unset, .unset, .unset, .unset, .unset, .unset, .unset, .unset, .unset, .unset, .unset, .unset, .unset]) rfl ?_
    refine Own.iloadN C at_161 (q := 162) rfl rfl ?_
    refine Own.ldcI C at_162 (q := 164) rfl (hw _ (List.mem_of_getElem? (i := 154) rfl)) ?_
    refine Own.iand C at_164 (q := 165) rfl fun z164 e164 => ?_
    refine Own.istore C at_165 (q := 167) rfl (L' := #[.val (.int x1), .val (.int x2), .val (.int x3), .val (.int x4), .val (.int z3), .val (.int l1), .val (.int z34), .val (.long z47), .second, .val (.ref a50), .val (.ref a139), .val (.double idf), .second, .val (.int z164), .unset, .unset, .unset, .unset, .unset, .unset, .unset, .unset, .unset, .unset, .unset, .unset]) rfl ?_
    obtain ⟨bf, q_f, k_f⟩ := m31 e164
    obtain ⟨⟨wU, U1⟩, wX, UX, bX⟩ := num_w' eidf q_i k_i q_f k_f
    obtain ⟨wd0, ww0, T0⟩ := wt UX bX q_f k_f V0 V0a V0b
    obtain ⟨wd1, ww1, T1⟩ := wt UX bX q_f k_f V1 V1a V1b
    obtain ⟨wd2, ww2, T2⟩ := wt UX bX q_f k_f V2 V2a V2b
    have T2' := T2.re M2
    refine Own.aload C at_167 (q := 169) rfl rfl rfl ?_
    refine Own.dload C at_169 (q := 171) rfl rfl ?_
    refine Own.iload C at_171 (q := 173) rfl rfl ?_
    refine Own.iconst C at_173 (q := 174) rfl (z := 0) (by decide) ?_
    refine Own.callV C at_174 (q := 177) rfl (hw _ (List.mem_of_getElem? (i := 155) rfl)) (hw _ (List.mem_of_getElem? (i := 156) rfl)) (notFace_of_selects (args := #[]) (mvT C.2.2.2.1 (hw _ (List.mem_of_getElem? (i := 158) rfl)))) (hw _ (List.mem_of_getElem? (i := 158) rfl)) (hw _ (List.mem_of_getElem? (i := 157) rfl)) (hw _ (List.mem_of_getElem? (i := 120) rfl)) (hw _ (List.mem_of_getElem? (i := 159) rfl)) (by decide) (W := 0) (rm := rm_17) (argsL := [(.double idf), (.int z164), (.int (0 : Int32))]) (st := []) (lenOf pd_12 rfl) rfl rfl (Nat.le_of_eq rfl) (by decide) (by decide) (by decide) (by decide) (upd_at ne_a139_d upd_same) (c_wt l Z a0 hw n0 _ a139 idf z164 (0 : Int32) a50 d v0 v1 v2 v0 U1.nn UX.nn T0.1.nn T0.2.2.2.1.nn (upd_at ne_a139_d upd_same) upd_same (by decide) rfl) (fun s C PP => nxD fun z174 μ174 h174 => ?_)
    obtain ⟨h174m, h174⟩ := h174
    refine Own.mem h174m ?_
    refine Own.dstore C at_177 (q := 179) rfl (L' := #[.val (.int x1), .val (.int x2), .val (.int x3), .val (.int x4), .val (.int z3), .val (.int l1), .val (.int z34), .val (.long z47), .second, .val (.ref a50), .val (.ref a139), .val (.double idf), .second, .val (.int z164), .val (.double z174), .second, .unset, .unset, .unset, .unset, .unset, .unset, .unset, .unset, .unset, .unset]) rfl ?_
    refine Own.aload C at_179 (q := 181) rfl rfl rfl ?_
    refine Own.dload C at_181 (q := 183) rfl rfl ?_
    refine Own.iload C at_183 (q := 185) rfl rfl ?_
    refine Own.iconst C at_185 (q := 186) rfl (z := 1) (by decide) ?_
    refine Own.callV C at_186 (q := 189) rfl (hw _ (List.mem_of_getElem? (i := 155) rfl)) (hw _ (List.mem_of_getElem? (i := 156) rfl)) (notFace_of_selects (args := #[]) (mvT C.2.2.2.1 (hw _ (List.mem_of_getElem? (i := 158) rfl)))) (hw _ (List.mem_of_getElem? (i := 158) rfl)) (hw _ (List.mem_of_getElem? (i := 157) rfl)) (hw _ (List.mem_of_getElem? (i := 120) rfl)) (hw _ (List.mem_of_getElem? (i := 159) rfl)) (by decide) (W := 0) (rm := rm_17) (argsL := [(.double idf), (.int z164), (.int (1 : Int32))]) (st := []) (lenOf pd_12 rfl) rfl rfl (Nat.le_of_eq rfl) (by decide) (by decide) (by decide) (by decide) (upd_at ne_a139_d upd_same) (c_wt l Z a0 hw n0 _ a139 idf z164 (1 : Int32) a50 d v0 v1 v2 v1 U1.nn UX.nn T1.1.nn T1.2.2.2.1.nn (upd_at ne_a139_d upd_same) upd_same (by decide) rfl) (fun s C PP => nxD fun z186 μ186 h186 => ?_)
    obtain ⟨h186m, h186⟩ := h186
    refine Own.mem h186m ?_
    refine Own.dstore C at_189 (q := 191) rfl (L' := #[.val (.int x1), .val (.int x2), .val (.int x3), .val (.int x4), .val (.int z3), .val (.int l1), .val (.int z34), .val (.long z47), .second, .val (.ref a50), .val (.ref a139), .val (.double idf), .second, .val (.int z164), .val (.double z174), .second, .val (.double z186), .second, .unset, .unset, .unset, .unset, .unset, .unset, .unset, .unset]) rfl ?_
    refine Own.aload C at_191 (q := 193) rfl rfl rfl ?_
    refine Own.dload C at_193 (q := 195) rfl rfl ?_
    refine Own.iload C at_195 (q := 197) rfl rfl ?_
    refine Own.iconst C at_197 (q := 198) rfl (z := 2) (by decide) ?_
    refine Own.callV C at_198 (q := 201) rfl (hw _ (List.mem_of_getElem? (i := 155) rfl)) (hw _ (List.mem_of_getElem? (i := 156) rfl)) (notFace_of_selects (args := #[]) (mvT C.2.2.2.1 (hw _ (List.mem_of_getElem? (i := 158) rfl)))) (hw _ (List.mem_of_getElem? (i := 158) rfl)) (hw _ (List.mem_of_getElem? (i := 157) rfl)) (hw _ (List.mem_of_getElem? (i := 120) rfl)) (hw _ (List.mem_of_getElem? (i := 159) rfl)) (by decide) (W := 0) (rm := rm_17) (argsL := [(.double idf), (.int z164), (.int (2 : Int32))]) (st := []) (lenOf pd_12 rfl) rfl rfl (Nat.le_of_eq rfl) (by decide) (by decide) (by decide) (by decide) (upd_at ne_a139_d upd_same) (c_wt l Z a0 hw n0 _ a139 idf z164 (2 : Int32) a50 d v0 v1 v2 v2 U1.nn UX.nn T2.1.nn T2.2.2.2.1.nn (upd_at ne_a139_d upd_same) upd_same (by decide) rfl) (fun s C PP => nxD fun z198 μ198 h198 => ?_)
    obtain ⟨h198m, h198⟩ := h198
    refine Own.mem h198m ?_
    refine Own.dstore C at_201 (q := 203) rfl (L' := #[.val (.int x1), .val (.int x2), .val (.int x3), .val (.int x4), .val (.int z3), .val (.int l1), .val (.int z34), .val (.long z47), .second, .val (.ref a50), .val (.ref a139), .val (.double idf), .second, .val (.int z164), .val (.double z174), .second, .val (.double z186), .second, .val (.double z198), .second, .unset, .unset, .unset, .unset, .unset, .unset]) rfl ?_
    have Z0 : Worth z174 ww0 := by rw [h174]; exact T0.2.2.2.1
    have Z1 : Worth z186 ww1 := by rw [h186]; exact T1.2.2.2.1
    have Z2 : Worth z198 ww2 := by rw [h198]; exact T2.2.2.2.1
    refine Own.dload C at_203 (q := 205) rfl rfl ?_
    refine Own.iload C at_205 (q := 207) rfl rfl ?_
    refine Own.i2d C at_207 (q := 208) rfl ?_
    refine Own.dmul C at_208 (q := 209) rfl U1.nn ?_
    refine Own.ldcD C at_209 (q := 212) rfl (hw _ (List.mem_of_getElem? (i := 161) rfl)) ?_
    refine Own.dmul C at_212 (q := 213) rfl UX.nn ?_
    refine Own.iload C at_213 (q := 215) rfl rfl ?_
    refine Own.i2d C at_215 (q := 216) rfl ?_
    refine Own.ldcD C at_216 (q := 219) rfl (hw _ (List.mem_of_getElem? (i := 162) rfl)) ?_
    refine Own.dadd C at_219 (q := 220) rfl T2'.1.nn ?_
    refine Own.ddiv C at_220 (q := 221) rfl T2'.2.2.2.1.nn ?_
    refine Own.dstore C at_221 (q := 223) rfl (L' := #[.val (.int x1), .val (.int x2), .val (.int x3), .val (.int x4), .val (.int z3), .val (.int l1), .val (.int z34), .val (.long z47), .second, .val (.ref a50), .val (.ref a139), .val (.double idf), .second, .val (.int z164), .val (.double z174), .second, .val (.double z186), .second, .val (.double z198), .second, .val (.double (FP.ddiv (FP.dmul (FP.dmul idf (FP.i2d z164)) (4612136378390124954 : UInt64)) (FP.dadd (FP.i2d z164) (4608083138725491507 : UInt64)))), .second, .unset, .unset, .unset, .unset]) rfl ?_
    refine Own.dload C at_223 (q := 225) rfl rfl ?_
    refine Own.dload C at_225 (q := 227) rfl rfl ?_
    refine Own.dcmp C at_227 (q := 228) rfl fun z227 e227 => ?_
    obtain rfl : z227 = (0 : Int32) := (cvz e227 Z2 T2'.2.2.2.1).2.1.mpr rfl
    refine Own.if_eq C at_228 (q := 231) rfl (r := 233) (by decide) (fun h228 => ?_) (fun h228 => ?_)
    · refine Own.iload C at_233 (q := 235) rfl rfl ?_
      refine Own.if_ne C at_235 (q := 238) rfl (r := 268) (by decide) (fun h235 => ?_) (fun h235 => ?_)
      · refine Own.iload C at_268 (q := 270) rfl rfl ?_
        refine Own.iload C at_270 (q := 272) rfl rfl ?_
        refine Own.icmp_gt C at_272 (q := 275) rfl (r := 280) (by decide) (fun h272 => ?_) (fun h272 => ?_)
        · refine Own.dload C at_280 (q := 282) rfl rfl ?_
          refine Own.dstore C at_282 (q := 284) rfl (L' := #[.val (.int x1), .val (.int x2), .val (.int x3), .val (.int x4), .val (.int z3), .val (.int l1), .val (.int z34), .val (.long z47), .second, .val (.ref a50), .val (.ref a139), .val (.double idf), .second, .val (.int z164), .val (.double z174), .second, .val (.double z186), .second, .val (.double z198), .second, .val (.double (FP.ddiv (FP.dmul (FP.dmul idf (FP.i2d z164)) (4612136378390124954 : UInt64)) (FP.dadd (FP.i2d z164) (4608083138725491507 : UInt64)))), .second, .val (.double z186), .second, .unset, .unset]) rfl ?_
          refine Own.iload C at_284 (q := 286) rfl rfl ?_
          refine Own.iload C at_286 (q := 288) rfl rfl ?_
          refine Own.icmp_gt C at_288 (q := 291) rfl (r := 296) (by decide) (fun h288 => ?_) (fun h288 => ?_)
          · refine Own.dload C at_296 (q := 298) rfl rfl ?_
            refine Own.dstore C at_298 (q := 300) rfl (L' := #[.val (.int x1), .val (.int x2), .val (.int x3), .val (.int x4), .val (.int z3), .val (.int l1), .val (.int z34), .val (.long z47), .second, .val (.ref a50), .val (.ref a139), .val (.double idf), .second, .val (.int z164), .val (.double z174), .second, .val (.double z186), .second, .val (.double z198), .second, .val (.double (FP.ddiv (FP.dmul (FP.dmul idf (FP.i2d z164)) (4612136378390124954 : UInt64)) (FP.dadd (FP.i2d z164) (4608083138725491507 : UInt64)))), .second, .val (.double z186), .second, .val (.double z174), .second]) rfl ?_
            refine Own.dload C at_300 (q := 302) rfl rfl ?_
            refine Own.dload C at_302 (q := 304) rfl rfl ?_
            refine Own.dcmp C at_304 (q := 305) rfl fun z304 e304 => ?_
            refine Own.if_lt C at_305 (q := 308) rfl (r := 320) (by decide) (fun h305 => ?_) (fun h305 => ?_)
            · exact absurd ((cvz e304 Z1 Z2).1.mp h305) (Nat.not_lt.mpr (wt_anti T1 T2 (chain_mono q_L C1 C2 (by have := gt_i h272; omega))))
            · refine Own.dload C at_308 (q := 310) rfl rfl ?_
              refine Own.dload C at_310 (q := 312) rfl rfl ?_
              refine Own.dcmp C at_312 (q := 313) rfl fun z312 e312 => ?_
              refine Own.if_lt C at_313 (q := 316) rfl (r := 320) (by decide) (fun h313 => ?_) (fun h313 => ?_)
              · exact absurd ((cvz e312 Z2 Z0).1.mp h313) (Nat.not_lt.mpr (wt_anti T2 T0 (chain_mono q_L C2 C0 (by have := gt_i h272; omega))))
              · refine Own.iconst C at_316 (q := 317) rfl (z := 1) (by decide) ?_
                refine Own.goto C at_317 (q := 321) (by decide) ?_
                refine Own.nreturn C at_321 (by simp) (z' := (1 : Int32)) (by decide) (by decide) (by decide) ?_
                rfl
          · exact absurd h272 h288
        · refine Own.dload C at_275 (q := 277) rfl rfl ?_
          refine Own.goto C at_277 (q := 282) (by decide) ?_
          refine Own.dstore C at_282 (q := 284) rfl (L' := #[.val (.int x1), .val (.int x2), .val (.int x3), .val (.int x4), .val (.int z3), .val (.int l1), .val (.int z34), .val (.long z47), .second, .val (.ref a50), .val (.ref a139), .val (.double idf), .second, .val (.int z164), .val (.double z174), .second, .val (.double z186), .second, .val (.double z198), .second, .val (.double (FP.ddiv (FP.dmul (FP.dmul idf (FP.i2d z164)) (4612136378390124954 : UInt64)) (FP.dadd (FP.i2d z164) (4608083138725491507 : UInt64)))), .second, .val (.double z174), .second, .unset, .unset]) rfl ?_
          refine Own.iload C at_284 (q := 286) rfl rfl ?_
          refine Own.iload C at_286 (q := 288) rfl rfl ?_
          refine Own.icmp_gt C at_288 (q := 291) rfl (r := 296) (by decide) (fun h288 => ?_) (fun h288 => ?_)
          · exact absurd h288 h272
          · refine Own.dload C at_291 (q := 293) rfl rfl ?_
            refine Own.goto C at_293 (q := 298) (by decide) ?_
            refine Own.dstore C at_298 (q := 300) rfl (L' := #[.val (.int x1), .val (.int x2), .val (.int x3), .val (.int x4), .val (.int z3), .val (.int l1), .val (.int z34), .val (.long z47), .second, .val (.ref a50), .val (.ref a139), .val (.double idf), .second, .val (.int z164), .val (.double z174), .second, .val (.double z186), .second, .val (.double z198), .second, .val (.double (FP.ddiv (FP.dmul (FP.dmul idf (FP.i2d z164)) (4612136378390124954 : UInt64)) (FP.dadd (FP.i2d z164) (4608083138725491507 : UInt64)))), .second, .val (.double z174), .second, .val (.double z186), .second]) rfl ?_
            refine Own.dload C at_300 (q := 302) rfl rfl ?_
            refine Own.dload C at_302 (q := 304) rfl rfl ?_
            refine Own.dcmp C at_304 (q := 305) rfl fun z304 e304 => ?_
            refine Own.if_lt C at_305 (q := 308) rfl (r := 320) (by decide) (fun h305 => ?_) (fun h305 => ?_)
            · exact absurd ((cvz e304 Z0 Z2).1.mp h305) (Nat.not_lt.mpr (wt_anti T0 T2 (chain_mono q_L C0 C2 (by have := le_i h272; omega))))
            · refine Own.dload C at_308 (q := 310) rfl rfl ?_
              refine Own.dload C at_310 (q := 312) rfl rfl ?_
              refine Own.dcmp C at_312 (q := 313) rfl fun z312 e312 => ?_
              refine Own.if_lt C at_313 (q := 316) rfl (r := 320) (by decide) (fun h313 => ?_) (fun h313 => ?_)
              · exact absurd ((cvz e312 Z2 Z1).1.mp h313) (Nat.not_lt.mpr (wt_anti T2 T1 (chain_mono q_L C2 C1 (by have := le_i h272; omega))))
              · refine Own.iconst C at_316 (q := 317) rfl (z := 1) (by decide) ?_
                refine Own.goto C at_317 (q := 321) (by decide) ?_
                refine Own.nreturn C at_321 (by simp) (z' := (1 : Int32)) (by decide) (by decide) (by decide) ?_
                rfl
      · have M0 : v0 = cZ := by rw [← ev0, h235]; exact zero_norm q_L AW
        have T0' := T0.re M0
        refine Own.dload C at_238 (q := 240) rfl rfl ?_
        refine Own.iload C at_240 (q := 242) rfl rfl ?_
        refine Own.i2d C at_242 (q := 243) rfl ?_
        refine Own.dmul C at_243 (q := 244) rfl U1.nn ?_
        refine Own.ldcD C at_244 (q := 247) rfl (hw _ (List.mem_of_getElem? (i := 161) rfl)) ?_
        refine Own.dmul C at_247 (q := 248) rfl UX.nn ?_
        refine Own.iload C at_248 (q := 250) rfl rfl ?_
        refine Own.i2d C at_250 (q := 251) rfl ?_
        refine Own.ldcD C at_251 (q := 254) rfl (hw _ (List.mem_of_getElem? (i := 163) rfl)) ?_
        refine Own.dadd C at_254 (q := 255) rfl T0'.1.nn ?_
        refine Own.ddiv C at_255 (q := 256) rfl T0'.2.2.2.1.nn ?_
        refine Own.dstore C at_256 (q := 258) rfl (L' := #[.val (.int x1), .val (.int x2), .val (.int x3), .val (.int x4), .val (.int z3), .val (.int l1), .val (.int z34), .val (.long z47), .second, .val (.ref a50), .val (.ref a139), .val (.double idf), .second, .val (.int z164), .val (.double z174), .second, .val (.double z186), .second, .val (.double z198), .second, .val (.double (FP.ddiv (FP.dmul (FP.dmul idf (FP.i2d z164)) (4612136378390124954 : UInt64)) (FP.dadd (FP.i2d z164) (4608083138725491507 : UInt64)))), .second, .val (.double (FP.ddiv (FP.dmul (FP.dmul idf (FP.i2d z164)) (4612136378390124954 : UInt64)) (FP.dadd (FP.i2d z164) (4599075939470750515 : UInt64)))), .second, .unset, .unset]) rfl ?_
        refine Own.dload C at_258 (q := 260) rfl rfl ?_
        refine Own.dload C at_260 (q := 262) rfl rfl ?_
        refine Own.dcmp C at_262 (q := 263) rfl fun z262 e262 => ?_
        obtain rfl : z262 = (0 : Int32) := (cvz e262 Z0 T0'.2.2.2.1).2.1.mpr rfl
        refine Own.if_eq C at_263 (q := 266) rfl (r := 268) (by decide) (fun h263 => ?_) (fun h263 => ?_)
        · refine Own.iload C at_268 (q := 270) rfl rfl ?_
          refine Own.iload C at_270 (q := 272) rfl rfl ?_
          refine Own.icmp_gt C at_272 (q := 275) rfl (r := 280) (by decide) (fun h272 => ?_) (fun h272 => ?_)
          · refine Own.dload C at_280 (q := 282) rfl rfl ?_
            refine Own.dstore C at_282 (q := 284) rfl (L' := #[.val (.int x1), .val (.int x2), .val (.int x3), .val (.int x4), .val (.int z3), .val (.int l1), .val (.int z34), .val (.long z47), .second, .val (.ref a50), .val (.ref a139), .val (.double idf), .second, .val (.int z164), .val (.double z174), .second, .val (.double z186), .second, .val (.double z198), .second, .val (.double (FP.ddiv (FP.dmul (FP.dmul idf (FP.i2d z164)) (4612136378390124954 : UInt64)) (FP.dadd (FP.i2d z164) (4608083138725491507 : UInt64)))), .second, .val (.double z186), .second, .unset, .unset]) rfl ?_
            refine Own.iload C at_284 (q := 286) rfl rfl ?_
            refine Own.iload C at_286 (q := 288) rfl rfl ?_
            refine Own.icmp_gt C at_288 (q := 291) rfl (r := 296) (by decide) (fun h288 => ?_) (fun h288 => ?_)
            · refine Own.dload C at_296 (q := 298) rfl rfl ?_
              refine Own.dstore C at_298 (q := 300) rfl (L' := #[.val (.int x1), .val (.int x2), .val (.int x3), .val (.int x4), .val (.int z3), .val (.int l1), .val (.int z34), .val (.long z47), .second, .val (.ref a50), .val (.ref a139), .val (.double idf), .second, .val (.int z164), .val (.double z174), .second, .val (.double z186), .second, .val (.double z198), .second, .val (.double (FP.ddiv (FP.dmul (FP.dmul idf (FP.i2d z164)) (4612136378390124954 : UInt64)) (FP.dadd (FP.i2d z164) (4608083138725491507 : UInt64)))), .second, .val (.double z186), .second, .val (.double z174), .second]) rfl ?_
              refine Own.dload C at_300 (q := 302) rfl rfl ?_
              refine Own.dload C at_302 (q := 304) rfl rfl ?_
              refine Own.dcmp C at_304 (q := 305) rfl fun z304 e304 => ?_
              refine Own.if_lt C at_305 (q := 308) rfl (r := 320) (by decide) (fun h305 => ?_) (fun h305 => ?_)
              · exact absurd ((cvz e304 Z1 Z2).1.mp h305) (Nat.not_lt.mpr (wt_anti T1 T2 (chain_mono q_L C1 C2 (by have := gt_i h272; omega))))
              · refine Own.dload C at_308 (q := 310) rfl rfl ?_
                refine Own.dload C at_310 (q := 312) rfl rfl ?_
                refine Own.dcmp C at_312 (q := 313) rfl fun z312 e312 => ?_
                refine Own.if_lt C at_313 (q := 316) rfl (r := 320) (by decide) (fun h313 => ?_) (fun h313 => ?_)
                · exact absurd ((cvz e312 Z2 Z0).1.mp h313) (Nat.not_lt.mpr (wt_anti T2 T0 (chain_mono q_L C2 C0 (by have := gt_i h272; omega))))
                · refine Own.iconst C at_316 (q := 317) rfl (z := 1) (by decide) ?_
                  refine Own.goto C at_317 (q := 321) (by decide) ?_
                  refine Own.nreturn C at_321 (by simp) (z' := (1 : Int32)) (by decide) (by decide) (by decide) ?_
                  rfl
            · exact absurd h272 h288
          · refine Own.dload C at_275 (q := 277) rfl rfl ?_
            refine Own.goto C at_277 (q := 282) (by decide) ?_
            refine Own.dstore C at_282 (q := 284) rfl (L' := #[.val (.int x1), .val (.int x2), .val (.int x3), .val (.int x4), .val (.int z3), .val (.int l1), .val (.int z34), .val (.long z47), .second, .val (.ref a50), .val (.ref a139), .val (.double idf), .second, .val (.int z164), .val (.double z174), .second, .val (.double z186), .second, .val (.double z198), .second, .val (.double (FP.ddiv (FP.dmul (FP.dmul idf (FP.i2d z164)) (4612136378390124954 : UInt64)) (FP.dadd (FP.i2d z164) (4608083138725491507 : UInt64)))), .second, .val (.double z174), .second, .unset, .unset]) rfl ?_
            refine Own.iload C at_284 (q := 286) rfl rfl ?_
            refine Own.iload C at_286 (q := 288) rfl rfl ?_
            refine Own.icmp_gt C at_288 (q := 291) rfl (r := 296) (by decide) (fun h288 => ?_) (fun h288 => ?_)
            · exact absurd h288 h272
            · refine Own.dload C at_291 (q := 293) rfl rfl ?_
              refine Own.goto C at_293 (q := 298) (by decide) ?_
              refine Own.dstore C at_298 (q := 300) rfl (L' := #[.val (.int x1), .val (.int x2), .val (.int x3), .val (.int x4), .val (.int z3), .val (.int l1), .val (.int z34), .val (.long z47), .second, .val (.ref a50), .val (.ref a139), .val (.double idf), .second, .val (.int z164), .val (.double z174), .second, .val (.double z186), .second, .val (.double z198), .second, .val (.double (FP.ddiv (FP.dmul (FP.dmul idf (FP.i2d z164)) (4612136378390124954 : UInt64)) (FP.dadd (FP.i2d z164) (4608083138725491507 : UInt64)))), .second, .val (.double z174), .second, .val (.double z186), .second]) rfl ?_
              refine Own.dload C at_300 (q := 302) rfl rfl ?_
              refine Own.dload C at_302 (q := 304) rfl rfl ?_
              refine Own.dcmp C at_304 (q := 305) rfl fun z304 e304 => ?_
              refine Own.if_lt C at_305 (q := 308) rfl (r := 320) (by decide) (fun h305 => ?_) (fun h305 => ?_)
              · exact absurd ((cvz e304 Z0 Z2).1.mp h305) (Nat.not_lt.mpr (wt_anti T0 T2 (chain_mono q_L C0 C2 (by have := le_i h272; omega))))
              · refine Own.dload C at_308 (q := 310) rfl rfl ?_
                refine Own.dload C at_310 (q := 312) rfl rfl ?_
                refine Own.dcmp C at_312 (q := 313) rfl fun z312 e312 => ?_
                refine Own.if_lt C at_313 (q := 316) rfl (r := 320) (by decide) (fun h313 => ?_) (fun h313 => ?_)
                · exact absurd ((cvz e312 Z2 Z1).1.mp h313) (Nat.not_lt.mpr (wt_anti T2 T1 (chain_mono q_L C2 C1 (by have := le_i h272; omega))))
                · refine Own.iconst C at_316 (q := 317) rfl (z := 1) (by decide) ?_
                  refine Own.goto C at_317 (q := 321) (by decide) ?_
                  refine Own.nreturn C at_321 (by simp) (z' := (1 : Int32)) (by decide) (by decide) (by decide) ?_
                  rfl
        · exact absurd h263 (by decide)
    · exact absurd h228 (by decide)
  refine Own.iload C at_17 (q := 19) rfl rfl ?_
  refine Own.iload C at_19 (q := 21) rfl rfl ?_
  refine Own.iadd C at_21 (q := 22) rfl fun z21 e21 => ?_
  refine Own.if_ne C at_22 (q := 25) rfl (r := 28) (by decide) (fun h22 => ?_) (fun h22 => ?_)
  · exact J28 _ (ll_ne e3 e9 e13 e14 e21 h22)
  · refine Own.iconst C at_25 (q := 26) rfl (z := 2) (by decide) ?_
    refine Own.istore C at_26 (q := 28) rfl (L' := #[.val (.int x1), .val (.int x2), .val (.int x3), .val (.int x4), .val (.int z3), .val (.int (2 : Int32)), .unset, .unset, .unset, .unset, .unset, .unset, .unset, .unset, .unset, .unset, .unset, .unset, .unset, .unset, .unset, .unset, .unset, .unset, .unset, .unset]) rfl ?_
    exact J28 _ (ll_eq e3 e9 e13 e14 e21 h22)
section Pins
variable {args : Array Value} {s : State} {t u : Term} {a b : Addr} {cl : Cell} {ty : FieldType}
theorem eq_int {x y : Int32} (h : (Cond.eq t u).value args s none s [] = some true) (ha : t.eval args s none [] s = some (.int x)) (hb : u.eval args s none [] s = some (.int y)) : x = y := by
  simpa [Cond.value, ha, hb] using h
theorem inteq {z : Int32} (h : (Cond.eq t (.int z)).value args s none s [] = some true) : t.eval args s none [] s = some (.int z) := by
  obtain ⟨x, y, h1, h2, -, h3⟩ := cmp_v (Or.inl h)
  cases (Option.some.inj h2 : Value.int z = y)
  obtain ⟨x', rfl⟩ := h3
  have e := eq_int h h1 h2
  subst e; exact h1
theorem leneq {z : Int32} (h : (Cond.eq (.length t) (.int z)).value args s none s [] = some true) (ht : t.eval args s none [] s = some (.ref a)) (A : Arr s s.heap a cl ty) : (cl.slots.size : Int) = z.toInt := by
  have hA : s.arrayAt? a = some cl := A.fin (Vm.Alike.refl _)
  by_cases hl : cl.slots.size < 2 ^ 31
  · have e := eq_int h (len_f ht hA hl) (Term.int_eval z)
    rw [← e, len_toInt hl]
  · obtain ⟨x, y, h1, -⟩ := cmp_v (Or.inl h)
    simp [Term.eval, ht, hA] at h1
    omega
theorem allfit (hf : Fit s) (A : Arr s s.heap a cl ty) (hs : cl.slots.size < 2 ^ 31) : ∀ j, j < cl.slots.size → ∃ v, cl.slots.toList[j]? = some v ∧ fits ty v = true := fun j hj => by
  have e : (Int32.ofNat j).toInt = j := Int32.toInt_ofNat_small (by omega)
  have e2 : (Int32.ofNat j).toNatClampNeg = j := by simp only [Int32.toNatClampNeg]; omega
  obtain ⟨v, h1, h2⟩ := elem_fit hf A (j := Int32.ofNat j) (by rw [e2, Int32.lt_iff_toInt_lt, e, show (0 : Int32).toInt = 0 from rfl]; omega)
  rw [e2] at h1
  exact ⟨v, by rw [Array.getElem?_toList]; exact h1, h2⟩
end Pins
set_option maxRecDepth 65536 in
set_option maxHeartbeats 4000000 in
theorem comes_1 {Post : Tables → Env → Array Value → State → Outcome → State → Prop} (hpost : ∀ tb e args s v u, (limb_1_1.after args s (.returned v) u = true ∧ limb_1_2.after args s (.returned v) u = true ∧ True) → ReturnedEndW s (.returned v) u (Jvm.fieldLocs frame_1_writes args s ++ Jvm.arrayLocs frame_1_arrays args s ++ Jvm.staticLocs frame_1_statics s) 88 27904 → Post tb e args s (.returned v) u) :
    ArmFor flags0 classFile x code maxLocals ret World_1 tables_1 room_1 Calls_1 rest_1 Pre_1 Post := by
  intro l hfl _ _ p e ha hc hk s m args below hf hA hF happ hP
  obtain ⟨hcalls, hrest, hpre⟩ := hP
  obtain ⟨-, -, -, hnamed, -, -, -, hat⟩ := (Spec.applies_iff hf).mp happ
  obtain ⟨hg, hn⟩ := and_e (Cond.before_iff.mp (show (Jvm.Cond.and given_1 narrow_1).before args s = true from hpre))
  obtain ⟨g0, hg⟩ := and_e hg
  obtain ⟨g1, hg⟩ := and_e hg
  obtain ⟨g2, hg⟩ := and_e hg
  obtain ⟨g3, hg⟩ := and_e hg
  have g4 := hg
  obtain ⟨w0, w1, w2, w3, rfl⟩ : ∃ w0 w1 w2 w3 : Value, args = #[w0, w1, w2, w3] := by
    have hs : args.size = 4 := by simpa [Cond.value, given_1] using g0
    obtain ⟨L⟩ := args
    match L, hs with
    | [w0, w1, w2, w3], _ => exact ⟨w0, w1, w2, w3, rfl⟩
  have hw := fun d (hd : d ∈ tables_1) => atoms_spec (ws := Jvm.Cond.code x code maxLocals ret :: tables_1) hat d (List.mem_cons_of_mem _ hd)
  have hfit : Fit s := fun {y c} hc i hi => by
    obtain ⟨ha, rfl⟩ := Array.getElem?_eq_some_iff.mp hc
    have q := List.all_eq_true.mp ((Array.all_eq_true_iff_forall_mem.mp hF) _ (Array.getElem_mem ha)) i (List.mem_range.mpr hi)
    simpa [Array.getElem?_eq_getElem hi] using q
  obtain ⟨hsets, hown0⟩ := atoms_of _ (rest_1_c_eq ▸ (show rest_1_c.before _ s = true from hrest))
  have hr0 := Cond.before_iff.mp hown0
  obtain ⟨i0, ei0⟩ := is_v g1
  obtain rfl : w0 = (.int i0) := Option.some.inj ei0
  obtain ⟨i1, ei1⟩ := is_v g2
  obtain rfl : w1 = (.int i1) := Option.some.inj ei1
  obtain ⟨i2, ei2⟩ := is_v g3
  obtain rfl : w2 = (.int i2) := Option.some.inj ei2
  obtain ⟨i3, ei3⟩ := is_v g4
  obtain rfl : w3 = (.int i3) := Option.some.inj ei3
  have tv := fun d (hd : d ∈ jdkStatics_1) => Cond.before_iff.mp (hsets d hd)
  have eh := inteq (tv _ (List.mem_of_getElem? (i := 3) rfl))
  have SH := Sta.start eh (Or.inl (hsets _ (List.mem_of_getElem? (i := 1) rfl)))
  obtain ⟨CA, ec⟩ := arr_v (tv _ (List.mem_of_getElem? (i := 4) rfl))
  obtain ⟨cl, AC⟩ := Arr.start ec (tv _ (List.mem_of_getElem? (i := 4) rfl))
  have hlen := leneq (tv _ (List.mem_of_getElem? (i := 6) rfl)) ec AC
  have hl256 : cl.slots.size = 256 := by have e : (256 : Int32).toInt = 256 := rfl; omega
  have SC := Sta.start ec (Or.inr ⟨(hw _ (List.mem_of_getElem? (i := 83) rfl)), (hsets _ (List.mem_of_getElem? (i := 2) rfl))⟩)
  have hall := allfit hfit AC (by omega)
  have hvs : ∀ j, j < 256 → ∃ v, cl.slots.toList[j]? = some v ∧ v.isRef = true := fun j hj => by obtain ⟨v, h1, h2⟩ := hall j (by omega); exact ⟨v, h1, fit_R h2 rfl⟩
  have hcw : Jvm.Lit.compactW.before _ s = true := (hsets _ (List.mem_of_getElem? (i := 10) rfl))
  have IC : Is s s.heap.size s.heap CA (.inr (.object "java/lang/Integer", cl.slots.toList)) := ⟨cl, AC, rfl, by show cl.slots.toList.length < 2 ^ 31; rw [Array.length_toList, hl256]; decide, fun v hv => by obtain ⟨i, hi, rfl⟩ := List.mem_iff_getElem.mp hv; obtain ⟨v, h1, h2⟩ := hall i (by rw [Array.length_toList] at hi; exact hi); rw [List.getElem?_eq_getElem hi] at h1; cases h1; exact h2, fun g => absurd AC.lt (Nat.not_lt.mpr g)⟩
  have HP : Hp s s.heap.size (upd (fun _ => none) CA (.inr (.object "java/lang/Integer", cl.slots.toList))) s.heap := Hp.set ⟨Old.start s, fun _ _ q => nomatch q⟩ IC
  obtain ⟨n, o, h1, h2, h3, _, L, rfl, ⟨N, _, -, rfl⟩, hq⟩ := c_law l s _ hw s.heap.size (fun _ => none) i0 i1 i2 i3 CA cl.slots.toList SH SC hvs (hcalls.1 ("com/example/thin_index/thinindex/Bm25WeightPinLaw", 13) (List.mem_of_getElem? (i := 1) rfl)) (hcalls.1 ("com/example/thin_index/thinindex/Bm25WeightPinLaw", 15) (List.mem_of_getElem? (i := 2) rfl)) (hcalls.1 ("com/example/thin_index/thinindex/Bm25WeightPinLaw", 17) (List.mem_of_getElem? (i := 3) rfl)) (hcalls.1 ("com/example/thin_index/thinindex/Bm25WeightPinLaw", 19) (List.mem_of_getElem? (i := 4) rfl)) hcw rfl HP p e ha hc hk s m _ below hf ((Spec.applies_iff_loose hf).mp happ).1 ⟨rfl, rfl⟩ trivial
  refine ⟨n, _, h1, h2, h3, hpost _ _ _ _ _ _ ⟨Cond.after_iff.mpr rfl, Cond.after_iff.mpr (eq_i res_at (Term.int_eval (1)) rfl), trivial⟩ ⟨hq.1, hq.2.1, hq.2.2.1, (hq.2.2.2.sift fun y hy => Or.inr (N y hy)).mono (by decide) (by decide)⟩⟩
theorem main_1_1 : Claimed_1_1 := comes_1 fun _ _ _ _ _ _ h hF => ⟨h.1, hF⟩
theorem main_1_2 : Claimed_1_2 := comes_1 fun _ _ _ _ _ _ h hF => ⟨h.2.1, hF⟩
end Jvm.Pilot.@@N@@
namespace Jvm.Pilot.@@N@@
open Jvm Jvm.ClassFile Sem Op Lib Jvm.Free Jvm.Stand Jvm.Pilot.@@N@@.Jvm.D
/-! MADE BY PROGRAM (witnessworld.py) out of the Statement's table words and the real class files: 28 classes; the members and pool entries that the words name. The judged class is class 1, her method 1. -/
namespace start1
open Jvm.ClassFile
def u (s : String) : CpInfo := .utf8 (stringToUtf16 s)
/-- a pool by its gaps: so many unusable entries, then the entry; so many at the end -/
def gap : Nat → List CpInfo → List CpInfo
  | 0, r => r
  | n + 1, r => .unusable :: gap n r
def poolList (es : List (Nat × CpInfo)) (last : Nat) : List CpInfo := es.foldr (fun e r => gap e.1 (e.2 :: r)) (gap last [])
def pool (es : List (Nat × CpInfo)) (last : Nat) : Array CpInfo := ⟨poolList es last⟩
def fileOf (pool : Array CpInfo) (this : Nat) (attrs : Array Attribute := #[]) (ms : Array MethodInfo := #[]) (fl : Nat := 33) (sup : Nat := 0) (ifs : Array Nat := #[]) (fds : Array FieldInfo := #[]) : ClassFile where
  minorVersion := 0
  majorVersion := 65
  constantPool := pool
  accessFlags := fl
  thisClass := this
  superClass := sup
  interfaces := ifs
  fields := fds
  methods := ms
  attributes := attrs
def plain (name : String) (sup : Option ClassId) : Class where
  name := name
  kind := .ordinary
  loader := none
  accessFlags := 33
  super := sup
  interfaces := #[]
  cf := none
  fields := #[]
  methods := #[]
  instanceTypes := #[]
  staticTypes := #[]
  resolved := #[]
  callSites := []
  init := .initialized
  statics := none
  mirror := none

def pool0 : Array CpInfo := pool [(5, u "<init>"), (0, u "()V"), (1, .class_ 10), (1, u "java/lang/Object")] 113

def k0c0 : Code := { maxStack := 0, maxLocals := 1, code := object_method_1_code, exceptionTable := #[], attributes := #[] }
def k0m0 : Method := { name := "<init>", desc := "()V", sig := { parameters := [], returnType := none }, accessFlags := 1, code := some k0c0 }
/-- java/lang/Object -/
def k0 : Class := { plain "java/lang/Object" none with
  accessFlags := 33
  interfaces := #[]
  cf := some (fileOf pool0 8 #[] #[{ accessFlags := 1, nameIndex := 5, descriptorIndex := 6, attributes := #[] }] 33 0 #[] #[])
  fields := #[]
  methods := #[k0m0]
  instanceTypes := #[]
  staticTypes := #[]
  resolved := Array.replicate 124 none
  statics := none }

def pool1 : Array CpInfo := pool [(2, .class_ 4), (1, u "java/lang/Object"), (0, u "<init>"), (0, u "()V"), (0, .integer 1073741823), (0, .integer 1073741822), (0, .class_ 10), (0, u "com/example/thin_index/thinindex/Index"), (0, .class_ 12), (0, u "java/lang/String"), (0, .string 14), (0, u "a"), (0, .string 16), (0, u "b"), (0, .string 18), (0, u "c"), (0, .string 20), (0, u "t"), (0, .methodref 9 22), (0, .nameAndType 5 23), (0, u "([Ljava/lang/String;[IJ[Ljava/lang/String;[I[J[I[I[I)V"), (0, .class_ 25), (0, u "com/example/thin_index/thinindex/Bm25"), (0, .methodref 24 27), (0, .nameAndType 5 28), (0, u "(Lcom/example/thin_index/thinindex/Index;)V"), (0, .integer 1048575), (0, .double 4634204016564240384), (1, .integer 2147483647), (0, .methodref 24 34), (0, .nameAndType 35 36), (0, u "weight"), (0, u "(DII)D"), (0, .double 4612136378390124954), (1, .double 4608083138725491507), (1, .double 4599075939470750515), (1, .class_ 44), (0, u "com/example/thin_index/thinindex/Bm25WeightPinLaw"), (2, u "law"), (0, u "(IIII)Z")] 3

def k1m0 : Method := { name := "<init>", desc := "()V", sig := { parameters := [], returnType := none }, accessFlags := 1, code := none }
def k1c1 : Code := { maxStack := 13, maxLocals := 26, code := code, exceptionTable := #[], attributes := #[] }
def k1m1 : Method := { name := "law", desc := "(IIII)Z", sig := { parameters := [.int, .int, .int, .int], returnType := some .boolean }, accessFlags := 9, code := some k1c1 }
/-- com/example/thin_index/thinindex/Bm25WeightPinLaw -/
def k1 : Class := { plain "com/example/thin_index/thinindex/Bm25WeightPinLaw" (some 0) with
  accessFlags := 49
  interfaces := #[]
  cf := some (fileOf pool1 43 #[] #[{ accessFlags := 1, nameIndex := 5, descriptorIndex := 6, attributes := #[] }, { accessFlags := 9, nameIndex := 47, descriptorIndex := 48, attributes := #[] }] 49 2 #[] #[])
  fields := #[]
  methods := #[k1m0, k1m1]
  instanceTypes := #[]
  staticTypes := #[]
  resolved := Array.replicate 52 none
  statics := none }

def pool2 : Array CpInfo := pool [(1, .methodref 2 3), (0, .class_ 4), (0, .nameAndType 5 6), (0, u "java/lang/Object"), (0, u "<init>"), (0, u "()V"), (0, .string 8), (0, u "documentIds"), (0, .methodref 10 11), (0, .class_ 12), (0, .nameAndType 13 14), (0, u "java/util/Objects"), (0, u "requireNonNull"), (0, u "(Ljava/lang/Object;Ljava/lang/String;)Ljava/lang/Object;"), (0, .class_ 16), (0, u "[Ljava/lang/String;"), (0, .fieldref 18 19), (0, .class_ 20), (0, .nameAndType 8 16), (0, u "com/example/thin_index/thinindex/Index"), (0, .string 22), (0, u "documentLengths"), (0, .class_ 24), (0, u "[I"), (0, .fieldref 18 26), (0, .nameAndType 22 24), (0, .fieldref 18 28), (0, .nameAndType 29 30), (0, u "tokenCount"), (0, u "J"), (0, .string 32), (0, u "terms"), (0, .fieldref 18 34), (0, .nameAndType 32 16), (0, .string 36), (0, u "documentFrequencies"), (0, .fieldref 18 38), (0, .nameAndType 36 24), (0, .string 40), (0, u "collectionFrequencies"), (0, .class_ 42), (0, u "[J"), (0, .fieldref 18 44), (0, .nameAndType 40 42), (0, .string 46), (0, u "postingsStart"), (0, .fieldref 18 48), (0, .nameAndType 46 24), (0, .string 50), (0, u "postingDocuments"), (0, .fieldref 18 52), (0, .nameAndType 50 24), (0, .string 54), (0, u "postingFrequencies"), (0, .fieldref 18 56), (0, .nameAndType 54 24), (0, .methodref 18 58), (0, .nameAndType 59 6), (0, u "checkDocuments"), (0, .methodref 18 61), (0, .nameAndType 62 6), (0, u "checkTerms"), (6, .methodref 18 70), (0, .nameAndType 71 72), (0, u "postingsEnd"), (0, u "(I)I"), (8, u "()I"), (0, .methodref 18 83), (0, .nameAndType 46 72), (6, u "([Ljava/lang/String;[IJ[Ljava/lang/String;[I[J[I[I[I)V"), (10, .class_ 103), (1, u "java/lang/String"), (14, .string 119), (0, u "document lengths do not match the documents"), (0, .methodref 18 121), (0, .nameAndType 122 123), (0, u "check"), (0, u "(ZLjava/lang/String;)V"), (0, .methodref 101 125), (0, .nameAndType 126 127), (0, u "isEmpty"), (0, u "()Z"), (0, .string 129), (0, u "document"), (0, .methodref 131 132), (0, .class_ 133), (0, .nameAndType 134 135), (0, u "java/lang/Integer"), (0, u "valueOf"), (0, u "(I)Ljava/lang/Integer;"), (0, .string 137), (0, u "has no identifier"), (0, .methodref 18 139), (0, .nameAndType 122 140), (0, u "(ZLjava/lang/String;Ljava/lang/Object;Ljava/lang/String;)V"), (0, .string 142), (0, u "has a negative length"), (0, .string 144), (0, u "document lengths do not add up to the token count"), (0, .string 146), (0, u "term statistics do not match the terms"), (0, .string 148), (0, u "postings do not match the terms"), (0, .string 150), (0, u "term"), (0, .string 152), (0, u "is empty"), (4, .string 158), (0, u "is out of plain string order"), (0, .string 160), (0, u "has its postings out of place"), (0, .string 162), (0, u "has more postings than its document frequency"), (0, .string 164), (0, u "has impossible frequencies"), (0, .methodref 18 166), (0, .nameAndType 167 168), (0, u "checkPostings"), (0, u "(I)V"), (0, .string 170), (0, u "collection frequencies do not add up to the token count"), (12, u "POSTINGS_MISMATCH"), (0, u "Ljava/lang/String;"), (3, u "documentCount"), (2, u "documentLength"), (0, u "()J")] 46

def k2c0 : Code := { maxStack := 3, maxLocals := 11, code := prog_15_method_1_code, exceptionTable := #[], attributes := #[] }
def k2m0 : Method := { name := "<init>", desc := "([Ljava/lang/String;[IJ[Ljava/lang/String;[I[J[I[I[I)V", sig := { parameters := [(.array (.object "java/lang/String")), (.array .int), .long, (.array (.object "java/lang/String")), (.array .int), (.array .long), (.array .int), (.array .int), (.array .int)], returnType := none }, accessFlags := 0, code := some k2c0 }
def k2c1 : Code := { maxStack := 1, maxLocals := 1, code := prog_15_method_2_code, exceptionTable := #[], attributes := #[] }
def k2m1 : Method := { name := "documentCount", desc := "()I", sig := { parameters := [], returnType := some .int }, accessFlags := 1, code := some k2c1 }
def k2c2 : Code := { maxStack := 2, maxLocals := 2, code := prog_15_method_4_code, exceptionTable := #[], attributes := #[] }
def k2m2 : Method := { name := "documentLength", desc := "(I)I", sig := { parameters := [.int], returnType := some .int }, accessFlags := 1, code := some k2c2 }
def k2c3 : Code := { maxStack := 2, maxLocals := 1, code := prog_15_method_5_code, exceptionTable := #[], attributes := #[] }
def k2m3 : Method := { name := "tokenCount", desc := "()J", sig := { parameters := [], returnType := some .long }, accessFlags := 1, code := some k2c3 }
def k2c4 : Code := { maxStack := 2, maxLocals := 2, code := prog_15_method_12_code, exceptionTable := #[], attributes := #[] }
def k2m4 : Method := { name := "postingsStart", desc := "(I)I", sig := { parameters := [.int], returnType := some .int }, accessFlags := 1, code := some k2c4 }
def k2c5 : Code := { maxStack := 3, maxLocals := 2, code := prog_15_method_13_code, exceptionTable := #[], attributes := #[] }
def k2m5 : Method := { name := "postingsEnd", desc := "(I)I", sig := { parameters := [.int], returnType := some .int }, accessFlags := 1, code := some k2c5 }
def k2c6 : Code := { maxStack := 4, maxLocals := 4, code := prog_15_method_19_code, exceptionTable := #[], attributes := #[] }
def k2m6 : Method := { name := "checkDocuments", desc := "()V", sig := { parameters := [], returnType := none }, accessFlags := 2, code := some k2c6 }
def k2c7 : Code := { maxStack := 4, maxLocals := 6, code := prog_15_method_20_code, exceptionTable := #[], attributes := #[] }
def k2m7 : Method := { name := "checkTerms", desc := "()V", sig := { parameters := [], returnType := none }, accessFlags := 2, code := some k2c7 }
def k2c8 : Code := { maxStack := 4, maxLocals := 5, code := prog_15_method_21_code, exceptionTable := #[], attributes := #[] }
def k2m8 : Method := { name := "checkPostings", desc := "(I)V", sig := { parameters := [.int], returnType := none }, accessFlags := 2, code := some k2c8 }
def k2c9 : Code := { maxStack := 3, maxLocals := 2, code := prog_15_method_22_code, exceptionTable := #[], attributes := #[] }
def k2m9 : Method := { name := "check", desc := "(ZLjava/lang/String;)V", sig := { parameters := [.boolean, (.object "java/lang/String")], returnType := none }, accessFlags := 10, code := some k2c9 }
def k2c10 : Code := { maxStack := 5, maxLocals := 4, code := prog_15_method_23_code, exceptionTable := #[], attributes := #[] }
def k2m10 : Method := { name := "check", desc := "(ZLjava/lang/String;Ljava/lang/Object;Ljava/lang/String;)V", sig := { parameters := [.boolean, (.object "java/lang/String"), (.object "java/lang/Object"), (.object "java/lang/String")], returnType := none }, accessFlags := 10, code := some k2c10 }
/-- com/example/thin_index/thinindex/Index -/
def k2 : Class := { plain "com/example/thin_index/thinindex/Index" (some 0) with
  accessFlags := 49
  interfaces := #[]
  cf := some (fileOf pool2 18 #[] #[{ accessFlags := 0, nameIndex := 5, descriptorIndex := 90, attributes := #[] }, { accessFlags := 1, nameIndex := 188, descriptorIndex := 81, attributes := #[] }, { accessFlags := 1, nameIndex := 191, descriptorIndex := 72, attributes := #[] }, { accessFlags := 1, nameIndex := 29, descriptorIndex := 192, attributes := #[] }, { accessFlags := 1, nameIndex := 46, descriptorIndex := 72, attributes := #[] }, { accessFlags := 1, nameIndex := 71, descriptorIndex := 72, attributes := #[] }, { accessFlags := 2, nameIndex := 59, descriptorIndex := 6, attributes := #[] }, { accessFlags := 2, nameIndex := 62, descriptorIndex := 6, attributes := #[] }, { accessFlags := 2, nameIndex := 167, descriptorIndex := 168, attributes := #[] }, { accessFlags := 10, nameIndex := 122, descriptorIndex := 123, attributes := #[] }, { accessFlags := 10, nameIndex := 122, descriptorIndex := 140, attributes := #[] }] 49 2 #[] #[{ accessFlags := 24, nameIndex := 183, descriptorIndex := 184, attributes := #[] }, { accessFlags := 18, nameIndex := 8, descriptorIndex := 16, attributes := #[] }, { accessFlags := 18, nameIndex := 22, descriptorIndex := 24, attributes := #[] }, { accessFlags := 18, nameIndex := 29, descriptorIndex := 30, attributes := #[] }, { accessFlags := 18, nameIndex := 32, descriptorIndex := 16, attributes := #[] }, { accessFlags := 18, nameIndex := 36, descriptorIndex := 24, attributes := #[] }, { accessFlags := 18, nameIndex := 40, descriptorIndex := 42, attributes := #[] }, { accessFlags := 18, nameIndex := 46, descriptorIndex := 24, attributes := #[] }, { accessFlags := 18, nameIndex := 50, descriptorIndex := 24, attributes := #[] }, { accessFlags := 18, nameIndex := 54, descriptorIndex := 24, attributes := #[] }])
  fields := #[{ name := "POSTINGS_MISMATCH", type := (.object "java/lang/String"), accessFlags := 24, slot := 0, constantValue := 0 }, { name := "documentIds", type := (.array (.object "java/lang/String")), accessFlags := 18, slot := 0, constantValue := 0 }, { name := "documentLengths", type := (.array .int), accessFlags := 18, slot := 1, constantValue := 0 }, { name := "tokenCount", type := .long, accessFlags := 18, slot := 2, constantValue := 0 }, { name := "terms", type := (.array (.object "java/lang/String")), accessFlags := 18, slot := 3, constantValue := 0 }, { name := "documentFrequencies", type := (.array .int), accessFlags := 18, slot := 4, constantValue := 0 }, { name := "collectionFrequencies", type := (.array .long), accessFlags := 18, slot := 5, constantValue := 0 }, { name := "postingsStart", type := (.array .int), accessFlags := 18, slot := 6, constantValue := 0 }, { name := "postingDocuments", type := (.array .int), accessFlags := 18, slot := 7, constantValue := 0 }, { name := "postingFrequencies", type := (.array .int), accessFlags := 18, slot := 8, constantValue := 0 }]
  methods := #[k2m0, k2m1, k2m2, k2m3, k2m4, k2m5, k2m6, k2m7, k2m8, k2m9, k2m10]
  instanceTypes := #[(.array (.object "java/lang/String")), (.array .int), .long, (.array (.object "java/lang/String")), (.array .int), (.array .long), (.array .int), (.array .int), (.array .int)]
  staticTypes := #[(.object "java/lang/String")]
  resolved := Array.replicate 239 none
  statics := none }

def pool3 : Array CpInfo := pool [(1, .class_ 2), (0, u "java/io/Serializable"), (0, .class_ 4), (0, u "java/lang/Object")] 2

/-- java/io/Serializable -/
def k3 : Class := { plain "java/io/Serializable" (some 0) with
  accessFlags := 1537
  interfaces := #[]
  cf := some (fileOf pool3 1 #[] #[] 1537 3 #[] #[])
  fields := #[]
  methods := #[]
  instanceTypes := #[]
  staticTypes := #[]
  resolved := Array.replicate 7 none
  statics := none }

def pool4 : Array CpInfo := pool [(1, .class_ 2), (0, u "java/lang/Comparable"), (0, .class_ 4), (0, u "java/lang/Object")] 7

/-- java/lang/Comparable -/
def k4 : Class := { plain "java/lang/Comparable" (some 0) with
  accessFlags := 1537
  interfaces := #[]
  cf := some (fileOf pool4 1 #[] #[] 1537 3 #[] #[])
  fields := #[]
  methods := #[]
  instanceTypes := #[]
  staticTypes := #[]
  resolved := Array.replicate 12 none
  statics := none }

def pool5 : Array CpInfo := pool [(2, .class_ 4), (1, u "java/lang/CharSequence"), (42, .class_ 48), (0, u "java/lang/CharSequence$1CodePointIterator"), (10, .class_ 60), (0, u "java/lang/CharSequence$1CharIterator"), (5, .class_ 67), (0, u "java/lang/Object")] 63

/-- java/lang/CharSequence -/
def k5 : Class := { plain "java/lang/CharSequence" (some 0) with
  accessFlags := 1537
  interfaces := #[]
  cf := some (fileOf pool5 2 #[.nestMembers #[47, 59]] #[] 1537 66 #[] #[])
  fields := #[]
  methods := #[]
  instanceTypes := #[]
  staticTypes := #[]
  resolved := Array.replicate 131 none
  statics := none }

def pool6 : Array CpInfo := pool [(1, .class_ 2), (0, u "java/lang/constant/Constable"), (0, .class_ 4), (0, u "java/lang/Object")] 6

/-- java/lang/constant/Constable -/
def k6 : Class := { plain "java/lang/constant/Constable" (some 0) with
  accessFlags := 1537
  interfaces := #[]
  cf := some (fileOf pool6 1 #[] #[] 1537 3 #[] #[])
  fields := #[]
  methods := #[]
  instanceTypes := #[]
  staticTypes := #[]
  resolved := Array.replicate 11 none
  statics := none }

def pool7 : Array CpInfo := pool [(1, .class_ 2), (0, u "java/lang/constant/ConstantDesc"), (0, .class_ 4), (0, u "java/lang/Object")] 32

/-- java/lang/constant/ConstantDesc -/
def k7 : Class := { plain "java/lang/constant/ConstantDesc" (some 0) with
  accessFlags := 1537
  interfaces := #[]
  cf := some (fileOf pool7 1 #[] #[] 1537 3 #[] #[])
  fields := #[]
  methods := #[]
  instanceTypes := #[]
  staticTypes := #[]
  resolved := Array.replicate 37 none
  statics := none }

def pool8 : Array CpInfo := pool [(2, .class_ 4), (1, u "java/lang/Object"), (0, u "<init>"), (0, u "()V"), (2, .fieldref 10 11), (0, .class_ 12), (0, .nameAndType 13 14), (0, u "java/lang/String"), (0, u "value"), (0, u "[B"), (2, u "coder"), (0, u "B"), (2, u "hash"), (0, u "I"), (2, u "hashIsZero"), (0, u "Z"), (13, u "COMPACT_STRINGS"), (101, u "()Z"), (432, .class_ 576), (0, u "java/lang/CharSequence"), (22, u "CASE_INSENSITIVE_ORDER"), (0, u "Ljava/util/Comparator;"), (91, u "isEmpty"), (408, u "serialPersistentFields"), (0, u "[Ljava/io/ObjectStreamField;"), (0, .class_ 1104), (0, u "java/lang/String$CaseInsensitiveComparator"), (1, .class_ 1107), (0, u "java/io/Serializable"), (0, .class_ 1109), (0, u "java/lang/Comparable"), (0, .class_ 1111), (0, u "java/lang/constant/Constable"), (0, .class_ 1113), (0, u "java/lang/constant/ConstantDesc"), (2, u "serialVersionUID"), (0, u "J"), (3, u "REPL"), (0, u "C"), (2, u "LATIN1"), (1, u "UTF16")] 323

def k8m0 : Method := { name := "<init>", desc := "()V", sig := { parameters := [], returnType := none }, accessFlags := 1, code := none }
def k8c1 : Code := { maxStack := 1, maxLocals := 1, code := jdk_42_method_55_code, exceptionTable := #[], attributes := #[] }
def k8m1 : Method := { name := "isEmpty", desc := "()Z", sig := { parameters := [], returnType := some .boolean }, accessFlags := 1, code := some k8c1 }
/-- java/lang/String -/
def k8 : Class := { plain "java/lang/String" (some 0) with
  accessFlags := 49
  interfaces := #[3, 4, 5, 6, 7]
  cf := some (fileOf pool8 10 #[.nestMembers #[1103]] #[{ accessFlags := 1, nameIndex := 5, descriptorIndex := 6, attributes := #[] }, { accessFlags := 1, nameIndex := 692, descriptorIndex := 142, attributes := #[] }] 49 2 #[1106, 1108, 575, 1110, 1112] #[{ accessFlags := 18, nameIndex := 13, descriptorIndex := 14, attributes := #[] }, { accessFlags := 18, nameIndex := 17, descriptorIndex := 18, attributes := #[] }, { accessFlags := 2, nameIndex := 21, descriptorIndex := 22, attributes := #[] }, { accessFlags := 2, nameIndex := 25, descriptorIndex := 26, attributes := #[] }, { accessFlags := 26, nameIndex := 1116, descriptorIndex := 1117, attributes := #[] }, { accessFlags := 24, nameIndex := 40, descriptorIndex := 26, attributes := #[] }, { accessFlags := 26, nameIndex := 1101, descriptorIndex := 1102, attributes := #[] }, { accessFlags := 26, nameIndex := 1121, descriptorIndex := 1122, attributes := #[] }, { accessFlags := 25, nameIndex := 599, descriptorIndex := 600, attributes := #[] }, { accessFlags := 24, nameIndex := 1125, descriptorIndex := 18, attributes := #[] }, { accessFlags := 24, nameIndex := 1127, descriptorIndex := 18, attributes := #[] }])
  fields := #[{ name := "value", type := (.array .byte), accessFlags := 18, slot := 0, constantValue := 0 }, { name := "coder", type := .byte, accessFlags := 18, slot := 1, constantValue := 0 }, { name := "hash", type := .int, accessFlags := 2, slot := 2, constantValue := 0 }, { name := "hashIsZero", type := .boolean, accessFlags := 2, slot := 3, constantValue := 0 }, { name := "serialVersionUID", type := .long, accessFlags := 26, slot := 0, constantValue := 0 }, { name := "COMPACT_STRINGS", type := .boolean, accessFlags := 24, slot := 1, constantValue := 0 }, { name := "serialPersistentFields", type := (.array (.object "java/io/ObjectStreamField")), accessFlags := 26, slot := 2, constantValue := 0 }, { name := "REPL", type := .char, accessFlags := 26, slot := 3, constantValue := 0 }, { name := "CASE_INSENSITIVE_ORDER", type := (.object "java/util/Comparator"), accessFlags := 25, slot := 4, constantValue := 0 }, { name := "LATIN1", type := .byte, accessFlags := 24, slot := 5, constantValue := 0 }, { name := "UTF16", type := .byte, accessFlags := 24, slot := 6, constantValue := 0 }]
  methods := #[k8m0, k8m1]
  instanceTypes := #[(.array .byte), .byte, .int, .boolean]
  staticTypes := #[.long, .boolean, (.array (.object "java/io/ObjectStreamField")), .char, (.object "java/util/Comparator"), .byte, .byte]
  resolved := Array.replicate 1451 none
  statics := some 0 }

def pool9 : Array CpInfo := pool [(2, .class_ 4), (1, u "java/lang/Object"), (0, u "<init>"), (0, u "()V"), (35, .class_ 44), (1, u "java/util/Objects"), (0, u "requireNonNull"), (48, u "(Ljava/lang/Object;Ljava/lang/String;)Ljava/lang/Object;")] 89

def k9m0 : Method := { name := "<init>", desc := "()V", sig := { parameters := [], returnType := none }, accessFlags := 2, code := none }
def k9c1 : Code := { maxStack := 3, maxLocals := 2, code := jdk_31_method_11_code, exceptionTable := #[], attributes := #[] }
def k9m1 : Method := { name := "requireNonNull", desc := "(Ljava/lang/Object;Ljava/lang/String;)Ljava/lang/Object;", sig := { parameters := [(.object "java/lang/Object"), (.object "java/lang/String")], returnType := some (.object "java/lang/Object") }, accessFlags := 9, code := some k9c1 }
/-- java/util/Objects -/
def k9 : Class := { plain "java/util/Objects" (some 0) with
  accessFlags := 49
  interfaces := #[]
  cf := some (fileOf pool9 42 #[] #[{ accessFlags := 2, nameIndex := 5, descriptorIndex := 6, attributes := #[] }, { accessFlags := 9, nameIndex := 45, descriptorIndex := 94, attributes := #[] }] 49 2 #[] #[])
  fields := #[]
  methods := #[k9m0, k9m1]
  instanceTypes := #[]
  staticTypes := #[]
  resolved := Array.replicate 184 none
  statics := none }

def pool10 : Array CpInfo := pool [(2, .class_ 4), (1, u "java/lang/Object"), (0, u "<init>"), (0, u "()V"), (1, .class_ 10), (1, u "java/lang/Number"), (2, .class_ 14), (0, u "java/io/Serializable"), (0, u "serialVersionUID"), (0, u "J")] 20

def k10m0 : Method := { name := "<init>", desc := "()V", sig := { parameters := [], returnType := none }, accessFlags := 1, code := none }
/-- java/lang/Number -/
def k10 : Class := { plain "java/lang/Number" (some 0) with
  accessFlags := 1057
  interfaces := #[3]
  cf := some (fileOf pool10 8 #[] #[{ accessFlags := 1, nameIndex := 5, descriptorIndex := 6, attributes := #[] }] 1057 2 #[13] #[{ accessFlags := 26, nameIndex := 15, descriptorIndex := 16, attributes := #[] }])
  fields := #[{ name := "serialVersionUID", type := .long, accessFlags := 26, slot := 0, constantValue := 0 }]
  methods := #[k10m0]
  instanceTypes := #[]
  staticTypes := #[.long]
  resolved := Array.replicate 37 none
  statics := none }

def pool11 : Array CpInfo := pool [(1, .class_ 2), (0, u "java/lang/Integer"), (16, u "digits"), (0, u "[C"), (64, u "DigitOnes"), (0, u "[B"), (2, u "DigitTens"), (97, u "valueOf"), (0, u "(I)Ljava/lang/Integer;"), (0, .class_ 190), (0, u "java/lang/Integer$IntegerCache"), (0, .fieldref 189 192), (0, .nameAndType 193 194), (0, u "high"), (0, u "I"), (0, .fieldref 189 196), (0, .nameAndType 197 198), (0, u "cache"), (0, u "[Ljava/lang/Integer;"), (4, .class_ 204), (0, u "java/lang/Number"), (2, u "value"), (94, u "TYPE"), (0, u "Ljava/lang/Class;"), (0, .class_ 305), (0, u "java/lang/Comparable"), (0, .class_ 307), (0, u "java/lang/constant/Constable"), (0, .class_ 309), (0, u "java/lang/constant/ConstantDesc"), (0, u "MIN_VALUE"), (1, u "MAX_VALUE"), (3, u "SIZE"), (1, u "BYTES"), (1, u "serialVersionUID"), (0, u "J")] 131

def k11c0 : Code := { maxStack := 3, maxLocals := 1, code := jdk_33_method_22_code, exceptionTable := #[], attributes := #[] }
def k11m0 : Method := { name := "valueOf", desc := "(I)Ljava/lang/Integer;", sig := { parameters := [.int], returnType := some (.object "java/lang/Integer") }, accessFlags := 9, code := some k11c0 }
/-- java/lang/Integer -/
def k11 : Class := { plain "java/lang/Integer" (some 10) with
  accessFlags := 49
  interfaces := #[4, 6, 7]
  cf := some (fileOf pool11 1 #[.nestMembers #[189]] #[{ accessFlags := 9, nameIndex := 187, descriptorIndex := 188, attributes := #[] }] 49 203 #[304, 306, 308] #[{ accessFlags := 25, nameIndex := 310, descriptorIndex := 194, attributes := #[] }, { accessFlags := 25, nameIndex := 312, descriptorIndex := 194, attributes := #[] }, { accessFlags := 25, nameIndex := 302, descriptorIndex := 303, attributes := #[] }, { accessFlags := 24, nameIndex := 19, descriptorIndex := 20, attributes := #[] }, { accessFlags := 24, nameIndex := 89, descriptorIndex := 86, attributes := #[] }, { accessFlags := 24, nameIndex := 85, descriptorIndex := 86, attributes := #[] }, { accessFlags := 18, nameIndex := 207, descriptorIndex := 194, attributes := #[] }, { accessFlags := 25, nameIndex := 316, descriptorIndex := 194, attributes := #[] }, { accessFlags := 25, nameIndex := 318, descriptorIndex := 194, attributes := #[] }, { accessFlags := 26, nameIndex := 320, descriptorIndex := 321, attributes := #[] }])
  fields := #[{ name := "MIN_VALUE", type := .int, accessFlags := 25, slot := 0, constantValue := 0 }, { name := "MAX_VALUE", type := .int, accessFlags := 25, slot := 1, constantValue := 0 }, { name := "TYPE", type := (.object "java/lang/Class"), accessFlags := 25, slot := 2, constantValue := 0 }, { name := "digits", type := (.array .char), accessFlags := 24, slot := 3, constantValue := 0 }, { name := "DigitTens", type := (.array .byte), accessFlags := 24, slot := 4, constantValue := 0 }, { name := "DigitOnes", type := (.array .byte), accessFlags := 24, slot := 5, constantValue := 0 }, { name := "value", type := .int, accessFlags := 18, slot := 0, constantValue := 0 }, { name := "SIZE", type := .int, accessFlags := 25, slot := 6, constantValue := 0 }, { name := "BYTES", type := .int, accessFlags := 25, slot := 7, constantValue := 0 }, { name := "serialVersionUID", type := .long, accessFlags := 26, slot := 8, constantValue := 0 }]
  methods := #[k11m0]
  instanceTypes := #[.int]
  staticTypes := #[.int, .int, (.object "java/lang/Class"), (.array .char), (.array .byte), (.array .byte), .int, .int, .long]
  resolved := Array.replicate 453 none
  statics := none }

def pool12 : Array CpInfo := pool [(2, .class_ 4), (1, u "java/lang/Object"), (0, u "<init>"), (0, u "()V"), (0, .class_ 8), (0, u "java/lang/Integer"), (7, .class_ 18), (1, u "java/lang/Integer$IntegerCache"), (0, u "$assertionsDisabled"), (0, u "Z"), (26, u "high"), (0, u "I"), (8, u "archivedCache"), (0, u "[Ljava/lang/Integer;"), (12, u "cache"), (0, u "low")] 27

def k12m0 : Method := { name := "<init>", desc := "()V", sig := { parameters := [], returnType := none }, accessFlags := 2, code := none }
/-- java/lang/Integer$IntegerCache -/
def k12 : Class := { plain "java/lang/Integer$IntegerCache" (some 0) with
  accessFlags := 48
  interfaces := #[]
  cf := some (fileOf pool12 16 #[.nestHost 7] #[{ accessFlags := 2, nameIndex := 5, descriptorIndex := 6, attributes := #[] }] 48 2 #[] #[{ accessFlags := 24, nameIndex := 72, descriptorIndex := 48, attributes := #[] }, { accessFlags := 24, nameIndex := 47, descriptorIndex := 48, attributes := #[] }, { accessFlags := 24, nameIndex := 71, descriptorIndex := 58, attributes := #[] }, { accessFlags := 8, nameIndex := 57, descriptorIndex := 58, attributes := #[] }, { accessFlags := 4120, nameIndex := 19, descriptorIndex := 20, attributes := #[] }])
  fields := #[{ name := "low", type := .int, accessFlags := 24, slot := 0, constantValue := 0 }, { name := "high", type := .int, accessFlags := 24, slot := 1, constantValue := 0 }, { name := "cache", type := (.array (.object "java/lang/Integer")), accessFlags := 24, slot := 2, constantValue := 0 }, { name := "archivedCache", type := (.array (.object "java/lang/Integer")), accessFlags := 8, slot := 3, constantValue := 0 }, { name := "$assertionsDisabled", type := .boolean, accessFlags := 4120, slot := 4, constantValue := 0 }]
  methods := #[k12m0]
  instanceTypes := #[]
  staticTypes := #[.int, .int, (.array (.object "java/lang/Integer")), (.array (.object "java/lang/Integer")), .boolean]
  resolved := Array.replicate 100 none
  statics := some 1 }

def pool13 : Array CpInfo := pool [(1, .methodref 2 3), (0, .class_ 4), (0, .nameAndType 5 6), (0, u "java/lang/Object"), (0, u "<init>"), (0, u "()V"), (0, .string 8), (0, u "index"), (0, .methodref 10 11), (0, .class_ 12), (0, .nameAndType 13 14), (0, u "java/util/Objects"), (0, u "requireNonNull"), (0, u "(Ljava/lang/Object;Ljava/lang/String;)Ljava/lang/Object;"), (0, .class_ 16), (0, u "com/example/thin_index/thinindex/Index"), (0, .fieldref 18 19), (0, .class_ 20), (0, .nameAndType 8 21), (0, u "com/example/thin_index/thinindex/Bm25"), (0, u "Lcom/example/thin_index/thinindex/Index;"), (0, .methodref 15 23), (0, .nameAndType 24 25), (0, u "documentCount"), (0, u "()I"), (0, .methodref 15 27), (0, .nameAndType 28 29), (0, u "tokenCount"), (0, u "()J"), (0, .fieldref 18 31), (0, .nameAndType 32 33), (0, u "lengthNormalisations"), (0, u "[D"), (0, .double 4608083138725491507), (1, .double 4598175219545276416), (1, .double 4604930618986332160), (1, .methodref 15 41), (0, .nameAndType 42 43), (0, u "documentLength"), (0, u "(I)I"), (11, .double 4612136378390124954), (1, u "K1"), (0, u "D"), (1, u "B"), (0, u "(Lcom/example/thin_index/thinindex/Index;)V"), (5, u "weight"), (0, u "(DII)D")] 2

def k13c0 : Code := { maxStack := 10, maxLocals := 6, code := prog_5_method_1_code, exceptionTable := #[], attributes := #[] }
def k13m0 : Method := { name := "<init>", desc := "(Lcom/example/thin_index/thinindex/Index;)V", sig := { parameters := [(.object "com/example/thin_index/thinindex/Index")], returnType := none }, accessFlags := 1, code := some k13c0 }
def k13c1 : Code := { maxStack := 6, maxLocals := 5, code := prog_5_method_3_code, exceptionTable := #[], attributes := #[] }
def k13m1 : Method := { name := "weight", desc := "(DII)D", sig := { parameters := [.double, .int, .int], returnType := some .double }, accessFlags := 1, code := some k13c1 }
/-- com/example/thin_index/thinindex/Bm25 -/
def k13 : Class := { plain "com/example/thin_index/thinindex/Bm25" (some 0) with
  accessFlags := 49
  interfaces := #[]
  cf := some (fileOf pool13 18 #[] #[{ accessFlags := 1, nameIndex := 5, descriptorIndex := 61, attributes := #[] }, { accessFlags := 1, nameIndex := 67, descriptorIndex := 68, attributes := #[] }] 49 2 #[] #[{ accessFlags := 25, nameIndex := 57, descriptorIndex := 58, attributes := #[] }, { accessFlags := 25, nameIndex := 60, descriptorIndex := 58, attributes := #[] }, { accessFlags := 18, nameIndex := 8, descriptorIndex := 21, attributes := #[] }, { accessFlags := 18, nameIndex := 32, descriptorIndex := 33, attributes := #[] }])
  fields := #[{ name := "K1", type := .double, accessFlags := 25, slot := 0, constantValue := 0 }, { name := "B", type := .double, accessFlags := 25, slot := 1, constantValue := 0 }, { name := "index", type := (.object "com/example/thin_index/thinindex/Index"), accessFlags := 18, slot := 0, constantValue := 0 }, { name := "lengthNormalisations", type := (.array .double), accessFlags := 18, slot := 1, constantValue := 0 }]
  methods := #[k13m0, k13m1]
  instanceTypes := #[(.object "com/example/thin_index/thinindex/Index"), (.array .double)]
  staticTypes := #[.double, .double]
  resolved := Array.replicate 71 none
  statics := none }

def pool14 : Array CpInfo := pool [(4, .class_ 6), (1, u "java/lang/Object"), (0, u "<init>"), (0, u "()V"), (5, .class_ 16), (1, u "java/lang/StringLatin1"), (104, u "$assertionsDisabled"), (0, u "Z"), (98, .class_ 223), (1, u "java/lang/StringLatin1$LinesSpliterator"), (166, .class_ 391), (0, u "java/lang/StringLatin1$CharsSpliterator")] 3

def k14m0 : Method := { name := "<init>", desc := "()V", sig := { parameters := [], returnType := none }, accessFlags := 0, code := none }
/-- java/lang/StringLatin1 -/
def k14 : Class := { plain "java/lang/StringLatin1" (some 0) with
  accessFlags := 48
  interfaces := #[]
  cf := some (fileOf pool14 14 #[.nestMembers #[390, 221]] #[{ accessFlags := 0, nameIndex := 7, descriptorIndex := 8, attributes := #[] }] 48 4 #[] #[{ accessFlags := 4120, nameIndex := 121, descriptorIndex := 122, attributes := #[] }])
  fields := #[{ name := "$assertionsDisabled", type := .boolean, accessFlags := 4120, slot := 0, constantValue := 0 }]
  methods := #[k14m0]
  instanceTypes := #[]
  staticTypes := #[.boolean]
  resolved := Array.replicate 395 none
  statics := none }

def pool15 : Array CpInfo := pool [(2, .class_ 4), (1, u "java/lang/Object"), (0, u "<init>"), (0, u "()V"), (17, .class_ 26), (1, u "jdk/internal/util/Preconditions"), (28, .class_ 56), (0, u "jdk/internal/util/Preconditions$4"), (57, .class_ 115), (0, u "jdk/internal/util/Preconditions$1"), (7, u "SIOOBE_FORMATTER"), (0, u "Ljava/util/function/BiFunction;"), (0, .class_ 126), (0, u "jdk/internal/util/Preconditions$2"), (3, u "AIOOBE_FORMATTER"), (0, .class_ 132), (0, u "jdk/internal/util/Preconditions$3"), (3, u "IOOBE_FORMATTER")] 57

def k15m0 : Method := { name := "<init>", desc := "()V", sig := { parameters := [], returnType := none }, accessFlags := 1, code := none }
/-- jdk/internal/util/Preconditions -/
def k15 : Class := { plain "jdk/internal/util/Preconditions" (some 0) with
  accessFlags := 33
  interfaces := #[]
  cf := some (fileOf pool15 24 #[.nestMembers #[55, 131, 125, 114]] #[{ accessFlags := 1, nameIndex := 5, descriptorIndex := 6, attributes := #[] }] 33 2 #[] #[{ accessFlags := 25, nameIndex := 123, descriptorIndex := 124, attributes := #[] }, { accessFlags := 25, nameIndex := 130, descriptorIndex := 124, attributes := #[] }, { accessFlags := 25, nameIndex := 136, descriptorIndex := 124, attributes := #[] }])
  fields := #[{ name := "SIOOBE_FORMATTER", type := (.object "java/util/function/BiFunction"), accessFlags := 25, slot := 0, constantValue := 0 }, { name := "AIOOBE_FORMATTER", type := (.object "java/util/function/BiFunction"), accessFlags := 25, slot := 1, constantValue := 0 }, { name := "IOOBE_FORMATTER", type := (.object "java/util/function/BiFunction"), accessFlags := 25, slot := 2, constantValue := 0 }]
  methods := #[k15m0]
  instanceTypes := #[]
  staticTypes := #[(.object "java/util/function/BiFunction"), (.object "java/util/function/BiFunction"), (.object "java/util/function/BiFunction")]
  resolved := Array.replicate 194 none
  statics := some 2 }

def pool16 : Array CpInfo := pool [(9, u "<init>"), (6, .class_ 18), (1, u "java/lang/Object"), (0, u "()V"), (1, .class_ 23), (1, u "jdk/internal/util/ArraysSupport"), (0, u "LOG2_ARRAY_LONG_INDEX_SCALE"), (0, u "I"), (2, u "U"), (0, u "Ljdk/internal/misc/Unsafe;"), (8, u "BIG_ENDIAN"), (0, u "Z"), (8, u "LOG2_BYTE_BIT_SIZE"), (4, u "LOG2_ARRAY_INT_INDEX_SCALE"), (54, u "JLA"), (0, u "Ljdk/internal/access/JavaLangAccess;"), (11, u "LOG2_ARRAY_BOOLEAN_INDEX_SCALE"), (9, u "LOG2_ARRAY_BYTE_INDEX_SCALE"), (5, u "LOG2_ARRAY_CHAR_INDEX_SCALE"), (5, u "LOG2_ARRAY_SHORT_INDEX_SCALE"), (18, u "LOG2_ARRAY_FLOAT_INDEX_SCALE"), (24, u "LOG2_ARRAY_DOUBLE_INDEX_SCALE"), (89, u "T_BOOLEAN"), (2, u "T_CHAR"), (1, u "T_FLOAT"), (1, u "T_DOUBLE"), (1, u "T_BYTE"), (1, u "T_SHORT"), (1, u "T_INT"), (1, u "T_LONG"), (1, u "SOFT_MAX_ARRAY_LENGTH")] 83

def k16m0 : Method := { name := "<init>", desc := "()V", sig := { parameters := [], returnType := none }, accessFlags := 2, code := none }
/-- jdk/internal/util/ArraysSupport -/
def k16 : Class := { plain "jdk/internal/util/ArraysSupport" (some 0) with
  accessFlags := 33
  interfaces := #[]
  cf := some (fileOf pool16 21 #[] #[{ accessFlags := 2, nameIndex := 9, descriptorIndex := 19, attributes := #[] }] 33 16 #[] #[{ accessFlags := 24, nameIndex := 28, descriptorIndex := 29, attributes := #[] }, { accessFlags := 26, nameIndex := 38, descriptorIndex := 39, attributes := #[] }, { accessFlags := 25, nameIndex := 121, descriptorIndex := 25, attributes := #[] }, { accessFlags := 25, nameIndex := 131, descriptorIndex := 25, attributes := #[] }, { accessFlags := 25, nameIndex := 137, descriptorIndex := 25, attributes := #[] }, { accessFlags := 25, nameIndex := 143, descriptorIndex := 25, attributes := #[] }, { accessFlags := 25, nameIndex := 53, descriptorIndex := 25, attributes := #[] }, { accessFlags := 25, nameIndex := 24, descriptorIndex := 25, attributes := #[] }, { accessFlags := 25, nameIndex := 162, descriptorIndex := 25, attributes := #[] }, { accessFlags := 25, nameIndex := 187, descriptorIndex := 25, attributes := #[] }, { accessFlags := 26, nameIndex := 48, descriptorIndex := 25, attributes := #[] }, { accessFlags := 25, nameIndex := 277, descriptorIndex := 25, attributes := #[] }, { accessFlags := 25, nameIndex := 280, descriptorIndex := 25, attributes := #[] }, { accessFlags := 25, nameIndex := 282, descriptorIndex := 25, attributes := #[] }, { accessFlags := 25, nameIndex := 284, descriptorIndex := 25, attributes := #[] }, { accessFlags := 25, nameIndex := 286, descriptorIndex := 25, attributes := #[] }, { accessFlags := 25, nameIndex := 288, descriptorIndex := 25, attributes := #[] }, { accessFlags := 25, nameIndex := 290, descriptorIndex := 25, attributes := #[] }, { accessFlags := 25, nameIndex := 292, descriptorIndex := 25, attributes := #[] }, { accessFlags := 26, nameIndex := 108, descriptorIndex := 109, attributes := #[] }, { accessFlags := 25, nameIndex := 294, descriptorIndex := 25, attributes := #[] }])
  fields := #[{ name := "U", type := (.object "jdk/internal/misc/Unsafe"), accessFlags := 24, slot := 0, constantValue := 0 }, { name := "BIG_ENDIAN", type := .boolean, accessFlags := 26, slot := 1, constantValue := 0 }, { name := "LOG2_ARRAY_BOOLEAN_INDEX_SCALE", type := .int, accessFlags := 25, slot := 2, constantValue := 0 }, { name := "LOG2_ARRAY_BYTE_INDEX_SCALE", type := .int, accessFlags := 25, slot := 3, constantValue := 0 }, { name := "LOG2_ARRAY_CHAR_INDEX_SCALE", type := .int, accessFlags := 25, slot := 4, constantValue := 0 }, { name := "LOG2_ARRAY_SHORT_INDEX_SCALE", type := .int, accessFlags := 25, slot := 5, constantValue := 0 }, { name := "LOG2_ARRAY_INT_INDEX_SCALE", type := .int, accessFlags := 25, slot := 6, constantValue := 0 }, { name := "LOG2_ARRAY_LONG_INDEX_SCALE", type := .int, accessFlags := 25, slot := 7, constantValue := 0 }, { name := "LOG2_ARRAY_FLOAT_INDEX_SCALE", type := .int, accessFlags := 25, slot := 8, constantValue := 0 }, { name := "LOG2_ARRAY_DOUBLE_INDEX_SCALE", type := .int, accessFlags := 25, slot := 9, constantValue := 0 }, { name := "LOG2_BYTE_BIT_SIZE", type := .int, accessFlags := 26, slot := 10, constantValue := 0 }, { name := "T_BOOLEAN", type := .int, accessFlags := 25, slot := 11, constantValue := 0 }, { name := "T_CHAR", type := .int, accessFlags := 25, slot := 12, constantValue := 0 }, { name := "T_FLOAT", type := .int, accessFlags := 25, slot := 13, constantValue := 0 }, { name := "T_DOUBLE", type := .int, accessFlags := 25, slot := 14, constantValue := 0 }, { name := "T_BYTE", type := .int, accessFlags := 25, slot := 15, constantValue := 0 }, { name := "T_SHORT", type := .int, accessFlags := 25, slot := 16, constantValue := 0 }, { name := "T_INT", type := .int, accessFlags := 25, slot := 17, constantValue := 0 }, { name := "T_LONG", type := .int, accessFlags := 25, slot := 18, constantValue := 0 }, { name := "JLA", type := (.object "jdk/internal/access/JavaLangAccess"), accessFlags := 26, slot := 19, constantValue := 0 }, { name := "SOFT_MAX_ARRAY_LENGTH", type := .int, accessFlags := 25, slot := 20, constantValue := 0 }]
  methods := #[k16m0]
  instanceTypes := #[]
  staticTypes := #[(.object "jdk/internal/misc/Unsafe"), .boolean, .int, .int, .int, .int, .int, .int, .int, .int, .int, .int, .int, .int, .int, .int, .int, .int, .int, (.object "jdk/internal/access/JavaLangAccess"), .int]
  resolved := Array.replicate 378 none
  statics := none }

def pool17 : Array CpInfo := pool [(1, u "java/lang/Cloneable"), (0, .class_ 1), (0, u "java/lang/Object"), (0, .class_ 3)] 3

/-- java/lang/Cloneable -/
def k17 : Class := { plain "java/lang/Cloneable" (some 0) with
  accessFlags := 1537
  interfaces := #[]
  cf := some (fileOf pool17 2 #[] #[] 1537 4 #[] #[])
  fields := #[]
  methods := #[]
  instanceTypes := #[]
  staticTypes := #[]
  resolved := Array.replicate 8 none
  statics := none }

/-- the primitive byte -/
def k18 : Class := { plain "byte" none with kind := .primitive 'B', accessFlags := 0x411 }
/-- [B -/
def k19 : Class := { plain "[B" (some 0) with kind := .array 18 .byte, interfaces := #[17, 3], accessFlags := 1041 }

/-- the primitive double -/
def k20 : Class := { plain "double" none with kind := .primitive 'D', accessFlags := 0x411 }
/-- [D -/
def k21 : Class := { plain "[D" (some 0) with kind := .array 20 .double, interfaces := #[17, 3], accessFlags := 1041 }

/-- the primitive int -/
def k22 : Class := { plain "int" none with kind := .primitive 'I', accessFlags := 0x411 }
/-- [I -/
def k23 : Class := { plain "[I" (some 0) with kind := .array 22 .int, interfaces := #[17, 3], accessFlags := 1041 }

/-- the primitive long -/
def k24 : Class := { plain "long" none with kind := .primitive 'J', accessFlags := 0x411 }
/-- [J -/
def k25 : Class := { plain "[J" (some 0) with kind := .array 24 .long, interfaces := #[17, 3], accessFlags := 1041 }

/-- [Ljava/lang/Integer; -/
def k26 : Class := { plain "[Ljava/lang/Integer;" (some 0) with kind := .array 11 (.object "java/lang/Integer"), interfaces := #[17, 3], accessFlags := 1041 }

/-- [Ljava/lang/String; -/
def k27 : Class := { plain "[Ljava/lang/String;" (some 0) with kind := .array 8 (.object "java/lang/String"), interfaces := #[17, 3], accessFlags := 1041 }

def heap : Heap := #[{ cls := 8, slots := #[.long 0, .int 1, .null, .int 0, .null, .int 0, .int 0], vm := .statics 8 },
  { cls := 12, slots := #[.int 0, .int 127, .ref 3, .null, .int 0], vm := .statics 12 },
  { cls := 15, slots := #[.null, .null, .null], vm := .statics 15 },
  { cls := 26, slots := #[.ref 4, .ref 5, .ref 6, .ref 7, .ref 8, .ref 9, .ref 10, .ref 11, .ref 12, .ref 13, .ref 14, .ref 15, .ref 16, .ref 17, .ref 18, .ref 19, .ref 20, .ref 21, .ref 22, .ref 23, .ref 24, .ref 25, .ref 26, .ref 27, .ref 28, .ref 29, .ref 30, .ref 31, .ref 32, .ref 33, .ref 34, .ref 35, .ref 36, .ref 37, .ref 38, .ref 39, .ref 40, .ref 41, .ref 42, .ref 43, .ref 44, .ref 45, .ref 46, .ref 47, .ref 48, .ref 49, .ref 50, .ref 51, .ref 52, .ref 53, .ref 54, .ref 55, .ref 56, .ref 57, .ref 58, .ref 59, .ref 60, .ref 61, .ref 62, .ref 63, .ref 64, .ref 65, .ref 66, .ref 67, .ref 68, .ref 69, .ref 70, .ref 71, .ref 72, .ref 73, .ref 74, .ref 75, .ref 76, .ref 77, .ref 78, .ref 79, .ref 80, .ref 81, .ref 82, .ref 83, .ref 84, .ref 85, .ref 86, .ref 87, .ref 88, .ref 89, .ref 90, .ref 91, .ref 92, .ref 93, .ref 94, .ref 95, .ref 96, .ref 97, .ref 98, .ref 99, .ref 100, .ref 101, .ref 102, .ref 103, .ref 104, .ref 105, .ref 106, .ref 107, .ref 108, .ref 109, .ref 110, .ref 111, .ref 112, .ref 113, .ref 114, .ref 115, .ref 116, .ref 117, .ref 118, .ref 119, .ref 120, .ref 121, .ref 122, .ref 123, .ref 124, .ref 125, .ref 126, .ref 127, .ref 128, .ref 129, .ref 130, .ref 131, .ref 132, .ref 133, .ref 134, .ref 135, .ref 136, .ref 137, .ref 138, .ref 139, .ref 140, .ref 141, .ref 142, .ref 143, .ref 144, .ref 145, .ref 146, .ref 147, .ref 148, .ref 149, .ref 150, .ref 151, .ref 152, .ref 153, .ref 154, .ref 155, .ref 156, .ref 157, .ref 158, .ref 159, .ref 160, .ref 161, .ref 162, .ref 163, .ref 164, .ref 165, .ref 166, .ref 167, .ref 168, .ref 169, .ref 170, .ref 171, .ref 172, .ref 173, .ref 174, .ref 175, .ref 176, .ref 177, .ref 178, .ref 179, .ref 180, .ref 181, .ref 182, .ref 183, .ref 184, .ref 185, .ref 186, .ref 187, .ref 188, .ref 189, .ref 190, .ref 191, .ref 192, .ref 193, .ref 194, .ref 195, .ref 196, .ref 197, .ref 198, .ref 199, .ref 200, .ref 201, .ref 202, .ref 203, .ref 204, .ref 205, .ref 206, .ref 207, .ref 208, .ref 209, .ref 210, .ref 211, .ref 212, .ref 213, .ref 214, .ref 215, .ref 216, .ref 217, .ref 218, .ref 219, .ref 220, .ref 221, .ref 222, .ref 223, .ref 224, .ref 225, .ref 226, .ref 227, .ref 228, .ref 229, .ref 230, .ref 231, .ref 232, .ref 233, .ref 234, .ref 235, .ref 236, .ref 237, .ref 238, .ref 239, .ref 240, .ref 241, .ref 242, .ref 243, .ref 244, .ref 245, .ref 246, .ref 247, .ref 248, .ref 249, .ref 250, .ref 251, .ref 252, .ref 253, .ref 254, .ref 255, .ref 256, .ref 257, .ref 258, .ref 259], vm := .none },
  { cls := 11, slots := #[.int (-128)], vm := .none },
  { cls := 11, slots := #[.int (-127)], vm := .none },
  { cls := 11, slots := #[.int (-126)], vm := .none },
  { cls := 11, slots := #[.int (-125)], vm := .none },
  { cls := 11, slots := #[.int (-124)], vm := .none },
  { cls := 11, slots := #[.int (-123)], vm := .none },
  { cls := 11, slots := #[.int (-122)], vm := .none },
  { cls := 11, slots := #[.int (-121)], vm := .none },
  { cls := 11, slots := #[.int (-120)], vm := .none },
  { cls := 11, slots := #[.int (-119)], vm := .none },
  { cls := 11, slots := #[.int (-118)], vm := .none },
  { cls := 11, slots := #[.int (-117)], vm := .none },
  { cls := 11, slots := #[.int (-116)], vm := .none },
  { cls := 11, slots := #[.int (-115)], vm := .none },
  { cls := 11, slots := #[.int (-114)], vm := .none },
  { cls := 11, slots := #[.int (-113)], vm := .none },
  { cls := 11, slots := #[.int (-112)], vm := .none },
  { cls := 11, slots := #[.int (-111)], vm := .none },
  { cls := 11, slots := #[.int (-110)], vm := .none },
  { cls := 11, slots := #[.int (-109)], vm := .none },
  { cls := 11, slots := #[.int (-108)], vm := .none },
  { cls := 11, slots := #[.int (-107)], vm := .none },
  { cls := 11, slots := #[.int (-106)], vm := .none },
  { cls := 11, slots := #[.int (-105)], vm := .none },
  { cls := 11, slots := #[.int (-104)], vm := .none },
  { cls := 11, slots := #[.int (-103)], vm := .none },
  { cls := 11, slots := #[.int (-102)], vm := .none },
  { cls := 11, slots := #[.int (-101)], vm := .none },
  { cls := 11, slots := #[.int (-100)], vm := .none },
  { cls := 11, slots := #[.int (-99)], vm := .none },
  { cls := 11, slots := #[.int (-98)], vm := .none },
  { cls := 11, slots := #[.int (-97)], vm := .none },
  { cls := 11, slots := #[.int (-96)], vm := .none },
  { cls := 11, slots := #[.int (-95)], vm := .none },
  { cls := 11, slots := #[.int (-94)], vm := .none },
  { cls := 11, slots := #[.int (-93)], vm := .none },
  { cls := 11, slots := #[.int (-92)], vm := .none },
  { cls := 11, slots := #[.int (-91)], vm := .none },
  { cls := 11, slots := #[.int (-90)], vm := .none },
  { cls := 11, slots := #[.int (-89)], vm := .none },
  { cls := 11, slots := #[.int (-88)], vm := .none },
  { cls := 11, slots := #[.int (-87)], vm := .none },
  { cls := 11, slots := #[.int (-86)], vm := .none },
  { cls := 11, slots := #[.int (-85)], vm := .none },
  { cls := 11, slots := #[.int (-84)], vm := .none },
  { cls := 11, slots := #[.int (-83)], vm := .none },
  { cls := 11, slots := #[.int (-82)], vm := .none },
  { cls := 11, slots := #[.int (-81)], vm := .none },
  { cls := 11, slots := #[.int (-80)], vm := .none },
  { cls := 11, slots := #[.int (-79)], vm := .none },
  { cls := 11, slots := #[.int (-78)], vm := .none },
  { cls := 11, slots := #[.int (-77)], vm := .none },
  { cls := 11, slots := #[.int (-76)], vm := .none },
  { cls := 11, slots := #[.int (-75)], vm := .none },
  { cls := 11, slots := #[.int (-74)], vm := .none },
  { cls := 11, slots := #[.int (-73)], vm := .none },
  { cls := 11, slots := #[.int (-72)], vm := .none },
  { cls := 11, slots := #[.int (-71)], vm := .none },
  { cls := 11, slots := #[.int (-70)], vm := .none },
  { cls := 11, slots := #[.int (-69)], vm := .none },
  { cls := 11, slots := #[.int (-68)], vm := .none },
  { cls := 11, slots := #[.int (-67)], vm := .none },
  { cls := 11, slots := #[.int (-66)], vm := .none },
  { cls := 11, slots := #[.int (-65)], vm := .none },
  { cls := 11, slots := #[.int (-64)], vm := .none },
  { cls := 11, slots := #[.int (-63)], vm := .none },
  { cls := 11, slots := #[.int (-62)], vm := .none },
  { cls := 11, slots := #[.int (-61)], vm := .none },
  { cls := 11, slots := #[.int (-60)], vm := .none },
  { cls := 11, slots := #[.int (-59)], vm := .none },
  { cls := 11, slots := #[.int (-58)], vm := .none },
  { cls := 11, slots := #[.int (-57)], vm := .none },
  { cls := 11, slots := #[.int (-56)], vm := .none },
  { cls := 11, slots := #[.int (-55)], vm := .none },
  { cls := 11, slots := #[.int (-54)], vm := .none },
  { cls := 11, slots := #[.int (-53)], vm := .none },
  { cls := 11, slots := #[.int (-52)], vm := .none },
  { cls := 11, slots := #[.int (-51)], vm := .none },
  { cls := 11, slots := #[.int (-50)], vm := .none },
  { cls := 11, slots := #[.int (-49)], vm := .none },
  { cls := 11, slots := #[.int (-48)], vm := .none },
  { cls := 11, slots := #[.int (-47)], vm := .none },
  { cls := 11, slots := #[.int (-46)], vm := .none },
  { cls := 11, slots := #[.int (-45)], vm := .none },
  { cls := 11, slots := #[.int (-44)], vm := .none },
  { cls := 11, slots := #[.int (-43)], vm := .none },
  { cls := 11, slots := #[.int (-42)], vm := .none },
  { cls := 11, slots := #[.int (-41)], vm := .none },
  { cls := 11, slots := #[.int (-40)], vm := .none },
  { cls := 11, slots := #[.int (-39)], vm := .none },
  { cls := 11, slots := #[.int (-38)], vm := .none },
  { cls := 11, slots := #[.int (-37)], vm := .none },
  { cls := 11, slots := #[.int (-36)], vm := .none },
  { cls := 11, slots := #[.int (-35)], vm := .none },
  { cls := 11, slots := #[.int (-34)], vm := .none },
  { cls := 11, slots := #[.int (-33)], vm := .none },
  { cls := 11, slots := #[.int (-32)], vm := .none },
  { cls := 11, slots := #[.int (-31)], vm := .none },
  { cls := 11, slots := #[.int (-30)], vm := .none },
  { cls := 11, slots := #[.int (-29)], vm := .none },
  { cls := 11, slots := #[.int (-28)], vm := .none },
  { cls := 11, slots := #[.int (-27)], vm := .none },
  { cls := 11, slots := #[.int (-26)], vm := .none },
  { cls := 11, slots := #[.int (-25)], vm := .none },
  { cls := 11, slots := #[.int (-24)], vm := .none },
  { cls := 11, slots := #[.int (-23)], vm := .none },
  { cls := 11, slots := #[.int (-22)], vm := .none },
  { cls := 11, slots := #[.int (-21)], vm := .none },
  { cls := 11, slots := #[.int (-20)], vm := .none },
  { cls := 11, slots := #[.int (-19)], vm := .none },
  { cls := 11, slots := #[.int (-18)], vm := .none },
  { cls := 11, slots := #[.int (-17)], vm := .none },
  { cls := 11, slots := #[.int (-16)], vm := .none },
  { cls := 11, slots := #[.int (-15)], vm := .none },
  { cls := 11, slots := #[.int (-14)], vm := .none },
  { cls := 11, slots := #[.int (-13)], vm := .none },
  { cls := 11, slots := #[.int (-12)], vm := .none },
  { cls := 11, slots := #[.int (-11)], vm := .none },
  { cls := 11, slots := #[.int (-10)], vm := .none },
  { cls := 11, slots := #[.int (-9)], vm := .none },
  { cls := 11, slots := #[.int (-8)], vm := .none },
  { cls := 11, slots := #[.int (-7)], vm := .none },
  { cls := 11, slots := #[.int (-6)], vm := .none },
  { cls := 11, slots := #[.int (-5)], vm := .none },
  { cls := 11, slots := #[.int (-4)], vm := .none },
  { cls := 11, slots := #[.int (-3)], vm := .none },
  { cls := 11, slots := #[.int (-2)], vm := .none },
  { cls := 11, slots := #[.int (-1)], vm := .none },
  { cls := 11, slots := #[.int (0)], vm := .none },
  { cls := 11, slots := #[.int (1)], vm := .none },
  { cls := 11, slots := #[.int (2)], vm := .none },
  { cls := 11, slots := #[.int (3)], vm := .none },
  { cls := 11, slots := #[.int (4)], vm := .none },
  { cls := 11, slots := #[.int (5)], vm := .none },
  { cls := 11, slots := #[.int (6)], vm := .none },
  { cls := 11, slots := #[.int (7)], vm := .none },
  { cls := 11, slots := #[.int (8)], vm := .none },
  { cls := 11, slots := #[.int (9)], vm := .none },
  { cls := 11, slots := #[.int (10)], vm := .none },
  { cls := 11, slots := #[.int (11)], vm := .none },
  { cls := 11, slots := #[.int (12)], vm := .none },
  { cls := 11, slots := #[.int (13)], vm := .none },
  { cls := 11, slots := #[.int (14)], vm := .none },
  { cls := 11, slots := #[.int (15)], vm := .none },
  { cls := 11, slots := #[.int (16)], vm := .none },
  { cls := 11, slots := #[.int (17)], vm := .none },
  { cls := 11, slots := #[.int (18)], vm := .none },
  { cls := 11, slots := #[.int (19)], vm := .none },
  { cls := 11, slots := #[.int (20)], vm := .none },
  { cls := 11, slots := #[.int (21)], vm := .none },
  { cls := 11, slots := #[.int (22)], vm := .none },
  { cls := 11, slots := #[.int (23)], vm := .none },
  { cls := 11, slots := #[.int (24)], vm := .none },
  { cls := 11, slots := #[.int (25)], vm := .none },
  { cls := 11, slots := #[.int (26)], vm := .none },
  { cls := 11, slots := #[.int (27)], vm := .none },
  { cls := 11, slots := #[.int (28)], vm := .none },
  { cls := 11, slots := #[.int (29)], vm := .none },
  { cls := 11, slots := #[.int (30)], vm := .none },
  { cls := 11, slots := #[.int (31)], vm := .none },
  { cls := 11, slots := #[.int (32)], vm := .none },
  { cls := 11, slots := #[.int (33)], vm := .none },
  { cls := 11, slots := #[.int (34)], vm := .none },
  { cls := 11, slots := #[.int (35)], vm := .none },
  { cls := 11, slots := #[.int (36)], vm := .none },
  { cls := 11, slots := #[.int (37)], vm := .none },
  { cls := 11, slots := #[.int (38)], vm := .none },
  { cls := 11, slots := #[.int (39)], vm := .none },
  { cls := 11, slots := #[.int (40)], vm := .none },
  { cls := 11, slots := #[.int (41)], vm := .none },
  { cls := 11, slots := #[.int (42)], vm := .none },
  { cls := 11, slots := #[.int (43)], vm := .none },
  { cls := 11, slots := #[.int (44)], vm := .none },
  { cls := 11, slots := #[.int (45)], vm := .none },
  { cls := 11, slots := #[.int (46)], vm := .none },
  { cls := 11, slots := #[.int (47)], vm := .none },
  { cls := 11, slots := #[.int (48)], vm := .none },
  { cls := 11, slots := #[.int (49)], vm := .none },
  { cls := 11, slots := #[.int (50)], vm := .none },
  { cls := 11, slots := #[.int (51)], vm := .none },
  { cls := 11, slots := #[.int (52)], vm := .none },
  { cls := 11, slots := #[.int (53)], vm := .none },
  { cls := 11, slots := #[.int (54)], vm := .none },
  { cls := 11, slots := #[.int (55)], vm := .none },
  { cls := 11, slots := #[.int (56)], vm := .none },
  { cls := 11, slots := #[.int (57)], vm := .none },
  { cls := 11, slots := #[.int (58)], vm := .none },
  { cls := 11, slots := #[.int (59)], vm := .none },
  { cls := 11, slots := #[.int (60)], vm := .none },
  { cls := 11, slots := #[.int (61)], vm := .none },
  { cls := 11, slots := #[.int (62)], vm := .none },
  { cls := 11, slots := #[.int (63)], vm := .none },
  { cls := 11, slots := #[.int (64)], vm := .none },
  { cls := 11, slots := #[.int (65)], vm := .none },
  { cls := 11, slots := #[.int (66)], vm := .none },
  { cls := 11, slots := #[.int (67)], vm := .none },
  { cls := 11, slots := #[.int (68)], vm := .none },
  { cls := 11, slots := #[.int (69)], vm := .none },
  { cls := 11, slots := #[.int (70)], vm := .none },
  { cls := 11, slots := #[.int (71)], vm := .none },
  { cls := 11, slots := #[.int (72)], vm := .none },
  { cls := 11, slots := #[.int (73)], vm := .none },
  { cls := 11, slots := #[.int (74)], vm := .none },
  { cls := 11, slots := #[.int (75)], vm := .none },
  { cls := 11, slots := #[.int (76)], vm := .none },
  { cls := 11, slots := #[.int (77)], vm := .none },
  { cls := 11, slots := #[.int (78)], vm := .none },
  { cls := 11, slots := #[.int (79)], vm := .none },
  { cls := 11, slots := #[.int (80)], vm := .none },
  { cls := 11, slots := #[.int (81)], vm := .none },
  { cls := 11, slots := #[.int (82)], vm := .none },
  { cls := 11, slots := #[.int (83)], vm := .none },
  { cls := 11, slots := #[.int (84)], vm := .none },
  { cls := 11, slots := #[.int (85)], vm := .none },
  { cls := 11, slots := #[.int (86)], vm := .none },
  { cls := 11, slots := #[.int (87)], vm := .none },
  { cls := 11, slots := #[.int (88)], vm := .none },
  { cls := 11, slots := #[.int (89)], vm := .none },
  { cls := 11, slots := #[.int (90)], vm := .none },
  { cls := 11, slots := #[.int (91)], vm := .none },
  { cls := 11, slots := #[.int (92)], vm := .none },
  { cls := 11, slots := #[.int (93)], vm := .none },
  { cls := 11, slots := #[.int (94)], vm := .none },
  { cls := 11, slots := #[.int (95)], vm := .none },
  { cls := 11, slots := #[.int (96)], vm := .none },
  { cls := 11, slots := #[.int (97)], vm := .none },
  { cls := 11, slots := #[.int (98)], vm := .none },
  { cls := 11, slots := #[.int (99)], vm := .none },
  { cls := 11, slots := #[.int (100)], vm := .none },
  { cls := 11, slots := #[.int (101)], vm := .none },
  { cls := 11, slots := #[.int (102)], vm := .none },
  { cls := 11, slots := #[.int (103)], vm := .none },
  { cls := 11, slots := #[.int (104)], vm := .none },
  { cls := 11, slots := #[.int (105)], vm := .none },
  { cls := 11, slots := #[.int (106)], vm := .none },
  { cls := 11, slots := #[.int (107)], vm := .none },
  { cls := 11, slots := #[.int (108)], vm := .none },
  { cls := 11, slots := #[.int (109)], vm := .none },
  { cls := 11, slots := #[.int (110)], vm := .none },
  { cls := 11, slots := #[.int (111)], vm := .none },
  { cls := 11, slots := #[.int (112)], vm := .none },
  { cls := 11, slots := #[.int (113)], vm := .none },
  { cls := 11, slots := #[.int (114)], vm := .none },
  { cls := 11, slots := #[.int (115)], vm := .none },
  { cls := 11, slots := #[.int (116)], vm := .none },
  { cls := 11, slots := #[.int (117)], vm := .none },
  { cls := 11, slots := #[.int (118)], vm := .none },
  { cls := 11, slots := #[.int (119)], vm := .none },
  { cls := 11, slots := #[.int (120)], vm := .none },
  { cls := 11, slots := #[.int (121)], vm := .none },
  { cls := 11, slots := #[.int (122)], vm := .none },
  { cls := 11, slots := #[.int (123)], vm := .none },
  { cls := 11, slots := #[.int (124)], vm := .none },
  { cls := 11, slots := #[.int (125)], vm := .none },
  { cls := 11, slots := #[.int (126)], vm := .none },
  { cls := 11, slots := #[.int (127)], vm := .none }]
def classes : Array Class := #[k0, k1, k2, k3, k4, k5, k6, k7, k8, k9, k10, k11, k12, k13, k14, k15, k16, k17, k18, k19, k20, k21, k22, k23, k24, k25, k26, k27]
def interned : List (Array UInt16 × Addr) := []
def slotsUsed : Nat := 527
def theMethod : MethodId := ⟨1, 1⟩
def args0 : Array Value := #[.int 5, .int 6, .int 7, .int 8]
def aboutOver (below : List Frame) : State where
  vm := { classes := classes, interned := interned.toArray }
  heap := heap
  slotsUsed := slotsUsed
  threads := #[{ frames := .invoking theMethod args0 :: below }]
def below0 : List Frame := [.native { method := ⟨0, 0⟩, args := #[] }]
def about1 : State := aboutOver below0
def p0 : Program := .bare "" "" ""
def e0 : Env := launch0.env 0 0 0
theorem w_frames : about1.frames = Frame.invoking theMethod args0 :: below0 := rfl
set_option maxRecDepth 65536 in
theorem w_args : argsFit about1.vm theMethod args0 = true := by decide +kernel
set_option maxRecDepth 65536 in
theorem w_heap : heapFits about1 = true := by decide +kernel
set_option maxRecDepth 65536 in
theorem w_runnable : about1.curStatus? = some .runnable := by decide +kernel
set_option maxRecDepth 65536 in
theorem w_alone : about1.alone = true := by decide +kernel
set_option maxRecDepth 65536 in
theorem w_named : about1.methodNamed? x = some theMethod := by decide +kernel
set_option maxRecDepth 65536 in
theorem w_hears : about1.hears theMethod below0 = true := by decide +kernel
set_option maxRecDepth 65536 in
theorem w_ripe : about1.ripe theMethod args0 below0 = true := by decide +kernel
theorem w_running : about1.status = .running := rfl
set_option maxRecDepth 65536 in
theorem w_room : about1.hasRoom e0.platform room_1 = true :=
  launch0.hasRoom_least _ room_1 (by decide +kernel) (by decide +kernel) (by decide +kernel) (by decide +kernel) (by decide +kernel) (by decide +kernel)
theorem allAtoms_all (ts : List Jvm.Cond) (a : Array Jvm.Value) (st : Jvm.State) : (allAtoms ts).before a st = ts.all (fun c => c.before a st) := by
  induction ts with
  | nil => rfl
  | cons c t ih =>
    show (Jvm.Cond.and c (allAtoms t)).before a st = _
    rw [Jvm.Cond.before_and, ih, List.all_cons]
def words1 : List Jvm.Cond := Jvm.Cond.code x code maxLocals ret :: tables_1
/-- a 'code' word, met by the world's own term for the bytes: nothing is compared byte by byte -/
theorem code_word {y : MethodName} {bytes : ByteArray} {mx : Nat} {rt : Option FieldType} {a : Array Value} {s : State} {m : MethodId} {meth : Method} {c : Code} (h1 : s.methodNamed? y = some m) (h2 : s.vm.method? m = some meth) (h3 : meth.code = some c) (h4 : c.code = bytes)
    (h5 : (c.maxLocals == mx && c.exceptionTable.isEmpty && decide (c.maxStack ≤ mostOperands) && decide (meth.sig.returnType = rt) && !meth.locks && decide (parseMethodDescriptor y.desc = some meth.sig)) = true) : (Jvm.Cond.code y bytes mx rt).before a s = true := by
  simp only [Bool.and_eq_true, beq_iff_eq, Bool.not_eq_true', decide_eq_true_eq] at h5
  obtain ⟨⟨⟨⟨⟨g1, g2⟩, g3⟩, g4⟩, g5⟩, g6⟩ := h5
  simp [Cond.before, Cond.holds, Cond.value, h1, h2, h3, h4, g1, g2, g3, g4, g5, g6]
def isCode : Jvm.Cond → Bool
  | .code _ _ _ _ => true
  | _ => false
theorem all_split {L : List Jvm.Cond} {P : Jvm.Cond → Bool} (h1 : L.all (fun c => isCode c || P c) = true) (h2 : ∀ c ∈ L.filter isCode, P c = true) : L.all P = true := by
  refine List.all_eq_true.mpr fun c hc => ?_
  have h := List.all_eq_true.mp h1 c hc
  rcases Bool.eq_false_or_eq_true (isCode c) with hi | hi
  · exact h2 c (List.mem_filter.mpr ⟨hc, hi⟩)
  · simpa [hi] using h
set_option maxRecDepth 65536 in
theorem w_c0 : (Jvm.Cond.code x code maxLocals ret).before args0 about1 = true := code_word (m := ⟨1, 1⟩) (meth := k1m1) (c := k1c1) (by decide +kernel) rfl rfl rfl (by decide +kernel)
set_option maxRecDepth 65536 in
theorem w_c1 : (Jvm.Cond.code ({ cls := "com/example/thin_index/thinindex/Index", name := "<init>", desc := "([Ljava/lang/String;[IJ[Ljava/lang/String;[I[J[I[I[I)V" } : Jvm.MethodName) prog_15_method_1_code (11 : Nat) (Option.none : Option Jvm.ClassFile.FieldType)).before args0 about1 = true := code_word (m := ⟨2, 0⟩) (meth := k2m0) (c := k2c0) (by decide +kernel) rfl rfl rfl (by decide +kernel)
set_option maxRecDepth 65536 in
theorem w_c2 : (Jvm.Cond.code ({ cls := "java/lang/Object", name := "<init>", desc := "()V" } : Jvm.MethodName) object_method_1_code (1 : Nat) (Option.none : Option Jvm.ClassFile.FieldType)).before args0 about1 = true := code_word (m := ⟨0, 0⟩) (meth := k0m0) (c := k0c0) (by decide +kernel) rfl rfl rfl (by decide +kernel)
set_option maxRecDepth 65536 in
theorem w_c3 : (Jvm.Cond.code ({ cls := "java/util/Objects", name := "requireNonNull", desc := "(Ljava/lang/Object;Ljava/lang/String;)Ljava/lang/Object;" } : Jvm.MethodName) jdk_31_method_11_code (2 : Nat) (Option.some (Jvm.ClassFile.FieldType.object "java/lang/Object"))).before args0 about1 = true := code_word (m := ⟨9, 1⟩) (meth := k9m1) (c := k9c1) (by decide +kernel) rfl rfl rfl (by decide +kernel)
set_option maxRecDepth 65536 in
theorem w_c4 : (Jvm.Cond.code ({ cls := "com/example/thin_index/thinindex/Index", name := "checkDocuments", desc := "()V" } : Jvm.MethodName) prog_15_method_19_code (4 : Nat) (Option.none : Option Jvm.ClassFile.FieldType)).before args0 about1 = true := code_word (m := ⟨2, 6⟩) (meth := k2m6) (c := k2c6) (by decide +kernel) rfl rfl rfl (by decide +kernel)
set_option maxRecDepth 65536 in
theorem w_c5 : (Jvm.Cond.code ({ cls := "com/example/thin_index/thinindex/Index", name := "check", desc := "(ZLjava/lang/String;)V" } : Jvm.MethodName) prog_15_method_22_code (2 : Nat) (Option.none : Option Jvm.ClassFile.FieldType)).before args0 about1 = true := code_word (m := ⟨2, 9⟩) (meth := k2m9) (c := k2c9) (by decide +kernel) rfl rfl rfl (by decide +kernel)
set_option maxRecDepth 65536 in
theorem w_c6 : (Jvm.Cond.code ({ cls := "java/lang/String", name := "isEmpty", desc := "()Z" } : Jvm.MethodName) jdk_42_method_55_code (1 : Nat) (Option.some Jvm.ClassFile.FieldType.boolean)).before args0 about1 = true := code_word (m := ⟨8, 1⟩) (meth := k8m1) (c := k8c1) (by decide +kernel) rfl rfl rfl (by decide +kernel)
set_option maxRecDepth 65536 in
theorem w_c7 : (Jvm.Cond.code ({ cls := "java/lang/Integer", name := "valueOf", desc := "(I)Ljava/lang/Integer;" } : Jvm.MethodName) jdk_33_method_22_code (1 : Nat) (Option.some (Jvm.ClassFile.FieldType.object "java/lang/Integer"))).before args0 about1 = true := code_word (m := ⟨11, 0⟩) (meth := k11m0) (c := k11c0) (by decide +kernel) rfl rfl rfl (by decide +kernel)
set_option maxRecDepth 65536 in
theorem w_c8 : (Jvm.Cond.code ({ cls := "com/example/thin_index/thinindex/Index", name := "check", desc := "(ZLjava/lang/String;Ljava/lang/Object;Ljava/lang/String;)V" } : Jvm.MethodName) prog_15_method_23_code (4 : Nat) (Option.none : Option Jvm.ClassFile.FieldType)).before args0 about1 = true := code_word (m := ⟨2, 10⟩) (meth := k2m10) (c := k2c10) (by decide +kernel) rfl rfl rfl (by decide +kernel)
set_option maxRecDepth 65536 in
theorem w_c9 : (Jvm.Cond.code ({ cls := "com/example/thin_index/thinindex/Index", name := "checkTerms", desc := "()V" } : Jvm.MethodName) prog_15_method_20_code (6 : Nat) (Option.none : Option Jvm.ClassFile.FieldType)).before args0 about1 = true := code_word (m := ⟨2, 7⟩) (meth := k2m7) (c := k2c7) (by decide +kernel) rfl rfl rfl (by decide +kernel)
set_option maxRecDepth 65536 in
theorem w_c10 : (Jvm.Cond.code ({ cls := "com/example/thin_index/thinindex/Index", name := "postingsEnd", desc := "(I)I" } : Jvm.MethodName) prog_15_method_13_code (2 : Nat) (Option.some Jvm.ClassFile.FieldType.int)).before args0 about1 = true := code_word (m := ⟨2, 5⟩) (meth := k2m5) (c := k2c5) (by decide +kernel) rfl rfl rfl (by decide +kernel)
set_option maxRecDepth 65536 in
theorem w_c11 : (Jvm.Cond.code ({ cls := "com/example/thin_index/thinindex/Index", name := "postingsStart", desc := "(I)I" } : Jvm.MethodName) prog_15_method_12_code (2 : Nat) (Option.some Jvm.ClassFile.FieldType.int)).before args0 about1 = true := code_word (m := ⟨2, 4⟩) (meth := k2m4) (c := k2c4) (by decide +kernel) rfl rfl rfl (by decide +kernel)
set_option maxRecDepth 65536 in
theorem w_c12 : (Jvm.Cond.code ({ cls := "com/example/thin_index/thinindex/Index", name := "checkPostings", desc := "(I)V" } : Jvm.MethodName) prog_15_method_21_code (5 : Nat) (Option.none : Option Jvm.ClassFile.FieldType)).before args0 about1 = true := code_word (m := ⟨2, 8⟩) (meth := k2m8) (c := k2c8) (by decide +kernel) rfl rfl rfl (by decide +kernel)
set_option maxRecDepth 65536 in
theorem w_c13 : (Jvm.Cond.code ({ cls := "com/example/thin_index/thinindex/Bm25", name := "<init>", desc := "(Lcom/example/thin_index/thinindex/Index;)V" } : Jvm.MethodName) prog_5_method_1_code (6 : Nat) (Option.none : Option Jvm.ClassFile.FieldType)).before args0 about1 = true := code_word (m := ⟨13, 0⟩) (meth := k13m0) (c := k13c0) (by decide +kernel) rfl rfl rfl (by decide +kernel)
set_option maxRecDepth 65536 in
theorem w_c14 : (Jvm.Cond.code ({ cls := "com/example/thin_index/thinindex/Index", name := "documentCount", desc := "()I" } : Jvm.MethodName) prog_15_method_2_code (1 : Nat) (Option.some Jvm.ClassFile.FieldType.int)).before args0 about1 = true := code_word (m := ⟨2, 1⟩) (meth := k2m1) (c := k2c1) (by decide +kernel) rfl rfl rfl (by decide +kernel)
set_option maxRecDepth 65536 in
theorem w_c15 : (Jvm.Cond.code ({ cls := "com/example/thin_index/thinindex/Index", name := "tokenCount", desc := "()J" } : Jvm.MethodName) prog_15_method_5_code (1 : Nat) (Option.some Jvm.ClassFile.FieldType.long)).before args0 about1 = true := code_word (m := ⟨2, 3⟩) (meth := k2m3) (c := k2c3) (by decide +kernel) rfl rfl rfl (by decide +kernel)
set_option maxRecDepth 65536 in
theorem w_c16 : (Jvm.Cond.code ({ cls := "com/example/thin_index/thinindex/Index", name := "documentLength", desc := "(I)I" } : Jvm.MethodName) prog_15_method_4_code (2 : Nat) (Option.some Jvm.ClassFile.FieldType.int)).before args0 about1 = true := code_word (m := ⟨2, 2⟩) (meth := k2m2) (c := k2c2) (by decide +kernel) rfl rfl rfl (by decide +kernel)
set_option maxRecDepth 65536 in
theorem w_c17 : (Jvm.Cond.code ({ cls := "com/example/thin_index/thinindex/Bm25", name := "weight", desc := "(DII)D" } : Jvm.MethodName) prog_5_method_3_code (5 : Nat) (Option.some Jvm.ClassFile.FieldType.double)).before args0 about1 = true := code_word (m := ⟨13, 1⟩) (meth := k13m1) (c := k13c1) (by decide +kernel) rfl rfl rfl (by decide +kernel)
def codes1 : List Jvm.Cond := [Jvm.Cond.code x code maxLocals ret, Jvm.Cond.code ({ cls := "com/example/thin_index/thinindex/Index", name := "<init>", desc := "([Ljava/lang/String;[IJ[Ljava/lang/String;[I[J[I[I[I)V" } : Jvm.MethodName) prog_15_method_1_code (11 : Nat) (Option.none : Option Jvm.ClassFile.FieldType), Jvm.Cond.code ({ cls := "java/lang/Object", name := "<init>", desc := "()V" } : Jvm.MethodName) object_method_1_code (1 : Nat) (Option.none : Option Jvm.ClassFile.FieldType), Jvm.Cond.code ({ cls := "java/util/Objects", name := "requireNonNull", desc := "(Ljava/lang/Object;Ljava/lang/String;)Ljava/lang/Object;" } : Jvm.MethodName) jdk_31_method_11_code (2 : Nat) (Option.some (Jvm.ClassFile.FieldType.object "java/lang/Object")), Jvm.Cond.code ({ cls := "com/example/thin_index/thinindex/Index", name := "checkDocuments", desc := "()V" } : Jvm.MethodName) prog_15_method_19_code (4 : Nat) (Option.none : Option Jvm.ClassFile.FieldType), Jvm.Cond.code ({ cls := "com/example/thin_index/thinindex/Index", name := "check", desc := "(ZLjava/lang/String;)V" } : Jvm.MethodName) prog_15_method_22_code (2 : Nat) (Option.none : Option Jvm.ClassFile.FieldType), Jvm.Cond.code ({ cls := "java/lang/String", name := "isEmpty", desc := "()Z" } : Jvm.MethodName) jdk_42_method_55_code (1 : Nat) (Option.some Jvm.ClassFile.FieldType.boolean), Jvm.Cond.code ({ cls := "java/lang/Integer", name := "valueOf", desc := "(I)Ljava/lang/Integer;" } : Jvm.MethodName) jdk_33_method_22_code (1 : Nat) (Option.some (Jvm.ClassFile.FieldType.object "java/lang/Integer")), Jvm.Cond.code ({ cls := "com/example/thin_index/thinindex/Index", name := "check", desc := "(ZLjava/lang/String;Ljava/lang/Object;Ljava/lang/String;)V" } : Jvm.MethodName) prog_15_method_23_code (4 : Nat) (Option.none : Option Jvm.ClassFile.FieldType), Jvm.Cond.code ({ cls := "com/example/thin_index/thinindex/Index", name := "checkTerms", desc := "()V" } : Jvm.MethodName) prog_15_method_20_code (6 : Nat) (Option.none : Option Jvm.ClassFile.FieldType), Jvm.Cond.code ({ cls := "com/example/thin_index/thinindex/Index", name := "postingsEnd", desc := "(I)I" } : Jvm.MethodName) prog_15_method_13_code (2 : Nat) (Option.some Jvm.ClassFile.FieldType.int), Jvm.Cond.code ({ cls := "com/example/thin_index/thinindex/Index", name := "postingsStart", desc := "(I)I" } : Jvm.MethodName) prog_15_method_12_code (2 : Nat) (Option.some Jvm.ClassFile.FieldType.int), Jvm.Cond.code ({ cls := "com/example/thin_index/thinindex/Index", name := "checkPostings", desc := "(I)V" } : Jvm.MethodName) prog_15_method_21_code (5 : Nat) (Option.none : Option Jvm.ClassFile.FieldType), Jvm.Cond.code ({ cls := "com/example/thin_index/thinindex/Bm25", name := "<init>", desc := "(Lcom/example/thin_index/thinindex/Index;)V" } : Jvm.MethodName) prog_5_method_1_code (6 : Nat) (Option.none : Option Jvm.ClassFile.FieldType), Jvm.Cond.code ({ cls := "com/example/thin_index/thinindex/Index", name := "documentCount", desc := "()I" } : Jvm.MethodName) prog_15_method_2_code (1 : Nat) (Option.some Jvm.ClassFile.FieldType.int), Jvm.Cond.code ({ cls := "com/example/thin_index/thinindex/Index", name := "tokenCount", desc := "()J" } : Jvm.MethodName) prog_15_method_5_code (1 : Nat) (Option.some Jvm.ClassFile.FieldType.long), Jvm.Cond.code ({ cls := "com/example/thin_index/thinindex/Index", name := "documentLength", desc := "(I)I" } : Jvm.MethodName) prog_15_method_4_code (2 : Nat) (Option.some Jvm.ClassFile.FieldType.int), Jvm.Cond.code ({ cls := "com/example/thin_index/thinindex/Bm25", name := "weight", desc := "(DII)D" } : Jvm.MethodName) prog_5_method_3_code (5 : Nat) (Option.some Jvm.ClassFile.FieldType.double)]
set_option maxRecDepth 65536 in
theorem codes_eq : words1.filter isCode = codes1 := rfl
theorem w_codes : ∀ c ∈ words1.filter isCode, c.before args0 about1 = true := by
  rw [codes_eq]
  intro c hc
  simp only [codes1, List.mem_cons, List.not_mem_nil, or_false] at hc
  rcases hc with rfl | rfl | rfl | rfl | rfl | rfl | rfl | rfl | rfl | rfl | rfl | rfl | rfl | rfl | rfl | rfl | rfl | rfl
  · exact w_c0
  · exact w_c1
  · exact w_c2
  · exact w_c3
  · exact w_c4
  · exact w_c5
  · exact w_c6
  · exact w_c7
  · exact w_c8
  · exact w_c9
  · exact w_c10
  · exact w_c11
  · exact w_c12
  · exact w_c13
  · exact w_c14
  · exact w_c15
  · exact w_c16
  · exact w_c17
set_option maxRecDepth 65536 in
theorem w_t1 : (words1.take 24).all (fun c => isCode c || c.before args0 about1) = true := by decide +kernel
set_option maxRecDepth 65536 in
theorem w_t2 : ((words1.drop 24).take 24).all (fun c => isCode c || c.before args0 about1) = true := by decide +kernel
set_option maxRecDepth 65536 in
theorem w_t3 : (((words1.drop 24).drop 24).take 24).all (fun c => isCode c || c.before args0 about1) = true := by decide +kernel
set_option maxRecDepth 65536 in
theorem w_t4 : ((((words1.drop 24).drop 24).drop 24).take 24).all (fun c => isCode c || c.before args0 about1) = true := by decide +kernel
set_option maxRecDepth 65536 in
theorem w_t5 : (((((words1.drop 24).drop 24).drop 24).drop 24).take 24).all (fun c => isCode c || c.before args0 about1) = true := by decide +kernel
set_option maxRecDepth 65536 in
theorem w_t6 : ((((((words1.drop 24).drop 24).drop 24).drop 24).drop 24).take 24).all (fun c => isCode c || c.before args0 about1) = true := by decide +kernel
set_option maxRecDepth 65536 in
theorem w_t7 : ((((((words1.drop 24).drop 24).drop 24).drop 24).drop 24).drop 24).all (fun c => isCode c || c.before args0 about1) = true := by decide +kernel
theorem w_tables : (allAtoms (Jvm.Cond.code x code maxLocals ret :: tables_1)).before args0 about1 = true := by
  rw [allAtoms_all]
  show words1.all (fun c => c.before args0 about1) = true
  refine all_split ?_ w_codes
  rw [← List.take_append_drop 24 words1, List.all_append, w_t1, ← List.take_append_drop 24 (words1.drop 24), List.all_append, w_t2, ← List.take_append_drop 24 ((words1.drop 24).drop 24), List.all_append, w_t3, ← List.take_append_drop 24 (((words1.drop 24).drop 24).drop 24), List.all_append, w_t4, ← List.take_append_drop 24 ((((words1.drop 24).drop 24).drop 24).drop 24), List.all_append, w_t5, ← List.take_append_drop 24 (((((words1.drop 24).drop 24).drop 24).drop 24).drop 24), List.all_append, w_t6, w_t7]
  rfl
set_option maxRecDepth 65536 in
theorem w_rest : rest_1_c.before args0 about1 = true := by decide +kernel
set_option maxRecDepth 65536 in
theorem w_case : (Jvm.Cond.and given_1 narrow_1).before args0 about1 = true := by decide +kernel
set_option maxRecDepth 65536 in
theorem w_consts : constsHeld consts_1 about1 := Jvm.Lit.constsHeldB_iff.mp (by decide +kernel)
theorem w_applies : (headSpec (Jvm.Cond.code x code maxLocals ret :: tables_1) room_1).applies x e0.platform about1 = true :=
  (Spec.applies_iff w_frames).mpr ⟨w_running, w_runnable, w_alone, w_named, w_hears, w_ripe, w_room, w_tables⟩
theorem atStart : AtStart classFile x code maxLocals ret World_1 tables_1 room_1 Calls_1 rest_1 Pre_1 launch0 p0 e0 about1 theMethod args0 below0 :=
  ⟨lists_1, trivial, launch0.admits_env _ _ _, launch0.least_env, fairChoices_fair.cas, fairChoices_fair.clock, w_frames, w_args, w_heap, w_applies, ⟨w_consts, trivial⟩, w_rest, w_case⟩
end start1
theorem witness_1 : WitnessClaimed_1 := ⟨start1.p0, start1.e0, start1.about1, start1.theMethod, start1.args0, start1.below0, start1.atStart⟩
end Jvm.Pilot.@@N@@
