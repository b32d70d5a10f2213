import JvmDerived
import JvmDerived.Pilot.@@N@@Statement
import JvmDerived.Pilot.@@N@@Code
set_option linter.unusedVariables false
set_option linter.unusedSimpArgs false
namespace Jvm.Own
open Sem ClassFile Op Lib Jvm.Stand Jvm.Free Jvm.LawKit Jvm.RoadKit
/-! A plain store over the heap: what each address that matters holds. -/
abbrev Key : Type := String × String × String
abbrev Obj : Type := Sum (String × List (Key × Value)) (FieldType × List Value)
abbrev Mem : Type := Addr → Option Obj
def upd (μ : Mem) (a : Addr) (o : Obj) : Mem := fun x => if x = a then some o else μ x
section MemFacts
variable {μ : Mem} {a b : Addr} {o o' : Obj}
theorem upd_same : upd μ a o a = some o := by simp [upd]
theorem upd_ne (h : b ≠ a) : upd μ a o b = μ b := by simp [upd, h]
theorem upd_upd : upd (upd μ a o) a o' = upd μ a o' := by funext x; simp only [upd]; split <;> rfl
theorem upd_at (h : b ≠ a) {q : Obj} (hb : μ b = some q) : upd μ a o b = some q := (upd_ne h).trans hb
theorem upd_id (h : μ a = some o) : upd μ a o = μ := by funext x; simp only [upd]; split <;> simp_all
theorem upd_in {ν : Mem} {w : Obj} (h : upd μ a o = ν) (hb : b ≠ a) : upd (upd μ b w) a o = upd ν b w := by
  subst h; funext x; simp only [upd]
  by_cases h1 : x = a
  · subst h1; simp [Ne.symm hb]
  · by_cases h2 : x = b
    · subst h2; simp [h1]
    · simp [h1, h2]
theorem upd2 {ν ρ : Mem} {o' : Obj} (h1 : upd μ a o = ν) (h2 : upd ν b o' = ρ) : upd (upd μ a o) b o' = ρ := by subst h1; exact h2
theorem upd_list {ty : FieldType} {vs vs' : List Value} {ν : Mem} (h : vs = vs') (e : upd μ a (.inr (ty, vs')) = ν) : upd μ a (.inr (ty, vs)) = ν := by subst h; exact e
end MemFacts
def sl (Z : State) (q : Key × Value) : Nat := RoadKit.slotOf Z q.1.1 q.1.2.1 q.1.2.2
def IsO (Z : State) (h : Heap) (a : Addr) (C : String) (fs : List (Key × Value)) : Prop :=
  Exa Z h a C ∧ (∀ q ∈ fs, Fld Z h a q.1.1 q.1.2.1 q.1.2.2 q.2) ∧ fs.Pairwise fun q r => sl Z q ≠ sl Z r
def IsA (Z : State) (n0 : Nat) (h : Heap) (a : Addr) (ty : FieldType) (vs : List Value) : Prop :=
  ∃ c : Cell, Arr Z h a c ty ∧ c.slots.toList = vs ∧ vs.length < 2 ^ 31 ∧ (∀ v ∈ vs, fits ty v = true) ∧ (n0 ≤ a → ∀ C, ty = .object C → Ovr Z c.cls C)
def Is (Z : State) (n0 : Nat) (h : Heap) (a : Addr) : Obj → Prop
  | .inl q => IsO Z h a q.1 q.2
  | .inr q => IsA Z n0 h a q.1 q.2
def Hp (Z : State) (n0 : Nat) (μ : Mem) (h : Heap) : Prop := Old Z n0 h ∧ ∀ a o, μ a = some o → Is Z n0 h a o
section HpFacts
variable {Z : State} {n0 : Nat} {μ : Mem} {h h' : Heap} {a b : Addr} {o : Obj} {sl' : Nat} {v : Value}
theorem Is.lt (H : Is Z n0 h a o) : a < h.size := by
  rcases o with q | q
  · exact H.1.lt
  · obtain ⟨c, A, -⟩ := H; exact A.lt
theorem Is.ext (H : Is Z n0 h a o) (E : Ext h h') : Is Z n0 h' a o := by
  rcases o with q | q
  · exact ⟨H.1.ext E, fun r hr => (H.2.1 r hr).ext E, H.2.2⟩
  · obtain ⟨c, A, r⟩ := H; exact ⟨c, A.ext E, r⟩
theorem Is.other (H : Is Z n0 h b o) (W : Wr h h' a sl' v) (q : b ≠ a) : Is Z n0 h' b o := by
  rcases o with r | r
  · exact ⟨H.1.wr W, fun r hr => (H.2.1 r hr).other W (Or.inl q), H.2.2⟩
  · obtain ⟨c, A, r⟩ := H; exact ⟨c, A.other W q, r⟩
theorem Hp.ext (H : Hp Z n0 μ h) (E : Ext h h') : Hp Z n0 μ h' := ⟨H.1.ext E, fun a o q => (H.2 a o q).ext E⟩
theorem Hp.ge (H : Hp Z n0 μ h) : n0 ≤ h.size := H.1.1 ▸ H.1.2.1
theorem Hp.fresh (H : Hp Z n0 μ h) : ∀ b o, μ b = some o → b ≠ h.size := fun b o q => Nat.ne_of_lt (H.2 b o q).lt
theorem Hp.set (H : Hp Z n0 μ h') (I : Is Z n0 h' a o) : Hp Z n0 (upd μ a o) h' := ⟨H.1, fun b o' q => by
  by_cases e : b = a
  · subst e; rw [upd_same] at q; cases q; exact I
  · rw [upd_ne e] at q; exact H.2 b o' q⟩
theorem Hp.wr (H : Hp Z n0 μ h) (W : Wr h h' a sl' v) (g : n0 ≤ a) (I : Is Z n0 h' a o) : Hp Z n0 (upd μ a o) h' := ⟨H.1.wr W g, fun b o' q => by
  by_cases e : b = a
  · subst e; rw [upd_same] at q; cases q; exact I
  · rw [upd_ne e] at q; exact (H.2 b o' q).other W e⟩
theorem IsO.put {C : String} {fs fs' : List (Key × Value)} {k : Key} {i : Nat} {w : Value} (H : IsO Z h a C fs) (hi : fs[i]? = some (k, w)) (W : Wr h h' a (RoadKit.slotOf Z k.1 k.2.1 k.2.2) v) (e : fs.set i (k, v) = fs') : IsO Z h' a C fs' := by
  subst e
  obtain ⟨hlt, hk⟩ := List.getElem?_eq_some_iff.mp hi
  have F0 := H.2.1 _ (List.mem_of_getElem? hi)
  have hp := List.pairwise_iff_getElem.mp H.2.2
  refine ⟨H.1.wr W, fun q hq => ?_, ?_⟩
  · obtain ⟨j, hj, rfl⟩ := List.mem_iff_getElem.mp hq
    rw [List.length_set] at hj
    by_cases e : i = j
    · subst e; rw [List.getElem_set_self]; exact F0.same W
    · rw [List.getElem_set_ne e]
      refine (H.2.1 _ (List.getElem_mem hj)).other W (Or.inr ?_)
      have e0 : sl Z fs[i] = RoadKit.slotOf Z k.1 k.2.1 k.2.2 := by rw [hk]; rfl
      rcases Nat.lt_or_gt_of_ne e with q | q
      · have := hp i j hlt hj q; rw [e0] at this; exact fun z => this z.symm
      · have := hp j i hj hlt q; rw [e0] at this; exact this
  · rw [List.pairwise_iff_getElem]
    intro x y hx hy hxy
    rw [List.length_set] at hx hy
    have key : ∀ z (hz : z < (fs.set i (k, v)).length) (hz' : z < fs.length), sl Z (fs.set i (k, v))[z] = sl Z fs[z] := fun z hz hz' => by
      by_cases e : i = z
      · subst e; rw [List.getElem_set_self, hk]; rfl
      · rw [List.getElem_set_ne e]
    rw [key x _ hx, key y _ hy]
    exact hp x y hx hy hxy
theorem IsA.put {ty : FieldType} {vs : List Value} {j : Nat} (H : IsA Z n0 h a ty vs) (hv : fits ty v = true) (W : Wr h h' a j v) : IsA Z n0 h' a ty (vs.set j v) := by
  obtain ⟨c, A, rfl, hl, hf, ho⟩ := H
  refine ⟨_, A.same W, by simp [Cell.setSlot], by simpa using hl, fun w hw => ?_, ho⟩
  rcases List.mem_or_eq_of_mem_set hw with q | q
  · exact hf w q
  · subst q; exact hv
end HpFacts
/-- what is left to show from the frame g on -/
def Go (p : Program) (l : Launch) (e : Env) (R : Room) (s : State) (m : MethodId) (args : Array Value) (below : List Frame) (meth : Method) (c : Code) (Z : State) (n0 : Nat) (P : Option Value → Mem → Prop) (kc ks : Nat) (μ : Mem) (k n : Nat) (g : JFrame) : Prop :=
  ∀ T locs, Stand p l e R s m args below meth c T locs k n → Fr n0 locs → Hp Z n0 μ T.heap →
    ∃ s₂ o, Steps p.tables e below (T.setTop g) s₂ ∧ s₂.status = .running ∧ Ended s₂ below o ∧ ∃ v L, o = .returned v ∧ (Fr n0 L ∧ ∃ μ', Hp Z n0 μ' s₂.heap ∧ P v μ') ∧ FrameEnd s o s₂ L kc ks
/-- what stands fast while a body is walked -/
def Ctx (p : Program) (s : State) (m : MethodId) (meth : Method) (c : Code) (Z : State) (own nm : String) (B : ByteArray) (ml : Nat) (rt : Option FieldType) : Prop :=
  p.tables.exec = Jvm.exec ∧ c.code = B ∧ c.maxLocals = ml ∧ Z.Warmed39 s.vm ∧ s.vm.findClass own = some m.cls ∧ meth.sig.returnType = rt ∧ meth.locks = false ∧ meth.name = nm
/-- a body's contract -/
def Con (l : Launch) (Z : State) (n0 : Nat) (y : MethodName) (B : ByteArray) (ml : Nat) (rt : Option FieldType) (ws : List Cond) (rm : Room) (kc ks : Nat) (as : Array Value) (μ : Mem) (P : Option Value → Mem → Prop) : Prop :=
  ∀ h0, Hp Z n0 μ h0 → MetFree l y (head1 (Cond.code y B ml rt :: ws) rm) (fun a U => a = as ∧ Z.Warmed39 U.vm ∧ U.heap = h0) (fun _ _ _ _ _ => True)
    (fun _ U o U' => ∃ v L, o = .returned v ∧ (Fr n0 L ∧ ∃ μ', Hp Z n0 μ' U'.heap ∧ P v μ') ∧ FrameEnd U o U' L kc ks)
section Rules
variable {p : Program} {l : Launch} {e : Env} {R : Room} {s : State} {m : MethodId} {args : Array Value} {below : List Frame} {meth : Method} {c : Code} {Z : State} {a0 : Array Value} {n0 : Nat} {P : Option Value → Mem → Prop} {kc ks : Nat} {μ : Mem} {k n : Nat}
  {own nm : String} {B : ByteArray} {ml : Nat} {rt : Option FieldType} {pc q : Nat} {L L' : Array Slot} {st : List Value} {y : MethodName} {ws : List Cond} {rm : Room} {as : Array Value}
theorem Con.intro {L0 : Array Slot} (hx : plainFor y = true) (hef : ∀ m, entryFrame m as ml = mkF m 0 L0 [])
    (body : ∀ (p : Program) (e : Env) (s : State) (m : MethodId) (below : List Frame) (meth : Method) (c : Code), Ctx p s m meth c Z y.cls y.name B ml rt → Go p l e rm s m as below meth c Z n0 P kc ks μ 0 0 (mkF m 0 L0 [])) : Con l Z n0 y B ml rt ws rm kc ks as μ P := by
  intro h0 H0
  refine MetFree.of_bodySF hx hisR ?_
  intro p e s m args below meth c s₁ Bd hml hP hK
  obtain ⟨rfl, hZ, hh⟩ := hP
  have X0 : Stand p l e rm s m args below meth c s₁ [] 0 0 := Stand.of_body Bd
  have e0 : s₁.heap = h0 := by rw [← hh, Bd.state]; rfl
  obtain ⟨s2, o, g1, g2, g3, g4⟩ := body p e s m below meth c ⟨Bd.exec, Bd.bytes, hml, hZ, findClass_of_methodNamed Bd.named, Bd.returns, Bd.notSynchronized, (name_of_methodNamed Bd.named Bd.method).1⟩ s₁ [] X0 (Fr.nil n0) (by rw [e0]; exact H0)
  exact ⟨s2, o, castTop (hef m) g1, g2, g3, g4⟩
theorem Go.pure {g g' : JFrame} (K : Go p l e R s m args below meth c Z n0 P kc ks μ k n g') (st : ∀ T, At T m c below → ∀ target, Steps p.tables e below (T.setTop g') target → Steps p.tables e below (T.setTop g) target) : Go p l e R s m args below meth c Z n0 P kc ks μ k n g := fun T locs X F H => by
  obtain ⟨s2, o, h1, h2⟩ := K T locs X F H
  exact ⟨s2, o, st T X.here _ h1, h2⟩
theorem Go.stand {g g' : JFrame} (K : Go p l e R s m args below meth c Z n0 P kc ks μ k n g') (st : ∀ T locs, Stand p l e R s m args below meth c T locs k n → Hp Z n0 μ T.heap → ∃ T', Stand p l e R s m args below meth c T' locs k n ∧ T'.heap = T.heap ∧ ∀ target, Steps p.tables e below (T'.setTop g') target → Steps p.tables e below (T.setTop g) target) : Go p l e R s m args below meth c Z n0 P kc ks μ k n g := fun T locs X F H => by
  obtain ⟨T', X', e', h⟩ := st T locs X H
  obtain ⟨s2, o, h1, h2⟩ := K T' locs X' F (by rw [e']; exact H)
  exact ⟨s2, o, h _ h1, h2⟩
theorem iadd (C : Ctx p s m meth c Z own nm B ml rt) {x y : Int32} (hd : decode B pc = .ok (.iadd, 1)) (hq : pc + 1 = q) (k' : ∀ z : Int32, z = x + y → Go p l e R s m args below meth c Z n0 P kc ks μ k n (mkF m q L (.int z :: st))) : Go p l e R s m args below meth c Z n0 P kc ks μ k n (mkF m pc L (.int y :: .int x :: st)) := by
  subst hq
  exact Go.pure (k' _ rfl) fun T h t hr => XS.iadd h C.1 rfl (hb C.2.1 hd) rfl hr
theorem isub (C : Ctx p s m meth c Z own nm B ml rt) {x y : Int32} (hd : decode B pc = .ok (.isub, 1)) (hq : pc + 1 = q) (k' : ∀ z : Int32, z = x - y → Go p l e R s m args below meth c Z n0 P kc ks μ k n (mkF m q L (.int z :: st))) : Go p l e R s m args below meth c Z n0 P kc ks μ k n (mkF m pc L (.int y :: .int x :: st)) := by
  subst hq
  exact Go.pure (k' _ rfl) fun T h t hr => XS.isub h C.1 rfl (hb C.2.1 hd) rfl hr
theorem imul (C : Ctx p s m meth c Z own nm B ml rt) {x y : Int32} (hd : decode B pc = .ok (.imul, 1)) (hq : pc + 1 = q) (k' : ∀ z : Int32, z = x * y → Go p l e R s m args below meth c Z n0 P kc ks μ k n (mkF m q L (.int z :: st))) : Go p l e R s m args below meth c Z n0 P kc ks μ k n (mkF m pc L (.int y :: .int x :: st)) := by
  subst hq
  exact Go.pure (k' _ rfl) fun T h t hr => XS.imul h C.1 rfl (hb C.2.1 hd) rfl hr
theorem iand (C : Ctx p s m meth c Z own nm B ml rt) {x y : Int32} (hd : decode B pc = .ok (.iand, 1)) (hq : pc + 1 = q) (k' : ∀ z : Int32, z = x &&& y → Go p l e R s m args below meth c Z n0 P kc ks μ k n (mkF m q L (.int z :: st))) : Go p l e R s m args below meth c Z n0 P kc ks μ k n (mkF m pc L (.int y :: .int x :: st)) := by
  subst hq
  exact Go.pure (k' _ rfl) fun T h t hr => XS.iand h C.1 rfl (hb C.2.1 hd) rfl hr
theorem ior (C : Ctx p s m meth c Z own nm B ml rt) {x y : Int32} (hd : decode B pc = .ok (.ior, 1)) (hq : pc + 1 = q) (k' : ∀ z : Int32, z = x ||| y → Go p l e R s m args below meth c Z n0 P kc ks μ k n (mkF m q L (.int z :: st))) : Go p l e R s m args below meth c Z n0 P kc ks μ k n (mkF m pc L (.int y :: .int x :: st)) := by
  subst hq
  exact Go.pure (k' _ rfl) fun T h t hr => XS.ior h C.1 rfl (hb C.2.1 hd) rfl hr
theorem ixor (C : Ctx p s m meth c Z own nm B ml rt) {x y : Int32} (hd : decode B pc = .ok (.ixor, 1)) (hq : pc + 1 = q) (k' : ∀ z : Int32, z = x ^^^ y → Go p l e R s m args below meth c Z n0 P kc ks μ k n (mkF m q L (.int z :: st))) : Go p l e R s m args below meth c Z n0 P kc ks μ k n (mkF m pc L (.int y :: .int x :: st)) := by
  subst hq
  exact Go.pure (k' _ rfl) fun T h t hr => XS.ixor h C.1 rfl (hb C.2.1 hd) rfl hr
theorem ladd (C : Ctx p s m meth c Z own nm B ml rt) {x y : Int64} (hd : decode B pc = .ok (.ladd, 1)) (hq : pc + 1 = q) (k' : ∀ z : Int64, z = x + y → Go p l e R s m args below meth c Z n0 P kc ks μ k n (mkF m q L (.long z :: st))) : Go p l e R s m args below meth c Z n0 P kc ks μ k n (mkF m pc L (.long y :: .long x :: st)) := by
  subst hq
  exact Go.pure (k' _ rfl) fun T h t hr => XS.ladd h C.1 rfl (hb C.2.1 hd) rfl hr
theorem lsub (C : Ctx p s m meth c Z own nm B ml rt) {x y : Int64} (hd : decode B pc = .ok (.lsub, 1)) (hq : pc + 1 = q) (k' : ∀ z : Int64, z = x - y → Go p l e R s m args below meth c Z n0 P kc ks μ k n (mkF m q L (.long z :: st))) : Go p l e R s m args below meth c Z n0 P kc ks μ k n (mkF m pc L (.long y :: .long x :: st)) := by
  subst hq
  exact Go.pure (k' _ rfl) fun T h t hr => XS.lsub h C.1 rfl (hb C.2.1 hd) rfl hr
theorem lmul (C : Ctx p s m meth c Z own nm B ml rt) {x y : Int64} (hd : decode B pc = .ok (.lmul, 1)) (hq : pc + 1 = q) (k' : ∀ z : Int64, z = x * y → Go p l e R s m args below meth c Z n0 P kc ks μ k n (mkF m q L (.long z :: st))) : Go p l e R s m args below meth c Z n0 P kc ks μ k n (mkF m pc L (.long y :: .long x :: st)) := by
  subst hq
  exact Go.pure (k' _ rfl) fun T h t hr => XS.lmul h C.1 rfl (hb C.2.1 hd) rfl hr
theorem land (C : Ctx p s m meth c Z own nm B ml rt) {x y : Int64} (hd : decode B pc = .ok (.land, 1)) (hq : pc + 1 = q) (k' : ∀ z : Int64, z = x &&& y → Go p l e R s m args below meth c Z n0 P kc ks μ k n (mkF m q L (.long z :: st))) : Go p l e R s m args below meth c Z n0 P kc ks μ k n (mkF m pc L (.long y :: .long x :: st)) := by
  subst hq
  exact Go.pure (k' _ rfl) fun T h t hr => XS.land h C.1 rfl (hb C.2.1 hd) rfl hr
theorem lor (C : Ctx p s m meth c Z own nm B ml rt) {x y : Int64} (hd : decode B pc = .ok (.lor, 1)) (hq : pc + 1 = q) (k' : ∀ z : Int64, z = x ||| y → Go p l e R s m args below meth c Z n0 P kc ks μ k n (mkF m q L (.long z :: st))) : Go p l e R s m args below meth c Z n0 P kc ks μ k n (mkF m pc L (.long y :: .long x :: st)) := by
  subst hq
  exact Go.pure (k' _ rfl) fun T h t hr => XS.lor h C.1 rfl (hb C.2.1 hd) rfl hr
theorem lxor (C : Ctx p s m meth c Z own nm B ml rt) {x y : Int64} (hd : decode B pc = .ok (.lxor, 1)) (hq : pc + 1 = q) (k' : ∀ z : Int64, z = x ^^^ y → Go p l e R s m args below meth c Z n0 P kc ks μ k n (mkF m q L (.long z :: st))) : Go p l e R s m args below meth c Z n0 P kc ks μ k n (mkF m pc L (.long y :: .long x :: st)) := by
  subst hq
  exact Go.pure (k' _ rfl) fun T h t hr => XS.lxor h C.1 rfl (hb C.2.1 hd) rfl hr
theorem ishl (C : Ctx p s m meth c Z own nm B ml rt) {x y : Int32} (hd : decode B pc = .ok (.ishl, 1)) (hq : pc + 1 = q) (k' : ∀ z : Int32, z = x <<< (y &&& 31) → Go p l e R s m args below meth c Z n0 P kc ks μ k n (mkF m q L (.int z :: st))) : Go p l e R s m args below meth c Z n0 P kc ks μ k n (mkF m pc L (.int y :: .int x :: st)) := by
  subst hq
  exact Go.pure (k' _ rfl) fun T h t hr => XS.ishl h C.1 rfl (hb C.2.1 hd) rfl hr
theorem ishr (C : Ctx p s m meth c Z own nm B ml rt) {x y : Int32} (hd : decode B pc = .ok (.ishr, 1)) (hq : pc + 1 = q) (k' : ∀ z : Int32, z = x >>> (y &&& 31) → Go p l e R s m args below meth c Z n0 P kc ks μ k n (mkF m q L (.int z :: st))) : Go p l e R s m args below meth c Z n0 P kc ks μ k n (mkF m pc L (.int y :: .int x :: st)) := by
  subst hq
  exact Go.pure (k' _ rfl) fun T h t hr => XS.ishr h C.1 rfl (hb C.2.1 hd) rfl hr
theorem iushr (C : Ctx p s m meth c Z own nm B ml rt) {x y : Int32} (hd : decode B pc = .ok (.iushr, 1)) (hq : pc + 1 = q) (k' : ∀ z : Int32, z = (x.toUInt32 >>> (y &&& 31).toUInt32).toInt32 → Go p l e R s m args below meth c Z n0 P kc ks μ k n (mkF m q L (.int z :: st))) : Go p l e R s m args below meth c Z n0 P kc ks μ k n (mkF m pc L (.int y :: .int x :: st)) := by
  subst hq
  exact Go.pure (k' _ rfl) fun T h t hr => XS.iushr h C.1 rfl (hb C.2.1 hd) rfl hr
theorem lshl (C : Ctx p s m meth c Z own nm B ml rt) {x : Int64} {y : Int32} (hd : decode B pc = .ok (.lshl, 1)) (hq : pc + 1 = q) (k' : ∀ z : Int64, z = x <<< (y &&& 0x3f).toInt64 → Go p l e R s m args below meth c Z n0 P kc ks μ k n (mkF m q L (.long z :: st))) : Go p l e R s m args below meth c Z n0 P kc ks μ k n (mkF m pc L (.int y :: .long x :: st)) := by
  subst hq
  exact Go.pure (k' _ rfl) fun T h t hr => XS.lshl h C.1 rfl (hb C.2.1 hd) rfl hr
theorem lshr (C : Ctx p s m meth c Z own nm B ml rt) {x : Int64} {y : Int32} (hd : decode B pc = .ok (.lshr, 1)) (hq : pc + 1 = q) (k' : ∀ z : Int64, z = x >>> (y &&& 0x3f).toInt64 → Go p l e R s m args below meth c Z n0 P kc ks μ k n (mkF m q L (.long z :: st))) : Go p l e R s m args below meth c Z n0 P kc ks μ k n (mkF m pc L (.int y :: .long x :: st)) := by
  subst hq
  exact Go.pure (k' _ rfl) fun T h t hr => XS.lshr h C.1 rfl (hb C.2.1 hd) rfl hr
theorem lushr (C : Ctx p s m meth c Z own nm B ml rt) {x : Int64} {y : Int32} (hd : decode B pc = .ok (.lushr, 1)) (hq : pc + 1 = q) (k' : ∀ z : Int64, z = (x.toUInt64 >>> (y &&& 0x3f).toInt64.toUInt64).toInt64 → Go p l e R s m args below meth c Z n0 P kc ks μ k n (mkF m q L (.long z :: st))) : Go p l e R s m args below meth c Z n0 P kc ks μ k n (mkF m pc L (.int y :: .long x :: st)) := by
  subst hq
  exact Go.pure (k' _ rfl) fun T h t hr => XS.lushr h C.1 rfl (hb C.2.1 hd) rfl hr
theorem idiv (C : Ctx p s m meth c Z own nm B ml rt) {x y : Int32} (hd : decode B pc = .ok (.idiv, 1)) (hq : pc + 1 = q) (hy : y ≠ 0) (k' : ∀ z : Int32, z = x / y → Go p l e R s m args below meth c Z n0 P kc ks μ k n (mkF m q L (.int z :: st))) : Go p l e R s m args below meth c Z n0 P kc ks μ k n (mkF m pc L (.int y :: .int x :: st)) := by
  subst hq
  exact Go.pure (k' _ rfl) fun T h t hr => XS.idiv h C.1 rfl (hb C.2.1 hd) rfl hy hr
theorem irem (C : Ctx p s m meth c Z own nm B ml rt) {x y : Int32} (hd : decode B pc = .ok (.irem, 1)) (hq : pc + 1 = q) (hy : y ≠ 0) (k' : ∀ z : Int32, z = x % y → Go p l e R s m args below meth c Z n0 P kc ks μ k n (mkF m q L (.int z :: st))) : Go p l e R s m args below meth c Z n0 P kc ks μ k n (mkF m pc L (.int y :: .int x :: st)) := by
  subst hq
  exact Go.pure (k' _ rfl) fun T h t hr => XS.irem h C.1 rfl (hb C.2.1 hd) rfl hy (by rw [irem_eq_mod]; exact hr)
theorem ldiv (C : Ctx p s m meth c Z own nm B ml rt) {x y : Int64} (hd : decode B pc = .ok (.ldiv, 1)) (hq : pc + 1 = q) (hy : y ≠ 0) (k' : ∀ z : Int64, z = x / y → Go p l e R s m args below meth c Z n0 P kc ks μ k n (mkF m q L (.long z :: st))) : Go p l e R s m args below meth c Z n0 P kc ks μ k n (mkF m pc L (.long y :: .long x :: st)) := by
  subst hq
  exact Go.pure (k' _ rfl) fun T h t hr => XS.ldiv h C.1 rfl (hb C.2.1 hd) rfl hy hr
theorem lrem (C : Ctx p s m meth c Z own nm B ml rt) {x y : Int64} (hd : decode B pc = .ok (.lrem, 1)) (hq : pc + 1 = q) (hy : y ≠ 0) (k' : ∀ z : Int64, z = x - (x / y) * y → Go p l e R s m args below meth c Z n0 P kc ks μ k n (mkF m q L (.long z :: st))) : Go p l e R s m args below meth c Z n0 P kc ks μ k n (mkF m pc L (.long y :: .long x :: st)) := by
  subst hq
  exact Go.pure (k' _ rfl) fun T h t hr => XS.lrem h C.1 rfl (hb C.2.1 hd) rfl hy hr
theorem ineg (C : Ctx p s m meth c Z own nm B ml rt) {x : Int32} (hd : decode B pc = .ok (.ineg, 1)) (hq : pc + 1 = q) (k' : ∀ z : Int32, z = -x → Go p l e R s m args below meth c Z n0 P kc ks μ k n (mkF m q L (.int z :: st))) : Go p l e R s m args below meth c Z n0 P kc ks μ k n (mkF m pc L (.int x :: st)) := by
  subst hq
  exact Go.pure (k' _ rfl) fun T h t hr => XS.ineg h C.1 rfl (hb C.2.1 hd) rfl hr
theorem lneg (C : Ctx p s m meth c Z own nm B ml rt) {x : Int64} (hd : decode B pc = .ok (.lneg, 1)) (hq : pc + 1 = q) (k' : ∀ z : Int64, z = -x → Go p l e R s m args below meth c Z n0 P kc ks μ k n (mkF m q L (.long z :: st))) : Go p l e R s m args below meth c Z n0 P kc ks μ k n (mkF m pc L (.long x :: st)) := by
  subst hq
  exact Go.pure (k' _ rfl) fun T h t hr => XS.lneg h C.1 rfl (hb C.2.1 hd) rfl hr
theorem i2l (C : Ctx p s m meth c Z own nm B ml rt) {x : Int32} (hd : decode B pc = .ok (.i2l, 1)) (hq : pc + 1 = q) (k' : ∀ z : Int64, z = x.toInt64 → Go p l e R s m args below meth c Z n0 P kc ks μ k n (mkF m q L (.long z :: st))) : Go p l e R s m args below meth c Z n0 P kc ks μ k n (mkF m pc L (.int x :: st)) := by
  subst hq
  exact Go.pure (k' _ rfl) fun T h t hr => XS.i2l h C.1 rfl (hb C.2.1 hd) rfl hr
theorem l2i (C : Ctx p s m meth c Z own nm B ml rt) {x : Int64} (hd : decode B pc = .ok (.l2i, 1)) (hq : pc + 1 = q) (k' : ∀ z : Int32, z = x.toInt32 → Go p l e R s m args below meth c Z n0 P kc ks μ k n (mkF m q L (.int z :: st))) : Go p l e R s m args below meth c Z n0 P kc ks μ k n (mkF m pc L (.long x :: st)) := by
  subst hq
  exact Go.pure (k' _ rfl) fun T h t hr => XS.l2i h C.1 rfl (hb C.2.1 hd) rfl hr
theorem i2b (C : Ctx p s m meth c Z own nm B ml rt) {x : Int32} (hd : decode B pc = .ok (.i2b, 1)) (hq : pc + 1 = q) (k' : ∀ z : Int32, z = x.toInt8.toInt32 → Go p l e R s m args below meth c Z n0 P kc ks μ k n (mkF m q L (.int z :: st))) : Go p l e R s m args below meth c Z n0 P kc ks μ k n (mkF m pc L (.int x :: st)) := by
  subst hq
  exact Go.pure (k' _ rfl) fun T h t hr => XS.i2b h C.1 rfl (hb C.2.1 hd) rfl hr
theorem i2s (C : Ctx p s m meth c Z own nm B ml rt) {x : Int32} (hd : decode B pc = .ok (.i2s, 1)) (hq : pc + 1 = q) (k' : ∀ z : Int32, z = x.toInt16.toInt32 → Go p l e R s m args below meth c Z n0 P kc ks μ k n (mkF m q L (.int z :: st))) : Go p l e R s m args below meth c Z n0 P kc ks μ k n (mkF m pc L (.int x :: st)) := by
  subst hq
  exact Go.pure (k' _ rfl) fun T h t hr => XS.i2s h C.1 rfl (hb C.2.1 hd) rfl hr
theorem i2c (C : Ctx p s m meth c Z own nm B ml rt) {x : Int32} (hd : decode B pc = .ok (.i2c, 1)) (hq : pc + 1 = q) (k' : ∀ z : Int32, z = x.toUInt32.toUInt16.toUInt32.toInt32 → Go p l e R s m args below meth c Z n0 P kc ks μ k n (mkF m q L (.int z :: st))) : Go p l e R s m args below meth c Z n0 P kc ks μ k n (mkF m pc L (.int x :: st)) := by
  subst hq
  exact Go.pure (k' _ rfl) fun T h t hr => XS.i2c h C.1 rfl (hb C.2.1 hd) rfl hr
theorem iloadN (C : Ctx p s m meth c Z own nm B ml rt) {i : Fin 4} {v : Int32} (hd : decode B pc = .ok (.iload_n i, 1)) (hq : pc + 1 = q) (hl : L[i.val]? = some (.val (.int v))) (k' : Go p l e R s m args below meth c Z n0 P kc ks μ k n (mkF m q L (.int v :: st))) : Go p l e R s m args below meth c Z n0 P kc ks μ k n (mkF m pc L st) := by
  subst hq
  exact Go.pure k' fun T h t hr => XS.iloadN h C.1 rfl (hb C.2.1 hd) hl hr
theorem iload (C : Ctx p s m meth c Z own nm B ml rt) {i : Nat} {v : Int32} (hd : decode B pc = .ok (.iload i, 2)) (hq : pc + 2 = q) (hl : L[i]? = some (.val (.int v))) (k' : Go p l e R s m args below meth c Z n0 P kc ks μ k n (mkF m q L (.int v :: st))) : Go p l e R s m args below meth c Z n0 P kc ks μ k n (mkF m pc L st) := by
  subst hq
  exact Go.pure k' fun T h t hr => XS.iload h C.1 rfl (hb C.2.1 hd) hl hr
theorem istoreN (C : Ctx p s m meth c Z own nm B ml rt) {i : Fin 4} {v : Int32} (hd : decode B pc = .ok (.istore_n i, 1)) (hq : pc + 1 = q) (hl : storeLocals L i.val (.int v) = some L') (k' : Go p l e R s m args below meth c Z n0 P kc ks μ k n (mkF m q L' st)) : Go p l e R s m args below meth c Z n0 P kc ks μ k n (mkF m pc L (.int v :: st)) := by
  subst hq
  exact Go.pure k' fun T h t hr => XS.istoreN h C.1 rfl (hb C.2.1 hd) rfl hl hr
theorem istore (C : Ctx p s m meth c Z own nm B ml rt) {i : Nat} {v : Int32} (hd : decode B pc = .ok (.istore i, 2)) (hq : pc + 2 = q) (hl : storeLocals L i (.int v) = some L') (k' : Go p l e R s m args below meth c Z n0 P kc ks μ k n (mkF m q L' st)) : Go p l e R s m args below meth c Z n0 P kc ks μ k n (mkF m pc L (.int v :: st)) := by
  subst hq
  exact Go.pure k' fun T h t hr => XS.istore h C.1 rfl (hb C.2.1 hd) rfl hl hr
theorem lloadN (C : Ctx p s m meth c Z own nm B ml rt) {i : Fin 4} {v : Int64} (hd : decode B pc = .ok (.lload_n i, 1)) (hq : pc + 1 = q) (hl : L[i.val]? = some (.val (.long v))) (k' : Go p l e R s m args below meth c Z n0 P kc ks μ k n (mkF m q L (.long v :: st))) : Go p l e R s m args below meth c Z n0 P kc ks μ k n (mkF m pc L st) := by
  subst hq
  exact Go.pure k' fun T h t hr => XS.lloadN h C.1 rfl (hb C.2.1 hd) hl hr
theorem lload (C : Ctx p s m meth c Z own nm B ml rt) {i : Nat} {v : Int64} (hd : decode B pc = .ok (.lload i, 2)) (hq : pc + 2 = q) (hl : L[i]? = some (.val (.long v))) (k' : Go p l e R s m args below meth c Z n0 P kc ks μ k n (mkF m q L (.long v :: st))) : Go p l e R s m args below meth c Z n0 P kc ks μ k n (mkF m pc L st) := by
  subst hq
  exact Go.pure k' fun T h t hr => XS.lload h C.1 rfl (hb C.2.1 hd) hl hr
theorem lstoreN (C : Ctx p s m meth c Z own nm B ml rt) {i : Fin 4} {v : Int64} (hd : decode B pc = .ok (.lstore_n i, 1)) (hq : pc + 1 = q) (hl : storeLocals L i.val (.long v) = some L') (k' : Go p l e R s m args below meth c Z n0 P kc ks μ k n (mkF m q L' st)) : Go p l e R s m args below meth c Z n0 P kc ks μ k n (mkF m pc L (.long v :: st)) := by
  subst hq
  exact Go.pure k' fun T h t hr => XS.lstoreN h C.1 rfl (hb C.2.1 hd) rfl hl hr
theorem lstore (C : Ctx p s m meth c Z own nm B ml rt) {i : Nat} {v : Int64} (hd : decode B pc = .ok (.lstore i, 2)) (hq : pc + 2 = q) (hl : storeLocals L i (.long v) = some L') (k' : Go p l e R s m args below meth c Z n0 P kc ks μ k n (mkF m q L' st)) : Go p l e R s m args below meth c Z n0 P kc ks μ k n (mkF m pc L (.long v :: st)) := by
  subst hq
  exact Go.pure k' fun T h t hr => XS.lstore h C.1 rfl (hb C.2.1 hd) rfl hl hr
theorem aloadN (C : Ctx p s m meth c Z own nm B ml rt) {i : Fin 4} {v : Value} (hd : decode B pc = .ok (.aload_n i, 1)) (hq : pc + 1 = q) (hl : L[i.val]? = some (.val v)) (hv : v.isRef = true) (k' : Go p l e R s m args below meth c Z n0 P kc ks μ k n (mkF m q L (v :: st))) : Go p l e R s m args below meth c Z n0 P kc ks μ k n (mkF m pc L st) := by
  subst hq
  exact Go.pure k' fun T h t hr => XS.aloadN h C.1 rfl (hb C.2.1 hd) hl hv hr
theorem aload (C : Ctx p s m meth c Z own nm B ml rt) {i : Nat} {v : Value} (hd : decode B pc = .ok (.aload i, 2)) (hq : pc + 2 = q) (hl : L[i]? = some (.val v)) (hv : v.isRef = true) (k' : Go p l e R s m args below meth c Z n0 P kc ks μ k n (mkF m q L (v :: st))) : Go p l e R s m args below meth c Z n0 P kc ks μ k n (mkF m pc L st) := by
  subst hq
  exact Go.pure k' fun T h t hr => XS.aload h C.1 rfl (hb C.2.1 hd) hl hv hr
theorem astoreN (C : Ctx p s m meth c Z own nm B ml rt) {i : Fin 4} {v : Value} (hd : decode B pc = .ok (.astore_n i, 1)) (hq : pc + 1 = q) (hl : storeLocals L i.val v = some L') (hv : v.isRef = true) (k' : Go p l e R s m args below meth c Z n0 P kc ks μ k n (mkF m q L' st)) : Go p l e R s m args below meth c Z n0 P kc ks μ k n (mkF m pc L (v :: st)) := by
  subst hq
  exact Go.pure k' fun T h t hr => XS.astoreN h C.1 rfl (hb C.2.1 hd) rfl hv hl hr
theorem astore (C : Ctx p s m meth c Z own nm B ml rt) {i : Nat} {v : Value} (hd : decode B pc = .ok (.astore i, 2)) (hq : pc + 2 = q) (hl : storeLocals L i v = some L') (hv : v.isRef = true) (k' : Go p l e R s m args below meth c Z n0 P kc ks μ k n (mkF m q L' st)) : Go p l e R s m args below meth c Z n0 P kc ks μ k n (mkF m pc L (v :: st)) := by
  subst hq
  exact Go.pure k' fun T h t hr => XS.astore h C.1 rfl (hb C.2.1 hd) rfl hv hl hr
theorem iconst (C : Ctx p s m meth c Z own nm B ml rt) {i : Int} {z : Int32} (hd : decode B pc = .ok (.iconst i, 1)) (hq : pc + 1 = q) (hz : Int32.ofInt i = z) (k' : Go p l e R s m args below meth c Z n0 P kc ks μ k n (mkF m q L (.int z :: st))) : Go p l e R s m args below meth c Z n0 P kc ks μ k n (mkF m pc L st) := by
  subst hq
  exact Go.pure k' fun T h t hr => XS.iconst h C.1 rfl (hb C.2.1 hd) (by rw [hz]; exact hr)
theorem bipush (C : Ctx p s m meth c Z own nm B ml rt) {i : Int} {z : Int32} (hd : decode B pc = .ok (.bipush i, 2)) (hq : pc + 2 = q) (hz : (Int8.ofInt i).toInt32 = z) (k' : Go p l e R s m args below meth c Z n0 P kc ks μ k n (mkF m q L (.int z :: st))) : Go p l e R s m args below meth c Z n0 P kc ks μ k n (mkF m pc L st) := by
  subst hq
  exact Go.pure k' fun T h t hr => XS.bipush h C.1 rfl (hb C.2.1 hd) (by rw [hz]; exact hr)
theorem sipush (C : Ctx p s m meth c Z own nm B ml rt) {i : Int} {z : Int32} (hd : decode B pc = .ok (.sipush i, 3)) (hq : pc + 3 = q) (hz : (Int16.ofInt i).toInt32 = z) (k' : Go p l e R s m args below meth c Z n0 P kc ks μ k n (mkF m q L (.int z :: st))) : Go p l e R s m args below meth c Z n0 P kc ks μ k n (mkF m pc L st) := by
  subst hq
  exact Go.pure k' fun T h t hr => XS.sipush h C.1 rfl (hb C.2.1 hd) (by rw [hz]; exact hr)
theorem lconst (C : Ctx p s m meth c Z own nm B ml rt) {i : Fin 2} {z : Int64} (hd : decode B pc = .ok (.lconst i, 1)) (hq : pc + 1 = q) (hz : Int64.ofNat i = z) (k' : Go p l e R s m args below meth c Z n0 P kc ks μ k n (mkF m q L (.long z :: st))) : Go p l e R s m args below meth c Z n0 P kc ks μ k n (mkF m pc L st) := by
  subst hq
  exact Go.pure k' fun T h t hr => XS.lconst h C.1 rfl (hb C.2.1 hd) (by rw [hz]; exact hr)
theorem aconstNull (C : Ctx p s m meth c Z own nm B ml rt)  (hd : decode B pc = .ok (.aconst_null, 1)) (hq : pc + 1 = q) (k' : Go p l e R s m args below meth c Z n0 P kc ks μ k n (mkF m q L (.null :: st))) : Go p l e R s m args below meth c Z n0 P kc ks μ k n (mkF m pc L st) := by
  subst hq
  exact Go.pure k' fun T h t hr => XS.aconstNull h C.1 rfl (hb C.2.1 hd) hr
theorem dup (C : Ctx p s m meth c Z own nm B ml rt) {v : Value} (hd : decode B pc = .ok (.dup, 1)) (hq : pc + 1 = q) (hv : v.category = 1) (k' : Go p l e R s m args below meth c Z n0 P kc ks μ k n (mkF m q L (v :: v :: st))) : Go p l e R s m args below meth c Z n0 P kc ks μ k n (mkF m pc L (v :: st)) := by
  subst hq
  exact Go.pure k' fun T h t hr => XS.dup h C.1 rfl (hb C.2.1 hd) rfl hv hr
theorem pop (C : Ctx p s m meth c Z own nm B ml rt) {v : Value} (hd : decode B pc = .ok (.pop, 1)) (hq : pc + 1 = q) (hv : v.category = 1) (k' : Go p l e R s m args below meth c Z n0 P kc ks μ k n (mkF m q L st)) : Go p l e R s m args below meth c Z n0 P kc ks μ k n (mkF m pc L (v :: st)) := by
  subst hq
  exact Go.pure k' fun T h t hr => XS.pop h C.1 rfl (hb C.2.1 hd) rfl hv hr
theorem dupX1 (C : Ctx p s m meth c Z own nm B ml rt) {v w : Value} (hd : decode B pc = .ok (.dup_x1, 1)) (hq : pc + 1 = q) (hv : v.category = 1) (hw : w.category = 1) (k' : Go p l e R s m args below meth c Z n0 P kc ks μ k n (mkF m q L (v :: w :: v :: st))) : Go p l e R s m args below meth c Z n0 P kc ks μ k n (mkF m pc L (v :: w :: st)) := by
  subst hq
  exact Go.pure k' fun T h t hr => XS.dupX1 h C.1 rfl (hb C.2.1 hd) rfl hv hw hr
theorem dup2 (C : Ctx p s m meth c Z own nm B ml rt) {v w : Value} (hd : decode B pc = .ok (.dup2, 1)) (hq : pc + 1 = q) (hv : v.category = 1) (hw : w.category = 1) (k' : Go p l e R s m args below meth c Z n0 P kc ks μ k n (mkF m q L (v :: w :: v :: w :: st))) : Go p l e R s m args below meth c Z n0 P kc ks μ k n (mkF m pc L (v :: w :: st)) := by
  subst hq
  exact Go.pure k' fun T h t hr => XT.dup2 h C.1 rfl (hb C.2.1 hd) rfl hv hw hr
theorem dup2L (C : Ctx p s m meth c Z own nm B ml rt) {x : Int64} (hd : decode B pc = .ok (.dup2, 1)) (hq : pc + 1 = q) (k' : Go p l e R s m args below meth c Z n0 P kc ks μ k n (mkF m q L (.long x :: .long x :: st))) : Go p l e R s m args below meth c Z n0 P kc ks μ k n (mkF m pc L (.long x :: st)) := by
  subst hq
  exact Go.pure k' fun T h t hr => XT.dup2L h C.1 rfl (hb C.2.1 hd) rfl hr
theorem iinc (C : Ctx p s m meth c Z own nm B ml rt) {i : Nat} {d : Int} {x z : Int32} (hd : decode B pc = .ok (.iinc i d, 3)) (hq : pc + 3 = q) (hl : L[i]? = some (.val (.int x))) (hz : x + Int32.ofInt d = z) (hl' : storeLocals L i (.int z) = some L') (k' : Go p l e R s m args below meth c Z n0 P kc ks μ k n (mkF m q L' st)) : Go p l e R s m args below meth c Z n0 P kc ks μ k n (mkF m pc L st) := by
  subst hq
  exact Go.pure k' fun T h t hr => XS.iinc h C.1 rfl (hb C.2.1 hd) hl (by rw [hz]; exact hl') hr
theorem goto (C : Ctx p s m meth c Z own nm B ml rt) {o : Int} (hd : decode B pc = .ok (.goto o, 3)) (hq : 0 ≤ (pc : Int) + o ∧ ((pc : Int) + o).toNat = q) (k' : Go p l e R s m args below meth c Z n0 P kc ks μ k n (mkF m q L st)) : Go p l e R s m args below meth c Z n0 P kc ks μ k n (mkF m pc L st) := Go.pure k' fun T h t hr => XS.goto h C.1 rfl rfl (hb C.2.1 hd) hq.1 hq.2 hr
theorem icmp_eq (C : Ctx p s m meth c Z own nm B ml rt) {x y : Int32} {o : Int} {r : Nat} (hd : decode B pc = .ok (.if_icmp .eq o, 3)) (hq : pc + 3 = q) (hr : 0 ≤ (pc : Int) + o ∧ ((pc : Int) + o).toNat = r) (ky : x = y → Go p l e R s m args below meth c Z n0 P kc ks μ k n (mkF m r L st)) (kn : ¬ x = y → Go p l e R s m args below meth c Z n0 P kc ks μ k n (mkF m q L st)) : Go p l e R s m args below meth c Z n0 P kc ks μ k n (mkF m pc L (.int y :: .int x :: st)) := by
  subst hq
  by_cases hc : x = y
  · exact Go.pure (ky hc) fun T h t k => XS.icmpYes h C.1 rfl rfl (hb C.2.1 hd) rfl (XT.ii_eq_t hc) hr.1 hr.2 k
  · exact Go.pure (kn (by first | exact hc | exact Decidable.of_not_not hc)) fun T h t k => XS.icmpNo h C.1 rfl (hb C.2.1 hd) rfl (XT.ii_eq_f (by first | exact hc | exact Decidable.of_not_not hc)) k
theorem if_eq (C : Ctx p s m meth c Z own nm B ml rt) {x : Int32} {o : Int} {r : Nat} (hd : decode B pc = .ok (.ifCond .eq o, 3)) (hq : pc + 3 = q) (hr : 0 ≤ (pc : Int) + o ∧ ((pc : Int) + o).toNat = r) (ky : x = 0 → Go p l e R s m args below meth c Z n0 P kc ks μ k n (mkF m r L st)) (kn : ¬ x = 0 → Go p l e R s m args below meth c Z n0 P kc ks μ k n (mkF m q L st)) : Go p l e R s m args below meth c Z n0 P kc ks μ k n (mkF m pc L (.int x :: st)) := by
  subst hq
  by_cases hc : x = 0
  · exact Go.pure (ky hc) fun T h t k => XS.ifYes h C.1 rfl rfl (hb C.2.1 hd) rfl (XT.i0_eq_t hc) hr.1 hr.2 k
  · exact Go.pure (kn (by first | exact hc | exact Decidable.of_not_not hc)) fun T h t k => XS.ifNo h C.1 rfl (hb C.2.1 hd) rfl (XT.i0_eq_f (by first | exact hc | exact Decidable.of_not_not hc)) k
theorem lcmp_eq (C : Ctx p s m meth c Z own nm B ml rt) {x y : Int64} {o : Int} {r pc1 : Nat} (hd0 : decode B pc = .ok (.lcmp, 1)) (h1 : pc + 1 = pc1) (hd : decode B pc1 = .ok (.ifCond .eq o, 3)) (hq : pc1 + 3 = q) (hr : 0 ≤ (pc1 : Int) + o ∧ ((pc1 : Int) + o).toNat = r) (ky : x = y → Go p l e R s m args below meth c Z n0 P kc ks μ k n (mkF m r L st)) (kn : ¬ x = y → Go p l e R s m args below meth c Z n0 P kc ks μ k n (mkF m q L st)) : Go p l e R s m args below meth c Z n0 P kc ks μ k n (mkF m pc L (.long y :: .long x :: st)) := by
  subst hq h1
  refine Go.pure (g' := mkF m (pc + 1) L (.int (XT.cmpL x y) :: st)) ?_ fun T h t k => XT.lcmp h C.1 rfl (hb C.2.1 hd0) rfl k
  by_cases hc : x = y
  · exact Go.pure (ky hc) fun T h t k => XS.ifYes h C.1 rfl rfl (hb C.2.1 hd) rfl (XT.ll_eq_t hc) hr.1 hr.2 k
  · exact Go.pure (kn (by first | exact hc | exact Decidable.of_not_not hc)) fun T h t k => XS.ifNo h C.1 rfl (hb C.2.1 hd) rfl (XT.ll_eq_f (by first | exact hc | exact Decidable.of_not_not hc)) k
theorem icmp_ne (C : Ctx p s m meth c Z own nm B ml rt) {x y : Int32} {o : Int} {r : Nat} (hd : decode B pc = .ok (.if_icmp .ne o, 3)) (hq : pc + 3 = q) (hr : 0 ≤ (pc : Int) + o ∧ ((pc : Int) + o).toNat = r) (ky : ¬ x = y → Go p l e R s m args below meth c Z n0 P kc ks μ k n (mkF m r L st)) (kn : x = y → Go p l e R s m args below meth c Z n0 P kc ks μ k n (mkF m q L st)) : Go p l e R s m args below meth c Z n0 P kc ks μ k n (mkF m pc L (.int y :: .int x :: st)) := by
  subst hq
  by_cases hc : ¬ x = y
  · exact Go.pure (ky hc) fun T h t k => XS.icmpYes h C.1 rfl rfl (hb C.2.1 hd) rfl (XT.ii_ne_t hc) hr.1 hr.2 k
  · exact Go.pure (kn (by first | exact hc | exact Decidable.of_not_not hc)) fun T h t k => XS.icmpNo h C.1 rfl (hb C.2.1 hd) rfl (XT.ii_ne_f (by first | exact hc | exact Decidable.of_not_not hc)) k
theorem if_ne (C : Ctx p s m meth c Z own nm B ml rt) {x : Int32} {o : Int} {r : Nat} (hd : decode B pc = .ok (.ifCond .ne o, 3)) (hq : pc + 3 = q) (hr : 0 ≤ (pc : Int) + o ∧ ((pc : Int) + o).toNat = r) (ky : ¬ x = 0 → Go p l e R s m args below meth c Z n0 P kc ks μ k n (mkF m r L st)) (kn : x = 0 → Go p l e R s m args below meth c Z n0 P kc ks μ k n (mkF m q L st)) : Go p l e R s m args below meth c Z n0 P kc ks μ k n (mkF m pc L (.int x :: st)) := by
  subst hq
  by_cases hc : ¬ x = 0
  · exact Go.pure (ky hc) fun T h t k => XS.ifYes h C.1 rfl rfl (hb C.2.1 hd) rfl (XT.i0_ne_t hc) hr.1 hr.2 k
  · exact Go.pure (kn (by first | exact hc | exact Decidable.of_not_not hc)) fun T h t k => XS.ifNo h C.1 rfl (hb C.2.1 hd) rfl (XT.i0_ne_f (by first | exact hc | exact Decidable.of_not_not hc)) k
theorem lcmp_ne (C : Ctx p s m meth c Z own nm B ml rt) {x y : Int64} {o : Int} {r pc1 : Nat} (hd0 : decode B pc = .ok (.lcmp, 1)) (h1 : pc + 1 = pc1) (hd : decode B pc1 = .ok (.ifCond .ne o, 3)) (hq : pc1 + 3 = q) (hr : 0 ≤ (pc1 : Int) + o ∧ ((pc1 : Int) + o).toNat = r) (ky : ¬ x = y → Go p l e R s m args below meth c Z n0 P kc ks μ k n (mkF m r L st)) (kn : x = y → Go p l e R s m args below meth c Z n0 P kc ks μ k n (mkF m q L st)) : Go p l e R s m args below meth c Z n0 P kc ks μ k n (mkF m pc L (.long y :: .long x :: st)) := by
  subst hq h1
  refine Go.pure (g' := mkF m (pc + 1) L (.int (XT.cmpL x y) :: st)) ?_ fun T h t k => XT.lcmp h C.1 rfl (hb C.2.1 hd0) rfl k
  by_cases hc : ¬ x = y
  · exact Go.pure (ky hc) fun T h t k => XS.ifYes h C.1 rfl rfl (hb C.2.1 hd) rfl (XT.ll_ne_t hc) hr.1 hr.2 k
  · exact Go.pure (kn (by first | exact hc | exact Decidable.of_not_not hc)) fun T h t k => XS.ifNo h C.1 rfl (hb C.2.1 hd) rfl (XT.ll_ne_f (by first | exact hc | exact Decidable.of_not_not hc)) k
theorem icmp_lt (C : Ctx p s m meth c Z own nm B ml rt) {x y : Int32} {o : Int} {r : Nat} (hd : decode B pc = .ok (.if_icmp .lt o, 3)) (hq : pc + 3 = q) (hr : 0 ≤ (pc : Int) + o ∧ ((pc : Int) + o).toNat = r) (ky : x < y → Go p l e R s m args below meth c Z n0 P kc ks μ k n (mkF m r L st)) (kn : ¬ x < y → Go p l e R s m args below meth c Z n0 P kc ks μ k n (mkF m q L st)) : Go p l e R s m args below meth c Z n0 P kc ks μ k n (mkF m pc L (.int y :: .int x :: st)) := by
  subst hq
  by_cases hc : x < y
  · exact Go.pure (ky hc) fun T h t k => XS.icmpYes h C.1 rfl rfl (hb C.2.1 hd) rfl (XT.ii_lt_t hc) hr.1 hr.2 k
  · exact Go.pure (kn (by first | exact hc | exact Decidable.of_not_not hc)) fun T h t k => XS.icmpNo h C.1 rfl (hb C.2.1 hd) rfl (XT.ii_lt_f (by first | exact hc | exact Decidable.of_not_not hc)) k
theorem if_lt (C : Ctx p s m meth c Z own nm B ml rt) {x : Int32} {o : Int} {r : Nat} (hd : decode B pc = .ok (.ifCond .lt o, 3)) (hq : pc + 3 = q) (hr : 0 ≤ (pc : Int) + o ∧ ((pc : Int) + o).toNat = r) (ky : x < 0 → Go p l e R s m args below meth c Z n0 P kc ks μ k n (mkF m r L st)) (kn : ¬ x < 0 → Go p l e R s m args below meth c Z n0 P kc ks μ k n (mkF m q L st)) : Go p l e R s m args below meth c Z n0 P kc ks μ k n (mkF m pc L (.int x :: st)) := by
  subst hq
  by_cases hc : x < 0
  · exact Go.pure (ky hc) fun T h t k => XS.ifYes h C.1 rfl rfl (hb C.2.1 hd) rfl (XT.i0_lt_t hc) hr.1 hr.2 k
  · exact Go.pure (kn (by first | exact hc | exact Decidable.of_not_not hc)) fun T h t k => XS.ifNo h C.1 rfl (hb C.2.1 hd) rfl (XT.i0_lt_f (by first | exact hc | exact Decidable.of_not_not hc)) k
theorem lcmp_lt (C : Ctx p s m meth c Z own nm B ml rt) {x y : Int64} {o : Int} {r pc1 : Nat} (hd0 : decode B pc = .ok (.lcmp, 1)) (h1 : pc + 1 = pc1) (hd : decode B pc1 = .ok (.ifCond .lt o, 3)) (hq : pc1 + 3 = q) (hr : 0 ≤ (pc1 : Int) + o ∧ ((pc1 : Int) + o).toNat = r) (ky : x < y → Go p l e R s m args below meth c Z n0 P kc ks μ k n (mkF m r L st)) (kn : ¬ x < y → Go p l e R s m args below meth c Z n0 P kc ks μ k n (mkF m q L st)) : Go p l e R s m args below meth c Z n0 P kc ks μ k n (mkF m pc L (.long y :: .long x :: st)) := by
  subst hq h1
  refine Go.pure (g' := mkF m (pc + 1) L (.int (XT.cmpL x y) :: st)) ?_ fun T h t k => XT.lcmp h C.1 rfl (hb C.2.1 hd0) rfl k
  by_cases hc : x < y
  · exact Go.pure (ky hc) fun T h t k => XS.ifYes h C.1 rfl rfl (hb C.2.1 hd) rfl (XT.ll_lt_t hc) hr.1 hr.2 k
  · exact Go.pure (kn (by first | exact hc | exact Decidable.of_not_not hc)) fun T h t k => XS.ifNo h C.1 rfl (hb C.2.1 hd) rfl (XT.ll_lt_f (by first | exact hc | exact Decidable.of_not_not hc)) k
theorem icmp_ge (C : Ctx p s m meth c Z own nm B ml rt) {x y : Int32} {o : Int} {r : Nat} (hd : decode B pc = .ok (.if_icmp .ge o, 3)) (hq : pc + 3 = q) (hr : 0 ≤ (pc : Int) + o ∧ ((pc : Int) + o).toNat = r) (ky : ¬ x < y → Go p l e R s m args below meth c Z n0 P kc ks μ k n (mkF m r L st)) (kn : x < y → Go p l e R s m args below meth c Z n0 P kc ks μ k n (mkF m q L st)) : Go p l e R s m args below meth c Z n0 P kc ks μ k n (mkF m pc L (.int y :: .int x :: st)) := by
  subst hq
  by_cases hc : ¬ x < y
  · exact Go.pure (ky hc) fun T h t k => XS.icmpYes h C.1 rfl rfl (hb C.2.1 hd) rfl (XT.ii_ge_t hc) hr.1 hr.2 k
  · exact Go.pure (kn (by first | exact hc | exact Decidable.of_not_not hc)) fun T h t k => XS.icmpNo h C.1 rfl (hb C.2.1 hd) rfl (XT.ii_ge_f (by first | exact hc | exact Decidable.of_not_not hc)) k
theorem if_ge (C : Ctx p s m meth c Z own nm B ml rt) {x : Int32} {o : Int} {r : Nat} (hd : decode B pc = .ok (.ifCond .ge o, 3)) (hq : pc + 3 = q) (hr : 0 ≤ (pc : Int) + o ∧ ((pc : Int) + o).toNat = r) (ky : ¬ x < 0 → Go p l e R s m args below meth c Z n0 P kc ks μ k n (mkF m r L st)) (kn : x < 0 → Go p l e R s m args below meth c Z n0 P kc ks μ k n (mkF m q L st)) : Go p l e R s m args below meth c Z n0 P kc ks μ k n (mkF m pc L (.int x :: st)) := by
  subst hq
  by_cases hc : ¬ x < 0
  · exact Go.pure (ky hc) fun T h t k => XS.ifYes h C.1 rfl rfl (hb C.2.1 hd) rfl (XT.i0_ge_t hc) hr.1 hr.2 k
  · exact Go.pure (kn (by first | exact hc | exact Decidable.of_not_not hc)) fun T h t k => XS.ifNo h C.1 rfl (hb C.2.1 hd) rfl (XT.i0_ge_f (by first | exact hc | exact Decidable.of_not_not hc)) k
theorem lcmp_ge (C : Ctx p s m meth c Z own nm B ml rt) {x y : Int64} {o : Int} {r pc1 : Nat} (hd0 : decode B pc = .ok (.lcmp, 1)) (h1 : pc + 1 = pc1) (hd : decode B pc1 = .ok (.ifCond .ge o, 3)) (hq : pc1 + 3 = q) (hr : 0 ≤ (pc1 : Int) + o ∧ ((pc1 : Int) + o).toNat = r) (ky : ¬ x < y → Go p l e R s m args below meth c Z n0 P kc ks μ k n (mkF m r L st)) (kn : x < y → Go p l e R s m args below meth c Z n0 P kc ks μ k n (mkF m q L st)) : Go p l e R s m args below meth c Z n0 P kc ks μ k n (mkF m pc L (.long y :: .long x :: st)) := by
  subst hq h1
  refine Go.pure (g' := mkF m (pc + 1) L (.int (XT.cmpL x y) :: st)) ?_ fun T h t k => XT.lcmp h C.1 rfl (hb C.2.1 hd0) rfl k
  by_cases hc : ¬ x < y
  · exact Go.pure (ky hc) fun T h t k => XS.ifYes h C.1 rfl rfl (hb C.2.1 hd) rfl (XT.ll_ge_t hc) hr.1 hr.2 k
  · exact Go.pure (kn (by first | exact hc | exact Decidable.of_not_not hc)) fun T h t k => XS.ifNo h C.1 rfl (hb C.2.1 hd) rfl (XT.ll_ge_f (by first | exact hc | exact Decidable.of_not_not hc)) k
theorem icmp_gt (C : Ctx p s m meth c Z own nm B ml rt) {x y : Int32} {o : Int} {r : Nat} (hd : decode B pc = .ok (.if_icmp .gt o, 3)) (hq : pc + 3 = q) (hr : 0 ≤ (pc : Int) + o ∧ ((pc : Int) + o).toNat = r) (ky : y < x → Go p l e R s m args below meth c Z n0 P kc ks μ k n (mkF m r L st)) (kn : ¬ y < x → Go p l e R s m args below meth c Z n0 P kc ks μ k n (mkF m q L st)) : Go p l e R s m args below meth c Z n0 P kc ks μ k n (mkF m pc L (.int y :: .int x :: st)) := by
  subst hq
  by_cases hc : y < x
  · exact Go.pure (ky hc) fun T h t k => XS.icmpYes h C.1 rfl rfl (hb C.2.1 hd) rfl (XT.ii_gt_t hc) hr.1 hr.2 k
  · exact Go.pure (kn (by first | exact hc | exact Decidable.of_not_not hc)) fun T h t k => XS.icmpNo h C.1 rfl (hb C.2.1 hd) rfl (XT.ii_gt_f (by first | exact hc | exact Decidable.of_not_not hc)) k
theorem if_gt (C : Ctx p s m meth c Z own nm B ml rt) {x : Int32} {o : Int} {r : Nat} (hd : decode B pc = .ok (.ifCond .gt o, 3)) (hq : pc + 3 = q) (hr : 0 ≤ (pc : Int) + o ∧ ((pc : Int) + o).toNat = r) (ky : 0 < x → Go p l e R s m args below meth c Z n0 P kc ks μ k n (mkF m r L st)) (kn : ¬ 0 < x → Go p l e R s m args below meth c Z n0 P kc ks μ k n (mkF m q L st)) : Go p l e R s m args below meth c Z n0 P kc ks μ k n (mkF m pc L (.int x :: st)) := by
  subst hq
  by_cases hc : 0 < x
  · exact Go.pure (ky hc) fun T h t k => XS.ifYes h C.1 rfl rfl (hb C.2.1 hd) rfl (XT.i0_gt_t hc) hr.1 hr.2 k
  · exact Go.pure (kn (by first | exact hc | exact Decidable.of_not_not hc)) fun T h t k => XS.ifNo h C.1 rfl (hb C.2.1 hd) rfl (XT.i0_gt_f (by first | exact hc | exact Decidable.of_not_not hc)) k
theorem lcmp_gt (C : Ctx p s m meth c Z own nm B ml rt) {x y : Int64} {o : Int} {r pc1 : Nat} (hd0 : decode B pc = .ok (.lcmp, 1)) (h1 : pc + 1 = pc1) (hd : decode B pc1 = .ok (.ifCond .gt o, 3)) (hq : pc1 + 3 = q) (hr : 0 ≤ (pc1 : Int) + o ∧ ((pc1 : Int) + o).toNat = r) (ky : y < x → Go p l e R s m args below meth c Z n0 P kc ks μ k n (mkF m r L st)) (kn : ¬ y < x → Go p l e R s m args below meth c Z n0 P kc ks μ k n (mkF m q L st)) : Go p l e R s m args below meth c Z n0 P kc ks μ k n (mkF m pc L (.long y :: .long x :: st)) := by
  subst hq h1
  refine Go.pure (g' := mkF m (pc + 1) L (.int (XT.cmpL x y) :: st)) ?_ fun T h t k => XT.lcmp h C.1 rfl (hb C.2.1 hd0) rfl k
  by_cases hc : y < x
  · exact Go.pure (ky hc) fun T h t k => XS.ifYes h C.1 rfl rfl (hb C.2.1 hd) rfl (XT.ll_gt_t hc) hr.1 hr.2 k
  · exact Go.pure (kn (by first | exact hc | exact Decidable.of_not_not hc)) fun T h t k => XS.ifNo h C.1 rfl (hb C.2.1 hd) rfl (XT.ll_gt_f (by first | exact hc | exact Decidable.of_not_not hc)) k
theorem icmp_le (C : Ctx p s m meth c Z own nm B ml rt) {x y : Int32} {o : Int} {r : Nat} (hd : decode B pc = .ok (.if_icmp .le o, 3)) (hq : pc + 3 = q) (hr : 0 ≤ (pc : Int) + o ∧ ((pc : Int) + o).toNat = r) (ky : ¬ y < x → Go p l e R s m args below meth c Z n0 P kc ks μ k n (mkF m r L st)) (kn : y < x → Go p l e R s m args below meth c Z n0 P kc ks μ k n (mkF m q L st)) : Go p l e R s m args below meth c Z n0 P kc ks μ k n (mkF m pc L (.int y :: .int x :: st)) := by
  subst hq
  by_cases hc : ¬ y < x
  · exact Go.pure (ky hc) fun T h t k => XS.icmpYes h C.1 rfl rfl (hb C.2.1 hd) rfl (XT.ii_le_t hc) hr.1 hr.2 k
  · exact Go.pure (kn (by first | exact hc | exact Decidable.of_not_not hc)) fun T h t k => XS.icmpNo h C.1 rfl (hb C.2.1 hd) rfl (XT.ii_le_f (by first | exact hc | exact Decidable.of_not_not hc)) k
theorem if_le (C : Ctx p s m meth c Z own nm B ml rt) {x : Int32} {o : Int} {r : Nat} (hd : decode B pc = .ok (.ifCond .le o, 3)) (hq : pc + 3 = q) (hr : 0 ≤ (pc : Int) + o ∧ ((pc : Int) + o).toNat = r) (ky : ¬ 0 < x → Go p l e R s m args below meth c Z n0 P kc ks μ k n (mkF m r L st)) (kn : 0 < x → Go p l e R s m args below meth c Z n0 P kc ks μ k n (mkF m q L st)) : Go p l e R s m args below meth c Z n0 P kc ks μ k n (mkF m pc L (.int x :: st)) := by
  subst hq
  by_cases hc : ¬ 0 < x
  · exact Go.pure (ky hc) fun T h t k => XS.ifYes h C.1 rfl rfl (hb C.2.1 hd) rfl (XT.i0_le_t hc) hr.1 hr.2 k
  · exact Go.pure (kn (by first | exact hc | exact Decidable.of_not_not hc)) fun T h t k => XS.ifNo h C.1 rfl (hb C.2.1 hd) rfl (XT.i0_le_f (by first | exact hc | exact Decidable.of_not_not hc)) k
theorem lcmp_le (C : Ctx p s m meth c Z own nm B ml rt) {x y : Int64} {o : Int} {r pc1 : Nat} (hd0 : decode B pc = .ok (.lcmp, 1)) (h1 : pc + 1 = pc1) (hd : decode B pc1 = .ok (.ifCond .le o, 3)) (hq : pc1 + 3 = q) (hr : 0 ≤ (pc1 : Int) + o ∧ ((pc1 : Int) + o).toNat = r) (ky : ¬ y < x → Go p l e R s m args below meth c Z n0 P kc ks μ k n (mkF m r L st)) (kn : y < x → Go p l e R s m args below meth c Z n0 P kc ks μ k n (mkF m q L st)) : Go p l e R s m args below meth c Z n0 P kc ks μ k n (mkF m pc L (.long y :: .long x :: st)) := by
  subst hq h1
  refine Go.pure (g' := mkF m (pc + 1) L (.int (XT.cmpL x y) :: st)) ?_ fun T h t k => XT.lcmp h C.1 rfl (hb C.2.1 hd0) rfl k
  by_cases hc : ¬ y < x
  · exact Go.pure (ky hc) fun T h t k => XS.ifYes h C.1 rfl rfl (hb C.2.1 hd) rfl (XT.ll_le_t hc) hr.1 hr.2 k
  · exact Go.pure (kn (by first | exact hc | exact Decidable.of_not_not hc)) fun T h t k => XS.ifNo h C.1 rfl (hb C.2.1 hd) rfl (XT.ll_le_f (by first | exact hc | exact Decidable.of_not_not hc)) k
theorem ifnullY (C : Ctx p s m meth c Z own nm B ml rt) {o : Int} {b : Addr} (hd : decode B pc = .ok (.ifnull o, 3)) (hq : 0 ≤ (pc : Int) + o ∧ ((pc : Int) + o).toNat = q) (k' : Go p l e R s m args below meth c Z n0 P kc ks μ k n (mkF m q L st)) : Go p l e R s m args below meth c Z n0 P kc ks μ k n (mkF m pc L (.null :: st)) := Go.pure k' fun T h t hr => XS.ifnullYes h C.1 rfl rfl (hb C.2.1 hd) rfl hq.1 hq.2 hr
theorem ifnullN (C : Ctx p s m meth c Z own nm B ml rt) {o : Int} {b : Addr} (hd : decode B pc = .ok (.ifnull o, 3)) (hq : pc + 3 = q) (k' : Go p l e R s m args below meth c Z n0 P kc ks μ k n (mkF m q L st)) : Go p l e R s m args below meth c Z n0 P kc ks μ k n (mkF m pc L ((.ref b) :: st)) := by
  subst hq
  exact Go.pure k' fun T h t hr => XS.ifnullNo h C.1 rfl (hb C.2.1 hd) rfl hr
theorem ifnonnullY (C : Ctx p s m meth c Z own nm B ml rt) {o : Int} {b : Addr} (hd : decode B pc = .ok (.ifnonnull o, 3)) (hq : 0 ≤ (pc : Int) + o ∧ ((pc : Int) + o).toNat = q) (k' : Go p l e R s m args below meth c Z n0 P kc ks μ k n (mkF m q L st)) : Go p l e R s m args below meth c Z n0 P kc ks μ k n (mkF m pc L ((.ref b) :: st)) := Go.pure k' fun T h t hr => XT.ifnonnullYes h C.1 rfl rfl (hb C.2.1 hd) rfl hq.1 hq.2 hr
theorem ifnonnullN (C : Ctx p s m meth c Z own nm B ml rt) {o : Int} {b : Addr} (hd : decode B pc = .ok (.ifnonnull o, 3)) (hq : pc + 3 = q) (k' : Go p l e R s m args below meth c Z n0 P kc ks μ k n (mkF m q L st)) : Go p l e R s m args below meth c Z n0 P kc ks μ k n (mkF m pc L (.null :: st)) := by
  subst hq
  exact Go.pure k' fun T h t hr => XT.ifnonnullNo h C.1 rfl (hb C.2.1 hd) rfl hr
theorem acmp_eq (C : Ctx p s m meth c Z own nm B ml rt) {x y : Value} {o : Int} {r : Nat} (hd : decode B pc = .ok (.if_acmp .eq o, 3)) (hq : pc + 3 = q) (hr : 0 ≤ (pc : Int) + o ∧ ((pc : Int) + o).toNat = r) (h1 : x.isRef = true) (h2 : y.isRef = true) (ky : x = y → Go p l e R s m args below meth c Z n0 P kc ks μ k n (mkF m r L st)) (kn : ¬ x = y → Go p l e R s m args below meth c Z n0 P kc ks μ k n (mkF m q L st)) : Go p l e R s m args below meth c Z n0 P kc ks μ k n (mkF m pc L (y :: x :: st)) := by
  subst hq
  by_cases hc : x = y
  · exact Go.pure (ky hc) fun T h t k => XT.acmpYes h C.1 rfl rfl (hb C.2.1 hd) rfl h1 h2 (XT.aa_eq_t hc) hr.1 hr.2 k
  · exact Go.pure (kn (by first | exact hc | exact Decidable.of_not_not hc)) fun T h t k => XT.acmpNo h C.1 rfl (hb C.2.1 hd) rfl h1 h2 (XT.aa_eq_f (by first | exact hc | exact Decidable.of_not_not hc)) k
theorem acmp_ne (C : Ctx p s m meth c Z own nm B ml rt) {x y : Value} {o : Int} {r : Nat} (hd : decode B pc = .ok (.if_acmp .ne o, 3)) (hq : pc + 3 = q) (hr : 0 ≤ (pc : Int) + o ∧ ((pc : Int) + o).toNat = r) (h1 : x.isRef = true) (h2 : y.isRef = true) (ky : ¬ x = y → Go p l e R s m args below meth c Z n0 P kc ks μ k n (mkF m r L st)) (kn : x = y → Go p l e R s m args below meth c Z n0 P kc ks μ k n (mkF m q L st)) : Go p l e R s m args below meth c Z n0 P kc ks μ k n (mkF m pc L (y :: x :: st)) := by
  subst hq
  by_cases hc : ¬ x = y
  · exact Go.pure (ky hc) fun T h t k => XT.acmpYes h C.1 rfl rfl (hb C.2.1 hd) rfl h1 h2 (XT.aa_ne_t hc) hr.1 hr.2 k
  · exact Go.pure (kn (by first | exact hc | exact Decidable.of_not_not hc)) fun T h t k => XT.acmpNo h C.1 rfl (hb C.2.1 hd) rfl h1 h2 (XT.aa_ne_f (by first | exact hc | exact Decidable.of_not_not hc)) k
theorem mem {μ' : Mem} {g : JFrame} (h : μ = μ') (k' : Go p l e R s m args below meth c Z n0 P kc ks μ' k n g) : Go p l e R s m args below meth c Z n0 P kc ks μ k n g := by subst h; exact k'
/-! constants of the pool -/
theorem ldcI (C : Ctx p s m meth c Z own nm B ml rt) {i : Nat} {v : Int32} (hd : decode B pc = .ok (.ldc i, 2)) (hq : pc + 2 = q) (w : (Cond.constant own i v).before a0 Z = true) (k' : Go p l e R s m args below meth c Z n0 P kc ks μ k n (mkF m q L (.int v :: st))) : Go p l e R s m args below meth c Z n0 P kc ks μ k n (mkF m pc L st) := by
  subst hq
  exact Go.stand k' fun T locs X H => ⟨T, X, rfl, X.ldcInt C.1 C.2.2.2.2.1 (mvT C.2.2.2.1 w) (g := mkF m pc L st) rfl (hb C.2.1 hd)⟩
theorem ldcwI (C : Ctx p s m meth c Z own nm B ml rt) {i : Nat} {v : Int32} (hd : decode B pc = .ok (.ldc_w i, 3)) (hq : pc + 3 = q) (w : (Cond.constant own i v).before a0 Z = true) (k' : Go p l e R s m args below meth c Z n0 P kc ks μ k n (mkF m q L (.int v :: st))) : Go p l e R s m args below meth c Z n0 P kc ks μ k n (mkF m pc L st) := by
  subst hq
  exact Go.stand k' fun T locs X H => ⟨T, X, rfl, X.ldcwInt C.1 C.2.2.2.2.1 (mvT C.2.2.2.1 w) (g := mkF m pc L st) rfl (hb C.2.1 hd)⟩
theorem ldcJ (C : Ctx p s m meth c Z own nm B ml rt) {i : Nat} {v : Int64} (hd : decode B pc = .ok (.ldc2_w i, 3)) (hq : pc + 3 = q) (w : (Cond.constantLong own i v).before a0 Z = true) (k' : Go p l e R s m args below meth c Z n0 P kc ks μ k n (mkF m q L (.long v :: st))) : Go p l e R s m args below meth c Z n0 P kc ks μ k n (mkF m pc L st) := by
  subst hq
  exact Go.stand k' fun T locs X H => ⟨T, X, rfl, X.ldc2Long C.1 C.2.2.2.2.1 (mvT C.2.2.2.1 w) (g := mkF m pc L st) rfl (hb C.2.1 hd)⟩
/-! fields -/
theorem getfield (C : Ctx p s m meth c Z own nm B ml rt) {i j : Nat} {R0 O f d host K : String} {fs : List (Key × Value)} {v : Value} {a : Addr} (hd : decode B pc = .ok (.getfield i, 3)) (hq : pc + 3 = q) (w : (Cond.fieldLink own i R0 f d).before a0 Z = true ∨ (Cond.fieldLinkNest own i R0 f d host).before a0 Z = true) (via : Via Z R0 O f d)
    (hμ : μ a = some (.inl (K, fs))) (hj : fs[j]? = some ((O, f, d), v)) (k' : Go p l e R s m args below meth c Z n0 P kc ks μ k n (mkF m q L (v :: st))) : Go p l e R s m args below meth c Z n0 P kc ks μ k n (mkF m pc L (.ref a :: st)) := by
  subst hq
  refine Go.stand k' fun T locs X H => ?_
  have I := H.2 a _ hμ
  exact getF X C.1 C.2.2.2.1 C.2.2.2.2.1 w via rfl (I.2.1 _ (List.mem_of_getElem? hj)) (g := mkF m pc L (.ref a :: st)) rfl rfl (hb C.2.1 hd)
theorem putfield (C : Ctx p s m meth c Z own nm B ml rt) {i j kk : Nat} {R0 O f d host K : String} {fs fs' : List (Key × Value)} {v old : Value} {a : Addr} {ty : FieldType} (hd : decode B pc = .ok (.putfield i, 3)) (hq : pc + 3 = q) (w : (Cond.fieldLink own i R0 f d).before a0 Z = true ∨ (Cond.fieldLinkNest own i R0 f d host).before a0 Z = true) (via : Via Z R0 O f d)
    (wl : (Cond.lays K O f d).before a0 Z = true ∨ ((Cond.laysFinal K O f d).before a0 Z = true ∧ own = O ∧ nm = "<init>")) (wi : (Cond.instantiable K kk).before a0 Z = true) (hty : parseFieldDescriptor d = some ty) (hn : narrow ty v = v) (hf : fits ty v = true)
    (hμ : μ a = some (.inl (K, fs))) (hj : fs[j]? = some ((O, f, d), old)) (hfs : fs.set j ((O, f, d), v) = fs') (ha : n0 ≤ a) (k' : Go p l e R s m args below meth c Z n0 P kc ks (upd μ a (.inl (K, fs'))) k n (mkF m q L st)) : Go p l e R s m args below meth c Z n0 P kc ks μ k n (mkF m pc L (v :: .ref a :: st)) := by
  subst hq
  intro T locs X F H
  have I := H.2 a _ hμ
  obtain ⟨T', h', X', e', W, stp⟩ := putF X C.1 C.2.2.2.1 C.2.2.2.2.1 w via rfl (I.2.1 _ (List.mem_of_getElem? hj)) I.1 (wl.imp id fun z => ⟨z.1, z.2.1, C.2.2.2.2.2.2.2.trans z.2.2⟩) wi hty hn hf (g := mkF m pc L (v :: .ref a :: st)) rfl rfl (hb C.2.1 hd)
  obtain ⟨s2, o, h1, h2⟩ := k' T' _ X' (Fr.snoc X' F ha) (by rw [e']; exact H.wr W ha (IsO.put I hj W hfs))
  exact ⟨s2, o, stp _ h1, h2⟩
theorem putfieldN (C : Ctx p s m meth c Z own nm B ml rt) {i j kk : Nat} {R0 O f d K : String} {fs fs' : List (Key × Value)} {v v' old : Value} {a : Addr} {ty : FieldType} (hd : decode B pc = .ok (.putfield i, 3)) (hq : pc + 3 = q) (w : (Cond.fieldLink own i R0 f d).before a0 Z = true) (via : Via Z R0 O f d)
    (wl : (Cond.lays K O f d).before a0 Z = true ∨ ((Cond.laysFinal K O f d).before a0 Z = true ∧ own = O ∧ nm = "<init>")) (wi : (Cond.instantiable K kk).before a0 Z = true) (hty : parseFieldDescriptor d = some ty) (hn : narrow ty v = v') (hf : fits ty v' = true)
    (hμ : μ a = some (.inl (K, fs))) (hj : fs[j]? = some ((O, f, d), old)) (hfs : fs.set j ((O, f, d), v') = fs') (ha : n0 ≤ a) (k' : Go p l e R s m args below meth c Z n0 P kc ks (upd μ a (.inl (K, fs'))) k n (mkF m q L st)) : Go p l e R s m args below meth c Z n0 P kc ks μ k n (mkF m pc L (v :: .ref a :: st)) := by
  subst hq
  intro T locs X F H
  have I := H.2 a _ hμ
  obtain ⟨T', h', X', e', W, stp⟩ := putFN X C.1 C.2.2.2.1 C.2.2.2.2.1 w via rfl (I.2.1 _ (List.mem_of_getElem? hj)) I.1 (wl.imp id fun z => ⟨z.1, z.2.1, C.2.2.2.2.2.2.2.trans z.2.2⟩) wi hty hn hf (g := mkF m pc L (v :: .ref a :: st)) rfl rfl (hb C.2.1 hd)
  obtain ⟨s2, o, h1, h2⟩ := k' T' _ X' (Fr.snoc X' F ha) (by rw [e']; exact H.wr W ha (IsO.put I hj W hfs))
  exact ⟨s2, o, stp _ h1, h2⟩
theorem getstatic (C : Ctx p s m meth c Z own nm B ml rt) {i : Nat} {R0 O f d host : String} {v : Value} (hd : decode B pc = .ok (.getstatic i, 3)) (hq : pc + 3 = q) (w : (Cond.fieldLink own i R0 f d).before a0 Z = true ∨ (Cond.fieldLinkNest own i R0 f d host).before a0 Z = true) (via : Via Z R0 O f d)
    (S : Sta Z Z.heap O f d v) (k' : Go p l e R s m args below meth c Z n0 P kc ks μ k n (mkF m q L (v :: st))) : Go p l e R s m args below meth c Z n0 P kc ks μ k n (mkF m pc L st) := by
  subst hq
  exact Go.stand k' fun T locs X H => getS2 X C.1 C.2.2.2.1 C.2.2.2.2.1 w via rfl (S.ext H.1.2) (g := mkF m pc L st) rfl (hb C.2.1 hd)
/-! new objects -/
def AllLaid (Z : State) (a0 : Array Value) (C : String) : List (Key × Value) → Prop
  | [] => True
  | q :: r => (∃ ty, Laid Z a0 C q.1.1 q.1.2.1 q.1.2.2 ∧ parseFieldDescriptor q.1.2.2 = some ty ∧ q.2 = defaultValue ty) ∧ AllLaid Z a0 C r
theorem AllLaid.mem {K : String} : ∀ {fs : List (Key × Value)}, AllLaid Z a0 K fs → ∀ q ∈ fs, ∃ ty, Laid Z a0 K q.1.1 q.1.2.1 q.1.2.2 ∧ parseFieldDescriptor q.1.2.2 = some ty ∧ q.2 = defaultValue ty
  | [], _, _, h => nomatch h
  | _ :: _, H, q, h => (List.mem_cons.mp h).elim (fun z => z ▸ H.1) (AllLaid.mem H.2 q)
theorem AllLaid.pw {K : String} : ∀ {fs : List (Key × Value)}, AllLaid Z a0 K fs → fs.Pairwise (fun q r => q.1.2.1 ≠ r.1.2.1) → fs.Pairwise fun q r => sl Z q ≠ sl Z r
  | [], _, _ => .nil
  | x :: r, H, N => by
    cases N with
    | cons h1 h2 =>
      refine .cons (fun y hy => ?_) (AllLaid.pw H.2 h2)
      obtain ⟨t1, L1, p1, -⟩ := H.1
      obtain ⟨t2, L2, p2, -⟩ := AllLaid.mem H.2 y hy
      exact RoadKit.slot_ne L1 L2 (h1 y hy) p1 p2
theorem new (C : Ctx p s m meth c Z own nm B ml rt) {i ns : Nat} {K : String} {fs : List (Key × Value)} (hd : decode B pc = .ok (.new i, 3)) (hq : pc + 3 = q) (w1 : (Cond.classLink own i K).before a0 Z = true) (w2 : (Cond.instantiable K ns).before a0 Z = true) (w3 : (Cond.initialized K).before a0 Z = true)
    (hl : AllLaid Z a0 K fs) (hnd : fs.Pairwise (fun q r => q.1.2.1 ≠ r.1.2.1)) (hc : k + 1 ≤ R.cells) (hs : n + ns ≤ R.slots)
    (k' : ∀ a : Addr, (∀ b o, μ b = some o → b ≠ a) → n0 ≤ a → Go p l e R s m args below meth c Z n0 P kc ks (upd μ a (.inl (K, fs))) (k + 1) (n + ns) (mkF m q L (.ref a :: st))) : Go p l e R s m args below meth c Z n0 P kc ks μ k n (mkF m pc L st) := by
  subst hq
  intro T locs X F H
  obtain ⟨T', h', X', e', E, A, D, -, stp⟩ := newO X C.1 C.2.2.2.1 C.2.2.2.2.1 w1 w2 w3 rfl (g := mkF m pc L st) rfl (hb C.2.1 hd) hc hs
  obtain ⟨s2, o, h1, h2⟩ := k' T.heap.size H.fresh H.ge T' _ X' F (by
    rw [e']
    refine Hp.set (H.ext E) ⟨A, fun z hz => ?_, hl.pw hnd⟩
    obtain ⟨ty, l1, l2, l3⟩ := hl.mem z hz
    rw [l3]; exact D l1 l2)
  exact ⟨s2, o, stp _ h1, h2⟩
theorem newArr (C : Ctx p s m meth c Z own nm B ml rt) {aty : ArrayType} {ty : FieldType} {z : Int32} {cap : Nat} {vs : List Value} (hd : decode B pc = .ok (.newarray aty, 2)) (hq : pc + 2 = q) (ht : newarray.typeOf aty = ty) (w : (Cond.arrayClass ty).before a0 Z = true) (hz : ¬ z < 0) (hcap : z.toNatClampNeg ≤ cap) (hbig : cap * 8 ≤ 536870912) (hvs : List.replicate z.toNatClampNeg (defaultValue ty) = vs)
    (hc : k + 1 ≤ R.cells) (hs : n + cap ≤ R.slots)
    (k' : ∀ a : Addr, (∀ b o, μ b = some o → b ≠ a) → n0 ≤ a → Go p l e R s m args below meth c Z n0 P kc ks (upd μ a (.inr (ty, vs))) (k + 1) (n + cap) (mkF m q L (.ref a :: st))) : Go p l e R s m args below meth c Z n0 P kc ks μ k n (mkF m pc L (.int z :: st)) := by
  subst hq hvs ht
  intro T locs X F H
  obtain ⟨T', h', cA, X', e', E, A, stp⟩ := newP X C.1 C.2.2.2.1 w rfl (g := mkF m pc L (.int z :: st)) rfl (hb C.2.1 hd) rfl hz hcap hbig hc hs
  obtain ⟨s2, o, h1, h2⟩ := k' T.heap.size H.fresh H.ge T' _ X' F (by
    rw [e']
    refine Hp.set (H.ext E) ⟨_, A, by simp [newA], by rw [List.length_replicate]; exact (back32 hz).2, fun v hv => ?_, fun _ K hK => ?_⟩
    · rw [(List.mem_replicate.mp hv).2]; cases aty <;> rfl
    · cases aty <;> cases hK)
  exact ⟨s2, o, stp _ h1, h2⟩
theorem newRef (C : Ctx p s m meth c Z own nm B ml rt) {i : Nat} {K : String} {z : Int32} {cap : Nat} {vs : List Value} (hd : decode B pc = .ok (.anewarray i, 3)) (hq : pc + 3 = q) (w1 : (Cond.classLink own i K).before a0 Z = true) (w2 : (Cond.arrayOver (.object K)).before a0 Z = true) (hz : ¬ z < 0) (hcap : z.toNatClampNeg ≤ cap) (hbig : cap * 8 ≤ 536870912) (hvs : List.replicate z.toNatClampNeg Value.null = vs)
    (hc : k + 1 ≤ R.cells) (hs : n + cap ≤ R.slots)
    (k' : ∀ a : Addr, (∀ b o, μ b = some o → b ≠ a) → n0 ≤ a → Go p l e R s m args below meth c Z n0 P kc ks (upd μ a (.inr (.object K, vs))) (k + 1) (n + cap) (mkF m q L (.ref a :: st))) : Go p l e R s m args below meth c Z n0 P kc ks μ k n (mkF m pc L (.int z :: st)) := by
  subst hq hvs
  intro T locs X F H
  obtain ⟨T', h', cA, X', e', E, A, O, stp⟩ := newR X C.1 C.2.2.2.1 C.2.2.2.2.1 w1 w2 rfl (g := mkF m pc L (.int z :: st)) rfl (hb C.2.1 hd) rfl hz hcap hbig hc hs
  obtain ⟨s2, o, h1, h2⟩ := k' T.heap.size H.fresh H.ge T' _ X' F (by
    rw [e']
    refine Hp.set (H.ext E) ⟨_, A, by simp [newA, defaultValue], by rw [List.length_replicate]; exact (back32 hz).2, fun v hv => ?_, fun _ K' hK => ?_⟩
    · rw [(List.mem_replicate.mp hv).2]; rfl
    · cases hK; exact O)
  exact ⟨s2, o, stp _ h1, h2⟩
/-! arrays -/
theorem inb {c : Cell} {vs : List Value} {j : Int32} (e : c.slots.toList = vs) (h0 : ¬ j < 0) (hj : j.toNatClampNeg < vs.length) : ¬ (j < 0 ∨ c.slots.size ≤ j.toNatClampNeg) := by
  subst e; rw [Array.length_toList] at hj; rintro (q | q)
  · exact h0 q
  · omega
theorem atL {c : Cell} {vs : List Value} {j : Nat} {v : Value} (e : c.slots.toList = vs) (hv : vs[j]? = some v) : c.slots[j]? = some v := by
  subst e; rw [Array.getElem?_toList] at hv; exact hv
theorem arraylength (C : Ctx p s m meth c Z own nm B ml rt) {ty : FieldType} {vs : List Value} {a : Addr} (hd : decode B pc = .ok (.arraylength, 1)) (hq : pc + 1 = q) (hμ : μ a = some (.inr (ty, vs))) (k' : ∀ z : Int32, z = Int32.ofNat vs.length → z.toInt = vs.length → Go p l e R s m args below meth c Z n0 P kc ks μ k n (mkF m q L (.int z :: st))) : Go p l e R s m args below meth c Z n0 P kc ks μ k n (mkF m pc L (.ref a :: st)) := by
  subst hq
  intro T locs X F H
  obtain ⟨cl, A, e1, hl, -⟩ := H.2 a _ hμ
  have e2 : cl.slots.size = vs.length := by subst e1; rw [Array.length_toList]
  obtain ⟨s2, o, h1, h2⟩ := k' (Int32.ofNat vs.length) rfl (Int32.toInt_ofNat_small hl) T _ X F H
  exact ⟨s2, o, X.arraylength C.1 A.1 (State.isArrayOf_alike C.2.2.2.1.alike A.2.1) (g := mkF m pc L (.ref a :: st)) rfl rfl (hb C.2.1 hd) _ (by rw [e2]; exact h1), h2⟩
theorem iaload (C : Ctx p s m meth c Z own nm B ml rt) {vs : List Value} {a : Addr} {j : Int32} {v : Value} (hd : decode B pc = .ok (.iaload, 1)) (hq : pc + 1 = q) (hμ : μ a = some (.inr (.int, vs))) (h0 : ¬ j < 0) (hv : vs[j.toNatClampNeg]? = some v) (k' : Go p l e R s m args below meth c Z n0 P kc ks μ k n (mkF m q L (v :: st))) : Go p l e R s m args below meth c Z n0 P kc ks μ k n (mkF m pc L (.int j :: .ref a :: st)) := by
  subst hq
  intro T locs X F H
  obtain ⟨cl, A, e1, -⟩ := H.2 a _ hμ
  obtain ⟨s2, o, h1, h2⟩ := k' T _ X F H
  exact ⟨s2, o, X.iaload C.1 A.1 (State.isArrayOf_alike C.2.2.2.1.alike A.2.1) A.2.2 (inb e1 h0 (List.getElem?_eq_some_iff.mp hv).1) (atL e1 hv) (g := mkF m pc L (.int j :: .ref a :: st)) rfl rfl (hb C.2.1 hd) _ h1, h2⟩
theorem laload (C : Ctx p s m meth c Z own nm B ml rt) {vs : List Value} {a : Addr} {j : Int32} {v : Value} (hd : decode B pc = .ok (.laload, 1)) (hq : pc + 1 = q) (hμ : μ a = some (.inr (.long, vs))) (h0 : ¬ j < 0) (hv : vs[j.toNatClampNeg]? = some v) (k' : Go p l e R s m args below meth c Z n0 P kc ks μ k n (mkF m q L (v :: st))) : Go p l e R s m args below meth c Z n0 P kc ks μ k n (mkF m pc L (.int j :: .ref a :: st)) := by
  subst hq
  intro T locs X F H
  obtain ⟨cl, A, e1, -⟩ := H.2 a _ hμ
  obtain ⟨s2, o, h1, h2⟩ := k' T _ X F H
  exact ⟨s2, o, X.laload C.1 A.1 (State.isArrayOf_alike C.2.2.2.1.alike A.2.1) A.2.2 (inb e1 h0 (List.getElem?_eq_some_iff.mp hv).1) (atL e1 hv) (g := mkF m pc L (.int j :: .ref a :: st)) rfl rfl (hb C.2.1 hd) _ h1, h2⟩
theorem caload (C : Ctx p s m meth c Z own nm B ml rt) {vs : List Value} {a : Addr} {j : Int32} {v : Value} (hd : decode B pc = .ok (.caload, 1)) (hq : pc + 1 = q) (hμ : μ a = some (.inr (.char, vs))) (h0 : ¬ j < 0) (hv : vs[j.toNatClampNeg]? = some v) (k' : Go p l e R s m args below meth c Z n0 P kc ks μ k n (mkF m q L (v :: st))) : Go p l e R s m args below meth c Z n0 P kc ks μ k n (mkF m pc L (.int j :: .ref a :: st)) := by
  subst hq
  intro T locs X F H
  obtain ⟨cl, A, e1, -⟩ := H.2 a _ hμ
  obtain ⟨s2, o, h1, h2⟩ := k' T _ X F H
  exact ⟨s2, o, X.caload C.1 A.1 (State.isArrayOf_alike C.2.2.2.1.alike A.2.1) A.2.2 (inb e1 h0 (List.getElem?_eq_some_iff.mp hv).1) (atL e1 hv) (g := mkF m pc L (.int j :: .ref a :: st)) rfl rfl (hb C.2.1 hd) _ h1, h2⟩
theorem baload (C : Ctx p s m meth c Z own nm B ml rt) {vs : List Value} {a : Addr} {j : Int32} {v : Value} (hd : decode B pc = .ok (.baload, 1)) (hq : pc + 1 = q) (hμ : μ a = some (.inr (.byte, vs))) (h0 : ¬ j < 0) (hv : vs[j.toNatClampNeg]? = some v) (k' : Go p l e R s m args below meth c Z n0 P kc ks μ k n (mkF m q L (v :: st))) : Go p l e R s m args below meth c Z n0 P kc ks μ k n (mkF m pc L (.int j :: .ref a :: st)) := by
  subst hq
  intro T locs X F H
  obtain ⟨cl, A, e1, -⟩ := H.2 a _ hμ
  obtain ⟨s2, o, h1, h2⟩ := k' T _ X F H
  exact ⟨s2, o, X.baloadBytes C.1 A.1 (State.isArrayOf_alike C.2.2.2.1.alike A.2.1) A.2.2 (inb e1 h0 (List.getElem?_eq_some_iff.mp hv).1) (atL e1 hv) (g := mkF m pc L (.int j :: .ref a :: st)) rfl rfl (hb C.2.1 hd) _ h1, h2⟩
theorem zaload (C : Ctx p s m meth c Z own nm B ml rt) {vs : List Value} {a : Addr} {j : Int32} {v : Value} (hd : decode B pc = .ok (.baload, 1)) (hq : pc + 1 = q) (hμ : μ a = some (.inr (.boolean, vs))) (h0 : ¬ j < 0) (hv : vs[j.toNatClampNeg]? = some v) (k' : Go p l e R s m args below meth c Z n0 P kc ks μ k n (mkF m q L (v :: st))) : Go p l e R s m args below meth c Z n0 P kc ks μ k n (mkF m pc L (.int j :: .ref a :: st)) := by
  subst hq
  intro T locs X F H
  obtain ⟨cl, A, e1, -⟩ := H.2 a _ hμ
  obtain ⟨s2, o, h1, h2⟩ := k' T _ X F H
  exact ⟨s2, o, X.baloadBooleans C.1 A.1 (State.isArrayOf_alike C.2.2.2.1.alike A.2.1) A.2.2 (inb e1 h0 (List.getElem?_eq_some_iff.mp hv).1) (atL e1 hv) (g := mkF m pc L (.int j :: .ref a :: st)) rfl rfl (hb C.2.1 hd) _ h1, h2⟩
theorem aaload (C : Ctx p s m meth c Z own nm B ml rt) {ty : FieldType} {vs : List Value} {a : Addr} {j : Int32} {v : Value} (hd : decode B pc = .ok (.aaload, 1)) (hq : pc + 1 = q) (hμ : μ a = some (.inr (ty, vs))) (hr : ty.isReference = true) (h0 : ¬ j < 0) (hv : vs[j.toNatClampNeg]? = some v) (k' : Go p l e R s m args below meth c Z n0 P kc ks μ k n (mkF m q L (v :: st))) : Go p l e R s m args below meth c Z n0 P kc ks μ k n (mkF m pc L (.int j :: .ref a :: st)) := by
  subst hq
  intro T locs X F H
  obtain ⟨cl, A, e1, -⟩ := H.2 a _ hμ
  obtain ⟨s2, o, h1, h2⟩ := k' T _ X F H
  exact ⟨s2, o, X.aaload C.1 A.1 (State.isArrayOf_alike C.2.2.2.1.alike A.2.1) hr A.2.2 (inb e1 h0 (List.getElem?_eq_some_iff.mp hv).1) (atL e1 hv) (g := mkF m pc L (.int j :: .ref a :: st)) rfl rfl (hb C.2.1 hd) _ h1, h2⟩
theorem iastore (C : Ctx p s m meth c Z own nm B ml rt) {vs : List Value} {a : Addr} {j : Int32} {x : Int32} (hd : decode B pc = .ok (.iastore, 1)) (hq : pc + 1 = q) (hμ : μ a = some (.inr (.int, vs))) (h0 : ¬ j < 0) (hj : j.toNatClampNeg < vs.length) (ha : n0 ≤ a) (k' : Go p l e R s m args below meth c Z n0 P kc ks (upd μ a (.inr (.int, vs.set j.toNatClampNeg (.int x)))) k n (mkF m q L st)) : Go p l e R s m args below meth c Z n0 P kc ks μ k n (mkF m pc L ((.int x) :: .int j :: .ref a :: st)) := by
  subst hq
  intro T locs X F H
  have I := H.2 a _ hμ
  obtain ⟨cl, A, e1, -⟩ := id I
  obtain ⟨T', h', X', e', W, stp⟩ := stI X C.1 C.2.2.2.1 rfl A (inb e1 h0 hj) (g := mkF m pc L ((.int x) :: .int j :: .ref a :: st)) rfl rfl (hb C.2.1 hd)
  obtain ⟨s2, o, h1, h2⟩ := k' T' _ X' (Fr.snoc X' F ha) (by rw [e']; exact H.wr W ha (IsA.put I rfl W))
  exact ⟨s2, o, stp _ h1, h2⟩
theorem lastore (C : Ctx p s m meth c Z own nm B ml rt) {vs : List Value} {a : Addr} {j : Int32} {x : Int64} (hd : decode B pc = .ok (.lastore, 1)) (hq : pc + 1 = q) (hμ : μ a = some (.inr (.long, vs))) (h0 : ¬ j < 0) (hj : j.toNatClampNeg < vs.length) (ha : n0 ≤ a) (k' : Go p l e R s m args below meth c Z n0 P kc ks (upd μ a (.inr (.long, vs.set j.toNatClampNeg (.long x)))) k n (mkF m q L st)) : Go p l e R s m args below meth c Z n0 P kc ks μ k n (mkF m pc L ((.long x) :: .int j :: .ref a :: st)) := by
  subst hq
  intro T locs X F H
  have I := H.2 a _ hμ
  obtain ⟨cl, A, e1, -⟩ := id I
  obtain ⟨T', h', X', e', W, stp⟩ := stJ X C.1 C.2.2.2.1 rfl A (inb e1 h0 hj) (g := mkF m pc L ((.long x) :: .int j :: .ref a :: st)) rfl rfl (hb C.2.1 hd)
  obtain ⟨s2, o, h1, h2⟩ := k' T' _ X' (Fr.snoc X' F ha) (by rw [e']; exact H.wr W ha (IsA.put I rfl W))
  exact ⟨s2, o, stp _ h1, h2⟩
theorem castore (C : Ctx p s m meth c Z own nm B ml rt) {vs : List Value} {a : Addr} {j : Int32} {x : Int32} (hd : decode B pc = .ok (.castore, 1)) (hq : pc + 1 = q) (hμ : μ a = some (.inr (.char, vs))) (h0 : ¬ j < 0) (hj : j.toNatClampNeg < vs.length) (ha : n0 ≤ a) (k' : Go p l e R s m args below meth c Z n0 P kc ks (upd μ a (.inr (.char, vs.set j.toNatClampNeg (.int (nar .char x))))) k n (mkF m q L st)) : Go p l e R s m args below meth c Z n0 P kc ks μ k n (mkF m pc L ((.int x) :: .int j :: .ref a :: st)) := by
  subst hq
  intro T locs X F H
  have I := H.2 a _ hμ
  obtain ⟨cl, A, e1, -⟩ := id I
  obtain ⟨T', h', X', e', W, stp⟩ := stC X C.1 C.2.2.2.1 rfl A (inb e1 h0 hj) (g := mkF m pc L ((.int x) :: .int j :: .ref a :: st)) rfl rfl (hb C.2.1 hd)
  obtain ⟨s2, o, h1, h2⟩ := k' T' _ X' (Fr.snoc X' F ha) (by rw [e']; exact H.wr W ha (IsA.put I (fits_nar_char _) W))
  exact ⟨s2, o, stp _ h1, h2⟩
theorem bastore (C : Ctx p s m meth c Z own nm B ml rt) {vs : List Value} {a : Addr} {j : Int32} {x : Int32} (hd : decode B pc = .ok (.bastore, 1)) (hq : pc + 1 = q) (hμ : μ a = some (.inr (.byte, vs))) (h0 : ¬ j < 0) (hj : j.toNatClampNeg < vs.length) (ha : n0 ≤ a) (k' : Go p l e R s m args below meth c Z n0 P kc ks (upd μ a (.inr (.byte, vs.set j.toNatClampNeg (.int x.toInt8.toInt32)))) k n (mkF m q L st)) : Go p l e R s m args below meth c Z n0 P kc ks μ k n (mkF m pc L ((.int x) :: .int j :: .ref a :: st)) := by
  subst hq
  intro T locs X F H
  have I := H.2 a _ hμ
  obtain ⟨cl, A, e1, -⟩ := id I
  obtain ⟨T', h', X', e', W, stp⟩ := stB X C.1 C.2.2.2.1 rfl A (inb e1 h0 hj) (g := mkF m pc L ((.int x) :: .int j :: .ref a :: st)) rfl rfl (hb C.2.1 hd)
  obtain ⟨s2, o, h1, h2⟩ := k' T' _ X' (Fr.snoc X' F ha) (by rw [e']; exact H.wr W ha (IsA.put I (fits_nar_byte _) W))
  exact ⟨s2, o, stp _ h1, h2⟩
theorem zastore (C : Ctx p s m meth c Z own nm B ml rt) {vs : List Value} {a : Addr} {j : Int32} {x : Int32} (hd : decode B pc = .ok (.bastore, 1)) (hq : pc + 1 = q) (hμ : μ a = some (.inr (.boolean, vs))) (h0 : ¬ j < 0) (hj : j.toNatClampNeg < vs.length) (ha : n0 ≤ a) (k' : Go p l e R s m args below meth c Z n0 P kc ks (upd μ a (.inr (.boolean, vs.set j.toNatClampNeg (.int (nar .boolean x))))) k n (mkF m q L st)) : Go p l e R s m args below meth c Z n0 P kc ks μ k n (mkF m pc L ((.int x) :: .int j :: .ref a :: st)) := by
  subst hq
  intro T locs X F H
  have I := H.2 a _ hμ
  obtain ⟨cl, A, e1, -⟩ := id I
  obtain ⟨T', h', X', e', W, stp⟩ := stZ X C.1 C.2.2.2.1 rfl A (inb e1 h0 hj) (g := mkF m pc L ((.int x) :: .int j :: .ref a :: st)) rfl rfl (hb C.2.1 hd)
  obtain ⟨s2, o, h1, h2⟩ := k' T' _ X' (Fr.snoc X' F ha) (by rw [e']; exact H.wr W ha (IsA.put I (fits_nar_bool _) W))
  exact ⟨s2, o, stp _ h1, h2⟩
theorem aastore (C : Ctx p s m meth c Z own nm B ml rt) {K : String} {vs : List Value} {a : Addr} {j : Int32} {v : Value} (hd : decode B pc = .ok (.aastore, 1)) (hq : pc + 1 = q) (hμ : μ a = some (.inr (.object K, vs))) (hv : v = .null ∨ ∃ b, v = .ref b ∧ ∀ h, Hp Z n0 μ h → Ins Z h b K true) (h0 : ¬ j < 0) (hj : j.toNatClampNeg < vs.length) (ha : n0 ≤ a) (k' : Go p l e R s m args below meth c Z n0 P kc ks (upd μ a (.inr (.object K, vs.set j.toNatClampNeg v))) k n (mkF m q L st)) : Go p l e R s m args below meth c Z n0 P kc ks μ k n (mkF m pc L (v :: .int j :: .ref a :: st)) := by
  subst hq
  intro T locs X F H
  have I := H.2 a _ hμ
  obtain ⟨cl, A, e1, -, -, O⟩ := id I
  have S : Sto Z T.heap a v := by
    rcases hv with rfl | ⟨b, rfl, hb⟩
    · exact Or.inl rfl
    · exact Sto.of A (O ha K rfl) (hb _ H)
  have hf : fits (.object K) v = true := by
    rcases hv with rfl | ⟨b, rfl, -⟩ <;> rfl
  obtain ⟨T', h', X', e', W, stp⟩ := stR X C.1 C.2.2.2.1 rfl A (inb e1 h0 hj) rfl S (g := mkF m pc L (v :: .int j :: .ref a :: st)) rfl rfl (hb C.2.1 hd)
  obtain ⟨s2, o, h1, h2⟩ := k' T' _ X' (Fr.snoc X' F ha) (by rw [e']; exact H.wr W ha (IsA.put I hf W))
  exact ⟨s2, o, stp _ h1, h2⟩
/-! returns -/
theorem ireturn (C : Ctx p s m meth c Z own nm B ml (some .int)) {z : Int32} (hd : decode B pc = .ok (.ireturn, 1)) (hk : k ≤ kc) (hn : n ≤ ks) (h : P (some (.int z)) μ) : Go p l e R s m args below meth c Z n0 P kc ks μ k n (mkF m pc L (.int z :: st)) := fun T locs X F H => by
  obtain ⟨fs, hr, hrun, hended, hW, hsame⟩ := X.leave (v := some (.int z)) (fun h => by rw [C.2.2.2.2.2.1] at h; cases h) C.2.2.2.2.2.2.1
  exact ⟨_, _, retOut X C.1 C.2.2.2.2.2.1 rfl (Or.inl ⟨rfl, Or.inl rfl, z, rfl⟩) (hb C.2.1 hd) hr, hrun, hended, _, _, rfl, ⟨F, μ, H, h⟩, ⟨_, rfl⟩, hW, hsame.mono hk hn⟩
theorem nreturn {t : FieldType} (C : Ctx p s m meth c Z own nm B ml (some t)) {z z' : Int32} (hd : decode B pc = .ok (.ireturn, 1)) (ht : t = .boolean ∨ t = .byte ∨ t = .char ∨ t = .short) (hz : nar t z = z') (hk : k ≤ kc) (hn : n ≤ ks) (h : P (some (.int z')) μ) : Go p l e R s m args below meth c Z n0 P kc ks μ k n (mkF m pc L (.int z :: st)) := fun T locs X F H => by
  subst hz
  obtain ⟨fs, hr, hrun, hended, hW, hsame⟩ := X.leave (v := some (.int (nar t z))) (fun h => by rw [C.2.2.2.2.2.1] at h; cases h) C.2.2.2.2.2.2.1
  exact ⟨_, _, retN X C.1 C.2.2.2.2.2.1 ht (hb C.2.1 hd) hr, hrun, hended, _, _, rfl, ⟨F, μ, H, h⟩, ⟨_, rfl⟩, hW, hsame.mono hk hn⟩
theorem lreturn (C : Ctx p s m meth c Z own nm B ml (some .long)) {z : Int64} (hd : decode B pc = .ok (.lreturn, 1)) (hk : k ≤ kc) (hn : n ≤ ks) (h : P (some (.long z)) μ) : Go p l e R s m args below meth c Z n0 P kc ks μ k n (mkF m pc L (.long z :: st)) := fun T locs X F H => by
  obtain ⟨fs, hr, hrun, hended, hW, hsame⟩ := X.leave (v := some (.long z)) (fun h => by rw [C.2.2.2.2.2.1] at h; cases h) C.2.2.2.2.2.2.1
  exact ⟨_, _, retOut X C.1 C.2.2.2.2.2.1 rfl (Or.inr (Or.inl ⟨rfl, rfl, z, rfl⟩)) (hb C.2.1 hd) hr, hrun, hended, _, _, rfl, ⟨F, μ, H, h⟩, ⟨_, rfl⟩, hW, hsame.mono hk hn⟩
theorem nref {t : FieldType} {v : Value} (h1 : t.isReference = true) (h2 : v.isRef = true) : narrow t v = v := by
  cases t <;> first | (cases h1; done) | rfl
theorem areturn {t : FieldType} (C : Ctx p s m meth c Z own nm B ml (some t)) {v : Value} (ht : t.isReference = true) (hv : v.isRef = true) (hd : decode B pc = .ok (.areturn, 1)) (hk : k ≤ kc) (hn : n ≤ ks) (h : P (some v) μ) : Go p l e R s m args below meth c Z n0 P kc ks μ k n (mkF m pc L (v :: st)) := fun T locs X F H => by
  obtain ⟨fs, hr, hrun, hended, hW, hsame⟩ := X.leave (v := some v) (fun h => by rw [C.2.2.2.2.2.1] at h; cases h) C.2.2.2.2.2.2.1
  exact ⟨_, _, retOut X C.1 C.2.2.2.2.2.1 (nref ht hv) (Or.inr (Or.inr (Or.inr (Or.inr ⟨rfl, ht, hv⟩)))) (hb C.2.1 hd) hr, hrun, hended, _, _, rfl, ⟨F, μ, H, h⟩, ⟨_, rfl⟩, hW, hsame.mono hk hn⟩
theorem vreturn (C : Ctx p s m meth c Z own nm B ml none) (hd : decode B pc = .ok (.return_, 1)) (hk : k ≤ kc) (hn : n ≤ ks) (h : P none μ) : Go p l e R s m args below meth c Z n0 P kc ks μ k n (mkF m pc L []) := fun T locs X F H => by
  obtain ⟨fs, hr, hrun, hended, hW, hsame⟩ := X.leave (v := none) (fun _ => rfl) C.2.2.2.2.2.2.1
  exact ⟨_, _, X.returnOut C.1 C.2.2.2.2.2.1 (hb C.2.1 hd) hr, hrun, hended, _, _, rfl, ⟨F, μ, H, h⟩, ⟨_, rfl⟩, hW, hsame.mono hk hn⟩
/-! what a callee leaves, by the kind of its return -/
def RV (Q : Mem → Prop) : Option Value → Mem → Prop := fun v μ => v = none ∧ Q μ
def RI (Q : Int32 → Mem → Prop) : Option Value → Mem → Prop := fun v μ => ∃ z, v = some (.int z) ∧ Q z μ
def RJ (Q : Int64 → Mem → Prop) : Option Value → Mem → Prop := fun v μ => ∃ z, v = some (.long z) ∧ Q z μ
def RR (Q : Value → Mem → Prop) : Option Value → Mem → Prop := fun v μ => ∃ z : Value, v = some z ∧ z.isRef = true ∧ Q z μ
section Nx
variable {k2 n2 : Nat}
theorem nxV {Q : Mem → Prop} (h : ∀ μ', Q μ' → Go p l e R s m args below meth c Z n0 P kc ks μ' k2 n2 (mkF m q L st)) : ∀ v μ', RV Q v μ' → Go p l e R s m args below meth c Z n0 P kc ks μ' k2 n2 (mkF m q L (v.toList ++ st)) := fun v μ' ⟨e1, e2⟩ => by subst e1; exact h μ' e2
theorem nxI {Q : Int32 → Mem → Prop} (h : ∀ z μ', Q z μ' → Go p l e R s m args below meth c Z n0 P kc ks μ' k2 n2 (mkF m q L (.int z :: st))) : ∀ v μ', RI Q v μ' → Go p l e R s m args below meth c Z n0 P kc ks μ' k2 n2 (mkF m q L (v.toList ++ st)) := fun v μ' ⟨z, e1, e2⟩ => by subst e1; exact h z μ' e2
theorem nxJ {Q : Int64 → Mem → Prop} (h : ∀ z μ', Q z μ' → Go p l e R s m args below meth c Z n0 P kc ks μ' k2 n2 (mkF m q L (.long z :: st))) : ∀ v μ', RJ Q v μ' → Go p l e R s m args below meth c Z n0 P kc ks μ' k2 n2 (mkF m q L (v.toList ++ st)) := fun v μ' ⟨z, e1, e2⟩ => by subst e1; exact h z μ' e2
theorem nxR {Q : Value → Mem → Prop} (h : ∀ z μ', z.isRef = true → Q z μ' → Go p l e R s m args below meth c Z n0 P kc ks μ' k2 n2 (mkF m q L (z :: st))) : ∀ v μ', RR Q v μ' → Go p l e R s m args below meth c Z n0 P kc ks μ' k2 n2 (mkF m q L (v.toList ++ st)) := fun v μ' ⟨z, e1, e2, e3⟩ => by subst e1; exact h z μ' e2 e3
end Nx
/-! calls by contract -/
theorem backs {y : MethodName} {B' : ByteArray} {ml' : Nat} {rt' : Option FieldType} {rm : Room} {len W : Nat} {as' : Array Value} {P' : Option Value → Mem → Prop} {h : Heap}
    (con : Con l Z n0 y B' ml' rt' [] rm rm.cells rm.slots as' μ P') (H : Hp Z n0 μ h) (hZ : Z.Warmed39 s.vm) (wc : (Cond.code y B' ml' rt').before a0 Z = true) (wz : (Cond.initialized y.cls).before a0 Z = true) (hf : rm.frames + 1 ≤ R.frames) (hl : W + (ml' + 11) + rm.locals ≤ R.locals) :
    Back l R p e below s args y len W (fun A a => a = as' ∧ A.U.heap = h ∧ A.cells + rm.cells ≤ R.cells ∧ A.slots + rm.slots ≤ R.slots)
      (fun A _ v B => ∃ L, (Fr n0 L ∧ ∃ μ', Hp Z n0 μ' B.U.heap ∧ P' v μ') ∧ B.locs = A.locs ++ L ∧ B.cells = A.cells + rm.cells ∧ B.slots = A.slots + rm.slots) :=
  backOf (Q := fun v h' L => Fr n0 L ∧ ∃ μ', Hp Z n0 μ' h' ∧ P' v μ') (con h H) hZ wc wz hf hl
theorem callS (C : Ctx p s m meth c Z own nm B ml rt) {i : Nat} {y : MethodName} {B' : ByteArray} {ml' : Nat} {rt' : Option FieldType} {rm : Room} {W : Nat} {argsL : List Value} {P' : Option Value → Mem → Prop} {S : List Value} (hd : decode B pc = .ok (.invokestatic i, 3)) (hq : pc + 3 = q)
    (w1 : (Cond.methodLink own i y).before a0 Z = true) (w2 : (Cond.static y).before a0 Z = true) (w3 : (Cond.initialized y.cls).before a0 Z = true) (w4 : (Cond.code y B' ml' rt').before a0 Z = true) (hy : y.cls ≠ "java/lang/invoke/MethodHandle" ∧ y.cls ≠ "java/lang/invoke/VarHandle")
    (hlen : ∀ sig, parseMethodDescriptor y.desc = some sig → argsL.length = sig.parameters.length) (hS : S = argsL.reverse ++ st) (hsz : L.size = ml) (hW : 2 * 0 + (st.map fun v => v.category).sum ≤ W) (hf : rm.frames + 1 ≤ R.frames) (hl : W + (ml' + 11) + rm.locals ≤ R.locals) (hc : k + rm.cells ≤ R.cells) (hs : n + rm.slots ≤ R.slots)
    (con : Con l Z n0 y B' ml' rt' [] rm rm.cells rm.slots argsL.toArray μ P')
    (k' : ∀ v μ', P' v μ' → Go p l e R s m args below meth c Z n0 P kc ks μ' (k + rm.cells) (n + rm.slots) (mkF m q L (v.toList ++ st))) : Go p l e R s m args below meth c Z n0 P kc ks μ k n (mkF m pc L S) := by
  subst hq
  intro T locs X F H
  obtain ⟨v, vm1, ⟨T', L', k2, n2⟩, -, X', ⟨Lc, ⟨N, μ', H', hP⟩, e1, e2, e3⟩, stp⟩ := Jvm.LawKit.callS X C.1 (y := y) C.2.2.2.2.1 (mvT C.2.2.2.1 w1) (mvT C.2.2.2.1 w2) (mvT C.2.2.2.1 w3) (mvT C.2.2.2.1 w4) hy (backs (W := W) con H C.2.2.2.1 w4 w3 hf hl) (g := mkF m pc L S) rfl (hsz.trans C.2.2.1.symm) (argsL := argsL) (rest := st) hlen hS hW (hb C.2.1 hd) (fun _ _ => ⟨rfl, rfl, hc, hs⟩)
  dsimp only [Pt.U, Pt.locs, Pt.cells, Pt.slots] at X' e1 e2 e3 stp H'
  subst e1 e2 e3
  obtain ⟨s2, o, h1, h2⟩ := k' v μ' hP T' _ X' (F.app N) H'
  exact ⟨s2, o, stp _ h1, h2⟩
theorem callI (C : Ctx p s m meth c Z own nm B ml rt) {i : Nat} {y : MethodName} {B' : ByteArray} {ml' : Nat} {rm : Room} {W : Nat} {argsL : List Value} {P' : Option Value → Mem → Prop} {S : List Value} {a : Addr} (hd : decode B pc = .ok (.invokespecial i, 3)) (hq : pc + 3 = q) (hnm : y.name = "<init>")
    (w1 : (Cond.methodLink own i y).before a0 Z = true) (w2 : (Cond.instanceMethod y).before a0 Z = true) (w3 : (Cond.initialized y.cls).before a0 Z = true) (w4 : (Cond.code y B' ml' none).before a0 Z = true) (hy : y.cls ≠ "java/lang/invoke/MethodHandle" ∧ y.cls ≠ "java/lang/invoke/VarHandle")
    (hlen : ∀ sig, parseMethodDescriptor y.desc = some sig → argsL.length = sig.parameters.length) (hS : S = argsL.reverse ++ .ref a :: st) (hsz : L.size = ml) (hW : 2 * 0 + (st.map fun v => v.category).sum ≤ W) (hf : rm.frames + 1 ≤ R.frames) (hl : W + (ml' + 11) + rm.locals ≤ R.locals) (hc : k + rm.cells ≤ R.cells) (hs : n + rm.slots ≤ R.slots)
    (con : Con l Z n0 y B' ml' none [] rm rm.cells rm.slots (.ref a :: argsL).toArray μ P')
    (k' : ∀ v μ', P' v μ' → Go p l e R s m args below meth c Z n0 P kc ks μ' (k + rm.cells) (n + rm.slots) (mkF m q L (v.toList ++ st))) : Go p l e R s m args below meth c Z n0 P kc ks μ k n (mkF m pc L S) := by
  subst hq
  intro T locs X F H
  obtain ⟨v, vm1, ⟨T', L', k2, n2⟩, -, X', ⟨Lc, ⟨N, μ', H', hP⟩, e1, e2, e3⟩, stp⟩ := X.specialBack C.1 (y := y) hnm C.2.2.2.2.1 (mvT C.2.2.2.1 w1) (mvT C.2.2.2.1 w2) (mvT C.2.2.2.1 w4) hy (backs (W := W) con H C.2.2.2.1 w4 w3 hf hl) (g := mkF m pc L S) rfl (hsz.trans C.2.2.1.symm) (Steps.refl _) (a := a) (argsL := argsL) (rest := st) hlen hS hW (hb C.2.1 hd) (fun _ _ => ⟨rfl, rfl, hc, hs⟩)
  dsimp only [Pt.U, Pt.locs, Pt.cells, Pt.slots] at X' e1 e2 e3 stp H'
  subst e1 e2 e3
  obtain ⟨s2, o, h1, h2⟩ := k' v μ' hP T' _ X' (F.app N) H'
  exact ⟨s2, o, stp.trans h1, h2⟩
theorem initObj (C : Ctx p s m meth c Z own nm B ml rt) {i W : Nat} {a : Addr} (hd : decode B pc = .ok (.invokespecial i, 3)) (hq : pc + 3 = q) (w1 : (Cond.methodLink own i Lib.objectInit).before a0 Z = true) (w2 : (Cond.instanceMethod Lib.objectInit).before a0 Z = true) (w3 : (Cond.code Lib.objectInit ⟨#[0xb1]⟩ 1 none).before a0 Z = true)
    (hsz : L.size = ml) (hf : 1 ≤ R.frames) (hW : 2 * 0 + (st.map fun v => v.category).sum ≤ W) (hl : W + 12 ≤ R.locals) (k' : Go p l e R s m args below meth c Z n0 P kc ks μ k n (mkF m q L st)) : Go p l e R s m args below meth c Z n0 P kc ks μ k n (mkF m pc L (.ref a :: st)) := by
  subst hq
  exact Go.stand k' fun T locs X H => initO X C.1 C.2.2.2.1 C.2.2.2.2.1 w1 w2 w3 rfl (g := mkF m pc L (.ref a :: st)) rfl (hsz.trans C.2.2.1.symm) rfl (hb C.2.1 hd) hf hW hl
theorem callV (C : Ctx p s m meth c Z own nm B ml rt) {i : Nat} {y z : MethodName} {K : String} {fs : List (Key × Value)} {B' : ByteArray} {ml' : Nat} {rt' : Option FieldType} {rm : Room} {W : Nat} {argsL : List Value} {P' : Option Value → Mem → Prop} {S : List Value} {a : Addr} (hd : decode B pc = .ok (.invokevirtual i, 3)) (hq : pc + 3 = q)
    (w1 : (Cond.methodLink own i y).before a0 Z = true) (w2 : (Cond.declares y).before a0 Z = true) (hnf : NotFace s y) (w5 : (Cond.selects K y z).before a0 Z = true) (w6 : (Cond.instanceMethod z).before a0 Z = true) (w3 : (Cond.initialized z.cls).before a0 Z = true) (w4 : (Cond.code z B' ml' rt').before a0 Z = true) (hy : y.cls ≠ "java/lang/invoke/MethodHandle" ∧ y.cls ≠ "java/lang/invoke/VarHandle")
    (hlen : ∀ sig, parseMethodDescriptor y.desc = some sig → argsL.length = sig.parameters.length) (hS : S = argsL.reverse ++ .ref a :: st) (hsz : L.size = ml) (hW : 2 * 0 + (st.map fun v => v.category).sum ≤ W) (hf : rm.frames + 1 ≤ R.frames) (hl : W + (ml' + 11) + rm.locals ≤ R.locals) (hc : k + rm.cells ≤ R.cells) (hs : n + rm.slots ≤ R.slots)
    (hμ : μ a = some (.inl (K, fs))) (con : Con l Z n0 z B' ml' rt' [] rm rm.cells rm.slots (.ref a :: argsL).toArray μ P')
    (k' : ∀ v μ', P' v μ' → Go p l e R s m args below meth c Z n0 P kc ks μ' (k + rm.cells) (n + rm.slots) (mkF m q L (v.toList ++ st))) : Go p l e R s m args below meth c Z n0 P kc ks μ k n (mkF m pc L S) := by
  subst hq
  intro T locs X F H
  obtain ⟨cq, kq, qa, qb, qc⟩ := isOf (T := T) C.2.2.2.1 rfl (H.2 a _ hμ).1
  obtain ⟨v, vm1, ⟨T', L', k2, n2⟩, -, X', ⟨Lc, ⟨N, μ', H', hP⟩, e1, e2, e3⟩, stp⟩ := X.virtualBack C.1 (y := y) (z := z) C.2.2.2.2.1 (mvT C.2.2.2.1 w1) (mvT C.2.2.2.1 w2) hnf (mvT C.2.2.2.1 w5) (mvT C.2.2.2.1 w6) hy (backs (W := W) con H C.2.2.2.1 w4 w3 hf hl) qa qc (g := mkF m pc L S) rfl (hsz.trans C.2.2.1.symm) (Steps.refl _) (argsL := argsL) (rest := st) hlen hS hW (hb C.2.1 hd) (fun _ _ => ⟨rfl, rfl, hc, hs⟩)
  dsimp only [Pt.U, Pt.locs, Pt.cells, Pt.slots] at X' e1 e2 e3 stp H'
  subst e1 e2 e3
  obtain ⟨s2, o, h1, h2⟩ := k' v μ' hP T' _ X' (F.app N) H'
  exact ⟨s2, o, stp.trans h1, h2⟩
theorem callP (C : Ctx p s m meth c Z own nm B ml rt) {i : Nat} {y : MethodName} {K : String} {fs : List (Key × Value)} {B' : ByteArray} {ml' : Nat} {rt' : Option FieldType} {rm : Room} {W : Nat} {argsL : List Value} {P' : Option Value → Mem → Prop} {S : List Value} {a : Addr} (hd : decode B pc = .ok (.invokevirtual i, 3)) (hq : pc + 3 = q)
    (w1 : (Cond.methodLink own i y).before a0 Z = true) (w2 : (Cond.privateMethod y).before a0 Z = true) {kk : Nat} (w5 : (Cond.instantiable y.cls kk).before a0 Z = true) (w6 : (Cond.instanceMethod y).before a0 Z = true) (w3 : (Cond.initialized y.cls).before a0 Z = true) (w4 : (Cond.code y B' ml' rt').before a0 Z = true) (hy : y.cls ≠ "java/lang/invoke/MethodHandle" ∧ y.cls ≠ "java/lang/invoke/VarHandle")
    (hlen : ∀ sig, parseMethodDescriptor y.desc = some sig → argsL.length = sig.parameters.length) (hS : S = argsL.reverse ++ .ref a :: st) (hsz : L.size = ml) (hW : 2 * 0 + (st.map fun v => v.category).sum ≤ W) (hf : rm.frames + 1 ≤ R.frames) (hl : W + (ml' + 11) + rm.locals ≤ R.locals) (hc : k + rm.cells ≤ R.cells) (hs : n + rm.slots ≤ R.slots)
    (hμ : μ a = some (.inl (K, fs))) (con : Con l Z n0 y B' ml' rt' [] rm rm.cells rm.slots (.ref a :: argsL).toArray μ P')
    (k' : ∀ v μ', P' v μ' → Go p l e R s m args below meth c Z n0 P kc ks μ' (k + rm.cells) (n + rm.slots) (mkF m q L (v.toList ++ st))) : Go p l e R s m args below meth c Z n0 P kc ks μ k n (mkF m pc L S) := by
  subst hq
  intro T locs X F H
  obtain ⟨cq, q1, q2⟩ := (H.2 a _ hμ).1.cell
  have hp : s.PrivateAt y := Cond.privateMethod_at (mvP C.2.2.2.1 w2 (args := #[]))
  obtain ⟨c2, k2, i1, i2, -, i4, -⟩ := Cond.instantiable_spec (show (Cond.instantiable y.cls kk).before args s = true from mvT C.2.2.2.1 w5)
  have h5 : (Cond.selects y.cls y y).before args s = true := Jvm.Stand.selects_self_of_private i1 i2 (by simp only [Bool.or_eq_false_iff] at i4; exact i4.1) hp (mvT C.2.2.2.1 w6) hy
  obtain ⟨v, vm1, ⟨T', L', k2, n2⟩, -, X', ⟨Lc, ⟨N, μ', H', hP⟩, e1, e2, e3⟩, stp⟩ := X.privateBack C.1 (y := y) C.2.2.2.2.1 (mvT C.2.2.2.1 w1) (mvT C.2.2.2.1 w6) h5 hp (mvT C.2.2.2.1 w4) hy (backs (W := W) con H C.2.2.2.1 w4 w3 hf hl) (g := mkF m pc L S) rfl (hsz.trans C.2.2.1.symm) (Steps.refl _) (a := a) q1 q2 (argsL := argsL) (rest := st) hlen hS hW (hb C.2.1 hd) (fun _ _ => ⟨rfl, rfl, hc, hs⟩)
  dsimp only [Pt.U, Pt.locs, Pt.cells, Pt.slots] at X' e1 e2 e3 stp H'
  subst e1 e2 e3
  obtain ⟨s2, o, h1, h2⟩ := k' v μ' hP T' _ X' (F.app N) H'
  exact ⟨s2, o, stp.trans h1, h2⟩
end Rules
end Jvm.Own
namespace Jvm.Pilot.@@N@@
open Jvm Jvm.ClassFile Sem Op Lib Jvm.Free Jvm.Stand Jvm.LawKit Jvm.RoadKit Bundle Jvm.Own Jvm.Pilot.@@N@@.Jvm.D
abbrev o_VN (v0 : Value) (v1 : Value) (v2 : Value) (v3 : Value) (v4 : Value) (v5 : Value) (v6 : Value) : Obj := .inl ("com/example/parcours/parcours/search/ValueNumbers", [(("com/example/parcours/parcours/search/ValueNumbers", "values", "[I"), v0), (("com/example/parcours/parcours/search/ValueNumbers", "places", "[I"), v1), (("com/example/parcours/parcours/search/ValueNumbers", "slots", "[J"), v2), (("com/example/parcours/parcours/search/ValueNumbers", "slotOf", "[I"), v3), (("com/example/parcours/parcours/search/ValueNumbers", "count", "I"), v4), (("com/example/parcours/parcours/search/ValueNumbers", "byPlace", "Z"), v5), (("com/example/parcours/parcours/search/ValueNumbers", "least", "I"), v6)])
theorem lay_VN {Z : State} {a0 : Array Value} (hw : ∀ d ∈ tables_1, d.before a0 Z = true) : AllLaid Z a0 "com/example/parcours/parcours/search/ValueNumbers" [(("com/example/parcours/parcours/search/ValueNumbers", "values", "[I"), .null), (("com/example/parcours/parcours/search/ValueNumbers", "places", "[I"), .null), (("com/example/parcours/parcours/search/ValueNumbers", "slots", "[J"), .null), (("com/example/parcours/parcours/search/ValueNumbers", "slotOf", "[I"), .null), (("com/example/parcours/parcours/search/ValueNumbers", "count", "I"), (.int (0 : Int32))), (("com/example/parcours/parcours/search/ValueNumbers", "byPlace", "Z"), (.int (0 : Int32))), (("com/example/parcours/parcours/search/ValueNumbers", "least", "I"), (.int (0 : Int32)))] := ⟨⟨(.array .int), Or.inl (hw _ (List.mem_of_getElem? (i := 22) rfl)), by decide +kernel, rfl⟩, ⟨(.array .int), Or.inl (hw _ (List.mem_of_getElem? (i := 24) rfl)), by decide +kernel, rfl⟩, ⟨(.array .long), Or.inl (hw _ (List.mem_of_getElem? (i := 27) rfl)), by decide +kernel, rfl⟩, ⟨(.array .int), Or.inl (hw _ (List.mem_of_getElem? (i := 29) rfl)), by decide +kernel, rfl⟩, ⟨.int, Or.inl (hw _ (List.mem_of_getElem? (i := 36) rfl)), by decide +kernel, rfl⟩, ⟨.boolean, Or.inl (hw _ (List.mem_of_getElem? (i := 38) rfl)), by decide +kernel, rfl⟩, ⟨.int, Or.inl (hw _ (List.mem_of_getElem? (i := 40) rfl)), by decide +kernel, rfl⟩, trivial⟩
def ar (n : Nat) (f : Nat → Int32) : List Value := (List.range n).map fun i => Value.int (f i)
theorem ar_len (n : Nat) (f : Nat → Int32) : (ar n f).length = n := by simp [ar]
theorem ar_get {n i : Nat} (f : Nat → Int32) (h : i < n) : (ar n f)[i]? = some (.int (f i)) := by simp [ar, h]
theorem ar_set {n j : Nat} (f : Nat → Int32) (v : Int32) : (ar n f).set j (.int v) = ar n (fun i => if i = j then v else f i) := by
  apply List.ext_getElem?
  intro i
  by_cases hi : i < n
  · rw [ar_get _ hi, List.getElem?_set]
    by_cases e : j = i
    · subst e; simp [ar_len, hi]
    · rw [if_neg e, ar_get _ hi, if_neg (fun q => e q.symm)]
  · rw [List.getElem?_eq_none (by rw [List.length_set, ar_len]; omega), List.getElem?_eq_none (by rw [ar_len]; omega)]
theorem ar_zero (n : Nat) : List.replicate n (Value.int 0) = ar n (fun _ => 0) := by
  apply List.ext_getElem?; intro i
  by_cases hi : i < n
  · rw [ar_get _ hi]; simp [hi]
  · rw [List.getElem?_eq_none (by simp; omega), List.getElem?_eq_none (by rw [ar_len]; omega)]
def al (n : Nat) (f : Nat → Int64) : List Value := (List.range n).map fun i => Value.long (f i)
theorem al_len (n : Nat) (f : Nat → Int64) : (al n f).length = n := by simp [al]
theorem al_get {n i : Nat} (f : Nat → Int64) (h : i < n) : (al n f)[i]? = some (.long (f i)) := by simp [al, h]
theorem al_set {n j : Nat} (f : Nat → Int64) (v : Int64) : (al n f).set j (.long v) = al n (fun i => if i = j then v else f i) := by
  apply List.ext_getElem?
  intro i
  by_cases hi : i < n
  · rw [al_get _ hi, List.getElem?_set]
    by_cases e : j = i
    · subst e; simp [al_len, hi]
    · rw [if_neg e, al_get _ hi, if_neg (fun q => e q.symm)]
  · rw [List.getElem?_eq_none (by rw [List.length_set, al_len]; omega), List.getElem?_eq_none (by rw [al_len]; omega)]
theorem tn {x : Int32} {n : Nat} (h : x.toInt = n) : x.toNatClampNeg = n := by simp only [Int32.toNatClampNeg]; omega
theorem nneg {x : Int32} {n : Nat} (h : x.toInt = n) : ¬ x < 0 := by rw [Int32.lt_iff_toInt_lt, show (0 : Int32).toInt = 0 from rfl]; omega
theorem ne_ra {μ : Mem} {a b : Addr} {x : FieldType × List Value} {y : String × List (Key × Value)} (h1 : μ b = some (.inr x)) (h2 : μ a = some (.inl y)) : b ≠ a := fun e => by subst e; rw [h1] at h2; cases h2
def hi32 (e : Int64) : Int32 := (e.toUInt64 >>> ((32 : Int32) &&& 0x3f).toInt64.toUInt64).toInt64.toInt32
def Ent (e : Int64) (v : Int32) (i : Nat) : Prop := e.toInt32.toInt = i + 1 ∧ hi32 e = v
theorem Ent.nz {e : Int64} {v : Int32} {i : Nat} (h : Ent e v i) : e ≠ 0 := fun q => by
  have := h.1; rw [q, show (0 : Int64).toInt32.toInt = 0 from rfl] at this; omega
theorem ent_mk {v n z12 : Int32} {z6 z9 z13 z14 : Int64} {k : Nat} (hn : n.toInt = k) (hk : k < 8) (e6 : z6 = v.toInt64) (e9 : z9 = z6 <<< ((32 : Int32) &&& 0x3f).toInt64) (e12 : z12 = n + 1) (e13 : z13 = z12.toInt64) (e14 : z14 = z9 ||| z13) : Ent z14 v k := by
  subst e6
  have o12 := c_iadd n 1; rw [← e12] at o12; have r12 := rng32 z12; simp only [show (1 : Int32).toInt = 1 from rfl] at o12
  have h12 : z12.toInt = k + 1 := by omega
  have h13 : z13.toInt = k + 1 := by rw [e13, c_i2l, h12]
  have rv := rng32 v
  have o9 := c_lshl v.toInt64 32 32 (by decide); rw [← e9, c_i2l] at o9
  have o9 : (z9.toInt - v.toInt * 4294967296) % 18446744073709551616 = 0 := o9
  have r9 := rng64 z9
  have o14 := c_orL z9 z13 32 (by decide) 4294967296 rfl (by omega) (by omega) (by omega); rw [← e14] at o14
  have r14 := rng64 z14
  refine ⟨?_, ?_⟩
  · have q := c_l2i z14; have := rng32 z14.toInt32; omega
  · unfold hi32
    have q := c_lushr z14 32 32 (by decide) (by decide)
    have q : (z14.toUInt64 >>> ((32 : Int32) &&& 0x3f).toInt64.toUInt64).toInt64.toInt = z14.toInt % 18446744073709551616 / 4294967296 := q
    have q2 := c_l2i (z14.toUInt64 >>> ((32 : Int32) &&& 0x3f).toInt64.toUInt64).toInt64
    have := rng32 (z14.toUInt64 >>> ((32 : Int32) &&& 0x3f).toInt64.toUInt64).toInt64.toInt32
    exact Int32.toInt_inj.mp (by omega)
/-- entries n ≤ i < c stand, and nothing else -/
def Inv (n c : Nat) (b lo : Int32) (nV nP : Nat) (vf pf uf : Nat → Int32) (sf : Nat → Int64) : Prop :=
  (b ≠ 0 → (∀ t, t < 16 → sf t = 0) ∧ (∀ i, n ≤ i → i < c → ∃ d, d < nP ∧ (vf i - lo).toInt = (d : Nat) ∧ (pf d).toInt = i + 1) ∧ ∀ d, d < nP → pf d ≠ 0 → ∃ i, n ≤ i ∧ i < c ∧ (vf i - lo).toInt = (d : Nat)) ∧
  (b = 0 → (∀ d, d < nP → pf d = 0) ∧ (∀ i, n ≤ i → i < c → ∃ t, t < 16 ∧ (uf i).toInt = (t : Nat) ∧ Ent (sf t) (vf i) i) ∧ ∀ t, t < 16 → sf t ≠ 0 → ∃ i, n ≤ i ∧ i < c ∧ (uf i).toInt = (t : Nat))
section InvFacts
variable {n c : Nat} {b lo : Int32} {nV nP : Nat} {vf pf uf : Nat → Int32} {sf : Nat → Int64}
theorem Inv.none (h : Inv n c b lo nV nP vf pf uf sf) (hc : c ≤ n) : (∀ d, d < nP → pf d = 0) ∧ ∀ t, t < 16 → sf t = 0 := by
  by_cases hb : b = 0
  · refine ⟨(h.2 hb).1, fun t ht => Classical.byContradiction fun q => ?_⟩
    obtain ⟨i, h1, h2, -⟩ := (h.2 hb).2.2 t ht q; omega
  · refine ⟨fun d hd => Classical.byContradiction fun q => ?_, (h.1 hb).1⟩
    obtain ⟨i, h1, h2, -⟩ := (h.1 hb).2.2 d hd q; omega
theorem Inv.start (h : ∀ d, d < nP → pf d = 0) (h2 : ∀ t, t < 16 → sf t = 0) : Inv 0 0 b lo nV nP vf pf uf sf :=
  ⟨fun _ => ⟨h2, fun i _ q => absurd q (by omega), fun d hd q => absurd (h d hd) q⟩, fun _ => ⟨h, fun i _ q => absurd q (by omega), fun t ht q => absurd (h2 t ht) q⟩⟩
theorem Inv.place (h : Inv n c b lo nV nP vf pf uf sf) (hb : b ≠ 0) (hn : n < c) : ∃ d, d < nP ∧ (vf n - lo).toInt = (d : Nat) ∧ Inv (n + 1) c b lo nV nP vf (fun i => if i = d then 0 else pf i) uf sf := by
  obtain ⟨h1, h2, h3⟩ := h.1 hb
  obtain ⟨d, hd, ed, ep⟩ := h2 n (Nat.le_refl _) hn
  refine ⟨d, hd, ed, fun _ => ⟨h1, fun i hi hc => ?_, fun d' hd' hp => ?_⟩, fun q => absurd q hb⟩
  · obtain ⟨d', k1, k2, k3⟩ := h2 i (by omega) hc
    refine ⟨d', k1, k2, ?_⟩
    have hne : d' ≠ d := fun q => by subst q; omega
    show (if d' = d then (0 : Int32) else pf d').toInt = _
    rw [if_neg hne]; exact k3
  · by_cases e : d' = d
    · simp [e] at hp
    · simp only [if_neg e] at hp
      obtain ⟨i, k1, k2, k3⟩ := h3 d' hd' hp
      refine ⟨i, ?_, k2, k3⟩
      rcases Nat.lt_or_ge n i with q | q
      · omega
      · obtain rfl : i = n := by omega
        exfalso; apply e; omega
theorem Inv.slot (h : Inv n c b lo nV nP vf pf uf sf) (hb : b = 0) (hn : n < c) : ∃ t, t < 16 ∧ (uf n).toInt = (t : Nat) ∧ Inv (n + 1) c b lo nV nP vf pf uf (fun i => if i = t then 0 else sf i) := by
  obtain ⟨h1, h2, h3⟩ := h.2 hb
  obtain ⟨t, ht, et, ep⟩ := h2 n (Nat.le_refl _) hn
  refine ⟨t, ht, et, fun q => absurd hb q, fun _ => ⟨h1, fun i hi hc => ?_, fun t' ht' hp => ?_⟩⟩
  · obtain ⟨t', k1, k2, k3⟩ := h2 i (by omega) hc
    refine ⟨t', k1, k2, ?_⟩
    have hne : t' ≠ t := fun q => by subst q; have a := k3.1; have b := ep.1; omega
    show Ent (if t' = t then (0 : Int64) else sf t') _ _
    rw [if_neg hne]; exact k3
  · by_cases e : t' = t
    · simp [e] at hp
    · simp only [if_neg e] at hp
      obtain ⟨i, k1, k2, k3⟩ := h3 t' ht' hp
      refine ⟨i, ?_, k2, k3⟩
      rcases Nat.lt_or_ge n i with q | q
      · omega
      · obtain rfl : i = n := by omega
        exfalso; apply e; omega
def hx (x : Int32) : Int32 := (x * (-1640531527) ^^^ ((x * (-1640531527)).toUInt32 >>> ((16 : Int32) &&& 31).toUInt32).toInt32) &&& 15
def Hx (x : Int32) : Nat := (hx x).toInt.toNat
theorem hx_lt (x : Int32) : (hx x).toInt = Hx x ∧ Hx x < 16 := by
  have o := c_mask (x * (-1640531527) ^^^ ((x * (-1640531527)).toUInt32 >>> ((16 : Int32) &&& 31).toUInt32).toInt32) 15 4 (by decide) (by decide)
  have o : (hx x).toInt = (x * (-1640531527) ^^^ ((x * (-1640531527)).toUInt32 >>> ((16 : Int32) &&& 31).toUInt32).toInt32).toInt % 16 := o
  unfold Hx; omega
def Path (x : Int32) (sf : Nat → Int64) (m : Nat) : Prop := ∀ j, j < m → sf ((Hx x + j) % 16) ≠ 0 ∧ hi32 (sf ((Hx x + j) % 16)) ≠ x
def Reach (c : Nat) (vf uf : Nat → Int32) (sf : Nat → Int64) : Prop := ∀ i, i < c → ∃ m, (uf i).toInt = ((Hx (vf i) + m) % 16 : Nat) ∧ Path (vf i) sf m
theorem Inv.gap (h : Inv 0 c b lo nV nP vf pf uf sf) (hb : b = 0) (hc : c ≤ 2) (H : Nat) : ∃ M, M < 3 ∧ sf ((H + M) % 16) = 0 := by
  obtain ⟨h1, h2, h3⟩ := h.2 hb
  refine Classical.byContradiction fun q => ?_
  have k : ∀ M, M < 3 → sf ((H + M) % 16) ≠ 0 := fun M hM e => q ⟨M, hM, e⟩
  obtain ⟨i0, -, a0, b0⟩ := h3 _ (by omega) (k 0 (by omega))
  obtain ⟨i1, -, a1, b1⟩ := h3 _ (by omega) (k 1 (by omega))
  obtain ⟨i2, -, a2, b2⟩ := h3 _ (by omega) (k 2 (by omega))
  have n01 : i0 ≠ i1 := fun e => by subst e; omega
  have n02 : i0 ≠ i2 := fun e => by subst e; omega
  have n12 : i1 ≠ i2 := fun e => by subst e; omega
  omega
/-- where slotOf stops, in a table that stands -/
theorem stop_old {x : Int32} {m : Nat} (h : Inv 0 c b lo nV nP vf pf uf sf) (hb : b = 0) (hr : Reach c vf uf sf) (hp : Path x sf m) (hs : sf ((Hx x + m) % 16) = 0 ∨ hi32 (sf ((Hx x + m) % 16)) = x) :
    (sf ((Hx x + m) % 16) = 0 ∧ ∀ i, i < c → vf i ≠ x) ∨ ∃ i, i < c ∧ vf i = x ∧ (sf ((Hx x + m) % 16)).toInt32.toInt = i + 1 := by
  obtain ⟨h1, h2, h3⟩ := h.2 hb
  by_cases hz : sf ((Hx x + m) % 16) = 0
  · refine Or.inl ⟨hz, fun i hi e => ?_⟩
    obtain ⟨m', k1, k2⟩ := hr i hi
    obtain ⟨t, g1, g2, g3⟩ := h2 i (Nat.zero_le _) hi
    rw [e] at k1 k2 g3
    have et : t = (Hx x + m') % 16 := by omega
    rcases Nat.lt_trichotomy m m' with q | q | q
    · exact (k2 m q).1 hz
    · subst q; rw [← et] at hz; exact g3.nz hz
    · have := (hp m' q).2; rw [← et] at this; exact this g3.2
  · obtain ⟨i, -, k1, k2⟩ := h3 _ (by omega) hz
    obtain ⟨t, g1, g2, g3⟩ := h2 i (Nat.zero_le _) k1
    obtain rfl : t = (Hx x + m) % 16 := by omega
    exact Or.inr ⟨i, k1, by rw [← g3.2]; exact hs.resolve_left hz, g3.1⟩
theorem add_slot {x u : Int32} {e : Int64} {m : Nat} (h : Inv 0 c b lo nV nP vf pf uf sf) (hb : b = 0) (hr : Reach c vf uf sf) (hp : Path x sf m) (hz : sf ((Hx x + m) % 16) = 0) (hu : u.toInt = ((Hx x + m) % 16 : Nat)) (he : Ent e x c) :
    Inv 0 (c + 1) b lo nV nP (fun i => if i = c then x else vf i) pf (fun i => if i = c then u else uf i) (fun i => if i = (Hx x + m) % 16 then e else sf i) ∧
      Reach (c + 1) (fun i => if i = c then x else vf i) (fun i => if i = c then u else uf i) (fun i => if i = (Hx x + m) % 16 then e else sf i) := by
  obtain ⟨h1, h2, h3⟩ := h.2 hb
  have keep : ∀ t, sf t ≠ 0 → t ≠ (Hx x + m) % 16 := fun t q e => by subst e; exact q hz
  refine ⟨⟨fun q => absurd hb q, fun _ => ⟨h1, fun i _ hi => ?_, fun t ht hne => ?_⟩⟩, fun i hi => ?_⟩
  · by_cases q : i = c
    · subst q; refine ⟨(Hx x + m) % 16, by omega, by simpa using hu, by simpa using he⟩
    · obtain ⟨t, g1, g2, g3⟩ := h2 i (Nat.zero_le _) (by omega)
      refine ⟨t, g1, by simpa [q] using g2, ?_⟩
      simp only [if_neg q, if_neg (keep t g3.nz)]; exact g3
  · by_cases q : t = (Hx x + m) % 16
    · refine ⟨c, Nat.zero_le _, by omega, ?_⟩
      simp only [if_true]; rw [hu, q]
    · simp only [if_neg q] at hne
      obtain ⟨i, -, k1, k2⟩ := h3 t ht hne
      refine ⟨i, Nat.zero_le _, by omega, ?_⟩
      simp only [if_neg (show i ≠ c by omega)]; exact k2
  · by_cases q : i = c
    · subst q
      refine ⟨m, by simpa using hu, fun j hj => ?_⟩
      simp only [if_true]
      rw [if_neg (keep _ (hp j hj).1)]; exact hp j hj
    · obtain ⟨m', k1, k2⟩ := hr i (by omega)
      refine ⟨m', by simpa [q] using k1, fun j hj => ?_⟩
      simp only [if_neg q] at hj ⊢
      rw [if_neg (keep _ (k2 j hj).1)]; exact k2 j hj
theorem find_place {x : Int32} {d : Nat} (h : Inv 0 c b lo nV nP vf pf uf sf) (hb : b ≠ 0) (hd : d < nP) (he : (x - lo).toInt = (d : Nat)) : (pf d = 0 ∧ ∀ i, i < c → vf i ≠ x) ∨ ∃ i, i < c ∧ vf i = x ∧ (pf d).toInt = i + 1 := by
  obtain ⟨h1, h2, h3⟩ := h.1 hb
  by_cases hz : pf d = 0
  · refine Or.inl ⟨hz, fun i hi e => ?_⟩
    obtain ⟨d', g1, g2, g3⟩ := h2 i (Nat.zero_le _) hi
    rw [e] at g2; obtain rfl : d' = d := by omega
    rw [hz, show (0 : Int32).toInt = 0 from rfl] at g3; omega
  · obtain ⟨i, -, k1, k2⟩ := h3 d hd hz
    obtain ⟨d', g1, g2, g3⟩ := h2 i (Nat.zero_le _) k1
    obtain rfl : d' = d := by omega
    refine Or.inr ⟨i, k1, ?_, g3⟩
    have o1 := c_isub (vf i) lo; have o2 := c_isub x lo; have := rng32 (vf i); have := rng32 x
    exact Int32.toInt_inj.mp (by omega)
theorem add_place {x e : Int32} {d : Nat} (h : Inv 0 c b lo nV nP vf pf uf sf) (hb : b ≠ 0) (hd : d < nP) (hx : (x - lo).toInt = (d : Nat)) (hz : pf d = 0) (he : e.toInt = c + 1) :
    Inv 0 (c + 1) b lo nV nP (fun i => if i = c then x else vf i) (fun i => if i = d then e else pf i) uf sf := by
  obtain ⟨h1, h2, h3⟩ := h.1 hb
  refine ⟨fun _ => ⟨h1, fun i _ hi => ?_, fun t ht hne => ?_⟩, fun q => absurd q hb⟩
  · by_cases q : i = c
    · subst q; exact ⟨d, hd, by simpa using hx, by simpa using he⟩
    · obtain ⟨d', g1, g2, g3⟩ := h2 i (Nat.zero_le _) (by omega)
      refine ⟨d', g1, by simpa [q] using g2, ?_⟩
      have : d' ≠ d := fun e => by subst e; rw [hz, show (0 : Int32).toInt = 0 from rfl] at g3; omega
      simp only [if_neg this]; exact g3
  · by_cases q : t = d
    · exact ⟨c, Nat.zero_le _, by omega, by simp only [if_true]; rw [hx, q]⟩
    · simp only [if_neg q] at hne
      obtain ⟨i, -, k1, k2⟩ := h3 t ht hne
      exact ⟨i, Nat.zero_le _, by omega, by simp only [if_neg (show i ≠ c by omega)]; exact k2⟩
end InvFacts
def VNs (n0 : Nat) (μ : Mem) (a V Pl Sl So : Addr) (nV nP : Nat) (vf pf uf : Nat → Int32) (sf : Nat → Int64) (cn b lo : Int32) : Prop :=
  μ a = some (o_VN (.ref V) (.ref Pl) (.ref Sl) (.ref So) (.int cn) (.int b) (.int lo)) ∧ μ V = some (.inr (.int, ar nV vf)) ∧ μ Pl = some (.inr (.int, ar nP pf)) ∧ μ Sl = some (.inr (.long, al 16 sf)) ∧ μ So = some (.inr (.int, ar 8 uf)) ∧ n0 ≤ a ∧ n0 ≤ V ∧ n0 ≤ Pl ∧ n0 ≤ Sl ∧ n0 ≤ So ∧ V ≠ Pl ∧ V ≠ So ∧ Pl ≠ So ∧ V ≠ Sl ∧ Pl ≠ Sl ∧ So ≠ Sl
def mn' (x y : Int32) : Int32 := if y < x then y else x
def mx' (x y : Int32) : Int32 := if x < y then y else x
def mnl (x y : Int64) : Int64 := if y < x then y else x
abbrev rm_12 : Room := { frames := 0, cells := 0, slots := 0, locals := 0 }
theorem d12_0 : decode jdk_29_method_69_code 0 = .ok (.iload_n 0, 1) := by decide +kernel
theorem d12_1 : decode jdk_29_method_69_code 1 = .ok (.iload_n 1, 1) := by decide +kernel
theorem d12_2 : decode jdk_29_method_69_code 2 = .ok (.if_icmp .gt 7, 3) := by decide +kernel
theorem d12_5 : decode jdk_29_method_69_code 5 = .ok (.iload_n 0, 1) := by decide +kernel
theorem d12_6 : decode jdk_29_method_69_code 6 = .ok (.goto 4, 3) := by decide +kernel
theorem d12_9 : decode jdk_29_method_69_code 9 = .ok (.iload_n 1, 1) := by decide +kernel
theorem d12_10 : decode jdk_29_method_69_code 10 = .ok (.ireturn, 1) := by decide +kernel
set_option maxRecDepth 65536 in
set_option maxHeartbeats 4000000 in
theorem c_min (l : Launch) (Z : State) (a0 : Array Value) (hw : ∀ d ∈ tables_1, d.before a0 Z = true) (n0 : Nat) (μ : Mem) (x : Int32) (y : Int32)  :
    Con l Z n0 (⟨"java/lang/Math", "min", "(II)I"⟩ : MethodName) jdk_29_method_69_code 2 (some .int) [] rm_12 rm_12.cells rm_12.slots #[(.int x), (.int y)] μ (RI fun z μ' => μ' = μ ∧ z = mn' x y) := by
  refine Con.intro (L0 := #[.val (.int x), .val (.int y)]) (Jvm.Free.JP.mathPlain rfl (by decide +kernel)) (fun m => by first | (simp [entryFrame, mkF, argsToLocals, Value.category]; done) | rfl) ?_
  intro p e s m below meth c C
  have C : Ctx p s m meth c Z "java/lang/Math" "min" jdk_29_method_69_code 2 (some .int) := C
  refine Own.iloadN C d12_0 (q := 1) rfl rfl ?_
  refine Own.iloadN C d12_1 (q := 2) rfl rfl ?_
  refine Own.icmp_gt C d12_2 (q := 5) rfl (r := 9) (by decide) (fun h2 => ?_) (fun h2 => ?_)
  · refine Own.iloadN C d12_9 (q := 10) rfl rfl ?_
    refine Own.ireturn C d12_10 (by decide) (by decide) ?_
    exact ⟨_, rfl, rfl, by simp [mn', h2]⟩
  · refine Own.iloadN C d12_5 (q := 6) rfl rfl ?_
    refine Own.goto C d12_6 (q := 10) (by decide) ?_
    refine Own.ireturn C d12_10 (by decide) (by decide) ?_
    exact ⟨_, rfl, rfl, by simp [mn', h2]⟩
abbrev rm_13 : Room := { frames := 0, cells := 0, slots := 0, locals := 0 }
theorem d13_0 : decode jdk_29_method_65_code 0 = .ok (.iload_n 0, 1) := by decide +kernel
theorem d13_1 : decode jdk_29_method_65_code 1 = .ok (.iload_n 1, 1) := by decide +kernel
theorem d13_2 : decode jdk_29_method_65_code 2 = .ok (.if_icmp .lt 7, 3) := by decide +kernel
theorem d13_5 : decode jdk_29_method_65_code 5 = .ok (.iload_n 0, 1) := by decide +kernel
theorem d13_6 : decode jdk_29_method_65_code 6 = .ok (.goto 4, 3) := by decide +kernel
theorem d13_9 : decode jdk_29_method_65_code 9 = .ok (.iload_n 1, 1) := by decide +kernel
theorem d13_10 : decode jdk_29_method_65_code 10 = .ok (.ireturn, 1) := by decide +kernel
set_option maxRecDepth 65536 in
set_option maxHeartbeats 4000000 in
theorem c_max (l : Launch) (Z : State) (a0 : Array Value) (hw : ∀ d ∈ tables_1, d.before a0 Z = true) (n0 : Nat) (μ : Mem) (x : Int32) (y : Int32)  :
    Con l Z n0 (⟨"java/lang/Math", "max", "(II)I"⟩ : MethodName) jdk_29_method_65_code 2 (some .int) [] rm_13 rm_13.cells rm_13.slots #[(.int x), (.int y)] μ (RI fun z μ' => μ' = μ ∧ z = mx' x y) := by
  refine Con.intro (L0 := #[.val (.int x), .val (.int y)]) (Jvm.Free.JP.mathPlain rfl (by decide +kernel)) (fun m => by first | (simp [entryFrame, mkF, argsToLocals, Value.category]; done) | rfl) ?_
  intro p e s m below meth c C
  have C : Ctx p s m meth c Z "java/lang/Math" "max" jdk_29_method_65_code 2 (some .int) := C
  refine Own.iloadN C d13_0 (q := 1) rfl rfl ?_
  refine Own.iloadN C d13_1 (q := 2) rfl rfl ?_
  refine Own.icmp_lt C d13_2 (q := 5) rfl (r := 9) (by decide) (fun h2 => ?_) (fun h2 => ?_)
  · refine Own.iloadN C d13_9 (q := 10) rfl rfl ?_
    refine Own.ireturn C d13_10 (by decide) (by decide) ?_
    exact ⟨_, rfl, rfl, by simp [mx', h2]⟩
  · refine Own.iloadN C d13_5 (q := 6) rfl rfl ?_
    refine Own.goto C d13_6 (q := 10) (by decide) ?_
    refine Own.ireturn C d13_10 (by decide) (by decide) ?_
    exact ⟨_, rfl, rfl, by simp [mx', h2]⟩
abbrev rm_1 : Room := { frames := 0, cells := 0, slots := 0, locals := 0 }
theorem d1_0 : decode jdk_29_method_70_code 0 = .ok (.lload_n 0, 1) := by decide +kernel
theorem d1_1 : decode jdk_29_method_70_code 1 = .ok (.lload_n 2, 1) := by decide +kernel
theorem d1_2 : decode jdk_29_method_70_code 2 = .ok (.lcmp, 1) := by decide +kernel
theorem d1_3 : decode jdk_29_method_70_code 3 = .ok (.ifCond .gt 7, 3) := by decide +kernel
theorem d1_6 : decode jdk_29_method_70_code 6 = .ok (.lload_n 0, 1) := by decide +kernel
theorem d1_7 : decode jdk_29_method_70_code 7 = .ok (.goto 4, 3) := by decide +kernel
theorem d1_10 : decode jdk_29_method_70_code 10 = .ok (.lload_n 2, 1) := by decide +kernel
theorem d1_11 : decode jdk_29_method_70_code 11 = .ok (.lreturn, 1) := by decide +kernel
set_option maxRecDepth 65536 in
set_option maxHeartbeats 4000000 in
theorem c_minl (l : Launch) (Z : State) (a0 : Array Value) (hw : ∀ d ∈ tables_1, d.before a0 Z = true) (n0 : Nat) (μ : Mem) (x : Int64) (y : Int64)  :
    Con l Z n0 (⟨"java/lang/Math", "min", "(JJ)J"⟩ : MethodName) jdk_29_method_70_code 4 (some .long) [] rm_1 rm_1.cells rm_1.slots #[(.long x), (.long y)] μ (RJ fun z μ' => μ' = μ ∧ z = mnl x y) := by
  refine Con.intro (L0 := #[.val (.long x), .second, .val (.long y), .second]) (Jvm.Free.JP.mathPlain rfl (by decide +kernel)) (fun m => by first | (simp [entryFrame, mkF, argsToLocals, Value.category]; done) | rfl) ?_
  intro p e s m below meth c C
  have C : Ctx p s m meth c Z "java/lang/Math" "min" jdk_29_method_70_code 4 (some .long) := C
  refine Own.lloadN C d1_0 (q := 1) rfl rfl ?_
  refine Own.lloadN C d1_1 (q := 2) rfl rfl ?_
  refine Own.lcmp_gt C d1_2 (pc1 := 3) rfl d1_3 (q := 6) rfl (r := 10) (by decide) (fun h2 => ?_) (fun h2 => ?_)
  · refine Own.lloadN C d1_10 (q := 11) rfl rfl ?_
    refine Own.lreturn C d1_11 (by decide) (by decide) ?_
    exact ⟨_, rfl, rfl, by simp [mnl, h2]⟩
  · refine Own.lloadN C d1_6 (q := 7) rfl rfl ?_
    refine Own.goto C d1_7 (q := 11) (by decide) ?_
    refine Own.lreturn C d1_11 (by decide) (by decide) ?_
    exact ⟨_, rfl, rfl, by simp [mnl, h2]⟩
theorem rangeL {lo hi : Int32} {z1 z3 z4 z6 : Int64} (h : lo.toInt ≤ hi.toInt) (e1 : z1 = hi.toInt64) (e3 : z3 = lo.toInt64) (e4 : z4 = z1 - z3) (e6 : z6 = z4 + 1) : z6.toInt = hi.toInt - lo.toInt + 1 := by
  have o1 := c_i2l hi; rw [← e1] at o1; have o3 := c_i2l lo; rw [← e3] at o3; have o4 := c_lsub z1 z3; rw [← e4] at o4; have o6 := c_ladd z4 1; rw [← e6] at o6
  simp only [show (1 : Int64).toInt = 1 from rfl] at o6
  have := rng32 lo; have := rng32 hi; have := rng64 z4; have := rng64 z6; omega
theorem pickL {lo hi z19 : Int32} {z6 z9 z15 z17 z18 z11 : Int64} (h : lo.toInt ≤ hi.toInt) (h6 : z6.toInt = hi.toInt - lo.toInt + 1) (e9 : z9 = lo.toInt64) (e15 : z15 = z11 &&& 4294967295) (e17 : z17 = z15 - (z15 / z6) * z6) (e18 : z18 = z9 + z17) (e19 : z19 = z18.toInt32) : lo.toInt ≤ z19.toInt ∧ z19.toInt ≤ hi.toInt := by
  have o9 := c_i2l lo; rw [← e9] at o9
  have o15 := c_maskL z11 4294967295 32 (by decide) (by decide); rw [← e15] at o15
  have o15 : z15.toInt = z11.toInt % 4294967296 := o15
  have o17 := (c_lrem z15 z6 _ h6).1 (by omega); rw [← e17] at o17
  have p1 := Int.emod_nonneg z15.toInt (show hi.toInt - lo.toInt + 1 ≠ 0 by omega)
  have p2 := Int.emod_lt_of_pos z15.toInt (show 0 < hi.toInt - lo.toInt + 1 by omega)
  rw [← o17] at p1 p2
  have o18 := c_ladd z9 z17; rw [← e18] at o18; have o19 := c_l2i z18; rw [← e19] at o19
  have := rng32 lo; have := rng32 hi; have := rng64 z18; have := rng32 z19; omega
abbrev rm_2 : Room := { frames := 0, cells := 0, slots := 0, locals := 0 }
theorem d2_0 : decode method_2_code 0 = .ok (.iload_n 1, 1) := by decide +kernel
theorem d2_1 : decode method_2_code 1 = .ok (.i2l, 1) := by decide +kernel
theorem d2_2 : decode method_2_code 2 = .ok (.iload_n 0, 1) := by decide +kernel
theorem d2_3 : decode method_2_code 3 = .ok (.i2l, 1) := by decide +kernel
theorem d2_4 : decode method_2_code 4 = .ok (.lsub, 1) := by decide +kernel
theorem d2_5 : decode method_2_code 5 = .ok (.lconst 1, 1) := by decide +kernel
theorem d2_6 : decode method_2_code 6 = .ok (.ladd, 1) := by decide +kernel
theorem d2_7 : decode method_2_code 7 = .ok (.lstore_n 3, 1) := by decide +kernel
theorem d2_8 : decode method_2_code 8 = .ok (.iload_n 0, 1) := by decide +kernel
theorem d2_9 : decode method_2_code 9 = .ok (.i2l, 1) := by decide +kernel
theorem d2_10 : decode method_2_code 10 = .ok (.iload_n 2, 1) := by decide +kernel
theorem d2_11 : decode method_2_code 11 = .ok (.i2l, 1) := by decide +kernel
theorem d2_12 : decode method_2_code 12 = .ok (.ldc2_w 7, 3) := by decide +kernel
theorem d2_15 : decode method_2_code 15 = .ok (.land, 1) := by decide +kernel
theorem d2_16 : decode method_2_code 16 = .ok (.lload_n 3, 1) := by decide +kernel
theorem d2_17 : decode method_2_code 17 = .ok (.lrem, 1) := by decide +kernel
theorem d2_18 : decode method_2_code 18 = .ok (.ladd, 1) := by decide +kernel
theorem d2_19 : decode method_2_code 19 = .ok (.l2i, 1) := by decide +kernel
theorem d2_20 : decode method_2_code 20 = .ok (.ireturn, 1) := by decide +kernel
set_option maxRecDepth 65536 in
set_option maxHeartbeats 4000000 in
theorem c_pick (l : Launch) (Z : State) (a0 : Array Value) (hw : ∀ d ∈ tables_1, d.before a0 Z = true) (n0 : Nat) (μ : Mem) (lo : Int32) (hi : Int32) (t : Int32) (hlh : lo.toInt ≤ hi.toInt) :
    Con l Z n0 (⟨"com/example/parcours/parcours/search/ValueNumbersClearPinLaw", "pick", "(III)I"⟩ : MethodName) method_2_code 5 (some .int) [] rm_2 rm_2.cells rm_2.slots #[(.int lo), (.int hi), (.int t)] μ (RI fun z μ' => μ' = μ ∧ lo.toInt ≤ z.toInt ∧ z.toInt ≤ hi.toInt) := by
  refine Con.intro (L0 := #[.val (.int lo), .val (.int hi), .val (.int t), .unset, .unset]) (plainFor_of_name (by first | (simp [plainName, overriddenIn]; done) | decide +kernel)) (fun m => by first | (simp [entryFrame, mkF, argsToLocals, Value.category]; done) | rfl) ?_
  intro p e s m below meth c C
  have C : Ctx p s m meth c Z "com/example/parcours/parcours/search/ValueNumbersClearPinLaw" "pick" method_2_code 5 (some .int) := C
  refine Own.iloadN C d2_0 (q := 1) rfl rfl ?_
  refine Own.i2l C d2_1 (q := 2) rfl fun z1 e1 => ?_
  refine Own.iloadN C d2_2 (q := 3) rfl rfl ?_
  refine Own.i2l C d2_3 (q := 4) rfl fun z3 e3 => ?_
  refine Own.lsub C d2_4 (q := 5) rfl fun z4 e4 => ?_
  refine Own.lconst C d2_5 (q := 6) rfl (z := 1) (by decide) ?_
  refine Own.ladd C d2_6 (q := 7) rfl fun z6 e6 => ?_
  have h6 := rangeL hlh e1 e3 e4 e6
  refine Own.lstoreN C d2_7 (q := 8) rfl (L' := #[.val (.int lo), .val (.int hi), .val (.int t), .val (.long z6), .second]) rfl ?_
  refine Own.iloadN C d2_8 (q := 9) rfl rfl ?_
  refine Own.i2l C d2_9 (q := 10) rfl fun z9 e9 => ?_
  refine Own.iloadN C d2_10 (q := 11) rfl rfl ?_
  refine Own.i2l C d2_11 (q := 12) rfl fun z11 e11 => ?_
  refine Own.ldcJ C d2_12 (q := 15) rfl (hw _ (List.mem_of_getElem? (i := 10) rfl)) ?_
  refine Own.land C d2_15 (q := 16) rfl fun z15 e15 => ?_
  refine Own.lloadN C d2_16 (q := 17) rfl rfl ?_
  refine Own.lrem C d2_17 (q := 18) rfl (fun q => by rw [q, show (0 : Int64).toInt = 0 from rfl] at h6; omega) fun z17 e17 => ?_
  refine Own.ladd C d2_18 (q := 19) rfl fun z18 e18 => ?_
  refine Own.l2i C d2_19 (q := 20) rfl fun z19 e19 => ?_
  refine Own.ireturn C d2_20 (by decide) (by decide) ?_
  exact ⟨_, rfl, rfl, pickL hlh h6 e9 e15 e17 e18 e19⟩
abbrev rm_14 : Room := { frames := 0, cells := 0, slots := 0, locals := 0 }
theorem d14_0 : decode method_3_code 0 = .ok (.iload_n 1, 1) := by decide +kernel
theorem d14_1 : decode method_3_code 1 = .ok (.iload_n 0, 1) := by decide +kernel
theorem d14_2 : decode method_3_code 2 = .ok (.if_icmp .gt 12, 3) := by decide +kernel
theorem d14_5 : decode method_3_code 5 = .ok (.iload_n 0, 1) := by decide +kernel
theorem d14_6 : decode method_3_code 6 = .ok (.iload_n 2, 1) := by decide +kernel
theorem d14_7 : decode method_3_code 7 = .ok (.if_icmp .gt 7, 3) := by decide +kernel
theorem d14_10 : decode method_3_code 10 = .ok (.iconst 1, 1) := by decide +kernel
theorem d14_11 : decode method_3_code 11 = .ok (.goto 4, 3) := by decide +kernel
theorem d14_14 : decode method_3_code 14 = .ok (.iconst 0, 1) := by decide +kernel
theorem d14_15 : decode method_3_code 15 = .ok (.ireturn, 1) := by decide +kernel
set_option maxRecDepth 65536 in
set_option maxHeartbeats 4000000 in
theorem c_within (l : Launch) (Z : State) (a0 : Array Value) (hw : ∀ d ∈ tables_1, d.before a0 Z = true) (n0 : Nat) (μ : Mem) (v : Int32) (lo : Int32) (hi : Int32)  :
    Con l Z n0 (⟨"com/example/parcours/parcours/search/ValueNumbersClearPinLaw", "within", "(III)Z"⟩ : MethodName) method_3_code 3 (some .boolean) [] rm_14 rm_14.cells rm_14.slots #[(.int v), (.int lo), (.int hi)] μ (RI fun z μ' => μ' = μ ∧ (z ≠ 0 → lo.toInt ≤ v.toInt ∧ v.toInt ≤ hi.toInt)) := by
  refine Con.intro (L0 := #[.val (.int v), .val (.int lo), .val (.int hi)]) (plainFor_of_name (by first | (simp [plainName, overriddenIn]; done) | decide +kernel)) (fun m => by first | (simp [entryFrame, mkF, argsToLocals, Value.category]; done) | rfl) ?_
  intro p e s m below meth c C
  have C : Ctx p s m meth c Z "com/example/parcours/parcours/search/ValueNumbersClearPinLaw" "within" method_3_code 3 (some .boolean) := C
  refine Own.iloadN C d14_0 (q := 1) rfl rfl ?_
  refine Own.iloadN C d14_1 (q := 2) rfl rfl ?_
  refine Own.icmp_gt C d14_2 (q := 5) rfl (r := 14) (by decide) (fun h2 => ?_) (fun h2 => ?_)
  · refine Own.iconst C d14_14 (q := 15) rfl (z := 0) (by decide) ?_
    refine Own.nreturn C d14_15 (by simp) (z' := (0 : Int32)) (by decide) (by decide) (by decide) ?_
    exact ⟨_, rfl, rfl, fun q => absurd rfl q⟩
  · refine Own.iloadN C d14_5 (q := 6) rfl rfl ?_
    refine Own.iloadN C d14_6 (q := 7) rfl rfl ?_
    refine Own.icmp_gt C d14_7 (q := 10) rfl (r := 14) (by decide) (fun h7 => ?_) (fun h7 => ?_)
    · refine Own.iconst C d14_14 (q := 15) rfl (z := 0) (by decide) ?_
      refine Own.nreturn C d14_15 (by simp) (z' := (0 : Int32)) (by decide) (by decide) (by decide) ?_
      exact ⟨_, rfl, rfl, fun q => absurd rfl q⟩
    · refine Own.iconst C d14_10 (q := 11) rfl (z := 1) (by decide) ?_
      refine Own.goto C d14_11 (q := 15) (by decide) ?_
      refine Own.nreturn C d14_15 (by simp) (z' := (1 : Int32)) (by decide) (by decide) (by decide) ?_
      exact ⟨_, rfl, rfl, fun q => by rw [Int32.lt_iff_toInt_lt] at h2 h7; omega⟩
abbrev rm_3 : Room := { frames := 1, cells := 4, slots := 32, locals := 12 }
theorem d3_0 : decode prog_68_method_1_code 0 = .ok (.aload_n 0, 1) := by decide +kernel
theorem d3_1 : decode prog_68_method_1_code 1 = .ok (.invokespecial 1, 3) := by decide +kernel
theorem d3_4 : decode prog_68_method_1_code 4 = .ok (.aload_n 0, 1) := by decide +kernel
theorem d3_5 : decode prog_68_method_1_code 5 = .ok (.bipush 8, 2) := by decide +kernel
theorem d3_7 : decode prog_68_method_1_code 7 = .ok (.newarray .int, 2) := by decide +kernel
theorem d3_9 : decode prog_68_method_1_code 9 = .ok (.putfield 9, 3) := by decide +kernel
theorem d3_12 : decode prog_68_method_1_code 12 = .ok (.aload_n 0, 1) := by decide +kernel
theorem d3_13 : decode prog_68_method_1_code 13 = .ok (.iconst 0, 1) := by decide +kernel
theorem d3_14 : decode prog_68_method_1_code 14 = .ok (.newarray .int, 2) := by decide +kernel
theorem d3_16 : decode prog_68_method_1_code 16 = .ok (.putfield 13, 3) := by decide +kernel
theorem d3_19 : decode prog_68_method_1_code 19 = .ok (.aload_n 0, 1) := by decide +kernel
theorem d3_20 : decode prog_68_method_1_code 20 = .ok (.bipush 16, 2) := by decide +kernel
theorem d3_22 : decode prog_68_method_1_code 22 = .ok (.newarray .long, 2) := by decide +kernel
theorem d3_24 : decode prog_68_method_1_code 24 = .ok (.putfield 16, 3) := by decide +kernel
theorem d3_27 : decode prog_68_method_1_code 27 = .ok (.aload_n 0, 1) := by decide +kernel
theorem d3_28 : decode prog_68_method_1_code 28 = .ok (.bipush 8, 2) := by decide +kernel
theorem d3_30 : decode prog_68_method_1_code 30 = .ok (.newarray .int, 2) := by decide +kernel
theorem d3_32 : decode prog_68_method_1_code 32 = .ok (.putfield 20, 3) := by decide +kernel
theorem d3_35 : decode prog_68_method_1_code 35 = .ok (.return_, 1) := by decide +kernel
set_option maxRecDepth 65536 in
set_option maxHeartbeats 4000000 in
theorem c_init (l : Launch) (Z : State) (a0 : Array Value) (hw : ∀ d ∈ tables_1, d.before a0 Z = true) (n0 : Nat) (μ : Mem) (a : Addr) (hμ : μ a = some (o_VN .null .null .null .null (.int (0 : Int32)) (.int (0 : Int32)) (.int (0 : Int32)))) (ga : n0 ≤ a) :
    Con l Z n0 (⟨"com/example/parcours/parcours/search/ValueNumbers", "<init>", "()V"⟩ : MethodName) prog_68_method_1_code 1 none [] rm_3 rm_3.cells rm_3.slots #[(.ref a)] μ (RV fun μ' => ∃ V Pl Sl So, VNs n0 μ' a V Pl Sl So 8 0 (fun _ => 0) (fun _ => 0) (fun _ => 0) (fun _ => 0) 0 0 0) := by
  refine Con.intro (L0 := #[.val (.ref a)]) (plainFor_of_name (by first | (simp [plainName, overriddenIn]; done) | decide +kernel)) (fun m => by first | (simp [entryFrame, mkF, argsToLocals, Value.category]; done) | rfl) ?_
  intro p e s m below meth c C
  have C : Ctx p s m meth c Z "com/example/parcours/parcours/search/ValueNumbers" "<init>" prog_68_method_1_code 1 none := C
  refine Own.aloadN C d3_0 (q := 1) rfl rfl rfl ?_
  refine Own.initObj C d3_1 (q := 4) rfl (hw _ (List.mem_of_getElem? (i := 17) rfl)) (hw _ (List.mem_of_getElem? (i := 18) rfl)) (hw _ (List.mem_of_getElem? (i := 19) rfl)) rfl (by decide) (W := 0) (Nat.le_of_eq rfl) (by decide) ?_
  refine Own.aloadN C d3_4 (q := 5) rfl rfl rfl ?_
  refine Own.bipush C d3_5 (q := 7) rfl (z := 8) (by decide) ?_
  refine Own.newArr C d3_7 (q := 9) rfl (ty := .int) rfl (hw _ (List.mem_of_getElem? (i := 20) rfl)) (by decide) (cap := 8) (by decide) (by decide) (vs := [(.int (0 : Int32)), (.int (0 : Int32)), (.int (0 : Int32)), (.int (0 : Int32)), (.int (0 : Int32)), (.int (0 : Int32)), (.int (0 : Int32)), (.int (0 : Int32))]) rfl (by decide) (by decide) fun a7 a7_f a7_g => ?_
  have ne_a_a7 := a7_f _ _ hμ
  refine Own.putfield C d3_9 (q := 12) rfl (host := "") (Or.inl (hw _ (List.mem_of_getElem? (i := 21) rfl))) Via.refl (Or.inl (hw _ (List.mem_of_getElem? (i := 22) rfl))) (hw _ (List.mem_of_getElem? (i := 12) rfl)) (ty := (.array .int)) (by decide) rfl rfl (upd_at ne_a_a7 hμ) (j := 0) rfl (fs' := [(("com/example/parcours/parcours/search/ValueNumbers", "values", "[I"), (.ref a7)), (("com/example/parcours/parcours/search/ValueNumbers", "places", "[I"), .null), (("com/example/parcours/parcours/search/ValueNumbers", "slots", "[J"), .null), (("com/example/parcours/parcours/search/ValueNumbers", "slotOf", "[I"), .null), (("com/example/parcours/parcours/search/ValueNumbers", "count", "I"), (.int (0 : Int32))), (("com/example/parcours/parcours/search/ValueNumbers", "byPlace", "Z"), (.int (0 : Int32))), (("com/example/parcours/parcours/search/ValueNumbers", "least", "I"), (.int (0 : Int32)))]) rfl ga (mem rfl ?_)
  refine Own.aloadN C d3_12 (q := 13) rfl rfl rfl ?_
  refine Own.iconst C d3_13 (q := 14) rfl (z := 0) (by decide) ?_
  refine Own.newArr C d3_14 (q := 16) rfl (ty := .int) rfl (hw _ (List.mem_of_getElem? (i := 20) rfl)) (by decide) (cap := 0) (by decide) (by decide) (vs := []) rfl (by decide) (by decide) fun a14 a14_f a14_g => ?_
  have ne_a7_a14 := a14_f _ _ (upd_at (Ne.symm ne_a_a7) upd_same)
  have ne_a_a14 := a14_f _ _ upd_same
  refine Own.putfield C d3_16 (q := 19) rfl (host := "") (Or.inl (hw _ (List.mem_of_getElem? (i := 23) rfl))) Via.refl (Or.inl (hw _ (List.mem_of_getElem? (i := 24) rfl))) (hw _ (List.mem_of_getElem? (i := 12) rfl)) (ty := (.array .int)) (by decide) rfl rfl (upd_at ne_a_a14 upd_same) (j := 1) rfl (fs' := [(("com/example/parcours/parcours/search/ValueNumbers", "values", "[I"), (.ref a7)), (("com/example/parcours/parcours/search/ValueNumbers", "places", "[I"), (.ref a14)), (("com/example/parcours/parcours/search/ValueNumbers", "slots", "[J"), .null), (("com/example/parcours/parcours/search/ValueNumbers", "slotOf", "[I"), .null), (("com/example/parcours/parcours/search/ValueNumbers", "count", "I"), (.int (0 : Int32))), (("com/example/parcours/parcours/search/ValueNumbers", "byPlace", "Z"), (.int (0 : Int32))), (("com/example/parcours/parcours/search/ValueNumbers", "least", "I"), (.int (0 : Int32)))]) rfl ga (mem (upd_in upd_upd (Ne.symm ne_a_a14)) ?_)
  refine Own.aloadN C d3_19 (q := 20) rfl rfl rfl ?_
  refine Own.bipush C d3_20 (q := 22) rfl (z := 16) (by decide) ?_
  refine Own.newArr C d3_22 (q := 24) rfl (ty := .long) rfl (hw _ (List.mem_of_getElem? (i := 25) rfl)) (by decide) (cap := 16) (by decide) (by decide) (vs := [(.long (0 : Int64)), (.long (0 : Int64)), (.long (0 : Int64)), (.long (0 : Int64)), (.long (0 : Int64)), (.long (0 : Int64)), (.long (0 : Int64)), (.long (0 : Int64)), (.long (0 : Int64)), (.long (0 : Int64)), (.long (0 : Int64)), (.long (0 : Int64)), (.long (0 : Int64)), (.long (0 : Int64)), (.long (0 : Int64)), (.long (0 : Int64))]) rfl (by decide) (by decide) fun a22 a22_f a22_g => ?_
  have ne_a7_a22 := a22_f _ _ (upd_at ne_a7_a14 (upd_at (Ne.symm ne_a_a7) upd_same))
  have ne_a_a22 := a22_f _ _ (upd_at ne_a_a14 upd_same)
  have ne_a14_a22 := a22_f _ _ upd_same
  refine Own.putfield C d3_24 (q := 27) rfl (host := "") (Or.inl (hw _ (List.mem_of_getElem? (i := 26) rfl))) Via.refl (Or.inl (hw _ (List.mem_of_getElem? (i := 27) rfl))) (hw _ (List.mem_of_getElem? (i := 12) rfl)) (ty := (.array .long)) (by decide) rfl rfl (upd_at ne_a_a22 (upd_at ne_a_a14 upd_same)) (j := 2) rfl (fs' := [(("com/example/parcours/parcours/search/ValueNumbers", "values", "[I"), (.ref a7)), (("com/example/parcours/parcours/search/ValueNumbers", "places", "[I"), (.ref a14)), (("com/example/parcours/parcours/search/ValueNumbers", "slots", "[J"), (.ref a22)), (("com/example/parcours/parcours/search/ValueNumbers", "slotOf", "[I"), .null), (("com/example/parcours/parcours/search/ValueNumbers", "count", "I"), (.int (0 : Int32))), (("com/example/parcours/parcours/search/ValueNumbers", "byPlace", "Z"), (.int (0 : Int32))), (("com/example/parcours/parcours/search/ValueNumbers", "least", "I"), (.int (0 : Int32)))]) rfl ga (mem (upd_in (upd_in upd_upd (Ne.symm ne_a_a14)) (Ne.symm ne_a_a22)) ?_)
  refine Own.aloadN C d3_27 (q := 28) rfl rfl rfl ?_
  refine Own.bipush C d3_28 (q := 30) rfl (z := 8) (by decide) ?_
  refine Own.newArr C d3_30 (q := 32) rfl (ty := .int) rfl (hw _ (List.mem_of_getElem? (i := 20) rfl)) (by decide) (cap := 8) (by decide) (by decide) (vs := [(.int (0 : Int32)), (.int (0 : Int32)), (.int (0 : Int32)), (.int (0 : Int32)), (.int (0 : Int32)), (.int (0 : Int32)), (.int (0 : Int32)), (.int (0 : Int32))]) rfl (by decide) (by decide) fun a30 a30_f a30_g => ?_
  have ne_a7_a30 := a30_f _ _ (upd_at ne_a7_a22 (upd_at ne_a7_a14 (upd_at (Ne.symm ne_a_a7) upd_same)))
  have ne_a_a30 := a30_f _ _ (upd_at ne_a_a22 (upd_at ne_a_a14 upd_same))
  have ne_a14_a30 := a30_f _ _ (upd_at ne_a14_a22 upd_same)
  have ne_a22_a30 := a30_f _ _ upd_same
  refine Own.putfield C d3_32 (q := 35) rfl (host := "") (Or.inl (hw _ (List.mem_of_getElem? (i := 28) rfl))) Via.refl (Or.inl (hw _ (List.mem_of_getElem? (i := 29) rfl))) (hw _ (List.mem_of_getElem? (i := 12) rfl)) (ty := (.array .int)) (by decide) rfl rfl (upd_at ne_a_a30 (upd_at ne_a_a22 (upd_at ne_a_a14 upd_same))) (j := 3) rfl (fs' := [(("com/example/parcours/parcours/search/ValueNumbers", "values", "[I"), (.ref a7)), (("com/example/parcours/parcours/search/ValueNumbers", "places", "[I"), (.ref a14)), (("com/example/parcours/parcours/search/ValueNumbers", "slots", "[J"), (.ref a22)), (("com/example/parcours/parcours/search/ValueNumbers", "slotOf", "[I"), (.ref a30)), (("com/example/parcours/parcours/search/ValueNumbers", "count", "I"), (.int (0 : Int32))), (("com/example/parcours/parcours/search/ValueNumbers", "byPlace", "Z"), (.int (0 : Int32))), (("com/example/parcours/parcours/search/ValueNumbers", "least", "I"), (.int (0 : Int32)))]) rfl ga (mem (upd_in (upd_in (upd_in upd_upd (Ne.symm ne_a_a14)) (Ne.symm ne_a_a22)) (Ne.symm ne_a_a30)) ?_)
  refine Own.vreturn C d3_35 (by decide) (by decide) ?_
  exact ⟨rfl, a7, a14, a22, a30, ⟨(upd_at ne_a_a30 (upd_at ne_a_a22 (upd_at ne_a_a14 upd_same))), (upd_at ne_a7_a30 (upd_at ne_a7_a22 (upd_at ne_a7_a14 (upd_at (Ne.symm ne_a_a7) upd_same)))), (upd_at ne_a14_a30 (upd_at ne_a14_a22 upd_same)), (upd_at ne_a22_a30 upd_same), upd_same, ga, a7_g, a14_g, a22_g, a30_g, ne_a7_a14, ne_a7_a30, ne_a14_a30, ne_a7_a22, ne_a14_a22, (Ne.symm ne_a22_a30)⟩⟩
abbrev rm_6 : Room := { frames := 0, cells := 0, slots := 0, locals := 0 }
theorem d6_0 : decode prog_68_method_5_code 0 = .ok (.aload_n 0, 1) := by decide +kernel
theorem d6_1 : decode prog_68_method_5_code 1 = .ok (.getfield 23, 3) := by decide +kernel
theorem d6_4 : decode prog_68_method_5_code 4 = .ok (.ireturn, 1) := by decide +kernel
set_option maxRecDepth 65536 in
set_option maxHeartbeats 4000000 in
theorem c_count (l : Launch) (Z : State) (a0 : Array Value) (hw : ∀ d ∈ tables_1, d.before a0 Z = true) (n0 : Nat) (μ : Mem) (a : Addr) (V Pl Sl So : Addr) (nV nP : Nat) (vf pf uf : Nat → Int32) (sf : Nat → Int64) (cn b lo : Int32) (H : VNs n0 μ a V Pl Sl So nV nP vf pf uf sf cn b lo) :
    Con l Z n0 (⟨"com/example/parcours/parcours/search/ValueNumbers", "count", "()I"⟩ : MethodName) prog_68_method_5_code 1 (some .int) [] rm_6 rm_6.cells rm_6.slots #[(.ref a)] μ (RI fun z μ' => μ' = μ ∧ z = cn) := by
  refine Con.intro (L0 := #[.val (.ref a)]) (plainFor_of_name (by first | (simp [plainName, overriddenIn]; done) | decide +kernel)) (fun m => by first | (simp [entryFrame, mkF, argsToLocals, Value.category]; done) | rfl) ?_
  intro p e s m below meth c C
  have C : Ctx p s m meth c Z "com/example/parcours/parcours/search/ValueNumbers" "count" prog_68_method_5_code 1 (some .int) := C
  obtain ⟨ha, hV, hP, hL, hS, ga, gV, gP, gL, gS, nVP, nVS, nPS, nVL, nPL, nSL⟩ := H
  refine Own.aloadN C d6_0 (q := 1) rfl rfl rfl ?_
  refine Own.getfield C d6_1 (q := 4) rfl (host := "") (Or.inl (hw _ (List.mem_of_getElem? (i := 35) rfl))) Via.refl ha (j := 4) rfl ?_
  refine Own.ireturn C d6_4 (by decide) (by decide) ?_
  exact ⟨_, rfl, rfl, rfl⟩
abbrev rm_11 : Room := { frames := 0, cells := 0, slots := 0, locals := 0 }
theorem d11_0 : decode prog_68_method_6_code 0 = .ok (.aload_n 0, 1) := by decide +kernel
theorem d11_1 : decode prog_68_method_6_code 1 = .ok (.getfield 9, 3) := by decide +kernel
theorem d11_4 : decode prog_68_method_6_code 4 = .ok (.iload_n 1, 1) := by decide +kernel
theorem d11_5 : decode prog_68_method_6_code 5 = .ok (.iaload, 1) := by decide +kernel
theorem d11_6 : decode prog_68_method_6_code 6 = .ok (.ireturn, 1) := by decide +kernel
set_option maxRecDepth 65536 in
set_option maxHeartbeats 4000000 in
theorem c_value (l : Launch) (Z : State) (a0 : Array Value) (hw : ∀ d ∈ tables_1, d.before a0 Z = true) (n0 : Nat) (μ : Mem) (a : Addr) (i : Int32) (V Pl Sl So : Addr) (nV nP : Nat) (vf pf uf : Nat → Int32) (sf : Nat → Int64) (cn b lo : Int32) (j : Nat) (hi : i.toInt = j) (hj : j < nV) (H : VNs n0 μ a V Pl Sl So nV nP vf pf uf sf cn b lo) :
    Con l Z n0 (⟨"com/example/parcours/parcours/search/ValueNumbers", "value", "(I)I"⟩ : MethodName) prog_68_method_6_code 2 (some .int) [] rm_11 rm_11.cells rm_11.slots #[(.ref a), (.int i)] μ (RI fun z μ' => μ' = μ ∧ z = vf j) := by
  refine Con.intro (L0 := #[.val (.ref a), .val (.int i)]) (plainFor_of_name (by first | (simp [plainName, overriddenIn]; done) | decide +kernel)) (fun m => by first | (simp [entryFrame, mkF, argsToLocals, Value.category]; done) | rfl) ?_
  intro p e s m below meth c C
  have C : Ctx p s m meth c Z "com/example/parcours/parcours/search/ValueNumbers" "value" prog_68_method_6_code 2 (some .int) := C
  obtain ⟨ha, hV, hP, hL, hS, ga, gV, gP, gL, gS, nVP, nVS, nPS, nVL, nPL, nSL⟩ := H
  refine Own.aloadN C d11_0 (q := 1) rfl rfl rfl ?_
  refine Own.getfield C d11_1 (q := 4) rfl (host := "") (Or.inl (hw _ (List.mem_of_getElem? (i := 21) rfl))) Via.refl ha (j := 0) rfl ?_
  refine Own.iloadN C d11_4 (q := 5) rfl rfl ?_
  refine Own.iaload C d11_5 (q := 6) rfl hV (nneg hi) (v := (.int (vf j))) (by rw [tn hi]; exact ar_get vf hj) ?_
  refine Own.ireturn C d11_6 (by decide) (by decide) ?_
  exact ⟨_, rfl, rfl, rfl⟩
abbrev rm_10 : Room := { frames := 0, cells := 0, slots := 0, locals := 0 }
theorem d10_0 : decode prog_68_method_8_code 0 = .ok (.aload_n 0, 1) := by decide +kernel
theorem d10_1 : decode prog_68_method_8_code 1 = .ok (.getfield 16, 3) := by decide +kernel
theorem d10_4 : decode prog_68_method_8_code 4 = .ok (.iload_n 1, 1) := by decide +kernel
theorem d10_5 : decode prog_68_method_8_code 5 = .ok (.iload_n 2, 1) := by decide +kernel
theorem d10_6 : decode prog_68_method_8_code 6 = .ok (.i2l, 1) := by decide +kernel
theorem d10_7 : decode prog_68_method_8_code 7 = .ok (.bipush 32, 2) := by decide +kernel
theorem d10_9 : decode prog_68_method_8_code 9 = .ok (.lshl, 1) := by decide +kernel
theorem d10_10 : decode prog_68_method_8_code 10 = .ok (.iload_n 3, 1) := by decide +kernel
theorem d10_11 : decode prog_68_method_8_code 11 = .ok (.iconst 1, 1) := by decide +kernel
theorem d10_12 : decode prog_68_method_8_code 12 = .ok (.iadd, 1) := by decide +kernel
theorem d10_13 : decode prog_68_method_8_code 13 = .ok (.i2l, 1) := by decide +kernel
theorem d10_14 : decode prog_68_method_8_code 14 = .ok (.lor, 1) := by decide +kernel
theorem d10_15 : decode prog_68_method_8_code 15 = .ok (.lastore, 1) := by decide +kernel
theorem d10_16 : decode prog_68_method_8_code 16 = .ok (.aload_n 0, 1) := by decide +kernel
theorem d10_17 : decode prog_68_method_8_code 17 = .ok (.getfield 9, 3) := by decide +kernel
theorem d10_20 : decode prog_68_method_8_code 20 = .ok (.iload_n 3, 1) := by decide +kernel
theorem d10_21 : decode prog_68_method_8_code 21 = .ok (.iload_n 2, 1) := by decide +kernel
theorem d10_22 : decode prog_68_method_8_code 22 = .ok (.iastore, 1) := by decide +kernel
theorem d10_23 : decode prog_68_method_8_code 23 = .ok (.aload_n 0, 1) := by decide +kernel
theorem d10_24 : decode prog_68_method_8_code 24 = .ok (.getfield 20, 3) := by decide +kernel
theorem d10_27 : decode prog_68_method_8_code 27 = .ok (.iload_n 3, 1) := by decide +kernel
theorem d10_28 : decode prog_68_method_8_code 28 = .ok (.iload_n 1, 1) := by decide +kernel
theorem d10_29 : decode prog_68_method_8_code 29 = .ok (.iastore, 1) := by decide +kernel
theorem d10_30 : decode prog_68_method_8_code 30 = .ok (.return_, 1) := by decide +kernel
set_option maxRecDepth 65536 in
set_option maxHeartbeats 4000000 in
theorem c_put (l : Launch) (Z : State) (a0 : Array Value) (hw : ∀ d ∈ tables_1, d.before a0 Z = true) (n0 : Nat) (μ : Mem) (a : Addr) (s' : Int32) (x : Int32) (nn : Int32) (V Pl Sl So : Addr) (nV nP : Nat) (vf pf uf : Nat → Int32) (sf : Nat → Int64) (cn b lo : Int32) (c' t : Nat) (hc : nn.toInt = c') (hc8 : c' < 8) (hcV : c' < nV) (ht : s'.toInt = t) (ht16 : t < 16) (H : VNs n0 μ a V Pl Sl So nV nP vf pf uf sf cn b lo) :
    Con l Z n0 (⟨"com/example/parcours/parcours/search/ValueNumbers", "put", "(III)V"⟩ : MethodName) prog_68_method_8_code 4 none [] rm_10 rm_10.cells rm_10.slots #[(.ref a), (.int s'), (.int x), (.int nn)] μ (RV fun μ' => ∃ en, Ent en x c' ∧ VNs n0 μ' a V Pl Sl So nV nP (fun i => if i = c' then x else vf i) pf (fun i => if i = c' then s' else uf i) (fun i => if i = t then en else sf i) cn b lo) := by
  refine Con.intro (L0 := #[.val (.ref a), .val (.int s'), .val (.int x), .val (.int nn)]) (plainFor_of_name (by first | (simp [plainName, overriddenIn]; done) | decide +kernel)) (fun m => by first | (simp [entryFrame, mkF, argsToLocals, Value.category]; done) | rfl) ?_
  intro p e s m below meth c C
  have C : Ctx p s m meth c Z "com/example/parcours/parcours/search/ValueNumbers" "put" prog_68_method_8_code 4 none := C
  obtain ⟨ha, hV, hP, hL, hS, ga, gV, gP, gL, gS, nVP, nVS, nPS, nVL, nPL, nSL⟩ := H
  refine Own.aloadN C d10_0 (q := 1) rfl rfl rfl ?_
  refine Own.getfield C d10_1 (q := 4) rfl (host := "") (Or.inl (hw _ (List.mem_of_getElem? (i := 26) rfl))) Via.refl ha (j := 2) rfl ?_
  refine Own.iloadN C d10_4 (q := 5) rfl rfl ?_
  refine Own.iloadN C d10_5 (q := 6) rfl rfl ?_
  refine Own.i2l C d10_6 (q := 7) rfl fun z6 e6 => ?_
  refine Own.bipush C d10_7 (q := 9) rfl (z := 32) (by decide) ?_
  refine Own.lshl C d10_9 (q := 10) rfl fun z9 e9 => ?_
  refine Own.iloadN C d10_10 (q := 11) rfl rfl ?_
  refine Own.iconst C d10_11 (q := 12) rfl (z := 1) (by decide) ?_
  refine Own.iadd C d10_12 (q := 13) rfl fun z12 e12 => ?_
  refine Own.i2l C d10_13 (q := 14) rfl fun z13 e13 => ?_
  refine Own.lor C d10_14 (q := 15) rfl fun z14 e14 => ?_
  refine Own.lastore C d10_15 (q := 16) rfl hL (nneg ht) (by rw [al_len, tn ht]; omega) gL (mem (upd_list (vs' := (al 16 (fun i => if i = t then z14 else sf i))) (by rw [tn ht]; exact al_set sf _) rfl) ?_)
  refine Own.aloadN C d10_16 (q := 17) rfl rfl rfl ?_
  refine Own.getfield C d10_17 (q := 20) rfl (host := "") (Or.inl (hw _ (List.mem_of_getElem? (i := 21) rfl))) Via.refl (upd_at (Ne.symm (ne_ra hL ha)) ha) (j := 0) rfl ?_
  refine Own.iloadN C d10_20 (q := 21) rfl rfl ?_
  refine Own.iloadN C d10_21 (q := 22) rfl rfl ?_
  refine Own.iastore C d10_22 (q := 23) rfl (upd_at nVL hV) (nneg hc) (by rw [ar_len, tn hc]; omega) gV (mem (upd_list (vs' := (ar nV (fun i => if i = c' then x else vf i))) (by rw [tn hc]; exact ar_set vf _) rfl) ?_)
  refine Own.aloadN C d10_23 (q := 24) rfl rfl rfl ?_
  refine Own.getfield C d10_24 (q := 27) rfl (host := "") (Or.inl (hw _ (List.mem_of_getElem? (i := 28) rfl))) Via.refl (upd_at (Ne.symm (ne_ra hV ha)) (upd_at (Ne.symm (ne_ra hL ha)) ha)) (j := 3) rfl ?_
  refine Own.iloadN C d10_27 (q := 28) rfl rfl ?_
  refine Own.iloadN C d10_28 (q := 29) rfl rfl ?_
  refine Own.iastore C d10_29 (q := 30) rfl (upd_at (Ne.symm nVS) (upd_at nSL hS)) (nneg hc) (by rw [ar_len, tn hc]; omega) gS (mem (upd_list (vs' := (ar 8 (fun i => if i = c' then s' else uf i))) (by rw [tn hc]; exact ar_set uf _) rfl) ?_)
  refine Own.vreturn C d10_30 (by decide) (by decide) ?_
  exact ⟨rfl, z14, ent_mk hc hc8 e6 e9 e12 e13 e14, ⟨(upd_at (Ne.symm (ne_ra hS ha)) (upd_at (Ne.symm (ne_ra hV ha)) (upd_at (Ne.symm (ne_ra hL ha)) ha))), (upd_at nVS upd_same), (upd_at nPS (upd_at (Ne.symm nVP) (upd_at nPL hP))), (upd_at (Ne.symm nSL) (upd_at (Ne.symm nVL) upd_same)), upd_same, ga, gV, gP, gL, gS, nVP, nVS, nPS, nVL, nPL, nSL⟩⟩
abbrev rm_8 : Room := { frames := 0, cells := 0, slots := 0, locals := 0 }
theorem d8_0 : decode prog_68_method_7_code 0 = .ok (.aload_n 0, 1) := by decide +kernel
theorem d8_1 : decode prog_68_method_7_code 1 = .ok (.getfield 16, 3) := by decide +kernel
theorem d8_4 : decode prog_68_method_7_code 4 = .ok (.arraylength, 1) := by decide +kernel
theorem d8_5 : decode prog_68_method_7_code 5 = .ok (.iconst 1, 1) := by decide +kernel
theorem d8_6 : decode prog_68_method_7_code 6 = .ok (.isub, 1) := by decide +kernel
theorem d8_7 : decode prog_68_method_7_code 7 = .ok (.istore_n 2, 1) := by decide +kernel
theorem d8_8 : decode prog_68_method_7_code 8 = .ok (.iload_n 1, 1) := by decide +kernel
theorem d8_9 : decode prog_68_method_7_code 9 = .ok (.ldc 47, 2) := by decide +kernel
theorem d8_11 : decode prog_68_method_7_code 11 = .ok (.imul, 1) := by decide +kernel
theorem d8_12 : decode prog_68_method_7_code 12 = .ok (.istore_n 3, 1) := by decide +kernel
theorem d8_13 : decode prog_68_method_7_code 13 = .ok (.iload_n 3, 1) := by decide +kernel
theorem d8_14 : decode prog_68_method_7_code 14 = .ok (.iload_n 3, 1) := by decide +kernel
theorem d8_15 : decode prog_68_method_7_code 15 = .ok (.bipush 16, 2) := by decide +kernel
theorem d8_17 : decode prog_68_method_7_code 17 = .ok (.iushr, 1) := by decide +kernel
theorem d8_18 : decode prog_68_method_7_code 18 = .ok (.ixor, 1) := by decide +kernel
theorem d8_19 : decode prog_68_method_7_code 19 = .ok (.iload_n 2, 1) := by decide +kernel
theorem d8_20 : decode prog_68_method_7_code 20 = .ok (.iand, 1) := by decide +kernel
theorem d8_21 : decode prog_68_method_7_code 21 = .ok (.istore 4, 2) := by decide +kernel
theorem d8_23 : decode prog_68_method_7_code 23 = .ok (.aload_n 0, 1) := by decide +kernel
theorem d8_24 : decode prog_68_method_7_code 24 = .ok (.getfield 16, 3) := by decide +kernel
theorem d8_27 : decode prog_68_method_7_code 27 = .ok (.iload 4, 2) := by decide +kernel
theorem d8_29 : decode prog_68_method_7_code 29 = .ok (.laload, 1) := by decide +kernel
theorem d8_30 : decode prog_68_method_7_code 30 = .ok (.lstore 5, 2) := by decide +kernel
theorem d8_32 : decode prog_68_method_7_code 32 = .ok (.lload 5, 2) := by decide +kernel
theorem d8_34 : decode prog_68_method_7_code 34 = .ok (.lconst 0, 1) := by decide +kernel
theorem d8_35 : decode prog_68_method_7_code 35 = .ok (.lcmp, 1) := by decide +kernel
theorem d8_36 : decode prog_68_method_7_code 36 = .ok (.ifCond .eq 33, 3) := by decide +kernel
theorem d8_39 : decode prog_68_method_7_code 39 = .ok (.lload 5, 2) := by decide +kernel
theorem d8_41 : decode prog_68_method_7_code 41 = .ok (.bipush 32, 2) := by decide +kernel
theorem d8_43 : decode prog_68_method_7_code 43 = .ok (.lushr, 1) := by decide +kernel
theorem d8_44 : decode prog_68_method_7_code 44 = .ok (.l2i, 1) := by decide +kernel
theorem d8_45 : decode prog_68_method_7_code 45 = .ok (.iload_n 1, 1) := by decide +kernel
theorem d8_46 : decode prog_68_method_7_code 46 = .ok (.if_icmp .eq 23, 3) := by decide +kernel
theorem d8_49 : decode prog_68_method_7_code 49 = .ok (.iload 4, 2) := by decide +kernel
theorem d8_51 : decode prog_68_method_7_code 51 = .ok (.iconst 1, 1) := by decide +kernel
theorem d8_52 : decode prog_68_method_7_code 52 = .ok (.iadd, 1) := by decide +kernel
theorem d8_53 : decode prog_68_method_7_code 53 = .ok (.iload_n 2, 1) := by decide +kernel
theorem d8_54 : decode prog_68_method_7_code 54 = .ok (.iand, 1) := by decide +kernel
theorem d8_55 : decode prog_68_method_7_code 55 = .ok (.istore 4, 2) := by decide +kernel
theorem d8_57 : decode prog_68_method_7_code 57 = .ok (.aload_n 0, 1) := by decide +kernel
theorem d8_58 : decode prog_68_method_7_code 58 = .ok (.getfield 16, 3) := by decide +kernel
theorem d8_61 : decode prog_68_method_7_code 61 = .ok (.iload 4, 2) := by decide +kernel
theorem d8_63 : decode prog_68_method_7_code 63 = .ok (.laload, 1) := by decide +kernel
theorem d8_64 : decode prog_68_method_7_code 64 = .ok (.lstore 5, 2) := by decide +kernel
theorem d8_66 : decode prog_68_method_7_code 66 = .ok (.goto (-34), 3) := by decide +kernel
theorem d8_69 : decode prog_68_method_7_code 69 = .ok (.iload 4, 2) := by decide +kernel
theorem d8_71 : decode prog_68_method_7_code 71 = .ok (.ireturn, 1) := by decide +kernel
set_option maxRecDepth 65536 in
set_option maxHeartbeats 4000000 in
theorem c_slot (l : Launch) (Z : State) (a0 : Array Value) (hw : ∀ d ∈ tables_1, d.before a0 Z = true) (n0 : Nat) (μ : Mem) (a : Addr) (x : Int32) (V Pl Sl So : Addr) (nV nP : Nat) (vf pf uf : Nat → Int32) (sf : Nat → Int64) (cn b lo : Int32) (M : Nat) (hM : sf ((Hx x + M) % 16) = 0) (H : VNs n0 μ a V Pl Sl So nV nP vf pf uf sf cn b lo) :
    Con l Z n0 (⟨"com/example/parcours/parcours/search/ValueNumbers", "slotOf", "(I)I"⟩ : MethodName) prog_68_method_7_code 7 (some .int) [] rm_8 rm_8.cells rm_8.slots #[(.ref a), (.int x)] μ (RI fun z μ' => μ' = μ ∧ ∃ mm, z.toInt = ((Hx x + mm) % 16 : Nat) ∧ Path x sf mm ∧ (sf ((Hx x + mm) % 16) = 0 ∨ hi32 (sf ((Hx x + mm) % 16)) = x)) := by
  refine Con.intro (L0 := #[.val (.ref a), .val (.int x), .unset, .unset, .unset, .unset, .unset]) (plainFor_of_name (by first | (simp [plainName, overriddenIn]; done) | decide +kernel)) (fun m => by first | (simp [entryFrame, mkF, argsToLocals, Value.category]; done) | rfl) ?_
  intro p e s m below meth c C
  have C : Ctx p s m meth c Z "com/example/parcours/parcours/search/ValueNumbers" "slotOf" prog_68_method_7_code 7 (some .int) := C
  obtain ⟨ha, hV, hP, hL, hS, ga, gV, gP, gL, gS, nVP, nVS, nPS, nVL, nPL, nSL⟩ := H
  refine Own.aloadN C d8_0 (q := 1) rfl rfl rfl ?_
  refine Own.getfield C d8_1 (q := 4) rfl (host := "") (Or.inl (hw _ (List.mem_of_getElem? (i := 26) rfl))) Via.refl ha (j := 2) rfl ?_
  refine Own.arraylength C d8_4 (q := 5) rfl hL fun z4 e4 e4i => ?_
  refine Own.iconst C d8_5 (q := 6) rfl (z := 1) (by decide) ?_
  refine Own.isub C d8_6 (q := 7) rfl fun z6 e6 => ?_
  obtain rfl : z6 = 15 := by have o := c_isub z4 1; rw [← e6] at o; have := rng32 z6; rw [al_len] at e4i; simp only [show (1 : Int32).toInt = 1 from rfl] at o; exact Int32.toInt_inj.mp (by rw [show (15 : Int32).toInt = 15 from rfl]; omega)
  refine Own.istoreN C d8_7 (q := 8) rfl (L' := #[.val (.ref a), .val (.int x), .val (.int (15 : Int32)), .unset, .unset, .unset, .unset]) rfl ?_
  refine Own.iloadN C d8_8 (q := 9) rfl rfl ?_
  refine Own.ldcI C d8_9 (q := 11) rfl (hw _ (List.mem_of_getElem? (i := 55) rfl)) ?_
  refine Own.imul C d8_11 (q := 12) rfl fun z11 e11 => ?_
  refine Own.istoreN C d8_12 (q := 13) rfl (L' := #[.val (.ref a), .val (.int x), .val (.int (15 : Int32)), .val (.int z11), .unset, .unset, .unset]) rfl ?_
  refine Own.iloadN C d8_13 (q := 14) rfl rfl ?_
  refine Own.iloadN C d8_14 (q := 15) rfl rfl ?_
  refine Own.bipush C d8_15 (q := 17) rfl (z := 16) (by decide) ?_
  refine Own.iushr C d8_17 (q := 18) rfl fun z17 e17 => ?_
  refine Own.ixor C d8_18 (q := 19) rfl fun z18 e18 => ?_
  refine Own.iloadN C d8_19 (q := 20) rfl rfl ?_
  refine Own.iand C d8_20 (q := 21) rfl fun z20 e20 => ?_
  refine Own.istore C d8_21 (q := 23) rfl (L' := #[.val (.ref a), .val (.int x), .val (.int (15 : Int32)), .val (.int z11), .val (.int z20), .unset, .unset]) rfl ?_
  have hs0 : z20.toInt = ((Hx x + 0) % 16 : Nat) := by have := hx_lt x; have q : z20 = hx x := (by rw [e20, e18, e17, e11]; rfl); rw [q]; omega
  refine Own.aloadN C d8_23 (q := 24) rfl rfl rfl ?_
  refine Own.getfield C d8_24 (q := 27) rfl (host := "") (Or.inl (hw _ (List.mem_of_getElem? (i := 26) rfl))) Via.refl ha (j := 2) rfl ?_
  refine Own.iload C d8_27 (q := 29) rfl rfl ?_
  refine Own.laload C d8_29 (q := 30) rfl hL (nneg hs0) (v := (.long (sf ((Hx x + 0) % 16)))) (by rw [tn hs0]; exact al_get sf (by omega)) ?_
  refine Own.lstore C d8_30 (q := 32) rfl (L' := #[.val (.ref a), .val (.int x), .val (.int (15 : Int32)), .val (.int z11), .val (.int z20), .val (.long (sf ((Hx x + 0) % 16))), .second]) rfl ?_
  have J32 : ∀ (N mm : Nat) (s1 : Int32), s1.toInt = ((Hx x + mm) % 16 : Nat) → Path x sf mm → mm ≤ M → M - mm < N → Go p l e rm_8 s m #[(.ref a), (.int x)] below meth c Z n0 (RI fun z μ' => μ' = μ ∧ ∃ mm, z.toInt = ((Hx x + mm) % 16 : Nat) ∧ Path x sf mm ∧ (sf ((Hx x + mm) % 16) = 0 ∨ hi32 (sf ((Hx x + mm) % 16)) = x)) rm_8.cells rm_8.slots μ (0) (0) (mkF m 32 #[.val (.ref a), .val (.int x), .val (.int (15 : Int32)), .val (.int z11), .val (.int s1), .val (.long (sf ((Hx x + mm) % 16))), .second] []) := by
    intro N
    induction N with
    | zero => intro mm s1 _ _ _ h; omega
    | succ N ih =>
      intro mm s1 hs1 hp hm hN
      refine Own.lload C d8_32 (q := 34) rfl rfl ?_
      refine Own.lconst C d8_34 (q := 35) rfl (z := 0) (by decide) ?_
      refine Own.lcmp_eq C d8_35 (pc1 := 36) rfl d8_36 (q := 39) rfl (r := 69) (by decide) (fun h35 => ?_) (fun h35 => ?_)
      · refine Own.iload C d8_69 (q := 71) rfl rfl ?_
        refine Own.ireturn C d8_71 (by decide) (by decide) ?_
        exact ⟨_, rfl, rfl, mm, hs1, hp, Or.inl h35⟩
      · refine Own.lload C d8_39 (q := 41) rfl rfl ?_
        refine Own.bipush C d8_41 (q := 43) rfl (z := 32) (by decide) ?_
        refine Own.lushr C d8_43 (q := 44) rfl fun z43 e43 => ?_
        refine Own.l2i C d8_44 (q := 45) rfl fun z44 e44 => ?_
        refine Own.iloadN C d8_45 (q := 46) rfl rfl ?_
        refine Own.icmp_eq C d8_46 (q := 49) rfl (r := 69) (by decide) (fun h46 => ?_) (fun h46 => ?_)
        · refine Own.iload C d8_69 (q := 71) rfl rfl ?_
          refine Own.ireturn C d8_71 (by decide) (by decide) ?_
          exact ⟨_, rfl, rfl, mm, hs1, hp, Or.inr (by rw [e44, e43] at h46; exact h46)⟩
        · refine Own.iload C d8_49 (q := 51) rfl rfl ?_
          refine Own.iconst C d8_51 (q := 52) rfl (z := 1) (by decide) ?_
          refine Own.iadd C d8_52 (q := 53) rfl fun z52 e52 => ?_
          refine Own.iloadN C d8_53 (q := 54) rfl rfl ?_
          refine Own.iand C d8_54 (q := 55) rfl fun z54 e54 => ?_
          have hs1' : z54.toInt = ((Hx x + (mm + 1)) % 16 : Nat) := by have o1 := c_iadd s1 1; rw [← e52] at o1; have o2 := c_mask z52 15 4 (by decide) (by decide); rw [← e54] at o2; have o2 : z54.toInt = z52.toInt % 16 := o2; have := rng32 z52; simp only [show (1 : Int32).toInt = 1 from rfl] at o1; omega
          have hp' : Path x sf (mm + 1) := fun j hj => by
            by_cases q : j = mm
            · subst q; exact ⟨h35, fun q' => h46 (by rw [e44, e43]; exact q')⟩
            · exact hp j (by omega)
          have hm' : mm + 1 ≤ M := Nat.lt_of_le_of_ne hm (fun q => h35 (by rw [q]; exact hM))
          refine Own.istore C d8_55 (q := 57) rfl (L' := #[.val (.ref a), .val (.int x), .val (.int (15 : Int32)), .val (.int z11), .val (.int z54), .val (.long (sf ((Hx x + mm) % 16))), .second]) rfl ?_
          refine Own.aloadN C d8_57 (q := 58) rfl rfl rfl ?_
          refine Own.getfield C d8_58 (q := 61) rfl (host := "") (Or.inl (hw _ (List.mem_of_getElem? (i := 26) rfl))) Via.refl ha (j := 2) rfl ?_
          refine Own.iload C d8_61 (q := 63) rfl rfl ?_
          refine Own.laload C d8_63 (q := 64) rfl hL (nneg hs1') (v := (.long (sf ((Hx x + (mm + 1)) % 16)))) (by rw [tn hs1']; exact al_get sf (by omega)) ?_
          refine Own.lstore C d8_64 (q := 66) rfl (L' := #[.val (.ref a), .val (.int x), .val (.int (15 : Int32)), .val (.int z11), .val (.int z54), .val (.long (sf ((Hx x + (mm + 1)) % 16))), .second]) rfl ?_
          refine Own.goto C d8_66 (q := 32) (by decide) ?_
          exact ih (mm + 1) _ hs1' hp' hm' (by omega)
  exact J32 (M + 1) 0 _ hs0 (fun j h => absurd h (by omega)) (by omega) (by omega)
theorem pd_0 : parseMethodDescriptor "(I)I" = some ⟨[.int], some .int⟩ := by decide +kernel
theorem pd_1 : parseMethodDescriptor "(III)V" = some ⟨[.int, .int, .int], none⟩ := by decide +kernel
abbrev rm_9 : Room := { frames := 1, cells := 0, slots := 0, locals := 19 }
theorem d9_0 : decode prog_68_method_4_code 0 = .ok (.aload_n 0, 1) := by decide +kernel
theorem d9_1 : decode prog_68_method_4_code 1 = .ok (.getfield 27, 3) := by decide +kernel
theorem d9_4 : decode prog_68_method_4_code 4 = .ok (.ifCond .eq 42, 3) := by decide +kernel
theorem d9_46 : decode prog_68_method_4_code 46 = .ok (.iconst 2, 1) := by decide +kernel
theorem d9_47 : decode prog_68_method_4_code 47 = .ok (.aload_n 0, 1) := by decide +kernel
theorem d9_48 : decode prog_68_method_4_code 48 = .ok (.getfield 23, 3) := by decide +kernel
theorem d9_51 : decode prog_68_method_4_code 51 = .ok (.iconst 1, 1) := by decide +kernel
theorem d9_52 : decode prog_68_method_4_code 52 = .ok (.iadd, 1) := by decide +kernel
theorem d9_53 : decode prog_68_method_4_code 53 = .ok (.imul, 1) := by decide +kernel
theorem d9_54 : decode prog_68_method_4_code 54 = .ok (.aload_n 0, 1) := by decide +kernel
theorem d9_55 : decode prog_68_method_4_code 55 = .ok (.getfield 16, 3) := by decide +kernel
theorem d9_58 : decode prog_68_method_4_code 58 = .ok (.arraylength, 1) := by decide +kernel
theorem d9_59 : decode prog_68_method_4_code 59 = .ok (.if_icmp .le 7, 3) := by decide +kernel
theorem d9_66 : decode prog_68_method_4_code 66 = .ok (.aload_n 0, 1) := by decide +kernel
theorem d9_67 : decode prog_68_method_4_code 67 = .ok (.aload_n 0, 1) := by decide +kernel
theorem d9_68 : decode prog_68_method_4_code 68 = .ok (.iload_n 1, 1) := by decide +kernel
theorem d9_69 : decode prog_68_method_4_code 69 = .ok (.invokevirtual 34, 3) := by decide +kernel
theorem d9_72 : decode prog_68_method_4_code 72 = .ok (.iload_n 1, 1) := by decide +kernel
theorem d9_73 : decode prog_68_method_4_code 73 = .ok (.aload_n 0, 1) := by decide +kernel
theorem d9_74 : decode prog_68_method_4_code 74 = .ok (.getfield 23, 3) := by decide +kernel
theorem d9_77 : decode prog_68_method_4_code 77 = .ok (.invokevirtual 43, 3) := by decide +kernel
theorem d9_80 : decode prog_68_method_4_code 80 = .ok (.aload_n 0, 1) := by decide +kernel
theorem d9_81 : decode prog_68_method_4_code 81 = .ok (.dup, 1) := by decide +kernel
theorem d9_82 : decode prog_68_method_4_code 82 = .ok (.getfield 23, 3) := by decide +kernel
theorem d9_85 : decode prog_68_method_4_code 85 = .ok (.dup_x1, 1) := by decide +kernel
theorem d9_86 : decode prog_68_method_4_code 86 = .ok (.iconst 1, 1) := by decide +kernel
theorem d9_87 : decode prog_68_method_4_code 87 = .ok (.iadd, 1) := by decide +kernel
theorem d9_88 : decode prog_68_method_4_code 88 = .ok (.putfield 23, 3) := by decide +kernel
theorem d9_91 : decode prog_68_method_4_code 91 = .ok (.ireturn, 1) := by decide +kernel
set_option maxRecDepth 65536 in
set_option maxHeartbeats 4000000 in
theorem c_nnH (l : Launch) (Z : State) (a0 : Array Value) (hw : ∀ d ∈ tables_1, d.before a0 Z = true) (n0 : Nat) (μ : Mem) (a : Addr) (x : Int32) (V Pl Sl So : Addr) (nV nP : Nat) (vf pf uf : Nat → Int32) (sf : Nat → Int64) (cn b lo : Int32) (c' : Nat) (hc : cn.toInt = c') (hc2 : c' ≤ 2) (hV8 : 8 ≤ nV) (hI : Inv 0 c' b lo nV nP vf pf uf sf) (hR : b = 0 → Reach c' vf uf sf) (hb : b = 0) (hno : ∀ i, i < c' → vf i ≠ x) (H : VNs n0 μ a V Pl Sl So nV nP vf pf uf sf cn b lo) :
    Con l Z n0 (⟨"com/example/parcours/parcours/search/ValueNumbers", "numberNew", "(I)I"⟩ : MethodName) prog_68_method_4_code 2 (some .int) [] rm_9 rm_9.cells rm_9.slots #[(.ref a), (.int x)] μ (RI fun z μ' => z.toInt = c' ∧ ∃ cn' vf' pf' uf' sf', VNs n0 μ' a V Pl Sl So nV nP vf' pf' uf' sf' cn' b lo ∧ cn'.toInt = c' + 1 ∧ Inv 0 (c' + 1) b lo nV nP vf' pf' uf' sf' ∧ (b = 0 → Reach (c' + 1) vf' uf' sf') ∧ vf' c' = x ∧ ∀ i, i < c' → vf' i = vf i) := by
  refine Con.intro (L0 := #[.val (.ref a), .val (.int x)]) (plainFor_of_name (by first | (simp [plainName, overriddenIn]; done) | decide +kernel)) (fun m => by first | (simp [entryFrame, mkF, argsToLocals, Value.category]; done) | rfl) ?_
  intro p e s m below meth c C
  have C : Ctx p s m meth c Z "com/example/parcours/parcours/search/ValueNumbers" "numberNew" prog_68_method_4_code 2 (some .int) := C
  obtain ⟨ha, hV, hP, hL, hS, ga, gV, gP, gL, gS, nVP, nVS, nPS, nVL, nPL, nSL⟩ := H
  refine Own.aloadN C d9_0 (q := 1) rfl rfl rfl ?_
  refine Own.getfield C d9_1 (q := 4) rfl (host := "") (Or.inl (hw _ (List.mem_of_getElem? (i := 37) rfl))) Via.refl ha (j := 5) rfl ?_
  refine Own.if_eq C d9_4 (q := 7) rfl (r := 46) (by decide) (fun h4 => ?_) (fun h4 => ?_)
  · refine Own.iconst C d9_46 (q := 47) rfl (z := 2) (by decide) ?_
    refine Own.aloadN C d9_47 (q := 48) rfl rfl rfl ?_
    refine Own.getfield C d9_48 (q := 51) rfl (host := "") (Or.inl (hw _ (List.mem_of_getElem? (i := 35) rfl))) Via.refl ha (j := 4) rfl ?_
    refine Own.iconst C d9_51 (q := 52) rfl (z := 1) (by decide) ?_
    refine Own.iadd C d9_52 (q := 53) rfl fun z52 e52 => ?_
    refine Own.imul C d9_53 (q := 54) rfl fun z53 e53 => ?_
    refine Own.aloadN C d9_54 (q := 55) rfl rfl rfl ?_
    refine Own.getfield C d9_55 (q := 58) rfl (host := "") (Or.inl (hw _ (List.mem_of_getElem? (i := 26) rfl))) Via.refl ha (j := 2) rfl ?_
    refine Own.arraylength C d9_58 (q := 59) rfl hL fun z58 e58 e58i => ?_
    refine Own.icmp_le C d9_59 (q := 62) rfl (r := 66) (by decide) (fun h59 => ?_) (fun h59 => ?_)
    · obtain ⟨M, -, hM⟩ := hI.gap hb hc2 (Hx x)
      refine Own.aloadN C d9_66 (q := 67) rfl rfl rfl ?_
      refine Own.aloadN C d9_67 (q := 68) rfl rfl rfl ?_
      refine Own.iloadN C d9_68 (q := 69) rfl rfl ?_
      refine Own.callP C d9_69 (q := 72) rfl (hw _ (List.mem_of_getElem? (i := 51) rfl)) (hw _ (List.mem_of_getElem? (i := 53) rfl)) (hw _ (List.mem_of_getElem? (i := 12) rfl)) (hw _ (List.mem_of_getElem? (i := 52) rfl)) (hw _ (List.mem_of_getElem? (i := 13) rfl)) (hw _ (List.mem_of_getElem? (i := 54) rfl)) (by decide) (W := 1) (rm := rm_8) (argsL := [(.int x)]) (st := [(.ref a)]) (lenOf pd_0 rfl) rfl rfl (Nat.le_of_eq rfl) (by decide) (by decide) (by decide) (by decide) ha (c_slot l Z a0 hw n0 _ a x V Pl Sl So nV nP vf pf uf sf cn b lo M hM ⟨ha, hV, hP, hL, hS, ga, gV, gP, gL, gS, nVP, nVS, nPS, nVL, nPL, nSL⟩) (nxI fun z69 μ69 h69 => ?_)
      obtain ⟨h69m, mm, hz_m, hpth, hstop⟩ := h69
      refine Own.mem h69m ?_
      have hnil : sf ((Hx x + mm) % 16) = 0 := (stop_old hI hb (hR hb) hpth hstop).elim (fun q => q.1) (fun ⟨i, q1, q2, _⟩ => absurd q2 (hno i q1))
      obtain ⟨t, et⟩ : ∃ t, t = (Hx x + mm) % 16 := ⟨_, rfl⟩
      have ht : z69.toInt = t := by rw [et]; exact hz_m
      have ht16 : t < 16 := by omega
      have hc8 : c' < 8 := by omega
      have hcV : c' < nV := by omega
      refine Own.iloadN C d9_72 (q := 73) rfl rfl ?_
      refine Own.aloadN C d9_73 (q := 74) rfl rfl rfl ?_
      refine Own.getfield C d9_74 (q := 77) rfl (host := "") (Or.inl (hw _ (List.mem_of_getElem? (i := 35) rfl))) Via.refl ha (j := 4) rfl ?_
      refine Own.callP C d9_77 (q := 80) rfl (hw _ (List.mem_of_getElem? (i := 60) rfl)) (hw _ (List.mem_of_getElem? (i := 62) rfl)) (hw _ (List.mem_of_getElem? (i := 12) rfl)) (hw _ (List.mem_of_getElem? (i := 61) rfl)) (hw _ (List.mem_of_getElem? (i := 13) rfl)) (hw _ (List.mem_of_getElem? (i := 63) rfl)) (by decide) (W := 0) (rm := rm_10) (argsL := [(.int z69), (.int x), (.int cn)]) (st := []) (lenOf pd_1 rfl) rfl rfl (Nat.le_of_eq rfl) (by decide) (by decide) (by decide) (by decide) ha (c_put l Z a0 hw n0 _ a z69 x cn V Pl Sl So nV nP vf pf uf sf cn b lo c' t hc hc8 hcV ht ht16 ⟨ha, hV, hP, hL, hS, ga, gV, gP, gL, gS, nVP, nVS, nPS, nVL, nPL, nSL⟩) (nxV fun μ77 h77 => ?_)
      obtain ⟨en, hen, ha', hV', hP', hL', hS', -⟩ := h77
      refine Own.aloadN C d9_80 (q := 81) rfl rfl rfl ?_
      refine Own.dup C d9_81 (q := 82) rfl rfl ?_
      refine Own.getfield C d9_82 (q := 85) rfl (host := "") (Or.inl (hw _ (List.mem_of_getElem? (i := 35) rfl))) Via.refl ha' (j := 4) rfl ?_
      refine Own.dupX1 C d9_85 (q := 86) rfl rfl rfl ?_
      refine Own.iconst C d9_86 (q := 87) rfl (z := 1) (by decide) ?_
      refine Own.iadd C d9_87 (q := 88) rfl fun z87 e87 => ?_
      refine Own.putfield C d9_88 (q := 91) rfl (host := "") (Or.inl (hw _ (List.mem_of_getElem? (i := 35) rfl))) Via.refl (Or.inl (hw _ (List.mem_of_getElem? (i := 36) rfl))) (hw _ (List.mem_of_getElem? (i := 12) rfl)) (ty := .int) (by decide) rfl rfl ha' (j := 4) rfl (fs' := [(("com/example/parcours/parcours/search/ValueNumbers", "values", "[I"), (.ref V)), (("com/example/parcours/parcours/search/ValueNumbers", "places", "[I"), (.ref Pl)), (("com/example/parcours/parcours/search/ValueNumbers", "slots", "[J"), (.ref Sl)), (("com/example/parcours/parcours/search/ValueNumbers", "slotOf", "[I"), (.ref So)), (("com/example/parcours/parcours/search/ValueNumbers", "count", "I"), (.int z87)), (("com/example/parcours/parcours/search/ValueNumbers", "byPlace", "Z"), (.int b)), (("com/example/parcours/parcours/search/ValueNumbers", "least", "I"), (.int lo))]) rfl ga (mem rfl ?_)
      refine Own.ireturn C d9_91 (by decide) (by decide) ?_
      subst et
      obtain ⟨k1, k2⟩ := add_slot hI hb (hR hb) hpth hnil ht hen
      exact ⟨_, rfl, hc, _, _, _, _, _, ⟨upd_same, (upd_at (ne_ra hV ha) hV'), (upd_at (ne_ra hP ha) hP'), (upd_at (ne_ra hL ha) hL'), (upd_at (ne_ra hS ha) hS'), ga, gV, gP, gL, gS, nVP, nVS, nPS, nVL, nPL, nSL⟩, (by have o := c_iadd cn 1; rw [← e87] at o; have := rng32 z87; simp only [show (1 : Int32).toInt = 1 from rfl] at o; omega), k1, fun _ => k2, by simp, fun i hi => by simp [show i ≠ c' by omega]⟩
    · exfalso; rw [al_len] at e58i; have o1 := c_iadd cn 1; rw [← e52] at o1; have o2 := c_imul 2 z52; rw [← e53] at o2; have := rng32 z52; have := rng32 z53; simp only [show (1 : Int32).toInt = 1 from rfl, show (2 : Int32).toInt = 2 from rfl] at o1 o2; simp only [Decidable.not_not, Int32.lt_iff_toInt_lt] at h59; omega
  · exact absurd hb h4
theorem d9_7 : decode prog_68_method_4_code 7 = .ok (.aload_n 0, 1) := by decide +kernel
theorem d9_8 : decode prog_68_method_4_code 8 = .ok (.getfield 13, 3) := by decide +kernel
theorem d9_11 : decode prog_68_method_4_code 11 = .ok (.iload_n 1, 1) := by decide +kernel
theorem d9_12 : decode prog_68_method_4_code 12 = .ok (.aload_n 0, 1) := by decide +kernel
theorem d9_13 : decode prog_68_method_4_code 13 = .ok (.getfield 31, 3) := by decide +kernel
theorem d9_16 : decode prog_68_method_4_code 16 = .ok (.isub, 1) := by decide +kernel
theorem d9_17 : decode prog_68_method_4_code 17 = .ok (.aload_n 0, 1) := by decide +kernel
theorem d9_18 : decode prog_68_method_4_code 18 = .ok (.getfield 23, 3) := by decide +kernel
theorem d9_21 : decode prog_68_method_4_code 21 = .ok (.iconst 1, 1) := by decide +kernel
theorem d9_22 : decode prog_68_method_4_code 22 = .ok (.iadd, 1) := by decide +kernel
theorem d9_23 : decode prog_68_method_4_code 23 = .ok (.iastore, 1) := by decide +kernel
theorem d9_24 : decode prog_68_method_4_code 24 = .ok (.aload_n 0, 1) := by decide +kernel
theorem d9_25 : decode prog_68_method_4_code 25 = .ok (.getfield 9, 3) := by decide +kernel
theorem d9_28 : decode prog_68_method_4_code 28 = .ok (.aload_n 0, 1) := by decide +kernel
theorem d9_29 : decode prog_68_method_4_code 29 = .ok (.getfield 23, 3) := by decide +kernel
theorem d9_32 : decode prog_68_method_4_code 32 = .ok (.iload_n 1, 1) := by decide +kernel
theorem d9_33 : decode prog_68_method_4_code 33 = .ok (.iastore, 1) := by decide +kernel
theorem d9_34 : decode prog_68_method_4_code 34 = .ok (.aload_n 0, 1) := by decide +kernel
theorem d9_35 : decode prog_68_method_4_code 35 = .ok (.dup, 1) := by decide +kernel
theorem d9_36 : decode prog_68_method_4_code 36 = .ok (.getfield 23, 3) := by decide +kernel
theorem d9_39 : decode prog_68_method_4_code 39 = .ok (.dup_x1, 1) := by decide +kernel
theorem d9_40 : decode prog_68_method_4_code 40 = .ok (.iconst 1, 1) := by decide +kernel
theorem d9_41 : decode prog_68_method_4_code 41 = .ok (.iadd, 1) := by decide +kernel
theorem d9_42 : decode prog_68_method_4_code 42 = .ok (.putfield 23, 3) := by decide +kernel
theorem d9_45 : decode prog_68_method_4_code 45 = .ok (.ireturn, 1) := by decide +kernel
set_option maxRecDepth 65536 in
set_option maxHeartbeats 4000000 in
theorem c_nnP (l : Launch) (Z : State) (a0 : Array Value) (hw : ∀ d ∈ tables_1, d.before a0 Z = true) (n0 : Nat) (μ : Mem) (a : Addr) (x : Int32) (V Pl Sl So : Addr) (nV nP : Nat) (vf pf uf : Nat → Int32) (sf : Nat → Int64) (cn b lo : Int32) (c' : Nat) (hc : cn.toInt = c') (hc2 : c' ≤ 2) (hV8 : 8 ≤ nV) (hI : Inv 0 c' b lo nV nP vf pf uf sf) (hR : b = 0 → Reach c' vf uf sf) (hb : b ≠ 0) (d : Nat) (hd : d < nP) (hxd : (x - lo).toInt = (d : Nat)) (hz : pf d = 0) (H : VNs n0 μ a V Pl Sl So nV nP vf pf uf sf cn b lo) :
    Con l Z n0 (⟨"com/example/parcours/parcours/search/ValueNumbers", "numberNew", "(I)I"⟩ : MethodName) prog_68_method_4_code 2 (some .int) [] rm_9 rm_9.cells rm_9.slots #[(.ref a), (.int x)] μ (RI fun z μ' => z.toInt = c' ∧ ∃ cn' vf' pf' uf' sf', VNs n0 μ' a V Pl Sl So nV nP vf' pf' uf' sf' cn' b lo ∧ cn'.toInt = c' + 1 ∧ Inv 0 (c' + 1) b lo nV nP vf' pf' uf' sf' ∧ (b = 0 → Reach (c' + 1) vf' uf' sf') ∧ vf' c' = x ∧ ∀ i, i < c' → vf' i = vf i) := by
  refine Con.intro (L0 := #[.val (.ref a), .val (.int x)]) (plainFor_of_name (by first | (simp [plainName, overriddenIn]; done) | decide +kernel)) (fun m => by first | (simp [entryFrame, mkF, argsToLocals, Value.category]; done) | rfl) ?_
  intro p e s m below meth c C
  have C : Ctx p s m meth c Z "com/example/parcours/parcours/search/ValueNumbers" "numberNew" prog_68_method_4_code 2 (some .int) := C
  obtain ⟨ha, hV, hP, hL, hS, ga, gV, gP, gL, gS, nVP, nVS, nPS, nVL, nPL, nSL⟩ := H
  refine Own.aloadN C d9_0 (q := 1) rfl rfl rfl ?_
  refine Own.getfield C d9_1 (q := 4) rfl (host := "") (Or.inl (hw _ (List.mem_of_getElem? (i := 37) rfl))) Via.refl ha (j := 5) rfl ?_
  refine Own.if_eq C d9_4 (q := 7) rfl (r := 46) (by decide) (fun h4 => ?_) (fun h4 => ?_)
  · exact absurd h4 hb
  · refine Own.aloadN C d9_7 (q := 8) rfl rfl rfl ?_
    refine Own.getfield C d9_8 (q := 11) rfl (host := "") (Or.inl (hw _ (List.mem_of_getElem? (i := 23) rfl))) Via.refl ha (j := 1) rfl ?_
    refine Own.iloadN C d9_11 (q := 12) rfl rfl ?_
    refine Own.aloadN C d9_12 (q := 13) rfl rfl rfl ?_
    refine Own.getfield C d9_13 (q := 16) rfl (host := "") (Or.inl (hw _ (List.mem_of_getElem? (i := 39) rfl))) Via.refl ha (j := 6) rfl ?_
    refine Own.isub C d9_16 (q := 17) rfl fun z16 e16 => ?_
    have hd' : z16.toInt = (d : Nat) := by rw [e16]; exact hxd
    refine Own.aloadN C d9_17 (q := 18) rfl rfl rfl ?_
    refine Own.getfield C d9_18 (q := 21) rfl (host := "") (Or.inl (hw _ (List.mem_of_getElem? (i := 35) rfl))) Via.refl ha (j := 4) rfl ?_
    refine Own.iconst C d9_21 (q := 22) rfl (z := 1) (by decide) ?_
    refine Own.iadd C d9_22 (q := 23) rfl fun z22 e22 => ?_
    refine Own.iastore C d9_23 (q := 24) rfl hP (nneg hd') (by rw [ar_len, tn hd']; omega) gP (mem (upd_list (vs' := (ar nP (fun i => if i = d then z22 else pf i))) (by rw [tn hd']; exact ar_set pf _) rfl) ?_)
    refine Own.aloadN C d9_24 (q := 25) rfl rfl rfl ?_
    refine Own.getfield C d9_25 (q := 28) rfl (host := "") (Or.inl (hw _ (List.mem_of_getElem? (i := 21) rfl))) Via.refl (upd_at (Ne.symm (ne_ra hP ha)) ha) (j := 0) rfl ?_
    refine Own.aloadN C d9_28 (q := 29) rfl rfl rfl ?_
    refine Own.getfield C d9_29 (q := 32) rfl (host := "") (Or.inl (hw _ (List.mem_of_getElem? (i := 35) rfl))) Via.refl (upd_at (Ne.symm (ne_ra hP ha)) ha) (j := 4) rfl ?_
    refine Own.iloadN C d9_32 (q := 33) rfl rfl ?_
    refine Own.iastore C d9_33 (q := 34) rfl (upd_at nVP hV) (nneg hc) (by rw [ar_len, tn hc]; omega) gV (mem (upd_list (vs' := (ar nV (fun i => if i = c' then x else vf i))) (by rw [tn hc]; exact ar_set vf _) rfl) ?_)
    refine Own.aloadN C d9_34 (q := 35) rfl rfl rfl ?_
    refine Own.dup C d9_35 (q := 36) rfl rfl ?_
    refine Own.getfield C d9_36 (q := 39) rfl (host := "") (Or.inl (hw _ (List.mem_of_getElem? (i := 35) rfl))) Via.refl (upd_at (Ne.symm (ne_ra hV ha)) (upd_at (Ne.symm (ne_ra hP ha)) ha)) (j := 4) rfl ?_
    refine Own.dupX1 C d9_39 (q := 40) rfl rfl rfl ?_
    refine Own.iconst C d9_40 (q := 41) rfl (z := 1) (by decide) ?_
    refine Own.iadd C d9_41 (q := 42) rfl fun z41 e41 => ?_
    refine Own.putfield C d9_42 (q := 45) rfl (host := "") (Or.inl (hw _ (List.mem_of_getElem? (i := 35) rfl))) Via.refl (Or.inl (hw _ (List.mem_of_getElem? (i := 36) rfl))) (hw _ (List.mem_of_getElem? (i := 12) rfl)) (ty := .int) (by decide) rfl rfl (upd_at (Ne.symm (ne_ra hV ha)) (upd_at (Ne.symm (ne_ra hP ha)) ha)) (j := 4) rfl (fs' := [(("com/example/parcours/parcours/search/ValueNumbers", "values", "[I"), (.ref V)), (("com/example/parcours/parcours/search/ValueNumbers", "places", "[I"), (.ref Pl)), (("com/example/parcours/parcours/search/ValueNumbers", "slots", "[J"), (.ref Sl)), (("com/example/parcours/parcours/search/ValueNumbers", "slotOf", "[I"), (.ref So)), (("com/example/parcours/parcours/search/ValueNumbers", "count", "I"), (.int z41)), (("com/example/parcours/parcours/search/ValueNumbers", "byPlace", "Z"), (.int b)), (("com/example/parcours/parcours/search/ValueNumbers", "least", "I"), (.int lo))]) rfl ga (mem rfl ?_)
    refine Own.ireturn C d9_45 (by decide) (by decide) ?_
    exact ⟨_, rfl, hc, _, _, _, _, _, ⟨upd_same, (upd_at (ne_ra hV ha) upd_same), (upd_at (ne_ra hP ha) (upd_at (Ne.symm nVP) upd_same)), (upd_at (ne_ra hL ha) (upd_at (Ne.symm nVL) (upd_at (Ne.symm nPL) hL))), (upd_at (ne_ra hS ha) (upd_at (Ne.symm nVS) (upd_at (Ne.symm nPS) hS))), ga, gV, gP, gL, gS, nVP, nVS, nPS, nVL, nPL, nSL⟩, (by have o := c_iadd cn 1; rw [← e41] at o; have := rng32 z41; simp only [show (1 : Int32).toInt = 1 from rfl] at o; omega), add_place hI hb hd hxd hz (by have o := c_iadd cn 1; rw [← e22] at o; have := rng32 z22; simp only [show (1 : Int32).toInt = 1 from rfl] at o; omega), fun q => absurd q hb, by simp, fun i hi => by simp [show i ≠ c' by omega]⟩
abbrev rm_7 : Room := { frames := 2, cells := 0, slots := 0, locals := 32 }
theorem d7_0 : decode prog_68_method_3_code 0 = .ok (.aload_n 0, 1) := by decide +kernel
theorem d7_1 : decode prog_68_method_3_code 1 = .ok (.getfield 27, 3) := by decide +kernel
theorem d7_4 : decode prog_68_method_3_code 4 = .ok (.ifCond .eq 17, 3) := by decide +kernel
theorem d7_7 : decode prog_68_method_3_code 7 = .ok (.aload_n 0, 1) := by decide +kernel
theorem d7_8 : decode prog_68_method_3_code 8 = .ok (.getfield 13, 3) := by decide +kernel
theorem d7_11 : decode prog_68_method_3_code 11 = .ok (.iload_n 1, 1) := by decide +kernel
theorem d7_12 : decode prog_68_method_3_code 12 = .ok (.aload_n 0, 1) := by decide +kernel
theorem d7_13 : decode prog_68_method_3_code 13 = .ok (.getfield 31, 3) := by decide +kernel
theorem d7_16 : decode prog_68_method_3_code 16 = .ok (.isub, 1) := by decide +kernel
theorem d7_17 : decode prog_68_method_3_code 17 = .ok (.iaload, 1) := by decide +kernel
theorem d7_18 : decode prog_68_method_3_code 18 = .ok (.goto 14, 3) := by decide +kernel
theorem d7_21 : decode prog_68_method_3_code 21 = .ok (.aload_n 0, 1) := by decide +kernel
theorem d7_22 : decode prog_68_method_3_code 22 = .ok (.getfield 16, 3) := by decide +kernel
theorem d7_25 : decode prog_68_method_3_code 25 = .ok (.aload_n 0, 1) := by decide +kernel
theorem d7_26 : decode prog_68_method_3_code 26 = .ok (.iload_n 1, 1) := by decide +kernel
theorem d7_27 : decode prog_68_method_3_code 27 = .ok (.invokevirtual 34, 3) := by decide +kernel
theorem d7_30 : decode prog_68_method_3_code 30 = .ok (.laload, 1) := by decide +kernel
theorem d7_31 : decode prog_68_method_3_code 31 = .ok (.l2i, 1) := by decide +kernel
theorem d7_32 : decode prog_68_method_3_code 32 = .ok (.istore_n 2, 1) := by decide +kernel
theorem d7_33 : decode prog_68_method_3_code 33 = .ok (.iload_n 2, 1) := by decide +kernel
theorem d7_34 : decode prog_68_method_3_code 34 = .ok (.ifCond .eq 9, 3) := by decide +kernel
theorem d7_37 : decode prog_68_method_3_code 37 = .ok (.iload_n 2, 1) := by decide +kernel
theorem d7_38 : decode prog_68_method_3_code 38 = .ok (.iconst 1, 1) := by decide +kernel
theorem d7_39 : decode prog_68_method_3_code 39 = .ok (.isub, 1) := by decide +kernel
theorem d7_40 : decode prog_68_method_3_code 40 = .ok (.goto 8, 3) := by decide +kernel
theorem d7_43 : decode prog_68_method_3_code 43 = .ok (.aload_n 0, 1) := by decide +kernel
theorem d7_44 : decode prog_68_method_3_code 44 = .ok (.iload_n 1, 1) := by decide +kernel
theorem d7_45 : decode prog_68_method_3_code 45 = .ok (.invokevirtual 37, 3) := by decide +kernel
theorem d7_48 : decode prog_68_method_3_code 48 = .ok (.ireturn, 1) := by decide +kernel
set_option maxRecDepth 65536 in
set_option maxHeartbeats 4000000 in
theorem c_num (l : Launch) (Z : State) (a0 : Array Value) (hw : ∀ d ∈ tables_1, d.before a0 Z = true) (n0 : Nat) (μ : Mem) (a : Addr) (x : Int32) (V Pl Sl So : Addr) (nV nP : Nat) (vf pf uf : Nat → Int32) (sf : Nat → Int64) (cn b lo : Int32) (c' : Nat) (hc : cn.toInt = c') (hc2 : c' ≤ 2) (hV8 : 8 ≤ nV) (hI : Inv 0 c' b lo nV nP vf pf uf sf) (hR : b = 0 → Reach c' vf uf sf) (hX : b ≠ 0 → ∃ d, d < nP ∧ (x - lo).toInt = (d : Nat)) (H : VNs n0 μ a V Pl Sl So nV nP vf pf uf sf cn b lo) :
    Con l Z n0 (⟨"com/example/parcours/parcours/search/ValueNumbers", "number", "(I)I"⟩ : MethodName) prog_68_method_3_code 3 (some .int) [] rm_7 rm_7.cells rm_7.slots #[(.ref a), (.int x)] μ (RI fun z μ' => ∃ c2 cn' vf' pf' uf' sf', VNs n0 μ' a V Pl Sl So nV nP vf' pf' uf' sf' cn' b lo ∧ cn'.toInt = (c2 : Nat) ∧ Inv 0 c2 b lo nV nP vf' pf' uf' sf' ∧ (b = 0 → Reach c2 vf' uf' sf') ∧ ((∃ i, i < c' ∧ vf i = x ∧ z.toInt = (i : Nat) ∧ c2 = c' ∧ vf' = vf) ∨ ((∀ i, i < c' → vf i ≠ x) ∧ z.toInt = c' ∧ c2 = c' + 1 ∧ vf' c' = x ∧ ∀ i, i < c' → vf' i = vf i))) := by
  refine Con.intro (L0 := #[.val (.ref a), .val (.int x), .unset]) (plainFor_of_name (by first | (simp [plainName, overriddenIn]; done) | decide +kernel)) (fun m => by first | (simp [entryFrame, mkF, argsToLocals, Value.category]; done) | rfl) ?_
  intro p e s m below meth c C
  have C : Ctx p s m meth c Z "com/example/parcours/parcours/search/ValueNumbers" "number" prog_68_method_3_code 3 (some .int) := C
  obtain ⟨ha, hV, hP, hL, hS, ga, gV, gP, gL, gS, nVP, nVS, nPS, nVL, nPL, nSL⟩ := H
  refine Own.aloadN C d7_0 (q := 1) rfl rfl rfl ?_
  refine Own.getfield C d7_1 (q := 4) rfl (host := "") (Or.inl (hw _ (List.mem_of_getElem? (i := 37) rfl))) Via.refl ha (j := 5) rfl ?_
  refine Own.if_eq C d7_4 (q := 7) rfl (r := 21) (by decide) (fun h4 => ?_) (fun h4 => ?_)
  · obtain ⟨M, -, hM⟩ := hI.gap h4 hc2 (Hx x)
    refine Own.aloadN C d7_21 (q := 22) rfl rfl rfl ?_
    refine Own.getfield C d7_22 (q := 25) rfl (host := "") (Or.inl (hw _ (List.mem_of_getElem? (i := 26) rfl))) Via.refl ha (j := 2) rfl ?_
    refine Own.aloadN C d7_25 (q := 26) rfl rfl rfl ?_
    refine Own.iloadN C d7_26 (q := 27) rfl rfl ?_
    refine Own.callP C d7_27 (q := 30) rfl (hw _ (List.mem_of_getElem? (i := 51) rfl)) (hw _ (List.mem_of_getElem? (i := 53) rfl)) (hw _ (List.mem_of_getElem? (i := 12) rfl)) (hw _ (List.mem_of_getElem? (i := 52) rfl)) (hw _ (List.mem_of_getElem? (i := 13) rfl)) (hw _ (List.mem_of_getElem? (i := 54) rfl)) (by decide) (W := 1) (rm := rm_8) (argsL := [(.int x)]) (st := [(.ref Sl)]) (lenOf pd_0 rfl) rfl rfl (Nat.le_of_eq rfl) (by decide) (by decide) (by decide) (by decide) ha (c_slot l Z a0 hw n0 _ a x V Pl Sl So nV nP vf pf uf sf cn b lo M hM ⟨ha, hV, hP, hL, hS, ga, gV, gP, gL, gS, nVP, nVS, nPS, nVL, nPL, nSL⟩) (nxI fun z27 μ27 h27 => ?_)
    obtain ⟨h27m, mm, hz_m, hpth, hstop⟩ := h27
    refine Own.mem h27m ?_
    have hfind := stop_old hI h4 (hR h4) hpth hstop
    refine Own.laload C d7_30 (q := 31) rfl hL (nneg hz_m) (v := (.long (sf ((Hx x + mm) % 16)))) (by rw [tn hz_m]; exact al_get sf (by omega)) ?_
    refine Own.l2i C d7_31 (q := 32) rfl fun z31 e31 => ?_
    refine Own.istoreN C d7_32 (q := 33) rfl (L' := #[.val (.ref a), .val (.int x), .val (.int z31)]) rfl ?_
    refine Own.iloadN C d7_33 (q := 34) rfl rfl ?_
    refine Own.if_eq C d7_34 (q := 37) rfl (r := 43) (by decide) (fun h34 => ?_) (fun h34 => ?_)
    · have hno := (hfind.resolve_right fun ⟨i, k1, k2, k3⟩ => by rw [← e31, h34, show (0 : Int32).toInt = 0 from rfl] at k3; omega).2
      refine Own.aloadN C d7_43 (q := 44) rfl rfl rfl ?_
      refine Own.iloadN C d7_44 (q := 45) rfl rfl ?_
      refine Own.callP C d7_45 (q := 48) rfl (hw _ (List.mem_of_getElem? (i := 56) rfl)) (hw _ (List.mem_of_getElem? (i := 58) rfl)) (hw _ (List.mem_of_getElem? (i := 12) rfl)) (hw _ (List.mem_of_getElem? (i := 57) rfl)) (hw _ (List.mem_of_getElem? (i := 13) rfl)) (hw _ (List.mem_of_getElem? (i := 59) rfl)) (by decide) (W := 0) (rm := rm_9) (argsL := [(.int x)]) (st := []) (lenOf pd_0 rfl) rfl rfl (Nat.le_of_eq rfl) (by decide) (by decide) (by decide) (by decide) ha (c_nnH l Z a0 hw n0 _ a x V Pl Sl So nV nP vf pf uf sf cn b lo c' hc hc2 hV8 hI hR h4 hno ⟨ha, hV, hP, hL, hS, ga, gV, gP, gL, gS, nVP, nVS, nPS, nVL, nPL, nSL⟩) (nxI fun z45 μ45 h45 => ?_)
      obtain ⟨q1, q2⟩ := h45
      refine Own.ireturn C d7_48 (by decide) (by decide) ?_
      obtain ⟨cn', vf', pf', uf', sf', g1, g2, g3, g4, g5, g6⟩ := q2
      exact ⟨_, rfl, c' + 1, cn', vf', pf', uf', sf', g1, g2, g3, g4, Or.inr ⟨hno, q1, rfl, g5, g6⟩⟩
    · obtain ⟨i, k1, k2, k3⟩ := hfind.resolve_left fun q => h34 (by rw [e31, q.1]; rfl)
      rw [← e31] at k3
      refine Own.iloadN C d7_37 (q := 38) rfl rfl ?_
      refine Own.iconst C d7_38 (q := 39) rfl (z := 1) (by decide) ?_
      refine Own.isub C d7_39 (q := 40) rfl fun z39 e39 => ?_
      refine Own.goto C d7_40 (q := 48) (by decide) ?_
      refine Own.ireturn C d7_48 (by decide) (by decide) ?_
      refine ⟨_, rfl, c', cn, vf, pf, uf, sf, ⟨ha, hV, hP, hL, hS, ga, gV, gP, gL, gS, nVP, nVS, nPS, nVL, nPL, nSL⟩, hc, hI, hR, Or.inl ⟨i, k1, k2, ?_, rfl, rfl⟩⟩
      have o := c_isub z31 1; rw [← e39] at o; have := rng32 z39; simp only [show (1 : Int32).toInt = 1 from rfl] at o; omega
  · refine Own.aloadN C d7_7 (q := 8) rfl rfl rfl ?_
    refine Own.getfield C d7_8 (q := 11) rfl (host := "") (Or.inl (hw _ (List.mem_of_getElem? (i := 23) rfl))) Via.refl ha (j := 1) rfl ?_
    refine Own.iloadN C d7_11 (q := 12) rfl rfl ?_
    refine Own.aloadN C d7_12 (q := 13) rfl rfl rfl ?_
    refine Own.getfield C d7_13 (q := 16) rfl (host := "") (Or.inl (hw _ (List.mem_of_getElem? (i := 39) rfl))) Via.refl ha (j := 6) rfl ?_
    refine Own.isub C d7_16 (q := 17) rfl fun z16 e16 => ?_
    obtain ⟨d, hd, hxd⟩ := hX h4
    have hd' : z16.toInt = (d : Nat) := by rw [e16]; exact hxd
    have hfind := find_place hI h4 hd hxd
    refine Own.iaload C d7_17 (q := 18) rfl hP (nneg hd') (v := (.int (pf d))) (by rw [tn hd']; exact ar_get pf hd) ?_
    refine Own.goto C d7_18 (q := 32) (by decide) ?_
    refine Own.istoreN C d7_32 (q := 33) rfl (L' := #[.val (.ref a), .val (.int x), .val (.int (pf d))]) rfl ?_
    refine Own.iloadN C d7_33 (q := 34) rfl rfl ?_
    refine Own.if_eq C d7_34 (q := 37) rfl (r := 43) (by decide) (fun h34 => ?_) (fun h34 => ?_)
    · have hz := h34
      have hno := (hfind.resolve_right fun ⟨i, k1, k2, k3⟩ => by rw [hz, show (0 : Int32).toInt = 0 from rfl] at k3; omega).2
      refine Own.aloadN C d7_43 (q := 44) rfl rfl rfl ?_
      refine Own.iloadN C d7_44 (q := 45) rfl rfl ?_
      refine Own.callP C d7_45 (q := 48) rfl (hw _ (List.mem_of_getElem? (i := 56) rfl)) (hw _ (List.mem_of_getElem? (i := 58) rfl)) (hw _ (List.mem_of_getElem? (i := 12) rfl)) (hw _ (List.mem_of_getElem? (i := 57) rfl)) (hw _ (List.mem_of_getElem? (i := 13) rfl)) (hw _ (List.mem_of_getElem? (i := 59) rfl)) (by decide) (W := 0) (rm := rm_9) (argsL := [(.int x)]) (st := []) (lenOf pd_0 rfl) rfl rfl (Nat.le_of_eq rfl) (by decide) (by decide) (by decide) (by decide) ha (c_nnP l Z a0 hw n0 _ a x V Pl Sl So nV nP vf pf uf sf cn b lo c' hc hc2 hV8 hI hR h4 d hd hxd hz ⟨ha, hV, hP, hL, hS, ga, gV, gP, gL, gS, nVP, nVS, nPS, nVL, nPL, nSL⟩) (nxI fun z45 μ45 h45 => ?_)
      obtain ⟨q1, q2⟩ := h45
      refine Own.ireturn C d7_48 (by decide) (by decide) ?_
      obtain ⟨cn', vf', pf', uf', sf', g1, g2, g3, g4, g5, g6⟩ := q2
      exact ⟨_, rfl, c' + 1, cn', vf', pf', uf', sf', g1, g2, g3, g4, Or.inr ⟨hno, q1, rfl, g5, g6⟩⟩
    · obtain ⟨i, k1, k2, k3⟩ := hfind.resolve_left fun q => h34 q.1
      refine Own.iloadN C d7_37 (q := 38) rfl rfl ?_
      refine Own.iconst C d7_38 (q := 39) rfl (z := 1) (by decide) ?_
      refine Own.isub C d7_39 (q := 40) rfl fun z39 e39 => ?_
      refine Own.goto C d7_40 (q := 48) (by decide) ?_
      refine Own.ireturn C d7_48 (by decide) (by decide) ?_
      refine ⟨_, rfl, c', cn, vf, pf, uf, sf, ⟨ha, hV, hP, hL, hS, ga, gV, gP, gL, gS, nVP, nVS, nPS, nVL, nPL, nSL⟩, hc, hI, hR, Or.inl ⟨i, k1, k2, ?_, rfl, rfl⟩⟩
      have o := c_isub (pf d) 1; rw [← e39] at o; have := rng32 z39; simp only [show (1 : Int32).toInt = 1 from rfl] at o; omega
abbrev rm_5 : Room := { frames := 0, cells := 2, slots := 126, locals := 0 }
theorem d5_0 : decode prog_68_method_2_code 0 = .ok (.iconst 0, 1) := by decide +kernel
theorem d5_1 : decode prog_68_method_2_code 1 = .ok (.istore 5, 2) := by decide +kernel
theorem d5_3 : decode prog_68_method_2_code 3 = .ok (.iload 5, 2) := by decide +kernel
theorem d5_5 : decode prog_68_method_2_code 5 = .ok (.aload_n 0, 1) := by decide +kernel
theorem d5_6 : decode prog_68_method_2_code 6 = .ok (.getfield 23, 3) := by decide +kernel
theorem d5_9 : decode prog_68_method_2_code 9 = .ok (.if_icmp .ge 50, 3) := by decide +kernel
theorem d5_12 : decode prog_68_method_2_code 12 = .ok (.aload_n 0, 1) := by decide +kernel
theorem d5_13 : decode prog_68_method_2_code 13 = .ok (.getfield 27, 3) := by decide +kernel
theorem d5_16 : decode prog_68_method_2_code 16 = .ok (.ifCond .eq 24, 3) := by decide +kernel
theorem d5_19 : decode prog_68_method_2_code 19 = .ok (.aload_n 0, 1) := by decide +kernel
theorem d5_20 : decode prog_68_method_2_code 20 = .ok (.getfield 13, 3) := by decide +kernel
theorem d5_23 : decode prog_68_method_2_code 23 = .ok (.aload_n 0, 1) := by decide +kernel
theorem d5_24 : decode prog_68_method_2_code 24 = .ok (.getfield 9, 3) := by decide +kernel
theorem d5_27 : decode prog_68_method_2_code 27 = .ok (.iload 5, 2) := by decide +kernel
theorem d5_29 : decode prog_68_method_2_code 29 = .ok (.iaload, 1) := by decide +kernel
theorem d5_30 : decode prog_68_method_2_code 30 = .ok (.aload_n 0, 1) := by decide +kernel
theorem d5_31 : decode prog_68_method_2_code 31 = .ok (.getfield 31, 3) := by decide +kernel
theorem d5_34 : decode prog_68_method_2_code 34 = .ok (.isub, 1) := by decide +kernel
theorem d5_35 : decode prog_68_method_2_code 35 = .ok (.iconst 0, 1) := by decide +kernel
theorem d5_36 : decode prog_68_method_2_code 36 = .ok (.iastore, 1) := by decide +kernel
theorem d5_37 : decode prog_68_method_2_code 37 = .ok (.goto 16, 3) := by decide +kernel
theorem d5_40 : decode prog_68_method_2_code 40 = .ok (.aload_n 0, 1) := by decide +kernel
theorem d5_41 : decode prog_68_method_2_code 41 = .ok (.getfield 16, 3) := by decide +kernel
theorem d5_44 : decode prog_68_method_2_code 44 = .ok (.aload_n 0, 1) := by decide +kernel
theorem d5_45 : decode prog_68_method_2_code 45 = .ok (.getfield 20, 3) := by decide +kernel
theorem d5_48 : decode prog_68_method_2_code 48 = .ok (.iload 5, 2) := by decide +kernel
theorem d5_50 : decode prog_68_method_2_code 50 = .ok (.iaload, 1) := by decide +kernel
theorem d5_51 : decode prog_68_method_2_code 51 = .ok (.lconst 0, 1) := by decide +kernel
theorem d5_52 : decode prog_68_method_2_code 52 = .ok (.lastore, 1) := by decide +kernel
theorem d5_53 : decode prog_68_method_2_code 53 = .ok (.iinc 5 1, 3) := by decide +kernel
theorem d5_56 : decode prog_68_method_2_code 56 = .ok (.goto (-53), 3) := by decide +kernel
theorem d5_59 : decode prog_68_method_2_code 59 = .ok (.aload_n 0, 1) := by decide +kernel
theorem d5_60 : decode prog_68_method_2_code 60 = .ok (.iconst 0, 1) := by decide +kernel
theorem d5_61 : decode prog_68_method_2_code 61 = .ok (.putfield 23, 3) := by decide +kernel
theorem d5_64 : decode prog_68_method_2_code 64 = .ok (.iload_n 2, 1) := by decide +kernel
theorem d5_65 : decode prog_68_method_2_code 65 = .ok (.i2l, 1) := by decide +kernel
theorem d5_66 : decode prog_68_method_2_code 66 = .ok (.iload_n 1, 1) := by decide +kernel
theorem d5_67 : decode prog_68_method_2_code 67 = .ok (.i2l, 1) := by decide +kernel
theorem d5_68 : decode prog_68_method_2_code 68 = .ok (.lsub, 1) := by decide +kernel
theorem d5_69 : decode prog_68_method_2_code 69 = .ok (.lconst 1, 1) := by decide +kernel
theorem d5_70 : decode prog_68_method_2_code 70 = .ok (.ladd, 1) := by decide +kernel
theorem d5_71 : decode prog_68_method_2_code 71 = .ok (.lstore 5, 2) := by decide +kernel
theorem d5_73 : decode prog_68_method_2_code 73 = .ok (.aload_n 0, 1) := by decide +kernel
theorem d5_74 : decode prog_68_method_2_code 74 = .ok (.lload 5, 2) := by decide +kernel
theorem d5_76 : decode prog_68_method_2_code 76 = .ok (.lload_n 3, 1) := by decide +kernel
theorem d5_77 : decode prog_68_method_2_code 77 = .ok (.lcmp, 1) := by decide +kernel
theorem d5_78 : decode prog_68_method_2_code 78 = .ok (.ifCond .gt 7, 3) := by decide +kernel
theorem d5_81 : decode prog_68_method_2_code 81 = .ok (.iconst 1, 1) := by decide +kernel
theorem d5_82 : decode prog_68_method_2_code 82 = .ok (.goto 4, 3) := by decide +kernel
theorem d5_85 : decode prog_68_method_2_code 85 = .ok (.iconst 0, 1) := by decide +kernel
theorem d5_86 : decode prog_68_method_2_code 86 = .ok (.putfield 27, 3) := by decide +kernel
theorem d5_89 : decode prog_68_method_2_code 89 = .ok (.aload_n 0, 1) := by decide +kernel
theorem d5_90 : decode prog_68_method_2_code 90 = .ok (.iload_n 1, 1) := by decide +kernel
theorem d5_91 : decode prog_68_method_2_code 91 = .ok (.putfield 31, 3) := by decide +kernel
theorem d5_94 : decode prog_68_method_2_code 94 = .ok (.aload_n 0, 1) := by decide +kernel
theorem d5_95 : decode prog_68_method_2_code 95 = .ok (.getfield 27, 3) := by decide +kernel
theorem d5_98 : decode prog_68_method_2_code 98 = .ok (.ifCond .eq 24, 3) := by decide +kernel
theorem d5_101 : decode prog_68_method_2_code 101 = .ok (.aload_n 0, 1) := by decide +kernel
theorem d5_102 : decode prog_68_method_2_code 102 = .ok (.getfield 13, 3) := by decide +kernel
theorem d5_105 : decode prog_68_method_2_code 105 = .ok (.arraylength, 1) := by decide +kernel
theorem d5_106 : decode prog_68_method_2_code 106 = .ok (.i2l, 1) := by decide +kernel
theorem d5_107 : decode prog_68_method_2_code 107 = .ok (.lload 5, 2) := by decide +kernel
theorem d5_109 : decode prog_68_method_2_code 109 = .ok (.lcmp, 1) := by decide +kernel
theorem d5_110 : decode prog_68_method_2_code 110 = .ok (.ifCond .ge 12, 3) := by decide +kernel
theorem d5_113 : decode prog_68_method_2_code 113 = .ok (.aload_n 0, 1) := by decide +kernel
theorem d5_114 : decode prog_68_method_2_code 114 = .ok (.lload 5, 2) := by decide +kernel
theorem d5_116 : decode prog_68_method_2_code 116 = .ok (.l2i, 1) := by decide +kernel
theorem d5_117 : decode prog_68_method_2_code 117 = .ok (.newarray .int, 2) := by decide +kernel
theorem d5_119 : decode prog_68_method_2_code 119 = .ok (.putfield 13, 3) := by decide +kernel
theorem d5_122 : decode prog_68_method_2_code 122 = .ok (.aload_n 0, 1) := by decide +kernel
theorem d5_123 : decode prog_68_method_2_code 123 = .ok (.getfield 27, 3) := by decide +kernel
theorem d5_126 : decode prog_68_method_2_code 126 = .ok (.ifCond .eq 24, 3) := by decide +kernel
theorem d5_129 : decode prog_68_method_2_code 129 = .ok (.aload_n 0, 1) := by decide +kernel
theorem d5_130 : decode prog_68_method_2_code 130 = .ok (.getfield 9, 3) := by decide +kernel
theorem d5_133 : decode prog_68_method_2_code 133 = .ok (.arraylength, 1) := by decide +kernel
theorem d5_134 : decode prog_68_method_2_code 134 = .ok (.i2l, 1) := by decide +kernel
theorem d5_135 : decode prog_68_method_2_code 135 = .ok (.lload 5, 2) := by decide +kernel
theorem d5_137 : decode prog_68_method_2_code 137 = .ok (.lcmp, 1) := by decide +kernel
theorem d5_138 : decode prog_68_method_2_code 138 = .ok (.ifCond .ge 12, 3) := by decide +kernel
theorem d5_141 : decode prog_68_method_2_code 141 = .ok (.aload_n 0, 1) := by decide +kernel
theorem d5_142 : decode prog_68_method_2_code 142 = .ok (.lload 5, 2) := by decide +kernel
theorem d5_144 : decode prog_68_method_2_code 144 = .ok (.l2i, 1) := by decide +kernel
theorem d5_145 : decode prog_68_method_2_code 145 = .ok (.newarray .int, 2) := by decide +kernel
theorem d5_147 : decode prog_68_method_2_code 147 = .ok (.putfield 9, 3) := by decide +kernel
theorem d5_150 : decode prog_68_method_2_code 150 = .ok (.return_, 1) := by decide +kernel
set_option maxRecDepth 65536 in
set_option maxHeartbeats 40000000 in
theorem c_clear (l : Launch) (Z : State) (a0 : Array Value) (hw : ∀ d ∈ tables_1, d.before a0 Z = true) (n0 : Nat) (μ : Mem) (a : Addr) (low : Int32) (high : Int32) (lg : Int64) (V Pl Sl So : Addr) (nV nP : Nat) (vf pf uf : Nat → Int32) (sf : Nat → Int64) (cn b lo : Int32) (c' : Nat) (hc : cn.toInt = c') (hc2 : c' ≤ 2) (hV8 : 8 ≤ nV) (hI : Inv 0 c' b lo nV nP vf pf uf sf) (hlh : low.toInt ≤ high.toInt) (hlg : lg.toInt ≤ 63) (H : VNs n0 μ a V Pl Sl So nV nP vf pf uf sf cn b lo) :
    Con l Z n0 (⟨"com/example/parcours/parcours/search/ValueNumbers", "clear", "(IIJ)V"⟩ : MethodName) prog_68_method_2_code 7 none [] rm_5 rm_5.cells rm_5.slots #[(.ref a), (.int low), (.int high), (.long lg)] μ (RV fun μ' => ∃ (V' Pl' : Addr) (nV' nP' : Nat) (vf' pf' : Nat → Int32) (sf' : Nat → Int64) (b' : Int32), VNs n0 μ' a V' Pl' Sl So nV' nP' vf' pf' uf sf' 0 b' low ∧ 8 ≤ nV' ∧ (∀ d, d < nP' → pf' d = 0) ∧ (∀ t, t < 16 → sf' t = 0) ∧ (b' ≠ 0 → high.toInt - low.toInt + 1 ≤ nP' ∧ high.toInt - low.toInt + 1 ≤ 63)) := by
  refine Con.intro (L0 := #[.val (.ref a), .val (.int low), .val (.int high), .val (.long lg), .second, .unset, .unset]) (plainFor_of_name (by first | (simp [plainName, overriddenIn]; done) | decide +kernel)) (fun m => by first | (simp [entryFrame, mkF, argsToLocals, Value.category]; done) | rfl) ?_
  intro p e s m below meth c C
  have C : Ctx p s m meth c Z "com/example/parcours/parcours/search/ValueNumbers" "clear" prog_68_method_2_code 7 none := C
  obtain ⟨ha, hV, hP, hL, hS, ga, gV, gP, gL, gS, nVP, nVS, nPS, nVL, nPL, nSL⟩ := H
  refine Own.iconst C d5_0 (q := 1) rfl (z := 0) (by decide) ?_
  refine Own.istore C d5_1 (q := 3) rfl (L' := #[.val (.ref a), .val (.int low), .val (.int high), .val (.long lg), .second, .val (.int (0 : Int32)), .unset]) rfl ?_
  have J3 : ∀ (N k : Nat) (k1 : Int32) (pf1 : Nat → Int32) (sf1 : Nat → Int64) (μ1 : Mem), k1.toInt = k → k ≤ c' → Inv k c' b lo nV nP vf pf1 uf sf1 → c' - k < N → VNs n0 μ1 a V Pl Sl So nV nP vf pf1 uf sf1 cn b lo → Go p l e rm_5 s m #[(.ref a), (.int low), (.int high), (.long lg)] below meth c Z n0 (RV fun μ' => ∃ (V' Pl' : Addr) (nV' nP' : Nat) (vf' pf' : Nat → Int32) (sf' : Nat → Int64) (b' : Int32), VNs n0 μ' a V' Pl' Sl So nV' nP' vf' pf' uf sf' 0 b' low ∧ 8 ≤ nV' ∧ (∀ d, d < nP' → pf' d = 0) ∧ (∀ t, t < 16 → sf' t = 0) ∧ (b' ≠ 0 → high.toInt - low.toInt + 1 ≤ nP' ∧ high.toInt - low.toInt + 1 ≤ 63)) rm_5.cells rm_5.slots μ1 (0) (0) (mkF m 3 #[.val (.ref a), .val (.int low), .val (.int high), .val (.long lg), .second, .val (.int k1), .unset] []) := by
    clear ha hV hP hL hS
    intro N
    induction N with
    | zero => intro k k1 pf1 sf1 μ1 _ _ _ h; omega
    | succ N ih =>
      intro k k1 pf1 sf1 μ1 hk1 hk hI1 hN H1
      obtain ⟨ha, hV, hP, hL, hS, -⟩ := H1
      refine Own.iload C d5_3 (q := 5) rfl rfl ?_
      refine Own.aloadN C d5_5 (q := 6) rfl rfl rfl ?_
      refine Own.getfield C d5_6 (q := 9) rfl (host := "") (Or.inl (hw _ (List.mem_of_getElem? (i := 35) rfl))) Via.refl ha (j := 4) rfl ?_
      refine Own.icmp_ge C d5_9 (q := 12) rfl (r := 59) (by decide) (fun h9 => ?_) (fun h9 => ?_)
      · obtain ⟨nonep, nones⟩ := hI1.none (by rw [Int32.lt_iff_toInt_lt] at h9; omega)
        refine Own.aloadN C d5_59 (q := 60) rfl rfl rfl ?_
        refine Own.iconst C d5_60 (q := 61) rfl (z := 0) (by decide) ?_
        refine Own.putfield C d5_61 (q := 64) rfl (host := "") (Or.inl (hw _ (List.mem_of_getElem? (i := 35) rfl))) Via.refl (Or.inl (hw _ (List.mem_of_getElem? (i := 36) rfl))) (hw _ (List.mem_of_getElem? (i := 12) rfl)) (ty := .int) (by decide) rfl rfl ha (j := 4) rfl (fs' := [(("com/example/parcours/parcours/search/ValueNumbers", "values", "[I"), (.ref V)), (("com/example/parcours/parcours/search/ValueNumbers", "places", "[I"), (.ref Pl)), (("com/example/parcours/parcours/search/ValueNumbers", "slots", "[J"), (.ref Sl)), (("com/example/parcours/parcours/search/ValueNumbers", "slotOf", "[I"), (.ref So)), (("com/example/parcours/parcours/search/ValueNumbers", "count", "I"), (.int (0 : Int32))), (("com/example/parcours/parcours/search/ValueNumbers", "byPlace", "Z"), (.int b)), (("com/example/parcours/parcours/search/ValueNumbers", "least", "I"), (.int lo))]) rfl ga (mem rfl ?_)
        refine Own.iloadN C d5_64 (q := 65) rfl rfl ?_
        refine Own.i2l C d5_65 (q := 66) rfl fun z65 e65 => ?_
        refine Own.iloadN C d5_66 (q := 67) rfl rfl ?_
        refine Own.i2l C d5_67 (q := 68) rfl fun z67 e67 => ?_
        refine Own.lsub C d5_68 (q := 69) rfl fun z68 e68 => ?_
        refine Own.lconst C d5_69 (q := 70) rfl (z := 1) (by decide) ?_
        refine Own.ladd C d5_70 (q := 71) rfl fun z70 e70 => ?_
        have hrg := rangeL hlh e65 e67 e68 e70
        refine Own.lstore C d5_71 (q := 73) rfl (L' := #[.val (.ref a), .val (.int low), .val (.int high), .val (.long lg), .second, .val (.long z70), .second]) rfl ?_
        refine Own.aloadN C d5_73 (q := 74) rfl rfl rfl ?_
        refine Own.lload C d5_74 (q := 76) rfl rfl ?_
        refine Own.lloadN C d5_76 (q := 77) rfl rfl ?_
        refine Own.lcmp_gt C d5_77 (pc1 := 78) rfl d5_78 (q := 81) rfl (r := 85) (by decide) (fun h77 => ?_) (fun h77 => ?_)
        · refine Own.iconst C d5_85 (q := 86) rfl (z := 0) (by decide) ?_
          refine Own.putfieldN C d5_86 (q := 89) rfl (hw _ (List.mem_of_getElem? (i := 37) rfl)) Via.refl (Or.inl (hw _ (List.mem_of_getElem? (i := 38) rfl))) (hw _ (List.mem_of_getElem? (i := 12) rfl)) (ty := .boolean) (v' := (.int (0 : Int32))) (by decide) rfl rfl upd_same (j := 5) rfl (fs' := [(("com/example/parcours/parcours/search/ValueNumbers", "values", "[I"), (.ref V)), (("com/example/parcours/parcours/search/ValueNumbers", "places", "[I"), (.ref Pl)), (("com/example/parcours/parcours/search/ValueNumbers", "slots", "[J"), (.ref Sl)), (("com/example/parcours/parcours/search/ValueNumbers", "slotOf", "[I"), (.ref So)), (("com/example/parcours/parcours/search/ValueNumbers", "count", "I"), (.int (0 : Int32))), (("com/example/parcours/parcours/search/ValueNumbers", "byPlace", "Z"), (.int (0 : Int32))), (("com/example/parcours/parcours/search/ValueNumbers", "least", "I"), (.int lo))]) rfl ga (mem upd_upd ?_)
          refine Own.aloadN C d5_89 (q := 90) rfl rfl rfl ?_
          refine Own.iloadN C d5_90 (q := 91) rfl rfl ?_
          refine Own.putfield C d5_91 (q := 94) rfl (host := "") (Or.inl (hw _ (List.mem_of_getElem? (i := 39) rfl))) Via.refl (Or.inl (hw _ (List.mem_of_getElem? (i := 40) rfl))) (hw _ (List.mem_of_getElem? (i := 12) rfl)) (ty := .int) (by decide) rfl rfl upd_same (j := 6) rfl (fs' := [(("com/example/parcours/parcours/search/ValueNumbers", "values", "[I"), (.ref V)), (("com/example/parcours/parcours/search/ValueNumbers", "places", "[I"), (.ref Pl)), (("com/example/parcours/parcours/search/ValueNumbers", "slots", "[J"), (.ref Sl)), (("com/example/parcours/parcours/search/ValueNumbers", "slotOf", "[I"), (.ref So)), (("com/example/parcours/parcours/search/ValueNumbers", "count", "I"), (.int (0 : Int32))), (("com/example/parcours/parcours/search/ValueNumbers", "byPlace", "Z"), (.int (0 : Int32))), (("com/example/parcours/parcours/search/ValueNumbers", "least", "I"), (.int low))]) rfl ga (mem upd_upd ?_)
          refine Own.aloadN C d5_94 (q := 95) rfl rfl rfl ?_
          refine Own.getfield C d5_95 (q := 98) rfl (host := "") (Or.inl (hw _ (List.mem_of_getElem? (i := 37) rfl))) Via.refl upd_same (j := 5) rfl ?_
          refine Own.if_eq C d5_98 (q := 101) rfl (r := 122) (by decide) (fun h98 => ?_) (fun h98 => ?_)
          · refine Own.aloadN C d5_122 (q := 123) rfl rfl rfl ?_
            refine Own.getfield C d5_123 (q := 126) rfl (host := "") (Or.inl (hw _ (List.mem_of_getElem? (i := 37) rfl))) Via.refl upd_same (j := 5) rfl ?_
            refine Own.if_eq C d5_126 (q := 129) rfl (r := 150) (by decide) (fun h126 => ?_) (fun h126 => ?_)
            · refine Own.vreturn C d5_150 (by decide) (by decide) ?_
              exact ⟨rfl, V, Pl, nV, nP, vf, pf1, sf1, (0 : Int32), ⟨upd_same, (upd_at (ne_ra hV ha) hV), (upd_at (ne_ra hP ha) hP), (upd_at (ne_ra hL ha) hL), (upd_at (ne_ra hS ha) hS), ga, gV, gP, gL, gS, nVP, nVS, nPS, nVL, nPL, nSL⟩, hV8, nonep, nones, (fun q => absurd rfl q)⟩
            · exact absurd h126 (by decide)
          · exact absurd h98 (by decide)
        · have hle : z70.toInt ≤ 63 := by simp only [Int64.lt_iff_toInt_lt] at h77; omega
          refine Own.iconst C d5_81 (q := 82) rfl (z := 1) (by decide) ?_
          refine Own.goto C d5_82 (q := 86) (by decide) ?_
          refine Own.putfieldN C d5_86 (q := 89) rfl (hw _ (List.mem_of_getElem? (i := 37) rfl)) Via.refl (Or.inl (hw _ (List.mem_of_getElem? (i := 38) rfl))) (hw _ (List.mem_of_getElem? (i := 12) rfl)) (ty := .boolean) (v' := (.int (1 : Int32))) (by decide) rfl rfl upd_same (j := 5) rfl (fs' := [(("com/example/parcours/parcours/search/ValueNumbers", "values", "[I"), (.ref V)), (("com/example/parcours/parcours/search/ValueNumbers", "places", "[I"), (.ref Pl)), (("com/example/parcours/parcours/search/ValueNumbers", "slots", "[J"), (.ref Sl)), (("com/example/parcours/parcours/search/ValueNumbers", "slotOf", "[I"), (.ref So)), (("com/example/parcours/parcours/search/ValueNumbers", "count", "I"), (.int (0 : Int32))), (("com/example/parcours/parcours/search/ValueNumbers", "byPlace", "Z"), (.int (1 : Int32))), (("com/example/parcours/parcours/search/ValueNumbers", "least", "I"), (.int lo))]) rfl ga (mem upd_upd ?_)
          refine Own.aloadN C d5_89 (q := 90) rfl rfl rfl ?_
          refine Own.iloadN C d5_90 (q := 91) rfl rfl ?_
          refine Own.putfield C d5_91 (q := 94) rfl (host := "") (Or.inl (hw _ (List.mem_of_getElem? (i := 39) rfl))) Via.refl (Or.inl (hw _ (List.mem_of_getElem? (i := 40) rfl))) (hw _ (List.mem_of_getElem? (i := 12) rfl)) (ty := .int) (by decide) rfl rfl upd_same (j := 6) rfl (fs' := [(("com/example/parcours/parcours/search/ValueNumbers", "values", "[I"), (.ref V)), (("com/example/parcours/parcours/search/ValueNumbers", "places", "[I"), (.ref Pl)), (("com/example/parcours/parcours/search/ValueNumbers", "slots", "[J"), (.ref Sl)), (("com/example/parcours/parcours/search/ValueNumbers", "slotOf", "[I"), (.ref So)), (("com/example/parcours/parcours/search/ValueNumbers", "count", "I"), (.int (0 : Int32))), (("com/example/parcours/parcours/search/ValueNumbers", "byPlace", "Z"), (.int (1 : Int32))), (("com/example/parcours/parcours/search/ValueNumbers", "least", "I"), (.int low))]) rfl ga (mem upd_upd ?_)
          refine Own.aloadN C d5_94 (q := 95) rfl rfl rfl ?_
          refine Own.getfield C d5_95 (q := 98) rfl (host := "") (Or.inl (hw _ (List.mem_of_getElem? (i := 37) rfl))) Via.refl upd_same (j := 5) rfl ?_
          refine Own.if_eq C d5_98 (q := 101) rfl (r := 122) (by decide) (fun h98 => ?_) (fun h98 => ?_)
          · exact absurd h98 (by decide)
          · refine Own.aloadN C d5_101 (q := 102) rfl rfl rfl ?_
            refine Own.getfield C d5_102 (q := 105) rfl (host := "") (Or.inl (hw _ (List.mem_of_getElem? (i := 23) rfl))) Via.refl upd_same (j := 1) rfl ?_
            refine Own.arraylength C d5_105 (q := 106) rfl (upd_at (ne_ra hP ha) hP) fun z105 e105 e105i => ?_
            refine Own.i2l C d5_106 (q := 107) rfl fun z106 e106 => ?_
            refine Own.lload C d5_107 (q := 109) rfl rfl ?_
            refine Own.lcmp_ge C d5_109 (pc1 := 110) rfl d5_110 (q := 113) rfl (r := 122) (by decide) (fun h109 => ?_) (fun h109 => ?_)
            · refine Own.aloadN C d5_122 (q := 123) rfl rfl rfl ?_
              refine Own.getfield C d5_123 (q := 126) rfl (host := "") (Or.inl (hw _ (List.mem_of_getElem? (i := 37) rfl))) Via.refl upd_same (j := 5) rfl ?_
              refine Own.if_eq C d5_126 (q := 129) rfl (r := 150) (by decide) (fun h126 => ?_) (fun h126 => ?_)
              · exact absurd h126 (by decide)
              · refine Own.aloadN C d5_129 (q := 130) rfl rfl rfl ?_
                refine Own.getfield C d5_130 (q := 133) rfl (host := "") (Or.inl (hw _ (List.mem_of_getElem? (i := 21) rfl))) Via.refl upd_same (j := 0) rfl ?_
                refine Own.arraylength C d5_133 (q := 134) rfl (upd_at (ne_ra hV ha) hV) fun z133 e133 e133i => ?_
                refine Own.i2l C d5_134 (q := 135) rfl fun z134 e134 => ?_
                refine Own.lload C d5_135 (q := 137) rfl rfl ?_
                refine Own.lcmp_ge C d5_137 (pc1 := 138) rfl d5_138 (q := 141) rfl (r := 150) (by decide) (fun h137 => ?_) (fun h137 => ?_)
                · refine Own.vreturn C d5_150 (by decide) (by decide) ?_
                  exact ⟨rfl, V, Pl, nV, nP, vf, pf1, sf1, (1 : Int32), ⟨upd_same, (upd_at (ne_ra hV ha) hV), (upd_at (ne_ra hP ha) hP), (upd_at (ne_ra hL ha) hL), (upd_at (ne_ra hS ha) hS), ga, gV, gP, gL, gS, nVP, nVS, nPS, nVL, nPL, nSL⟩, hV8, nonep, nones, (fun _ => by refine ⟨?_, by omega⟩; have o := c_i2l z105; rw [← e106] at o; rw [ar_len] at e105i; simp only [Int64.lt_iff_toInt_lt] at h109; omega)⟩
                · refine Own.aloadN C d5_141 (q := 142) rfl rfl rfl ?_
                  refine Own.lload C d5_142 (q := 144) rfl rfl ?_
                  refine Own.l2i C d5_144 (q := 145) rfl fun z144 e144 => ?_
                  refine Own.newArr C d5_145 (q := 147) rfl (ty := .int) rfl (hw _ (List.mem_of_getElem? (i := 20) rfl)) (nneg (n := z70.toInt.toNat) (by have o := c_l2i z70; rw [← e144] at o; have := rng32 z144; omega)) (cap := 63) (by rw [tn (n := z70.toInt.toNat) (by have o := c_l2i z70; rw [← e144] at o; have := rng32 z144; omega)]; omega) (by decide) (vs := (ar z70.toInt.toNat (fun _ => 0))) (by rw [tn (n := z70.toInt.toNat) (by have o := c_l2i z70; rw [← e144] at o; have := rng32 z144; omega)]; exact ar_zero _) (by decide) (by decide) fun a145 a145_f a145_g => ?_
                  have ne_a_a145 := a145_f _ _ upd_same
                  have ne_V_a145 := a145_f _ _ (upd_at (ne_ra hV ha) hV)
                  have ne_Pl_a145 := a145_f _ _ (upd_at (ne_ra hP ha) hP)
                  have ne_Sl_a145 := a145_f _ _ (upd_at (ne_ra hL ha) hL)
                  have ne_So_a145 := a145_f _ _ (upd_at (ne_ra hS ha) hS)
                  refine Own.putfield C d5_147 (q := 150) rfl (host := "") (Or.inl (hw _ (List.mem_of_getElem? (i := 21) rfl))) Via.refl (Or.inl (hw _ (List.mem_of_getElem? (i := 22) rfl))) (hw _ (List.mem_of_getElem? (i := 12) rfl)) (ty := (.array .int)) (by decide) rfl rfl (upd_at ne_a_a145 upd_same) (j := 0) rfl (fs' := [(("com/example/parcours/parcours/search/ValueNumbers", "values", "[I"), (.ref a145)), (("com/example/parcours/parcours/search/ValueNumbers", "places", "[I"), (.ref Pl)), (("com/example/parcours/parcours/search/ValueNumbers", "slots", "[J"), (.ref Sl)), (("com/example/parcours/parcours/search/ValueNumbers", "slotOf", "[I"), (.ref So)), (("com/example/parcours/parcours/search/ValueNumbers", "count", "I"), (.int (0 : Int32))), (("com/example/parcours/parcours/search/ValueNumbers", "byPlace", "Z"), (.int (1 : Int32))), (("com/example/parcours/parcours/search/ValueNumbers", "least", "I"), (.int low))]) rfl ga (mem (upd_in upd_upd (Ne.symm ne_a_a145)) ?_)
                  refine Own.vreturn C d5_150 (by decide) (by decide) ?_
                  exact ⟨rfl, a145, Pl, z70.toInt.toNat, nP, (fun _ => 0), pf1, sf1, (1 : Int32), ⟨(upd_at ne_a_a145 upd_same), upd_same, (upd_at ne_Pl_a145 (upd_at (ne_ra hP ha) hP)), (upd_at ne_Sl_a145 (upd_at (ne_ra hL ha) hL)), (upd_at ne_So_a145 (upd_at (ne_ra hS ha) hS)), ga, a145_g, gP, gL, gS, (Ne.symm ne_Pl_a145), (Ne.symm ne_So_a145), nPS, (Ne.symm ne_Sl_a145), nPL, nSL⟩, (by have o := c_i2l z133; rw [← e134] at o; rw [ar_len] at e133i; simp only [Decidable.not_not, Int64.lt_iff_toInt_lt] at h137; omega), nonep, nones, (fun _ => by refine ⟨?_, by omega⟩; have o := c_i2l z105; rw [← e106] at o; rw [ar_len] at e105i; simp only [Int64.lt_iff_toInt_lt] at h109; omega)⟩
            · refine Own.aloadN C d5_113 (q := 114) rfl rfl rfl ?_
              refine Own.lload C d5_114 (q := 116) rfl rfl ?_
              refine Own.l2i C d5_116 (q := 117) rfl fun z116 e116 => ?_
              refine Own.newArr C d5_117 (q := 119) rfl (ty := .int) rfl (hw _ (List.mem_of_getElem? (i := 20) rfl)) (nneg (n := z70.toInt.toNat) (by have o := c_l2i z70; rw [← e116] at o; have := rng32 z116; omega)) (cap := 63) (by rw [tn (n := z70.toInt.toNat) (by have o := c_l2i z70; rw [← e116] at o; have := rng32 z116; omega)]; omega) (by decide) (vs := (ar z70.toInt.toNat (fun _ => 0))) (by rw [tn (n := z70.toInt.toNat) (by have o := c_l2i z70; rw [← e116] at o; have := rng32 z116; omega)]; exact ar_zero _) (by decide) (by decide) fun a117 a117_f a117_g => ?_
              have ne_a_a117 := a117_f _ _ upd_same
              have ne_V_a117 := a117_f _ _ (upd_at (ne_ra hV ha) hV)
              have ne_Pl_a117 := a117_f _ _ (upd_at (ne_ra hP ha) hP)
              have ne_Sl_a117 := a117_f _ _ (upd_at (ne_ra hL ha) hL)
              have ne_So_a117 := a117_f _ _ (upd_at (ne_ra hS ha) hS)
              refine Own.putfield C d5_119 (q := 122) rfl (host := "") (Or.inl (hw _ (List.mem_of_getElem? (i := 23) rfl))) Via.refl (Or.inl (hw _ (List.mem_of_getElem? (i := 24) rfl))) (hw _ (List.mem_of_getElem? (i := 12) rfl)) (ty := (.array .int)) (by decide) rfl rfl (upd_at ne_a_a117 upd_same) (j := 1) rfl (fs' := [(("com/example/parcours/parcours/search/ValueNumbers", "values", "[I"), (.ref V)), (("com/example/parcours/parcours/search/ValueNumbers", "places", "[I"), (.ref a117)), (("com/example/parcours/parcours/search/ValueNumbers", "slots", "[J"), (.ref Sl)), (("com/example/parcours/parcours/search/ValueNumbers", "slotOf", "[I"), (.ref So)), (("com/example/parcours/parcours/search/ValueNumbers", "count", "I"), (.int (0 : Int32))), (("com/example/parcours/parcours/search/ValueNumbers", "byPlace", "Z"), (.int (1 : Int32))), (("com/example/parcours/parcours/search/ValueNumbers", "least", "I"), (.int low))]) rfl ga (mem (upd_in upd_upd (Ne.symm ne_a_a117)) ?_)
              refine Own.aloadN C d5_122 (q := 123) rfl rfl rfl ?_
              refine Own.getfield C d5_123 (q := 126) rfl (host := "") (Or.inl (hw _ (List.mem_of_getElem? (i := 37) rfl))) Via.refl (upd_at ne_a_a117 upd_same) (j := 5) rfl ?_
              refine Own.if_eq C d5_126 (q := 129) rfl (r := 150) (by decide) (fun h126 => ?_) (fun h126 => ?_)
              · exact absurd h126 (by decide)
              · refine Own.aloadN C d5_129 (q := 130) rfl rfl rfl ?_
                refine Own.getfield C d5_130 (q := 133) rfl (host := "") (Or.inl (hw _ (List.mem_of_getElem? (i := 21) rfl))) Via.refl (upd_at ne_a_a117 upd_same) (j := 0) rfl ?_
                refine Own.arraylength C d5_133 (q := 134) rfl (upd_at ne_V_a117 (upd_at (ne_ra hV ha) hV)) fun z133 e133 e133i => ?_
                refine Own.i2l C d5_134 (q := 135) rfl fun z134 e134 => ?_
                refine Own.lload C d5_135 (q := 137) rfl rfl ?_
                refine Own.lcmp_ge C d5_137 (pc1 := 138) rfl d5_138 (q := 141) rfl (r := 150) (by decide) (fun h137 => ?_) (fun h137 => ?_)
                · refine Own.vreturn C d5_150 (by decide) (by decide) ?_
                  exact ⟨rfl, V, a117, nV, z70.toInt.toNat, vf, (fun _ => 0), sf1, (1 : Int32), ⟨(upd_at ne_a_a117 upd_same), (upd_at ne_V_a117 (upd_at (ne_ra hV ha) hV)), upd_same, (upd_at ne_Sl_a117 (upd_at (ne_ra hL ha) hL)), (upd_at ne_So_a117 (upd_at (ne_ra hS ha) hS)), ga, gV, a117_g, gL, gS, ne_V_a117, nVS, (Ne.symm ne_So_a117), nVL, (Ne.symm ne_Sl_a117), nSL⟩, hV8, (fun _ _ => rfl), nones, (fun _ => ⟨by omega, by omega⟩)⟩
                · refine Own.aloadN C d5_141 (q := 142) rfl rfl rfl ?_
                  refine Own.lload C d5_142 (q := 144) rfl rfl ?_
                  refine Own.l2i C d5_144 (q := 145) rfl fun z144 e144 => ?_
                  refine Own.newArr C d5_145 (q := 147) rfl (ty := .int) rfl (hw _ (List.mem_of_getElem? (i := 20) rfl)) (nneg (n := z70.toInt.toNat) (by have o := c_l2i z70; rw [← e144] at o; have := rng32 z144; omega)) (cap := 63) (by rw [tn (n := z70.toInt.toNat) (by have o := c_l2i z70; rw [← e144] at o; have := rng32 z144; omega)]; omega) (by decide) (vs := (ar z70.toInt.toNat (fun _ => 0))) (by rw [tn (n := z70.toInt.toNat) (by have o := c_l2i z70; rw [← e144] at o; have := rng32 z144; omega)]; exact ar_zero _) (by decide) (by decide) fun a145 a145_f a145_g => ?_
                  have ne_a_a145 := a145_f _ _ (upd_at ne_a_a117 upd_same)
                  have ne_a117_a145 := a145_f _ _ upd_same
                  have ne_V_a145 := a145_f _ _ (upd_at ne_V_a117 (upd_at (ne_ra hV ha) hV))
                  have ne_Pl_a145 := a145_f _ _ (upd_at ne_Pl_a117 (upd_at (ne_ra hP ha) hP))
                  have ne_Sl_a145 := a145_f _ _ (upd_at ne_Sl_a117 (upd_at (ne_ra hL ha) hL))
                  have ne_So_a145 := a145_f _ _ (upd_at ne_So_a117 (upd_at (ne_ra hS ha) hS))
                  refine Own.putfield C d5_147 (q := 150) rfl (host := "") (Or.inl (hw _ (List.mem_of_getElem? (i := 21) rfl))) Via.refl (Or.inl (hw _ (List.mem_of_getElem? (i := 22) rfl))) (hw _ (List.mem_of_getElem? (i := 12) rfl)) (ty := (.array .int)) (by decide) rfl rfl (upd_at ne_a_a145 (upd_at ne_a_a117 upd_same)) (j := 0) rfl (fs' := [(("com/example/parcours/parcours/search/ValueNumbers", "values", "[I"), (.ref a145)), (("com/example/parcours/parcours/search/ValueNumbers", "places", "[I"), (.ref a117)), (("com/example/parcours/parcours/search/ValueNumbers", "slots", "[J"), (.ref Sl)), (("com/example/parcours/parcours/search/ValueNumbers", "slotOf", "[I"), (.ref So)), (("com/example/parcours/parcours/search/ValueNumbers", "count", "I"), (.int (0 : Int32))), (("com/example/parcours/parcours/search/ValueNumbers", "byPlace", "Z"), (.int (1 : Int32))), (("com/example/parcours/parcours/search/ValueNumbers", "least", "I"), (.int low))]) rfl ga (mem (upd_in (upd_in upd_upd (Ne.symm ne_a_a117)) (Ne.symm ne_a_a145)) ?_)
                  refine Own.vreturn C d5_150 (by decide) (by decide) ?_
                  exact ⟨rfl, a145, a117, z70.toInt.toNat, z70.toInt.toNat, (fun _ => 0), (fun _ => 0), sf1, (1 : Int32), ⟨(upd_at ne_a_a145 (upd_at ne_a_a117 upd_same)), upd_same, (upd_at ne_a117_a145 upd_same), (upd_at ne_Sl_a145 (upd_at ne_Sl_a117 (upd_at (ne_ra hL ha) hL))), (upd_at ne_So_a145 (upd_at ne_So_a117 (upd_at (ne_ra hS ha) hS))), ga, a145_g, a117_g, gL, gS, (Ne.symm ne_a117_a145), (Ne.symm ne_So_a145), (Ne.symm ne_So_a117), (Ne.symm ne_Sl_a145), (Ne.symm ne_Sl_a117), nSL⟩, (by have o := c_i2l z133; rw [← e134] at o; rw [ar_len] at e133i; simp only [Decidable.not_not, Int64.lt_iff_toInt_lt] at h137; omega), (fun _ _ => rfl), nones, (fun _ => ⟨by omega, by omega⟩)⟩
      · have hkc : k < c' := by simp only [Decidable.not_not, Int32.lt_iff_toInt_lt] at h9; omega
        refine Own.aloadN C d5_12 (q := 13) rfl rfl rfl ?_
        refine Own.getfield C d5_13 (q := 16) rfl (host := "") (Or.inl (hw _ (List.mem_of_getElem? (i := 37) rfl))) Via.refl ha (j := 5) rfl ?_
        refine Own.if_eq C d5_16 (q := 19) rfl (r := 40) (by decide) (fun h16 => ?_) (fun h16 => ?_)
        · refine Own.aloadN C d5_40 (q := 41) rfl rfl rfl ?_
          refine Own.getfield C d5_41 (q := 44) rfl (host := "") (Or.inl (hw _ (List.mem_of_getElem? (i := 26) rfl))) Via.refl ha (j := 2) rfl ?_
          refine Own.aloadN C d5_44 (q := 45) rfl rfl rfl ?_
          refine Own.getfield C d5_45 (q := 48) rfl (host := "") (Or.inl (hw _ (List.mem_of_getElem? (i := 28) rfl))) Via.refl ha (j := 3) rfl ?_
          obtain ⟨t, ht, htv, hI'⟩ := hI1.slot h16 hkc
          refine Own.iload C d5_48 (q := 50) rfl rfl ?_
          refine Own.iaload C d5_50 (q := 51) rfl hS (nneg hk1) (v := (.int (uf k))) (by rw [tn hk1]; exact ar_get uf (by omega)) ?_
          refine Own.lconst C d5_51 (q := 52) rfl (z := 0) (by decide) ?_
          refine Own.lastore C d5_52 (q := 53) rfl hL (nneg htv) (by rw [al_len, tn htv]; exact ht) gL (mem (upd_list (vs' := (al 16 (fun i => if i = t then 0 else sf1 i))) (by rw [tn htv]; exact al_set sf1 _) rfl) ?_)
          obtain ⟨z53, e53⟩ : ∃ z53 : Int32, z53 = k1 + (1 : Int32) := ⟨_, rfl⟩
          refine Own.iinc C d5_53 (q := 56) rfl rfl (z := z53) e53.symm (L' := #[.val (.ref a), .val (.int low), .val (.int high), .val (.long lg), .second, .val (.int z53), .unset]) rfl ?_
          have hk' : z53.toInt = ((k + 1 : Nat) : Int) := by have o := c_iadd k1 1; rw [← e53] at o; have := rng32 z53; simp only [show (1 : Int32).toInt = 1 from rfl] at o; omega
          refine Own.goto C d5_56 (q := 3) (by decide) ?_
          exact ih (k + 1) _ pf1 (fun i => if i = t then 0 else sf1 i) _ hk' (by omega) hI' (by omega) ⟨(upd_at (Ne.symm (ne_ra hL ha)) ha), (upd_at nVL hV), (upd_at nPL hP), upd_same, (upd_at nSL hS), ga, gV, gP, gL, gS, nVP, nVS, nPS, nVL, nPL, nSL⟩
        · refine Own.aloadN C d5_19 (q := 20) rfl rfl rfl ?_
          refine Own.getfield C d5_20 (q := 23) rfl (host := "") (Or.inl (hw _ (List.mem_of_getElem? (i := 23) rfl))) Via.refl ha (j := 1) rfl ?_
          refine Own.aloadN C d5_23 (q := 24) rfl rfl rfl ?_
          refine Own.getfield C d5_24 (q := 27) rfl (host := "") (Or.inl (hw _ (List.mem_of_getElem? (i := 21) rfl))) Via.refl ha (j := 0) rfl ?_
          obtain ⟨d, hd, hdv, hI'⟩ := hI1.place h16 hkc
          refine Own.iload C d5_27 (q := 29) rfl rfl ?_
          refine Own.iaload C d5_29 (q := 30) rfl hV (nneg hk1) (v := (.int (vf k))) (by rw [tn hk1]; exact ar_get vf (by omega)) ?_
          refine Own.aloadN C d5_30 (q := 31) rfl rfl rfl ?_
          refine Own.getfield C d5_31 (q := 34) rfl (host := "") (Or.inl (hw _ (List.mem_of_getElem? (i := 39) rfl))) Via.refl ha (j := 6) rfl ?_
          refine Own.isub C d5_34 (q := 35) rfl fun z34 e34 => ?_
          have hd' : z34.toInt = (d : Nat) := by rw [e34]; exact hdv
          refine Own.iconst C d5_35 (q := 36) rfl (z := 0) (by decide) ?_
          refine Own.iastore C d5_36 (q := 37) rfl hP (nneg hd') (by rw [ar_len, tn hd']; exact hd) gP (mem (upd_list (vs' := (ar nP (fun i => if i = d then 0 else pf1 i))) (by rw [tn hd']; exact ar_set pf1 _) rfl) ?_)
          refine Own.goto C d5_37 (q := 53) (by decide) ?_
          obtain ⟨z53, e53⟩ : ∃ z53 : Int32, z53 = k1 + (1 : Int32) := ⟨_, rfl⟩
          refine Own.iinc C d5_53 (q := 56) rfl rfl (z := z53) e53.symm (L' := #[.val (.ref a), .val (.int low), .val (.int high), .val (.long lg), .second, .val (.int z53), .unset]) rfl ?_
          have hk' : z53.toInt = ((k + 1 : Nat) : Int) := by have o := c_iadd k1 1; rw [← e53] at o; have := rng32 z53; simp only [show (1 : Int32).toInt = 1 from rfl] at o; omega
          refine Own.goto C d5_56 (q := 3) (by decide) ?_
          exact ih (k + 1) _ (fun i => if i = d then 0 else pf1 i) sf1 _ hk' (by omega) hI' (by omega) ⟨(upd_at (Ne.symm (ne_ra hP ha)) ha), (upd_at nVP hV), upd_same, (upd_at (Ne.symm nPL) hL), (upd_at (Ne.symm nPS) hS), ga, gV, gP, gL, gS, nVP, nVS, nPS, nVL, nPL, nSL⟩
  exact J3 (c' + 1) 0 _ pf sf _ rfl (by omega) hI (by omega) ⟨ha, hV, hP, hL, hS, ga, gV, gP, gL, gS, nVP, nVS, nPS, nVL, nPL, nSL⟩
theorem inr {x lo hi : Int32} {nP : Nat} (h1 : lo.toInt ≤ x.toInt) (h2 : x.toInt ≤ hi.toInt) {b : Int32} (h : b ≠ 0 → hi.toInt - lo.toInt + 1 ≤ nP ∧ hi.toInt - lo.toInt + 1 ≤ 63) : b ≠ 0 → ∃ d, d < nP ∧ (x - lo).toInt = (d : Nat) := fun hb => by
  have := h hb; have o := c_isub x lo; have := rng32 (x - lo)
  exact ⟨(x - lo).toInt.toNat, by omega, by omega⟩
theorem l63 {x z : Int64} (h : z = x - (x / 64) * 64) : z.toInt ≤ 63 := by
  have o := c_lrem x 64 64 (by decide); rw [← h] at o; omega
theorem mnmx (x y : Int32) : (mn' x y).toInt ≤ (mx' x y).toInt := by
  unfold mn' mx'; split <;> split <;> rename_i p q <;> rw [Int32.lt_iff_toInt_lt] at p q <;> omega
theorem upto {x y z4 z6 : Int32} {z1 z5 z58 z62 : Int64} (e1 : z1 = x.toInt64) (e4 : z4 = y &&& 63) (e5 : z5 = z4.toInt64) (e58 : z58 = z1 + z5) (h : z62 = mnl z58 2147483647) (e6 : z6 = z62.toInt32) : x.toInt ≤ z6.toInt := by
  have o1 := c_i2l x; rw [← e1] at o1
  have o4 := c_mask y 63 6 (by decide) (by decide); rw [← e4] at o4; have o4 : z4.toInt = y.toInt % 64 := o4
  have o5 := c_i2l z4; rw [← e5] at o5; have o58 := c_ladd z1 z5; rw [← e58] at o58; have := rng64 z58; have := rng32 x
  have o6 := c_l2i z62; rw [← e6] at o6; have := rng32 z6
  have hm : z62.toInt = z58.toInt ∧ z58.toInt ≤ 2147483647 ∨ z62.toInt = 2147483647 := by
    rw [h]; unfold mnl; split <;> rename_i q <;> rw [Int64.lt_iff_toInt_lt, show (2147483647 : Int64).toInt = 2147483647 from rfl] at q
    · exact Or.inr rfl
    · exact Or.inl ⟨rfl, by omega⟩
  omega
theorem pd_2 : parseMethodDescriptor "(III)I" = some ⟨[.int, .int, .int], some .int⟩ := by decide +kernel
theorem pd_3 : parseMethodDescriptor "()V" = some ⟨[], none⟩ := by decide +kernel
theorem pd_4 : parseMethodDescriptor "(IIJ)V" = some ⟨[.int, .int, .long], none⟩ := by decide +kernel
theorem pd_5 : parseMethodDescriptor "()I" = some ⟨[], some .int⟩ := by decide +kernel
theorem pd_6 : parseMethodDescriptor "(III)Z" = some ⟨[.int, .int, .int], some .boolean⟩ := by decide +kernel
theorem pd_7 : parseMethodDescriptor "(JJ)J" = some ⟨[.long, .long], some .long⟩ := by decide +kernel
theorem pd_8 : parseMethodDescriptor "(II)I" = some ⟨[.int, .int], some .int⟩ := by decide +kernel
set_option maxRecDepth 65536 in
set_option maxHeartbeats 40000000 in
theorem c_law (l : Launch) (Z : State) (a0 : Array Value) (hw : ∀ d ∈ tables_1, d.before a0 Z = true) (n0 : Nat) (μ : Mem) (r1 : Int64) (r2 : Int64) (lg : Int64) (p1 : Int64) (p2 : Int64) (f : Int32)  :
    Con l Z n0 x code maxLocals ret tables_1 room_1 room_1.cells room_1.slots #[(.long r1), (.long r2), (.long lg), (.long p1), (.long p2), (.int f)] μ (fun v _ => v = some (.int 1)) := by
  refine Con.intro (L0 := #[.val (.long r1), .second, .val (.long r2), .second, .val (.long lg), .second, .val (.long p1), .second, .val (.long p2), .second, .val (.int f), .unset, .unset, .unset, .unset, .unset, .unset, .unset, .unset, .unset, .unset, .unset, .unset, .unset, .unset, .unset, .unset, .unset, .unset, .unset, .unset, .unset, .unset, .unset, .unset, .unset, .unset]) (plainFor_of_name (by first | (simp [plainName, overriddenIn]; done) | decide +kernel)) (fun m => by first | (simp [entryFrame, mkF, argsToLocals, Value.category, maxLocals]; done) | rfl) ?_
  intro p e s m below meth c C
  have C : Ctx p s m meth c Z "com/example/parcours/parcours/search/ValueNumbersClearPinLaw" "law" code maxLocals (some .boolean) := C
  refine Own.lloadN C at_0 (q := 1) rfl rfl ?_
  refine Own.l2i C at_1 (q := 2) rfl fun z1 e1 => ?_
  refine Own.istore C at_2 (q := 4) rfl (L' := #[.val (.long r1), .second, .val (.long r2), .second, .val (.long lg), .second, .val (.long p1), .second, .val (.long p2), .second, .val (.int f), .val (.int z1), .unset, .unset, .unset, .unset, .unset, .unset, .unset, .unset, .unset, .unset, .unset, .unset, .unset, .unset, .unset, .unset, .unset, .unset, .unset, .unset, .unset, .unset, .unset, .unset, .unset]) rfl ?_
  refine Own.lloadN C at_4 (q := 5) rfl rfl ?_
  refine Own.bipush C at_5 (q := 7) rfl (z := 32) (by decide) ?_
  refine Own.lushr C at_7 (q := 8) rfl fun z7 e7 => ?_
  refine Own.l2i C at_8 (q := 9) rfl fun z8 e8 => ?_
  refine Own.istore C at_9 (q := 11) rfl (L' := #[.val (.long r1), .second, .val (.long r2), .second, .val (.long lg), .second, .val (.long p1), .second, .val (.long p2), .second, .val (.int f), .val (.int z1), .val (.int z8), .unset, .unset, .unset, .unset, .unset, .unset, .unset, .unset, .unset, .unset, .unset, .unset, .unset, .unset, .unset, .unset, .unset, .unset, .unset, .unset, .unset, .unset, .unset, .unset]) rfl ?_
  have J68 : ∀ (lo1 hi1 : Int32), lo1.toInt ≤ hi1.toInt → Go p l e room_1 s m #[(.long r1), (.long r2), (.long lg), (.long p1), (.long p2), (.int f)] below meth c Z n0 (fun v _ => v = some (.int 1)) room_1.cells room_1.slots μ (0) (0) (mkF m 68 #[.val (.long r1), .second, .val (.long r2), .second, .val (.long lg), .second, .val (.long p1), .second, .val (.long p2), .second, .val (.int f), .val (.int z1), .val (.int z8), .val (.int lo1), .val (.int hi1), .unset, .unset, .unset, .unset, .unset, .unset, .unset, .unset, .unset, .unset, .unset, .unset, .unset, .unset, .unset, .unset, .unset, .unset, .unset, .unset, .unset, .unset] []) := by
    intro lo1 hi1 hlh1
    refine Own.lloadN C at_68 (q := 69) rfl rfl ?_
    refine Own.l2i C at_69 (q := 70) rfl fun z69 e69 => ?_
    refine Own.istore C at_70 (q := 72) rfl (L' := #[.val (.long r1), .second, .val (.long r2), .second, .val (.long lg), .second, .val (.long p1), .second, .val (.long p2), .second, .val (.int f), .val (.int z1), .val (.int z8), .val (.int lo1), .val (.int hi1), .val (.int z69), .unset, .unset, .unset, .unset, .unset, .unset, .unset, .unset, .unset, .unset, .unset, .unset, .unset, .unset, .unset, .unset, .unset, .unset, .unset, .unset, .unset]) rfl ?_
    refine Own.lloadN C at_72 (q := 73) rfl rfl ?_
    refine Own.bipush C at_73 (q := 75) rfl (z := 32) (by decide) ?_
    refine Own.lushr C at_75 (q := 76) rfl fun z75 e75 => ?_
    refine Own.l2i C at_76 (q := 77) rfl fun z76 e76 => ?_
    refine Own.istore C at_77 (q := 79) rfl (L' := #[.val (.long r1), .second, .val (.long r2), .second, .val (.long lg), .second, .val (.long p1), .second, .val (.long p2), .second, .val (.int f), .val (.int z1), .val (.int z8), .val (.int lo1), .val (.int hi1), .val (.int z69), .val (.int z76), .unset, .unset, .unset, .unset, .unset, .unset, .unset, .unset, .unset, .unset, .unset, .unset, .unset, .unset, .unset, .unset, .unset, .unset, .unset, .unset]) rfl ?_
    have J95 : ∀ base2 : Int32, Go p l e room_1 s m #[(.long r1), (.long r2), (.long lg), (.long p1), (.long p2), (.int f)] below meth c Z n0 (fun v _ => v = some (.int 1)) room_1.cells room_1.slots μ (0) (0) (mkF m 95 #[.val (.long r1), .second, .val (.long r2), .second, .val (.long lg), .second, .val (.long p1), .second, .val (.long p2), .second, .val (.int f), .val (.int z1), .val (.int z8), .val (.int lo1), .val (.int hi1), .val (.int z69), .val (.int z76), .val (.int base2), .unset, .unset, .unset, .unset, .unset, .unset, .unset, .unset, .unset, .unset, .unset, .unset, .unset, .unset, .unset, .unset, .unset, .unset, .unset] []) := by
      intro base2
      have J152 : ∀ (lo2 hi2 : Int32), lo2.toInt ≤ hi2.toInt → Go p l e room_1 s m #[(.long r1), (.long r2), (.long lg), (.long p1), (.long p2), (.int f)] below meth c Z n0 (fun v _ => v = some (.int 1)) room_1.cells room_1.slots μ (0) (0) (mkF m 152 #[.val (.long r1), .second, .val (.long r2), .second, .val (.long lg), .second, .val (.long p1), .second, .val (.long p2), .second, .val (.int f), .val (.int z1), .val (.int z8), .val (.int lo1), .val (.int hi1), .val (.int z69), .val (.int z76), .val (.int base2), .val (.int lo2), .val (.int hi2), .unset, .unset, .unset, .unset, .unset, .unset, .unset, .unset, .unset, .unset, .unset, .unset, .unset, .unset, .unset, .unset, .unset] []) := by
        intro lo2 hi2 hlh2
        refine Own.lload C at_152 (q := 154) rfl rfl ?_
        refine Own.ldcJ C at_154 (q := 157) rfl (hw _ (List.mem_of_getElem? (i := 5) rfl)) ?_
        refine Own.lrem C at_157 (q := 158) rfl (by decide) fun z157 e157 => ?_
        refine Own.lstore C at_158 (q := 160) rfl (L' := #[.val (.long r1), .second, .val (.long r2), .second, .val (.long lg), .second, .val (.long p1), .second, .val (.long p2), .second, .val (.int f), .val (.int z1), .val (.int z8), .val (.int lo1), .val (.int hi1), .val (.int z69), .val (.int z76), .val (.int base2), .val (.int lo2), .val (.int hi2), .val (.long z157), .second, .unset, .unset, .unset, .unset, .unset, .unset, .unset, .unset, .unset, .unset, .unset, .unset, .unset, .unset, .unset]) rfl ?_
        refine Own.lload C at_160 (q := 162) rfl rfl ?_
        refine Own.ldcJ C at_162 (q := 165) rfl (hw _ (List.mem_of_getElem? (i := 5) rfl)) ?_
        refine Own.ldiv C at_165 (q := 166) rfl (by decide) fun z165 e165 => ?_
        refine Own.ldcJ C at_166 (q := 169) rfl (hw _ (List.mem_of_getElem? (i := 5) rfl)) ?_
        refine Own.lrem C at_169 (q := 170) rfl (by decide) fun z169 e169 => ?_
        refine Own.lstore C at_170 (q := 172) rfl (L' := #[.val (.long r1), .second, .val (.long r2), .second, .val (.long lg), .second, .val (.long p1), .second, .val (.long p2), .second, .val (.int f), .val (.int z1), .val (.int z8), .val (.int lo1), .val (.int hi1), .val (.int z69), .val (.int z76), .val (.int base2), .val (.int lo2), .val (.int hi2), .val (.long z157), .second, .val (.long z169), .second, .unset, .unset, .unset, .unset, .unset, .unset, .unset, .unset, .unset, .unset, .unset, .unset, .unset]) rfl ?_
        refine Own.iload C at_172 (q := 174) rfl rfl ?_
        refine Own.iload C at_174 (q := 176) rfl rfl ?_
        refine Own.lload C at_176 (q := 178) rfl rfl ?_
        refine Own.l2i C at_178 (q := 179) rfl fun z178 e178 => ?_
        refine Own.callS C at_179 (q := 182) rfl (hw _ (List.mem_of_getElem? (i := 6) rfl)) (hw _ (List.mem_of_getElem? (i := 7) rfl)) (hw _ (List.mem_of_getElem? (i := 8) rfl)) (hw _ (List.mem_of_getElem? (i := 9) rfl)) (by decide) (W := 0) (rm := rm_2) (argsL := [(.int lo1), (.int hi1), (.int z178)]) (st := []) (lenOf pd_2 rfl) rfl rfl (Nat.le_of_eq rfl) (by decide) (by decide) (by decide) (by decide) (c_pick l Z a0 hw n0 _ lo1 hi1 z178 hlh1) (nxI fun z179 μ179 h179 => ?_)
        obtain ⟨h179m, h179⟩ := h179
        refine Own.mem h179m ?_
        refine Own.istore C at_182 (q := 184) rfl (L' := #[.val (.long r1), .second, .val (.long r2), .second, .val (.long lg), .second, .val (.long p1), .second, .val (.long p2), .second, .val (.int f), .val (.int z1), .val (.int z8), .val (.int lo1), .val (.int hi1), .val (.int z69), .val (.int z76), .val (.int base2), .val (.int lo2), .val (.int hi2), .val (.long z157), .second, .val (.long z169), .second, .val (.int z179), .unset, .unset, .unset, .unset, .unset, .unset, .unset, .unset, .unset, .unset, .unset, .unset]) rfl ?_
        refine Own.iload C at_184 (q := 186) rfl rfl ?_
        refine Own.iload C at_186 (q := 188) rfl rfl ?_
        refine Own.lload C at_188 (q := 190) rfl rfl ?_
        refine Own.l2i C at_190 (q := 191) rfl fun z190 e190 => ?_
        refine Own.callS C at_191 (q := 194) rfl (hw _ (List.mem_of_getElem? (i := 6) rfl)) (hw _ (List.mem_of_getElem? (i := 7) rfl)) (hw _ (List.mem_of_getElem? (i := 8) rfl)) (hw _ (List.mem_of_getElem? (i := 9) rfl)) (by decide) (W := 0) (rm := rm_2) (argsL := [(.int lo1), (.int hi1), (.int z190)]) (st := []) (lenOf pd_2 rfl) rfl rfl (Nat.le_of_eq rfl) (by decide) (by decide) (by decide) (by decide) (c_pick l Z a0 hw n0 _ lo1 hi1 z190 hlh1) (nxI fun z191 μ191 h191 => ?_)
        obtain ⟨h191m, h191⟩ := h191
        refine Own.mem h191m ?_
        refine Own.istore C at_194 (q := 196) rfl (L' := #[.val (.long r1), .second, .val (.long r2), .second, .val (.long lg), .second, .val (.long p1), .second, .val (.long p2), .second, .val (.int f), .val (.int z1), .val (.int z8), .val (.int lo1), .val (.int hi1), .val (.int z69), .val (.int z76), .val (.int base2), .val (.int lo2), .val (.int hi2), .val (.long z157), .second, .val (.long z169), .second, .val (.int z179), .val (.int z191), .unset, .unset, .unset, .unset, .unset, .unset, .unset, .unset, .unset, .unset, .unset]) rfl ?_
        have J236 : ∀ X : Int32, lo2.toInt ≤ X.toInt → X.toInt ≤ hi2.toInt → Go p l e room_1 s m #[(.long r1), (.long r2), (.long lg), (.long p1), (.long p2), (.int f)] below meth c Z n0 (fun v _ => v = some (.int 1)) room_1.cells room_1.slots μ (0 + 0 + 0) (0 + 0 + 0) (mkF m 236 #[.val (.long r1), .second, .val (.long r2), .second, .val (.long lg), .second, .val (.long p1), .second, .val (.long p2), .second, .val (.int f), .val (.int z1), .val (.int z8), .val (.int lo1), .val (.int hi1), .val (.int z69), .val (.int z76), .val (.int base2), .val (.int lo2), .val (.int hi2), .val (.long z157), .second, .val (.long z169), .second, .val (.int z179), .val (.int z191), .val (.int X), .unset, .unset, .unset, .unset, .unset, .unset, .unset, .unset, .unset, .unset] []) := by
          intro X hX1 hX2
          have J293 : ∀ Y : Int32, lo2.toInt ≤ Y.toInt → Y.toInt ≤ hi2.toInt → Go p l e room_1 s m #[(.long r1), (.long r2), (.long lg), (.long p1), (.long p2), (.int f)] below meth c Z n0 (fun v _ => v = some (.int 1)) room_1.cells room_1.slots μ (0 + 0 + 0) (0 + 0 + 0) (mkF m 293 #[.val (.long r1), .second, .val (.long r2), .second, .val (.long lg), .second, .val (.long p1), .second, .val (.long p2), .second, .val (.int f), .val (.int z1), .val (.int z8), .val (.int lo1), .val (.int hi1), .val (.int z69), .val (.int z76), .val (.int base2), .val (.int lo2), .val (.int hi2), .val (.long z157), .second, .val (.long z169), .second, .val (.int z179), .val (.int z191), .val (.int X), .val (.int Y), .unset, .unset, .unset, .unset, .unset, .unset, .unset, .unset, .unset] []) := by
            intro Y hY1 hY2
            refine Own.new C at_293 (q := 296) rfl (hw _ (List.mem_of_getElem? (i := 11) rfl)) (hw _ (List.mem_of_getElem? (i := 12) rfl)) (hw _ (List.mem_of_getElem? (i := 13) rfl)) (lay_VN hw) (by decide) (by decide) (by decide) fun a293 a293_f a293_g => ?_
            refine Own.dup C at_296 (q := 297) rfl rfl ?_
            refine Own.callI C at_297 (q := 300) rfl rfl (hw _ (List.mem_of_getElem? (i := 14) rfl)) (hw _ (List.mem_of_getElem? (i := 15) rfl)) (hw _ (List.mem_of_getElem? (i := 13) rfl)) (hw _ (List.mem_of_getElem? (i := 16) rfl)) (by decide) (W := 1) (rm := rm_3) (argsL := []) (st := [(.ref a293)]) (lenOf pd_3 rfl) rfl rfl (Nat.le_of_eq rfl) (by decide) (by decide) (by decide) (by decide) (c_init l Z a0 hw n0 _ a293 upd_same a293_g) (nxV fun μ297 h297 => ?_)
            obtain ⟨V0, P0, L0, S0, H0⟩ := h297
            refine Own.astore C at_300 (q := 302) rfl (L' := #[.val (.long r1), .second, .val (.long r2), .second, .val (.long lg), .second, .val (.long p1), .second, .val (.long p2), .second, .val (.int f), .val (.int z1), .val (.int z8), .val (.int lo1), .val (.int hi1), .val (.int z69), .val (.int z76), .val (.int base2), .val (.int lo2), .val (.int hi2), .val (.long z157), .second, .val (.long z169), .second, .val (.int z179), .val (.int z191), .val (.int X), .val (.int Y), .val (.ref a293), .unset, .unset, .unset, .unset, .unset, .unset, .unset, .unset]) rfl rfl ?_
            refine Own.aload C at_302 (q := 304) rfl rfl rfl ?_
            refine Own.iload C at_304 (q := 306) rfl rfl ?_
            refine Own.iload C at_306 (q := 308) rfl rfl ?_
            refine Own.lload C at_308 (q := 310) rfl rfl ?_
            refine Own.callV C at_310 (q := 313) rfl (hw _ (List.mem_of_getElem? (i := 30) rfl)) (hw _ (List.mem_of_getElem? (i := 31) rfl)) (notFace_of_selects (args := #[]) (mvT C.2.2.2.1 (hw _ (List.mem_of_getElem? (i := 33) rfl)))) (hw _ (List.mem_of_getElem? (i := 33) rfl)) (hw _ (List.mem_of_getElem? (i := 32) rfl)) (hw _ (List.mem_of_getElem? (i := 13) rfl)) (hw _ (List.mem_of_getElem? (i := 34) rfl)) (by decide) (W := 0) (rm := rm_5) (argsL := [(.int lo1), (.int hi1), (.long z157)]) (st := []) (lenOf pd_4 rfl) rfl rfl (Nat.le_of_eq rfl) (by decide) (by decide) (by decide) (by decide) H0.1 (c_clear l Z a0 hw n0 _ a293 lo1 hi1 z157 V0 P0 L0 S0 8 0 (fun _ => 0) (fun _ => 0) (fun _ => 0) (fun _ => 0) (0 : Int32) (0 : Int32) (0 : Int32) 0 rfl (by omega) (Nat.le_refl 8) (Inv.start (fun d h => absurd h (by omega)) (fun _ _ => rfl)) hlh1 (l63 e157) H0) (nxV fun μ310 h310 => ?_)
            obtain ⟨V310, P310, nV310, nP310, vf310, pf310, sf310, b310, H310, h8310, hp310, hs310, hr310⟩ := h310
            have J329 : ∀ (c_329 : Nat) (cn_329 : Int32) (vf_329 pf_329 uf_329 : Nat → Int32) (sf_329 : Nat → Int64) (μ_329 : Mem), c_329 ≤ 1 → cn_329.toInt = c_329 → Inv 0 c_329 b310 lo1 nV310 nP310 vf_329 pf_329 uf_329 sf_329 → (b310 = 0 → Reach c_329 vf_329 uf_329 sf_329) → VNs n0 μ_329 a293 V310 P310 L0 S0 nV310 nP310 vf_329 pf_329 uf_329 sf_329 cn_329 b310 lo1 → Go p l e room_1 s m #[(.long r1), (.long r2), (.long lg), (.long p1), (.long p2), (.int f)] below meth c Z n0 (fun v _ => v = some (.int 1)) room_1.cells room_1.slots μ_329 (0 + 0 + 0 + 1 + 4 + 2) (0 + 0 + 0 + 7 + 32 + 126) (mkF m 329 #[.val (.long r1), .second, .val (.long r2), .second, .val (.long lg), .second, .val (.long p1), .second, .val (.long p2), .second, .val (.int f), .val (.int z1), .val (.int z8), .val (.int lo1), .val (.int hi1), .val (.int z69), .val (.int z76), .val (.int base2), .val (.int lo2), .val (.int hi2), .val (.long z157), .second, .val (.long z169), .second, .val (.int z179), .val (.int z191), .val (.int X), .val (.int Y), .val (.ref a293), .unset, .unset, .unset, .unset, .unset, .unset, .unset, .unset] []) := by
              intro c_329 cn_329 vf_329 pf_329 uf_329 sf_329 μ_329 hb_329 hc_329 hI_329 hR_329 H_329
              have J346 : ∀ (c_346 : Nat) (cn_346 : Int32) (vf_346 pf_346 uf_346 : Nat → Int32) (sf_346 : Nat → Int64) (μ_346 : Mem), c_346 ≤ 2 → cn_346.toInt = c_346 → Inv 0 c_346 b310 lo1 nV310 nP310 vf_346 pf_346 uf_346 sf_346 → (b310 = 0 → Reach c_346 vf_346 uf_346 sf_346) → VNs n0 μ_346 a293 V310 P310 L0 S0 nV310 nP310 vf_346 pf_346 uf_346 sf_346 cn_346 b310 lo1 → Go p l e room_1 s m #[(.long r1), (.long r2), (.long lg), (.long p1), (.long p2), (.int f)] below meth c Z n0 (fun v _ => v = some (.int 1)) room_1.cells room_1.slots μ_346 (0 + 0 + 0 + 1 + 4 + 2) (0 + 0 + 0 + 7 + 32 + 126) (mkF m 346 #[.val (.long r1), .second, .val (.long r2), .second, .val (.long lg), .second, .val (.long p1), .second, .val (.long p2), .second, .val (.int f), .val (.int z1), .val (.int z8), .val (.int lo1), .val (.int hi1), .val (.int z69), .val (.int z76), .val (.int base2), .val (.int lo2), .val (.int hi2), .val (.long z157), .second, .val (.long z169), .second, .val (.int z179), .val (.int z191), .val (.int X), .val (.int Y), .val (.ref a293), .unset, .unset, .unset, .unset, .unset, .unset, .unset, .unset] []) := by
                intro c_346 cn_346 vf_346 pf_346 uf_346 sf_346 μ_346 hb_346 hc_346 hI_346 hR_346 H_346
                refine Own.aload C at_346 (q := 348) rfl rfl rfl ?_
                refine Own.iload C at_348 (q := 350) rfl rfl ?_
                refine Own.iload C at_350 (q := 352) rfl rfl ?_
                refine Own.lload C at_352 (q := 354) rfl rfl ?_
                refine Own.callV C at_354 (q := 357) rfl (hw _ (List.mem_of_getElem? (i := 30) rfl)) (hw _ (List.mem_of_getElem? (i := 31) rfl)) (notFace_of_selects (args := #[]) (mvT C.2.2.2.1 (hw _ (List.mem_of_getElem? (i := 33) rfl)))) (hw _ (List.mem_of_getElem? (i := 33) rfl)) (hw _ (List.mem_of_getElem? (i := 32) rfl)) (hw _ (List.mem_of_getElem? (i := 13) rfl)) (hw _ (List.mem_of_getElem? (i := 34) rfl)) (by decide) (W := 0) (rm := rm_5) (argsL := [(.int lo2), (.int hi2), (.long z169)]) (st := []) (lenOf pd_4 rfl) rfl rfl (Nat.le_of_eq rfl) (by decide) (by decide) (by decide) (by decide) H_346.1 (c_clear l Z a0 hw n0 _ a293 lo2 hi2 z169 V310 P310 L0 S0 nV310 nP310 vf_346 pf_346 uf_346 sf_346 cn_346 b310 lo1 c_346 hc_346 (by omega) h8310 hI_346 hlh2 (l63 e169) H_346) (nxV fun μ354 h354 => ?_)
                obtain ⟨V354, P354, nV354, nP354, vf354, pf354, sf354, b354, H354, h8354, hp354, hs354, hr354⟩ := h354
                refine Own.aload C at_357 (q := 359) rfl rfl rfl ?_
                refine Own.callV C at_359 (q := 362) rfl (hw _ (List.mem_of_getElem? (i := 41) rfl)) (hw _ (List.mem_of_getElem? (i := 42) rfl)) (notFace_of_selects (args := #[]) (mvT C.2.2.2.1 (hw _ (List.mem_of_getElem? (i := 44) rfl)))) (hw _ (List.mem_of_getElem? (i := 44) rfl)) (hw _ (List.mem_of_getElem? (i := 43) rfl)) (hw _ (List.mem_of_getElem? (i := 13) rfl)) (hw _ (List.mem_of_getElem? (i := 45) rfl)) (by decide) (W := 0) (rm := rm_6) (argsL := []) (st := []) (lenOf pd_5 rfl) rfl rfl (Nat.le_of_eq rfl) (by decide) (by decide) (by decide) (by decide) H354.1 (c_count l Z a0 hw n0 _ a293 V354 P354 L0 S0 nV354 nP354 vf354 pf354 uf_346 sf354 (0 : Int32) b354 lo2 H354) (nxI fun z359 μ359 h359 => ?_)
                obtain ⟨h359m, h359⟩ := h359
                refine Own.mem h359m ?_
                obtain rfl : z359 = (0 : Int32) := h359
                refine Own.istore C at_362 (q := 364) rfl (L' := #[.val (.long r1), .second, .val (.long r2), .second, .val (.long lg), .second, .val (.long p1), .second, .val (.long p2), .second, .val (.int f), .val (.int z1), .val (.int z8), .val (.int lo1), .val (.int hi1), .val (.int z69), .val (.int z76), .val (.int base2), .val (.int lo2), .val (.int hi2), .val (.long z157), .second, .val (.long z169), .second, .val (.int z179), .val (.int z191), .val (.int X), .val (.int Y), .val (.ref a293), .val (.int (0 : Int32)), .unset, .unset, .unset, .unset, .unset, .unset, .unset]) rfl ?_
                refine Own.aload C at_364 (q := 366) rfl rfl rfl ?_
                refine Own.iload C at_366 (q := 368) rfl rfl ?_
                refine Own.callV C at_368 (q := 371) rfl (hw _ (List.mem_of_getElem? (i := 46) rfl)) (hw _ (List.mem_of_getElem? (i := 47) rfl)) (notFace_of_selects (args := #[]) (mvT C.2.2.2.1 (hw _ (List.mem_of_getElem? (i := 49) rfl)))) (hw _ (List.mem_of_getElem? (i := 49) rfl)) (hw _ (List.mem_of_getElem? (i := 48) rfl)) (hw _ (List.mem_of_getElem? (i := 13) rfl)) (hw _ (List.mem_of_getElem? (i := 50) rfl)) (by decide) (W := 0) (rm := rm_7) (argsL := [(.int X)]) (st := []) (lenOf pd_0 rfl) rfl rfl (Nat.le_of_eq rfl) (by decide) (by decide) (by decide) (by decide) H354.1 (c_num l Z a0 hw n0 _ a293 X V354 P354 L0 S0 nV354 nP354 vf354 pf354 uf_346 sf354 (0 : Int32) b354 lo2 0 rfl (by omega) h8354 (Inv.start hp354 hs354) (fun _ i hi => absurd hi (by omega)) (inr hX1 hX2 hr354) H354) (nxI fun z368 μ368 h368 => ?_)
                obtain ⟨c_368, cn_368, vf_368, pf_368, uf_368, sf_368, H_368, hc_368, hI_368, hR_368, hd_368⟩ := h368
                obtain ⟨-, k1, rfl, k3, -⟩ := hd_368.resolve_left (fun ⟨i, q, _⟩ => absurd q (by omega))
                obtain rfl : z368 = (0 : Int32) := Int32.toInt_inj.mp (by rw [k1]; rfl)
                refine Own.istore C at_371 (q := 373) rfl (L' := #[.val (.long r1), .second, .val (.long r2), .second, .val (.long lg), .second, .val (.long p1), .second, .val (.long p2), .second, .val (.int f), .val (.int z1), .val (.int z8), .val (.int lo1), .val (.int hi1), .val (.int z69), .val (.int z76), .val (.int base2), .val (.int lo2), .val (.int hi2), .val (.long z157), .second, .val (.long z169), .second, .val (.int z179), .val (.int z191), .val (.int X), .val (.int Y), .val (.ref a293), .val (.int (0 : Int32)), .val (.int (0 : Int32)), .unset, .unset, .unset, .unset, .unset, .unset]) rfl ?_
                refine Own.aload C at_373 (q := 375) rfl rfl rfl ?_
                refine Own.iload C at_375 (q := 377) rfl rfl ?_
                refine Own.callV C at_377 (q := 380) rfl (hw _ (List.mem_of_getElem? (i := 46) rfl)) (hw _ (List.mem_of_getElem? (i := 47) rfl)) (notFace_of_selects (args := #[]) (mvT C.2.2.2.1 (hw _ (List.mem_of_getElem? (i := 49) rfl)))) (hw _ (List.mem_of_getElem? (i := 49) rfl)) (hw _ (List.mem_of_getElem? (i := 48) rfl)) (hw _ (List.mem_of_getElem? (i := 13) rfl)) (hw _ (List.mem_of_getElem? (i := 50) rfl)) (by decide) (W := 0) (rm := rm_7) (argsL := [(.int Y)]) (st := []) (lenOf pd_0 rfl) rfl rfl (Nat.le_of_eq rfl) (by decide) (by decide) (by decide) (by decide) H_368.1 (c_num l Z a0 hw n0 _ a293 Y V354 P354 L0 S0 nV354 nP354 vf_368 pf_368 uf_368 sf_368 cn_368 b354 lo2 (0 + 1) hc_368 (by omega) h8354 hI_368 hR_368 (inr hY1 hY2 hr354) H_368) (nxI fun z377 μ377 h377 => ?_)
                obtain ⟨c_377, cn_377, vf_377, pf_377, uf_377, sf_377, H_377, hc_377, hI_377, hR_377, hd_377⟩ := h377
                rcases hd_377 with ⟨i, q1, q2, q3, rfl, q6⟩ | ⟨q1, q2, rfl, q4, q5⟩
                · obtain rfl : i = 0 := by omega
                  have hxy : X = Y := k3.symm.trans q2
                  obtain rfl : z377 = (0 : Int32) := Int32.toInt_inj.mp (by rw [q3]; rfl)
                  have k5 : vf_377 0 = X := by rw [q6]; exact k3
                  refine Own.istore C at_380 (q := 382) rfl (L' := #[.val (.long r1), .second, .val (.long r2), .second, .val (.long lg), .second, .val (.long p1), .second, .val (.long p2), .second, .val (.int f), .val (.int z1), .val (.int z8), .val (.int lo1), .val (.int hi1), .val (.int z69), .val (.int z76), .val (.int base2), .val (.int lo2), .val (.int hi2), .val (.long z157), .second, .val (.long z169), .second, .val (.int z179), .val (.int z191), .val (.int X), .val (.int Y), .val (.ref a293), .val (.int (0 : Int32)), .val (.int (0 : Int32)), .val (.int (0 : Int32)), .unset, .unset, .unset, .unset, .unset]) rfl ?_
                  refine Own.aload C at_382 (q := 384) rfl rfl rfl ?_
                  refine Own.iload C at_384 (q := 386) rfl rfl ?_
                  refine Own.callV C at_386 (q := 389) rfl (hw _ (List.mem_of_getElem? (i := 46) rfl)) (hw _ (List.mem_of_getElem? (i := 47) rfl)) (notFace_of_selects (args := #[]) (mvT C.2.2.2.1 (hw _ (List.mem_of_getElem? (i := 49) rfl)))) (hw _ (List.mem_of_getElem? (i := 49) rfl)) (hw _ (List.mem_of_getElem? (i := 48) rfl)) (hw _ (List.mem_of_getElem? (i := 13) rfl)) (hw _ (List.mem_of_getElem? (i := 50) rfl)) (by decide) (W := 0) (rm := rm_7) (argsL := [(.int X)]) (st := []) (lenOf pd_0 rfl) rfl rfl (Nat.le_of_eq rfl) (by decide) (by decide) (by decide) (by decide) H_377.1 (c_num l Z a0 hw n0 _ a293 X V354 P354 L0 S0 nV354 nP354 vf_377 pf_377 uf_377 sf_377 cn_377 b354 lo2 (0 + 1) hc_377 (by omega) h8354 hI_377 hR_377 (inr hX1 hX2 hr354) H_377) (nxI fun z386 μ386 h386 => ?_)
                  obtain ⟨c_386, cn_386, vf_386, pf_386, uf_386, sf_386, H_386, hc_386, hI_386, hR_386, hd_386⟩ := h386
                  obtain ⟨i, g1, g2, g3, rfl, g6⟩ := hd_386.resolve_right (fun q => q.1 0 (by omega) k5)
                  obtain rfl : i = 0 := by omega
                  have vX : vf_386 0 = X := by rw [g6]; exact k5
                  obtain rfl : z386 = (0 : Int32) := Int32.toInt_inj.mp (by rw [g3]; rfl)
                  refine Own.istore C at_389 (q := 391) rfl (L' := #[.val (.long r1), .second, .val (.long r2), .second, .val (.long lg), .second, .val (.long p1), .second, .val (.long p2), .second, .val (.int f), .val (.int z1), .val (.int z8), .val (.int lo1), .val (.int hi1), .val (.int z69), .val (.int z76), .val (.int base2), .val (.int lo2), .val (.int hi2), .val (.long z157), .second, .val (.long z169), .second, .val (.int z179), .val (.int z191), .val (.int X), .val (.int Y), .val (.ref a293), .val (.int (0 : Int32)), .val (.int (0 : Int32)), .val (.int (0 : Int32)), .val (.int (0 : Int32)), .unset, .unset, .unset, .unset]) rfl ?_
                  refine Own.iload C at_391 (q := 393) rfl rfl ?_
                  refine Own.iload C at_393 (q := 395) rfl rfl ?_
                  refine Own.icmp_eq C at_395 (q := 398) rfl (r := 402) (by decide) (fun h395 => ?_) (fun h395 => ?_)
                  · refine Own.iconst C at_402 (q := 403) rfl (z := 0) (by decide) ?_
                    refine Own.istore C at_403 (q := 405) rfl (L' := #[.val (.long r1), .second, .val (.long r2), .second, .val (.long lg), .second, .val (.long p1), .second, .val (.long p2), .second, .val (.int f), .val (.int z1), .val (.int z8), .val (.int lo1), .val (.int hi1), .val (.int z69), .val (.int z76), .val (.int base2), .val (.int lo2), .val (.int hi2), .val (.long z157), .second, .val (.long z169), .second, .val (.int z179), .val (.int z191), .val (.int X), .val (.int Y), .val (.ref a293), .val (.int (0 : Int32)), .val (.int (0 : Int32)), .val (.int (0 : Int32)), .val (.int (0 : Int32)), .val (.int (0 : Int32)), .unset, .unset, .unset]) rfl ?_
                    refine Own.aload C at_405 (q := 407) rfl rfl rfl ?_
                    refine Own.callV C at_407 (q := 410) rfl (hw _ (List.mem_of_getElem? (i := 41) rfl)) (hw _ (List.mem_of_getElem? (i := 42) rfl)) (notFace_of_selects (args := #[]) (mvT C.2.2.2.1 (hw _ (List.mem_of_getElem? (i := 44) rfl)))) (hw _ (List.mem_of_getElem? (i := 44) rfl)) (hw _ (List.mem_of_getElem? (i := 43) rfl)) (hw _ (List.mem_of_getElem? (i := 13) rfl)) (hw _ (List.mem_of_getElem? (i := 45) rfl)) (by decide) (W := 0) (rm := rm_6) (argsL := []) (st := []) (lenOf pd_5 rfl) rfl rfl (Nat.le_of_eq rfl) (by decide) (by decide) (by decide) (by decide) H_386.1 (c_count l Z a0 hw n0 _ a293 V354 P354 L0 S0 nV354 nP354 vf_386 pf_386 uf_386 sf_386 cn_386 b354 lo2 H_386) (nxI fun z407 μ407 h407 => ?_)
                    obtain ⟨h407m, h407⟩ := h407
                    refine Own.mem h407m ?_
                    obtain rfl : z407 = (1 : Int32) := Int32.toInt_inj.mp (by rw [h407, hc_386]; rfl)
                    refine Own.istore C at_410 (q := 412) rfl (L' := #[.val (.long r1), .second, .val (.long r2), .second, .val (.long lg), .second, .val (.long p1), .second, .val (.long p2), .second, .val (.int f), .val (.int z1), .val (.int z8), .val (.int lo1), .val (.int hi1), .val (.int z69), .val (.int z76), .val (.int base2), .val (.int lo2), .val (.int hi2), .val (.long z157), .second, .val (.long z169), .second, .val (.int z179), .val (.int z191), .val (.int X), .val (.int Y), .val (.ref a293), .val (.int (0 : Int32)), .val (.int (0 : Int32)), .val (.int (0 : Int32)), .val (.int (0 : Int32)), .val (.int (0 : Int32)), .val (.int (1 : Int32)), .unset, .unset]) rfl ?_
                    refine Own.aload C at_412 (q := 414) rfl rfl rfl ?_
                    refine Own.iconst C at_414 (q := 415) rfl (z := 0) (by decide) ?_
                    refine Own.callV C at_415 (q := 418) rfl (hw _ (List.mem_of_getElem? (i := 64) rfl)) (hw _ (List.mem_of_getElem? (i := 65) rfl)) (notFace_of_selects (args := #[]) (mvT C.2.2.2.1 (hw _ (List.mem_of_getElem? (i := 67) rfl)))) (hw _ (List.mem_of_getElem? (i := 67) rfl)) (hw _ (List.mem_of_getElem? (i := 66) rfl)) (hw _ (List.mem_of_getElem? (i := 13) rfl)) (hw _ (List.mem_of_getElem? (i := 68) rfl)) (by decide) (W := 0) (rm := rm_11) (argsL := [(.int (0 : Int32))]) (st := []) (lenOf pd_0 rfl) rfl rfl (Nat.le_of_eq rfl) (by decide) (by decide) (by decide) (by decide) H_386.1 (c_value l Z a0 hw n0 _ a293 (0 : Int32) V354 P354 L0 S0 nV354 nP354 vf_386 pf_386 uf_386 sf_386 cn_386 b354 lo2 0 rfl (by have := h8354; omega) H_386) (nxI fun z415 μ415 h415 => ?_)
                    obtain ⟨h415m, h415⟩ := h415
                    refine Own.mem h415m ?_
                    have h415 : X = z415 := (h415.trans vX).symm
                    subst h415
                    refine Own.istore C at_418 (q := 420) rfl (L' := #[.val (.long r1), .second, .val (.long r2), .second, .val (.long lg), .second, .val (.long p1), .second, .val (.long p2), .second, .val (.int f), .val (.int z1), .val (.int z8), .val (.int lo1), .val (.int hi1), .val (.int z69), .val (.int z76), .val (.int base2), .val (.int lo2), .val (.int hi2), .val (.long z157), .second, .val (.long z169), .second, .val (.int z179), .val (.int z191), .val (.int X), .val (.int Y), .val (.ref a293), .val (.int (0 : Int32)), .val (.int (0 : Int32)), .val (.int (0 : Int32)), .val (.int (0 : Int32)), .val (.int (0 : Int32)), .val (.int (1 : Int32)), .val (.int X), .unset]) rfl ?_
                    refine Own.iload C at_420 (q := 422) rfl rfl ?_
                    refine Own.if_eq C at_422 (q := 425) rfl (r := 436) (by decide) (fun h422 => ?_) (fun h422 => ?_)
                    · refine Own.iconst C at_436 (q := 437) rfl (z := 1) (by decide) ?_
                      refine Own.goto C at_437 (q := 441) (by decide) ?_
                      refine Own.istore C at_441 (q := 443) rfl (L' := #[.val (.long r1), .second, .val (.long r2), .second, .val (.long lg), .second, .val (.long p1), .second, .val (.long p2), .second, .val (.int f), .val (.int z1), .val (.int z8), .val (.int lo1), .val (.int hi1), .val (.int z69), .val (.int z76), .val (.int base2), .val (.int lo2), .val (.int hi2), .val (.long z157), .second, .val (.long z169), .second, .val (.int z179), .val (.int z191), .val (.int X), .val (.int Y), .val (.ref a293), .val (.int (0 : Int32)), .val (.int (0 : Int32)), .val (.int (0 : Int32)), .val (.int (0 : Int32)), .val (.int (0 : Int32)), .val (.int (1 : Int32)), .val (.int X), .val (.int (1 : Int32))]) rfl ?_
                      refine Own.iload C at_443 (q := 445) rfl rfl ?_
                      refine Own.if_ne C at_445 (q := 448) rfl (r := 504) (by decide) (fun h445 => ?_) (fun h445 => ?_)
                      · exact absurd h445 (by decide)
                      · refine Own.iload C at_448 (q := 450) rfl rfl ?_
                        refine Own.if_ne C at_450 (q := 453) rfl (r := 504) (by decide) (fun h450 => ?_) (fun h450 => ?_)
                        · exact absurd h450 (by decide)
                        · refine Own.iload C at_453 (q := 455) rfl rfl ?_
                          refine Own.iload C at_455 (q := 457) rfl rfl ?_
                          refine Own.if_eq C at_457 (q := 460) rfl (r := 464) (by decide) (fun h457 => ?_) (fun h457 => ?_)
                          · refine Own.iconst C at_464 (q := 465) rfl (z := 0) (by decide) ?_
                            refine Own.icmp_ne C at_465 (q := 468) rfl (r := 504) (by decide) (fun h465 => ?_) (fun h465 => ?_)
                            · exact absurd h465 (by decide)
                            · refine Own.iload C at_468 (q := 470) rfl rfl ?_
                              refine Own.if_ne C at_470 (q := 473) rfl (r := 504) (by decide) (fun h470 => ?_) (fun h470 => ?_)
                              · exact absurd h470 (by decide)
                              · refine Own.iload C at_473 (q := 475) rfl rfl ?_
                                refine Own.iload C at_475 (q := 477) rfl rfl ?_
                                refine Own.if_eq C at_477 (q := 480) rfl (r := 484) (by decide) (fun h477 => ?_) (fun h477 => ?_)
                                · refine Own.iconst C at_484 (q := 485) rfl (z := 1) (by decide) ?_
                                  refine Own.icmp_ne C at_485 (q := 488) rfl (r := 504) (by decide) (fun h485 => ?_) (fun h485 => ?_)
                                  · exact absurd h485 (by decide)
                                  · refine Own.iload C at_488 (q := 490) rfl rfl ?_
                                    refine Own.iload C at_490 (q := 492) rfl rfl ?_
                                    refine Own.icmp_ne C at_492 (q := 495) rfl (r := 504) (by decide) (fun h492 => ?_) (fun h492 => ?_)
                                    · exact absurd rfl h492
                                    · refine Own.iload C at_495 (q := 497) rfl rfl ?_
                                      refine Own.if_eq C at_497 (q := 500) rfl (r := 504) (by decide) (fun h497 => ?_) (fun h497 => ?_)
                                      · exact absurd h497 (by decide)
                                      · refine Own.iconst C at_500 (q := 501) rfl (z := 1) (by decide) ?_
                                        refine Own.goto C at_501 (q := 505) (by decide) ?_
                                        refine Own.nreturn C at_505 (by simp) (z' := (1 : Int32)) (by decide) (by decide) (by decide) ?_
                                        rfl
                                · exact absurd h477 (by decide)
                          · exact absurd h457 (by decide)
                    · exact absurd h422 (by decide)
                  · exact absurd hxy h395
                · have hxy : X ≠ Y := fun e => q1 0 (by omega) (k3.trans e)
                  have k4 : vf_377 0 = X := (q5 0 (by omega)).trans k3
                  obtain rfl : z377 = (1 : Int32) := Int32.toInt_inj.mp (by rw [q2]; rfl)
                  refine Own.istore C at_380 (q := 382) rfl (L' := #[.val (.long r1), .second, .val (.long r2), .second, .val (.long lg), .second, .val (.long p1), .second, .val (.long p2), .second, .val (.int f), .val (.int z1), .val (.int z8), .val (.int lo1), .val (.int hi1), .val (.int z69), .val (.int z76), .val (.int base2), .val (.int lo2), .val (.int hi2), .val (.long z157), .second, .val (.long z169), .second, .val (.int z179), .val (.int z191), .val (.int X), .val (.int Y), .val (.ref a293), .val (.int (0 : Int32)), .val (.int (0 : Int32)), .val (.int (1 : Int32)), .unset, .unset, .unset, .unset, .unset]) rfl ?_
                  refine Own.aload C at_382 (q := 384) rfl rfl rfl ?_
                  refine Own.iload C at_384 (q := 386) rfl rfl ?_
                  refine Own.callV C at_386 (q := 389) rfl (hw _ (List.mem_of_getElem? (i := 46) rfl)) (hw _ (List.mem_of_getElem? (i := 47) rfl)) (notFace_of_selects (args := #[]) (mvT C.2.2.2.1 (hw _ (List.mem_of_getElem? (i := 49) rfl)))) (hw _ (List.mem_of_getElem? (i := 49) rfl)) (hw _ (List.mem_of_getElem? (i := 48) rfl)) (hw _ (List.mem_of_getElem? (i := 13) rfl)) (hw _ (List.mem_of_getElem? (i := 50) rfl)) (by decide) (W := 0) (rm := rm_7) (argsL := [(.int X)]) (st := []) (lenOf pd_0 rfl) rfl rfl (Nat.le_of_eq rfl) (by decide) (by decide) (by decide) (by decide) H_377.1 (c_num l Z a0 hw n0 _ a293 X V354 P354 L0 S0 nV354 nP354 vf_377 pf_377 uf_377 sf_377 cn_377 b354 lo2 (0 + 1 + 1) hc_377 (by omega) h8354 hI_377 hR_377 (inr hX1 hX2 hr354) H_377) (nxI fun z386 μ386 h386 => ?_)
                  obtain ⟨c_386, cn_386, vf_386, pf_386, uf_386, sf_386, H_386, hc_386, hI_386, hR_386, hd_386⟩ := h386
                  obtain ⟨i, g1, g2, g3, rfl, g6⟩ := hd_386.resolve_right (fun q => q.1 0 (by omega) k4)
                  obtain rfl : i = 0 := Classical.byContradiction fun q => by obtain rfl : i = 0 + 1 := (by omega); exact hxy (g2.symm.trans q4)
                  have vX : vf_386 0 = X := by rw [g6]; exact k4
                  have vY : vf_386 1 = Y := by rw [g6]; exact q4
                  obtain rfl : z386 = (0 : Int32) := Int32.toInt_inj.mp (by rw [g3]; rfl)
                  refine Own.istore C at_389 (q := 391) rfl (L' := #[.val (.long r1), .second, .val (.long r2), .second, .val (.long lg), .second, .val (.long p1), .second, .val (.long p2), .second, .val (.int f), .val (.int z1), .val (.int z8), .val (.int lo1), .val (.int hi1), .val (.int z69), .val (.int z76), .val (.int base2), .val (.int lo2), .val (.int hi2), .val (.long z157), .second, .val (.long z169), .second, .val (.int z179), .val (.int z191), .val (.int X), .val (.int Y), .val (.ref a293), .val (.int (0 : Int32)), .val (.int (0 : Int32)), .val (.int (1 : Int32)), .val (.int (0 : Int32)), .unset, .unset, .unset, .unset]) rfl ?_
                  refine Own.iload C at_391 (q := 393) rfl rfl ?_
                  refine Own.iload C at_393 (q := 395) rfl rfl ?_
                  refine Own.icmp_eq C at_395 (q := 398) rfl (r := 402) (by decide) (fun h395 => ?_) (fun h395 => ?_)
                  · exact absurd h395 hxy
                  · refine Own.iconst C at_398 (q := 399) rfl (z := 1) (by decide) ?_
                    refine Own.goto C at_399 (q := 403) (by decide) ?_
                    refine Own.istore C at_403 (q := 405) rfl (L' := #[.val (.long r1), .second, .val (.long r2), .second, .val (.long lg), .second, .val (.long p1), .second, .val (.long p2), .second, .val (.int f), .val (.int z1), .val (.int z8), .val (.int lo1), .val (.int hi1), .val (.int z69), .val (.int z76), .val (.int base2), .val (.int lo2), .val (.int hi2), .val (.long z157), .second, .val (.long z169), .second, .val (.int z179), .val (.int z191), .val (.int X), .val (.int Y), .val (.ref a293), .val (.int (0 : Int32)), .val (.int (0 : Int32)), .val (.int (1 : Int32)), .val (.int (0 : Int32)), .val (.int (1 : Int32)), .unset, .unset, .unset]) rfl ?_
                    refine Own.aload C at_405 (q := 407) rfl rfl rfl ?_
                    refine Own.callV C at_407 (q := 410) rfl (hw _ (List.mem_of_getElem? (i := 41) rfl)) (hw _ (List.mem_of_getElem? (i := 42) rfl)) (notFace_of_selects (args := #[]) (mvT C.2.2.2.1 (hw _ (List.mem_of_getElem? (i := 44) rfl)))) (hw _ (List.mem_of_getElem? (i := 44) rfl)) (hw _ (List.mem_of_getElem? (i := 43) rfl)) (hw _ (List.mem_of_getElem? (i := 13) rfl)) (hw _ (List.mem_of_getElem? (i := 45) rfl)) (by decide) (W := 0) (rm := rm_6) (argsL := []) (st := []) (lenOf pd_5 rfl) rfl rfl (Nat.le_of_eq rfl) (by decide) (by decide) (by decide) (by decide) H_386.1 (c_count l Z a0 hw n0 _ a293 V354 P354 L0 S0 nV354 nP354 vf_386 pf_386 uf_386 sf_386 cn_386 b354 lo2 H_386) (nxI fun z407 μ407 h407 => ?_)
                    obtain ⟨h407m, h407⟩ := h407
                    refine Own.mem h407m ?_
                    obtain rfl : z407 = (2 : Int32) := Int32.toInt_inj.mp (by rw [h407, hc_386]; rfl)
                    refine Own.istore C at_410 (q := 412) rfl (L' := #[.val (.long r1), .second, .val (.long r2), .second, .val (.long lg), .second, .val (.long p1), .second, .val (.long p2), .second, .val (.int f), .val (.int z1), .val (.int z8), .val (.int lo1), .val (.int hi1), .val (.int z69), .val (.int z76), .val (.int base2), .val (.int lo2), .val (.int hi2), .val (.long z157), .second, .val (.long z169), .second, .val (.int z179), .val (.int z191), .val (.int X), .val (.int Y), .val (.ref a293), .val (.int (0 : Int32)), .val (.int (0 : Int32)), .val (.int (1 : Int32)), .val (.int (0 : Int32)), .val (.int (1 : Int32)), .val (.int (2 : Int32)), .unset, .unset]) rfl ?_
                    refine Own.aload C at_412 (q := 414) rfl rfl rfl ?_
                    refine Own.iconst C at_414 (q := 415) rfl (z := 0) (by decide) ?_
                    refine Own.callV C at_415 (q := 418) rfl (hw _ (List.mem_of_getElem? (i := 64) rfl)) (hw _ (List.mem_of_getElem? (i := 65) rfl)) (notFace_of_selects (args := #[]) (mvT C.2.2.2.1 (hw _ (List.mem_of_getElem? (i := 67) rfl)))) (hw _ (List.mem_of_getElem? (i := 67) rfl)) (hw _ (List.mem_of_getElem? (i := 66) rfl)) (hw _ (List.mem_of_getElem? (i := 13) rfl)) (hw _ (List.mem_of_getElem? (i := 68) rfl)) (by decide) (W := 0) (rm := rm_11) (argsL := [(.int (0 : Int32))]) (st := []) (lenOf pd_0 rfl) rfl rfl (Nat.le_of_eq rfl) (by decide) (by decide) (by decide) (by decide) H_386.1 (c_value l Z a0 hw n0 _ a293 (0 : Int32) V354 P354 L0 S0 nV354 nP354 vf_386 pf_386 uf_386 sf_386 cn_386 b354 lo2 0 rfl (by have := h8354; omega) H_386) (nxI fun z415 μ415 h415 => ?_)
                    obtain ⟨h415m, h415⟩ := h415
                    refine Own.mem h415m ?_
                    have h415 : X = z415 := (h415.trans vX).symm
                    subst h415
                    refine Own.istore C at_418 (q := 420) rfl (L' := #[.val (.long r1), .second, .val (.long r2), .second, .val (.long lg), .second, .val (.long p1), .second, .val (.long p2), .second, .val (.int f), .val (.int z1), .val (.int z8), .val (.int lo1), .val (.int hi1), .val (.int z69), .val (.int z76), .val (.int base2), .val (.int lo2), .val (.int hi2), .val (.long z157), .second, .val (.long z169), .second, .val (.int z179), .val (.int z191), .val (.int X), .val (.int Y), .val (.ref a293), .val (.int (0 : Int32)), .val (.int (0 : Int32)), .val (.int (1 : Int32)), .val (.int (0 : Int32)), .val (.int (1 : Int32)), .val (.int (2 : Int32)), .val (.int X), .unset]) rfl ?_
                    refine Own.iload C at_420 (q := 422) rfl rfl ?_
                    refine Own.if_eq C at_422 (q := 425) rfl (r := 436) (by decide) (fun h422 => ?_) (fun h422 => ?_)
                    · exact absurd h422 (by decide)
                    · refine Own.aload C at_425 (q := 427) rfl rfl rfl ?_
                      refine Own.iconst C at_427 (q := 428) rfl (z := 1) (by decide) ?_
                      refine Own.callV C at_428 (q := 431) rfl (hw _ (List.mem_of_getElem? (i := 64) rfl)) (hw _ (List.mem_of_getElem? (i := 65) rfl)) (notFace_of_selects (args := #[]) (mvT C.2.2.2.1 (hw _ (List.mem_of_getElem? (i := 67) rfl)))) (hw _ (List.mem_of_getElem? (i := 67) rfl)) (hw _ (List.mem_of_getElem? (i := 66) rfl)) (hw _ (List.mem_of_getElem? (i := 13) rfl)) (hw _ (List.mem_of_getElem? (i := 68) rfl)) (by decide) (W := 0) (rm := rm_11) (argsL := [(.int (1 : Int32))]) (st := []) (lenOf pd_0 rfl) rfl rfl (Nat.le_of_eq rfl) (by decide) (by decide) (by decide) (by decide) H_386.1 (c_value l Z a0 hw n0 _ a293 (1 : Int32) V354 P354 L0 S0 nV354 nP354 vf_386 pf_386 uf_386 sf_386 cn_386 b354 lo2 1 rfl (by have := h8354; omega) H_386) (nxI fun z428 μ428 h428 => ?_)
                      obtain ⟨h428m, h428⟩ := h428
                      refine Own.mem h428m ?_
                      have h428 : Y = z428 := (h428.trans vY).symm
                      subst h428
                      refine Own.iload C at_431 (q := 433) rfl rfl ?_
                      refine Own.icmp_ne C at_433 (q := 436) rfl (r := 440) (by decide) (fun h433 => ?_) (fun h433 => ?_)
                      · exact absurd rfl h433
                      · refine Own.iconst C at_436 (q := 437) rfl (z := 1) (by decide) ?_
                        refine Own.goto C at_437 (q := 441) (by decide) ?_
                        refine Own.istore C at_441 (q := 443) rfl (L' := #[.val (.long r1), .second, .val (.long r2), .second, .val (.long lg), .second, .val (.long p1), .second, .val (.long p2), .second, .val (.int f), .val (.int z1), .val (.int z8), .val (.int lo1), .val (.int hi1), .val (.int z69), .val (.int z76), .val (.int base2), .val (.int lo2), .val (.int hi2), .val (.long z157), .second, .val (.long z169), .second, .val (.int z179), .val (.int z191), .val (.int X), .val (.int Y), .val (.ref a293), .val (.int (0 : Int32)), .val (.int (0 : Int32)), .val (.int (1 : Int32)), .val (.int (0 : Int32)), .val (.int (1 : Int32)), .val (.int (2 : Int32)), .val (.int X), .val (.int (1 : Int32))]) rfl ?_
                        refine Own.iload C at_443 (q := 445) rfl rfl ?_
                        refine Own.if_ne C at_445 (q := 448) rfl (r := 504) (by decide) (fun h445 => ?_) (fun h445 => ?_)
                        · exact absurd h445 (by decide)
                        · refine Own.iload C at_448 (q := 450) rfl rfl ?_
                          refine Own.if_ne C at_450 (q := 453) rfl (r := 504) (by decide) (fun h450 => ?_) (fun h450 => ?_)
                          · exact absurd h450 (by decide)
                          · refine Own.iload C at_453 (q := 455) rfl rfl ?_
                            refine Own.iload C at_455 (q := 457) rfl rfl ?_
                            refine Own.if_eq C at_457 (q := 460) rfl (r := 464) (by decide) (fun h457 => ?_) (fun h457 => ?_)
                            · exact absurd h457 (by decide)
                            · refine Own.iconst C at_460 (q := 461) rfl (z := 1) (by decide) ?_
                              refine Own.goto C at_461 (q := 465) (by decide) ?_
                              refine Own.icmp_ne C at_465 (q := 468) rfl (r := 504) (by decide) (fun h465 => ?_) (fun h465 => ?_)
                              · exact absurd h465 (by decide)
                              · refine Own.iload C at_468 (q := 470) rfl rfl ?_
                                refine Own.if_ne C at_470 (q := 473) rfl (r := 504) (by decide) (fun h470 => ?_) (fun h470 => ?_)
                                · exact absurd h470 (by decide)
                                · refine Own.iload C at_473 (q := 475) rfl rfl ?_
                                  refine Own.iload C at_475 (q := 477) rfl rfl ?_
                                  refine Own.if_eq C at_477 (q := 480) rfl (r := 484) (by decide) (fun h477 => ?_) (fun h477 => ?_)
                                  · exact absurd h477 (by decide)
                                  · refine Own.iconst C at_480 (q := 481) rfl (z := 2) (by decide) ?_
                                    refine Own.goto C at_481 (q := 485) (by decide) ?_
                                    refine Own.icmp_ne C at_485 (q := 488) rfl (r := 504) (by decide) (fun h485 => ?_) (fun h485 => ?_)
                                    · exact absurd h485 (by decide)
                                    · refine Own.iload C at_488 (q := 490) rfl rfl ?_
                                      refine Own.iload C at_490 (q := 492) rfl rfl ?_
                                      refine Own.icmp_ne C at_492 (q := 495) rfl (r := 504) (by decide) (fun h492 => ?_) (fun h492 => ?_)
                                      · exact absurd rfl h492
                                      · refine Own.iload C at_495 (q := 497) rfl rfl ?_
                                        refine Own.if_eq C at_497 (q := 500) rfl (r := 504) (by decide) (fun h497 => ?_) (fun h497 => ?_)
                                        · exact absurd h497 (by decide)
                                        · refine Own.iconst C at_500 (q := 501) rfl (z := 1) (by decide) ?_
                                          refine Own.goto C at_501 (q := 505) (by decide) ?_
                                          refine Own.nreturn C at_505 (by simp) (z' := (1 : Int32)) (by decide) (by decide) (by decide) ?_
                                          rfl
              refine Own.iload C at_329 (q := 331) rfl rfl ?_
              refine Own.sipush C at_331 (q := 334) rfl (z := 128) (by decide) ?_
              refine Own.iand C at_334 (q := 335) rfl fun z334 e334 => ?_
              refine Own.if_eq C at_335 (q := 338) rfl (r := 346) (by decide) (fun h335 => ?_) (fun h335 => ?_)
              · exact J346 _ _ _ _ _ _ _ (by omega) hc_329 hI_329 hR_329 H_329
              · refine Own.aload C at_338 (q := 340) rfl rfl rfl ?_
                refine Own.iload C at_340 (q := 342) rfl rfl ?_
                refine Own.callV C at_342 (q := 345) rfl (hw _ (List.mem_of_getElem? (i := 46) rfl)) (hw _ (List.mem_of_getElem? (i := 47) rfl)) (notFace_of_selects (args := #[]) (mvT C.2.2.2.1 (hw _ (List.mem_of_getElem? (i := 49) rfl)))) (hw _ (List.mem_of_getElem? (i := 49) rfl)) (hw _ (List.mem_of_getElem? (i := 48) rfl)) (hw _ (List.mem_of_getElem? (i := 13) rfl)) (hw _ (List.mem_of_getElem? (i := 50) rfl)) (by decide) (W := 0) (rm := rm_7) (argsL := [(.int z191)]) (st := []) (lenOf pd_0 rfl) rfl rfl (Nat.le_of_eq rfl) (by decide) (by decide) (by decide) (by decide) H_329.1 (c_num l Z a0 hw n0 _ a293 z191 V310 P310 L0 S0 nV310 nP310 vf_329 pf_329 uf_329 sf_329 cn_329 b310 lo1 c_329 hc_329 (by omega) h8310 hI_329 hR_329 (inr h191.1 h191.2 hr310) H_329) (nxI fun z342 μ342 h342 => ?_)
                obtain ⟨c_342, cn_342, vf_342, pf_342, uf_342, sf_342, H_342, hc_342, hI_342, hR_342, hd_342⟩ := h342
                refine Own.pop C at_345 (q := 346) rfl rfl ?_
                exact J346 _ _ _ _ _ _ _ (by rcases hd_342 with ⟨_, _, _, _, q, _⟩ | ⟨_, _, q, _⟩ <;> omega) hc_342 hI_342 hR_342 H_342
            refine Own.iload C at_313 (q := 315) rfl rfl ?_
            refine Own.bipush C at_315 (q := 317) rfl (z := 64) (by decide) ?_
            refine Own.iand C at_317 (q := 318) rfl fun z317 e317 => ?_
            refine Own.if_eq C at_318 (q := 321) rfl (r := 329) (by decide) (fun h318 => ?_) (fun h318 => ?_)
            · exact J329 _ _ _ _ _ _ _ (by omega) rfl (Inv.start hp310 hs310) (fun _ i hi => absurd hi (by omega)) H310
            · refine Own.aload C at_321 (q := 323) rfl rfl rfl ?_
              refine Own.iload C at_323 (q := 325) rfl rfl ?_
              refine Own.callV C at_325 (q := 328) rfl (hw _ (List.mem_of_getElem? (i := 46) rfl)) (hw _ (List.mem_of_getElem? (i := 47) rfl)) (notFace_of_selects (args := #[]) (mvT C.2.2.2.1 (hw _ (List.mem_of_getElem? (i := 49) rfl)))) (hw _ (List.mem_of_getElem? (i := 49) rfl)) (hw _ (List.mem_of_getElem? (i := 48) rfl)) (hw _ (List.mem_of_getElem? (i := 13) rfl)) (hw _ (List.mem_of_getElem? (i := 50) rfl)) (by decide) (W := 0) (rm := rm_7) (argsL := [(.int z179)]) (st := []) (lenOf pd_0 rfl) rfl rfl (Nat.le_of_eq rfl) (by decide) (by decide) (by decide) (by decide) H310.1 (c_num l Z a0 hw n0 _ a293 z179 V310 P310 L0 S0 nV310 nP310 vf310 pf310 (fun _ => 0) sf310 (0 : Int32) b310 lo1 0 rfl (by omega) h8310 (Inv.start hp310 hs310) (fun _ i hi => absurd hi (by omega)) (inr h179.1 h179.2 hr310) H310) (nxI fun z325 μ325 h325 => ?_)
              obtain ⟨c_325, cn_325, vf_325, pf_325, uf_325, sf_325, H_325, hc_325, hI_325, hR_325, hd_325⟩ := h325
              refine Own.pop C at_328 (q := 329) rfl rfl ?_
              exact J329 _ _ _ _ _ _ _ (by rcases hd_325 with ⟨_, _, _, _, q, _⟩ | ⟨_, _, q, _⟩ <;> omega) hc_325 hI_325 hR_325 H_325
          refine Own.iload C at_236 (q := 238) rfl rfl ?_
          refine Own.bipush C at_238 (q := 240) rfl (z := 16) (by decide) ?_
          refine Own.iand C at_240 (q := 241) rfl fun z240 e240 => ?_
          refine Own.if_eq C at_241 (q := 244) rfl (r := 251) (by decide) (fun h241 => ?_) (fun h241 => ?_)
          · refine Own.iload C at_251 (q := 253) rfl rfl ?_
            refine Own.bipush C at_253 (q := 255) rfl (z := 32) (by decide) ?_
            refine Own.iand C at_255 (q := 256) rfl fun z255 e255 => ?_
            refine Own.if_eq C at_256 (q := 259) rfl (r := 278) (by decide) (fun h256 => ?_) (fun h256 => ?_)
            · refine Own.iload C at_278 (q := 280) rfl rfl ?_
              refine Own.iload C at_280 (q := 282) rfl rfl ?_
              refine Own.lload C at_282 (q := 284) rfl rfl ?_
              refine Own.bipush C at_284 (q := 286) rfl (z := 32) (by decide) ?_
              refine Own.lushr C at_286 (q := 287) rfl fun z286 e286 => ?_
              refine Own.l2i C at_287 (q := 288) rfl fun z287 e287 => ?_
              refine Own.callS C at_288 (q := 291) rfl (hw _ (List.mem_of_getElem? (i := 6) rfl)) (hw _ (List.mem_of_getElem? (i := 7) rfl)) (hw _ (List.mem_of_getElem? (i := 8) rfl)) (hw _ (List.mem_of_getElem? (i := 9) rfl)) (by decide) (W := 0) (rm := rm_2) (argsL := [(.int lo2), (.int hi2), (.int z287)]) (st := []) (lenOf pd_2 rfl) rfl rfl (Nat.le_of_eq rfl) (by decide) (by decide) (by decide) (by decide) (c_pick l Z a0 hw n0 _ lo2 hi2 z287 hlh2) (nxI fun z288 μ288 h288 => ?_)
              obtain ⟨h288m, h288⟩ := h288
              refine Own.mem h288m ?_
              refine Own.istore C at_291 (q := 293) rfl (L' := #[.val (.long r1), .second, .val (.long r2), .second, .val (.long lg), .second, .val (.long p1), .second, .val (.long p2), .second, .val (.int f), .val (.int z1), .val (.int z8), .val (.int lo1), .val (.int hi1), .val (.int z69), .val (.int z76), .val (.int base2), .val (.int lo2), .val (.int hi2), .val (.long z157), .second, .val (.long z169), .second, .val (.int z179), .val (.int z191), .val (.int X), .val (.int z288), .unset, .unset, .unset, .unset, .unset, .unset, .unset, .unset, .unset]) rfl ?_
              exact J293 _ h288.1 h288.2
            · refine Own.iload C at_259 (q := 261) rfl rfl ?_
              refine Own.iload C at_261 (q := 263) rfl rfl ?_
              refine Own.iload C at_263 (q := 265) rfl rfl ?_
              refine Own.callS C at_265 (q := 268) rfl (hw _ (List.mem_of_getElem? (i := 75) rfl)) (hw _ (List.mem_of_getElem? (i := 76) rfl)) (hw _ (List.mem_of_getElem? (i := 8) rfl)) (hw _ (List.mem_of_getElem? (i := 77) rfl)) (by decide) (W := 0) (rm := rm_14) (argsL := [(.int z191), (.int lo2), (.int hi2)]) (st := []) (lenOf pd_6 rfl) rfl rfl (Nat.le_of_eq rfl) (by decide) (by decide) (by decide) (by decide) (c_within l Z a0 hw n0 _ z191 lo2 hi2) (nxI fun z265 μ265 h265 => ?_)
              obtain ⟨h265m, h265⟩ := h265
              refine Own.mem h265m ?_
              refine Own.if_eq C at_268 (q := 271) rfl (r := 278) (by decide) (fun h268 => ?_) (fun h268 => ?_)
              · refine Own.iload C at_278 (q := 280) rfl rfl ?_
                refine Own.iload C at_280 (q := 282) rfl rfl ?_
                refine Own.lload C at_282 (q := 284) rfl rfl ?_
                refine Own.bipush C at_284 (q := 286) rfl (z := 32) (by decide) ?_
                refine Own.lushr C at_286 (q := 287) rfl fun z286 e286 => ?_
                refine Own.l2i C at_287 (q := 288) rfl fun z287 e287 => ?_
                refine Own.callS C at_288 (q := 291) rfl (hw _ (List.mem_of_getElem? (i := 6) rfl)) (hw _ (List.mem_of_getElem? (i := 7) rfl)) (hw _ (List.mem_of_getElem? (i := 8) rfl)) (hw _ (List.mem_of_getElem? (i := 9) rfl)) (by decide) (W := 0) (rm := rm_2) (argsL := [(.int lo2), (.int hi2), (.int z287)]) (st := []) (lenOf pd_2 rfl) rfl rfl (Nat.le_of_eq rfl) (by decide) (by decide) (by decide) (by decide) (c_pick l Z a0 hw n0 _ lo2 hi2 z287 hlh2) (nxI fun z288 μ288 h288 => ?_)
                obtain ⟨h288m, h288⟩ := h288
                refine Own.mem h288m ?_
                refine Own.istore C at_291 (q := 293) rfl (L' := #[.val (.long r1), .second, .val (.long r2), .second, .val (.long lg), .second, .val (.long p1), .second, .val (.long p2), .second, .val (.int f), .val (.int z1), .val (.int z8), .val (.int lo1), .val (.int hi1), .val (.int z69), .val (.int z76), .val (.int base2), .val (.int lo2), .val (.int hi2), .val (.long z157), .second, .val (.long z169), .second, .val (.int z179), .val (.int z191), .val (.int X), .val (.int z288), .unset, .unset, .unset, .unset, .unset, .unset, .unset, .unset, .unset]) rfl ?_
                exact J293 _ h288.1 h288.2
              · refine Own.iload C at_271 (q := 273) rfl rfl ?_
                refine Own.istore C at_273 (q := 275) rfl (L' := #[.val (.long r1), .second, .val (.long r2), .second, .val (.long lg), .second, .val (.long p1), .second, .val (.long p2), .second, .val (.int f), .val (.int z1), .val (.int z8), .val (.int lo1), .val (.int hi1), .val (.int z69), .val (.int z76), .val (.int base2), .val (.int lo2), .val (.int hi2), .val (.long z157), .second, .val (.long z169), .second, .val (.int z179), .val (.int z191), .val (.int X), .val (.int z191), .unset, .unset, .unset, .unset, .unset, .unset, .unset, .unset, .unset]) rfl ?_
                refine Own.goto C at_275 (q := 293) (by decide) ?_
                exact J293 _ (h265 h268).1 (h265 h268).2
          · refine Own.iload C at_244 (q := 246) rfl rfl ?_
            refine Own.istore C at_246 (q := 248) rfl (L' := #[.val (.long r1), .second, .val (.long r2), .second, .val (.long lg), .second, .val (.long p1), .second, .val (.long p2), .second, .val (.int f), .val (.int z1), .val (.int z8), .val (.int lo1), .val (.int hi1), .val (.int z69), .val (.int z76), .val (.int base2), .val (.int lo2), .val (.int hi2), .val (.long z157), .second, .val (.long z169), .second, .val (.int z179), .val (.int z191), .val (.int X), .val (.int X), .unset, .unset, .unset, .unset, .unset, .unset, .unset, .unset, .unset]) rfl ?_
            refine Own.goto C at_248 (q := 293) (by decide) ?_
            exact J293 _ hX1 hX2
        refine Own.iload C at_196 (q := 198) rfl rfl ?_
        refine Own.bipush C at_198 (q := 200) rfl (z := 8) (by decide) ?_
        refine Own.iand C at_200 (q := 201) rfl fun z200 e200 => ?_
        refine Own.if_eq C at_201 (q := 204) rfl (r := 221) (by decide) (fun h201 => ?_) (fun h201 => ?_)
        · refine Own.iload C at_221 (q := 223) rfl rfl ?_
          refine Own.iload C at_223 (q := 225) rfl rfl ?_
          refine Own.lload C at_225 (q := 227) rfl rfl ?_
          refine Own.bipush C at_227 (q := 229) rfl (z := 32) (by decide) ?_
          refine Own.lushr C at_229 (q := 230) rfl fun z229 e229 => ?_
          refine Own.l2i C at_230 (q := 231) rfl fun z230 e230 => ?_
          refine Own.callS C at_231 (q := 234) rfl (hw _ (List.mem_of_getElem? (i := 6) rfl)) (hw _ (List.mem_of_getElem? (i := 7) rfl)) (hw _ (List.mem_of_getElem? (i := 8) rfl)) (hw _ (List.mem_of_getElem? (i := 9) rfl)) (by decide) (W := 0) (rm := rm_2) (argsL := [(.int lo2), (.int hi2), (.int z230)]) (st := []) (lenOf pd_2 rfl) rfl rfl (Nat.le_of_eq rfl) (by decide) (by decide) (by decide) (by decide) (c_pick l Z a0 hw n0 _ lo2 hi2 z230 hlh2) (nxI fun z231 μ231 h231 => ?_)
          obtain ⟨h231m, h231⟩ := h231
          refine Own.mem h231m ?_
          refine Own.istore C at_234 (q := 236) rfl (L' := #[.val (.long r1), .second, .val (.long r2), .second, .val (.long lg), .second, .val (.long p1), .second, .val (.long p2), .second, .val (.int f), .val (.int z1), .val (.int z8), .val (.int lo1), .val (.int hi1), .val (.int z69), .val (.int z76), .val (.int base2), .val (.int lo2), .val (.int hi2), .val (.long z157), .second, .val (.long z169), .second, .val (.int z179), .val (.int z191), .val (.int z231), .unset, .unset, .unset, .unset, .unset, .unset, .unset, .unset, .unset, .unset]) rfl ?_
          exact J236 _ h231.1 h231.2
        · refine Own.iload C at_204 (q := 206) rfl rfl ?_
          refine Own.iload C at_206 (q := 208) rfl rfl ?_
          refine Own.iload C at_208 (q := 210) rfl rfl ?_
          refine Own.callS C at_210 (q := 213) rfl (hw _ (List.mem_of_getElem? (i := 75) rfl)) (hw _ (List.mem_of_getElem? (i := 76) rfl)) (hw _ (List.mem_of_getElem? (i := 8) rfl)) (hw _ (List.mem_of_getElem? (i := 77) rfl)) (by decide) (W := 0) (rm := rm_14) (argsL := [(.int z179), (.int lo2), (.int hi2)]) (st := []) (lenOf pd_6 rfl) rfl rfl (Nat.le_of_eq rfl) (by decide) (by decide) (by decide) (by decide) (c_within l Z a0 hw n0 _ z179 lo2 hi2) (nxI fun z210 μ210 h210 => ?_)
          obtain ⟨h210m, h210⟩ := h210
          refine Own.mem h210m ?_
          refine Own.if_eq C at_213 (q := 216) rfl (r := 221) (by decide) (fun h213 => ?_) (fun h213 => ?_)
          · refine Own.iload C at_221 (q := 223) rfl rfl ?_
            refine Own.iload C at_223 (q := 225) rfl rfl ?_
            refine Own.lload C at_225 (q := 227) rfl rfl ?_
            refine Own.bipush C at_227 (q := 229) rfl (z := 32) (by decide) ?_
            refine Own.lushr C at_229 (q := 230) rfl fun z229 e229 => ?_
            refine Own.l2i C at_230 (q := 231) rfl fun z230 e230 => ?_
            refine Own.callS C at_231 (q := 234) rfl (hw _ (List.mem_of_getElem? (i := 6) rfl)) (hw _ (List.mem_of_getElem? (i := 7) rfl)) (hw _ (List.mem_of_getElem? (i := 8) rfl)) (hw _ (List.mem_of_getElem? (i := 9) rfl)) (by decide) (W := 0) (rm := rm_2) (argsL := [(.int lo2), (.int hi2), (.int z230)]) (st := []) (lenOf pd_2 rfl) rfl rfl (Nat.le_of_eq rfl) (by decide) (by decide) (by decide) (by decide) (c_pick l Z a0 hw n0 _ lo2 hi2 z230 hlh2) (nxI fun z231 μ231 h231 => ?_)
            obtain ⟨h231m, h231⟩ := h231
            refine Own.mem h231m ?_
            refine Own.istore C at_234 (q := 236) rfl (L' := #[.val (.long r1), .second, .val (.long r2), .second, .val (.long lg), .second, .val (.long p1), .second, .val (.long p2), .second, .val (.int f), .val (.int z1), .val (.int z8), .val (.int lo1), .val (.int hi1), .val (.int z69), .val (.int z76), .val (.int base2), .val (.int lo2), .val (.int hi2), .val (.long z157), .second, .val (.long z169), .second, .val (.int z179), .val (.int z191), .val (.int z231), .unset, .unset, .unset, .unset, .unset, .unset, .unset, .unset, .unset, .unset]) rfl ?_
            exact J236 _ h231.1 h231.2
          · refine Own.iload C at_216 (q := 218) rfl rfl ?_
            refine Own.goto C at_218 (q := 234) (by decide) ?_
            refine Own.istore C at_234 (q := 236) rfl (L' := #[.val (.long r1), .second, .val (.long r2), .second, .val (.long lg), .second, .val (.long p1), .second, .val (.long p2), .second, .val (.int f), .val (.int z1), .val (.int z8), .val (.int lo1), .val (.int hi1), .val (.int z69), .val (.int z76), .val (.int base2), .val (.int lo2), .val (.int hi2), .val (.long z157), .second, .val (.long z169), .second, .val (.int z179), .val (.int z191), .val (.int z179), .unset, .unset, .unset, .unset, .unset, .unset, .unset, .unset, .unset, .unset]) rfl ?_
            exact J236 _ (h210 h213).1 (h210 h213).2
      refine Own.iload C at_95 (q := 97) rfl rfl ?_
      refine Own.iconst C at_97 (q := 98) rfl (z := 4) (by decide) ?_
      refine Own.iand C at_98 (q := 99) rfl fun z98 e98 => ?_
      refine Own.if_eq C at_99 (q := 102) rfl (r := 112) (by decide) (fun h99 => ?_) (fun h99 => ?_)
      · refine Own.iload C at_112 (q := 114) rfl rfl ?_
        refine Own.istore C at_114 (q := 116) rfl (L' := #[.val (.long r1), .second, .val (.long r2), .second, .val (.long lg), .second, .val (.long p1), .second, .val (.long p2), .second, .val (.int f), .val (.int z1), .val (.int z8), .val (.int lo1), .val (.int hi1), .val (.int z69), .val (.int z76), .val (.int base2), .val (.int base2), .unset, .unset, .unset, .unset, .unset, .unset, .unset, .unset, .unset, .unset, .unset, .unset, .unset, .unset, .unset, .unset, .unset, .unset]) rfl ?_
        refine Own.iload C at_116 (q := 118) rfl rfl ?_
        refine Own.iconst C at_118 (q := 119) rfl (z := 4) (by decide) ?_
        refine Own.iand C at_119 (q := 120) rfl fun z119 e119 => ?_
        refine Own.if_eq C at_120 (q := 123) rfl (r := 133) (by decide) (fun h120 => ?_) (fun h120 => ?_)
        · refine Own.iload C at_133 (q := 135) rfl rfl ?_
          refine Own.i2l C at_135 (q := 136) rfl fun z135 e135 => ?_
          refine Own.iload C at_136 (q := 138) rfl rfl ?_
          refine Own.bipush C at_138 (q := 140) rfl (z := 63) (by decide) ?_
          refine Own.iand C at_140 (q := 141) rfl fun z140 e140 => ?_
          refine Own.i2l C at_141 (q := 142) rfl fun z141 e141 => ?_
          refine Own.ladd C at_142 (q := 143) rfl fun z142 e142 => ?_
          refine Own.ldcJ C at_143 (q := 146) rfl (hw _ (List.mem_of_getElem? (i := 0) rfl)) ?_
          refine Own.callS C at_146 (q := 149) rfl (hw _ (List.mem_of_getElem? (i := 1) rfl)) (hw _ (List.mem_of_getElem? (i := 2) rfl)) (hw _ (List.mem_of_getElem? (i := 3) rfl)) (hw _ (List.mem_of_getElem? (i := 4) rfl)) (by decide) (W := 0) (rm := rm_1) (argsL := [(.long z142), (.long (2147483647 : Int64))]) (st := []) (lenOf pd_7 rfl) rfl rfl (Nat.le_of_eq rfl) (by decide) (by decide) (by decide) (by decide) (c_minl l Z a0 hw n0 _ z142 (2147483647 : Int64)) (nxJ fun z146 μ146 h146 => ?_)
          obtain ⟨h146m, h146⟩ := h146
          refine Own.mem h146m ?_
          refine Own.l2i C at_149 (q := 150) rfl fun z149 e149 => ?_
          refine Own.istore C at_150 (q := 152) rfl (L' := #[.val (.long r1), .second, .val (.long r2), .second, .val (.long lg), .second, .val (.long p1), .second, .val (.long p2), .second, .val (.int f), .val (.int z1), .val (.int z8), .val (.int lo1), .val (.int hi1), .val (.int z69), .val (.int z76), .val (.int base2), .val (.int base2), .val (.int z149), .unset, .unset, .unset, .unset, .unset, .unset, .unset, .unset, .unset, .unset, .unset, .unset, .unset, .unset, .unset, .unset, .unset]) rfl ?_
          exact J152 _ _ (upto e135 e140 e141 e142 h146 e149)
        · exact absurd (by rw [e119, ← e98]; exact h99) h120
      · refine Own.iload C at_102 (q := 104) rfl rfl ?_
        refine Own.iload C at_104 (q := 106) rfl rfl ?_
        refine Own.callS C at_106 (q := 109) rfl (hw _ (List.mem_of_getElem? (i := 69) rfl)) (hw _ (List.mem_of_getElem? (i := 70) rfl)) (hw _ (List.mem_of_getElem? (i := 3) rfl)) (hw _ (List.mem_of_getElem? (i := 71) rfl)) (by decide) (W := 0) (rm := rm_12) (argsL := [(.int base2), (.int z76)]) (st := []) (lenOf pd_8 rfl) rfl rfl (Nat.le_of_eq rfl) (by decide) (by decide) (by decide) (by decide) (c_min l Z a0 hw n0 _ base2 z76) (nxI fun z106 μ106 h106 => ?_)
        obtain ⟨h106m, h106⟩ := h106
        refine Own.mem h106m ?_
        refine Own.goto C at_109 (q := 114) (by decide) ?_
        refine Own.istore C at_114 (q := 116) rfl (L' := #[.val (.long r1), .second, .val (.long r2), .second, .val (.long lg), .second, .val (.long p1), .second, .val (.long p2), .second, .val (.int f), .val (.int z1), .val (.int z8), .val (.int lo1), .val (.int hi1), .val (.int z69), .val (.int z76), .val (.int base2), .val (.int z106), .unset, .unset, .unset, .unset, .unset, .unset, .unset, .unset, .unset, .unset, .unset, .unset, .unset, .unset, .unset, .unset, .unset, .unset]) rfl ?_
        refine Own.iload C at_116 (q := 118) rfl rfl ?_
        refine Own.iconst C at_118 (q := 119) rfl (z := 4) (by decide) ?_
        refine Own.iand C at_119 (q := 120) rfl fun z119 e119 => ?_
        refine Own.if_eq C at_120 (q := 123) rfl (r := 133) (by decide) (fun h120 => ?_) (fun h120 => ?_)
        · exact absurd (by rw [e98, ← e119]; exact h120) h99
        · refine Own.iload C at_123 (q := 125) rfl rfl ?_
          refine Own.iload C at_125 (q := 127) rfl rfl ?_
          refine Own.callS C at_127 (q := 130) rfl (hw _ (List.mem_of_getElem? (i := 72) rfl)) (hw _ (List.mem_of_getElem? (i := 73) rfl)) (hw _ (List.mem_of_getElem? (i := 3) rfl)) (hw _ (List.mem_of_getElem? (i := 74) rfl)) (by decide) (W := 0) (rm := rm_13) (argsL := [(.int base2), (.int z76)]) (st := []) (lenOf pd_8 rfl) rfl rfl (Nat.le_of_eq rfl) (by decide) (by decide) (by decide) (by decide) (c_max l Z a0 hw n0 _ base2 z76) (nxI fun z127 μ127 h127 => ?_)
          obtain ⟨h127m, h127⟩ := h127
          refine Own.mem h127m ?_
          refine Own.goto C at_130 (q := 150) (by decide) ?_
          refine Own.istore C at_150 (q := 152) rfl (L' := #[.val (.long r1), .second, .val (.long r2), .second, .val (.long lg), .second, .val (.long p1), .second, .val (.long p2), .second, .val (.int f), .val (.int z1), .val (.int z8), .val (.int lo1), .val (.int hi1), .val (.int z69), .val (.int z76), .val (.int base2), .val (.int z106), .val (.int z127), .unset, .unset, .unset, .unset, .unset, .unset, .unset, .unset, .unset, .unset, .unset, .unset, .unset, .unset, .unset, .unset, .unset]) rfl ?_
          exact J152 _ _ (by rw [h106, h127]; exact mnmx _ _)
    refine Own.iload C at_79 (q := 81) rfl rfl ?_
    refine Own.iconst C at_81 (q := 82) rfl (z := 2) (by decide) ?_
    refine Own.iand C at_82 (q := 83) rfl fun z82 e82 => ?_
    refine Own.if_eq C at_83 (q := 86) rfl (r := 91) (by decide) (fun h83 => ?_) (fun h83 => ?_)
    · refine Own.iload C at_91 (q := 93) rfl rfl ?_
      refine Own.istore C at_93 (q := 95) rfl (L' := #[.val (.long r1), .second, .val (.long r2), .second, .val (.long lg), .second, .val (.long p1), .second, .val (.long p2), .second, .val (.int f), .val (.int z1), .val (.int z8), .val (.int lo1), .val (.int hi1), .val (.int z69), .val (.int z76), .val (.int z69), .unset, .unset, .unset, .unset, .unset, .unset, .unset, .unset, .unset, .unset, .unset, .unset, .unset, .unset, .unset, .unset, .unset, .unset, .unset]) rfl ?_
      exact J95 _
    · refine Own.iload C at_86 (q := 88) rfl rfl ?_
      refine Own.goto C at_88 (q := 93) (by decide) ?_
      refine Own.istore C at_93 (q := 95) rfl (L' := #[.val (.long r1), .second, .val (.long r2), .second, .val (.long lg), .second, .val (.long p1), .second, .val (.long p2), .second, .val (.int f), .val (.int z1), .val (.int z8), .val (.int lo1), .val (.int hi1), .val (.int z69), .val (.int z76), .val (.int lo1), .unset, .unset, .unset, .unset, .unset, .unset, .unset, .unset, .unset, .unset, .unset, .unset, .unset, .unset, .unset, .unset, .unset, .unset, .unset]) rfl ?_
      exact J95 _
  refine Own.iload C at_11 (q := 13) rfl rfl ?_
  refine Own.iconst C at_13 (q := 14) rfl (z := 1) (by decide) ?_
  refine Own.iand C at_14 (q := 15) rfl fun z14 e14 => ?_
  refine Own.if_eq C at_15 (q := 18) rfl (r := 28) (by decide) (fun h15 => ?_) (fun h15 => ?_)
  · refine Own.iload C at_28 (q := 30) rfl rfl ?_
    refine Own.istore C at_30 (q := 32) rfl (L' := #[.val (.long r1), .second, .val (.long r2), .second, .val (.long lg), .second, .val (.long p1), .second, .val (.long p2), .second, .val (.int f), .val (.int z1), .val (.int z8), .val (.int z1), .unset, .unset, .unset, .unset, .unset, .unset, .unset, .unset, .unset, .unset, .unset, .unset, .unset, .unset, .unset, .unset, .unset, .unset, .unset, .unset, .unset, .unset, .unset]) rfl ?_
    refine Own.iload C at_32 (q := 34) rfl rfl ?_
    refine Own.iconst C at_34 (q := 35) rfl (z := 1) (by decide) ?_
    refine Own.iand C at_35 (q := 36) rfl fun z35 e35 => ?_
    refine Own.if_eq C at_36 (q := 39) rfl (r := 49) (by decide) (fun h36 => ?_) (fun h36 => ?_)
    · refine Own.iload C at_49 (q := 51) rfl rfl ?_
      refine Own.i2l C at_51 (q := 52) rfl fun z51 e51 => ?_
      refine Own.iload C at_52 (q := 54) rfl rfl ?_
      refine Own.bipush C at_54 (q := 56) rfl (z := 63) (by decide) ?_
      refine Own.iand C at_56 (q := 57) rfl fun z56 e56 => ?_
      refine Own.i2l C at_57 (q := 58) rfl fun z57 e57 => ?_
      refine Own.ladd C at_58 (q := 59) rfl fun z58 e58 => ?_
      refine Own.ldcJ C at_59 (q := 62) rfl (hw _ (List.mem_of_getElem? (i := 0) rfl)) ?_
      refine Own.callS C at_62 (q := 65) rfl (hw _ (List.mem_of_getElem? (i := 1) rfl)) (hw _ (List.mem_of_getElem? (i := 2) rfl)) (hw _ (List.mem_of_getElem? (i := 3) rfl)) (hw _ (List.mem_of_getElem? (i := 4) rfl)) (by decide) (W := 0) (rm := rm_1) (argsL := [(.long z58), (.long (2147483647 : Int64))]) (st := []) (lenOf pd_7 rfl) rfl rfl (Nat.le_of_eq rfl) (by decide) (by decide) (by decide) (by decide) (c_minl l Z a0 hw n0 _ z58 (2147483647 : Int64)) (nxJ fun z62 μ62 h62 => ?_)
      obtain ⟨h62m, h62⟩ := h62
      refine Own.mem h62m ?_
      refine Own.l2i C at_65 (q := 66) rfl fun z65 e65 => ?_
      refine Own.istore C at_66 (q := 68) rfl (L' := #[.val (.long r1), .second, .val (.long r2), .second, .val (.long lg), .second, .val (.long p1), .second, .val (.long p2), .second, .val (.int f), .val (.int z1), .val (.int z8), .val (.int z1), .val (.int z65), .unset, .unset, .unset, .unset, .unset, .unset, .unset, .unset, .unset, .unset, .unset, .unset, .unset, .unset, .unset, .unset, .unset, .unset, .unset, .unset, .unset, .unset]) rfl ?_
      exact J68 _ _ (upto e51 e56 e57 e58 h62 e65)
    · exact absurd (by rw [e35, ← e14]; exact h15) h36
  · refine Own.iload C at_18 (q := 20) rfl rfl ?_
    refine Own.iload C at_20 (q := 22) rfl rfl ?_
    refine Own.callS C at_22 (q := 25) rfl (hw _ (List.mem_of_getElem? (i := 69) rfl)) (hw _ (List.mem_of_getElem? (i := 70) rfl)) (hw _ (List.mem_of_getElem? (i := 3) rfl)) (hw _ (List.mem_of_getElem? (i := 71) rfl)) (by decide) (W := 0) (rm := rm_12) (argsL := [(.int z1), (.int z8)]) (st := []) (lenOf pd_8 rfl) rfl rfl (Nat.le_of_eq rfl) (by decide) (by decide) (by decide) (by decide) (c_min l Z a0 hw n0 _ z1 z8) (nxI fun z22 μ22 h22 => ?_)
    obtain ⟨h22m, h22⟩ := h22
    refine Own.mem h22m ?_
    refine Own.goto C at_25 (q := 30) (by decide) ?_
    refine Own.istore C at_30 (q := 32) rfl (L' := #[.val (.long r1), .second, .val (.long r2), .second, .val (.long lg), .second, .val (.long p1), .second, .val (.long p2), .second, .val (.int f), .val (.int z1), .val (.int z8), .val (.int z22), .unset, .unset, .unset, .unset, .unset, .unset, .unset, .unset, .unset, .unset, .unset, .unset, .unset, .unset, .unset, .unset, .unset, .unset, .unset, .unset, .unset, .unset, .unset]) rfl ?_
    refine Own.iload C at_32 (q := 34) rfl rfl ?_
    refine Own.iconst C at_34 (q := 35) rfl (z := 1) (by decide) ?_
    refine Own.iand C at_35 (q := 36) rfl fun z35 e35 => ?_
    refine Own.if_eq C at_36 (q := 39) rfl (r := 49) (by decide) (fun h36 => ?_) (fun h36 => ?_)
    · exact absurd (by rw [e14, ← e35]; exact h36) h15
    · refine Own.iload C at_39 (q := 41) rfl rfl ?_
      refine Own.iload C at_41 (q := 43) rfl rfl ?_
      refine Own.callS C at_43 (q := 46) rfl (hw _ (List.mem_of_getElem? (i := 72) rfl)) (hw _ (List.mem_of_getElem? (i := 73) rfl)) (hw _ (List.mem_of_getElem? (i := 3) rfl)) (hw _ (List.mem_of_getElem? (i := 74) rfl)) (by decide) (W := 0) (rm := rm_13) (argsL := [(.int z1), (.int z8)]) (st := []) (lenOf pd_8 rfl) rfl rfl (Nat.le_of_eq rfl) (by decide) (by decide) (by decide) (by decide) (c_max l Z a0 hw n0 _ z1 z8) (nxI fun z43 μ43 h43 => ?_)
      obtain ⟨h43m, h43⟩ := h43
      refine Own.mem h43m ?_
      refine Own.goto C at_46 (q := 66) (by decide) ?_
      refine Own.istore C at_66 (q := 68) rfl (L' := #[.val (.long r1), .second, .val (.long r2), .second, .val (.long lg), .second, .val (.long p1), .second, .val (.long p2), .second, .val (.int f), .val (.int z1), .val (.int z8), .val (.int z22), .val (.int z43), .unset, .unset, .unset, .unset, .unset, .unset, .unset, .unset, .unset, .unset, .unset, .unset, .unset, .unset, .unset, .unset, .unset, .unset, .unset, .unset, .unset, .unset]) rfl ?_
      exact J68 _ _ (by rw [h22, h43]; exact mnmx _ _)
set_option maxRecDepth 65536 in
set_option maxHeartbeats 4000000 in
theorem comes_1 {Post : Tables → Env → Array Value → State → Outcome → State → Prop} (hpost : ∀ tb e args s v u, (limb_1_1.after args s (.returned v) u = true ∧ limb_1_2.after args s (.returned v) u = true ∧ True) → FrameEnd s (.returned v) u (Jvm.fieldLocs frame_1_writes args s ++ Jvm.arrayLocs frame_1_arrays args s ++ Jvm.staticLocs frame_1_statics s) 24 384 → Post tb e args s (.returned v) u) :
    ArmFor flags0 classFile x code maxLocals ret World_1 tables_1 room_1 Calls_1 rest_1 Pre_1 Post := by
  intro l hfl _ _ p e ha hc hk s m args below hf hA hF happ hP
  obtain ⟨hcalls, hrest, hpre⟩ := hP
  obtain ⟨-, -, -, hnamed, -, -, -, hat⟩ := (Spec.applies_iff hf).mp happ
  obtain ⟨hg, hn⟩ := and_e (Cond.before_iff.mp (show (Jvm.Cond.and given_1 narrow_1).before args s = true from hpre))
  obtain ⟨g0, hg⟩ := and_e hg
  obtain ⟨g1, hg⟩ := and_e hg
  obtain ⟨g2, hg⟩ := and_e hg
  obtain ⟨g3, hg⟩ := and_e hg
  obtain ⟨g4, hg⟩ := and_e hg
  obtain ⟨g5, hg⟩ := and_e hg
  have g6 := hg
  obtain ⟨w0, w1, w2, w3, w4, w5, rfl⟩ : ∃ w0 w1 w2 w3 w4 w5 : Value, args = #[w0, w1, w2, w3, w4, w5] := by
    have hs : args.size = 6 := by simpa [Cond.value, given_1] using g0
    obtain ⟨L⟩ := args
    match L, hs with
    | [w0, w1, w2, w3, w4, w5], _ => exact ⟨w0, w1, w2, w3, w4, w5, rfl⟩
  have hw := fun d (hd : d ∈ tables_1) => atoms_spec (ws := Jvm.Cond.code x code maxLocals ret :: tables_1) hat d (List.mem_cons_of_mem _ hd)
  have hfit : Fit s := fun {y c} hc i hi => by
    obtain ⟨ha, rfl⟩ := Array.getElem?_eq_some_iff.mp hc
    have q := List.all_eq_true.mp ((Array.all_eq_true_iff_forall_mem.mp hF) _ (Array.getElem_mem ha)) i (List.mem_range.mpr hi)
    simpa [Array.getElem?_eq_getElem hi] using q
  obtain ⟨i0, ei0⟩ := isL_v g1
  obtain rfl : w0 = (.long i0) := Option.some.inj ei0
  obtain ⟨i1, ei1⟩ := isL_v g2
  obtain rfl : w1 = (.long i1) := Option.some.inj ei1
  obtain ⟨i2, ei2⟩ := isL_v g3
  obtain rfl : w2 = (.long i2) := Option.some.inj ei2
  obtain ⟨i3, ei3⟩ := isL_v g4
  obtain rfl : w3 = (.long i3) := Option.some.inj ei3
  obtain ⟨i4, ei4⟩ := isL_v g5
  obtain rfl : w4 = (.long i4) := Option.some.inj ei4
  obtain ⟨i5, ei5⟩ := is_v g6
  obtain rfl : w5 = (.int i5) := Option.some.inj ei5
  obtain ⟨n, o, h1, h2, h3, _, L, rfl, ⟨N, _, -, rfl⟩, hq⟩ := c_law l s _ hw s.heap.size (fun _ => none) i0 i1 i2 i3 i4 i5 s.heap ⟨Old.start s, fun _ _ q => nomatch q⟩ p e ha hc hk s m _ below hf ((Spec.applies_iff_loose hf).mp happ).1 ⟨rfl, State.Warmed39.refl s, rfl⟩ trivial
  refine ⟨n, _, h1, h2, h3, hpost _ _ _ _ _ _ ⟨Cond.after_iff.mpr rfl, Cond.after_iff.mpr (eq_i res_at (Term.int_eval (1)) rfl), trivial⟩ ⟨hq.1, hq.2.1, (hq.2.2.sift fun y hy => Or.inr (N y hy)).mono (by decide) (by decide)⟩⟩
theorem main_1_1 : Claimed_1_1 := comes_1 fun _ _ _ _ _ _ h hF => ⟨h.1, hF⟩
theorem main_1_2 : Claimed_1_2 := comes_1 fun _ _ _ _ _ _ h hF => ⟨h.2.1, hF⟩
end Jvm.Pilot.@@N@@
namespace Jvm.Pilot.@@N@@
open Jvm Jvm.ClassFile Sem Op Lib Jvm.Free Jvm.Stand Jvm.Pilot.@@N@@.Jvm.D
/-! MADE BY PROGRAM (witnessworld.py) out of the Statement's table words and the real class files: 12 classes; the members and pool entries that the words name. The judged class is class 1, her method 3. -/
namespace start1
open Jvm.ClassFile
def u (s : String) : CpInfo := .utf8 (stringToUtf16 s)
/-- a pool by its gaps: so many unusable entries, then the entry; so many at the end -/
def gap : Nat → List CpInfo → List CpInfo
  | 0, r => r
  | n + 1, r => .unusable :: gap n r
def poolList (es : List (Nat × CpInfo)) (last : Nat) : List CpInfo := es.foldr (fun e r => gap e.1 (e.2 :: r)) (gap last [])
def pool (es : List (Nat × CpInfo)) (last : Nat) : Array CpInfo := ⟨poolList es last⟩
def fileOf (pool : Array CpInfo) (this : Nat) (attrs : Array Attribute := #[]) (ms : Array MethodInfo := #[]) (fl : Nat := 33) (sup : Nat := 0) (ifs : Array Nat := #[]) (fds : Array FieldInfo := #[]) : ClassFile where
  minorVersion := 0
  majorVersion := 65
  constantPool := pool
  accessFlags := fl
  thisClass := this
  superClass := sup
  interfaces := ifs
  fields := fds
  methods := ms
  attributes := attrs
def plain (name : String) (sup : Option ClassId) : Class where
  name := name
  kind := .ordinary
  loader := none
  accessFlags := 33
  super := sup
  interfaces := #[]
  cf := none
  fields := #[]
  methods := #[]
  instanceTypes := #[]
  staticTypes := #[]
  resolved := #[]
  callSites := []
  init := .initialized
  statics := none
  mirror := none

def pool0 : Array CpInfo := pool [(5, u "<init>"), (0, u "()V"), (1, .class_ 10), (1, u "java/lang/Object")] 113

def k0c0 : Code := { maxStack := 0, maxLocals := 1, code := object_method_1_code, exceptionTable := #[], attributes := #[] }
def k0m0 : Method := { name := "<init>", desc := "()V", sig := { parameters := [], returnType := none }, accessFlags := 1, code := some k0c0 }
/-- java/lang/Object -/
def k0 : Class := { plain "java/lang/Object" none with
  accessFlags := 33
  interfaces := #[]
  cf := some (fileOf pool0 8 #[] #[{ accessFlags := 1, nameIndex := 5, descriptorIndex := 6, attributes := #[] }] 33 0 #[] #[])
  fields := #[]
  methods := #[k0m0]
  instanceTypes := #[]
  staticTypes := #[]
  resolved := Array.replicate 124 none
  statics := none }

def pool1 : Array CpInfo := pool [(2, .class_ 4), (0, .nameAndType 5 6), (0, u "java/lang/Object"), (0, u "<init>"), (0, u "()V"), (0, .long 4294967295), (1, .methodref 10 11), (0, .class_ 12), (0, .nameAndType 13 14), (0, u "java/lang/Math"), (0, u "min"), (0, u "(II)I"), (0, .methodref 10 16), (0, .nameAndType 17 14), (0, u "max"), (2, .long 2147483647), (1, .methodref 10 23), (0, .nameAndType 13 24), (0, u "(JJ)J"), (0, .long 64), (1, .methodref 28 29), (0, .class_ 30), (0, .nameAndType 31 32), (0, u "com/example/parcours/parcours/search/ValueNumbersClearPinLaw"), (0, u "pick"), (0, u "(III)I"), (0, .methodref 28 34), (0, .nameAndType 35 36), (0, u "within"), (0, u "(III)Z"), (0, .class_ 38), (0, u "com/example/parcours/parcours/search/ValueNumbers"), (0, .methodref 37 3), (0, .methodref 37 41), (0, .nameAndType 42 43), (0, u "clear"), (0, u "(IIJ)V"), (0, .methodref 37 45), (0, .nameAndType 46 47), (0, u "number"), (0, u "(I)I"), (0, .methodref 37 49), (0, .nameAndType 50 51), (0, u "count"), (0, u "()I"), (0, .methodref 37 53), (0, .nameAndType 54 47), (0, u "value"), (3, u "law"), (0, u "(JJJJJI)Z")] 2

def k1m0 : Method := { name := "<init>", desc := "()V", sig := { parameters := [], returnType := none }, accessFlags := 1, code := none }
def k1c1 : Code := { maxStack := 6, maxLocals := 5, code := method_2_code, exceptionTable := #[], attributes := #[] }
def k1m1 : Method := { name := "pick", desc := "(III)I", sig := { parameters := [.int, .int, .int], returnType := some .int }, accessFlags := 10, code := some k1c1 }
def k1c2 : Code := { maxStack := 2, maxLocals := 3, code := method_3_code, exceptionTable := #[], attributes := #[] }
def k1m2 : Method := { name := "within", desc := "(III)Z", sig := { parameters := [.int, .int, .int], returnType := some .boolean }, accessFlags := 10, code := some k1c2 }
def k1c3 : Code := { maxStack := 5, maxLocals := 37, code := code, exceptionTable := #[], attributes := #[] }
def k1m3 : Method := { name := "law", desc := "(JJJJJI)Z", sig := { parameters := [.long, .long, .long, .long, .long, .int], returnType := some .boolean }, accessFlags := 9, code := some k1c3 }
/-- com/example/parcours/parcours/search/ValueNumbersClearPinLaw -/
def k1 : Class := { plain "com/example/parcours/parcours/search/ValueNumbersClearPinLaw" (some 0) with
  accessFlags := 49
  interfaces := #[]
  cf := some (fileOf pool1 28 #[] #[{ accessFlags := 1, nameIndex := 5, descriptorIndex := 6, attributes := #[] }, { accessFlags := 10, nameIndex := 31, descriptorIndex := 32, attributes := #[] }, { accessFlags := 10, nameIndex := 35, descriptorIndex := 36, attributes := #[] }, { accessFlags := 9, nameIndex := 58, descriptorIndex := 59, attributes := #[] }] 49 2 #[] #[])
  fields := #[]
  methods := #[k1m0, k1m1, k1m2, k1m3]
  instanceTypes := #[]
  staticTypes := #[]
  resolved := Array.replicate 62 none
  statics := none }

def pool2 : Array CpInfo := pool [(1, .class_ 2), (0, u "java/lang/Math"), (1, .class_ 6), (1, u "java/lang/Object"), (0, u "<init>"), (0, u "()V"), (89, .class_ 100), (1, u "java/lang/Math$RandomNumberGeneratorHolder"), (20, u "(JJ)J"), (50, u "negativeZeroFloatBits"), (0, u "J"), (2, u "negativeZeroDoubleBits"), (21, u "max"), (2, u "min"), (43, u "$assertionsDisabled"), (0, u "Z"), (88, u "(II)I"), (2, u "twoToTheDoubleScaleDown"), (0, u "D"), (4, u "twoToTheDoubleScaleUp"), (9, u "E"), (3, u "PI"), (2, u "TAU"), (2, u "DEGREES_TO_RADIANS"), (0, u "RADIANS_TO_DEGREES")] 94

def k2m0 : Method := { name := "<init>", desc := "()V", sig := { parameters := [], returnType := none }, accessFlags := 2, code := none }
def k2c1 : Code := { maxStack := 2, maxLocals := 2, code := jdk_29_method_65_code, exceptionTable := #[], attributes := #[] }
def k2m1 : Method := { name := "max", desc := "(II)I", sig := { parameters := [.int, .int], returnType := some .int }, accessFlags := 9, code := some k2c1 }
def k2c2 : Code := { maxStack := 2, maxLocals := 2, code := jdk_29_method_69_code, exceptionTable := #[], attributes := #[] }
def k2m2 : Method := { name := "min", desc := "(II)I", sig := { parameters := [.int, .int], returnType := some .int }, accessFlags := 9, code := some k2c2 }
def k2c3 : Code := { maxStack := 4, maxLocals := 4, code := jdk_29_method_70_code, exceptionTable := #[], attributes := #[] }
def k2m3 : Method := { name := "min", desc := "(JJ)J", sig := { parameters := [.long, .long], returnType := some .long }, accessFlags := 9, code := some k2c3 }
/-- java/lang/Math -/
def k2 : Class := { plain "java/lang/Math" (some 0) with
  accessFlags := 49
  interfaces := #[]
  cf := some (fileOf pool2 1 #[.nestMembers #[98]] #[{ accessFlags := 2, nameIndex := 7, descriptorIndex := 8, attributes := #[] }, { accessFlags := 9, nameIndex := 198, descriptorIndex := 335, attributes := #[] }, { accessFlags := 9, nameIndex := 201, descriptorIndex := 335, attributes := #[] }, { accessFlags := 9, nameIndex := 201, descriptorIndex := 121, attributes := #[] }] 49 4 #[] #[{ accessFlags := 25, nameIndex := 354, descriptorIndex := 339, attributes := #[] }, { accessFlags := 25, nameIndex := 358, descriptorIndex := 339, attributes := #[] }, { accessFlags := 25, nameIndex := 361, descriptorIndex := 339, attributes := #[] }, { accessFlags := 26, nameIndex := 364, descriptorIndex := 339, attributes := #[] }, { accessFlags := 26, nameIndex := 365, descriptorIndex := 339, attributes := #[] }, { accessFlags := 26, nameIndex := 172, descriptorIndex := 173, attributes := #[] }, { accessFlags := 26, nameIndex := 176, descriptorIndex := 173, attributes := #[] }, { accessFlags := 8, nameIndex := 344, descriptorIndex := 339, attributes := #[] }, { accessFlags := 8, nameIndex := 338, descriptorIndex := 339, attributes := #[] }, { accessFlags := 4120, nameIndex := 245, descriptorIndex := 246, attributes := #[] }])
  fields := #[{ name := "E", type := .double, accessFlags := 25, slot := 0, constantValue := 0 }, { name := "PI", type := .double, accessFlags := 25, slot := 1, constantValue := 0 }, { name := "TAU", type := .double, accessFlags := 25, slot := 2, constantValue := 0 }, { name := "DEGREES_TO_RADIANS", type := .double, accessFlags := 26, slot := 3, constantValue := 0 }, { name := "RADIANS_TO_DEGREES", type := .double, accessFlags := 26, slot := 4, constantValue := 0 }, { name := "negativeZeroFloatBits", type := .long, accessFlags := 26, slot := 5, constantValue := 0 }, { name := "negativeZeroDoubleBits", type := .long, accessFlags := 26, slot := 6, constantValue := 0 }, { name := "twoToTheDoubleScaleUp", type := .double, accessFlags := 8, slot := 7, constantValue := 0 }, { name := "twoToTheDoubleScaleDown", type := .double, accessFlags := 8, slot := 8, constantValue := 0 }, { name := "$assertionsDisabled", type := .boolean, accessFlags := 4120, slot := 9, constantValue := 0 }]
  methods := #[k2m0, k2m1, k2m2, k2m3]
  instanceTypes := #[]
  staticTypes := #[.double, .double, .double, .double, .double, .long, .long, .double, .double, .boolean]
  resolved := Array.replicate 460 none
  statics := none }

def pool3 : Array CpInfo := pool [(1, .methodref 2 3), (0, .class_ 4), (0, .nameAndType 5 6), (0, u "java/lang/Object"), (0, u "<init>"), (0, u "()V"), (0, .class_ 8), (0, u "com/example/parcours/parcours/search/ValueNumbers"), (0, .fieldref 7 10), (0, .nameAndType 11 12), (0, u "values"), (0, u "[I"), (0, .fieldref 7 14), (0, .nameAndType 15 12), (0, u "places"), (0, .fieldref 7 17), (0, .nameAndType 18 19), (0, u "slots"), (0, u "[J"), (0, .fieldref 7 21), (0, .nameAndType 22 12), (0, u "slotOf"), (0, .fieldref 7 24), (0, .nameAndType 25 26), (0, u "count"), (0, u "I"), (0, .fieldref 7 28), (0, .nameAndType 29 30), (0, u "byPlace"), (0, u "Z"), (0, .fieldref 7 32), (0, .nameAndType 33 26), (0, u "least"), (0, .methodref 7 35), (0, .nameAndType 22 36), (0, u "(I)I"), (0, .methodref 7 38), (0, .nameAndType 39 36), (0, u "numberNew"), (3, .methodref 7 44), (0, .nameAndType 45 46), (0, u "put"), (0, u "(III)V"), (0, .integer 2654435769), (22, u "FIRST_SLOTS"), (4, u "clear"), (0, u "(IIJ)V"), (1, u "number"), (0, u "()I"), (0, u "value")] 17

def k3c0 : Code := { maxStack := 2, maxLocals := 1, code := prog_68_method_1_code, exceptionTable := #[], attributes := #[] }
def k3m0 : Method := { name := "<init>", desc := "()V", sig := { parameters := [], returnType := none }, accessFlags := 0, code := some k3c0 }
def k3c1 : Code := { maxStack := 5, maxLocals := 7, code := prog_68_method_2_code, exceptionTable := #[], attributes := #[] }
def k3m1 : Method := { name := "clear", desc := "(IIJ)V", sig := { parameters := [.int, .int, .long], returnType := none }, accessFlags := 0, code := some k3c1 }
def k3c2 : Code := { maxStack := 3, maxLocals := 3, code := prog_68_method_3_code, exceptionTable := #[], attributes := #[] }
def k3m2 : Method := { name := "number", desc := "(I)I", sig := { parameters := [.int], returnType := some .int }, accessFlags := 0, code := some k3c2 }
def k3c3 : Code := { maxStack := 4, maxLocals := 2, code := prog_68_method_4_code, exceptionTable := #[], attributes := #[] }
def k3m3 : Method := { name := "numberNew", desc := "(I)I", sig := { parameters := [.int], returnType := some .int }, accessFlags := 2, code := some k3c3 }
def k3c4 : Code := { maxStack := 1, maxLocals := 1, code := prog_68_method_5_code, exceptionTable := #[], attributes := #[] }
def k3m4 : Method := { name := "count", desc := "()I", sig := { parameters := [], returnType := some .int }, accessFlags := 0, code := some k3c4 }
def k3c5 : Code := { maxStack := 2, maxLocals := 2, code := prog_68_method_6_code, exceptionTable := #[], attributes := #[] }
def k3m5 : Method := { name := "value", desc := "(I)I", sig := { parameters := [.int], returnType := some .int }, accessFlags := 0, code := some k3c5 }
def k3c6 : Code := { maxStack := 4, maxLocals := 7, code := prog_68_method_7_code, exceptionTable := #[], attributes := #[] }
def k3m6 : Method := { name := "slotOf", desc := "(I)I", sig := { parameters := [.int], returnType := some .int }, accessFlags := 2, code := some k3c6 }
def k3c7 : Code := { maxStack := 6, maxLocals := 4, code := prog_68_method_8_code, exceptionTable := #[], attributes := #[] }
def k3m7 : Method := { name := "put", desc := "(III)V", sig := { parameters := [.int, .int, .int], returnType := none }, accessFlags := 2, code := some k3c7 }
/-- com/example/parcours/parcours/search/ValueNumbers -/
def k3 : Class := { plain "com/example/parcours/parcours/search/ValueNumbers" (some 0) with
  accessFlags := 32
  interfaces := #[]
  cf := some (fileOf pool3 7 #[] #[{ accessFlags := 0, nameIndex := 5, descriptorIndex := 6, attributes := #[] }, { accessFlags := 0, nameIndex := 75, descriptorIndex := 76, attributes := #[] }, { accessFlags := 0, nameIndex := 78, descriptorIndex := 36, attributes := #[] }, { accessFlags := 2, nameIndex := 39, descriptorIndex := 36, attributes := #[] }, { accessFlags := 0, nameIndex := 25, descriptorIndex := 79, attributes := #[] }, { accessFlags := 0, nameIndex := 80, descriptorIndex := 36, attributes := #[] }, { accessFlags := 2, nameIndex := 22, descriptorIndex := 36, attributes := #[] }, { accessFlags := 2, nameIndex := 45, descriptorIndex := 46, attributes := #[] }] 32 2 #[] #[{ accessFlags := 26, nameIndex := 70, descriptorIndex := 26, attributes := #[] }, { accessFlags := 2, nameIndex := 11, descriptorIndex := 12, attributes := #[] }, { accessFlags := 2, nameIndex := 25, descriptorIndex := 26, attributes := #[] }, { accessFlags := 2, nameIndex := 29, descriptorIndex := 30, attributes := #[] }, { accessFlags := 2, nameIndex := 33, descriptorIndex := 26, attributes := #[] }, { accessFlags := 2, nameIndex := 15, descriptorIndex := 12, attributes := #[] }, { accessFlags := 2, nameIndex := 18, descriptorIndex := 19, attributes := #[] }, { accessFlags := 2, nameIndex := 22, descriptorIndex := 12, attributes := #[] }])
  fields := #[{ name := "FIRST_SLOTS", type := .int, accessFlags := 26, slot := 0, constantValue := 0 }, { name := "values", type := (.array .int), accessFlags := 2, slot := 0, constantValue := 0 }, { name := "count", type := .int, accessFlags := 2, slot := 1, constantValue := 0 }, { name := "byPlace", type := .boolean, accessFlags := 2, slot := 2, constantValue := 0 }, { name := "least", type := .int, accessFlags := 2, slot := 3, constantValue := 0 }, { name := "places", type := (.array .int), accessFlags := 2, slot := 4, constantValue := 0 }, { name := "slots", type := (.array .long), accessFlags := 2, slot := 5, constantValue := 0 }, { name := "slotOf", type := (.array .int), accessFlags := 2, slot := 6, constantValue := 0 }]
  methods := #[k3m0, k3m1, k3m2, k3m3, k3m4, k3m5, k3m6, k3m7]
  instanceTypes := #[(.array .int), .int, .boolean, .int, (.array .int), (.array .long), (.array .int)]
  staticTypes := #[.int]
  resolved := Array.replicate 98 none
  statics := none }

def pool4 : Array CpInfo := pool [(1, u "java/lang/Cloneable"), (0, .class_ 1), (0, u "java/lang/Object"), (0, .class_ 3)] 3

/-- java/lang/Cloneable -/
def k4 : Class := { plain "java/lang/Cloneable" (some 0) with
  accessFlags := 1537
  interfaces := #[]
  cf := some (fileOf pool4 2 #[] #[] 1537 4 #[] #[])
  fields := #[]
  methods := #[]
  instanceTypes := #[]
  staticTypes := #[]
  resolved := Array.replicate 8 none
  statics := none }

def pool5 : Array CpInfo := pool [(1, u "java/io/Serializable"), (0, .class_ 1), (0, u "java/lang/Object"), (0, .class_ 3)] 3

/-- java/io/Serializable -/
def k5 : Class := { plain "java/io/Serializable" (some 0) with
  accessFlags := 1537
  interfaces := #[]
  cf := some (fileOf pool5 2 #[] #[] 1537 4 #[] #[])
  fields := #[]
  methods := #[]
  instanceTypes := #[]
  staticTypes := #[]
  resolved := Array.replicate 8 none
  statics := none }

/-- the primitive byte -/
def k6 : Class := { plain "byte" none with kind := .primitive 'B', accessFlags := 0x411 }
/-- [B -/
def k7 : Class := { plain "[B" (some 0) with kind := .array 6 .byte, interfaces := #[4, 5], accessFlags := 1041 }

/-- the primitive int -/
def k8 : Class := { plain "int" none with kind := .primitive 'I', accessFlags := 0x411 }
/-- [I -/
def k9 : Class := { plain "[I" (some 0) with kind := .array 8 .int, interfaces := #[4, 5], accessFlags := 1041 }

/-- the primitive long -/
def k10 : Class := { plain "long" none with kind := .primitive 'J', accessFlags := 0x411 }
/-- [J -/
def k11 : Class := { plain "[J" (some 0) with kind := .array 10 .long, interfaces := #[4, 5], accessFlags := 1041 }

def heap : Heap := #[]
def classes : Array Class := #[k0, k1, k2, k3, k4, k5, k6, k7, k8, k9, k10, k11]
def interned : List (Array UInt16 × Addr) := []
def slotsUsed : Nat := 0
def theMethod : MethodId := ⟨1, 3⟩
def args0 : Array Value := #[.long 5, .long 6, .long 7, .long 8, .long 9, .int 10]
def aboutOver (below : List Frame) : State where
  vm := { classes := classes, interned := interned.toArray }
  heap := heap
  slotsUsed := slotsUsed
  threads := #[{ frames := .invoking theMethod args0 :: below }]
def below0 : List Frame := [.native { method := ⟨0, 0⟩, args := #[] }]
def about1 : State := aboutOver below0
def p0 : Program := .bare "" "" ""
def e0 : Env := launch0.env 0 0 0
theorem w_frames : about1.frames = Frame.invoking theMethod args0 :: below0 := rfl
set_option maxRecDepth 65536 in
theorem w_args : argsFit about1.vm theMethod args0 = true := by decide +kernel
set_option maxRecDepth 65536 in
theorem w_heap : heapFits about1 = true := by decide +kernel
set_option maxRecDepth 65536 in
theorem w_runnable : about1.curStatus? = some .runnable := by decide +kernel
set_option maxRecDepth 65536 in
theorem w_alone : about1.alone = true := by decide +kernel
set_option maxRecDepth 65536 in
theorem w_named : about1.methodNamed? x = some theMethod := by decide +kernel
set_option maxRecDepth 65536 in
theorem w_hears : about1.hears theMethod below0 = true := by decide +kernel
set_option maxRecDepth 65536 in
theorem w_ripe : about1.ripe theMethod args0 below0 = true := by decide +kernel
theorem w_running : about1.status = .running := rfl
set_option maxRecDepth 65536 in
theorem w_room : about1.hasRoom e0.platform room_1 = true :=
  launch0.hasRoom_least _ room_1 (by decide +kernel) (by decide +kernel) (by decide +kernel) (by decide +kernel) (by decide +kernel) (by decide +kernel)
theorem allAtoms_all (ts : List Jvm.Cond) (a : Array Jvm.Value) (st : Jvm.State) : (allAtoms ts).before a st = ts.all (fun c => c.before a st) := by
  induction ts with
  | nil => rfl
  | cons c t ih =>
    show (Jvm.Cond.and c (allAtoms t)).before a st = _
    rw [Jvm.Cond.before_and, ih, List.all_cons]
def words1 : List Jvm.Cond := Jvm.Cond.code x code maxLocals ret :: tables_1
/-- a 'code' word, met by the world's own term for the bytes: nothing is compared byte by byte -/
theorem code_word {y : MethodName} {bytes : ByteArray} {mx : Nat} {rt : Option FieldType} {a : Array Value} {s : State} {m : MethodId} {meth : Method} {c : Code} (h1 : s.methodNamed? y = some m) (h2 : s.vm.method? m = some meth) (h3 : meth.code = some c) (h4 : c.code = bytes)
    (h5 : (c.maxLocals == mx && c.exceptionTable.isEmpty && decide (c.maxStack ≤ mostOperands) && decide (meth.sig.returnType = rt) && !meth.locks && decide (parseMethodDescriptor y.desc = some meth.sig)) = true) : (Jvm.Cond.code y bytes mx rt).before a s = true := by
  simp only [Bool.and_eq_true, beq_iff_eq, Bool.not_eq_true', decide_eq_true_eq] at h5
  obtain ⟨⟨⟨⟨⟨g1, g2⟩, g3⟩, g4⟩, g5⟩, g6⟩ := h5
  simp [Cond.before, Cond.holds, Cond.value, h1, h2, h3, h4, g1, g2, g3, g4, g5, g6]
def isCode : Jvm.Cond → Bool
  | .code _ _ _ _ => true
  | _ => false
theorem all_split {L : List Jvm.Cond} {P : Jvm.Cond → Bool} (h1 : L.all (fun c => isCode c || P c) = true) (h2 : ∀ c ∈ L.filter isCode, P c = true) : L.all P = true := by
  refine List.all_eq_true.mpr fun c hc => ?_
  have h := List.all_eq_true.mp h1 c hc
  rcases Bool.eq_false_or_eq_true (isCode c) with hi | hi
  · exact h2 c (List.mem_filter.mpr ⟨hc, hi⟩)
  · simpa [hi] using h
set_option maxRecDepth 65536 in
theorem w_c0 : (Jvm.Cond.code x code maxLocals ret).before args0 about1 = true := code_word (m := ⟨1, 3⟩) (meth := k1m3) (c := k1c3) (by decide +kernel) rfl rfl rfl (by decide +kernel)
set_option maxRecDepth 65536 in
theorem w_c1 : (Jvm.Cond.code ({ cls := "java/lang/Math", name := "min", desc := "(JJ)J" } : Jvm.MethodName) jdk_29_method_70_code (4 : Nat) (Option.some Jvm.ClassFile.FieldType.long)).before args0 about1 = true := code_word (m := ⟨2, 3⟩) (meth := k2m3) (c := k2c3) (by decide +kernel) rfl rfl rfl (by decide +kernel)
set_option maxRecDepth 65536 in
theorem w_c2 : (Jvm.Cond.code ({ cls := "com/example/parcours/parcours/search/ValueNumbersClearPinLaw", name := "pick", desc := "(III)I" } : Jvm.MethodName) method_2_code (5 : Nat) (Option.some Jvm.ClassFile.FieldType.int)).before args0 about1 = true := code_word (m := ⟨1, 1⟩) (meth := k1m1) (c := k1c1) (by decide +kernel) rfl rfl rfl (by decide +kernel)
set_option maxRecDepth 65536 in
theorem w_c3 : (Jvm.Cond.code ({ cls := "com/example/parcours/parcours/search/ValueNumbers", name := "<init>", desc := "()V" } : Jvm.MethodName) prog_68_method_1_code (1 : Nat) (Option.none : Option Jvm.ClassFile.FieldType)).before args0 about1 = true := code_word (m := ⟨3, 0⟩) (meth := k3m0) (c := k3c0) (by decide +kernel) rfl rfl rfl (by decide +kernel)
set_option maxRecDepth 65536 in
theorem w_c4 : (Jvm.Cond.code ({ cls := "java/lang/Object", name := "<init>", desc := "()V" } : Jvm.MethodName) object_method_1_code (1 : Nat) (Option.none : Option Jvm.ClassFile.FieldType)).before args0 about1 = true := code_word (m := ⟨0, 0⟩) (meth := k0m0) (c := k0c0) (by decide +kernel) rfl rfl rfl (by decide +kernel)
set_option maxRecDepth 65536 in
theorem w_c5 : (Jvm.Cond.code ({ cls := "com/example/parcours/parcours/search/ValueNumbers", name := "clear", desc := "(IIJ)V" } : Jvm.MethodName) prog_68_method_2_code (7 : Nat) (Option.none : Option Jvm.ClassFile.FieldType)).before args0 about1 = true := code_word (m := ⟨3, 1⟩) (meth := k3m1) (c := k3c1) (by decide +kernel) rfl rfl rfl (by decide +kernel)
set_option maxRecDepth 65536 in
theorem w_c6 : (Jvm.Cond.code ({ cls := "com/example/parcours/parcours/search/ValueNumbers", name := "count", desc := "()I" } : Jvm.MethodName) prog_68_method_5_code (1 : Nat) (Option.some Jvm.ClassFile.FieldType.int)).before args0 about1 = true := code_word (m := ⟨3, 4⟩) (meth := k3m4) (c := k3c4) (by decide +kernel) rfl rfl rfl (by decide +kernel)
set_option maxRecDepth 65536 in
theorem w_c7 : (Jvm.Cond.code ({ cls := "com/example/parcours/parcours/search/ValueNumbers", name := "number", desc := "(I)I" } : Jvm.MethodName) prog_68_method_3_code (3 : Nat) (Option.some Jvm.ClassFile.FieldType.int)).before args0 about1 = true := code_word (m := ⟨3, 2⟩) (meth := k3m2) (c := k3c2) (by decide +kernel) rfl rfl rfl (by decide +kernel)
set_option maxRecDepth 65536 in
theorem w_c8 : (Jvm.Cond.code ({ cls := "com/example/parcours/parcours/search/ValueNumbers", name := "slotOf", desc := "(I)I" } : Jvm.MethodName) prog_68_method_7_code (7 : Nat) (Option.some Jvm.ClassFile.FieldType.int)).before args0 about1 = true := code_word (m := ⟨3, 6⟩) (meth := k3m6) (c := k3c6) (by decide +kernel) rfl rfl rfl (by decide +kernel)
set_option maxRecDepth 65536 in
theorem w_c9 : (Jvm.Cond.code ({ cls := "com/example/parcours/parcours/search/ValueNumbers", name := "numberNew", desc := "(I)I" } : Jvm.MethodName) prog_68_method_4_code (2 : Nat) (Option.some Jvm.ClassFile.FieldType.int)).before args0 about1 = true := code_word (m := ⟨3, 3⟩) (meth := k3m3) (c := k3c3) (by decide +kernel) rfl rfl rfl (by decide +kernel)
set_option maxRecDepth 65536 in
theorem w_c10 : (Jvm.Cond.code ({ cls := "com/example/parcours/parcours/search/ValueNumbers", name := "put", desc := "(III)V" } : Jvm.MethodName) prog_68_method_8_code (4 : Nat) (Option.none : Option Jvm.ClassFile.FieldType)).before args0 about1 = true := code_word (m := ⟨3, 7⟩) (meth := k3m7) (c := k3c7) (by decide +kernel) rfl rfl rfl (by decide +kernel)
set_option maxRecDepth 65536 in
theorem w_c11 : (Jvm.Cond.code ({ cls := "com/example/parcours/parcours/search/ValueNumbers", name := "value", desc := "(I)I" } : Jvm.MethodName) prog_68_method_6_code (2 : Nat) (Option.some Jvm.ClassFile.FieldType.int)).before args0 about1 = true := code_word (m := ⟨3, 5⟩) (meth := k3m5) (c := k3c5) (by decide +kernel) rfl rfl rfl (by decide +kernel)
set_option maxRecDepth 65536 in
theorem w_c12 : (Jvm.Cond.code ({ cls := "java/lang/Math", name := "min", desc := "(II)I" } : Jvm.MethodName) jdk_29_method_69_code (2 : Nat) (Option.some Jvm.ClassFile.FieldType.int)).before args0 about1 = true := code_word (m := ⟨2, 2⟩) (meth := k2m2) (c := k2c2) (by decide +kernel) rfl rfl rfl (by decide +kernel)
set_option maxRecDepth 65536 in
theorem w_c13 : (Jvm.Cond.code ({ cls := "java/lang/Math", name := "max", desc := "(II)I" } : Jvm.MethodName) jdk_29_method_65_code (2 : Nat) (Option.some Jvm.ClassFile.FieldType.int)).before args0 about1 = true := code_word (m := ⟨2, 1⟩) (meth := k2m1) (c := k2c1) (by decide +kernel) rfl rfl rfl (by decide +kernel)
set_option maxRecDepth 65536 in
theorem w_c14 : (Jvm.Cond.code ({ cls := "com/example/parcours/parcours/search/ValueNumbersClearPinLaw", name := "within", desc := "(III)Z" } : Jvm.MethodName) method_3_code (3 : Nat) (Option.some Jvm.ClassFile.FieldType.boolean)).before args0 about1 = true := code_word (m := ⟨1, 2⟩) (meth := k1m2) (c := k1c2) (by decide +kernel) rfl rfl rfl (by decide +kernel)
def codes1 : List Jvm.Cond := [Jvm.Cond.code x code maxLocals ret, Jvm.Cond.code ({ cls := "java/lang/Math", name := "min", desc := "(JJ)J" } : Jvm.MethodName) jdk_29_method_70_code (4 : Nat) (Option.some Jvm.ClassFile.FieldType.long), Jvm.Cond.code ({ cls := "com/example/parcours/parcours/search/ValueNumbersClearPinLaw", name := "pick", desc := "(III)I" } : Jvm.MethodName) method_2_code (5 : Nat) (Option.some Jvm.ClassFile.FieldType.int), Jvm.Cond.code ({ cls := "com/example/parcours/parcours/search/ValueNumbers", name := "<init>", desc := "()V" } : Jvm.MethodName) prog_68_method_1_code (1 : Nat) (Option.none : Option Jvm.ClassFile.FieldType), Jvm.Cond.code ({ cls := "java/lang/Object", name := "<init>", desc := "()V" } : Jvm.MethodName) object_method_1_code (1 : Nat) (Option.none : Option Jvm.ClassFile.FieldType), Jvm.Cond.code ({ cls := "com/example/parcours/parcours/search/ValueNumbers", name := "clear", desc := "(IIJ)V" } : Jvm.MethodName) prog_68_method_2_code (7 : Nat) (Option.none : Option Jvm.ClassFile.FieldType), Jvm.Cond.code ({ cls := "com/example/parcours/parcours/search/ValueNumbers", name := "count", desc := "()I" } : Jvm.MethodName) prog_68_method_5_code (1 : Nat) (Option.some Jvm.ClassFile.FieldType.int), Jvm.Cond.code ({ cls := "com/example/parcours/parcours/search/ValueNumbers", name := "number", desc := "(I)I" } : Jvm.MethodName) prog_68_method_3_code (3 : Nat) (Option.some Jvm.ClassFile.FieldType.int), Jvm.Cond.code ({ cls := "com/example/parcours/parcours/search/ValueNumbers", name := "slotOf", desc := "(I)I" } : Jvm.MethodName) prog_68_method_7_code (7 : Nat) (Option.some Jvm.ClassFile.FieldType.int), Jvm.Cond.code ({ cls := "com/example/parcours/parcours/search/ValueNumbers", name := "numberNew", desc := "(I)I" } : Jvm.MethodName) prog_68_method_4_code (2 : Nat) (Option.some Jvm.ClassFile.FieldType.int), Jvm.Cond.code ({ cls := "com/example/parcours/parcours/search/ValueNumbers", name := "put", desc := "(III)V" } : Jvm.MethodName) prog_68_method_8_code (4 : Nat) (Option.none : Option Jvm.ClassFile.FieldType), Jvm.Cond.code ({ cls := "com/example/parcours/parcours/search/ValueNumbers", name := "value", desc := "(I)I" } : Jvm.MethodName) prog_68_method_6_code (2 : Nat) (Option.some Jvm.ClassFile.FieldType.int), Jvm.Cond.code ({ cls := "java/lang/Math", name := "min", desc := "(II)I" } : Jvm.MethodName) jdk_29_method_69_code (2 : Nat) (Option.some Jvm.ClassFile.FieldType.int), Jvm.Cond.code ({ cls := "java/lang/Math", name := "max", desc := "(II)I" } : Jvm.MethodName) jdk_29_method_65_code (2 : Nat) (Option.some Jvm.ClassFile.FieldType.int), Jvm.Cond.code ({ cls := "com/example/parcours/parcours/search/ValueNumbersClearPinLaw", name := "within", desc := "(III)Z" } : Jvm.MethodName) method_3_code (3 : Nat) (Option.some Jvm.ClassFile.FieldType.boolean)]
set_option maxRecDepth 65536 in
theorem codes_eq : words1.filter isCode = codes1 := rfl
theorem w_codes : ∀ c ∈ words1.filter isCode, c.before args0 about1 = true := by
  rw [codes_eq]
  intro c hc
  simp only [codes1, List.mem_cons, List.not_mem_nil, or_false] at hc
  rcases hc with rfl | rfl | rfl | rfl | rfl | rfl | rfl | rfl | rfl | rfl | rfl | rfl | rfl | rfl | rfl
  · exact w_c0
  · exact w_c1
  · exact w_c2
  · exact w_c3
  · exact w_c4
  · exact w_c5
  · exact w_c6
  · exact w_c7
  · exact w_c8
  · exact w_c9
  · exact w_c10
  · exact w_c11
  · exact w_c12
  · exact w_c13
  · exact w_c14
set_option maxRecDepth 65536 in
theorem w_t1 : (words1.take 24).all (fun c => isCode c || c.before args0 about1) = true := by decide +kernel
set_option maxRecDepth 65536 in
theorem w_t2 : ((words1.drop 24).take 24).all (fun c => isCode c || c.before args0 about1) = true := by decide +kernel
set_option maxRecDepth 65536 in
theorem w_t3 : (((words1.drop 24).drop 24).take 24).all (fun c => isCode c || c.before args0 about1) = true := by decide +kernel
set_option maxRecDepth 65536 in
theorem w_t4 : (((words1.drop 24).drop 24).drop 24).all (fun c => isCode c || c.before args0 about1) = true := by decide +kernel
theorem w_tables : (allAtoms (Jvm.Cond.code x code maxLocals ret :: tables_1)).before args0 about1 = true := by
  rw [allAtoms_all]
  show words1.all (fun c => c.before args0 about1) = true
  refine all_split ?_ w_codes
  rw [← List.take_append_drop 24 words1, List.all_append, w_t1, ← List.take_append_drop 24 (words1.drop 24), List.all_append, w_t2, ← List.take_append_drop 24 ((words1.drop 24).drop 24), List.all_append, w_t3, w_t4]
  rfl
set_option maxRecDepth 65536 in
theorem w_case : (Jvm.Cond.and given_1 narrow_1).before args0 about1 = true := by decide +kernel
theorem w_applies : (headSpec (Jvm.Cond.code x code maxLocals ret :: tables_1) room_1).applies x e0.platform about1 = true :=
  (Spec.applies_iff w_frames).mpr ⟨w_running, w_runnable, w_alone, w_named, w_hears, w_ripe, w_room, w_tables⟩
theorem atStart : AtStart classFile x code maxLocals ret World_1 tables_1 room_1 Calls_1 rest_1 Pre_1 launch0 p0 e0 about1 theMethod args0 below0 :=
  ⟨lists_1, trivial, launch0.admits_env _ _ _, launch0.least_env, fairChoices_fair.cas, fairChoices_fair.clock, w_frames, w_args, w_heap, w_applies, trivial, trivial, w_case⟩
end start1
theorem witness_1 : WitnessClaimed_1 := ⟨start1.p0, start1.e0, start1.about1, start1.theMethod, start1.args0, start1.below0, start1.atStart⟩
end Jvm.Pilot.@@N@@
