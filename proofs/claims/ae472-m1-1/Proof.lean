import JvmDerived
import JvmDerived.Pilot.@@N@@Statement
import JvmDerived.Pilot.@@N@@Code
set_option linter.unusedVariables false
set_option linter.unusedSimpArgs false
namespace Jvm.Own
open Sem ClassFile Op Lib Jvm.Stand Jvm.Free Jvm.LawKit Jvm.RoadKit
/-! A plain store over the heap: what each address that matters holds. -/
abbrev Key : Type := String × String × String
abbrev Obj : Type := Sum (String × List (Key × Value)) (FieldType × List Value)
abbrev Mem : Type := Addr → Option Obj
def upd (μ : Mem) (a : Addr) (o : Obj) : Mem := fun x => if x = a then some o else μ x
section MemFacts
variable {μ : Mem} {a b : Addr} {o o' : Obj}
theorem upd_same : upd μ a o a = some o := by simp [upd]
theorem upd_ne (h : b ≠ a) : upd μ a o b = μ b := by simp [upd, h]
theorem upd_upd : upd (upd μ a o) a o' = upd μ a o' := by funext x; simp only [upd]; split <;> rfl
theorem upd_at (h : b ≠ a) {q : Obj} (hb : μ b = some q) : upd μ a o b = some q := (upd_ne h).trans hb
theorem upd_id (h : μ a = some o) : upd μ a o = μ := by funext x; simp only [upd]; split <;> simp_all
theorem upd_in {ν : Mem} {w : Obj} (h : upd μ a o = ν) (hb : b ≠ a) : upd (upd μ b w) a o = upd ν b w := by
  subst h; funext x; simp only [upd]
  by_cases h1 : x = a
  · subst h1; simp [Ne.symm hb]
  · by_cases h2 : x = b
    · subst h2; simp [h1]
    · simp [h1, h2]
theorem upd2 {ν ρ : Mem} {o' : Obj} (h1 : upd μ a o = ν) (h2 : upd ν b o' = ρ) : upd (upd μ a o) b o' = ρ := by subst h1; exact h2
theorem upd_list {ty : FieldType} {vs vs' : List Value} {ν : Mem} (h : vs = vs') (e : upd μ a (.inr (ty, vs')) = ν) : upd μ a (.inr (ty, vs)) = ν := by subst h; exact e
end MemFacts
def sl (Z : State) (q : Key × Value) : Nat := RoadKit.slotOf Z q.1.1 q.1.2.1 q.1.2.2
def IsO (Z : State) (h : Heap) (a : Addr) (C : String) (fs : List (Key × Value)) : Prop :=
  Exa Z h a C ∧ (∀ q ∈ fs, Fld Z h a q.1.1 q.1.2.1 q.1.2.2 q.2) ∧ fs.Pairwise fun q r => sl Z q ≠ sl Z r
def IsA (Z : State) (n0 : Nat) (h : Heap) (a : Addr) (ty : FieldType) (vs : List Value) : Prop :=
  ∃ c : Cell, Arr Z h a c ty ∧ c.slots.toList = vs ∧ vs.length < 2 ^ 31 ∧ (∀ v ∈ vs, fits ty v = true) ∧ (n0 ≤ a → ∀ C, ty = .object C → Ovr Z c.cls C)
def Is (Z : State) (n0 : Nat) (h : Heap) (a : Addr) : Obj → Prop
  | .inl q => IsO Z h a q.1 q.2
  | .inr q => IsA Z n0 h a q.1 q.2
def Hp (Z : State) (n0 : Nat) (μ : Mem) (h : Heap) : Prop := Old Z n0 h ∧ ∀ a o, μ a = some o → Is Z n0 h a o
section HpFacts
variable {Z : State} {n0 : Nat} {μ : Mem} {h h' : Heap} {a b : Addr} {o : Obj} {sl' : Nat} {v : Value}
theorem Is.lt (H : Is Z n0 h a o) : a < h.size := by
  rcases o with q | q
  · exact H.1.lt
  · obtain ⟨c, A, -⟩ := H; exact A.lt
theorem Is.ext (H : Is Z n0 h a o) (E : Ext h h') : Is Z n0 h' a o := by
  rcases o with q | q
  · exact ⟨H.1.ext E, fun r hr => (H.2.1 r hr).ext E, H.2.2⟩
  · obtain ⟨c, A, r⟩ := H; exact ⟨c, A.ext E, r⟩
theorem Is.other (H : Is Z n0 h b o) (W : Wr h h' a sl' v) (q : b ≠ a) : Is Z n0 h' b o := by
  rcases o with r | r
  · exact ⟨H.1.wr W, fun r hr => (H.2.1 r hr).other W (Or.inl q), H.2.2⟩
  · obtain ⟨c, A, r⟩ := H; exact ⟨c, A.other W q, r⟩
theorem Hp.ext (H : Hp Z n0 μ h) (E : Ext h h') : Hp Z n0 μ h' := ⟨H.1.ext E, fun a o q => (H.2 a o q).ext E⟩
theorem Hp.ge (H : Hp Z n0 μ h) : n0 ≤ h.size := H.1.1 ▸ H.1.2.1
theorem Hp.fresh (H : Hp Z n0 μ h) : ∀ b o, μ b = some o → b ≠ h.size := fun b o q => Nat.ne_of_lt (H.2 b o q).lt
theorem Hp.set (H : Hp Z n0 μ h') (I : Is Z n0 h' a o) : Hp Z n0 (upd μ a o) h' := ⟨H.1, fun b o' q => by
  by_cases e : b = a
  · subst e; rw [upd_same] at q; cases q; exact I
  · rw [upd_ne e] at q; exact H.2 b o' q⟩
theorem Hp.wr (H : Hp Z n0 μ h) (W : Wr h h' a sl' v) (g : n0 ≤ a) (I : Is Z n0 h' a o) : Hp Z n0 (upd μ a o) h' := ⟨H.1.wr W g, fun b o' q => by
  by_cases e : b = a
  · subst e; rw [upd_same] at q; cases q; exact I
  · rw [upd_ne e] at q; exact (H.2 b o' q).other W e⟩
theorem IsO.put {C : String} {fs fs' : List (Key × Value)} {k : Key} {i : Nat} {w : Value} (H : IsO Z h a C fs) (hi : fs[i]? = some (k, w)) (W : Wr h h' a (RoadKit.slotOf Z k.1 k.2.1 k.2.2) v) (e : fs.set i (k, v) = fs') : IsO Z h' a C fs' := by
  subst e
  obtain ⟨hlt, hk⟩ := List.getElem?_eq_some_iff.mp hi
  have F0 := H.2.1 _ (List.mem_of_getElem? hi)
  have hp := List.pairwise_iff_getElem.mp H.2.2
  refine ⟨H.1.wr W, fun q hq => ?_, ?_⟩
  · obtain ⟨j, hj, rfl⟩ := List.mem_iff_getElem.mp hq
    rw [List.length_set] at hj
    by_cases e : i = j
    · subst e; rw [List.getElem_set_self]; exact F0.same W
    · rw [List.getElem_set_ne e]
      refine (H.2.1 _ (List.getElem_mem hj)).other W (Or.inr ?_)
      have e0 : sl Z fs[i] = RoadKit.slotOf Z k.1 k.2.1 k.2.2 := by rw [hk]; rfl
      rcases Nat.lt_or_gt_of_ne e with q | q
      · have := hp i j hlt hj q; rw [e0] at this; exact fun z => this z.symm
      · have := hp j i hj hlt q; rw [e0] at this; exact this
  · rw [List.pairwise_iff_getElem]
    intro x y hx hy hxy
    rw [List.length_set] at hx hy
    have key : ∀ z (hz : z < (fs.set i (k, v)).length) (hz' : z < fs.length), sl Z (fs.set i (k, v))[z] = sl Z fs[z] := fun z hz hz' => by
      by_cases e : i = z
      · subst e; rw [List.getElem_set_self, hk]; rfl
      · rw [List.getElem_set_ne e]
    rw [key x _ hx, key y _ hy]
    exact hp x y hx hy hxy
theorem IsA.put {ty : FieldType} {vs : List Value} {j : Nat} (H : IsA Z n0 h a ty vs) (hv : fits ty v = true) (W : Wr h h' a j v) : IsA Z n0 h' a ty (vs.set j v) := by
  obtain ⟨c, A, rfl, hl, hf, ho⟩ := H
  refine ⟨_, A.same W, by simp [Cell.setSlot], by simpa using hl, fun w hw => ?_, ho⟩
  rcases List.mem_or_eq_of_mem_set hw with q | q
  · exact hf w q
  · subst q; exact hv
end HpFacts
/-- what is left to show from the frame g on -/
def Go (p : Program) (l : Launch) (e : Env) (R : Room) (s : State) (m : MethodId) (args : Array Value) (below : List Frame) (meth : Method) (c : Code) (Z : State) (n0 : Nat) (P : Option Value → Mem → Prop) (kc ks : Nat) (μ : Mem) (k n : Nat) (g : JFrame) : Prop :=
  ∀ T locs, Stand p l e R s m args below meth c T locs k n → Fr n0 locs → Hp Z n0 μ T.heap →
    ∃ s₂ o, Steps p.tables e below (T.setTop g) s₂ ∧ s₂.status = .running ∧ Ended s₂ below o ∧ ∃ v L, o = .returned v ∧ (Fr n0 L ∧ ∃ μ', Hp Z n0 μ' s₂.heap ∧ P v μ') ∧ FrameEnd s o s₂ L kc ks
/-- what stands fast while a body is walked -/
def Ctx (p : Program) (s : State) (m : MethodId) (meth : Method) (c : Code) (Z : State) (own nm : String) (B : ByteArray) (ml : Nat) (rt : Option FieldType) : Prop :=
  p.tables.exec = Jvm.exec ∧ c.code = B ∧ c.maxLocals = ml ∧ Z.Warmed39 s.vm ∧ s.vm.findClass own = some m.cls ∧ meth.sig.returnType = rt ∧ meth.locks = false ∧ meth.name = nm
/-- a body's contract -/
def Con (l : Launch) (Z : State) (n0 : Nat) (y : MethodName) (B : ByteArray) (ml : Nat) (rt : Option FieldType) (ws : List Cond) (rm : Room) (kc ks : Nat) (as : Array Value) (μ : Mem) (P : Option Value → Mem → Prop) : Prop :=
  ∀ h0, Hp Z n0 μ h0 → MetFree l y (head1 (Cond.code y B ml rt :: ws) rm) (fun a U => a = as ∧ Z.Warmed39 U.vm ∧ U.heap = h0) (fun _ _ _ _ _ => True)
    (fun _ U o U' => ∃ v L, o = .returned v ∧ (Fr n0 L ∧ ∃ μ', Hp Z n0 μ' U'.heap ∧ P v μ') ∧ FrameEnd U o U' L kc ks)
section Rules
variable {p : Program} {l : Launch} {e : Env} {R : Room} {s : State} {m : MethodId} {args : Array Value} {below : List Frame} {meth : Method} {c : Code} {Z : State} {a0 : Array Value} {n0 : Nat} {P : Option Value → Mem → Prop} {kc ks : Nat} {μ : Mem} {k n : Nat}
  {own nm : String} {B : ByteArray} {ml : Nat} {rt : Option FieldType} {pc q : Nat} {L L' : Array Slot} {st : List Value} {y : MethodName} {ws : List Cond} {rm : Room} {as : Array Value}
theorem Con.intro {L0 : Array Slot} (hx : plainFor y = true) (hef : ∀ m, entryFrame m as ml = mkF m 0 L0 [])
    (body : ∀ (p : Program) (e : Env) (s : State) (m : MethodId) (below : List Frame) (meth : Method) (c : Code), Ctx p s m meth c Z y.cls y.name B ml rt → Go p l e rm s m as below meth c Z n0 P kc ks μ 0 0 (mkF m 0 L0 [])) : Con l Z n0 y B ml rt ws rm kc ks as μ P := by
  intro h0 H0
  refine MetFree.of_bodySF hx hisR ?_
  intro p e s m args below meth c s₁ Bd hml hP hK
  obtain ⟨rfl, hZ, hh⟩ := hP
  have X0 : Stand p l e rm s m args below meth c s₁ [] 0 0 := Stand.of_body Bd
  have e0 : s₁.heap = h0 := by rw [← hh, Bd.state]; rfl
  obtain ⟨s2, o, g1, g2, g3, g4⟩ := body p e s m below meth c ⟨Bd.exec, Bd.bytes, hml, hZ, findClass_of_methodNamed Bd.named, Bd.returns, Bd.notSynchronized, (name_of_methodNamed Bd.named Bd.method).1⟩ s₁ [] X0 (Fr.nil n0) (by rw [e0]; exact H0)
  exact ⟨s2, o, castTop (hef m) g1, g2, g3, g4⟩
theorem Go.pure {g g' : JFrame} (K : Go p l e R s m args below meth c Z n0 P kc ks μ k n g') (st : ∀ T, At T m c below → ∀ target, Steps p.tables e below (T.setTop g') target → Steps p.tables e below (T.setTop g) target) : Go p l e R s m args below meth c Z n0 P kc ks μ k n g := fun T locs X F H => by
  obtain ⟨s2, o, h1, h2⟩ := K T locs X F H
  exact ⟨s2, o, st T X.here _ h1, h2⟩
theorem Go.stand {g g' : JFrame} (K : Go p l e R s m args below meth c Z n0 P kc ks μ k n g') (st : ∀ T locs, Stand p l e R s m args below meth c T locs k n → Hp Z n0 μ T.heap → ∃ T', Stand p l e R s m args below meth c T' locs k n ∧ T'.heap = T.heap ∧ ∀ target, Steps p.tables e below (T'.setTop g') target → Steps p.tables e below (T.setTop g) target) : Go p l e R s m args below meth c Z n0 P kc ks μ k n g := fun T locs X F H => by
  obtain ⟨T', X', e', h⟩ := st T locs X H
  obtain ⟨s2, o, h1, h2⟩ := K T' locs X' F (by rw [e']; exact H)
  exact ⟨s2, o, h _ h1, h2⟩
theorem iadd (C : Ctx p s m meth c Z own nm B ml rt) {x y : Int32} (hd : decode B pc = .ok (.iadd, 1)) (hq : pc + 1 = q) (k' : ∀ z : Int32, z = x + y → Go p l e R s m args below meth c Z n0 P kc ks μ k n (mkF m q L (.int z :: st))) : Go p l e R s m args below meth c Z n0 P kc ks μ k n (mkF m pc L (.int y :: .int x :: st)) := by
  subst hq
  exact Go.pure (k' _ rfl) fun T h t hr => XS.iadd h C.1 rfl (hb C.2.1 hd) rfl hr
theorem isub (C : Ctx p s m meth c Z own nm B ml rt) {x y : Int32} (hd : decode B pc = .ok (.isub, 1)) (hq : pc + 1 = q) (k' : ∀ z : Int32, z = x - y → Go p l e R s m args below meth c Z n0 P kc ks μ k n (mkF m q L (.int z :: st))) : Go p l e R s m args below meth c Z n0 P kc ks μ k n (mkF m pc L (.int y :: .int x :: st)) := by
  subst hq
  exact Go.pure (k' _ rfl) fun T h t hr => XS.isub h C.1 rfl (hb C.2.1 hd) rfl hr
theorem imul (C : Ctx p s m meth c Z own nm B ml rt) {x y : Int32} (hd : decode B pc = .ok (.imul, 1)) (hq : pc + 1 = q) (k' : ∀ z : Int32, z = x * y → Go p l e R s m args below meth c Z n0 P kc ks μ k n (mkF m q L (.int z :: st))) : Go p l e R s m args below meth c Z n0 P kc ks μ k n (mkF m pc L (.int y :: .int x :: st)) := by
  subst hq
  exact Go.pure (k' _ rfl) fun T h t hr => XS.imul h C.1 rfl (hb C.2.1 hd) rfl hr
theorem iand (C : Ctx p s m meth c Z own nm B ml rt) {x y : Int32} (hd : decode B pc = .ok (.iand, 1)) (hq : pc + 1 = q) (k' : ∀ z : Int32, z = x &&& y → Go p l e R s m args below meth c Z n0 P kc ks μ k n (mkF m q L (.int z :: st))) : Go p l e R s m args below meth c Z n0 P kc ks μ k n (mkF m pc L (.int y :: .int x :: st)) := by
  subst hq
  exact Go.pure (k' _ rfl) fun T h t hr => XS.iand h C.1 rfl (hb C.2.1 hd) rfl hr
theorem ior (C : Ctx p s m meth c Z own nm B ml rt) {x y : Int32} (hd : decode B pc = .ok (.ior, 1)) (hq : pc + 1 = q) (k' : ∀ z : Int32, z = x ||| y → Go p l e R s m args below meth c Z n0 P kc ks μ k n (mkF m q L (.int z :: st))) : Go p l e R s m args below meth c Z n0 P kc ks μ k n (mkF m pc L (.int y :: .int x :: st)) := by
  subst hq
  exact Go.pure (k' _ rfl) fun T h t hr => XS.ior h C.1 rfl (hb C.2.1 hd) rfl hr
theorem ixor (C : Ctx p s m meth c Z own nm B ml rt) {x y : Int32} (hd : decode B pc = .ok (.ixor, 1)) (hq : pc + 1 = q) (k' : ∀ z : Int32, z = x ^^^ y → Go p l e R s m args below meth c Z n0 P kc ks μ k n (mkF m q L (.int z :: st))) : Go p l e R s m args below meth c Z n0 P kc ks μ k n (mkF m pc L (.int y :: .int x :: st)) := by
  subst hq
  exact Go.pure (k' _ rfl) fun T h t hr => XS.ixor h C.1 rfl (hb C.2.1 hd) rfl hr
theorem ladd (C : Ctx p s m meth c Z own nm B ml rt) {x y : Int64} (hd : decode B pc = .ok (.ladd, 1)) (hq : pc + 1 = q) (k' : ∀ z : Int64, z = x + y → Go p l e R s m args below meth c Z n0 P kc ks μ k n (mkF m q L (.long z :: st))) : Go p l e R s m args below meth c Z n0 P kc ks μ k n (mkF m pc L (.long y :: .long x :: st)) := by
  subst hq
  exact Go.pure (k' _ rfl) fun T h t hr => XS.ladd h C.1 rfl (hb C.2.1 hd) rfl hr
theorem lsub (C : Ctx p s m meth c Z own nm B ml rt) {x y : Int64} (hd : decode B pc = .ok (.lsub, 1)) (hq : pc + 1 = q) (k' : ∀ z : Int64, z = x - y → Go p l e R s m args below meth c Z n0 P kc ks μ k n (mkF m q L (.long z :: st))) : Go p l e R s m args below meth c Z n0 P kc ks μ k n (mkF m pc L (.long y :: .long x :: st)) := by
  subst hq
  exact Go.pure (k' _ rfl) fun T h t hr => XS.lsub h C.1 rfl (hb C.2.1 hd) rfl hr
theorem lmul (C : Ctx p s m meth c Z own nm B ml rt) {x y : Int64} (hd : decode B pc = .ok (.lmul, 1)) (hq : pc + 1 = q) (k' : ∀ z : Int64, z = x * y → Go p l e R s m args below meth c Z n0 P kc ks μ k n (mkF m q L (.long z :: st))) : Go p l e R s m args below meth c Z n0 P kc ks μ k n (mkF m pc L (.long y :: .long x :: st)) := by
  subst hq
  exact Go.pure (k' _ rfl) fun T h t hr => XS.lmul h C.1 rfl (hb C.2.1 hd) rfl hr
theorem land (C : Ctx p s m meth c Z own nm B ml rt) {x y : Int64} (hd : decode B pc = .ok (.land, 1)) (hq : pc + 1 = q) (k' : ∀ z : Int64, z = x &&& y → Go p l e R s m args below meth c Z n0 P kc ks μ k n (mkF m q L (.long z :: st))) : Go p l e R s m args below meth c Z n0 P kc ks μ k n (mkF m pc L (.long y :: .long x :: st)) := by
  subst hq
  exact Go.pure (k' _ rfl) fun T h t hr => XS.land h C.1 rfl (hb C.2.1 hd) rfl hr
theorem lor (C : Ctx p s m meth c Z own nm B ml rt) {x y : Int64} (hd : decode B pc = .ok (.lor, 1)) (hq : pc + 1 = q) (k' : ∀ z : Int64, z = x ||| y → Go p l e R s m args below meth c Z n0 P kc ks μ k n (mkF m q L (.long z :: st))) : Go p l e R s m args below meth c Z n0 P kc ks μ k n (mkF m pc L (.long y :: .long x :: st)) := by
  subst hq
  exact Go.pure (k' _ rfl) fun T h t hr => XS.lor h C.1 rfl (hb C.2.1 hd) rfl hr
theorem lxor (C : Ctx p s m meth c Z own nm B ml rt) {x y : Int64} (hd : decode B pc = .ok (.lxor, 1)) (hq : pc + 1 = q) (k' : ∀ z : Int64, z = x ^^^ y → Go p l e R s m args below meth c Z n0 P kc ks μ k n (mkF m q L (.long z :: st))) : Go p l e R s m args below meth c Z n0 P kc ks μ k n (mkF m pc L (.long y :: .long x :: st)) := by
  subst hq
  exact Go.pure (k' _ rfl) fun T h t hr => XS.lxor h C.1 rfl (hb C.2.1 hd) rfl hr
theorem ishl (C : Ctx p s m meth c Z own nm B ml rt) {x y : Int32} (hd : decode B pc = .ok (.ishl, 1)) (hq : pc + 1 = q) (k' : ∀ z : Int32, z = x <<< (y &&& 31) → Go p l e R s m args below meth c Z n0 P kc ks μ k n (mkF m q L (.int z :: st))) : Go p l e R s m args below meth c Z n0 P kc ks μ k n (mkF m pc L (.int y :: .int x :: st)) := by
  subst hq
  exact Go.pure (k' _ rfl) fun T h t hr => XS.ishl h C.1 rfl (hb C.2.1 hd) rfl hr
theorem ishr (C : Ctx p s m meth c Z own nm B ml rt) {x y : Int32} (hd : decode B pc = .ok (.ishr, 1)) (hq : pc + 1 = q) (k' : ∀ z : Int32, z = x >>> (y &&& 31) → Go p l e R s m args below meth c Z n0 P kc ks μ k n (mkF m q L (.int z :: st))) : Go p l e R s m args below meth c Z n0 P kc ks μ k n (mkF m pc L (.int y :: .int x :: st)) := by
  subst hq
  exact Go.pure (k' _ rfl) fun T h t hr => XS.ishr h C.1 rfl (hb C.2.1 hd) rfl hr
theorem iushr (C : Ctx p s m meth c Z own nm B ml rt) {x y : Int32} (hd : decode B pc = .ok (.iushr, 1)) (hq : pc + 1 = q) (k' : ∀ z : Int32, z = (x.toUInt32 >>> (y &&& 31).toUInt32).toInt32 → Go p l e R s m args below meth c Z n0 P kc ks μ k n (mkF m q L (.int z :: st))) : Go p l e R s m args below meth c Z n0 P kc ks μ k n (mkF m pc L (.int y :: .int x :: st)) := by
  subst hq
  exact Go.pure (k' _ rfl) fun T h t hr => XS.iushr h C.1 rfl (hb C.2.1 hd) rfl hr
theorem lshl (C : Ctx p s m meth c Z own nm B ml rt) {x : Int64} {y : Int32} (hd : decode B pc = .ok (.lshl, 1)) (hq : pc + 1 = q) (k' : ∀ z : Int64, z = x <<< (y &&& 0x3f).toInt64 → Go p l e R s m args below meth c Z n0 P kc ks μ k n (mkF m q L (.long z :: st))) : Go p l e R s m args below meth c Z n0 P kc ks μ k n (mkF m pc L (.int y :: .long x :: st)) := by
  subst hq
  exact Go.pure (k' _ rfl) fun T h t hr => XS.lshl h C.1 rfl (hb C.2.1 hd) rfl hr
theorem lshr (C : Ctx p s m meth c Z own nm B ml rt) {x : Int64} {y : Int32} (hd : decode B pc = .ok (.lshr, 1)) (hq : pc + 1 = q) (k' : ∀ z : Int64, z = x >>> (y &&& 0x3f).toInt64 → Go p l e R s m args below meth c Z n0 P kc ks μ k n (mkF m q L (.long z :: st))) : Go p l e R s m args below meth c Z n0 P kc ks μ k n (mkF m pc L (.int y :: .long x :: st)) := by
  subst hq
  exact Go.pure (k' _ rfl) fun T h t hr => XS.lshr h C.1 rfl (hb C.2.1 hd) rfl hr
theorem lushr (C : Ctx p s m meth c Z own nm B ml rt) {x : Int64} {y : Int32} (hd : decode B pc = .ok (.lushr, 1)) (hq : pc + 1 = q) (k' : ∀ z : Int64, z = (x.toUInt64 >>> (y &&& 0x3f).toInt64.toUInt64).toInt64 → Go p l e R s m args below meth c Z n0 P kc ks μ k n (mkF m q L (.long z :: st))) : Go p l e R s m args below meth c Z n0 P kc ks μ k n (mkF m pc L (.int y :: .long x :: st)) := by
  subst hq
  exact Go.pure (k' _ rfl) fun T h t hr => XS.lushr h C.1 rfl (hb C.2.1 hd) rfl hr
theorem idiv (C : Ctx p s m meth c Z own nm B ml rt) {x y : Int32} (hd : decode B pc = .ok (.idiv, 1)) (hq : pc + 1 = q) (hy : y ≠ 0) (k' : ∀ z : Int32, z = x / y → Go p l e R s m args below meth c Z n0 P kc ks μ k n (mkF m q L (.int z :: st))) : Go p l e R s m args below meth c Z n0 P kc ks μ k n (mkF m pc L (.int y :: .int x :: st)) := by
  subst hq
  exact Go.pure (k' _ rfl) fun T h t hr => XS.idiv h C.1 rfl (hb C.2.1 hd) rfl hy hr
theorem irem (C : Ctx p s m meth c Z own nm B ml rt) {x y : Int32} (hd : decode B pc = .ok (.irem, 1)) (hq : pc + 1 = q) (hy : y ≠ 0) (k' : ∀ z : Int32, z = x % y → Go p l e R s m args below meth c Z n0 P kc ks μ k n (mkF m q L (.int z :: st))) : Go p l e R s m args below meth c Z n0 P kc ks μ k n (mkF m pc L (.int y :: .int x :: st)) := by
  subst hq
  exact Go.pure (k' _ rfl) fun T h t hr => XS.irem h C.1 rfl (hb C.2.1 hd) rfl hy (by rw [irem_eq_mod]; exact hr)
theorem ldiv (C : Ctx p s m meth c Z own nm B ml rt) {x y : Int64} (hd : decode B pc = .ok (.ldiv, 1)) (hq : pc + 1 = q) (hy : y ≠ 0) (k' : ∀ z : Int64, z = x / y → Go p l e R s m args below meth c Z n0 P kc ks μ k n (mkF m q L (.long z :: st))) : Go p l e R s m args below meth c Z n0 P kc ks μ k n (mkF m pc L (.long y :: .long x :: st)) := by
  subst hq
  exact Go.pure (k' _ rfl) fun T h t hr => XS.ldiv h C.1 rfl (hb C.2.1 hd) rfl hy hr
theorem lrem (C : Ctx p s m meth c Z own nm B ml rt) {x y : Int64} (hd : decode B pc = .ok (.lrem, 1)) (hq : pc + 1 = q) (hy : y ≠ 0) (k' : ∀ z : Int64, z = x - (x / y) * y → Go p l e R s m args below meth c Z n0 P kc ks μ k n (mkF m q L (.long z :: st))) : Go p l e R s m args below meth c Z n0 P kc ks μ k n (mkF m pc L (.long y :: .long x :: st)) := by
  subst hq
  exact Go.pure (k' _ rfl) fun T h t hr => XS.lrem h C.1 rfl (hb C.2.1 hd) rfl hy hr
theorem ineg (C : Ctx p s m meth c Z own nm B ml rt) {x : Int32} (hd : decode B pc = .ok (.ineg, 1)) (hq : pc + 1 = q) (k' : ∀ z : Int32, z = -x → Go p l e R s m args below meth c Z n0 P kc ks μ k n (mkF m q L (.int z :: st))) : Go p l e R s m args below meth c Z n0 P kc ks μ k n (mkF m pc L (.int x :: st)) := by
  subst hq
  exact Go.pure (k' _ rfl) fun T h t hr => XS.ineg h C.1 rfl (hb C.2.1 hd) rfl hr
theorem lneg (C : Ctx p s m meth c Z own nm B ml rt) {x : Int64} (hd : decode B pc = .ok (.lneg, 1)) (hq : pc + 1 = q) (k' : ∀ z : Int64, z = -x → Go p l e R s m args below meth c Z n0 P kc ks μ k n (mkF m q L (.long z :: st))) : Go p l e R s m args below meth c Z n0 P kc ks μ k n (mkF m pc L (.long x :: st)) := by
  subst hq
  exact Go.pure (k' _ rfl) fun T h t hr => XS.lneg h C.1 rfl (hb C.2.1 hd) rfl hr
theorem i2l (C : Ctx p s m meth c Z own nm B ml rt) {x : Int32} (hd : decode B pc = .ok (.i2l, 1)) (hq : pc + 1 = q) (k' : ∀ z : Int64, z = x.toInt64 → Go p l e R s m args below meth c Z n0 P kc ks μ k n (mkF m q L (.long z :: st))) : Go p l e R s m args below meth c Z n0 P kc ks μ k n (mkF m pc L (.int x :: st)) := by
  subst hq
  exact Go.pure (k' _ rfl) fun T h t hr => XS.i2l h C.1 rfl (hb C.2.1 hd) rfl hr
theorem l2i (C : Ctx p s m meth c Z own nm B ml rt) {x : Int64} (hd : decode B pc = .ok (.l2i, 1)) (hq : pc + 1 = q) (k' : ∀ z : Int32, z = x.toInt32 → Go p l e R s m args below meth c Z n0 P kc ks μ k n (mkF m q L (.int z :: st))) : Go p l e R s m args below meth c Z n0 P kc ks μ k n (mkF m pc L (.long x :: st)) := by
  subst hq
  exact Go.pure (k' _ rfl) fun T h t hr => XS.l2i h C.1 rfl (hb C.2.1 hd) rfl hr
theorem i2b (C : Ctx p s m meth c Z own nm B ml rt) {x : Int32} (hd : decode B pc = .ok (.i2b, 1)) (hq : pc + 1 = q) (k' : ∀ z : Int32, z = x.toInt8.toInt32 → Go p l e R s m args below meth c Z n0 P kc ks μ k n (mkF m q L (.int z :: st))) : Go p l e R s m args below meth c Z n0 P kc ks μ k n (mkF m pc L (.int x :: st)) := by
  subst hq
  exact Go.pure (k' _ rfl) fun T h t hr => XS.i2b h C.1 rfl (hb C.2.1 hd) rfl hr
theorem i2s (C : Ctx p s m meth c Z own nm B ml rt) {x : Int32} (hd : decode B pc = .ok (.i2s, 1)) (hq : pc + 1 = q) (k' : ∀ z : Int32, z = x.toInt16.toInt32 → Go p l e R s m args below meth c Z n0 P kc ks μ k n (mkF m q L (.int z :: st))) : Go p l e R s m args below meth c Z n0 P kc ks μ k n (mkF m pc L (.int x :: st)) := by
  subst hq
  exact Go.pure (k' _ rfl) fun T h t hr => XS.i2s h C.1 rfl (hb C.2.1 hd) rfl hr
theorem i2c (C : Ctx p s m meth c Z own nm B ml rt) {x : Int32} (hd : decode B pc = .ok (.i2c, 1)) (hq : pc + 1 = q) (k' : ∀ z : Int32, z = x.toUInt32.toUInt16.toUInt32.toInt32 → Go p l e R s m args below meth c Z n0 P kc ks μ k n (mkF m q L (.int z :: st))) : Go p l e R s m args below meth c Z n0 P kc ks μ k n (mkF m pc L (.int x :: st)) := by
  subst hq
  exact Go.pure (k' _ rfl) fun T h t hr => XS.i2c h C.1 rfl (hb C.2.1 hd) rfl hr
theorem iloadN (C : Ctx p s m meth c Z own nm B ml rt) {i : Fin 4} {v : Int32} (hd : decode B pc = .ok (.iload_n i, 1)) (hq : pc + 1 = q) (hl : L[i.val]? = some (.val (.int v))) (k' : Go p l e R s m args below meth c Z n0 P kc ks μ k n (mkF m q L (.int v :: st))) : Go p l e R s m args below meth c Z n0 P kc ks μ k n (mkF m pc L st) := by
  subst hq
  exact Go.pure k' fun T h t hr => XS.iloadN h C.1 rfl (hb C.2.1 hd) hl hr
theorem iload (C : Ctx p s m meth c Z own nm B ml rt) {i : Nat} {v : Int32} (hd : decode B pc = .ok (.iload i, 2)) (hq : pc + 2 = q) (hl : L[i]? = some (.val (.int v))) (k' : Go p l e R s m args below meth c Z n0 P kc ks μ k n (mkF m q L (.int v :: st))) : Go p l e R s m args below meth c Z n0 P kc ks μ k n (mkF m pc L st) := by
  subst hq
  exact Go.pure k' fun T h t hr => XS.iload h C.1 rfl (hb C.2.1 hd) hl hr
theorem istoreN (C : Ctx p s m meth c Z own nm B ml rt) {i : Fin 4} {v : Int32} (hd : decode B pc = .ok (.istore_n i, 1)) (hq : pc + 1 = q) (hl : storeLocals L i.val (.int v) = some L') (k' : Go p l e R s m args below meth c Z n0 P kc ks μ k n (mkF m q L' st)) : Go p l e R s m args below meth c Z n0 P kc ks μ k n (mkF m pc L (.int v :: st)) := by
  subst hq
  exact Go.pure k' fun T h t hr => XS.istoreN h C.1 rfl (hb C.2.1 hd) rfl hl hr
theorem istore (C : Ctx p s m meth c Z own nm B ml rt) {i : Nat} {v : Int32} (hd : decode B pc = .ok (.istore i, 2)) (hq : pc + 2 = q) (hl : storeLocals L i (.int v) = some L') (k' : Go p l e R s m args below meth c Z n0 P kc ks μ k n (mkF m q L' st)) : Go p l e R s m args below meth c Z n0 P kc ks μ k n (mkF m pc L (.int v :: st)) := by
  subst hq
  exact Go.pure k' fun T h t hr => XS.istore h C.1 rfl (hb C.2.1 hd) rfl hl hr
theorem lloadN (C : Ctx p s m meth c Z own nm B ml rt) {i : Fin 4} {v : Int64} (hd : decode B pc = .ok (.lload_n i, 1)) (hq : pc + 1 = q) (hl : L[i.val]? = some (.val (.long v))) (k' : Go p l e R s m args below meth c Z n0 P kc ks μ k n (mkF m q L (.long v :: st))) : Go p l e R s m args below meth c Z n0 P kc ks μ k n (mkF m pc L st) := by
  subst hq
  exact Go.pure k' fun T h t hr => XS.lloadN h C.1 rfl (hb C.2.1 hd) hl hr
theorem lload (C : Ctx p s m meth c Z own nm B ml rt) {i : Nat} {v : Int64} (hd : decode B pc = .ok (.lload i, 2)) (hq : pc + 2 = q) (hl : L[i]? = some (.val (.long v))) (k' : Go p l e R s m args below meth c Z n0 P kc ks μ k n (mkF m q L (.long v :: st))) : Go p l e R s m args below meth c Z n0 P kc ks μ k n (mkF m pc L st) := by
  subst hq
  exact Go.pure k' fun T h t hr => XS.lload h C.1 rfl (hb C.2.1 hd) hl hr
theorem lstoreN (C : Ctx p s m meth c Z own nm B ml rt) {i : Fin 4} {v : Int64} (hd : decode B pc = .ok (.lstore_n i, 1)) (hq : pc + 1 = q) (hl : storeLocals L i.val (.long v) = some L') (k' : Go p l e R s m args below meth c Z n0 P kc ks μ k n (mkF m q L' st)) : Go p l e R s m args below meth c Z n0 P kc ks μ k n (mkF m pc L (.long v :: st)) := by
  subst hq
  exact Go.pure k' fun T h t hr => XS.lstoreN h C.1 rfl (hb C.2.1 hd) rfl hl hr
theorem lstore (C : Ctx p s m meth c Z own nm B ml rt) {i : Nat} {v : Int64} (hd : decode B pc = .ok (.lstore i, 2)) (hq : pc + 2 = q) (hl : storeLocals L i (.long v) = some L') (k' : Go p l e R s m args below meth c Z n0 P kc ks μ k n (mkF m q L' st)) : Go p l e R s m args below meth c Z n0 P kc ks μ k n (mkF m pc L (.long v :: st)) := by
  subst hq
  exact Go.pure k' fun T h t hr => XS.lstore h C.1 rfl (hb C.2.1 hd) rfl hl hr
theorem aloadN (C : Ctx p s m meth c Z own nm B ml rt) {i : Fin 4} {v : Value} (hd : decode B pc = .ok (.aload_n i, 1)) (hq : pc + 1 = q) (hl : L[i.val]? = some (.val v)) (hv : v.isRef = true) (k' : Go p l e R s m args below meth c Z n0 P kc ks μ k n (mkF m q L (v :: st))) : Go p l e R s m args below meth c Z n0 P kc ks μ k n (mkF m pc L st) := by
  subst hq
  exact Go.pure k' fun T h t hr => XS.aloadN h C.1 rfl (hb C.2.1 hd) hl hv hr
theorem aload (C : Ctx p s m meth c Z own nm B ml rt) {i : Nat} {v : Value} (hd : decode B pc = .ok (.aload i, 2)) (hq : pc + 2 = q) (hl : L[i]? = some (.val v)) (hv : v.isRef = true) (k' : Go p l e R s m args below meth c Z n0 P kc ks μ k n (mkF m q L (v :: st))) : Go p l e R s m args below meth c Z n0 P kc ks μ k n (mkF m pc L st) := by
  subst hq
  exact Go.pure k' fun T h t hr => XS.aload h C.1 rfl (hb C.2.1 hd) hl hv hr
theorem astoreN (C : Ctx p s m meth c Z own nm B ml rt) {i : Fin 4} {v : Value} (hd : decode B pc = .ok (.astore_n i, 1)) (hq : pc + 1 = q) (hl : storeLocals L i.val v = some L') (hv : v.isRef = true) (k' : Go p l e R s m args below meth c Z n0 P kc ks μ k n (mkF m q L' st)) : Go p l e R s m args below meth c Z n0 P kc ks μ k n (mkF m pc L (v :: st)) := by
  subst hq
  exact Go.pure k' fun T h t hr => XS.astoreN h C.1 rfl (hb C.2.1 hd) rfl hv hl hr
theorem astore (C : Ctx p s m meth c Z own nm B ml rt) {i : Nat} {v : Value} (hd : decode B pc = .ok (.astore i, 2)) (hq : pc + 2 = q) (hl : storeLocals L i v = some L') (hv : v.isRef = true) (k' : Go p l e R s m args below meth c Z n0 P kc ks μ k n (mkF m q L' st)) : Go p l e R s m args below meth c Z n0 P kc ks μ k n (mkF m pc L (v :: st)) := by
  subst hq
  exact Go.pure k' fun T h t hr => XS.astore h C.1 rfl (hb C.2.1 hd) rfl hv hl hr
theorem iconst (C : Ctx p s m meth c Z own nm B ml rt) {i : Int} {z : Int32} (hd : decode B pc = .ok (.iconst i, 1)) (hq : pc + 1 = q) (hz : Int32.ofInt i = z) (k' : Go p l e R s m args below meth c Z n0 P kc ks μ k n (mkF m q L (.int z :: st))) : Go p l e R s m args below meth c Z n0 P kc ks μ k n (mkF m pc L st) := by
  subst hq
  exact Go.pure k' fun T h t hr => XS.iconst h C.1 rfl (hb C.2.1 hd) (by rw [hz]; exact hr)
theorem bipush (C : Ctx p s m meth c Z own nm B ml rt) {i : Int} {z : Int32} (hd : decode B pc = .ok (.bipush i, 2)) (hq : pc + 2 = q) (hz : (Int8.ofInt i).toInt32 = z) (k' : Go p l e R s m args below meth c Z n0 P kc ks μ k n (mkF m q L (.int z :: st))) : Go p l e R s m args below meth c Z n0 P kc ks μ k n (mkF m pc L st) := by
  subst hq
  exact Go.pure k' fun T h t hr => XS.bipush h C.1 rfl (hb C.2.1 hd) (by rw [hz]; exact hr)
theorem sipush (C : Ctx p s m meth c Z own nm B ml rt) {i : Int} {z : Int32} (hd : decode B pc = .ok (.sipush i, 3)) (hq : pc + 3 = q) (hz : (Int16.ofInt i).toInt32 = z) (k' : Go p l e R s m args below meth c Z n0 P kc ks μ k n (mkF m q L (.int z :: st))) : Go p l e R s m args below meth c Z n0 P kc ks μ k n (mkF m pc L st) := by
  subst hq
  exact Go.pure k' fun T h t hr => XS.sipush h C.1 rfl (hb C.2.1 hd) (by rw [hz]; exact hr)
theorem lconst (C : Ctx p s m meth c Z own nm B ml rt) {i : Fin 2} {z : Int64} (hd : decode B pc = .ok (.lconst i, 1)) (hq : pc + 1 = q) (hz : Int64.ofNat i = z) (k' : Go p l e R s m args below meth c Z n0 P kc ks μ k n (mkF m q L (.long z :: st))) : Go p l e R s m args below meth c Z n0 P kc ks μ k n (mkF m pc L st) := by
  subst hq
  exact Go.pure k' fun T h t hr => XS.lconst h C.1 rfl (hb C.2.1 hd) (by rw [hz]; exact hr)
theorem aconstNull (C : Ctx p s m meth c Z own nm B ml rt)  (hd : decode B pc = .ok (.aconst_null, 1)) (hq : pc + 1 = q) (k' : Go p l e R s m args below meth c Z n0 P kc ks μ k n (mkF m q L (.null :: st))) : Go p l e R s m args below meth c Z n0 P kc ks μ k n (mkF m pc L st) := by
  subst hq
  exact Go.pure k' fun T h t hr => XS.aconstNull h C.1 rfl (hb C.2.1 hd) hr
theorem dup (C : Ctx p s m meth c Z own nm B ml rt) {v : Value} (hd : decode B pc = .ok (.dup, 1)) (hq : pc + 1 = q) (hv : v.category = 1) (k' : Go p l e R s m args below meth c Z n0 P kc ks μ k n (mkF m q L (v :: v :: st))) : Go p l e R s m args below meth c Z n0 P kc ks μ k n (mkF m pc L (v :: st)) := by
  subst hq
  exact Go.pure k' fun T h t hr => XS.dup h C.1 rfl (hb C.2.1 hd) rfl hv hr
theorem pop (C : Ctx p s m meth c Z own nm B ml rt) {v : Value} (hd : decode B pc = .ok (.pop, 1)) (hq : pc + 1 = q) (hv : v.category = 1) (k' : Go p l e R s m args below meth c Z n0 P kc ks μ k n (mkF m q L st)) : Go p l e R s m args below meth c Z n0 P kc ks μ k n (mkF m pc L (v :: st)) := by
  subst hq
  exact Go.pure k' fun T h t hr => XS.pop h C.1 rfl (hb C.2.1 hd) rfl hv hr
theorem dupX1 (C : Ctx p s m meth c Z own nm B ml rt) {v w : Value} (hd : decode B pc = .ok (.dup_x1, 1)) (hq : pc + 1 = q) (hv : v.category = 1) (hw : w.category = 1) (k' : Go p l e R s m args below meth c Z n0 P kc ks μ k n (mkF m q L (v :: w :: v :: st))) : Go p l e R s m args below meth c Z n0 P kc ks μ k n (mkF m pc L (v :: w :: st)) := by
  subst hq
  exact Go.pure k' fun T h t hr => XS.dupX1 h C.1 rfl (hb C.2.1 hd) rfl hv hw hr
theorem dup2 (C : Ctx p s m meth c Z own nm B ml rt) {v w : Value} (hd : decode B pc = .ok (.dup2, 1)) (hq : pc + 1 = q) (hv : v.category = 1) (hw : w.category = 1) (k' : Go p l e R s m args below meth c Z n0 P kc ks μ k n (mkF m q L (v :: w :: v :: w :: st))) : Go p l e R s m args below meth c Z n0 P kc ks μ k n (mkF m pc L (v :: w :: st)) := by
  subst hq
  exact Go.pure k' fun T h t hr => XT.dup2 h C.1 rfl (hb C.2.1 hd) rfl hv hw hr
theorem dup2L (C : Ctx p s m meth c Z own nm B ml rt) {x : Int64} (hd : decode B pc = .ok (.dup2, 1)) (hq : pc + 1 = q) (k' : Go p l e R s m args below meth c Z n0 P kc ks μ k n (mkF m q L (.long x :: .long x :: st))) : Go p l e R s m args below meth c Z n0 P kc ks μ k n (mkF m pc L (.long x :: st)) := by
  subst hq
  exact Go.pure k' fun T h t hr => XT.dup2L h C.1 rfl (hb C.2.1 hd) rfl hr
theorem iinc (C : Ctx p s m meth c Z own nm B ml rt) {i : Nat} {d : Int} {x z : Int32} (hd : decode B pc = .ok (.iinc i d, 3)) (hq : pc + 3 = q) (hl : L[i]? = some (.val (.int x))) (hz : x + Int32.ofInt d = z) (hl' : storeLocals L i (.int z) = some L') (k' : Go p l e R s m args below meth c Z n0 P kc ks μ k n (mkF m q L' st)) : Go p l e R s m args below meth c Z n0 P kc ks μ k n (mkF m pc L st) := by
  subst hq
  exact Go.pure k' fun T h t hr => XS.iinc h C.1 rfl (hb C.2.1 hd) hl (by rw [hz]; exact hl') hr
theorem goto (C : Ctx p s m meth c Z own nm B ml rt) {o : Int} (hd : decode B pc = .ok (.goto o, 3)) (hq : 0 ≤ (pc : Int) + o ∧ ((pc : Int) + o).toNat = q) (k' : Go p l e R s m args below meth c Z n0 P kc ks μ k n (mkF m q L st)) : Go p l e R s m args below meth c Z n0 P kc ks μ k n (mkF m pc L st) := Go.pure k' fun T h t hr => XS.goto h C.1 rfl rfl (hb C.2.1 hd) hq.1 hq.2 hr
theorem icmp_eq (C : Ctx p s m meth c Z own nm B ml rt) {x y : Int32} {o : Int} {r : Nat} (hd : decode B pc = .ok (.if_icmp .eq o, 3)) (hq : pc + 3 = q) (hr : 0 ≤ (pc : Int) + o ∧ ((pc : Int) + o).toNat = r) (ky : x = y → Go p l e R s m args below meth c Z n0 P kc ks μ k n (mkF m r L st)) (kn : ¬ x = y → Go p l e R s m args below meth c Z n0 P kc ks μ k n (mkF m q L st)) : Go p l e R s m args below meth c Z n0 P kc ks μ k n (mkF m pc L (.int y :: .int x :: st)) := by
  subst hq
  by_cases hc : x = y
  · exact Go.pure (ky hc) fun T h t k => XS.icmpYes h C.1 rfl rfl (hb C.2.1 hd) rfl (XT.ii_eq_t hc) hr.1 hr.2 k
  · exact Go.pure (kn (by first | exact hc | exact Decidable.of_not_not hc)) fun T h t k => XS.icmpNo h C.1 rfl (hb C.2.1 hd) rfl (XT.ii_eq_f (by first | exact hc | exact Decidable.of_not_not hc)) k
theorem if_eq (C : Ctx p s m meth c Z own nm B ml rt) {x : Int32} {o : Int} {r : Nat} (hd : decode B pc = .ok (.ifCond .eq o, 3)) (hq : pc + 3 = q) (hr : 0 ≤ (pc : Int) + o ∧ ((pc : Int) + o).toNat = r) (ky : x = 0 → Go p l e R s m args below meth c Z n0 P kc ks μ k n (mkF m r L st)) (kn : ¬ x = 0 → Go p l e R s m args below meth c Z n0 P kc ks μ k n (mkF m q L st)) : Go p l e R s m args below meth c Z n0 P kc ks μ k n (mkF m pc L (.int x :: st)) := by
  subst hq
  by_cases hc : x = 0
  · exact Go.pure (ky hc) fun T h t k => XS.ifYes h C.1 rfl rfl (hb C.2.1 hd) rfl (XT.i0_eq_t hc) hr.1 hr.2 k
  · exact Go.pure (kn (by first | exact hc | exact Decidable.of_not_not hc)) fun T h t k => XS.ifNo h C.1 rfl (hb C.2.1 hd) rfl (XT.i0_eq_f (by first | exact hc | exact Decidable.of_not_not hc)) k
theorem lcmp_eq (C : Ctx p s m meth c Z own nm B ml rt) {x y : Int64} {o : Int} {r pc1 : Nat} (hd0 : decode B pc = .ok (.lcmp, 1)) (h1 : pc + 1 = pc1) (hd : decode B pc1 = .ok (.ifCond .eq o, 3)) (hq : pc1 + 3 = q) (hr : 0 ≤ (pc1 : Int) + o ∧ ((pc1 : Int) + o).toNat = r) (ky : x = y → Go p l e R s m args below meth c Z n0 P kc ks μ k n (mkF m r L st)) (kn : ¬ x = y → Go p l e R s m args below meth c Z n0 P kc ks μ k n (mkF m q L st)) : Go p l e R s m args below meth c Z n0 P kc ks μ k n (mkF m pc L (.long y :: .long x :: st)) := by
  subst hq h1
  refine Go.pure (g' := mkF m (pc + 1) L (.int (XT.cmpL x y) :: st)) ?_ fun T h t k => XT.lcmp h C.1 rfl (hb C.2.1 hd0) rfl k
  by_cases hc : x = y
  · exact Go.pure (ky hc) fun T h t k => XS.ifYes h C.1 rfl rfl (hb C.2.1 hd) rfl (XT.ll_eq_t hc) hr.1 hr.2 k
  · exact Go.pure (kn (by first | exact hc | exact Decidable.of_not_not hc)) fun T h t k => XS.ifNo h C.1 rfl (hb C.2.1 hd) rfl (XT.ll_eq_f (by first | exact hc | exact Decidable.of_not_not hc)) k
theorem icmp_ne (C : Ctx p s m meth c Z own nm B ml rt) {x y : Int32} {o : Int} {r : Nat} (hd : decode B pc = .ok (.if_icmp .ne o, 3)) (hq : pc + 3 = q) (hr : 0 ≤ (pc : Int) + o ∧ ((pc : Int) + o).toNat = r) (ky : ¬ x = y → Go p l e R s m args below meth c Z n0 P kc ks μ k n (mkF m r L st)) (kn : x = y → Go p l e R s m args below meth c Z n0 P kc ks μ k n (mkF m q L st)) : Go p l e R s m args below meth c Z n0 P kc ks μ k n (mkF m pc L (.int y :: .int x :: st)) := by
  subst hq
  by_cases hc : ¬ x = y
  · exact Go.pure (ky hc) fun T h t k => XS.icmpYes h C.1 rfl rfl (hb C.2.1 hd) rfl (XT.ii_ne_t hc) hr.1 hr.2 k
  · exact Go.pure (kn (by first | exact hc | exact Decidable.of_not_not hc)) fun T h t k => XS.icmpNo h C.1 rfl (hb C.2.1 hd) rfl (XT.ii_ne_f (by first | exact hc | exact Decidable.of_not_not hc)) k
theorem if_ne (C : Ctx p s m meth c Z own nm B ml rt) {x : Int32} {o : Int} {r : Nat} (hd : decode B pc = .ok (.ifCond .ne o, 3)) (hq : pc + 3 = q) (hr : 0 ≤ (pc : Int) + o ∧ ((pc : Int) + o).toNat = r) (ky : ¬ x = 0 → Go p l e R s m args below meth c Z n0 P kc ks μ k n (mkF m r L st)) (kn : x = 0 → Go p l e R s m args below meth c Z n0 P kc ks μ k n (mkF m q L st)) : Go p l e R s m args below meth c Z n0 P kc ks μ k n (mkF m pc L (.int x :: st)) := by
  subst hq
  by_cases hc : ¬ x = 0
  · exact Go.pure (ky hc) fun T h t k => XS.ifYes h C.1 rfl rfl (hb C.2.1 hd) rfl (XT.i0_ne_t hc) hr.1 hr.2 k
  · exact Go.pure (kn (by first | exact hc | exact Decidable.of_not_not hc)) fun T h t k => XS.ifNo h C.1 rfl (hb C.2.1 hd) rfl (XT.i0_ne_f (by first | exact hc | exact Decidable.of_not_not hc)) k
theorem lcmp_ne (C : Ctx p s m meth c Z own nm B ml rt) {x y : Int64} {o : Int} {r pc1 : Nat} (hd0 : decode B pc = .ok (.lcmp, 1)) (h1 : pc + 1 = pc1) (hd : decode B pc1 = .ok (.ifCond .ne o, 3)) (hq : pc1 + 3 = q) (hr : 0 ≤ (pc1 : Int) + o ∧ ((pc1 : Int) + o).toNat = r) (ky : ¬ x = y → Go p l e R s m args below meth c Z n0 P kc ks μ k n (mkF m r L st)) (kn : x = y → Go p l e R s m args below meth c Z n0 P kc ks μ k n (mkF m q L st)) : Go p l e R s m args below meth c Z n0 P kc ks μ k n (mkF m pc L (.long y :: .long x :: st)) := by
  subst hq h1
  refine Go.pure (g' := mkF m (pc + 1) L (.int (XT.cmpL x y) :: st)) ?_ fun T h t k => XT.lcmp h C.1 rfl (hb C.2.1 hd0) rfl k
  by_cases hc : ¬ x = y
  · exact Go.pure (ky hc) fun T h t k => XS.ifYes h C.1 rfl rfl (hb C.2.1 hd) rfl (XT.ll_ne_t hc) hr.1 hr.2 k
  · exact Go.pure (kn (by first | exact hc | exact Decidable.of_not_not hc)) fun T h t k => XS.ifNo h C.1 rfl (hb C.2.1 hd) rfl (XT.ll_ne_f (by first | exact hc | exact Decidable.of_not_not hc)) k
theorem icmp_lt (C : Ctx p s m meth c Z own nm B ml rt) {x y : Int32} {o : Int} {r : Nat} (hd : decode B pc = .ok (.if_icmp .lt o, 3)) (hq : pc + 3 = q) (hr : 0 ≤ (pc : Int) + o ∧ ((pc : Int) + o).toNat = r) (ky : x < y → Go p l e R s m args below meth c Z n0 P kc ks μ k n (mkF m r L st)) (kn : ¬ x < y → Go p l e R s m args below meth c Z n0 P kc ks μ k n (mkF m q L st)) : Go p l e R s m args below meth c Z n0 P kc ks μ k n (mkF m pc L (.int y :: .int x :: st)) := by
  subst hq
  by_cases hc : x < y
  · exact Go.pure (ky hc) fun T h t k => XS.icmpYes h C.1 rfl rfl (hb C.2.1 hd) rfl (XT.ii_lt_t hc) hr.1 hr.2 k
  · exact Go.pure (kn (by first | exact hc | exact Decidable.of_not_not hc)) fun T h t k => XS.icmpNo h C.1 rfl (hb C.2.1 hd) rfl (XT.ii_lt_f (by first | exact hc | exact Decidable.of_not_not hc)) k
theorem if_lt (C : Ctx p s m meth c Z own nm B ml rt) {x : Int32} {o : Int} {r : Nat} (hd : decode B pc = .ok (.ifCond .lt o, 3)) (hq : pc + 3 = q) (hr : 0 ≤ (pc : Int) + o ∧ ((pc : Int) + o).toNat = r) (ky : x < 0 → Go p l e R s m args below meth c Z n0 P kc ks μ k n (mkF m r L st)) (kn : ¬ x < 0 → Go p l e R s m args below meth c Z n0 P kc ks μ k n (mkF m q L st)) : Go p l e R s m args below meth c Z n0 P kc ks μ k n (mkF m pc L (.int x :: st)) := by
  subst hq
  by_cases hc : x < 0
  · exact Go.pure (ky hc) fun T h t k => XS.ifYes h C.1 rfl rfl (hb C.2.1 hd) rfl (XT.i0_lt_t hc) hr.1 hr.2 k
  · exact Go.pure (kn (by first | exact hc | exact Decidable.of_not_not hc)) fun T h t k => XS.ifNo h C.1 rfl (hb C.2.1 hd) rfl (XT.i0_lt_f (by first | exact hc | exact Decidable.of_not_not hc)) k
theorem lcmp_lt (C : Ctx p s m meth c Z own nm B ml rt) {x y : Int64} {o : Int} {r pc1 : Nat} (hd0 : decode B pc = .ok (.lcmp, 1)) (h1 : pc + 1 = pc1) (hd : decode B pc1 = .ok (.ifCond .lt o, 3)) (hq : pc1 + 3 = q) (hr : 0 ≤ (pc1 : Int) + o ∧ ((pc1 : Int) + o).toNat = r) (ky : x < y → Go p l e R s m args below meth c Z n0 P kc ks μ k n (mkF m r L st)) (kn : ¬ x < y → Go p l e R s m args below meth c Z n0 P kc ks μ k n (mkF m q L st)) : Go p l e R s m args below meth c Z n0 P kc ks μ k n (mkF m pc L (.long y :: .long x :: st)) := by
  subst hq h1
  refine Go.pure (g' := mkF m (pc + 1) L (.int (XT.cmpL x y) :: st)) ?_ fun T h t k => XT.lcmp h C.1 rfl (hb C.2.1 hd0) rfl k
  by_cases hc : x < y
  · exact Go.pure (ky hc) fun T h t k => XS.ifYes h C.1 rfl rfl (hb C.2.1 hd) rfl (XT.ll_lt_t hc) hr.1 hr.2 k
  · exact Go.pure (kn (by first | exact hc | exact Decidable.of_not_not hc)) fun T h t k => XS.ifNo h C.1 rfl (hb C.2.1 hd) rfl (XT.ll_lt_f (by first | exact hc | exact Decidable.of_not_not hc)) k
theorem icmp_ge (C : Ctx p s m meth c Z own nm B ml rt) {x y : Int32} {o : Int} {r : Nat} (hd : decode B pc = .ok (.if_icmp .ge o, 3)) (hq : pc + 3 = q) (hr : 0 ≤ (pc : Int) + o ∧ ((pc : Int) + o).toNat = r) (ky : ¬ x < y → Go p l e R s m args below meth c Z n0 P kc ks μ k n (mkF m r L st)) (kn : x < y → Go p l e R s m args below meth c Z n0 P kc ks μ k n (mkF m q L st)) : Go p l e R s m args below meth c Z n0 P kc ks μ k n (mkF m pc L (.int y :: .int x :: st)) := by
  subst hq
  by_cases hc : ¬ x < y
  · exact Go.pure (ky hc) fun T h t k => XS.icmpYes h C.1 rfl rfl (hb C.2.1 hd) rfl (XT.ii_ge_t hc) hr.1 hr.2 k
  · exact Go.pure (kn (by first | exact hc | exact Decidable.of_not_not hc)) fun T h t k => XS.icmpNo h C.1 rfl (hb C.2.1 hd) rfl (XT.ii_ge_f (by first | exact hc | exact Decidable.of_not_not hc)) k
theorem if_ge (C : Ctx p s m meth c Z own nm B ml rt) {x : Int32} {o : Int} {r : Nat} (hd : decode B pc = .ok (.ifCond .ge o, 3)) (hq : pc + 3 = q) (hr : 0 ≤ (pc : Int) + o ∧ ((pc : Int) + o).toNat = r) (ky : ¬ x < 0 → Go p l e R s m args below meth c Z n0 P kc ks μ k n (mkF m r L st)) (kn : x < 0 → Go p l e R s m args below meth c Z n0 P kc ks μ k n (mkF m q L st)) : Go p l e R s m args below meth c Z n0 P kc ks μ k n (mkF m pc L (.int x :: st)) := by
  subst hq
  by_cases hc : ¬ x < 0
  · exact Go.pure (ky hc) fun T h t k => XS.ifYes h C.1 rfl rfl (hb C.2.1 hd) rfl (XT.i0_ge_t hc) hr.1 hr.2 k
  · exact Go.pure (kn (by first | exact hc | exact Decidable.of_not_not hc)) fun T h t k => XS.ifNo h C.1 rfl (hb C.2.1 hd) rfl (XT.i0_ge_f (by first | exact hc | exact Decidable.of_not_not hc)) k
theorem lcmp_ge (C : Ctx p s m meth c Z own nm B ml rt) {x y : Int64} {o : Int} {r pc1 : Nat} (hd0 : decode B pc = .ok (.lcmp, 1)) (h1 : pc + 1 = pc1) (hd : decode B pc1 = .ok (.ifCond .ge o, 3)) (hq : pc1 + 3 = q) (hr : 0 ≤ (pc1 : Int) + o ∧ ((pc1 : Int) + o).toNat = r) (ky : ¬ x < y → Go p l e R s m args below meth c Z n0 P kc ks μ k n (mkF m r L st)) (kn : x < y → Go p l e R s m args below meth c Z n0 P kc ks μ k n (mkF m q L st)) : Go p l e R s m args below meth c Z n0 P kc ks μ k n (mkF m pc L (.long y :: .long x :: st)) := by
  subst hq h1
  refine Go.pure (g' := mkF m (pc + 1) L (.int (XT.cmpL x y) :: st)) ?_ fun T h t k => XT.lcmp h C.1 rfl (hb C.2.1 hd0) rfl k
  by_cases hc : ¬ x < y
  · exact Go.pure (ky hc) fun T h t k => XS.ifYes h C.1 rfl rfl (hb C.2.1 hd) rfl (XT.ll_ge_t hc) hr.1 hr.2 k
  · exact Go.pure (kn (by first | exact hc | exact Decidable.of_not_not hc)) fun T h t k => XS.ifNo h C.1 rfl (hb C.2.1 hd) rfl (XT.ll_ge_f (by first | exact hc | exact Decidable.of_not_not hc)) k
theorem icmp_gt (C : Ctx p s m meth c Z own nm B ml rt) {x y : Int32} {o : Int} {r : Nat} (hd : decode B pc = .ok (.if_icmp .gt o, 3)) (hq : pc + 3 = q) (hr : 0 ≤ (pc : Int) + o ∧ ((pc : Int) + o).toNat = r) (ky : y < x → Go p l e R s m args below meth c Z n0 P kc ks μ k n (mkF m r L st)) (kn : ¬ y < x → Go p l e R s m args below meth c Z n0 P kc ks μ k n (mkF m q L st)) : Go p l e R s m args below meth c Z n0 P kc ks μ k n (mkF m pc L (.int y :: .int x :: st)) := by
  subst hq
  by_cases hc : y < x
  · exact Go.pure (ky hc) fun T h t k => XS.icmpYes h C.1 rfl rfl (hb C.2.1 hd) rfl (XT.ii_gt_t hc) hr.1 hr.2 k
  · exact Go.pure (kn (by first | exact hc | exact Decidable.of_not_not hc)) fun T h t k => XS.icmpNo h C.1 rfl (hb C.2.1 hd) rfl (XT.ii_gt_f (by first | exact hc | exact Decidable.of_not_not hc)) k
theorem if_gt (C : Ctx p s m meth c Z own nm B ml rt) {x : Int32} {o : Int} {r : Nat} (hd : decode B pc = .ok (.ifCond .gt o, 3)) (hq : pc + 3 = q) (hr : 0 ≤ (pc : Int) + o ∧ ((pc : Int) + o).toNat = r) (ky : 0 < x → Go p l e R s m args below meth c Z n0 P kc ks μ k n (mkF m r L st)) (kn : ¬ 0 < x → Go p l e R s m args below meth c Z n0 P kc ks μ k n (mkF m q L st)) : Go p l e R s m args below meth c Z n0 P kc ks μ k n (mkF m pc L (.int x :: st)) := by
  subst hq
  by_cases hc : 0 < x
  · exact Go.pure (ky hc) fun T h t k => XS.ifYes h C.1 rfl rfl (hb C.2.1 hd) rfl (XT.i0_gt_t hc) hr.1 hr.2 k
  · exact Go.pure (kn (by first | exact hc | exact Decidable.of_not_not hc)) fun T h t k => XS.ifNo h C.1 rfl (hb C.2.1 hd) rfl (XT.i0_gt_f (by first | exact hc | exact Decidable.of_not_not hc)) k
theorem lcmp_gt (C : Ctx p s m meth c Z own nm B ml rt) {x y : Int64} {o : Int} {r pc1 : Nat} (hd0 : decode B pc = .ok (.lcmp, 1)) (h1 : pc + 1 = pc1) (hd : decode B pc1 = .ok (.ifCond .gt o, 3)) (hq : pc1 + 3 = q) (hr : 0 ≤ (pc1 : Int) + o ∧ ((pc1 : Int) + o).toNat = r) (ky : y < x → Go p l e R s m args below meth c Z n0 P kc ks μ k n (mkF m r L st)) (kn : ¬ y < x → Go p l e R s m args below meth c Z n0 P kc ks μ k n (mkF m q L st)) : Go p l e R s m args below meth c Z n0 P kc ks μ k n (mkF m pc L (.long y :: .long x :: st)) := by
  subst hq h1
  refine Go.pure (g' := mkF m (pc + 1) L (.int (XT.cmpL x y) :: st)) ?_ fun T h t k => XT.lcmp h C.1 rfl (hb C.2.1 hd0) rfl k
  by_cases hc : y < x
  · exact Go.pure (ky hc) fun T h t k => XS.ifYes h C.1 rfl rfl (hb C.2.1 hd) rfl (XT.ll_gt_t hc) hr.1 hr.2 k
  · exact Go.pure (kn (by first | exact hc | exact Decidable.of_not_not hc)) fun T h t k => XS.ifNo h C.1 rfl (hb C.2.1 hd) rfl (XT.ll_gt_f (by first | exact hc | exact Decidable.of_not_not hc)) k
theorem icmp_le (C : Ctx p s m meth c Z own nm B ml rt) {x y : Int32} {o : Int} {r : Nat} (hd : decode B pc = .ok (.if_icmp .le o, 3)) (hq : pc + 3 = q) (hr : 0 ≤ (pc : Int) + o ∧ ((pc : Int) + o).toNat = r) (ky : ¬ y < x → Go p l e R s m args below meth c Z n0 P kc ks μ k n (mkF m r L st)) (kn : y < x → Go p l e R s m args below meth c Z n0 P kc ks μ k n (mkF m q L st)) : Go p l e R s m args below meth c Z n0 P kc ks μ k n (mkF m pc L (.int y :: .int x :: st)) := by
  subst hq
  by_cases hc : ¬ y < x
  · exact Go.pure (ky hc) fun T h t k => XS.icmpYes h C.1 rfl rfl (hb C.2.1 hd) rfl (XT.ii_le_t hc) hr.1 hr.2 k
  · exact Go.pure (kn (by first | exact hc | exact Decidable.of_not_not hc)) fun T h t k => XS.icmpNo h C.1 rfl (hb C.2.1 hd) rfl (XT.ii_le_f (by first | exact hc | exact Decidable.of_not_not hc)) k
theorem if_le (C : Ctx p s m meth c Z own nm B ml rt) {x : Int32} {o : Int} {r : Nat} (hd : decode B pc = .ok (.ifCond .le o, 3)) (hq : pc + 3 = q) (hr : 0 ≤ (pc : Int) + o ∧ ((pc : Int) + o).toNat = r) (ky : ¬ 0 < x → Go p l e R s m args below meth c Z n0 P kc ks μ k n (mkF m r L st)) (kn : 0 < x → Go p l e R s m args below meth c Z n0 P kc ks μ k n (mkF m q L st)) : Go p l e R s m args below meth c Z n0 P kc ks μ k n (mkF m pc L (.int x :: st)) := by
  subst hq
  by_cases hc : ¬ 0 < x
  · exact Go.pure (ky hc) fun T h t k => XS.ifYes h C.1 rfl rfl (hb C.2.1 hd) rfl (XT.i0_le_t hc) hr.1 hr.2 k
  · exact Go.pure (kn (by first | exact hc | exact Decidable.of_not_not hc)) fun T h t k => XS.ifNo h C.1 rfl (hb C.2.1 hd) rfl (XT.i0_le_f (by first | exact hc | exact Decidable.of_not_not hc)) k
theorem lcmp_le (C : Ctx p s m meth c Z own nm B ml rt) {x y : Int64} {o : Int} {r pc1 : Nat} (hd0 : decode B pc = .ok (.lcmp, 1)) (h1 : pc + 1 = pc1) (hd : decode B pc1 = .ok (.ifCond .le o, 3)) (hq : pc1 + 3 = q) (hr : 0 ≤ (pc1 : Int) + o ∧ ((pc1 : Int) + o).toNat = r) (ky : ¬ y < x → Go p l e R s m args below meth c Z n0 P kc ks μ k n (mkF m r L st)) (kn : y < x → Go p l e R s m args below meth c Z n0 P kc ks μ k n (mkF m q L st)) : Go p l e R s m args below meth c Z n0 P kc ks μ k n (mkF m pc L (.long y :: .long x :: st)) := by
  subst hq h1
  refine Go.pure (g' := mkF m (pc + 1) L (.int (XT.cmpL x y) :: st)) ?_ fun T h t k => XT.lcmp h C.1 rfl (hb C.2.1 hd0) rfl k
  by_cases hc : ¬ y < x
  · exact Go.pure (ky hc) fun T h t k => XS.ifYes h C.1 rfl rfl (hb C.2.1 hd) rfl (XT.ll_le_t hc) hr.1 hr.2 k
  · exact Go.pure (kn (by first | exact hc | exact Decidable.of_not_not hc)) fun T h t k => XS.ifNo h C.1 rfl (hb C.2.1 hd) rfl (XT.ll_le_f (by first | exact hc | exact Decidable.of_not_not hc)) k
theorem ifnullY (C : Ctx p s m meth c Z own nm B ml rt) {o : Int} {b : Addr} (hd : decode B pc = .ok (.ifnull o, 3)) (hq : 0 ≤ (pc : Int) + o ∧ ((pc : Int) + o).toNat = q) (k' : Go p l e R s m args below meth c Z n0 P kc ks μ k n (mkF m q L st)) : Go p l e R s m args below meth c Z n0 P kc ks μ k n (mkF m pc L (.null :: st)) := Go.pure k' fun T h t hr => XS.ifnullYes h C.1 rfl rfl (hb C.2.1 hd) rfl hq.1 hq.2 hr
theorem ifnullN (C : Ctx p s m meth c Z own nm B ml rt) {o : Int} {b : Addr} (hd : decode B pc = .ok (.ifnull o, 3)) (hq : pc + 3 = q) (k' : Go p l e R s m args below meth c Z n0 P kc ks μ k n (mkF m q L st)) : Go p l e R s m args below meth c Z n0 P kc ks μ k n (mkF m pc L ((.ref b) :: st)) := by
  subst hq
  exact Go.pure k' fun T h t hr => XS.ifnullNo h C.1 rfl (hb C.2.1 hd) rfl hr
theorem ifnonnullY (C : Ctx p s m meth c Z own nm B ml rt) {o : Int} {b : Addr} (hd : decode B pc = .ok (.ifnonnull o, 3)) (hq : 0 ≤ (pc : Int) + o ∧ ((pc : Int) + o).toNat = q) (k' : Go p l e R s m args below meth c Z n0 P kc ks μ k n (mkF m q L st)) : Go p l e R s m args below meth c Z n0 P kc ks μ k n (mkF m pc L ((.ref b) :: st)) := Go.pure k' fun T h t hr => XT.ifnonnullYes h C.1 rfl rfl (hb C.2.1 hd) rfl hq.1 hq.2 hr
theorem ifnonnullN (C : Ctx p s m meth c Z own nm B ml rt) {o : Int} {b : Addr} (hd : decode B pc = .ok (.ifnonnull o, 3)) (hq : pc + 3 = q) (k' : Go p l e R s m args below meth c Z n0 P kc ks μ k n (mkF m q L st)) : Go p l e R s m args below meth c Z n0 P kc ks μ k n (mkF m pc L (.null :: st)) := by
  subst hq
  exact Go.pure k' fun T h t hr => XT.ifnonnullNo h C.1 rfl (hb C.2.1 hd) rfl hr
theorem acmp_eq (C : Ctx p s m meth c Z own nm B ml rt) {x y : Value} {o : Int} {r : Nat} (hd : decode B pc = .ok (.if_acmp .eq o, 3)) (hq : pc + 3 = q) (hr : 0 ≤ (pc : Int) + o ∧ ((pc : Int) + o).toNat = r) (h1 : x.isRef = true) (h2 : y.isRef = true) (ky : x = y → Go p l e R s m args below meth c Z n0 P kc ks μ k n (mkF m r L st)) (kn : ¬ x = y → Go p l e R s m args below meth c Z n0 P kc ks μ k n (mkF m q L st)) : Go p l e R s m args below meth c Z n0 P kc ks μ k n (mkF m pc L (y :: x :: st)) := by
  subst hq
  by_cases hc : x = y
  · exact Go.pure (ky hc) fun T h t k => XT.acmpYes h C.1 rfl rfl (hb C.2.1 hd) rfl h1 h2 (XT.aa_eq_t hc) hr.1 hr.2 k
  · exact Go.pure (kn (by first | exact hc | exact Decidable.of_not_not hc)) fun T h t k => XT.acmpNo h C.1 rfl (hb C.2.1 hd) rfl h1 h2 (XT.aa_eq_f (by first | exact hc | exact Decidable.of_not_not hc)) k
theorem acmp_ne (C : Ctx p s m meth c Z own nm B ml rt) {x y : Value} {o : Int} {r : Nat} (hd : decode B pc = .ok (.if_acmp .ne o, 3)) (hq : pc + 3 = q) (hr : 0 ≤ (pc : Int) + o ∧ ((pc : Int) + o).toNat = r) (h1 : x.isRef = true) (h2 : y.isRef = true) (ky : ¬ x = y → Go p l e R s m args below meth c Z n0 P kc ks μ k n (mkF m r L st)) (kn : x = y → Go p l e R s m args below meth c Z n0 P kc ks μ k n (mkF m q L st)) : Go p l e R s m args below meth c Z n0 P kc ks μ k n (mkF m pc L (y :: x :: st)) := by
  subst hq
  by_cases hc : ¬ x = y
  · exact Go.pure (ky hc) fun T h t k => XT.acmpYes h C.1 rfl rfl (hb C.2.1 hd) rfl h1 h2 (XT.aa_ne_t hc) hr.1 hr.2 k
  · exact Go.pure (kn (by first | exact hc | exact Decidable.of_not_not hc)) fun T h t k => XT.acmpNo h C.1 rfl (hb C.2.1 hd) rfl h1 h2 (XT.aa_ne_f (by first | exact hc | exact Decidable.of_not_not hc)) k
theorem mem {μ' : Mem} {g : JFrame} (h : μ = μ') (k' : Go p l e R s m args below meth c Z n0 P kc ks μ' k n g) : Go p l e R s m args below meth c Z n0 P kc ks μ k n g := by subst h; exact k'
/-! constants of the pool -/
theorem ldcI (C : Ctx p s m meth c Z own nm B ml rt) {i : Nat} {v : Int32} (hd : decode B pc = .ok (.ldc i, 2)) (hq : pc + 2 = q) (w : (Cond.constant own i v).before a0 Z = true) (k' : Go p l e R s m args below meth c Z n0 P kc ks μ k n (mkF m q L (.int v :: st))) : Go p l e R s m args below meth c Z n0 P kc ks μ k n (mkF m pc L st) := by
  subst hq
  exact Go.stand k' fun T locs X H => ⟨T, X, rfl, X.ldcInt C.1 C.2.2.2.2.1 (mvT C.2.2.2.1 w) (g := mkF m pc L st) rfl (hb C.2.1 hd)⟩
theorem ldcwI (C : Ctx p s m meth c Z own nm B ml rt) {i : Nat} {v : Int32} (hd : decode B pc = .ok (.ldc_w i, 3)) (hq : pc + 3 = q) (w : (Cond.constant own i v).before a0 Z = true) (k' : Go p l e R s m args below meth c Z n0 P kc ks μ k n (mkF m q L (.int v :: st))) : Go p l e R s m args below meth c Z n0 P kc ks μ k n (mkF m pc L st) := by
  subst hq
  exact Go.stand k' fun T locs X H => ⟨T, X, rfl, X.ldcwInt C.1 C.2.2.2.2.1 (mvT C.2.2.2.1 w) (g := mkF m pc L st) rfl (hb C.2.1 hd)⟩
theorem ldcJ (C : Ctx p s m meth c Z own nm B ml rt) {i : Nat} {v : Int64} (hd : decode B pc = .ok (.ldc2_w i, 3)) (hq : pc + 3 = q) (w : (Cond.constantLong own i v).before a0 Z = true) (k' : Go p l e R s m args below meth c Z n0 P kc ks μ k n (mkF m q L (.long v :: st))) : Go p l e R s m args below meth c Z n0 P kc ks μ k n (mkF m pc L st) := by
  subst hq
  exact Go.stand k' fun T locs X H => ⟨T, X, rfl, X.ldc2Long C.1 C.2.2.2.2.1 (mvT C.2.2.2.1 w) (g := mkF m pc L st) rfl (hb C.2.1 hd)⟩
/-! fields -/
theorem getfield (C : Ctx p s m meth c Z own nm B ml rt) {i j : Nat} {R0 O f d host K : String} {fs : List (Key × Value)} {v : Value} {a : Addr} (hd : decode B pc = .ok (.getfield i, 3)) (hq : pc + 3 = q) (w : (Cond.fieldLink own i R0 f d).before a0 Z = true ∨ (Cond.fieldLinkNest own i R0 f d host).before a0 Z = true) (via : Via Z R0 O f d)
    (hμ : μ a = some (.inl (K, fs))) (hj : fs[j]? = some ((O, f, d), v)) (k' : Go p l e R s m args below meth c Z n0 P kc ks μ k n (mkF m q L (v :: st))) : Go p l e R s m args below meth c Z n0 P kc ks μ k n (mkF m pc L (.ref a :: st)) := by
  subst hq
  refine Go.stand k' fun T locs X H => ?_
  have I := H.2 a _ hμ
  exact getF X C.1 C.2.2.2.1 C.2.2.2.2.1 w via rfl (I.2.1 _ (List.mem_of_getElem? hj)) (g := mkF m pc L (.ref a :: st)) rfl rfl (hb C.2.1 hd)
theorem putfield (C : Ctx p s m meth c Z own nm B ml rt) {i j kk : Nat} {R0 O f d host K : String} {fs fs' : List (Key × Value)} {v old : Value} {a : Addr} {ty : FieldType} (hd : decode B pc = .ok (.putfield i, 3)) (hq : pc + 3 = q) (w : (Cond.fieldLink own i R0 f d).before a0 Z = true ∨ (Cond.fieldLinkNest own i R0 f d host).before a0 Z = true) (via : Via Z R0 O f d)
    (wl : (Cond.lays K O f d).before a0 Z = true ∨ ((Cond.laysFinal K O f d).before a0 Z = true ∧ own = O ∧ nm = "<init>")) (wi : (Cond.instantiable K kk).before a0 Z = true) (hty : parseFieldDescriptor d = some ty) (hn : narrow ty v = v) (hf : fits ty v = true)
    (hμ : μ a = some (.inl (K, fs))) (hj : fs[j]? = some ((O, f, d), old)) (hfs : fs.set j ((O, f, d), v) = fs') (ha : n0 ≤ a) (k' : Go p l e R s m args below meth c Z n0 P kc ks (upd μ a (.inl (K, fs'))) k n (mkF m q L st)) : Go p l e R s m args below meth c Z n0 P kc ks μ k n (mkF m pc L (v :: .ref a :: st)) := by
  subst hq
  intro T locs X F H
  have I := H.2 a _ hμ
  obtain ⟨T', h', X', e', W, stp⟩ := putF X C.1 C.2.2.2.1 C.2.2.2.2.1 w via rfl (I.2.1 _ (List.mem_of_getElem? hj)) I.1 (wl.imp id fun z => ⟨z.1, z.2.1, C.2.2.2.2.2.2.2.trans z.2.2⟩) wi hty hn hf (g := mkF m pc L (v :: .ref a :: st)) rfl rfl (hb C.2.1 hd)
  obtain ⟨s2, o, h1, h2⟩ := k' T' _ X' (Fr.snoc X' F ha) (by rw [e']; exact H.wr W ha (IsO.put I hj W hfs))
  exact ⟨s2, o, stp _ h1, h2⟩
theorem putfieldN (C : Ctx p s m meth c Z own nm B ml rt) {i j kk : Nat} {R0 O f d K : String} {fs fs' : List (Key × Value)} {v v' old : Value} {a : Addr} {ty : FieldType} (hd : decode B pc = .ok (.putfield i, 3)) (hq : pc + 3 = q) (w : (Cond.fieldLink own i R0 f d).before a0 Z = true) (via : Via Z R0 O f d)
    (wl : (Cond.lays K O f d).before a0 Z = true ∨ ((Cond.laysFinal K O f d).before a0 Z = true ∧ own = O ∧ nm = "<init>")) (wi : (Cond.instantiable K kk).before a0 Z = true) (hty : parseFieldDescriptor d = some ty) (hn : narrow ty v = v') (hf : fits ty v' = true)
    (hμ : μ a = some (.inl (K, fs))) (hj : fs[j]? = some ((O, f, d), old)) (hfs : fs.set j ((O, f, d), v') = fs') (ha : n0 ≤ a) (k' : Go p l e R s m args below meth c Z n0 P kc ks (upd μ a (.inl (K, fs'))) k n (mkF m q L st)) : Go p l e R s m args below meth c Z n0 P kc ks μ k n (mkF m pc L (v :: .ref a :: st)) := by
  subst hq
  intro T locs X F H
  have I := H.2 a _ hμ
  obtain ⟨T', h', X', e', W, stp⟩ := putFN X C.1 C.2.2.2.1 C.2.2.2.2.1 w via rfl (I.2.1 _ (List.mem_of_getElem? hj)) I.1 (wl.imp id fun z => ⟨z.1, z.2.1, C.2.2.2.2.2.2.2.trans z.2.2⟩) wi hty hn hf (g := mkF m pc L (v :: .ref a :: st)) rfl rfl (hb C.2.1 hd)
  obtain ⟨s2, o, h1, h2⟩ := k' T' _ X' (Fr.snoc X' F ha) (by rw [e']; exact H.wr W ha (IsO.put I hj W hfs))
  exact ⟨s2, o, stp _ h1, h2⟩
theorem getstatic (C : Ctx p s m meth c Z own nm B ml rt) {i : Nat} {R0 O f d host : String} {v : Value} (hd : decode B pc = .ok (.getstatic i, 3)) (hq : pc + 3 = q) (w : (Cond.fieldLink own i R0 f d).before a0 Z = true ∨ (Cond.fieldLinkNest own i R0 f d host).before a0 Z = true) (via : Via Z R0 O f d)
    (S : Sta Z Z.heap O f d v) (k' : Go p l e R s m args below meth c Z n0 P kc ks μ k n (mkF m q L (v :: st))) : Go p l e R s m args below meth c Z n0 P kc ks μ k n (mkF m pc L st) := by
  subst hq
  exact Go.stand k' fun T locs X H => getS2 X C.1 C.2.2.2.1 C.2.2.2.2.1 w via rfl (S.ext H.1.2) (g := mkF m pc L st) rfl (hb C.2.1 hd)
/-! new objects -/
def AllLaid (Z : State) (a0 : Array Value) (C : String) : List (Key × Value) → Prop
  | [] => True
  | q :: r => (∃ ty, Laid Z a0 C q.1.1 q.1.2.1 q.1.2.2 ∧ parseFieldDescriptor q.1.2.2 = some ty ∧ q.2 = defaultValue ty) ∧ AllLaid Z a0 C r
theorem AllLaid.mem {K : String} : ∀ {fs : List (Key × Value)}, AllLaid Z a0 K fs → ∀ q ∈ fs, ∃ ty, Laid Z a0 K q.1.1 q.1.2.1 q.1.2.2 ∧ parseFieldDescriptor q.1.2.2 = some ty ∧ q.2 = defaultValue ty
  | [], _, _, h => nomatch h
  | _ :: _, H, q, h => (List.mem_cons.mp h).elim (fun z => z ▸ H.1) (AllLaid.mem H.2 q)
theorem AllLaid.pw {K : String} : ∀ {fs : List (Key × Value)}, AllLaid Z a0 K fs → fs.Pairwise (fun q r => q.1.2.1 ≠ r.1.2.1) → fs.Pairwise fun q r => sl Z q ≠ sl Z r
  | [], _, _ => .nil
  | x :: r, H, N => by
    cases N with
    | cons h1 h2 =>
      refine .cons (fun y hy => ?_) (AllLaid.pw H.2 h2)
      obtain ⟨t1, L1, p1, -⟩ := H.1
      obtain ⟨t2, L2, p2, -⟩ := AllLaid.mem H.2 y hy
      exact RoadKit.slot_ne L1 L2 (h1 y hy) p1 p2
theorem new (C : Ctx p s m meth c Z own nm B ml rt) {i ns : Nat} {K : String} {fs : List (Key × Value)} (hd : decode B pc = .ok (.new i, 3)) (hq : pc + 3 = q) (w1 : (Cond.classLink own i K).before a0 Z = true) (w2 : (Cond.instantiable K ns).before a0 Z = true) (w3 : (Cond.initialized K).before a0 Z = true)
    (hl : AllLaid Z a0 K fs) (hnd : fs.Pairwise (fun q r => q.1.2.1 ≠ r.1.2.1)) (hc : k + 1 ≤ R.cells) (hs : n + ns ≤ R.slots)
    (k' : ∀ a : Addr, (∀ b o, μ b = some o → b ≠ a) → n0 ≤ a → Go p l e R s m args below meth c Z n0 P kc ks (upd μ a (.inl (K, fs))) (k + 1) (n + ns) (mkF m q L (.ref a :: st))) : Go p l e R s m args below meth c Z n0 P kc ks μ k n (mkF m pc L st) := by
  subst hq
  intro T locs X F H
  obtain ⟨T', h', X', e', E, A, D, -, stp⟩ := newO X C.1 C.2.2.2.1 C.2.2.2.2.1 w1 w2 w3 rfl (g := mkF m pc L st) rfl (hb C.2.1 hd) hc hs
  obtain ⟨s2, o, h1, h2⟩ := k' T.heap.size H.fresh H.ge T' _ X' F (by
    rw [e']
    refine Hp.set (H.ext E) ⟨A, fun z hz => ?_, hl.pw hnd⟩
    obtain ⟨ty, l1, l2, l3⟩ := hl.mem z hz
    rw [l3]; exact D l1 l2)
  exact ⟨s2, o, stp _ h1, h2⟩
theorem newArr (C : Ctx p s m meth c Z own nm B ml rt) {aty : ArrayType} {ty : FieldType} {z : Int32} {cap : Nat} {vs : List Value} (hd : decode B pc = .ok (.newarray aty, 2)) (hq : pc + 2 = q) (ht : newarray.typeOf aty = ty) (w : (Cond.arrayClass ty).before a0 Z = true) (hz : ¬ z < 0) (hcap : z.toNatClampNeg ≤ cap) (hbig : cap * 8 ≤ 536870912) (hvs : List.replicate z.toNatClampNeg (defaultValue ty) = vs)
    (hc : k + 1 ≤ R.cells) (hs : n + cap ≤ R.slots)
    (k' : ∀ a : Addr, (∀ b o, μ b = some o → b ≠ a) → n0 ≤ a → Go p l e R s m args below meth c Z n0 P kc ks (upd μ a (.inr (ty, vs))) (k + 1) (n + cap) (mkF m q L (.ref a :: st))) : Go p l e R s m args below meth c Z n0 P kc ks μ k n (mkF m pc L (.int z :: st)) := by
  subst hq hvs ht
  intro T locs X F H
  obtain ⟨T', h', cA, X', e', E, A, stp⟩ := newP X C.1 C.2.2.2.1 w rfl (g := mkF m pc L (.int z :: st)) rfl (hb C.2.1 hd) rfl hz hcap hbig hc hs
  obtain ⟨s2, o, h1, h2⟩ := k' T.heap.size H.fresh H.ge T' _ X' F (by
    rw [e']
    refine Hp.set (H.ext E) ⟨_, A, by simp [newA], by rw [List.length_replicate]; exact (back32 hz).2, fun v hv => ?_, fun _ K hK => ?_⟩
    · rw [(List.mem_replicate.mp hv).2]; cases aty <;> rfl
    · cases aty <;> cases hK)
  exact ⟨s2, o, stp _ h1, h2⟩
theorem newRef (C : Ctx p s m meth c Z own nm B ml rt) {i : Nat} {K : String} {z : Int32} {cap : Nat} {vs : List Value} (hd : decode B pc = .ok (.anewarray i, 3)) (hq : pc + 3 = q) (w1 : (Cond.classLink own i K).before a0 Z = true) (w2 : (Cond.arrayOver (.object K)).before a0 Z = true) (hz : ¬ z < 0) (hcap : z.toNatClampNeg ≤ cap) (hbig : cap * 8 ≤ 536870912) (hvs : List.replicate z.toNatClampNeg Value.null = vs)
    (hc : k + 1 ≤ R.cells) (hs : n + cap ≤ R.slots)
    (k' : ∀ a : Addr, (∀ b o, μ b = some o → b ≠ a) → n0 ≤ a → Go p l e R s m args below meth c Z n0 P kc ks (upd μ a (.inr (.object K, vs))) (k + 1) (n + cap) (mkF m q L (.ref a :: st))) : Go p l e R s m args below meth c Z n0 P kc ks μ k n (mkF m pc L (.int z :: st)) := by
  subst hq hvs
  intro T locs X F H
  obtain ⟨T', h', cA, X', e', E, A, O, stp⟩ := newR X C.1 C.2.2.2.1 C.2.2.2.2.1 w1 w2 rfl (g := mkF m pc L (.int z :: st)) rfl (hb C.2.1 hd) rfl hz hcap hbig hc hs
  obtain ⟨s2, o, h1, h2⟩ := k' T.heap.size H.fresh H.ge T' _ X' F (by
    rw [e']
    refine Hp.set (H.ext E) ⟨_, A, by simp [newA, defaultValue], by rw [List.length_replicate]; exact (back32 hz).2, fun v hv => ?_, fun _ K' hK => ?_⟩
    · rw [(List.mem_replicate.mp hv).2]; rfl
    · cases hK; exact O)
  exact ⟨s2, o, stp _ h1, h2⟩
/-! arrays -/
theorem inb {c : Cell} {vs : List Value} {j : Int32} (e : c.slots.toList = vs) (h0 : ¬ j < 0) (hj : j.toNatClampNeg < vs.length) : ¬ (j < 0 ∨ c.slots.size ≤ j.toNatClampNeg) := by
  subst e; rw [Array.length_toList] at hj; rintro (q | q)
  · exact h0 q
  · omega
theorem atL {c : Cell} {vs : List Value} {j : Nat} {v : Value} (e : c.slots.toList = vs) (hv : vs[j]? = some v) : c.slots[j]? = some v := by
  subst e; rw [Array.getElem?_toList] at hv; exact hv
theorem arraylength (C : Ctx p s m meth c Z own nm B ml rt) {ty : FieldType} {vs : List Value} {a : Addr} (hd : decode B pc = .ok (.arraylength, 1)) (hq : pc + 1 = q) (hμ : μ a = some (.inr (ty, vs))) (k' : ∀ z : Int32, z = Int32.ofNat vs.length → z.toInt = vs.length → Go p l e R s m args below meth c Z n0 P kc ks μ k n (mkF m q L (.int z :: st))) : Go p l e R s m args below meth c Z n0 P kc ks μ k n (mkF m pc L (.ref a :: st)) := by
  subst hq
  intro T locs X F H
  obtain ⟨cl, A, e1, hl, -⟩ := H.2 a _ hμ
  have e2 : cl.slots.size = vs.length := by subst e1; rw [Array.length_toList]
  obtain ⟨s2, o, h1, h2⟩ := k' (Int32.ofNat vs.length) rfl (Int32.toInt_ofNat_small hl) T _ X F H
  exact ⟨s2, o, X.arraylength C.1 A.1 (State.isArrayOf_alike C.2.2.2.1.alike A.2.1) (g := mkF m pc L (.ref a :: st)) rfl rfl (hb C.2.1 hd) _ (by rw [e2]; exact h1), h2⟩
theorem iaload (C : Ctx p s m meth c Z own nm B ml rt) {vs : List Value} {a : Addr} {j : Int32} {v : Value} (hd : decode B pc = .ok (.iaload, 1)) (hq : pc + 1 = q) (hμ : μ a = some (.inr (.int, vs))) (h0 : ¬ j < 0) (hv : vs[j.toNatClampNeg]? = some v) (k' : Go p l e R s m args below meth c Z n0 P kc ks μ k n (mkF m q L (v :: st))) : Go p l e R s m args below meth c Z n0 P kc ks μ k n (mkF m pc L (.int j :: .ref a :: st)) := by
  subst hq
  intro T locs X F H
  obtain ⟨cl, A, e1, -⟩ := H.2 a _ hμ
  obtain ⟨s2, o, h1, h2⟩ := k' T _ X F H
  exact ⟨s2, o, X.iaload C.1 A.1 (State.isArrayOf_alike C.2.2.2.1.alike A.2.1) A.2.2 (inb e1 h0 (List.getElem?_eq_some_iff.mp hv).1) (atL e1 hv) (g := mkF m pc L (.int j :: .ref a :: st)) rfl rfl (hb C.2.1 hd) _ h1, h2⟩
theorem laload (C : Ctx p s m meth c Z own nm B ml rt) {vs : List Value} {a : Addr} {j : Int32} {v : Value} (hd : decode B pc = .ok (.laload, 1)) (hq : pc + 1 = q) (hμ : μ a = some (.inr (.long, vs))) (h0 : ¬ j < 0) (hv : vs[j.toNatClampNeg]? = some v) (k' : Go p l e R s m args below meth c Z n0 P kc ks μ k n (mkF m q L (v :: st))) : Go p l e R s m args below meth c Z n0 P kc ks μ k n (mkF m pc L (.int j :: .ref a :: st)) := by
  subst hq
  intro T locs X F H
  obtain ⟨cl, A, e1, -⟩ := H.2 a _ hμ
  obtain ⟨s2, o, h1, h2⟩ := k' T _ X F H
  exact ⟨s2, o, X.laload C.1 A.1 (State.isArrayOf_alike C.2.2.2.1.alike A.2.1) A.2.2 (inb e1 h0 (List.getElem?_eq_some_iff.mp hv).1) (atL e1 hv) (g := mkF m pc L (.int j :: .ref a :: st)) rfl rfl (hb C.2.1 hd) _ h1, h2⟩
theorem caload (C : Ctx p s m meth c Z own nm B ml rt) {vs : List Value} {a : Addr} {j : Int32} {v : Value} (hd : decode B pc = .ok (.caload, 1)) (hq : pc + 1 = q) (hμ : μ a = some (.inr (.char, vs))) (h0 : ¬ j < 0) (hv : vs[j.toNatClampNeg]? = some v) (k' : Go p l e R s m args below meth c Z n0 P kc ks μ k n (mkF m q L (v :: st))) : Go p l e R s m args below meth c Z n0 P kc ks μ k n (mkF m pc L (.int j :: .ref a :: st)) := by
  subst hq
  intro T locs X F H
  obtain ⟨cl, A, e1, -⟩ := H.2 a _ hμ
  obtain ⟨s2, o, h1, h2⟩ := k' T _ X F H
  exact ⟨s2, o, X.caload C.1 A.1 (State.isArrayOf_alike C.2.2.2.1.alike A.2.1) A.2.2 (inb e1 h0 (List.getElem?_eq_some_iff.mp hv).1) (atL e1 hv) (g := mkF m pc L (.int j :: .ref a :: st)) rfl rfl (hb C.2.1 hd) _ h1, h2⟩
theorem baload (C : Ctx p s m meth c Z own nm B ml rt) {vs : List Value} {a : Addr} {j : Int32} {v : Value} (hd : decode B pc = .ok (.baload, 1)) (hq : pc + 1 = q) (hμ : μ a = some (.inr (.byte, vs))) (h0 : ¬ j < 0) (hv : vs[j.toNatClampNeg]? = some v) (k' : Go p l e R s m args below meth c Z n0 P kc ks μ k n (mkF m q L (v :: st))) : Go p l e R s m args below meth c Z n0 P kc ks μ k n (mkF m pc L (.int j :: .ref a :: st)) := by
  subst hq
  intro T locs X F H
  obtain ⟨cl, A, e1, -⟩ := H.2 a _ hμ
  obtain ⟨s2, o, h1, h2⟩ := k' T _ X F H
  exact ⟨s2, o, X.baloadBytes C.1 A.1 (State.isArrayOf_alike C.2.2.2.1.alike A.2.1) A.2.2 (inb e1 h0 (List.getElem?_eq_some_iff.mp hv).1) (atL e1 hv) (g := mkF m pc L (.int j :: .ref a :: st)) rfl rfl (hb C.2.1 hd) _ h1, h2⟩
theorem zaload (C : Ctx p s m meth c Z own nm B ml rt) {vs : List Value} {a : Addr} {j : Int32} {v : Value} (hd : decode B pc = .ok (.baload, 1)) (hq : pc + 1 = q) (hμ : μ a = some (.inr (.boolean, vs))) (h0 : ¬ j < 0) (hv : vs[j.toNatClampNeg]? = some v) (k' : Go p l e R s m args below meth c Z n0 P kc ks μ k n (mkF m q L (v :: st))) : Go p l e R s m args below meth c Z n0 P kc ks μ k n (mkF m pc L (.int j :: .ref a :: st)) := by
  subst hq
  intro T locs X F H
  obtain ⟨cl, A, e1, -⟩ := H.2 a _ hμ
  obtain ⟨s2, o, h1, h2⟩ := k' T _ X F H
  exact ⟨s2, o, X.baloadBooleans C.1 A.1 (State.isArrayOf_alike C.2.2.2.1.alike A.2.1) A.2.2 (inb e1 h0 (List.getElem?_eq_some_iff.mp hv).1) (atL e1 hv) (g := mkF m pc L (.int j :: .ref a :: st)) rfl rfl (hb C.2.1 hd) _ h1, h2⟩
theorem aaload (C : Ctx p s m meth c Z own nm B ml rt) {ty : FieldType} {vs : List Value} {a : Addr} {j : Int32} {v : Value} (hd : decode B pc = .ok (.aaload, 1)) (hq : pc + 1 = q) (hμ : μ a = some (.inr (ty, vs))) (hr : ty.isReference = true) (h0 : ¬ j < 0) (hv : vs[j.toNatClampNeg]? = some v) (k' : Go p l e R s m args below meth c Z n0 P kc ks μ k n (mkF m q L (v :: st))) : Go p l e R s m args below meth c Z n0 P kc ks μ k n (mkF m pc L (.int j :: .ref a :: st)) := by
  subst hq
  intro T locs X F H
  obtain ⟨cl, A, e1, -⟩ := H.2 a _ hμ
  obtain ⟨s2, o, h1, h2⟩ := k' T _ X F H
  exact ⟨s2, o, X.aaload C.1 A.1 (State.isArrayOf_alike C.2.2.2.1.alike A.2.1) hr A.2.2 (inb e1 h0 (List.getElem?_eq_some_iff.mp hv).1) (atL e1 hv) (g := mkF m pc L (.int j :: .ref a :: st)) rfl rfl (hb C.2.1 hd) _ h1, h2⟩
theorem iastore (C : Ctx p s m meth c Z own nm B ml rt) {vs : List Value} {a : Addr} {j : Int32} {x : Int32} (hd : decode B pc = .ok (.iastore, 1)) (hq : pc + 1 = q) (hμ : μ a = some (.inr (.int, vs))) (h0 : ¬ j < 0) (hj : j.toNatClampNeg < vs.length) (ha : n0 ≤ a) (k' : Go p l e R s m args below meth c Z n0 P kc ks (upd μ a (.inr (.int, vs.set j.toNatClampNeg (.int x)))) k n (mkF m q L st)) : Go p l e R s m args below meth c Z n0 P kc ks μ k n (mkF m pc L ((.int x) :: .int j :: .ref a :: st)) := by
  subst hq
  intro T locs X F H
  have I := H.2 a _ hμ
  obtain ⟨cl, A, e1, -⟩ := id I
  obtain ⟨T', h', X', e', W, stp⟩ := stI X C.1 C.2.2.2.1 rfl A (inb e1 h0 hj) (g := mkF m pc L ((.int x) :: .int j :: .ref a :: st)) rfl rfl (hb C.2.1 hd)
  obtain ⟨s2, o, h1, h2⟩ := k' T' _ X' (Fr.snoc X' F ha) (by rw [e']; exact H.wr W ha (IsA.put I rfl W))
  exact ⟨s2, o, stp _ h1, h2⟩
theorem lastore (C : Ctx p s m meth c Z own nm B ml rt) {vs : List Value} {a : Addr} {j : Int32} {x : Int64} (hd : decode B pc = .ok (.lastore, 1)) (hq : pc + 1 = q) (hμ : μ a = some (.inr (.long, vs))) (h0 : ¬ j < 0) (hj : j.toNatClampNeg < vs.length) (ha : n0 ≤ a) (k' : Go p l e R s m args below meth c Z n0 P kc ks (upd μ a (.inr (.long, vs.set j.toNatClampNeg (.long x)))) k n (mkF m q L st)) : Go p l e R s m args below meth c Z n0 P kc ks μ k n (mkF m pc L ((.long x) :: .int j :: .ref a :: st)) := by
  subst hq
  intro T locs X F H
  have I := H.2 a _ hμ
  obtain ⟨cl, A, e1, -⟩ := id I
  obtain ⟨T', h', X', e', W, stp⟩ := stJ X C.1 C.2.2.2.1 rfl A (inb e1 h0 hj) (g := mkF m pc L ((.long x) :: .int j :: .ref a :: st)) rfl rfl (hb C.2.1 hd)
  obtain ⟨s2, o, h1, h2⟩ := k' T' _ X' (Fr.snoc X' F ha) (by rw [e']; exact H.wr W ha (IsA.put I rfl W))
  exact ⟨s2, o, stp _ h1, h2⟩
theorem castore (C : Ctx p s m meth c Z own nm B ml rt) {vs : List Value} {a : Addr} {j : Int32} {x : Int32} (hd : decode B pc = .ok (.castore, 1)) (hq : pc + 1 = q) (hμ : μ a = some (.inr (.char, vs))) (h0 : ¬ j < 0) (hj : j.toNatClampNeg < vs.length) (ha : n0 ≤ a) (k' : Go p l e R s m args below meth c Z n0 P kc ks (upd μ a (.inr (.char, vs.set j.toNatClampNeg (.int (nar .char x))))) k n (mkF m q L st)) : Go p l e R s m args below meth c Z n0 P kc ks μ k n (mkF m pc L ((.int x) :: .int j :: .ref a :: st)) := by
  subst hq
  intro T locs X F H
  have I := H.2 a _ hμ
  obtain ⟨cl, A, e1, -⟩ := id I
  obtain ⟨T', h', X', e', W, stp⟩ := stC X C.1 C.2.2.2.1 rfl A (inb e1 h0 hj) (g := mkF m pc L ((.int x) :: .int j :: .ref a :: st)) rfl rfl (hb C.2.1 hd)
  obtain ⟨s2, o, h1, h2⟩ := k' T' _ X' (Fr.snoc X' F ha) (by rw [e']; exact H.wr W ha (IsA.put I (fits_nar_char _) W))
  exact ⟨s2, o, stp _ h1, h2⟩
theorem bastore (C : Ctx p s m meth c Z own nm B ml rt) {vs : List Value} {a : Addr} {j : Int32} {x : Int32} (hd : decode B pc = .ok (.bastore, 1)) (hq : pc + 1 = q) (hμ : μ a = some (.inr (.byte, vs))) (h0 : ¬ j < 0) (hj : j.toNatClampNeg < vs.length) (ha : n0 ≤ a) (k' : Go p l e R s m args below meth c Z n0 P kc ks (upd μ a (.inr (.byte, vs.set j.toNatClampNeg (.int x.toInt8.toInt32)))) k n (mkF m q L st)) : Go p l e R s m args below meth c Z n0 P kc ks μ k n (mkF m pc L ((.int x) :: .int j :: .ref a :: st)) := by
  subst hq
  intro T locs X F H
  have I := H.2 a _ hμ
  obtain ⟨cl, A, e1, -⟩ := id I
  obtain ⟨T', h', X', e', W, stp⟩ := stB X C.1 C.2.2.2.1 rfl A (inb e1 h0 hj) (g := mkF m pc L ((.int x) :: .int j :: .ref a :: st)) rfl rfl (hb C.2.1 hd)
  obtain ⟨s2, o, h1, h2⟩ := k' T' _ X' (Fr.snoc X' F ha) (by rw [e']; exact H.wr W ha (IsA.put I (fits_nar_byte _) W))
  exact ⟨s2, o, stp _ h1, h2⟩
theorem zastore (C : Ctx p s m meth c Z own nm B ml rt) {vs : List Value} {a : Addr} {j : Int32} {x : Int32} (hd : decode B pc = .ok (.bastore, 1)) (hq : pc + 1 = q) (hμ : μ a = some (.inr (.boolean, vs))) (h0 : ¬ j < 0) (hj : j.toNatClampNeg < vs.length) (ha : n0 ≤ a) (k' : Go p l e R s m args below meth c Z n0 P kc ks (upd μ a (.inr (.boolean, vs.set j.toNatClampNeg (.int (nar .boolean x))))) k n (mkF m q L st)) : Go p l e R s m args below meth c Z n0 P kc ks μ k n (mkF m pc L ((.int x) :: .int j :: .ref a :: st)) := by
  subst hq
  intro T locs X F H
  have I := H.2 a _ hμ
  obtain ⟨cl, A, e1, -⟩ := id I
  obtain ⟨T', h', X', e', W, stp⟩ := stZ X C.1 C.2.2.2.1 rfl A (inb e1 h0 hj) (g := mkF m pc L ((.int x) :: .int j :: .ref a :: st)) rfl rfl (hb C.2.1 hd)
  obtain ⟨s2, o, h1, h2⟩ := k' T' _ X' (Fr.snoc X' F ha) (by rw [e']; exact H.wr W ha (IsA.put I (fits_nar_bool _) W))
  exact ⟨s2, o, stp _ h1, h2⟩
theorem aastore (C : Ctx p s m meth c Z own nm B ml rt) {K : String} {vs : List Value} {a : Addr} {j : Int32} {v : Value} (hd : decode B pc = .ok (.aastore, 1)) (hq : pc + 1 = q) (hμ : μ a = some (.inr (.object K, vs))) (hv : v = .null ∨ ∃ b, v = .ref b ∧ ∀ h, Hp Z n0 μ h → Ins Z h b K true) (h0 : ¬ j < 0) (hj : j.toNatClampNeg < vs.length) (ha : n0 ≤ a) (k' : Go p l e R s m args below meth c Z n0 P kc ks (upd μ a (.inr (.object K, vs.set j.toNatClampNeg v))) k n (mkF m q L st)) : Go p l e R s m args below meth c Z n0 P kc ks μ k n (mkF m pc L (v :: .int j :: .ref a :: st)) := by
  subst hq
  intro T locs X F H
  have I := H.2 a _ hμ
  obtain ⟨cl, A, e1, -, -, O⟩ := id I
  have S : Sto Z T.heap a v := by
    rcases hv with rfl | ⟨b, rfl, hb⟩
    · exact Or.inl rfl
    · exact Sto.of A (O ha K rfl) (hb _ H)
  have hf : fits (.object K) v = true := by
    rcases hv with rfl | ⟨b, rfl, -⟩ <;> rfl
  obtain ⟨T', h', X', e', W, stp⟩ := stR X C.1 C.2.2.2.1 rfl A (inb e1 h0 hj) rfl S (g := mkF m pc L (v :: .int j :: .ref a :: st)) rfl rfl (hb C.2.1 hd)
  obtain ⟨s2, o, h1, h2⟩ := k' T' _ X' (Fr.snoc X' F ha) (by rw [e']; exact H.wr W ha (IsA.put I hf W))
  exact ⟨s2, o, stp _ h1, h2⟩
/-! returns -/
theorem ireturn (C : Ctx p s m meth c Z own nm B ml (some .int)) {z : Int32} (hd : decode B pc = .ok (.ireturn, 1)) (hk : k ≤ kc) (hn : n ≤ ks) (h : P (some (.int z)) μ) : Go p l e R s m args below meth c Z n0 P kc ks μ k n (mkF m pc L (.int z :: st)) := fun T locs X F H => by
  obtain ⟨fs, hr, hrun, hended, hW, hsame⟩ := X.leave (v := some (.int z)) (fun h => by rw [C.2.2.2.2.2.1] at h; cases h) C.2.2.2.2.2.2.1
  exact ⟨_, _, retOut X C.1 C.2.2.2.2.2.1 rfl (Or.inl ⟨rfl, Or.inl rfl, z, rfl⟩) (hb C.2.1 hd) hr, hrun, hended, _, _, rfl, ⟨F, μ, H, h⟩, ⟨_, rfl⟩, hW, hsame.mono hk hn⟩
theorem nreturn {t : FieldType} (C : Ctx p s m meth c Z own nm B ml (some t)) {z z' : Int32} (hd : decode B pc = .ok (.ireturn, 1)) (ht : t = .boolean ∨ t = .byte ∨ t = .char ∨ t = .short) (hz : nar t z = z') (hk : k ≤ kc) (hn : n ≤ ks) (h : P (some (.int z')) μ) : Go p l e R s m args below meth c Z n0 P kc ks μ k n (mkF m pc L (.int z :: st)) := fun T locs X F H => by
  subst hz
  obtain ⟨fs, hr, hrun, hended, hW, hsame⟩ := X.leave (v := some (.int (nar t z))) (fun h => by rw [C.2.2.2.2.2.1] at h; cases h) C.2.2.2.2.2.2.1
  exact ⟨_, _, retN X C.1 C.2.2.2.2.2.1 ht (hb C.2.1 hd) hr, hrun, hended, _, _, rfl, ⟨F, μ, H, h⟩, ⟨_, rfl⟩, hW, hsame.mono hk hn⟩
theorem lreturn (C : Ctx p s m meth c Z own nm B ml (some .long)) {z : Int64} (hd : decode B pc = .ok (.lreturn, 1)) (hk : k ≤ kc) (hn : n ≤ ks) (h : P (some (.long z)) μ) : Go p l e R s m args below meth c Z n0 P kc ks μ k n (mkF m pc L (.long z :: st)) := fun T locs X F H => by
  obtain ⟨fs, hr, hrun, hended, hW, hsame⟩ := X.leave (v := some (.long z)) (fun h => by rw [C.2.2.2.2.2.1] at h; cases h) C.2.2.2.2.2.2.1
  exact ⟨_, _, retOut X C.1 C.2.2.2.2.2.1 rfl (Or.inr (Or.inl ⟨rfl, rfl, z, rfl⟩)) (hb C.2.1 hd) hr, hrun, hended, _, _, rfl, ⟨F, μ, H, h⟩, ⟨_, rfl⟩, hW, hsame.mono hk hn⟩
theorem nref {t : FieldType} {v : Value} (h1 : t.isReference = true) (h2 : v.isRef = true) : narrow t v = v := by
  cases t <;> first | (cases h1; done) | rfl
theorem areturn {t : FieldType} (C : Ctx p s m meth c Z own nm B ml (some t)) {v : Value} (ht : t.isReference = true) (hv : v.isRef = true) (hd : decode B pc = .ok (.areturn, 1)) (hk : k ≤ kc) (hn : n ≤ ks) (h : P (some v) μ) : Go p l e R s m args below meth c Z n0 P kc ks μ k n (mkF m pc L (v :: st)) := fun T locs X F H => by
  obtain ⟨fs, hr, hrun, hended, hW, hsame⟩ := X.leave (v := some v) (fun h => by rw [C.2.2.2.2.2.1] at h; cases h) C.2.2.2.2.2.2.1
  exact ⟨_, _, retOut X C.1 C.2.2.2.2.2.1 (nref ht hv) (Or.inr (Or.inr (Or.inr (Or.inr ⟨rfl, ht, hv⟩)))) (hb C.2.1 hd) hr, hrun, hended, _, _, rfl, ⟨F, μ, H, h⟩, ⟨_, rfl⟩, hW, hsame.mono hk hn⟩
theorem vreturn (C : Ctx p s m meth c Z own nm B ml none) (hd : decode B pc = .ok (.return_, 1)) (hk : k ≤ kc) (hn : n ≤ ks) (h : P none μ) : Go p l e R s m args below meth c Z n0 P kc ks μ k n (mkF m pc L []) := fun T locs X F H => by
  obtain ⟨fs, hr, hrun, hended, hW, hsame⟩ := X.leave (v := none) (fun _ => rfl) C.2.2.2.2.2.2.1
  exact ⟨_, _, X.returnOut C.1 C.2.2.2.2.2.1 (hb C.2.1 hd) hr, hrun, hended, _, _, rfl, ⟨F, μ, H, h⟩, ⟨_, rfl⟩, hW, hsame.mono hk hn⟩
/-! what a callee leaves, by the kind of its return -/
def RV (Q : Mem → Prop) : Option Value → Mem → Prop := fun v μ => v = none ∧ Q μ
def RI (Q : Int32 → Mem → Prop) : Option Value → Mem → Prop := fun v μ => ∃ z, v = some (.int z) ∧ Q z μ
def RJ (Q : Int64 → Mem → Prop) : Option Value → Mem → Prop := fun v μ => ∃ z, v = some (.long z) ∧ Q z μ
def RR (Q : Value → Mem → Prop) : Option Value → Mem → Prop := fun v μ => ∃ z : Value, v = some z ∧ z.isRef = true ∧ Q z μ
section Nx
variable {k2 n2 : Nat}
theorem nxV {Q : Mem → Prop} (h : ∀ μ', Q μ' → Go p l e R s m args below meth c Z n0 P kc ks μ' k2 n2 (mkF m q L st)) : ∀ v μ', RV Q v μ' → Go p l e R s m args below meth c Z n0 P kc ks μ' k2 n2 (mkF m q L (v.toList ++ st)) := fun v μ' ⟨e1, e2⟩ => by subst e1; exact h μ' e2
theorem nxI {Q : Int32 → Mem → Prop} (h : ∀ z μ', Q z μ' → Go p l e R s m args below meth c Z n0 P kc ks μ' k2 n2 (mkF m q L (.int z :: st))) : ∀ v μ', RI Q v μ' → Go p l e R s m args below meth c Z n0 P kc ks μ' k2 n2 (mkF m q L (v.toList ++ st)) := fun v μ' ⟨z, e1, e2⟩ => by subst e1; exact h z μ' e2
theorem nxJ {Q : Int64 → Mem → Prop} (h : ∀ z μ', Q z μ' → Go p l e R s m args below meth c Z n0 P kc ks μ' k2 n2 (mkF m q L (.long z :: st))) : ∀ v μ', RJ Q v μ' → Go p l e R s m args below meth c Z n0 P kc ks μ' k2 n2 (mkF m q L (v.toList ++ st)) := fun v μ' ⟨z, e1, e2⟩ => by subst e1; exact h z μ' e2
theorem nxR {Q : Value → Mem → Prop} (h : ∀ z μ', z.isRef = true → Q z μ' → Go p l e R s m args below meth c Z n0 P kc ks μ' k2 n2 (mkF m q L (z :: st))) : ∀ v μ', RR Q v μ' → Go p l e R s m args below meth c Z n0 P kc ks μ' k2 n2 (mkF m q L (v.toList ++ st)) := fun v μ' ⟨z, e1, e2, e3⟩ => by subst e1; exact h z μ' e2 e3
end Nx
/-! calls by contract -/
theorem backs {y : MethodName} {B' : ByteArray} {ml' : Nat} {rt' : Option FieldType} {rm : Room} {len W : Nat} {as' : Array Value} {P' : Option Value → Mem → Prop} {h : Heap}
    (con : Con l Z n0 y B' ml' rt' [] rm rm.cells rm.slots as' μ P') (H : Hp Z n0 μ h) (hZ : Z.Warmed39 s.vm) (wc : (Cond.code y B' ml' rt').before a0 Z = true) (wz : (Cond.initialized y.cls).before a0 Z = true) (hf : rm.frames + 1 ≤ R.frames) (hl : W + (ml' + 11) + rm.locals ≤ R.locals) :
    Back l R p e below s args y len W (fun A a => a = as' ∧ A.U.heap = h ∧ A.cells + rm.cells ≤ R.cells ∧ A.slots + rm.slots ≤ R.slots)
      (fun A _ v B => ∃ L, (Fr n0 L ∧ ∃ μ', Hp Z n0 μ' B.U.heap ∧ P' v μ') ∧ B.locs = A.locs ++ L ∧ B.cells = A.cells + rm.cells ∧ B.slots = A.slots + rm.slots) :=
  backOf (Q := fun v h' L => Fr n0 L ∧ ∃ μ', Hp Z n0 μ' h' ∧ P' v μ') (con h H) hZ wc wz hf hl
theorem callS (C : Ctx p s m meth c Z own nm B ml rt) {i : Nat} {y : MethodName} {B' : ByteArray} {ml' : Nat} {rt' : Option FieldType} {rm : Room} {W : Nat} {argsL : List Value} {P' : Option Value → Mem → Prop} {S : List Value} (hd : decode B pc = .ok (.invokestatic i, 3)) (hq : pc + 3 = q)
    (w1 : (Cond.methodLink own i y).before a0 Z = true) (w2 : (Cond.static y).before a0 Z = true) (w3 : (Cond.initialized y.cls).before a0 Z = true) (w4 : (Cond.code y B' ml' rt').before a0 Z = true) (hy : y.cls ≠ "java/lang/invoke/MethodHandle" ∧ y.cls ≠ "java/lang/invoke/VarHandle")
    (hlen : ∀ sig, parseMethodDescriptor y.desc = some sig → argsL.length = sig.parameters.length) (hS : S = argsL.reverse ++ st) (hsz : L.size = ml) (hW : 2 * 0 + (st.map fun v => v.category).sum ≤ W) (hf : rm.frames + 1 ≤ R.frames) (hl : W + (ml' + 11) + rm.locals ≤ R.locals) (hc : k + rm.cells ≤ R.cells) (hs : n + rm.slots ≤ R.slots)
    (con : Con l Z n0 y B' ml' rt' [] rm rm.cells rm.slots argsL.toArray μ P')
    (k' : ∀ v μ', P' v μ' → Go p l e R s m args below meth c Z n0 P kc ks μ' (k + rm.cells) (n + rm.slots) (mkF m q L (v.toList ++ st))) : Go p l e R s m args below meth c Z n0 P kc ks μ k n (mkF m pc L S) := by
  subst hq
  intro T locs X F H
  obtain ⟨v, vm1, ⟨T', L', k2, n2⟩, -, X', ⟨Lc, ⟨N, μ', H', hP⟩, e1, e2, e3⟩, stp⟩ := Jvm.LawKit.callS X C.1 (y := y) C.2.2.2.2.1 (mvT C.2.2.2.1 w1) (mvT C.2.2.2.1 w2) (mvT C.2.2.2.1 w3) (mvT C.2.2.2.1 w4) hy (backs (W := W) con H C.2.2.2.1 w4 w3 hf hl) (g := mkF m pc L S) rfl (hsz.trans C.2.2.1.symm) (argsL := argsL) (rest := st) hlen hS hW (hb C.2.1 hd) (fun _ _ => ⟨rfl, rfl, hc, hs⟩)
  dsimp only [Pt.U, Pt.locs, Pt.cells, Pt.slots] at X' e1 e2 e3 stp H'
  subst e1 e2 e3
  obtain ⟨s2, o, h1, h2⟩ := k' v μ' hP T' _ X' (F.app N) H'
  exact ⟨s2, o, stp _ h1, h2⟩
theorem callI (C : Ctx p s m meth c Z own nm B ml rt) {i : Nat} {y : MethodName} {B' : ByteArray} {ml' : Nat} {rm : Room} {W : Nat} {argsL : List Value} {P' : Option Value → Mem → Prop} {S : List Value} {a : Addr} (hd : decode B pc = .ok (.invokespecial i, 3)) (hq : pc + 3 = q) (hnm : y.name = "<init>")
    (w1 : (Cond.methodLink own i y).before a0 Z = true) (w2 : (Cond.instanceMethod y).before a0 Z = true) (w3 : (Cond.initialized y.cls).before a0 Z = true) (w4 : (Cond.code y B' ml' none).before a0 Z = true) (hy : y.cls ≠ "java/lang/invoke/MethodHandle" ∧ y.cls ≠ "java/lang/invoke/VarHandle")
    (hlen : ∀ sig, parseMethodDescriptor y.desc = some sig → argsL.length = sig.parameters.length) (hS : S = argsL.reverse ++ .ref a :: st) (hsz : L.size = ml) (hW : 2 * 0 + (st.map fun v => v.category).sum ≤ W) (hf : rm.frames + 1 ≤ R.frames) (hl : W + (ml' + 11) + rm.locals ≤ R.locals) (hc : k + rm.cells ≤ R.cells) (hs : n + rm.slots ≤ R.slots)
    (con : Con l Z n0 y B' ml' none [] rm rm.cells rm.slots (.ref a :: argsL).toArray μ P')
    (k' : ∀ v μ', P' v μ' → Go p l e R s m args below meth c Z n0 P kc ks μ' (k + rm.cells) (n + rm.slots) (mkF m q L (v.toList ++ st))) : Go p l e R s m args below meth c Z n0 P kc ks μ k n (mkF m pc L S) := by
  subst hq
  intro T locs X F H
  obtain ⟨v, vm1, ⟨T', L', k2, n2⟩, -, X', ⟨Lc, ⟨N, μ', H', hP⟩, e1, e2, e3⟩, stp⟩ := X.specialBack C.1 (y := y) hnm C.2.2.2.2.1 (mvT C.2.2.2.1 w1) (mvT C.2.2.2.1 w2) (mvT C.2.2.2.1 w4) hy (backs (W := W) con H C.2.2.2.1 w4 w3 hf hl) (g := mkF m pc L S) rfl (hsz.trans C.2.2.1.symm) (Steps.refl _) (a := a) (argsL := argsL) (rest := st) hlen hS hW (hb C.2.1 hd) (fun _ _ => ⟨rfl, rfl, hc, hs⟩)
  dsimp only [Pt.U, Pt.locs, Pt.cells, Pt.slots] at X' e1 e2 e3 stp H'
  subst e1 e2 e3
  obtain ⟨s2, o, h1, h2⟩ := k' v μ' hP T' _ X' (F.app N) H'
  exact ⟨s2, o, stp.trans h1, h2⟩
theorem initObj (C : Ctx p s m meth c Z own nm B ml rt) {i W : Nat} {a : Addr} (hd : decode B pc = .ok (.invokespecial i, 3)) (hq : pc + 3 = q) (w1 : (Cond.methodLink own i Lib.objectInit).before a0 Z = true) (w2 : (Cond.instanceMethod Lib.objectInit).before a0 Z = true) (w3 : (Cond.code Lib.objectInit ⟨#[0xb1]⟩ 1 none).before a0 Z = true)
    (hsz : L.size = ml) (hf : 1 ≤ R.frames) (hW : 2 * 0 + (st.map fun v => v.category).sum ≤ W) (hl : W + 12 ≤ R.locals) (k' : Go p l e R s m args below meth c Z n0 P kc ks μ k n (mkF m q L st)) : Go p l e R s m args below meth c Z n0 P kc ks μ k n (mkF m pc L (.ref a :: st)) := by
  subst hq
  exact Go.stand k' fun T locs X H => initO X C.1 C.2.2.2.1 C.2.2.2.2.1 w1 w2 w3 rfl (g := mkF m pc L (.ref a :: st)) rfl (hsz.trans C.2.2.1.symm) rfl (hb C.2.1 hd) hf hW hl
theorem callV (C : Ctx p s m meth c Z own nm B ml rt) {i : Nat} {y z : MethodName} {K : String} {fs : List (Key × Value)} {B' : ByteArray} {ml' : Nat} {rt' : Option FieldType} {rm : Room} {W : Nat} {argsL : List Value} {P' : Option Value → Mem → Prop} {S : List Value} {a : Addr} (hd : decode B pc = .ok (.invokevirtual i, 3)) (hq : pc + 3 = q)
    (w1 : (Cond.methodLink own i y).before a0 Z = true) (w2 : (Cond.declares y).before a0 Z = true) (hnf : NotFace s y) (w5 : (Cond.selects K y z).before a0 Z = true) (w6 : (Cond.instanceMethod z).before a0 Z = true) (w3 : (Cond.initialized z.cls).before a0 Z = true) (w4 : (Cond.code z B' ml' rt').before a0 Z = true) (hy : y.cls ≠ "java/lang/invoke/MethodHandle" ∧ y.cls ≠ "java/lang/invoke/VarHandle")
    (hlen : ∀ sig, parseMethodDescriptor y.desc = some sig → argsL.length = sig.parameters.length) (hS : S = argsL.reverse ++ .ref a :: st) (hsz : L.size = ml) (hW : 2 * 0 + (st.map fun v => v.category).sum ≤ W) (hf : rm.frames + 1 ≤ R.frames) (hl : W + (ml' + 11) + rm.locals ≤ R.locals) (hc : k + rm.cells ≤ R.cells) (hs : n + rm.slots ≤ R.slots)
    (hμ : μ a = some (.inl (K, fs))) (con : Con l Z n0 z B' ml' rt' [] rm rm.cells rm.slots (.ref a :: argsL).toArray μ P')
    (k' : ∀ v μ', P' v μ' → Go p l e R s m args below meth c Z n0 P kc ks μ' (k + rm.cells) (n + rm.slots) (mkF m q L (v.toList ++ st))) : Go p l e R s m args below meth c Z n0 P kc ks μ k n (mkF m pc L S) := by
  subst hq
  intro T locs X F H
  obtain ⟨cq, kq, qa, qb, qc⟩ := isOf (T := T) C.2.2.2.1 rfl (H.2 a _ hμ).1
  obtain ⟨v, vm1, ⟨T', L', k2, n2⟩, -, X', ⟨Lc, ⟨N, μ', H', hP⟩, e1, e2, e3⟩, stp⟩ := X.virtualBack C.1 (y := y) (z := z) C.2.2.2.2.1 (mvT C.2.2.2.1 w1) (mvT C.2.2.2.1 w2) hnf (mvT C.2.2.2.1 w5) (mvT C.2.2.2.1 w6) hy (backs (W := W) con H C.2.2.2.1 w4 w3 hf hl) qa qc (g := mkF m pc L S) rfl (hsz.trans C.2.2.1.symm) (Steps.refl _) (argsL := argsL) (rest := st) hlen hS hW (hb C.2.1 hd) (fun _ _ => ⟨rfl, rfl, hc, hs⟩)
  dsimp only [Pt.U, Pt.locs, Pt.cells, Pt.slots] at X' e1 e2 e3 stp H'
  subst e1 e2 e3
  obtain ⟨s2, o, h1, h2⟩ := k' v μ' hP T' _ X' (F.app N) H'
  exact ⟨s2, o, stp.trans h1, h2⟩
theorem callP (C : Ctx p s m meth c Z own nm B ml rt) {i : Nat} {y : MethodName} {K : String} {fs : List (Key × Value)} {B' : ByteArray} {ml' : Nat} {rt' : Option FieldType} {rm : Room} {W : Nat} {argsL : List Value} {P' : Option Value → Mem → Prop} {S : List Value} {a : Addr} (hd : decode B pc = .ok (.invokevirtual i, 3)) (hq : pc + 3 = q)
    (w1 : (Cond.methodLink own i y).before a0 Z = true) (w2 : (Cond.privateMethod y).before a0 Z = true) {kk : Nat} (w5 : (Cond.instantiable y.cls kk).before a0 Z = true) (w6 : (Cond.instanceMethod y).before a0 Z = true) (w3 : (Cond.initialized y.cls).before a0 Z = true) (w4 : (Cond.code y B' ml' rt').before a0 Z = true) (hy : y.cls ≠ "java/lang/invoke/MethodHandle" ∧ y.cls ≠ "java/lang/invoke/VarHandle")
    (hlen : ∀ sig, parseMethodDescriptor y.desc = some sig → argsL.length = sig.parameters.length) (hS : S = argsL.reverse ++ .ref a :: st) (hsz : L.size = ml) (hW : 2 * 0 + (st.map fun v => v.category).sum ≤ W) (hf : rm.frames + 1 ≤ R.frames) (hl : W + (ml' + 11) + rm.locals ≤ R.locals) (hc : k + rm.cells ≤ R.cells) (hs : n + rm.slots ≤ R.slots)
    (hμ : μ a = some (.inl (K, fs))) (con : Con l Z n0 y B' ml' rt' [] rm rm.cells rm.slots (.ref a :: argsL).toArray μ P')
    (k' : ∀ v μ', P' v μ' → Go p l e R s m args below meth c Z n0 P kc ks μ' (k + rm.cells) (n + rm.slots) (mkF m q L (v.toList ++ st))) : Go p l e R s m args below meth c Z n0 P kc ks μ k n (mkF m pc L S) := by
  subst hq
  intro T locs X F H
  obtain ⟨cq, q1, q2⟩ := (H.2 a _ hμ).1.cell
  have hp : s.PrivateAt y := Cond.privateMethod_at (mvP C.2.2.2.1 w2 (args := #[]))
  obtain ⟨c2, k2, i1, i2, -, i4, -⟩ := Cond.instantiable_spec (show (Cond.instantiable y.cls kk).before args s = true from mvT C.2.2.2.1 w5)
  have h5 : (Cond.selects y.cls y y).before args s = true := Jvm.Stand.selects_self_of_private i1 i2 (by simp only [Bool.or_eq_false_iff] at i4; exact i4.1) hp (mvT C.2.2.2.1 w6) hy
  obtain ⟨v, vm1, ⟨T', L', k2, n2⟩, -, X', ⟨Lc, ⟨N, μ', H', hP⟩, e1, e2, e3⟩, stp⟩ := X.privateBack C.1 (y := y) C.2.2.2.2.1 (mvT C.2.2.2.1 w1) (mvT C.2.2.2.1 w6) h5 hp (mvT C.2.2.2.1 w4) hy (backs (W := W) con H C.2.2.2.1 w4 w3 hf hl) (g := mkF m pc L S) rfl (hsz.trans C.2.2.1.symm) (Steps.refl _) (a := a) q1 q2 (argsL := argsL) (rest := st) hlen hS hW (hb C.2.1 hd) (fun _ _ => ⟨rfl, rfl, hc, hs⟩)
  dsimp only [Pt.U, Pt.locs, Pt.cells, Pt.slots] at X' e1 e2 e3 stp H'
  subst e1 e2 e3
  obtain ⟨s2, o, h1, h2⟩ := k' v μ' hP T' _ X' (F.app N) H'
  exact ⟨s2, o, stp.trans h1, h2⟩
end Rules
end Jvm.Own
namespace Jvm.Pilot.@@N@@
open Jvm Jvm.ClassFile Sem Op Lib Jvm.Free Jvm.Stand Jvm.LawKit Jvm.RoadKit Bundle Jvm.Own Jvm.Pilot.@@N@@.Jvm.D
def By (z : Int32) : Prop := z.toInt8.toInt32 = z
theorem by_by (x : Int32) : By x.toInt8.toInt32 := by
  unfold By; apply Int32.toInt_inj.mp; have o1 := c_i2b x; have o2 := c_i2b x.toInt8.toInt32; omega
def dgv (b : Int32) : Int32 := if b < 48 then 0 else if 57 < b then 0 else 1
def ffv (b : Int32) : Int32 := if b = -1 then 1 else 0
theorem dg0 {b : Int32} (h : ¬ dgv b = 0) : dgv b = 1 := by unfold dgv at *; split <;> simp_all
theorem ff0 {b : Int32} (h : ¬ ffv b = 0) : b = -1 := by unfold ffv at h; simp at h; exact h
theorem ff1 {b : Int32} (h : ffv b = 0) : ¬ b = -1 := by unfold ffv at h; simp at h; exact h
def six (b0 b1 b2 b3 b4 b5 : Int32) : Int32 := if dgv b0 = 1 ∧ dgv b1 = 1 ∧ dgv b2 = 1 ∧ dgv b3 = 1 ∧ dgv b4 = 1 ∧ dgv b5 = 1 then 1 else 0
def tail (b6 b7 : Int32) : Int32 := if (dgv b6 = 1 ∧ dgv b7 = 1) ∨ (dgv b6 = 1 ∧ b7 = -1) ∨ (b6 = -1 ∧ b7 = -1) then 1 else 0
def ar (n : Nat) (f : Nat → Int32) : List Value := (List.range n).map fun i => Value.int (f i)
theorem ar_len (n : Nat) (f : Nat → Int32) : (ar n f).length = n := by simp [ar]
theorem ar_get {n i : Nat} (f : Nat → Int32) (h : i < n) : (ar n f)[i]? = some (.int (f i)) := by simp [ar, h]
theorem tn {z : Int32} (h : 0 ≤ z.toInt) : (z.toNatClampNeg : Int) = z.toInt := by simp only [Int32.toNatClampNeg]; omega
theorem toI {k : Nat} (h : k < 2147483648) : (Int32.ofNat k).toInt = k := Int32.toInt_ofNat_small h
theorem toN {k : Nat} (h : k < 2147483648) : (Int32.ofNat k).toNatClampNeg = k := by simp only [Int32.toNatClampNeg, toI h]; rfl
theorem nn {k : Nat} (h : k < 2147483648) : ¬ (Int32.ofNat k) < 0 := by rw [Int32.lt_iff_toInt_lt, toI h]; exact fun q => by have e : (0 : Int32).toInt = 0 := rfl; omega
theorem lt_lit {j : Nat} (h : j < 2147483648) (k : Int32) : Int32.ofNat j < k ↔ (j : Int) < k.toInt := by rw [Int32.lt_iff_toInt_lt, toI h]
def Pin (f : Nat → Int32) (z : Int32) : Prop := ∃ k, k ≤ 8 ∧ (∀ i, i < k → dgv (f i) = 1) ∧ (k < 8 → dgv (f k) = 0) ∧ ((z = 1 ∧ 6 ≤ k ∧ ∀ i, k ≤ i → i < 8 → f i = -1) ∨ (z = 0 ∧ (k < 6 ∨ ∃ i, k ≤ i ∧ i < 8 ∧ ¬ f i = -1)))
def fn8 (b0 b1 b2 b3 b4 b5 b6 b7 : Int32) (i : Nat) : Int32 := [b0, b1, b2, b3, b4, b5, b6, b7].getD i 0
theorem dg_ff : dgv (-1) = 0 := by decide
theorem pin_law {b0 b1 b2 b3 b4 b5 b6 b7 z : Int32} (h : Pin (fn8 b0 b1 b2 b3 b4 b5 b6 b7) z) : z = if six b0 b1 b2 b3 b4 b5 = 1 ∧ tail b6 b7 = 1 then 1 else 0 := by
  obtain ⟨k, hk, h1, h2, h3⟩ := h
  have n0 : dgv b0 = 0 ∨ dgv b0 = 1 := by rcases Decidable.em (dgv b0 = 0) with q | q; exact Or.inl q; exact Or.inr (dg0 q)
  have d : ∀ i, fn8 b0 b1 b2 b3 b4 b5 b6 b7 i = [b0, b1, b2, b3, b4, b5, b6, b7].getD i 0 := fun _ => rfl
  have hk' : k = 0 ∨ k = 1 ∨ k = 2 ∨ k = 3 ∨ k = 4 ∨ k = 5 ∨ k = 6 ∨ k = 7 ∨ k = 8 := by omega
  rcases hk' with rfl | rfl | rfl | rfl | rfl | rfl | rfl | rfl | rfl
  · have q := h2 (by omega); rw [d] at q; simp at q; simp [six, q]; rcases h3 with ⟨_, h, _⟩ | ⟨h, _⟩; omega; exact h
  · have q := h2 (by omega); rw [d] at q; simp at q; simp [six, q]; rcases h3 with ⟨_, h, _⟩ | ⟨h, _⟩; omega; exact h
  · have q := h2 (by omega); rw [d] at q; simp at q; simp [six, q]; rcases h3 with ⟨_, h, _⟩ | ⟨h, _⟩; omega; exact h
  · have q := h2 (by omega); rw [d] at q; simp at q; simp [six, q]; rcases h3 with ⟨_, h, _⟩ | ⟨h, _⟩; omega; exact h
  · have q := h2 (by omega); rw [d] at q; simp at q; simp [six, q]; rcases h3 with ⟨_, h, _⟩ | ⟨h, _⟩; omega; exact h
  · have q := h2 (by omega); rw [d] at q; simp at q; simp [six, q]; rcases h3 with ⟨_, h, _⟩ | ⟨h, _⟩; omega; exact h
  · have q0 := h1 0 (by omega); have q1 := h1 1 (by omega); have q2 := h1 2 (by omega); have q3 := h1 3 (by omega); have q4 := h1 4 (by omega); have q5 := h1 5 (by omega); have q6 := h2 (by omega)
    rw [d] at q0 q1 q2 q3 q4 q5 q6; simp at q0 q1 q2 q3 q4 q5 q6
    rcases h3 with ⟨h, _, h'⟩ | ⟨h, h' | ⟨i, i1, i2, i3⟩⟩
    · have r6 := h' 6 (by omega) (by omega); have r7 := h' 7 (by omega) (by omega); rw [d] at r6 r7; simp at r6 r7
      simp [six, tail, q0, q1, q2, q3, q4, q5, r6, r7, h]
    · omega
    · have hi : i = 6 ∨ i = 7 := by omega
      rw [d] at i3
      rcases hi with rfl | rfl <;> simp at i3 <;> simp [six, tail, q0, q1, q2, q3, q4, q5, q6, i3, h]
  · have q0 := h1 0 (by omega); have q1 := h1 1 (by omega); have q2 := h1 2 (by omega); have q3 := h1 3 (by omega); have q4 := h1 4 (by omega); have q5 := h1 5 (by omega); have q6 := h1 6 (by omega); have q7 := h2 (by omega)
    rw [d] at q0 q1 q2 q3 q4 q5 q6 q7; simp at q0 q1 q2 q3 q4 q5 q6 q7
    have n6 : ¬ b6 = -1 := fun q => by rw [q] at q6; exact absurd q6 (by decide)
    rcases h3 with ⟨h, _, h'⟩ | ⟨h, h' | ⟨i, i1, i2, i3⟩⟩
    · have r7 := h' 7 (by omega) (by omega); rw [d] at r7; simp at r7
      simp [six, tail, q0, q1, q2, q3, q4, q5, q6, r7, h]
    · omega
    · have hi : i = 7 := by omega
      subst hi; rw [d] at i3; simp at i3; simp [six, tail, q0, q1, q2, q3, q4, q5, q6, q7, i3, n6, h]
  · have q0 := h1 0 (by omega); have q1 := h1 1 (by omega); have q2 := h1 2 (by omega); have q3 := h1 3 (by omega); have q4 := h1 4 (by omega); have q5 := h1 5 (by omega); have q6 := h1 6 (by omega); have q7 := h1 7 (by omega)
    rw [d] at q0 q1 q2 q3 q4 q5 q6 q7; simp at q0 q1 q2 q3 q4 q5 q6 q7
    rcases h3 with ⟨h, _, _⟩ | ⟨h, h' | ⟨i, i1, i2, i3⟩⟩
    · simp [six, tail, q0, q1, q2, q3, q4, q5, q6, q7, h]
    · omega
    · omega
abbrev rm_1 : Room := { frames := 0, cells := 0, slots := 0, locals := 0 }
theorem d1_0 : decode method_2_code 0 = .ok (.iload_n 1, 1) := by decide +kernel
theorem d1_1 : decode method_2_code 1 = .ok (.sipush 255, 3) := by decide +kernel
theorem d1_4 : decode method_2_code 4 = .ok (.iand, 1) := by decide +kernel
theorem d1_5 : decode method_2_code 5 = .ok (.istore_n 2, 1) := by decide +kernel
theorem d1_6 : decode method_2_code 6 = .ok (.iload_n 0, 1) := by decide +kernel
theorem d1_7 : decode method_2_code 7 = .ok (.ifCond .ne 12, 3) := by decide +kernel
theorem d1_10 : decode method_2_code 10 = .ok (.bipush 48, 2) := by decide +kernel
theorem d1_12 : decode method_2_code 12 = .ok (.iload_n 2, 1) := by decide +kernel
theorem d1_13 : decode method_2_code 13 = .ok (.bipush 10, 2) := by decide +kernel
theorem d1_15 : decode method_2_code 15 = .ok (.irem, 1) := by decide +kernel
theorem d1_16 : decode method_2_code 16 = .ok (.iadd, 1) := by decide +kernel
theorem d1_17 : decode method_2_code 17 = .ok (.i2b, 1) := by decide +kernel
theorem d1_18 : decode method_2_code 18 = .ok (.ireturn, 1) := by decide +kernel
theorem d1_19 : decode method_2_code 19 = .ok (.iload_n 0, 1) := by decide +kernel
theorem d1_20 : decode method_2_code 20 = .ok (.iconst 1, 1) := by decide +kernel
theorem d1_21 : decode method_2_code 21 = .ok (.if_icmp .ne 5, 3) := by decide +kernel
theorem d1_24 : decode method_2_code 24 = .ok (.iconst (-1), 1) := by decide +kernel
theorem d1_25 : decode method_2_code 25 = .ok (.ireturn, 1) := by decide +kernel
theorem d1_26 : decode method_2_code 26 = .ok (.iload_n 0, 1) := by decide +kernel
theorem d1_27 : decode method_2_code 27 = .ok (.iconst 2, 1) := by decide +kernel
theorem d1_28 : decode method_2_code 28 = .ok (.if_icmp .ne 32, 3) := by decide +kernel
theorem d1_31 : decode method_2_code 31 = .ok (.iload_n 2, 1) := by decide +kernel
theorem d1_32 : decode method_2_code 32 = .ok (.iconst 3, 1) := by decide +kernel
theorem d1_33 : decode method_2_code 33 = .ok (.iand, 1) := by decide +kernel
theorem d1_34 : decode method_2_code 34 = .ok (.istore_n 3, 1) := by decide +kernel
theorem d1_35 : decode method_2_code 35 = .ok (.iload_n 3, 1) := by decide +kernel
theorem d1_36 : decode method_2_code 36 = .ok (.ifCond .ne 6, 3) := by decide +kernel
theorem d1_39 : decode method_2_code 39 = .ok (.bipush 47, 2) := by decide +kernel
theorem d1_41 : decode method_2_code 41 = .ok (.ireturn, 1) := by decide +kernel
theorem d1_42 : decode method_2_code 42 = .ok (.iload_n 3, 1) := by decide +kernel
theorem d1_43 : decode method_2_code 43 = .ok (.iconst 1, 1) := by decide +kernel
theorem d1_44 : decode method_2_code 44 = .ok (.if_icmp .ne 6, 3) := by decide +kernel
theorem d1_47 : decode method_2_code 47 = .ok (.bipush 58, 2) := by decide +kernel
theorem d1_49 : decode method_2_code 49 = .ok (.ireturn, 1) := by decide +kernel
theorem d1_50 : decode method_2_code 50 = .ok (.iload_n 3, 1) := by decide +kernel
theorem d1_51 : decode method_2_code 51 = .ok (.iconst 2, 1) := by decide +kernel
theorem d1_52 : decode method_2_code 52 = .ok (.if_icmp .ne 6, 3) := by decide +kernel
theorem d1_55 : decode method_2_code 55 = .ok (.bipush (-2), 2) := by decide +kernel
theorem d1_57 : decode method_2_code 57 = .ok (.ireturn, 1) := by decide +kernel
theorem d1_58 : decode method_2_code 58 = .ok (.iconst 0, 1) := by decide +kernel
theorem d1_59 : decode method_2_code 59 = .ok (.ireturn, 1) := by decide +kernel
theorem d1_60 : decode method_2_code 60 = .ok (.iload_n 2, 1) := by decide +kernel
theorem d1_61 : decode method_2_code 61 = .ok (.i2b, 1) := by decide +kernel
theorem d1_62 : decode method_2_code 62 = .ok (.ireturn, 1) := by decide +kernel
set_option maxRecDepth 65536 in
set_option maxHeartbeats 4000000 in
theorem c_pick (l : Launch) (Z : State) (a0 : Array Value) (hw : ∀ d ∈ tables_1, d.before a0 Z = true) (n0 : Nat) (μ : Mem) (x : Int32) (y : Int32)  :
    Con l Z n0 (⟨"com/example/toehold/toehold/piv/ReferenceDataIsPinPinLaw", "pick", "(II)B"⟩ : MethodName) method_2_code 4 (some .byte) [] rm_1 rm_1.cells rm_1.slots #[(.int x), (.int y)] μ (RI fun z μ' => μ' = μ ∧ By z) := by
  refine Con.intro (L0 := #[.val (.int x), .val (.int y), .unset, .unset]) (plainFor_of_name (by first | (simp [plainName, overriddenIn]; done) | decide +kernel)) (fun m => by first | (simp [entryFrame, mkF, argsToLocals, Value.category]; done) | rfl) ?_
  intro p e s m below meth c C
  have C : Ctx p s m meth c Z "com/example/toehold/toehold/piv/ReferenceDataIsPinPinLaw" "pick" method_2_code 4 (some .byte) := C
  refine Own.iloadN C d1_0 (q := 1) rfl rfl ?_
  refine Own.sipush C d1_1 (q := 4) rfl (z := 255) (by decide) ?_
  refine Own.iand C d1_4 (q := 5) rfl fun z4 e4 => ?_
  refine Own.istoreN C d1_5 (q := 6) rfl (L' := #[.val (.int x), .val (.int y), .val (.int z4), .unset]) rfl ?_
  refine Own.iloadN C d1_6 (q := 7) rfl rfl ?_
  refine Own.if_ne C d1_7 (q := 10) rfl (r := 19) (by decide) (fun h7 => ?_) (fun h7 => ?_)
  · refine Own.iloadN C d1_19 (q := 20) rfl rfl ?_
    refine Own.iconst C d1_20 (q := 21) rfl (z := 1) (by decide) ?_
    refine Own.icmp_ne C d1_21 (q := 24) rfl (r := 26) (by decide) (fun h21 => ?_) (fun h21 => ?_)
    · refine Own.iloadN C d1_26 (q := 27) rfl rfl ?_
      refine Own.iconst C d1_27 (q := 28) rfl (z := 2) (by decide) ?_
      refine Own.icmp_ne C d1_28 (q := 31) rfl (r := 60) (by decide) (fun h28 => ?_) (fun h28 => ?_)
      · refine Own.iloadN C d1_60 (q := 61) rfl rfl ?_
        refine Own.i2b C d1_61 (q := 62) rfl fun z61 e61 => ?_
        refine Own.nreturn C d1_62 (by simp) (z' := z61.toInt8.toInt32) rfl (by decide) (by decide) ?_
        exact ⟨_, rfl, rfl, by_by _⟩
      · refine Own.iloadN C d1_31 (q := 32) rfl rfl ?_
        refine Own.iconst C d1_32 (q := 33) rfl (z := 3) (by decide) ?_
        refine Own.iand C d1_33 (q := 34) rfl fun z33 e33 => ?_
        refine Own.istoreN C d1_34 (q := 35) rfl (L' := #[.val (.int x), .val (.int y), .val (.int z4), .val (.int z33)]) rfl ?_
        refine Own.iloadN C d1_35 (q := 36) rfl rfl ?_
        refine Own.if_ne C d1_36 (q := 39) rfl (r := 42) (by decide) (fun h36 => ?_) (fun h36 => ?_)
        · refine Own.iloadN C d1_42 (q := 43) rfl rfl ?_
          refine Own.iconst C d1_43 (q := 44) rfl (z := 1) (by decide) ?_
          refine Own.icmp_ne C d1_44 (q := 47) rfl (r := 50) (by decide) (fun h44 => ?_) (fun h44 => ?_)
          · refine Own.iloadN C d1_50 (q := 51) rfl rfl ?_
            refine Own.iconst C d1_51 (q := 52) rfl (z := 2) (by decide) ?_
            refine Own.icmp_ne C d1_52 (q := 55) rfl (r := 58) (by decide) (fun h52 => ?_) (fun h52 => ?_)
            · refine Own.iconst C d1_58 (q := 59) rfl (z := 0) (by decide) ?_
              refine Own.nreturn C d1_59 (by simp) (z' := (0 : Int32)) (by decide) (by decide) (by decide) ?_
              exact ⟨_, rfl, rfl, (by decide +kernel : _ = _)⟩
            · refine Own.bipush C d1_55 (q := 57) rfl (z := -2) (by decide) ?_
              refine Own.nreturn C d1_57 (by simp) (z' := (-2 : Int32)) (by decide) (by decide) (by decide) ?_
              exact ⟨_, rfl, rfl, (by decide +kernel : _ = _)⟩
          · refine Own.bipush C d1_47 (q := 49) rfl (z := 58) (by decide) ?_
            refine Own.nreturn C d1_49 (by simp) (z' := (58 : Int32)) (by decide) (by decide) (by decide) ?_
            exact ⟨_, rfl, rfl, (by decide +kernel : _ = _)⟩
        · refine Own.bipush C d1_39 (q := 41) rfl (z := 47) (by decide) ?_
          refine Own.nreturn C d1_41 (by simp) (z' := (47 : Int32)) (by decide) (by decide) (by decide) ?_
          exact ⟨_, rfl, rfl, (by decide +kernel : _ = _)⟩
    · refine Own.iconst C d1_24 (q := 25) rfl (z := -1) (by decide) ?_
      refine Own.nreturn C d1_25 (by simp) (z' := (-1 : Int32)) (by decide) (by decide) (by decide) ?_
      exact ⟨_, rfl, rfl, (by decide +kernel : _ = _)⟩
  · refine Own.bipush C d1_10 (q := 12) rfl (z := 48) (by decide) ?_
    refine Own.iloadN C d1_12 (q := 13) rfl rfl ?_
    refine Own.bipush C d1_13 (q := 15) rfl (z := 10) (by decide) ?_
    refine Own.irem C d1_15 (q := 16) rfl (by decide) fun z15 e15 => ?_
    refine Own.iadd C d1_16 (q := 17) rfl fun z16 e16 => ?_
    refine Own.i2b C d1_17 (q := 18) rfl fun z17 e17 => ?_
    refine Own.nreturn C d1_18 (by simp) (z' := z17.toInt8.toInt32) rfl (by decide) (by decide) ?_
    exact ⟨_, rfl, rfl, by_by _⟩
abbrev rm_2 : Room := { frames := 0, cells := 0, slots := 0, locals := 0 }
theorem d2_0 : decode method_3_code 0 = .ok (.iload_n 0, 1) := by decide +kernel
theorem d2_1 : decode method_3_code 1 = .ok (.bipush 48, 2) := by decide +kernel
theorem d2_3 : decode method_3_code 3 = .ok (.if_icmp .lt 13, 3) := by decide +kernel
theorem d2_6 : decode method_3_code 6 = .ok (.iload_n 0, 1) := by decide +kernel
theorem d2_7 : decode method_3_code 7 = .ok (.bipush 57, 2) := by decide +kernel
theorem d2_9 : decode method_3_code 9 = .ok (.if_icmp .gt 7, 3) := by decide +kernel
theorem d2_12 : decode method_3_code 12 = .ok (.iconst 1, 1) := by decide +kernel
theorem d2_13 : decode method_3_code 13 = .ok (.goto 4, 3) := by decide +kernel
theorem d2_16 : decode method_3_code 16 = .ok (.iconst 0, 1) := by decide +kernel
theorem d2_17 : decode method_3_code 17 = .ok (.ireturn, 1) := by decide +kernel
set_option maxRecDepth 65536 in
set_option maxHeartbeats 4000000 in
theorem c_dig (l : Launch) (Z : State) (a0 : Array Value) (hw : ∀ d ∈ tables_1, d.before a0 Z = true) (n0 : Nat) (μ : Mem) (x : Int32)  :
    Con l Z n0 (⟨"com/example/toehold/toehold/piv/ReferenceDataIsPinPinLaw", "dig", "(B)Z"⟩ : MethodName) method_3_code 1 (some .boolean) [] rm_2 rm_2.cells rm_2.slots #[(.int x)] μ (RI fun z μ' => μ' = μ ∧ z = dgv x) := by
  refine Con.intro (L0 := #[.val (.int x)]) (plainFor_of_name (by first | (simp [plainName, overriddenIn]; done) | decide +kernel)) (fun m => by first | (simp [entryFrame, mkF, argsToLocals, Value.category]; done) | rfl) ?_
  intro p e s m below meth c C
  have C : Ctx p s m meth c Z "com/example/toehold/toehold/piv/ReferenceDataIsPinPinLaw" "dig" method_3_code 1 (some .boolean) := C
  refine Own.iloadN C d2_0 (q := 1) rfl rfl ?_
  refine Own.bipush C d2_1 (q := 3) rfl (z := 48) (by decide) ?_
  refine Own.icmp_lt C d2_3 (q := 6) rfl (r := 16) (by decide) (fun h3 => ?_) (fun h3 => ?_)
  · refine Own.iconst C d2_16 (q := 17) rfl (z := 0) (by decide) ?_
    refine Own.nreturn C d2_17 (by simp) (z' := (0 : Int32)) (by decide) (by decide) (by decide) ?_
    exact ⟨_, rfl, rfl, by simp [dgv, h3]⟩
  · refine Own.iloadN C d2_6 (q := 7) rfl rfl ?_
    refine Own.bipush C d2_7 (q := 9) rfl (z := 57) (by decide) ?_
    refine Own.icmp_gt C d2_9 (q := 12) rfl (r := 16) (by decide) (fun h9 => ?_) (fun h9 => ?_)
    · refine Own.iconst C d2_16 (q := 17) rfl (z := 0) (by decide) ?_
      refine Own.nreturn C d2_17 (by simp) (z' := (0 : Int32)) (by decide) (by decide) (by decide) ?_
      exact ⟨_, rfl, rfl, by simp [dgv, h3, h9]⟩
    · refine Own.iconst C d2_12 (q := 13) rfl (z := 1) (by decide) ?_
      refine Own.goto C d2_13 (q := 17) (by decide) ?_
      refine Own.nreturn C d2_17 (by simp) (z' := (1 : Int32)) (by decide) (by decide) (by decide) ?_
      exact ⟨_, rfl, rfl, by simp [dgv, h3, h9]⟩
abbrev rm_4 : Room := { frames := 0, cells := 0, slots := 0, locals := 0 }
theorem d4_0 : decode method_4_code 0 = .ok (.iload_n 0, 1) := by decide +kernel
theorem d4_1 : decode method_4_code 1 = .ok (.iconst (-1), 1) := by decide +kernel
theorem d4_2 : decode method_4_code 2 = .ok (.if_icmp .ne 7, 3) := by decide +kernel
theorem d4_5 : decode method_4_code 5 = .ok (.iconst 1, 1) := by decide +kernel
theorem d4_6 : decode method_4_code 6 = .ok (.goto 4, 3) := by decide +kernel
theorem d4_9 : decode method_4_code 9 = .ok (.iconst 0, 1) := by decide +kernel
theorem d4_10 : decode method_4_code 10 = .ok (.ireturn, 1) := by decide +kernel
set_option maxRecDepth 65536 in
set_option maxHeartbeats 4000000 in
theorem c_ff (l : Launch) (Z : State) (a0 : Array Value) (hw : ∀ d ∈ tables_1, d.before a0 Z = true) (n0 : Nat) (μ : Mem) (x : Int32)  :
    Con l Z n0 (⟨"com/example/toehold/toehold/piv/ReferenceDataIsPinPinLaw", "ff", "(B)Z"⟩ : MethodName) method_4_code 1 (some .boolean) [] rm_4 rm_4.cells rm_4.slots #[(.int x)] μ (RI fun z μ' => μ' = μ ∧ z = ffv x) := by
  refine Con.intro (L0 := #[.val (.int x)]) (plainFor_of_name (by first | (simp [plainName, overriddenIn]; done) | decide +kernel)) (fun m => by first | (simp [entryFrame, mkF, argsToLocals, Value.category]; done) | rfl) ?_
  intro p e s m below meth c C
  have C : Ctx p s m meth c Z "com/example/toehold/toehold/piv/ReferenceDataIsPinPinLaw" "ff" method_4_code 1 (some .boolean) := C
  refine Own.iloadN C d4_0 (q := 1) rfl rfl ?_
  refine Own.iconst C d4_1 (q := 2) rfl (z := -1) (by decide) ?_
  refine Own.icmp_ne C d4_2 (q := 5) rfl (r := 9) (by decide) (fun h2 => ?_) (fun h2 => ?_)
  · refine Own.iconst C d4_9 (q := 10) rfl (z := 0) (by decide) ?_
    refine Own.nreturn C d4_10 (by simp) (z' := (0 : Int32)) (by decide) (by decide) (by decide) ?_
    exact ⟨_, rfl, rfl, by simp [ffv, h2]⟩
  · refine Own.iconst C d4_5 (q := 6) rfl (z := 1) (by decide) ?_
    refine Own.goto C d4_6 (q := 10) (by decide) ?_
    refine Own.nreturn C d4_10 (by simp) (z' := (1 : Int32)) (by decide) (by decide) (by decide) ?_
    exact ⟨_, rfl, rfl, by simp [ffv, h2]⟩
abbrev rm_3 : Room := { frames := 0, cells := 0, slots := 0, locals := 0 }
theorem d3_0 : decode prog_33_method_4_code 0 = .ok (.aload_n 0, 1) := by decide +kernel
theorem d3_1 : decode prog_33_method_4_code 1 = .ok (.arraylength, 1) := by decide +kernel
theorem d3_2 : decode prog_33_method_4_code 2 = .ok (.bipush 8, 2) := by decide +kernel
theorem d3_4 : decode prog_33_method_4_code 4 = .ok (.if_icmp .eq 5, 3) := by decide +kernel
theorem d3_7 : decode prog_33_method_4_code 7 = .ok (.iconst 0, 1) := by decide +kernel
theorem d3_8 : decode prog_33_method_4_code 8 = .ok (.ireturn, 1) := by decide +kernel
set_option maxRecDepth 65536 in
set_option maxHeartbeats 4000000 in
theorem c_pinN (l : Launch) (Z : State) (a0 : Array Value) (hw : ∀ d ∈ tables_1, d.before a0 Z = true) (n0 : Nat) (μ : Mem) (a : Addr) (vs : List Value) (ha : μ a = some (.inr (.byte, vs))) (hn : ¬ vs.length = 8) :
    Con l Z n0 (⟨"com/example/toehold/toehold/piv/ReferenceData", "isPin", "([B)Z"⟩ : MethodName) prog_33_method_4_code 4 (some .boolean) [] rm_3 rm_3.cells rm_3.slots #[(.ref a)] μ (RI fun z μ' => μ' = μ ∧ z = 0) := by
  refine Con.intro (L0 := #[.val (.ref a), .unset, .unset, .unset]) (plainFor_of_name (by first | (simp [plainName, overriddenIn]; done) | decide +kernel)) (fun m => by first | (simp [entryFrame, mkF, argsToLocals, Value.category]; done) | rfl) ?_
  intro p e s m below meth c C
  have C : Ctx p s m meth c Z "com/example/toehold/toehold/piv/ReferenceData" "isPin" prog_33_method_4_code 4 (some .boolean) := C
  refine Own.aloadN C d3_0 (q := 1) rfl rfl rfl ?_
  refine Own.arraylength C d3_1 (q := 2) rfl ha fun z1 e1 e1i => ?_
  refine Own.bipush C d3_2 (q := 4) rfl (z := 8) (by decide) ?_
  refine Own.icmp_eq C d3_4 (q := 7) rfl (r := 9) (by decide) (fun h4 => ?_) (fun h4 => ?_)
  · exfalso; rw [← Int32.toInt_inj, e1i] at h4; simp only [Int32.reduceToInt] at h4; omega
  · refine Own.iconst C d3_7 (q := 8) rfl (z := 0) (by decide) ?_
    refine Own.nreturn C d3_8 (by simp) (z' := (0 : Int32)) (by decide) (by decide) (by decide) ?_
    exact ⟨_, rfl, rfl, rfl⟩
theorem d3_9 : decode prog_33_method_4_code 9 = .ok (.iconst 0, 1) := by decide +kernel
theorem d3_10 : decode prog_33_method_4_code 10 = .ok (.istore_n 1, 1) := by decide +kernel
theorem d3_11 : decode prog_33_method_4_code 11 = .ok (.iload_n 1, 1) := by decide +kernel
theorem d3_12 : decode prog_33_method_4_code 12 = .ok (.bipush 8, 2) := by decide +kernel
theorem d3_14 : decode prog_33_method_4_code 14 = .ok (.if_icmp .ge 25, 3) := by decide +kernel
theorem d3_17 : decode prog_33_method_4_code 17 = .ok (.aload_n 0, 1) := by decide +kernel
theorem d3_18 : decode prog_33_method_4_code 18 = .ok (.iload_n 1, 1) := by decide +kernel
theorem d3_19 : decode prog_33_method_4_code 19 = .ok (.baload, 1) := by decide +kernel
theorem d3_20 : decode prog_33_method_4_code 20 = .ok (.bipush 48, 2) := by decide +kernel
theorem d3_22 : decode prog_33_method_4_code 22 = .ok (.if_icmp .lt 17, 3) := by decide +kernel
theorem d3_25 : decode prog_33_method_4_code 25 = .ok (.aload_n 0, 1) := by decide +kernel
theorem d3_26 : decode prog_33_method_4_code 26 = .ok (.iload_n 1, 1) := by decide +kernel
theorem d3_27 : decode prog_33_method_4_code 27 = .ok (.baload, 1) := by decide +kernel
theorem d3_28 : decode prog_33_method_4_code 28 = .ok (.bipush 57, 2) := by decide +kernel
theorem d3_30 : decode prog_33_method_4_code 30 = .ok (.if_icmp .gt 9, 3) := by decide +kernel
theorem d3_33 : decode prog_33_method_4_code 33 = .ok (.iinc 1 1, 3) := by decide +kernel
theorem d3_36 : decode prog_33_method_4_code 36 = .ok (.goto (-25), 3) := by decide +kernel
theorem d3_39 : decode prog_33_method_4_code 39 = .ok (.iconst 1, 1) := by decide +kernel
theorem d3_40 : decode prog_33_method_4_code 40 = .ok (.istore_n 2, 1) := by decide +kernel
theorem d3_41 : decode prog_33_method_4_code 41 = .ok (.iload_n 1, 1) := by decide +kernel
theorem d3_42 : decode prog_33_method_4_code 42 = .ok (.istore_n 3, 1) := by decide +kernel
theorem d3_43 : decode prog_33_method_4_code 43 = .ok (.iload_n 3, 1) := by decide +kernel
theorem d3_44 : decode prog_33_method_4_code 44 = .ok (.bipush 8, 2) := by decide +kernel
theorem d3_46 : decode prog_33_method_4_code 46 = .ok (.if_icmp .ge 24, 3) := by decide +kernel
theorem d3_49 : decode prog_33_method_4_code 49 = .ok (.iload_n 2, 1) := by decide +kernel
theorem d3_50 : decode prog_33_method_4_code 50 = .ok (.aload_n 0, 1) := by decide +kernel
theorem d3_51 : decode prog_33_method_4_code 51 = .ok (.iload_n 3, 1) := by decide +kernel
theorem d3_52 : decode prog_33_method_4_code 52 = .ok (.baload, 1) := by decide +kernel
theorem d3_53 : decode prog_33_method_4_code 53 = .ok (.iconst (-1), 1) := by decide +kernel
theorem d3_54 : decode prog_33_method_4_code 54 = .ok (.if_icmp .ne 7, 3) := by decide +kernel
theorem d3_57 : decode prog_33_method_4_code 57 = .ok (.iconst 1, 1) := by decide +kernel
theorem d3_58 : decode prog_33_method_4_code 58 = .ok (.goto 4, 3) := by decide +kernel
theorem d3_61 : decode prog_33_method_4_code 61 = .ok (.iconst 0, 1) := by decide +kernel
theorem d3_62 : decode prog_33_method_4_code 62 = .ok (.iand, 1) := by decide +kernel
theorem d3_63 : decode prog_33_method_4_code 63 = .ok (.istore_n 2, 1) := by decide +kernel
theorem d3_64 : decode prog_33_method_4_code 64 = .ok (.iinc 3 1, 3) := by decide +kernel
theorem d3_67 : decode prog_33_method_4_code 67 = .ok (.goto (-24), 3) := by decide +kernel
theorem d3_70 : decode prog_33_method_4_code 70 = .ok (.iload_n 1, 1) := by decide +kernel
theorem d3_71 : decode prog_33_method_4_code 71 = .ok (.bipush 6, 2) := by decide +kernel
theorem d3_73 : decode prog_33_method_4_code 73 = .ok (.if_icmp .lt 11, 3) := by decide +kernel
theorem d3_76 : decode prog_33_method_4_code 76 = .ok (.iload_n 2, 1) := by decide +kernel
theorem d3_77 : decode prog_33_method_4_code 77 = .ok (.ifCond .eq 7, 3) := by decide +kernel
theorem d3_80 : decode prog_33_method_4_code 80 = .ok (.iconst 1, 1) := by decide +kernel
theorem d3_81 : decode prog_33_method_4_code 81 = .ok (.goto 4, 3) := by decide +kernel
theorem d3_84 : decode prog_33_method_4_code 84 = .ok (.iconst 0, 1) := by decide +kernel
theorem d3_85 : decode prog_33_method_4_code 85 = .ok (.ireturn, 1) := by decide +kernel
set_option maxRecDepth 65536 in
set_option maxHeartbeats 4000000 in
theorem c_pin (l : Launch) (Z : State) (a0 : Array Value) (hw : ∀ d ∈ tables_1, d.before a0 Z = true) (n0 : Nat) (μ : Mem) (a : Addr) (f : Nat → Int32) (ha : μ a = some (.inr (.byte, (ar 8 f)))) :
    Con l Z n0 (⟨"com/example/toehold/toehold/piv/ReferenceData", "isPin", "([B)Z"⟩ : MethodName) prog_33_method_4_code 4 (some .boolean) [] rm_3 rm_3.cells rm_3.slots #[(.ref a)] μ (RI fun z μ' => μ' = μ ∧ Pin f z) := by
  refine Con.intro (L0 := #[.val (.ref a), .unset, .unset, .unset]) (plainFor_of_name (by first | (simp [plainName, overriddenIn]; done) | decide +kernel)) (fun m => by first | (simp [entryFrame, mkF, argsToLocals, Value.category]; done) | rfl) ?_
  intro p e s m below meth c C
  have C : Ctx p s m meth c Z "com/example/toehold/toehold/piv/ReferenceData" "isPin" prog_33_method_4_code 4 (some .boolean) := C
  refine Own.aloadN C d3_0 (q := 1) rfl rfl rfl ?_
  refine Own.arraylength C d3_1 (q := 2) rfl ha fun z1 e1 e1i => ?_
  refine Own.bipush C d3_2 (q := 4) rfl (z := 8) (by decide) ?_
  refine Own.icmp_eq C d3_4 (q := 7) rfl (r := 9) (by decide) (fun h4 => ?_) (fun h4 => ?_)
  · refine Own.iconst C d3_9 (q := 10) rfl (z := 0) (by decide) ?_
    refine Own.istoreN C d3_10 (q := 11) rfl (L' := #[.val (.ref a), .val (.int (0 : Int32)), .unset, .unset]) rfl ?_
    have J39 : ∀ k : Nat, k ≤ 8 → (∀ i, i < k → dgv (f i) = 1) → (k < 8 → dgv (f k) = 0) → Go p l e rm_3 s m #[(.ref a)] below meth c Z n0 (RI fun z μ' => μ' = μ ∧ Pin f z) rm_3.cells rm_3.slots μ (0) (0) (mkF m 39 #[.val (.ref a), .val (.int (Int32.ofNat k)), .unset, .unset] []) := by
      intro k hk hd hd'
      refine Own.iconst C d3_39 (q := 40) rfl (z := 1) (by decide) ?_
      refine Own.istoreN C d3_40 (q := 41) rfl (L' := #[.val (.ref a), .val (.int (Int32.ofNat k)), .val (.int (1 : Int32)), .unset]) rfl ?_
      refine Own.iloadN C d3_41 (q := 42) rfl rfl ?_
      refine Own.istoreN C d3_42 (q := 43) rfl (L' := #[.val (.ref a), .val (.int (Int32.ofNat k)), .val (.int (1 : Int32)), .val (.int (Int32.ofNat k))]) rfl ?_
      have J43 : ∀ (N j : Nat) (pd : Int32), k ≤ j → j ≤ 8 → 8 - j < N → ((pd = 1 ∧ ∀ i, k ≤ i → i < j → f i = -1) ∨ (pd = 0 ∧ ∃ i, k ≤ i ∧ i < 8 ∧ ¬ f i = -1)) → Go p l e rm_3 s m #[(.ref a)] below meth c Z n0 (RI fun z μ' => μ' = μ ∧ Pin f z) rm_3.cells rm_3.slots μ (0) (0) (mkF m 43 #[.val (.ref a), .val (.int (Int32.ofNat k)), .val (.int pd), .val (.int (Int32.ofNat j))] []) := by
        intro N
        induction N with
        | zero => intro j pd _ _ h; omega
        | succ N ih =>
          intro j pd hkj hj hN hp
          refine Own.iloadN C d3_43 (q := 44) rfl rfl ?_
          refine Own.bipush C d3_44 (q := 46) rfl (z := 8) (by decide) ?_
          refine Own.icmp_ge C d3_46 (q := 49) rfl (r := 70) (by decide) (fun h46 => ?_) (fun h46 => ?_)
          · refine Own.iloadN C d3_70 (q := 71) rfl rfl ?_
            refine Own.bipush C d3_71 (q := 73) rfl (z := 6) (by decide) ?_
            refine Own.icmp_lt C d3_73 (q := 76) rfl (r := 84) (by decide) (fun h73 => ?_) (fun h73 => ?_)
            · refine Own.iconst C d3_84 (q := 85) rfl (z := 0) (by decide) ?_
              refine Own.nreturn C d3_85 (by simp) (z' := (0 : Int32)) (by decide) (by decide) (by decide) ?_
              refine ⟨_, rfl, rfl, k, hk, hd, hd', Or.inr ⟨rfl, Or.inl ?_⟩⟩
              rw [lt_lit (by omega)] at h73; simp only [Int32.reduceToInt] at h73; omega
            · refine Own.iloadN C d3_76 (q := 77) rfl rfl ?_
              refine Own.if_eq C d3_77 (q := 80) rfl (r := 84) (by decide) (fun h77 => ?_) (fun h77 => ?_)
              · refine Own.iconst C d3_84 (q := 85) rfl (z := 0) (by decide) ?_
                refine Own.nreturn C d3_85 (by simp) (z' := (0 : Int32)) (by decide) (by decide) (by decide) ?_
                refine ⟨_, rfl, rfl, k, hk, hd, hd', Or.inr ⟨rfl, Or.inr ?_⟩⟩
                rcases hp with ⟨hp, _⟩ | ⟨_, hp⟩
                · rw [hp] at h77; exact absurd h77 (by decide)
                · exact hp
              · refine Own.iconst C d3_80 (q := 81) rfl (z := 1) (by decide) ?_
                refine Own.goto C d3_81 (q := 85) (by decide) ?_
                refine Own.nreturn C d3_85 (by simp) (z' := (1 : Int32)) (by decide) (by decide) (by decide) ?_
                refine ⟨_, rfl, rfl, k, hk, hd, hd', Or.inl ⟨rfl, ?_, ?_⟩⟩
                · rw [lt_lit (by omega)] at h73; simp only [Int32.reduceToInt] at h73; omega
                · intro i h1 h2
                  rw [lt_lit (by omega)] at h46; simp only [Int32.reduceToInt] at h46
                  rcases hp with ⟨_, hp⟩ | ⟨hp, _⟩
                  · exact hp i h1 (by omega)
                  · exact absurd hp h77
          · refine Own.iloadN C d3_49 (q := 50) rfl rfl ?_
            refine Own.aloadN C d3_50 (q := 51) rfl rfl rfl ?_
            refine Own.iloadN C d3_51 (q := 52) rfl rfl ?_
            refine Own.baload C d3_52 (q := 53) rfl ha (nn (by omega)) (v := (.int (f j))) (by rw [toN (by omega)]; exact ar_get f (by have := h46; rw [lt_lit (by omega)] at this; simp only [Int32.reduceToInt] at this; omega)) ?_
            refine Own.iconst C d3_53 (q := 54) rfl (z := -1) (by decide) ?_
            refine Own.icmp_ne C d3_54 (q := 57) rfl (r := 61) (by decide) (fun h54 => ?_) (fun h54 => ?_)
            · refine Own.iconst C d3_61 (q := 62) rfl (z := 0) (by decide) ?_
              refine Own.iand C d3_62 (q := 63) rfl fun z62 e62 => ?_
              refine Own.istoreN C d3_63 (q := 64) rfl (L' := #[.val (.ref a), .val (.int (Int32.ofNat k)), .val (.int z62), .val (.int (Int32.ofNat j))]) rfl ?_
              obtain ⟨z64, e64⟩ : ∃ z64 : Int32, z64 = (Int32.ofNat j) + (1 : Int32) := ⟨_, rfl⟩
              refine Own.iinc C d3_64 (q := 67) rfl rfl (z := z64) e64.symm (L' := #[.val (.ref a), .val (.int (Int32.ofNat k)), .val (.int z62), .val (.int z64)]) rfl ?_
              refine Own.goto C d3_67 (q := 43) (by decide) ?_
              rw [e64, show Int32.ofNat j + 1 = Int32.ofNat (j + 1) from (inc_ofNat j).symm]
              have hj8 : j < 8 := by rw [lt_lit (by omega)] at h46; simp only [Int32.reduceToInt] at h46; omega
              refine ih (j + 1) _ (by omega) (by omega) (by omega) ?_
              subst e62
              rcases hp with ⟨rfl, hp⟩ | ⟨rfl, hp⟩
              · exact Or.inr ⟨by decide, j, hkj, hj8, h54⟩
              · exact Or.inr ⟨by decide, hp⟩
            · refine Own.iconst C d3_57 (q := 58) rfl (z := 1) (by decide) ?_
              refine Own.goto C d3_58 (q := 62) (by decide) ?_
              refine Own.iand C d3_62 (q := 63) rfl fun z62 e62 => ?_
              refine Own.istoreN C d3_63 (q := 64) rfl (L' := #[.val (.ref a), .val (.int (Int32.ofNat k)), .val (.int z62), .val (.int (Int32.ofNat j))]) rfl ?_
              obtain ⟨z64, e64⟩ : ∃ z64 : Int32, z64 = (Int32.ofNat j) + (1 : Int32) := ⟨_, rfl⟩
              refine Own.iinc C d3_64 (q := 67) rfl rfl (z := z64) e64.symm (L' := #[.val (.ref a), .val (.int (Int32.ofNat k)), .val (.int z62), .val (.int z64)]) rfl ?_
              refine Own.goto C d3_67 (q := 43) (by decide) ?_
              rw [e64, show Int32.ofNat j + 1 = Int32.ofNat (j + 1) from (inc_ofNat j).symm]
              have hj8 : j < 8 := by rw [lt_lit (by omega)] at h46; simp only [Int32.reduceToInt] at h46; omega
              refine ih (j + 1) _ (by omega) (by omega) (by omega) ?_
              subst e62
              rcases hp with ⟨rfl, hp⟩ | ⟨rfl, hp⟩
              · refine Or.inl ⟨by decide, fun i h1 h2 => ?_⟩
                by_cases q : i = j
                · subst q; exact h54
                · exact hp i h1 (by omega)
              · exact Or.inr ⟨by decide, hp⟩
      exact J43 9 k 1 (by omega) hk (by omega) (Or.inl ⟨rfl, fun i h1 h2 => absurd h1 (by omega)⟩)
    have J11 : ∀ (N k : Nat), k ≤ 8 → 8 - k < N → (∀ i, i < k → dgv (f i) = 1) → Go p l e rm_3 s m #[(.ref a)] below meth c Z n0 (RI fun z μ' => μ' = μ ∧ Pin f z) rm_3.cells rm_3.slots μ (0) (0) (mkF m 11 #[.val (.ref a), .val (.int (Int32.ofNat k)), .unset, .unset] []) := by
      intro N
      induction N with
      | zero => intro k _ h; omega
      | succ N ih =>
        intro k hk hN hd
        refine Own.iloadN C d3_11 (q := 12) rfl rfl ?_
        refine Own.bipush C d3_12 (q := 14) rfl (z := 8) (by decide) ?_
        refine Own.icmp_ge C d3_14 (q := 17) rfl (r := 39) (by decide) (fun h14 => ?_) (fun h14 => ?_)
        · exact J39 k hk hd (fun h => by rw [lt_lit (by omega)] at h14; simp only [Int32.reduceToInt] at h14; omega)
        · refine Own.aloadN C d3_17 (q := 18) rfl rfl rfl ?_
          refine Own.iloadN C d3_18 (q := 19) rfl rfl ?_
          refine Own.baload C d3_19 (q := 20) rfl ha (nn (by omega)) (v := (.int (f k))) (by rw [toN (by omega)]; exact ar_get f (by have := h14; rw [lt_lit (by omega)] at this; simp only [Int32.reduceToInt] at this; omega)) ?_
          refine Own.bipush C d3_20 (q := 22) rfl (z := 48) (by decide) ?_
          refine Own.icmp_lt C d3_22 (q := 25) rfl (r := 39) (by decide) (fun h22 => ?_) (fun h22 => ?_)
          · exact J39 k hk hd (fun h => by simp [dgv, h22])
          · refine Own.aloadN C d3_25 (q := 26) rfl rfl rfl ?_
            refine Own.iloadN C d3_26 (q := 27) rfl rfl ?_
            refine Own.baload C d3_27 (q := 28) rfl ha (nn (by omega)) (v := (.int (f k))) (by rw [toN (by omega)]; exact ar_get f (by have := h14; rw [lt_lit (by omega)] at this; simp only [Int32.reduceToInt] at this; omega)) ?_
            refine Own.bipush C d3_28 (q := 30) rfl (z := 57) (by decide) ?_
            refine Own.icmp_gt C d3_30 (q := 33) rfl (r := 39) (by decide) (fun h30 => ?_) (fun h30 => ?_)
            · exact J39 k hk hd (fun h => by simp [dgv, h30])
            · obtain ⟨z33, e33⟩ : ∃ z33 : Int32, z33 = (Int32.ofNat k) + (1 : Int32) := ⟨_, rfl⟩
              refine Own.iinc C d3_33 (q := 36) rfl rfl (z := z33) e33.symm (L' := #[.val (.ref a), .val (.int z33), .unset, .unset]) rfl ?_
              refine Own.goto C d3_36 (q := 11) (by decide) ?_
              rw [e33, show Int32.ofNat k + 1 = Int32.ofNat (k + 1) from (inc_ofNat k).symm]
              have hk8 : k < 8 := by rw [lt_lit (by omega)] at h14; simp only [Int32.reduceToInt] at h14; omega
              refine ih (k + 1) (by omega) (by omega) fun i hi => ?_
              by_cases q : i = k
              · subst q; simp [dgv, h22, h30]
              · exact hd i (by omega)
    exact J11 9 0 (by omega) (by omega) (fun i h => absurd h (by omega))
  · exfalso; apply h4; rw [e1, ar_len]; rfl
theorem six01 {s b0 b1 b2 b3 b4 b5 : Int32} (h : s = six b0 b1 b2 b3 b4 b5) : s = 0 ∨ s = 1 := by subst h; unfold six; split <;> simp
theorem tail01 {s b6 b7 : Int32} (h : s = tail b6 b7) : s = 0 ∨ s = 1 := by subst h; unfold tail; split <;> simp
theorem pd_0 : parseMethodDescriptor "(II)B" = some ⟨[.int, .int], some .byte⟩ := by decide +kernel
theorem pd_1 : parseMethodDescriptor "([B)Z" = some ⟨[(.array .byte)], some .boolean⟩ := by decide +kernel
theorem pd_2 : parseMethodDescriptor "(B)Z" = some ⟨[.byte], some .boolean⟩ := by decide +kernel
set_option maxRecDepth 65536 in
set_option maxHeartbeats 40000000 in
theorem c_law (l : Launch) (Z : State) (a0 : Array Value) (hw : ∀ d ∈ tables_1, d.before a0 Z = true) (n0 : Nat) (μ : Mem) (ls : Int32) (sl : Int32) (rw' : Int64) (xt : Int32)  :
    Con l Z n0 x code maxLocals ret tables_1 room_1 room_1.cells room_1.slots #[(.int ls), (.int sl), (.long rw'), (.int xt)] μ (fun v _ => v = some (.int 1)) := by
  refine Con.intro (L0 := #[.val (.int ls), .val (.int sl), .val (.long rw'), .second, .val (.int xt), .unset, .unset, .unset, .unset, .unset, .unset, .unset, .unset, .unset, .unset, .unset, .unset, .unset, .unset]) (plainFor_of_name (by first | (simp [plainName, overriddenIn]; done) | decide +kernel)) (fun m => by first | (simp [entryFrame, mkF, argsToLocals, Value.category, maxLocals]; done) | rfl) ?_
  intro p e s m below meth c C
  have C : Ctx p s m meth c Z "com/example/toehold/toehold/piv/ReferenceDataIsPinPinLaw" "law" code maxLocals (some .boolean) := C
  refine Own.iloadN C at_0 (q := 1) rfl rfl ?_
  refine Own.bipush C at_1 (q := 3) rfl (z := 15) (by decide) ?_
  refine Own.iand C at_3 (q := 4) rfl fun z3 e3 => ?_
  refine Own.istore C at_4 (q := 6) rfl (L' := #[.val (.int ls), .val (.int sl), .val (.long rw'), .second, .val (.int xt), .val (.int z3), .unset, .unset, .unset, .unset, .unset, .unset, .unset, .unset, .unset, .unset, .unset, .unset, .unset]) rfl ?_
  have J23 : ∀ z' : Int32, 0 ≤ z'.toInt → z'.toInt ≤ 9 → Go p l e room_1 s m #[(.int ls), (.int sl), (.long rw'), (.int xt)] below meth c Z n0 (fun v _ => v = some (.int 1)) room_1.cells room_1.slots μ (0) (0) (mkF m 23 #[.val (.int ls), .val (.int sl), .val (.long rw'), .second, .val (.int xt), .val (.int z3), .unset, .unset, .unset, .unset, .unset, .unset, .unset, .unset, .unset, .unset, .unset, .unset, .unset] [(.int z')]) := by
    intro z' hz0 hz9
    have hn0 : ¬ z' < 0 := by rw [Int32.lt_iff_toInt_lt, show (0 : Int32).toInt = 0 from rfl]; omega
    have hn9 : z'.toNatClampNeg ≤ 9 := by simp only [Int32.toNatClampNeg]; omega
    refine Own.istore C at_23 (q := 25) rfl (L' := #[.val (.int ls), .val (.int sl), .val (.long rw'), .second, .val (.int xt), .val (.int z3), .val (.int z'), .unset, .unset, .unset, .unset, .unset, .unset, .unset, .unset, .unset, .unset, .unset, .unset]) rfl ?_
    refine Own.iloadN C at_25 (q := 26) rfl rfl ?_
    refine Own.iconst C at_26 (q := 27) rfl (z := 3) (by decide) ?_
    refine Own.iand C at_27 (q := 28) rfl fun z27 e27 => ?_
    refine Own.lloadN C at_28 (q := 29) rfl rfl ?_
    refine Own.l2i C at_29 (q := 30) rfl fun z29 e29 => ?_
    refine Own.callS C at_30 (q := 33) rfl (hw _ (List.mem_of_getElem? (i := 0) rfl)) (hw _ (List.mem_of_getElem? (i := 1) rfl)) (hw _ (List.mem_of_getElem? (i := 2) rfl)) (hw _ (List.mem_of_getElem? (i := 3) rfl)) (by decide) (W := 0) (rm := rm_1) (argsL := [(.int z27), (.int z29)]) (st := []) (lenOf pd_0 rfl) rfl rfl (Nat.le_of_eq rfl) (by decide) (by decide) (by decide) (by decide) (c_pick l Z a0 hw n0 _ z27 z29) (nxI fun z30 μ30 h30 => ?_)
    obtain ⟨h30m, h30⟩ := h30
    refine Own.mem h30m ?_
    refine Own.istore C at_33 (q := 35) rfl (L' := #[.val (.int ls), .val (.int sl), .val (.long rw'), .second, .val (.int xt), .val (.int z3), .val (.int z'), .val (.int z30), .unset, .unset, .unset, .unset, .unset, .unset, .unset, .unset, .unset, .unset, .unset]) rfl ?_
    refine Own.iloadN C at_35 (q := 36) rfl rfl ?_
    refine Own.iconst C at_36 (q := 37) rfl (z := 2) (by decide) ?_
    refine Own.iushr C at_37 (q := 38) rfl fun z37 e37 => ?_
    refine Own.iconst C at_38 (q := 39) rfl (z := 3) (by decide) ?_
    refine Own.iand C at_39 (q := 40) rfl fun z39 e39 => ?_
    refine Own.lloadN C at_40 (q := 41) rfl rfl ?_
    refine Own.bipush C at_41 (q := 43) rfl (z := 8) (by decide) ?_
    refine Own.lushr C at_43 (q := 44) rfl fun z43 e43 => ?_
    refine Own.l2i C at_44 (q := 45) rfl fun z44 e44 => ?_
    refine Own.callS C at_45 (q := 48) rfl (hw _ (List.mem_of_getElem? (i := 0) rfl)) (hw _ (List.mem_of_getElem? (i := 1) rfl)) (hw _ (List.mem_of_getElem? (i := 2) rfl)) (hw _ (List.mem_of_getElem? (i := 3) rfl)) (by decide) (W := 0) (rm := rm_1) (argsL := [(.int z39), (.int z44)]) (st := []) (lenOf pd_0 rfl) rfl rfl (Nat.le_of_eq rfl) (by decide) (by decide) (by decide) (by decide) (c_pick l Z a0 hw n0 _ z39 z44) (nxI fun z45 μ45 h45 => ?_)
    obtain ⟨h45m, h45⟩ := h45
    refine Own.mem h45m ?_
    refine Own.istore C at_48 (q := 50) rfl (L' := #[.val (.int ls), .val (.int sl), .val (.long rw'), .second, .val (.int xt), .val (.int z3), .val (.int z'), .val (.int z30), .val (.int z45), .unset, .unset, .unset, .unset, .unset, .unset, .unset, .unset, .unset, .unset]) rfl ?_
    refine Own.iloadN C at_50 (q := 51) rfl rfl ?_
    refine Own.iconst C at_51 (q := 52) rfl (z := 4) (by decide) ?_
    refine Own.iushr C at_52 (q := 53) rfl fun z52 e52 => ?_
    refine Own.iconst C at_53 (q := 54) rfl (z := 3) (by decide) ?_
    refine Own.iand C at_54 (q := 55) rfl fun z54 e54 => ?_
    refine Own.lloadN C at_55 (q := 56) rfl rfl ?_
    refine Own.bipush C at_56 (q := 58) rfl (z := 16) (by decide) ?_
    refine Own.lushr C at_58 (q := 59) rfl fun z58 e58 => ?_
    refine Own.l2i C at_59 (q := 60) rfl fun z59 e59 => ?_
    refine Own.callS C at_60 (q := 63) rfl (hw _ (List.mem_of_getElem? (i := 0) rfl)) (hw _ (List.mem_of_getElem? (i := 1) rfl)) (hw _ (List.mem_of_getElem? (i := 2) rfl)) (hw _ (List.mem_of_getElem? (i := 3) rfl)) (by decide) (W := 0) (rm := rm_1) (argsL := [(.int z54), (.int z59)]) (st := []) (lenOf pd_0 rfl) rfl rfl (Nat.le_of_eq rfl) (by decide) (by decide) (by decide) (by decide) (c_pick l Z a0 hw n0 _ z54 z59) (nxI fun z60 μ60 h60 => ?_)
    obtain ⟨h60m, h60⟩ := h60
    refine Own.mem h60m ?_
    refine Own.istore C at_63 (q := 65) rfl (L' := #[.val (.int ls), .val (.int sl), .val (.long rw'), .second, .val (.int xt), .val (.int z3), .val (.int z'), .val (.int z30), .val (.int z45), .val (.int z60), .unset, .unset, .unset, .unset, .unset, .unset, .unset, .unset, .unset]) rfl ?_
    refine Own.iloadN C at_65 (q := 66) rfl rfl ?_
    refine Own.bipush C at_66 (q := 68) rfl (z := 6) (by decide) ?_
    refine Own.iushr C at_68 (q := 69) rfl fun z68 e68 => ?_
    refine Own.iconst C at_69 (q := 70) rfl (z := 3) (by decide) ?_
    refine Own.iand C at_70 (q := 71) rfl fun z70 e70 => ?_
    refine Own.lloadN C at_71 (q := 72) rfl rfl ?_
    refine Own.bipush C at_72 (q := 74) rfl (z := 24) (by decide) ?_
    refine Own.lushr C at_74 (q := 75) rfl fun z74 e74 => ?_
    refine Own.l2i C at_75 (q := 76) rfl fun z75 e75 => ?_
    refine Own.callS C at_76 (q := 79) rfl (hw _ (List.mem_of_getElem? (i := 0) rfl)) (hw _ (List.mem_of_getElem? (i := 1) rfl)) (hw _ (List.mem_of_getElem? (i := 2) rfl)) (hw _ (List.mem_of_getElem? (i := 3) rfl)) (by decide) (W := 0) (rm := rm_1) (argsL := [(.int z70), (.int z75)]) (st := []) (lenOf pd_0 rfl) rfl rfl (Nat.le_of_eq rfl) (by decide) (by decide) (by decide) (by decide) (c_pick l Z a0 hw n0 _ z70 z75) (nxI fun z76 μ76 h76 => ?_)
    obtain ⟨h76m, h76⟩ := h76
    refine Own.mem h76m ?_
    refine Own.istore C at_79 (q := 81) rfl (L' := #[.val (.int ls), .val (.int sl), .val (.long rw'), .second, .val (.int xt), .val (.int z3), .val (.int z'), .val (.int z30), .val (.int z45), .val (.int z60), .val (.int z76), .unset, .unset, .unset, .unset, .unset, .unset, .unset, .unset]) rfl ?_
    refine Own.iloadN C at_81 (q := 82) rfl rfl ?_
    refine Own.bipush C at_82 (q := 84) rfl (z := 8) (by decide) ?_
    refine Own.iushr C at_84 (q := 85) rfl fun z84 e84 => ?_
    refine Own.iconst C at_85 (q := 86) rfl (z := 3) (by decide) ?_
    refine Own.iand C at_86 (q := 87) rfl fun z86 e86 => ?_
    refine Own.lloadN C at_87 (q := 88) rfl rfl ?_
    refine Own.bipush C at_88 (q := 90) rfl (z := 32) (by decide) ?_
    refine Own.lushr C at_90 (q := 91) rfl fun z90 e90 => ?_
    refine Own.l2i C at_91 (q := 92) rfl fun z91 e91 => ?_
    refine Own.callS C at_92 (q := 95) rfl (hw _ (List.mem_of_getElem? (i := 0) rfl)) (hw _ (List.mem_of_getElem? (i := 1) rfl)) (hw _ (List.mem_of_getElem? (i := 2) rfl)) (hw _ (List.mem_of_getElem? (i := 3) rfl)) (by decide) (W := 0) (rm := rm_1) (argsL := [(.int z86), (.int z91)]) (st := []) (lenOf pd_0 rfl) rfl rfl (Nat.le_of_eq rfl) (by decide) (by decide) (by decide) (by decide) (c_pick l Z a0 hw n0 _ z86 z91) (nxI fun z92 μ92 h92 => ?_)
    obtain ⟨h92m, h92⟩ := h92
    refine Own.mem h92m ?_
    refine Own.istore C at_95 (q := 97) rfl (L' := #[.val (.int ls), .val (.int sl), .val (.long rw'), .second, .val (.int xt), .val (.int z3), .val (.int z'), .val (.int z30), .val (.int z45), .val (.int z60), .val (.int z76), .val (.int z92), .unset, .unset, .unset, .unset, .unset, .unset, .unset]) rfl ?_
    refine Own.iloadN C at_97 (q := 98) rfl rfl ?_
    refine Own.bipush C at_98 (q := 100) rfl (z := 10) (by decide) ?_
    refine Own.iushr C at_100 (q := 101) rfl fun z100 e100 => ?_
    refine Own.iconst C at_101 (q := 102) rfl (z := 3) (by decide) ?_
    refine Own.iand C at_102 (q := 103) rfl fun z102 e102 => ?_
    refine Own.lloadN C at_103 (q := 104) rfl rfl ?_
    refine Own.bipush C at_104 (q := 106) rfl (z := 40) (by decide) ?_
    refine Own.lushr C at_106 (q := 107) rfl fun z106 e106 => ?_
    refine Own.l2i C at_107 (q := 108) rfl fun z107 e107 => ?_
    refine Own.callS C at_108 (q := 111) rfl (hw _ (List.mem_of_getElem? (i := 0) rfl)) (hw _ (List.mem_of_getElem? (i := 1) rfl)) (hw _ (List.mem_of_getElem? (i := 2) rfl)) (hw _ (List.mem_of_getElem? (i := 3) rfl)) (by decide) (W := 0) (rm := rm_1) (argsL := [(.int z102), (.int z107)]) (st := []) (lenOf pd_0 rfl) rfl rfl (Nat.le_of_eq rfl) (by decide) (by decide) (by decide) (by decide) (c_pick l Z a0 hw n0 _ z102 z107) (nxI fun z108 μ108 h108 => ?_)
    obtain ⟨h108m, h108⟩ := h108
    refine Own.mem h108m ?_
    refine Own.istore C at_111 (q := 113) rfl (L' := #[.val (.int ls), .val (.int sl), .val (.long rw'), .second, .val (.int xt), .val (.int z3), .val (.int z'), .val (.int z30), .val (.int z45), .val (.int z60), .val (.int z76), .val (.int z92), .val (.int z108), .unset, .unset, .unset, .unset, .unset, .unset]) rfl ?_
    refine Own.iloadN C at_113 (q := 114) rfl rfl ?_
    refine Own.bipush C at_114 (q := 116) rfl (z := 12) (by decide) ?_
    refine Own.iushr C at_116 (q := 117) rfl fun z116 e116 => ?_
    refine Own.iconst C at_117 (q := 118) rfl (z := 3) (by decide) ?_
    refine Own.iand C at_118 (q := 119) rfl fun z118 e118 => ?_
    refine Own.lloadN C at_119 (q := 120) rfl rfl ?_
    refine Own.bipush C at_120 (q := 122) rfl (z := 48) (by decide) ?_
    refine Own.lushr C at_122 (q := 123) rfl fun z122 e122 => ?_
    refine Own.l2i C at_123 (q := 124) rfl fun z123 e123 => ?_
    refine Own.callS C at_124 (q := 127) rfl (hw _ (List.mem_of_getElem? (i := 0) rfl)) (hw _ (List.mem_of_getElem? (i := 1) rfl)) (hw _ (List.mem_of_getElem? (i := 2) rfl)) (hw _ (List.mem_of_getElem? (i := 3) rfl)) (by decide) (W := 0) (rm := rm_1) (argsL := [(.int z118), (.int z123)]) (st := []) (lenOf pd_0 rfl) rfl rfl (Nat.le_of_eq rfl) (by decide) (by decide) (by decide) (by decide) (c_pick l Z a0 hw n0 _ z118 z123) (nxI fun z124 μ124 h124 => ?_)
    obtain ⟨h124m, h124⟩ := h124
    refine Own.mem h124m ?_
    refine Own.istore C at_127 (q := 129) rfl (L' := #[.val (.int ls), .val (.int sl), .val (.long rw'), .second, .val (.int xt), .val (.int z3), .val (.int z'), .val (.int z30), .val (.int z45), .val (.int z60), .val (.int z76), .val (.int z92), .val (.int z108), .val (.int z124), .unset, .unset, .unset, .unset, .unset]) rfl ?_
    refine Own.iloadN C at_129 (q := 130) rfl rfl ?_
    refine Own.bipush C at_130 (q := 132) rfl (z := 14) (by decide) ?_
    refine Own.iushr C at_132 (q := 133) rfl fun z132 e132 => ?_
    refine Own.iconst C at_133 (q := 134) rfl (z := 3) (by decide) ?_
    refine Own.iand C at_134 (q := 135) rfl fun z134 e134 => ?_
    refine Own.lloadN C at_135 (q := 136) rfl rfl ?_
    refine Own.bipush C at_136 (q := 138) rfl (z := 56) (by decide) ?_
    refine Own.lushr C at_138 (q := 139) rfl fun z138 e138 => ?_
    refine Own.l2i C at_139 (q := 140) rfl fun z139 e139 => ?_
    refine Own.callS C at_140 (q := 143) rfl (hw _ (List.mem_of_getElem? (i := 0) rfl)) (hw _ (List.mem_of_getElem? (i := 1) rfl)) (hw _ (List.mem_of_getElem? (i := 2) rfl)) (hw _ (List.mem_of_getElem? (i := 3) rfl)) (by decide) (W := 0) (rm := rm_1) (argsL := [(.int z134), (.int z139)]) (st := []) (lenOf pd_0 rfl) rfl rfl (Nat.le_of_eq rfl) (by decide) (by decide) (by decide) (by decide) (c_pick l Z a0 hw n0 _ z134 z139) (nxI fun z140 μ140 h140 => ?_)
    obtain ⟨h140m, h140⟩ := h140
    refine Own.mem h140m ?_
    refine Own.istore C at_143 (q := 145) rfl (L' := #[.val (.int ls), .val (.int sl), .val (.long rw'), .second, .val (.int xt), .val (.int z3), .val (.int z'), .val (.int z30), .val (.int z45), .val (.int z60), .val (.int z76), .val (.int z92), .val (.int z108), .val (.int z124), .val (.int z140), .unset, .unset, .unset, .unset]) rfl ?_
    refine Own.iload C at_145 (q := 147) rfl rfl ?_
    refine Own.newArr C at_147 (q := 149) rfl (ty := .byte) rfl (hw _ (List.mem_of_getElem? (i := 4) rfl)) hn0 (cap := 9) hn9 (by decide) (vs := (List.replicate z'.toNatClampNeg (Value.int 0))) rfl (by decide) (by decide) fun a147 a147_f a147_g => ?_
    refine Own.astore C at_149 (q := 151) rfl (L' := #[.val (.int ls), .val (.int sl), .val (.long rw'), .second, .val (.int xt), .val (.int z3), .val (.int z'), .val (.int z30), .val (.int z45), .val (.int z60), .val (.int z76), .val (.int z92), .val (.int z108), .val (.int z124), .val (.int z140), .val (.ref a147), .unset, .unset, .unset]) rfl rfl ?_
    have J162 : ∀ vs : List Value, vs.length = z'.toNatClampNeg → (z'.toNatClampNeg = 8 → vs = [(.int z30), (.int 0), (.int 0), (.int 0), (.int 0), (.int 0), (.int 0), (.int 0)]) → Go p l e room_1 s m #[(.int ls), (.int sl), (.long rw'), (.int xt)] below meth c Z n0 (fun v _ => v = some (.int 1)) room_1.cells room_1.slots (upd μ a147 (.inr (.byte, vs))) (0 + 0 + 0 + 0 + 0 + 0 + 0 + 0 + 0 + 1) (0 + 0 + 0 + 0 + 0 + 0 + 0 + 0 + 0 + 9) (mkF m 162 #[.val (.int ls), .val (.int sl), .val (.long rw'), .second, .val (.int xt), .val (.int z3), .val (.int z'), .val (.int z30), .val (.int z45), .val (.int z60), .val (.int z76), .val (.int z92), .val (.int z108), .val (.int z124), .val (.int z140), .val (.ref a147), .unset, .unset, .unset] []) := by
      intro vs hl h8
      have J174 : ∀ vs : List Value, vs.length = z'.toNatClampNeg → (z'.toNatClampNeg = 8 → vs = [(.int z30), (.int z45), (.int 0), (.int 0), (.int 0), (.int 0), (.int 0), (.int 0)]) → Go p l e room_1 s m #[(.int ls), (.int sl), (.long rw'), (.int xt)] below meth c Z n0 (fun v _ => v = some (.int 1)) room_1.cells room_1.slots (upd μ a147 (.inr (.byte, vs))) (0 + 0 + 0 + 0 + 0 + 0 + 0 + 0 + 0 + 1) (0 + 0 + 0 + 0 + 0 + 0 + 0 + 0 + 0 + 9) (mkF m 174 #[.val (.int ls), .val (.int sl), .val (.long rw'), .second, .val (.int xt), .val (.int z3), .val (.int z'), .val (.int z30), .val (.int z45), .val (.int z60), .val (.int z76), .val (.int z92), .val (.int z108), .val (.int z124), .val (.int z140), .val (.ref a147), .unset, .unset, .unset] []) := by
        intro vs hl h8
        have J186 : ∀ vs : List Value, vs.length = z'.toNatClampNeg → (z'.toNatClampNeg = 8 → vs = [(.int z30), (.int z45), (.int z60), (.int 0), (.int 0), (.int 0), (.int 0), (.int 0)]) → Go p l e room_1 s m #[(.int ls), (.int sl), (.long rw'), (.int xt)] below meth c Z n0 (fun v _ => v = some (.int 1)) room_1.cells room_1.slots (upd μ a147 (.inr (.byte, vs))) (0 + 0 + 0 + 0 + 0 + 0 + 0 + 0 + 0 + 1) (0 + 0 + 0 + 0 + 0 + 0 + 0 + 0 + 0 + 9) (mkF m 186 #[.val (.int ls), .val (.int sl), .val (.long rw'), .second, .val (.int xt), .val (.int z3), .val (.int z'), .val (.int z30), .val (.int z45), .val (.int z60), .val (.int z76), .val (.int z92), .val (.int z108), .val (.int z124), .val (.int z140), .val (.ref a147), .unset, .unset, .unset] []) := by
          intro vs hl h8
          have J198 : ∀ vs : List Value, vs.length = z'.toNatClampNeg → (z'.toNatClampNeg = 8 → vs = [(.int z30), (.int z45), (.int z60), (.int z76), (.int 0), (.int 0), (.int 0), (.int 0)]) → Go p l e room_1 s m #[(.int ls), (.int sl), (.long rw'), (.int xt)] below meth c Z n0 (fun v _ => v = some (.int 1)) room_1.cells room_1.slots (upd μ a147 (.inr (.byte, vs))) (0 + 0 + 0 + 0 + 0 + 0 + 0 + 0 + 0 + 1) (0 + 0 + 0 + 0 + 0 + 0 + 0 + 0 + 0 + 9) (mkF m 198 #[.val (.int ls), .val (.int sl), .val (.long rw'), .second, .val (.int xt), .val (.int z3), .val (.int z'), .val (.int z30), .val (.int z45), .val (.int z60), .val (.int z76), .val (.int z92), .val (.int z108), .val (.int z124), .val (.int z140), .val (.ref a147), .unset, .unset, .unset] []) := by
            intro vs hl h8
            have J210 : ∀ vs : List Value, vs.length = z'.toNatClampNeg → (z'.toNatClampNeg = 8 → vs = [(.int z30), (.int z45), (.int z60), (.int z76), (.int z92), (.int 0), (.int 0), (.int 0)]) → Go p l e room_1 s m #[(.int ls), (.int sl), (.long rw'), (.int xt)] below meth c Z n0 (fun v _ => v = some (.int 1)) room_1.cells room_1.slots (upd μ a147 (.inr (.byte, vs))) (0 + 0 + 0 + 0 + 0 + 0 + 0 + 0 + 0 + 1) (0 + 0 + 0 + 0 + 0 + 0 + 0 + 0 + 0 + 9) (mkF m 210 #[.val (.int ls), .val (.int sl), .val (.long rw'), .second, .val (.int xt), .val (.int z3), .val (.int z'), .val (.int z30), .val (.int z45), .val (.int z60), .val (.int z76), .val (.int z92), .val (.int z108), .val (.int z124), .val (.int z140), .val (.ref a147), .unset, .unset, .unset] []) := by
              intro vs hl h8
              have J222 : ∀ vs : List Value, vs.length = z'.toNatClampNeg → (z'.toNatClampNeg = 8 → vs = [(.int z30), (.int z45), (.int z60), (.int z76), (.int z92), (.int z108), (.int 0), (.int 0)]) → Go p l e room_1 s m #[(.int ls), (.int sl), (.long rw'), (.int xt)] below meth c Z n0 (fun v _ => v = some (.int 1)) room_1.cells room_1.slots (upd μ a147 (.inr (.byte, vs))) (0 + 0 + 0 + 0 + 0 + 0 + 0 + 0 + 0 + 1) (0 + 0 + 0 + 0 + 0 + 0 + 0 + 0 + 0 + 9) (mkF m 222 #[.val (.int ls), .val (.int sl), .val (.long rw'), .second, .val (.int xt), .val (.int z3), .val (.int z'), .val (.int z30), .val (.int z45), .val (.int z60), .val (.int z76), .val (.int z92), .val (.int z108), .val (.int z124), .val (.int z140), .val (.ref a147), .unset, .unset, .unset] []) := by
                intro vs hl h8
                have J236 : ∀ vs : List Value, vs.length = z'.toNatClampNeg → (z'.toNatClampNeg = 8 → vs = [(.int z30), (.int z45), (.int z60), (.int z76), (.int z92), (.int z108), (.int z124), (.int 0)]) → Go p l e room_1 s m #[(.int ls), (.int sl), (.long rw'), (.int xt)] below meth c Z n0 (fun v _ => v = some (.int 1)) room_1.cells room_1.slots (upd μ a147 (.inr (.byte, vs))) (0 + 0 + 0 + 0 + 0 + 0 + 0 + 0 + 0 + 1) (0 + 0 + 0 + 0 + 0 + 0 + 0 + 0 + 0 + 9) (mkF m 236 #[.val (.int ls), .val (.int sl), .val (.long rw'), .second, .val (.int xt), .val (.int z3), .val (.int z'), .val (.int z30), .val (.int z45), .val (.int z60), .val (.int z76), .val (.int z92), .val (.int z108), .val (.int z124), .val (.int z140), .val (.ref a147), .unset, .unset, .unset] []) := by
                  intro vs hl h8
                  have J250 : ∀ vs : List Value, vs.length = z'.toNatClampNeg → (z'.toNatClampNeg = 8 → vs = [(.int z30), (.int z45), (.int z60), (.int z76), (.int z92), (.int z108), (.int z124), (.int z140)]) → Go p l e room_1 s m #[(.int ls), (.int sl), (.long rw'), (.int xt)] below meth c Z n0 (fun v _ => v = some (.int 1)) room_1.cells room_1.slots (upd μ a147 (.inr (.byte, vs))) (0 + 0 + 0 + 0 + 0 + 0 + 0 + 0 + 0 + 1) (0 + 0 + 0 + 0 + 0 + 0 + 0 + 0 + 0 + 9) (mkF m 250 #[.val (.int ls), .val (.int sl), .val (.long rw'), .second, .val (.int xt), .val (.int z3), .val (.int z'), .val (.int z30), .val (.int z45), .val (.int z60), .val (.int z76), .val (.int z92), .val (.int z108), .val (.int z124), .val (.int z140), .val (.ref a147), .unset, .unset, .unset] []) := by
                    intro vs hl h8
                    have J265 : ∀ vs : List Value, vs.length = z'.toNatClampNeg → (z'.toNatClampNeg = 8 → vs = [(.int z30), (.int z45), (.int z60), (.int z76), (.int z92), (.int z108), (.int z124), (.int z140)]) → Go p l e room_1 s m #[(.int ls), (.int sl), (.long rw'), (.int xt)] below meth c Z n0 (fun v _ => v = some (.int 1)) room_1.cells room_1.slots (upd μ a147 (.inr (.byte, vs))) (0 + 0 + 0 + 0 + 0 + 0 + 0 + 0 + 0 + 1) (0 + 0 + 0 + 0 + 0 + 0 + 0 + 0 + 0 + 9) (mkF m 265 #[.val (.int ls), .val (.int sl), .val (.long rw'), .second, .val (.int xt), .val (.int z3), .val (.int z'), .val (.int z30), .val (.int z45), .val (.int z60), .val (.int z76), .val (.int z92), .val (.int z108), .val (.int z124), .val (.int z140), .val (.ref a147), .unset, .unset, .unset] []) := by
                      intro vs hl h8
                      have J318 : ∀ s6 : Int32, s6 = six z30 z45 z60 z76 z92 z108 → Go p l e room_1 s m #[(.int ls), (.int sl), (.long rw'), (.int xt)] below meth c Z n0 (fun v _ => v = some (.int 1)) room_1.cells room_1.slots (upd μ a147 (.inr (.byte, vs))) (0 + 0 + 0 + 0 + 0 + 0 + 0 + 0 + 0 + 1) (0 + 0 + 0 + 0 + 0 + 0 + 0 + 0 + 0 + 9) (mkF m 318 #[.val (.int ls), .val (.int sl), .val (.long rw'), .second, .val (.int xt), .val (.int z3), .val (.int z'), .val (.int z30), .val (.int z45), .val (.int z60), .val (.int z76), .val (.int z92), .val (.int z108), .val (.int z124), .val (.int z140), .val (.ref a147), .unset, .unset, .unset] [(.int s6)]) := by
                        intro s6 hs6
                        refine Own.istore C at_318 (q := 320) rfl (L' := #[.val (.int ls), .val (.int sl), .val (.long rw'), .second, .val (.int xt), .val (.int z3), .val (.int z'), .val (.int z30), .val (.int z45), .val (.int z60), .val (.int z76), .val (.int z92), .val (.int z108), .val (.int z124), .val (.int z140), .val (.ref a147), .val (.int s6), .unset, .unset]) rfl ?_
                        have J373 : ∀ t : Int32, t = tail z124 z140 → Go p l e room_1 s m #[(.int ls), (.int sl), (.long rw'), (.int xt)] below meth c Z n0 (fun v _ => v = some (.int 1)) room_1.cells room_1.slots (upd μ a147 (.inr (.byte, vs))) (0 + 0 + 0 + 0 + 0 + 0 + 0 + 0 + 0 + 1) (0 + 0 + 0 + 0 + 0 + 0 + 0 + 0 + 0 + 9) (mkF m 373 #[.val (.int ls), .val (.int sl), .val (.long rw'), .second, .val (.int xt), .val (.int z3), .val (.int z'), .val (.int z30), .val (.int z45), .val (.int z60), .val (.int z76), .val (.int z92), .val (.int z108), .val (.int z124), .val (.int z140), .val (.ref a147), .val (.int s6), .unset, .unset] [(.int t)]) := by
                          intro t ht
                          refine Own.istore C at_373 (q := 375) rfl (L' := #[.val (.int ls), .val (.int sl), .val (.long rw'), .second, .val (.int xt), .val (.int z3), .val (.int z'), .val (.int z30), .val (.int z45), .val (.int z60), .val (.int z76), .val (.int z92), .val (.int z108), .val (.int z124), .val (.int z140), .val (.ref a147), .val (.int s6), .val (.int t), .unset]) rfl ?_
                          have J397 : ∀ ex : Int32, (z'.toNatClampNeg = 8 → ex = if six z30 z45 z60 z76 z92 z108 = 1 ∧ tail z124 z140 = 1 then 1 else 0) → (¬ z'.toNatClampNeg = 8 → ex = 0) → Go p l e room_1 s m #[(.int ls), (.int sl), (.long rw'), (.int xt)] below meth c Z n0 (fun v _ => v = some (.int 1)) room_1.cells room_1.slots (upd μ a147 (.inr (.byte, vs))) (0 + 0 + 0 + 0 + 0 + 0 + 0 + 0 + 0 + 1) (0 + 0 + 0 + 0 + 0 + 0 + 0 + 0 + 0 + 9) (mkF m 397 #[.val (.int ls), .val (.int sl), .val (.long rw'), .second, .val (.int xt), .val (.int z3), .val (.int z'), .val (.int z30), .val (.int z45), .val (.int z60), .val (.int z76), .val (.int z92), .val (.int z108), .val (.int z124), .val (.int z140), .val (.ref a147), .val (.int s6), .val (.int t), .unset] [(.int ex)]) := by
                            intro ex hex1 hex2
                            refine Own.istore C at_397 (q := 399) rfl (L' := #[.val (.int ls), .val (.int sl), .val (.long rw'), .second, .val (.int xt), .val (.int z3), .val (.int z'), .val (.int z30), .val (.int z45), .val (.int z60), .val (.int z76), .val (.int z92), .val (.int z108), .val (.int z124), .val (.int z140), .val (.ref a147), .val (.int s6), .val (.int t), .val (.int ex)]) rfl ?_
                            refine Own.aload C at_399 (q := 401) rfl rfl rfl ?_
                            by_cases hN8 : z'.toNatClampNeg = 8
                            · obtain rfl := h8 hN8
                              refine Own.mem (show _ = upd μ a147 (.inr (.byte, ar 8 (fn8 z30 z45 z60 z76 z92 z108 z124 z140))) from rfl) ?_
                              refine Own.callS C at_401 (q := 404) rfl (hw _ (List.mem_of_getElem? (i := 8) rfl)) (hw _ (List.mem_of_getElem? (i := 9) rfl)) (hw _ (List.mem_of_getElem? (i := 10) rfl)) (hw _ (List.mem_of_getElem? (i := 11) rfl)) (by decide) (W := 0) (rm := rm_3) (argsL := [(.ref a147)]) (st := []) (lenOf pd_1 rfl) rfl rfl (Nat.le_of_eq rfl) (by decide) (by decide) (by decide) (by decide) (c_pin l Z a0 hw n0 _ a147 (fn8 z30 z45 z60 z76 z92 z108 z124 z140) upd_same) (nxI fun z401 μ401 h401 => ?_)
                              obtain ⟨h401m, h401⟩ := h401
                              refine Own.mem h401m ?_
                              refine Own.iload C at_404 (q := 406) rfl rfl ?_
                              refine Own.icmp_ne C at_406 (q := 409) rfl (r := 413) (by decide) (fun h406 => ?_) (fun h406 => ?_)
                              · exact absurd ((pin_law h401).trans (hex1 hN8).symm) h406
                              · refine Own.iconst C at_409 (q := 410) rfl (z := 1) (by decide) ?_
                                refine Own.goto C at_410 (q := 414) (by decide) ?_
                                refine Own.nreturn C at_414 (by simp) (z' := (1 : Int32)) (by decide) (by decide) (by decide) ?_
                                rfl
                            · refine Own.callS C at_401 (q := 404) rfl (hw _ (List.mem_of_getElem? (i := 8) rfl)) (hw _ (List.mem_of_getElem? (i := 9) rfl)) (hw _ (List.mem_of_getElem? (i := 10) rfl)) (hw _ (List.mem_of_getElem? (i := 11) rfl)) (by decide) (W := 0) (rm := rm_3) (argsL := [(.ref a147)]) (st := []) (lenOf pd_1 rfl) rfl rfl (Nat.le_of_eq rfl) (by decide) (by decide) (by decide) (by decide) (c_pinN l Z a0 hw n0 _ a147 vs upd_same (by rw [hl]; exact hN8)) (nxI fun z401 μ401 h401 => ?_)
                              obtain ⟨h401m, h401⟩ := h401
                              refine Own.mem h401m ?_
                              refine Own.iload C at_404 (q := 406) rfl rfl ?_
                              refine Own.icmp_ne C at_406 (q := 409) rfl (r := 413) (by decide) (fun h406 => ?_) (fun h406 => ?_)
                              · exact absurd (h401.trans (hex2 hN8).symm) h406
                              · refine Own.iconst C at_409 (q := 410) rfl (z := 1) (by decide) ?_
                                refine Own.goto C at_410 (q := 414) (by decide) ?_
                                refine Own.nreturn C at_414 (by simp) (z' := (1 : Int32)) (by decide) (by decide) (by decide) ?_
                                rfl
                          refine Own.iload C at_375 (q := 377) rfl rfl ?_
                          refine Own.bipush C at_377 (q := 379) rfl (z := 8) (by decide) ?_
                          refine Own.icmp_ne C at_379 (q := 382) rfl (r := 396) (by decide) (fun h379 => ?_) (fun h379 => ?_)
                          · refine Own.iconst C at_396 (q := 397) rfl (z := 0) (by decide) ?_
                            exact J397 _ (fun h => by exfalso; apply h379; apply Int32.toInt_inj.mp; have t := tn hz0; rw [show (8 : Int32).toInt = 8 from rfl]; omega) (fun _ => rfl)
                          · refine Own.iload C at_382 (q := 384) rfl rfl ?_
                            refine Own.if_eq C at_384 (q := 387) rfl (r := 396) (by decide) (fun h384 => ?_) (fun h384 => ?_)
                            · refine Own.iconst C at_396 (q := 397) rfl (z := 0) (by decide) ?_
                              exact J397 _ (fun _ => by rw [if_neg]; rw [← hs6, h384]; simp) (fun h => absurd (by subst h379; rfl) h)
                            · refine Own.iload C at_387 (q := 389) rfl rfl ?_
                              refine Own.if_eq C at_389 (q := 392) rfl (r := 396) (by decide) (fun h389 => ?_) (fun h389 => ?_)
                              · refine Own.iconst C at_396 (q := 397) rfl (z := 0) (by decide) ?_
                                exact J397 _ (fun _ => by rw [if_neg]; rw [← ht, h389]; simp) (fun h => absurd (by subst h379; rfl) h)
                              · refine Own.iconst C at_392 (q := 393) rfl (z := 1) (by decide) ?_
                                refine Own.goto C at_393 (q := 397) (by decide) ?_
                                exact J397 _ (fun _ => by rw [if_pos]; rw [← hs6, ← ht]; exact ⟨(six01 hs6).resolve_left h384, (tail01 ht).resolve_left h389⟩) (fun h => absurd (by subst h379; rfl) h)
                        refine Own.iload C at_320 (q := 322) rfl rfl ?_
                        refine Own.callS C at_322 (q := 325) rfl (hw _ (List.mem_of_getElem? (i := 5) rfl)) (hw _ (List.mem_of_getElem? (i := 6) rfl)) (hw _ (List.mem_of_getElem? (i := 2) rfl)) (hw _ (List.mem_of_getElem? (i := 7) rfl)) (by decide) (W := 0) (rm := rm_2) (argsL := [(.int z124)]) (st := []) (lenOf pd_2 rfl) rfl rfl (Nat.le_of_eq rfl) (by decide) (by decide) (by decide) (by decide) (c_dig l Z a0 hw n0 _ z124) (nxI fun z322 μ322 h322 => ?_)
                        obtain ⟨h322m, h322⟩ := h322
                        refine Own.mem h322m ?_
                        refine Own.if_eq C at_325 (q := 328) rfl (r := 336) (by decide) (fun h325 => ?_) (fun h325 => ?_)
                        · refine Own.iload C at_336 (q := 338) rfl rfl ?_
                          refine Own.callS C at_338 (q := 341) rfl (hw _ (List.mem_of_getElem? (i := 5) rfl)) (hw _ (List.mem_of_getElem? (i := 6) rfl)) (hw _ (List.mem_of_getElem? (i := 2) rfl)) (hw _ (List.mem_of_getElem? (i := 7) rfl)) (by decide) (W := 0) (rm := rm_2) (argsL := [(.int z124)]) (st := []) (lenOf pd_2 rfl) rfl rfl (Nat.le_of_eq rfl) (by decide) (by decide) (by decide) (by decide) (c_dig l Z a0 hw n0 _ z124) (nxI fun z338 μ338 h338 => ?_)
                          obtain ⟨h338m, h338⟩ := h338
                          refine Own.mem h338m ?_
                          refine Own.if_eq C at_341 (q := 344) rfl (r := 352) (by decide) (fun h341 => ?_) (fun h341 => ?_)
                          · refine Own.iload C at_352 (q := 354) rfl rfl ?_
                            refine Own.callS C at_354 (q := 357) rfl (hw _ (List.mem_of_getElem? (i := 12) rfl)) (hw _ (List.mem_of_getElem? (i := 13) rfl)) (hw _ (List.mem_of_getElem? (i := 2) rfl)) (hw _ (List.mem_of_getElem? (i := 14) rfl)) (by decide) (W := 0) (rm := rm_4) (argsL := [(.int z124)]) (st := []) (lenOf pd_2 rfl) rfl rfl (Nat.le_of_eq rfl) (by decide) (by decide) (by decide) (by decide) (c_ff l Z a0 hw n0 _ z124) (nxI fun z354 μ354 h354 => ?_)
                            obtain ⟨h354m, h354⟩ := h354
                            refine Own.mem h354m ?_
                            refine Own.if_eq C at_357 (q := 360) rfl (r := 372) (by decide) (fun h357 => ?_) (fun h357 => ?_)
                            · refine Own.iconst C at_372 (q := 373) rfl (z := 0) (by decide) ?_
                              rw [h322] at h325
                              rw [h338] at h341
                              rw [h354] at h357
                              exact J373 _ (by simp [tail, dg_ff, h325, h341, ff1 h357])
                            · refine Own.iload C at_360 (q := 362) rfl rfl ?_
                              refine Own.callS C at_362 (q := 365) rfl (hw _ (List.mem_of_getElem? (i := 12) rfl)) (hw _ (List.mem_of_getElem? (i := 13) rfl)) (hw _ (List.mem_of_getElem? (i := 2) rfl)) (hw _ (List.mem_of_getElem? (i := 14) rfl)) (by decide) (W := 0) (rm := rm_4) (argsL := [(.int z140)]) (st := []) (lenOf pd_2 rfl) rfl rfl (Nat.le_of_eq rfl) (by decide) (by decide) (by decide) (by decide) (c_ff l Z a0 hw n0 _ z140) (nxI fun z362 μ362 h362 => ?_)
                              obtain ⟨h362m, h362⟩ := h362
                              refine Own.mem h362m ?_
                              refine Own.if_eq C at_365 (q := 368) rfl (r := 372) (by decide) (fun h365 => ?_) (fun h365 => ?_)
                              · refine Own.iconst C at_372 (q := 373) rfl (z := 0) (by decide) ?_
                                rw [h322] at h325
                                rw [h338] at h341
                                rw [h354] at h357
                                rw [h362] at h365
                                exact J373 _ (by simp [tail, dg_ff, h325, h341, ff0 h357, ff1 h365])
                              · refine Own.iconst C at_368 (q := 369) rfl (z := 1) (by decide) ?_
                                refine Own.goto C at_369 (q := 373) (by decide) ?_
                                rw [h322] at h325
                                rw [h338] at h341
                                rw [h354] at h357
                                rw [h362] at h365
                                exact J373 _ (by simp [tail, dg_ff, h325, h341, ff0 h357, ff0 h365])
                          · refine Own.iload C at_344 (q := 346) rfl rfl ?_
                            refine Own.callS C at_346 (q := 349) rfl (hw _ (List.mem_of_getElem? (i := 12) rfl)) (hw _ (List.mem_of_getElem? (i := 13) rfl)) (hw _ (List.mem_of_getElem? (i := 2) rfl)) (hw _ (List.mem_of_getElem? (i := 14) rfl)) (by decide) (W := 0) (rm := rm_4) (argsL := [(.int z140)]) (st := []) (lenOf pd_2 rfl) rfl rfl (Nat.le_of_eq rfl) (by decide) (by decide) (by decide) (by decide) (c_ff l Z a0 hw n0 _ z140) (nxI fun z346 μ346 h346 => ?_)
                            obtain ⟨h346m, h346⟩ := h346
                            refine Own.mem h346m ?_
                            refine Own.if_ne C at_349 (q := 352) rfl (r := 368) (by decide) (fun h349 => ?_) (fun h349 => ?_)
                            · refine Own.iconst C at_368 (q := 369) rfl (z := 1) (by decide) ?_
                              refine Own.goto C at_369 (q := 373) (by decide) ?_
                              rw [h322] at h325
                              rw [h338] at h341
                              exact absurd h325 h341
                            · refine Own.iload C at_352 (q := 354) rfl rfl ?_
                              refine Own.callS C at_354 (q := 357) rfl (hw _ (List.mem_of_getElem? (i := 12) rfl)) (hw _ (List.mem_of_getElem? (i := 13) rfl)) (hw _ (List.mem_of_getElem? (i := 2) rfl)) (hw _ (List.mem_of_getElem? (i := 14) rfl)) (by decide) (W := 0) (rm := rm_4) (argsL := [(.int z124)]) (st := []) (lenOf pd_2 rfl) rfl rfl (Nat.le_of_eq rfl) (by decide) (by decide) (by decide) (by decide) (c_ff l Z a0 hw n0 _ z124) (nxI fun z354 μ354 h354 => ?_)
                              obtain ⟨h354m, h354⟩ := h354
                              refine Own.mem h354m ?_
                              refine Own.if_eq C at_357 (q := 360) rfl (r := 372) (by decide) (fun h357 => ?_) (fun h357 => ?_)
                              · refine Own.iconst C at_372 (q := 373) rfl (z := 0) (by decide) ?_
                                rw [h322] at h325
                                rw [h338] at h341
                                exact absurd h325 h341
                              · refine Own.iload C at_360 (q := 362) rfl rfl ?_
                                refine Own.callS C at_362 (q := 365) rfl (hw _ (List.mem_of_getElem? (i := 12) rfl)) (hw _ (List.mem_of_getElem? (i := 13) rfl)) (hw _ (List.mem_of_getElem? (i := 2) rfl)) (hw _ (List.mem_of_getElem? (i := 14) rfl)) (by decide) (W := 0) (rm := rm_4) (argsL := [(.int z140)]) (st := []) (lenOf pd_2 rfl) rfl rfl (Nat.le_of_eq rfl) (by decide) (by decide) (by decide) (by decide) (c_ff l Z a0 hw n0 _ z140) (nxI fun z362 μ362 h362 => ?_)
                                obtain ⟨h362m, h362⟩ := h362
                                refine Own.mem h362m ?_
                                refine Own.if_eq C at_365 (q := 368) rfl (r := 372) (by decide) (fun h365 => ?_) (fun h365 => ?_)
                                · refine Own.iconst C at_372 (q := 373) rfl (z := 0) (by decide) ?_
                                  rw [h322] at h325
                                  rw [h338] at h341
                                  exact absurd h325 h341
                                · refine Own.iconst C at_368 (q := 369) rfl (z := 1) (by decide) ?_
                                  refine Own.goto C at_369 (q := 373) (by decide) ?_
                                  rw [h322] at h325
                                  rw [h338] at h341
                                  exact absurd h325 h341
                        · refine Own.iload C at_328 (q := 330) rfl rfl ?_
                          refine Own.callS C at_330 (q := 333) rfl (hw _ (List.mem_of_getElem? (i := 5) rfl)) (hw _ (List.mem_of_getElem? (i := 6) rfl)) (hw _ (List.mem_of_getElem? (i := 2) rfl)) (hw _ (List.mem_of_getElem? (i := 7) rfl)) (by decide) (W := 0) (rm := rm_2) (argsL := [(.int z140)]) (st := []) (lenOf pd_2 rfl) rfl rfl (Nat.le_of_eq rfl) (by decide) (by decide) (by decide) (by decide) (c_dig l Z a0 hw n0 _ z140) (nxI fun z330 μ330 h330 => ?_)
                          obtain ⟨h330m, h330⟩ := h330
                          refine Own.mem h330m ?_
                          refine Own.if_ne C at_333 (q := 336) rfl (r := 368) (by decide) (fun h333 => ?_) (fun h333 => ?_)
                          · refine Own.iconst C at_368 (q := 369) rfl (z := 1) (by decide) ?_
                            refine Own.goto C at_369 (q := 373) (by decide) ?_
                            rw [h322] at h325
                            rw [h330] at h333
                            exact J373 _ (by simp [tail, dg_ff, dg0 h325, dg0 h333])
                          · refine Own.iload C at_336 (q := 338) rfl rfl ?_
                            refine Own.callS C at_338 (q := 341) rfl (hw _ (List.mem_of_getElem? (i := 5) rfl)) (hw _ (List.mem_of_getElem? (i := 6) rfl)) (hw _ (List.mem_of_getElem? (i := 2) rfl)) (hw _ (List.mem_of_getElem? (i := 7) rfl)) (by decide) (W := 0) (rm := rm_2) (argsL := [(.int z124)]) (st := []) (lenOf pd_2 rfl) rfl rfl (Nat.le_of_eq rfl) (by decide) (by decide) (by decide) (by decide) (c_dig l Z a0 hw n0 _ z124) (nxI fun z338 μ338 h338 => ?_)
                            obtain ⟨h338m, h338⟩ := h338
                            refine Own.mem h338m ?_
                            refine Own.if_eq C at_341 (q := 344) rfl (r := 352) (by decide) (fun h341 => ?_) (fun h341 => ?_)
                            · refine Own.iload C at_352 (q := 354) rfl rfl ?_
                              refine Own.callS C at_354 (q := 357) rfl (hw _ (List.mem_of_getElem? (i := 12) rfl)) (hw _ (List.mem_of_getElem? (i := 13) rfl)) (hw _ (List.mem_of_getElem? (i := 2) rfl)) (hw _ (List.mem_of_getElem? (i := 14) rfl)) (by decide) (W := 0) (rm := rm_4) (argsL := [(.int z124)]) (st := []) (lenOf pd_2 rfl) rfl rfl (Nat.le_of_eq rfl) (by decide) (by decide) (by decide) (by decide) (c_ff l Z a0 hw n0 _ z124) (nxI fun z354 μ354 h354 => ?_)
                              obtain ⟨h354m, h354⟩ := h354
                              refine Own.mem h354m ?_
                              refine Own.if_eq C at_357 (q := 360) rfl (r := 372) (by decide) (fun h357 => ?_) (fun h357 => ?_)
                              · refine Own.iconst C at_372 (q := 373) rfl (z := 0) (by decide) ?_
                                rw [h322] at h325
                                rw [h338] at h341
                                exact absurd h341 h325
                              · refine Own.iload C at_360 (q := 362) rfl rfl ?_
                                refine Own.callS C at_362 (q := 365) rfl (hw _ (List.mem_of_getElem? (i := 12) rfl)) (hw _ (List.mem_of_getElem? (i := 13) rfl)) (hw _ (List.mem_of_getElem? (i := 2) rfl)) (hw _ (List.mem_of_getElem? (i := 14) rfl)) (by decide) (W := 0) (rm := rm_4) (argsL := [(.int z140)]) (st := []) (lenOf pd_2 rfl) rfl rfl (Nat.le_of_eq rfl) (by decide) (by decide) (by decide) (by decide) (c_ff l Z a0 hw n0 _ z140) (nxI fun z362 μ362 h362 => ?_)
                                obtain ⟨h362m, h362⟩ := h362
                                refine Own.mem h362m ?_
                                refine Own.if_eq C at_365 (q := 368) rfl (r := 372) (by decide) (fun h365 => ?_) (fun h365 => ?_)
                                · refine Own.iconst C at_372 (q := 373) rfl (z := 0) (by decide) ?_
                                  rw [h322] at h325
                                  rw [h338] at h341
                                  exact absurd h341 h325
                                · refine Own.iconst C at_368 (q := 369) rfl (z := 1) (by decide) ?_
                                  refine Own.goto C at_369 (q := 373) (by decide) ?_
                                  rw [h322] at h325
                                  rw [h338] at h341
                                  exact absurd h341 h325
                            · refine Own.iload C at_344 (q := 346) rfl rfl ?_
                              refine Own.callS C at_346 (q := 349) rfl (hw _ (List.mem_of_getElem? (i := 12) rfl)) (hw _ (List.mem_of_getElem? (i := 13) rfl)) (hw _ (List.mem_of_getElem? (i := 2) rfl)) (hw _ (List.mem_of_getElem? (i := 14) rfl)) (by decide) (W := 0) (rm := rm_4) (argsL := [(.int z140)]) (st := []) (lenOf pd_2 rfl) rfl rfl (Nat.le_of_eq rfl) (by decide) (by decide) (by decide) (by decide) (c_ff l Z a0 hw n0 _ z140) (nxI fun z346 μ346 h346 => ?_)
                              obtain ⟨h346m, h346⟩ := h346
                              refine Own.mem h346m ?_
                              refine Own.if_ne C at_349 (q := 352) rfl (r := 368) (by decide) (fun h349 => ?_) (fun h349 => ?_)
                              · refine Own.iconst C at_368 (q := 369) rfl (z := 1) (by decide) ?_
                                refine Own.goto C at_369 (q := 373) (by decide) ?_
                                rw [h322] at h325
                                rw [h330] at h333
                                rw [h338] at h341
                                rw [h346] at h349
                                exact J373 _ (by simp [tail, dg_ff, dg0 h325, h333, dg0 h341, ff0 h349])
                              · refine Own.iload C at_352 (q := 354) rfl rfl ?_
                                refine Own.callS C at_354 (q := 357) rfl (hw _ (List.mem_of_getElem? (i := 12) rfl)) (hw _ (List.mem_of_getElem? (i := 13) rfl)) (hw _ (List.mem_of_getElem? (i := 2) rfl)) (hw _ (List.mem_of_getElem? (i := 14) rfl)) (by decide) (W := 0) (rm := rm_4) (argsL := [(.int z124)]) (st := []) (lenOf pd_2 rfl) rfl rfl (Nat.le_of_eq rfl) (by decide) (by decide) (by decide) (by decide) (c_ff l Z a0 hw n0 _ z124) (nxI fun z354 μ354 h354 => ?_)
                                obtain ⟨h354m, h354⟩ := h354
                                refine Own.mem h354m ?_
                                refine Own.if_eq C at_357 (q := 360) rfl (r := 372) (by decide) (fun h357 => ?_) (fun h357 => ?_)
                                · refine Own.iconst C at_372 (q := 373) rfl (z := 0) (by decide) ?_
                                  rw [h322] at h325
                                  rw [h330] at h333
                                  rw [h338] at h341
                                  rw [h346] at h349
                                  rw [h354] at h357
                                  exact J373 _ (by simp [tail, dg_ff, dg0 h325, h333, dg0 h341, ff1 h349, ff1 h357])
                                · refine Own.iload C at_360 (q := 362) rfl rfl ?_
                                  refine Own.callS C at_362 (q := 365) rfl (hw _ (List.mem_of_getElem? (i := 12) rfl)) (hw _ (List.mem_of_getElem? (i := 13) rfl)) (hw _ (List.mem_of_getElem? (i := 2) rfl)) (hw _ (List.mem_of_getElem? (i := 14) rfl)) (by decide) (W := 0) (rm := rm_4) (argsL := [(.int z140)]) (st := []) (lenOf pd_2 rfl) rfl rfl (Nat.le_of_eq rfl) (by decide) (by decide) (by decide) (by decide) (c_ff l Z a0 hw n0 _ z140) (nxI fun z362 μ362 h362 => ?_)
                                  obtain ⟨h362m, h362⟩ := h362
                                  refine Own.mem h362m ?_
                                  refine Own.if_eq C at_365 (q := 368) rfl (r := 372) (by decide) (fun h365 => ?_) (fun h365 => ?_)
                                  · refine Own.iconst C at_372 (q := 373) rfl (z := 0) (by decide) ?_
                                    rw [h322] at h325
                                    rw [h330] at h333
                                    rw [h338] at h341
                                    rw [h346] at h349
                                    rw [h354] at h357
                                    rw [h362] at h365
                                    exact J373 _ (by simp [tail, dg_ff, dg0 h325, h333, dg0 h341, ff1 h349, ff0 h357, ff1 h365])
                                  · refine Own.iconst C at_368 (q := 369) rfl (z := 1) (by decide) ?_
                                    refine Own.goto C at_369 (q := 373) (by decide) ?_
                                    rw [h322] at h325
                                    rw [h330] at h333
                                    rw [h338] at h341
                                    rw [h346] at h349
                                    rw [h354] at h357
                                    rw [h362] at h365
                                    exact J373 _ (by simp [tail, dg_ff, dg0 h325, h333, dg0 h341, ff1 h349, ff0 h357, ff0 h365])
                      refine Own.iload C at_265 (q := 267) rfl rfl ?_
                      refine Own.callS C at_267 (q := 270) rfl (hw _ (List.mem_of_getElem? (i := 5) rfl)) (hw _ (List.mem_of_getElem? (i := 6) rfl)) (hw _ (List.mem_of_getElem? (i := 2) rfl)) (hw _ (List.mem_of_getElem? (i := 7) rfl)) (by decide) (W := 0) (rm := rm_2) (argsL := [(.int z30)]) (st := []) (lenOf pd_2 rfl) rfl rfl (Nat.le_of_eq rfl) (by decide) (by decide) (by decide) (by decide) (c_dig l Z a0 hw n0 _ z30) (nxI fun z267 μ267 h267 => ?_)
                      obtain ⟨h267m, h267⟩ := h267
                      refine Own.mem h267m ?_
                      refine Own.if_eq C at_270 (q := 273) rfl (r := 317) (by decide) (fun h270 => ?_) (fun h270 => ?_)
                      · refine Own.iconst C at_317 (q := 318) rfl (z := 0) (by decide) ?_
                        rw [h267] at h270
                        exact J318 _ (by simp [six, h270])
                      · refine Own.iload C at_273 (q := 275) rfl rfl ?_
                        refine Own.callS C at_275 (q := 278) rfl (hw _ (List.mem_of_getElem? (i := 5) rfl)) (hw _ (List.mem_of_getElem? (i := 6) rfl)) (hw _ (List.mem_of_getElem? (i := 2) rfl)) (hw _ (List.mem_of_getElem? (i := 7) rfl)) (by decide) (W := 0) (rm := rm_2) (argsL := [(.int z45)]) (st := []) (lenOf pd_2 rfl) rfl rfl (Nat.le_of_eq rfl) (by decide) (by decide) (by decide) (by decide) (c_dig l Z a0 hw n0 _ z45) (nxI fun z275 μ275 h275 => ?_)
                        obtain ⟨h275m, h275⟩ := h275
                        refine Own.mem h275m ?_
                        refine Own.if_eq C at_278 (q := 281) rfl (r := 317) (by decide) (fun h278 => ?_) (fun h278 => ?_)
                        · refine Own.iconst C at_317 (q := 318) rfl (z := 0) (by decide) ?_
                          rw [h267] at h270
                          rw [h275] at h278
                          exact J318 _ (by simp [six, dg0 h270, h278])
                        · refine Own.iload C at_281 (q := 283) rfl rfl ?_
                          refine Own.callS C at_283 (q := 286) rfl (hw _ (List.mem_of_getElem? (i := 5) rfl)) (hw _ (List.mem_of_getElem? (i := 6) rfl)) (hw _ (List.mem_of_getElem? (i := 2) rfl)) (hw _ (List.mem_of_getElem? (i := 7) rfl)) (by decide) (W := 0) (rm := rm_2) (argsL := [(.int z60)]) (st := []) (lenOf pd_2 rfl) rfl rfl (Nat.le_of_eq rfl) (by decide) (by decide) (by decide) (by decide) (c_dig l Z a0 hw n0 _ z60) (nxI fun z283 μ283 h283 => ?_)
                          obtain ⟨h283m, h283⟩ := h283
                          refine Own.mem h283m ?_
                          refine Own.if_eq C at_286 (q := 289) rfl (r := 317) (by decide) (fun h286 => ?_) (fun h286 => ?_)
                          · refine Own.iconst C at_317 (q := 318) rfl (z := 0) (by decide) ?_
                            rw [h267] at h270
                            rw [h275] at h278
                            rw [h283] at h286
                            exact J318 _ (by simp [six, dg0 h270, dg0 h278, h286])
                          · refine Own.iload C at_289 (q := 291) rfl rfl ?_
                            refine Own.callS C at_291 (q := 294) rfl (hw _ (List.mem_of_getElem? (i := 5) rfl)) (hw _ (List.mem_of_getElem? (i := 6) rfl)) (hw _ (List.mem_of_getElem? (i := 2) rfl)) (hw _ (List.mem_of_getElem? (i := 7) rfl)) (by decide) (W := 0) (rm := rm_2) (argsL := [(.int z76)]) (st := []) (lenOf pd_2 rfl) rfl rfl (Nat.le_of_eq rfl) (by decide) (by decide) (by decide) (by decide) (c_dig l Z a0 hw n0 _ z76) (nxI fun z291 μ291 h291 => ?_)
                            obtain ⟨h291m, h291⟩ := h291
                            refine Own.mem h291m ?_
                            refine Own.if_eq C at_294 (q := 297) rfl (r := 317) (by decide) (fun h294 => ?_) (fun h294 => ?_)
                            · refine Own.iconst C at_317 (q := 318) rfl (z := 0) (by decide) ?_
                              rw [h267] at h270
                              rw [h275] at h278
                              rw [h283] at h286
                              rw [h291] at h294
                              exact J318 _ (by simp [six, dg0 h270, dg0 h278, dg0 h286, h294])
                            · refine Own.iload C at_297 (q := 299) rfl rfl ?_
                              refine Own.callS C at_299 (q := 302) rfl (hw _ (List.mem_of_getElem? (i := 5) rfl)) (hw _ (List.mem_of_getElem? (i := 6) rfl)) (hw _ (List.mem_of_getElem? (i := 2) rfl)) (hw _ (List.mem_of_getElem? (i := 7) rfl)) (by decide) (W := 0) (rm := rm_2) (argsL := [(.int z92)]) (st := []) (lenOf pd_2 rfl) rfl rfl (Nat.le_of_eq rfl) (by decide) (by decide) (by decide) (by decide) (c_dig l Z a0 hw n0 _ z92) (nxI fun z299 μ299 h299 => ?_)
                              obtain ⟨h299m, h299⟩ := h299
                              refine Own.mem h299m ?_
                              refine Own.if_eq C at_302 (q := 305) rfl (r := 317) (by decide) (fun h302 => ?_) (fun h302 => ?_)
                              · refine Own.iconst C at_317 (q := 318) rfl (z := 0) (by decide) ?_
                                rw [h267] at h270
                                rw [h275] at h278
                                rw [h283] at h286
                                rw [h291] at h294
                                rw [h299] at h302
                                exact J318 _ (by simp [six, dg0 h270, dg0 h278, dg0 h286, dg0 h294, h302])
                              · refine Own.iload C at_305 (q := 307) rfl rfl ?_
                                refine Own.callS C at_307 (q := 310) rfl (hw _ (List.mem_of_getElem? (i := 5) rfl)) (hw _ (List.mem_of_getElem? (i := 6) rfl)) (hw _ (List.mem_of_getElem? (i := 2) rfl)) (hw _ (List.mem_of_getElem? (i := 7) rfl)) (by decide) (W := 0) (rm := rm_2) (argsL := [(.int z108)]) (st := []) (lenOf pd_2 rfl) rfl rfl (Nat.le_of_eq rfl) (by decide) (by decide) (by decide) (by decide) (c_dig l Z a0 hw n0 _ z108) (nxI fun z307 μ307 h307 => ?_)
                                obtain ⟨h307m, h307⟩ := h307
                                refine Own.mem h307m ?_
                                refine Own.if_eq C at_310 (q := 313) rfl (r := 317) (by decide) (fun h310 => ?_) (fun h310 => ?_)
                                · refine Own.iconst C at_317 (q := 318) rfl (z := 0) (by decide) ?_
                                  rw [h267] at h270
                                  rw [h275] at h278
                                  rw [h283] at h286
                                  rw [h291] at h294
                                  rw [h299] at h302
                                  rw [h307] at h310
                                  exact J318 _ (by simp [six, dg0 h270, dg0 h278, dg0 h286, dg0 h294, dg0 h302, h310])
                                · refine Own.iconst C at_313 (q := 314) rfl (z := 1) (by decide) ?_
                                  refine Own.goto C at_314 (q := 318) (by decide) ?_
                                  rw [h267] at h270
                                  rw [h275] at h278
                                  rw [h283] at h286
                                  rw [h291] at h294
                                  rw [h299] at h302
                                  rw [h307] at h310
                                  exact J318 _ (by simp [six, dg0 h270, dg0 h278, dg0 h286, dg0 h294, dg0 h302, dg0 h310])
                    refine Own.iload C at_250 (q := 252) rfl rfl ?_
                    refine Own.bipush C at_252 (q := 254) rfl (z := 8) (by decide) ?_
                    refine Own.icmp_le C at_254 (q := 257) rfl (r := 265) (by decide) (fun h254 => ?_) (fun h254 => ?_)
                    · exact J265 _ hl (fun h => h8 h)
                    · refine Own.aload C at_257 (q := 259) rfl rfl rfl ?_
                      refine Own.bipush C at_259 (q := 261) rfl (z := 8) (by decide) ?_
                      refine Own.iload C at_261 (q := 263) rfl rfl ?_
                      refine Own.i2b C at_263 (q := 264) rfl fun z263 e263 => ?_
                      refine Own.bastore C at_264 (q := 265) rfl upd_same (by decide) (by rw [hl]; have t := tn hz0; have h' := h254; rw [Int32.lt_iff_toInt_lt, show (8 : Int32).toInt = 8 from rfl] at h'; show 8 < _; omega) a147_g (mem (upd_list (vs' := (vs.set 8 (.int z263.toInt8.toInt32))) rfl upd_upd) ?_)
                      exact J265 _ (by rw [List.length_set]; exact hl) (fun h => by have t := tn hz0; rw [Int32.lt_iff_toInt_lt, show (8 : Int32).toInt = 8 from rfl] at h254; omega)
                  refine Own.iload C at_236 (q := 238) rfl rfl ?_
                  refine Own.bipush C at_238 (q := 240) rfl (z := 7) (by decide) ?_
                  refine Own.icmp_le C at_240 (q := 243) rfl (r := 250) (by decide) (fun h240 => ?_) (fun h240 => ?_)
                  · exact J250 _ hl (fun h => by have t := tn hz0; rw [Int32.lt_iff_toInt_lt, show (7 : Int32).toInt = 7 from rfl] at h240; omega)
                  · refine Own.aload C at_243 (q := 245) rfl rfl rfl ?_
                    refine Own.bipush C at_245 (q := 247) rfl (z := 7) (by decide) ?_
                    refine Own.iload C at_247 (q := 249) rfl rfl ?_
                    refine Own.bastore C at_249 (q := 250) rfl upd_same (by decide) (by rw [hl]; have t := tn hz0; have h' := h240; rw [Int32.lt_iff_toInt_lt, show (7 : Int32).toInt = 7 from rfl] at h'; show 7 < _; omega) a147_g (mem (upd_list (vs' := (vs.set 7 (.int z140.toInt8.toInt32))) rfl upd_upd) ?_)
                    exact J250 _ (by rw [List.length_set]; exact hl) (fun h => by rw [h8 h, show z140.toInt8.toInt32 = z140 from h140]; rfl)
                refine Own.iload C at_222 (q := 224) rfl rfl ?_
                refine Own.bipush C at_224 (q := 226) rfl (z := 6) (by decide) ?_
                refine Own.icmp_le C at_226 (q := 229) rfl (r := 236) (by decide) (fun h226 => ?_) (fun h226 => ?_)
                · exact J236 _ hl (fun h => by have t := tn hz0; rw [Int32.lt_iff_toInt_lt, show (6 : Int32).toInt = 6 from rfl] at h226; omega)
                · refine Own.aload C at_229 (q := 231) rfl rfl rfl ?_
                  refine Own.bipush C at_231 (q := 233) rfl (z := 6) (by decide) ?_
                  refine Own.iload C at_233 (q := 235) rfl rfl ?_
                  refine Own.bastore C at_235 (q := 236) rfl upd_same (by decide) (by rw [hl]; have t := tn hz0; have h' := h226; rw [Int32.lt_iff_toInt_lt, show (6 : Int32).toInt = 6 from rfl] at h'; show 6 < _; omega) a147_g (mem (upd_list (vs' := (vs.set 6 (.int z124.toInt8.toInt32))) rfl upd_upd) ?_)
                  exact J236 _ (by rw [List.length_set]; exact hl) (fun h => by rw [h8 h, show z124.toInt8.toInt32 = z124 from h124]; rfl)
              refine Own.iload C at_210 (q := 212) rfl rfl ?_
              refine Own.iconst C at_212 (q := 213) rfl (z := 5) (by decide) ?_
              refine Own.icmp_le C at_213 (q := 216) rfl (r := 222) (by decide) (fun h213 => ?_) (fun h213 => ?_)
              · exact J222 _ hl (fun h => by have t := tn hz0; rw [Int32.lt_iff_toInt_lt, show (5 : Int32).toInt = 5 from rfl] at h213; omega)
              · refine Own.aload C at_216 (q := 218) rfl rfl rfl ?_
                refine Own.iconst C at_218 (q := 219) rfl (z := 5) (by decide) ?_
                refine Own.iload C at_219 (q := 221) rfl rfl ?_
                refine Own.bastore C at_221 (q := 222) rfl upd_same (by decide) (by rw [hl]; have t := tn hz0; have h' := h213; rw [Int32.lt_iff_toInt_lt, show (5 : Int32).toInt = 5 from rfl] at h'; show 5 < _; omega) a147_g (mem (upd_list (vs' := (vs.set 5 (.int z108.toInt8.toInt32))) rfl upd_upd) ?_)
                exact J222 _ (by rw [List.length_set]; exact hl) (fun h => by rw [h8 h, show z108.toInt8.toInt32 = z108 from h108]; rfl)
            refine Own.iload C at_198 (q := 200) rfl rfl ?_
            refine Own.iconst C at_200 (q := 201) rfl (z := 4) (by decide) ?_
            refine Own.icmp_le C at_201 (q := 204) rfl (r := 210) (by decide) (fun h201 => ?_) (fun h201 => ?_)
            · exact J210 _ hl (fun h => by have t := tn hz0; rw [Int32.lt_iff_toInt_lt, show (4 : Int32).toInt = 4 from rfl] at h201; omega)
            · refine Own.aload C at_204 (q := 206) rfl rfl rfl ?_
              refine Own.iconst C at_206 (q := 207) rfl (z := 4) (by decide) ?_
              refine Own.iload C at_207 (q := 209) rfl rfl ?_
              refine Own.bastore C at_209 (q := 210) rfl upd_same (by decide) (by rw [hl]; have t := tn hz0; have h' := h201; rw [Int32.lt_iff_toInt_lt, show (4 : Int32).toInt = 4 from rfl] at h'; show 4 < _; omega) a147_g (mem (upd_list (vs' := (vs.set 4 (.int z92.toInt8.toInt32))) rfl upd_upd) ?_)
              exact J210 _ (by rw [List.length_set]; exact hl) (fun h => by rw [h8 h, show z92.toInt8.toInt32 = z92 from h92]; rfl)
          refine Own.iload C at_186 (q := 188) rfl rfl ?_
          refine Own.iconst C at_188 (q := 189) rfl (z := 3) (by decide) ?_
          refine Own.icmp_le C at_189 (q := 192) rfl (r := 198) (by decide) (fun h189 => ?_) (fun h189 => ?_)
          · exact J198 _ hl (fun h => by have t := tn hz0; rw [Int32.lt_iff_toInt_lt, show (3 : Int32).toInt = 3 from rfl] at h189; omega)
          · refine Own.aload C at_192 (q := 194) rfl rfl rfl ?_
            refine Own.iconst C at_194 (q := 195) rfl (z := 3) (by decide) ?_
            refine Own.iload C at_195 (q := 197) rfl rfl ?_
            refine Own.bastore C at_197 (q := 198) rfl upd_same (by decide) (by rw [hl]; have t := tn hz0; have h' := h189; rw [Int32.lt_iff_toInt_lt, show (3 : Int32).toInt = 3 from rfl] at h'; show 3 < _; omega) a147_g (mem (upd_list (vs' := (vs.set 3 (.int z76.toInt8.toInt32))) rfl upd_upd) ?_)
            exact J198 _ (by rw [List.length_set]; exact hl) (fun h => by rw [h8 h, show z76.toInt8.toInt32 = z76 from h76]; rfl)
        refine Own.iload C at_174 (q := 176) rfl rfl ?_
        refine Own.iconst C at_176 (q := 177) rfl (z := 2) (by decide) ?_
        refine Own.icmp_le C at_177 (q := 180) rfl (r := 186) (by decide) (fun h177 => ?_) (fun h177 => ?_)
        · exact J186 _ hl (fun h => by have t := tn hz0; rw [Int32.lt_iff_toInt_lt, show (2 : Int32).toInt = 2 from rfl] at h177; omega)
        · refine Own.aload C at_180 (q := 182) rfl rfl rfl ?_
          refine Own.iconst C at_182 (q := 183) rfl (z := 2) (by decide) ?_
          refine Own.iload C at_183 (q := 185) rfl rfl ?_
          refine Own.bastore C at_185 (q := 186) rfl upd_same (by decide) (by rw [hl]; have t := tn hz0; have h' := h177; rw [Int32.lt_iff_toInt_lt, show (2 : Int32).toInt = 2 from rfl] at h'; show 2 < _; omega) a147_g (mem (upd_list (vs' := (vs.set 2 (.int z60.toInt8.toInt32))) rfl upd_upd) ?_)
          exact J186 _ (by rw [List.length_set]; exact hl) (fun h => by rw [h8 h, show z60.toInt8.toInt32 = z60 from h60]; rfl)
      refine Own.iload C at_162 (q := 164) rfl rfl ?_
      refine Own.iconst C at_164 (q := 165) rfl (z := 1) (by decide) ?_
      refine Own.icmp_le C at_165 (q := 168) rfl (r := 174) (by decide) (fun h165 => ?_) (fun h165 => ?_)
      · exact J174 _ hl (fun h => by have t := tn hz0; rw [Int32.lt_iff_toInt_lt, show (1 : Int32).toInt = 1 from rfl] at h165; omega)
      · refine Own.aload C at_168 (q := 170) rfl rfl rfl ?_
        refine Own.iconst C at_170 (q := 171) rfl (z := 1) (by decide) ?_
        refine Own.iload C at_171 (q := 173) rfl rfl ?_
        refine Own.bastore C at_173 (q := 174) rfl upd_same (by decide) (by rw [hl]; have t := tn hz0; have h' := h165; rw [Int32.lt_iff_toInt_lt, show (1 : Int32).toInt = 1 from rfl] at h'; show 1 < _; omega) a147_g (mem (upd_list (vs' := (vs.set 1 (.int z45.toInt8.toInt32))) rfl upd_upd) ?_)
        exact J174 _ (by rw [List.length_set]; exact hl) (fun h => by rw [h8 h, show z45.toInt8.toInt32 = z45 from h45]; rfl)
    refine Own.iload C at_151 (q := 153) rfl rfl ?_
    refine Own.if_le C at_153 (q := 156) rfl (r := 162) (by decide) (fun h153 => ?_) (fun h153 => ?_)
    · exact J162 _ List.length_replicate (fun h => by have t := tn hz0; rw [Int32.lt_iff_toInt_lt, show (0 : Int32).toInt = 0 from rfl] at h153; omega)
    · refine Own.aload C at_156 (q := 158) rfl rfl rfl ?_
      refine Own.iconst C at_158 (q := 159) rfl (z := 0) (by decide) ?_
      refine Own.iload C at_159 (q := 161) rfl rfl ?_
      refine Own.bastore C at_161 (q := 162) rfl upd_same (by decide) (by rw [List.length_replicate]; have t := tn hz0; have h' := h153; rw [Int32.lt_iff_toInt_lt, show (0 : Int32).toInt = 0 from rfl] at h'; show 0 < _; omega) a147_g (mem (upd_list (vs' := ((List.replicate z'.toNatClampNeg (Value.int 0)).set 0 (.int z30.toInt8.toInt32))) rfl upd_upd) ?_)
      exact J162 _ (by rw [List.length_set]; exact List.length_replicate) (fun h => by rw [h, show z30.toInt8.toInt32 = z30 from h30]; rfl)
  refine Own.iload C at_6 (q := 8) rfl rfl ?_
  refine Own.bipush C at_8 (q := 10) rfl (z := 6) (by decide) ?_
  refine Own.icmp_ge C at_10 (q := 13) rfl (r := 18) (by decide) (fun h10 => ?_) (fun h10 => ?_)
  · refine Own.iload C at_18 (q := 20) rfl rfl ?_
    refine Own.bipush C at_20 (q := 22) rfl (z := 6) (by decide) ?_
    refine Own.isub C at_22 (q := 23) rfl fun z22 e22 => ?_
    have o1 := c_mask ls 15 4 (by decide) (by decide); rw [← e3] at o1; have o2 := c_isub z3 6; rw [← e22] at o2; have q := rng32 z22; rw [Int32.lt_iff_toInt_lt] at h10; simp only [Int32.reduceToInt] at h10 o2
    exact J23 _ (by omega) (by omega)
  · refine Own.bipush C at_13 (q := 15) rfl (z := 8) (by decide) ?_
    refine Own.goto C at_15 (q := 23) (by decide) ?_
    exact J23 _ (by decide) (by decide)
set_option maxRecDepth 65536 in
set_option maxHeartbeats 4000000 in
theorem comes_1 {Post : Tables → Env → Array Value → State → Outcome → State → Prop} (hpost : ∀ tb e args s v u, (limb_1_1.after args s (.returned v) u = true ∧ limb_1_2.after args s (.returned v) u = true ∧ True) → FrameEnd s (.returned v) u (Jvm.fieldLocs frame_1_writes args s ++ Jvm.arrayLocs frame_1_arrays args s ++ Jvm.staticLocs frame_1_statics s) 16 128 → Post tb e args s (.returned v) u) :
    ArmFor flags0 classFile x code maxLocals ret World_1 tables_1 room_1 Calls_1 rest_1 Pre_1 Post := by
  intro l hfl _ _ p e ha hc hk s m args below hf hA hF happ hP
  obtain ⟨hcalls, hrest, hpre⟩ := hP
  obtain ⟨-, -, -, hnamed, -, -, -, hat⟩ := (Spec.applies_iff hf).mp happ
  obtain ⟨hg, hn⟩ := and_e (Cond.before_iff.mp (show (Jvm.Cond.and given_1 narrow_1).before args s = true from hpre))
  obtain ⟨g0, hg⟩ := and_e hg
  obtain ⟨g1, hg⟩ := and_e hg
  obtain ⟨g2, hg⟩ := and_e hg
  obtain ⟨g3, hg⟩ := and_e hg
  have g4 := hg
  obtain ⟨w0, w1, w2, w3, rfl⟩ : ∃ w0 w1 w2 w3 : Value, args = #[w0, w1, w2, w3] := by
    have hs : args.size = 4 := by simpa [Cond.value, given_1] using g0
    obtain ⟨L⟩ := args
    match L, hs with
    | [w0, w1, w2, w3], _ => exact ⟨w0, w1, w2, w3, rfl⟩
  have hw := fun d (hd : d ∈ tables_1) => atoms_spec (ws := Jvm.Cond.code x code maxLocals ret :: tables_1) hat d (List.mem_cons_of_mem _ hd)
  have hfit : Fit s := fun {y c} hc i hi => by
    obtain ⟨ha, rfl⟩ := Array.getElem?_eq_some_iff.mp hc
    have q := List.all_eq_true.mp ((Array.all_eq_true_iff_forall_mem.mp hF) _ (Array.getElem_mem ha)) i (List.mem_range.mpr hi)
    simpa [Array.getElem?_eq_getElem hi] using q
  obtain ⟨i0, ei0⟩ := is_v g1
  obtain rfl : w0 = (.int i0) := Option.some.inj ei0
  obtain ⟨i1, ei1⟩ := is_v g2
  obtain rfl : w1 = (.int i1) := Option.some.inj ei1
  obtain ⟨i2, ei2⟩ := isL_v g3
  obtain rfl : w2 = (.long i2) := Option.some.inj ei2
  obtain ⟨i3, ei3⟩ := is_v g4
  obtain rfl : w3 = (.int i3) := Option.some.inj ei3
  obtain ⟨n, o, h1, h2, h3, _, L, rfl, ⟨N, _, -, rfl⟩, hq⟩ := c_law l s _ hw s.heap.size (fun _ => none) i0 i1 i2 i3 s.heap ⟨Old.start s, fun _ _ q => nomatch q⟩ p e ha hc hk s m _ below hf ((Spec.applies_iff_loose hf).mp happ).1 ⟨rfl, State.Warmed39.refl s, rfl⟩ trivial
  refine ⟨n, _, h1, h2, h3, hpost _ _ _ _ _ _ ⟨Cond.after_iff.mpr rfl, Cond.after_iff.mpr (eq_i res_at (Term.int_eval (1)) rfl), trivial⟩ ⟨hq.1, hq.2.1, (hq.2.2.sift fun y hy => Or.inr (N y hy)).mono (by decide) (by decide)⟩⟩
theorem main_1_1 : Claimed_1_1 := comes_1 fun _ _ _ _ _ _ h hF => ⟨h.1, hF⟩
theorem main_1_2 : Claimed_1_2 := comes_1 fun _ _ _ _ _ _ h hF => ⟨h.2.1, hF⟩
end Jvm.Pilot.@@N@@
namespace Jvm.Pilot.@@N@@
open Jvm Jvm.ClassFile Sem Op Lib Jvm.Free Jvm.Stand Jvm.Pilot.@@N@@.Jvm.D
/-! MADE BY PROGRAM (witnessworld.py) out of the Statement's table words and the real class files: 9 classes; the members and pool entries that the words name. The judged class is class 1, her method 4. -/
namespace start1
open Jvm.ClassFile
def u (s : String) : CpInfo := .utf8 (stringToUtf16 s)
/-- a pool by its gaps: so many unusable entries, then the entry; so many at the end -/
def gap : Nat → List CpInfo → List CpInfo
  | 0, r => r
  | n + 1, r => .unusable :: gap n r
def poolList (es : List (Nat × CpInfo)) (last : Nat) : List CpInfo := es.foldr (fun e r => gap e.1 (e.2 :: r)) (gap last [])
def pool (es : List (Nat × CpInfo)) (last : Nat) : Array CpInfo := ⟨poolList es last⟩
def fileOf (pool : Array CpInfo) (this : Nat) (attrs : Array Attribute := #[]) (ms : Array MethodInfo := #[]) (fl : Nat := 33) (sup : Nat := 0) (ifs : Array Nat := #[]) (fds : Array FieldInfo := #[]) : ClassFile where
  minorVersion := 0
  majorVersion := 65
  constantPool := pool
  accessFlags := fl
  thisClass := this
  superClass := sup
  interfaces := ifs
  fields := fds
  methods := ms
  attributes := attrs
def plain (name : String) (sup : Option ClassId) : Class where
  name := name
  kind := .ordinary
  loader := none
  accessFlags := 33
  super := sup
  interfaces := #[]
  cf := none
  fields := #[]
  methods := #[]
  instanceTypes := #[]
  staticTypes := #[]
  resolved := #[]
  callSites := []
  init := .initialized
  statics := none
  mirror := none

def pool0 : Array CpInfo := pool [(5, u "<init>"), (0, u "()V"), (1, .class_ 10), (1, u "java/lang/Object")] 113

def k0m0 : Method := { name := "<init>", desc := "()V", sig := { parameters := [], returnType := none }, accessFlags := 1, code := none }
/-- java/lang/Object -/
def k0 : Class := { plain "java/lang/Object" none with
  accessFlags := 33
  interfaces := #[]
  cf := some (fileOf pool0 8 #[] #[{ accessFlags := 1, nameIndex := 5, descriptorIndex := 6, attributes := #[] }] 33 0 #[] #[])
  fields := #[]
  methods := #[k0m0]
  instanceTypes := #[]
  staticTypes := #[]
  resolved := Array.replicate 124 none
  statics := none }

def pool1 : Array CpInfo := pool [(2, .class_ 4), (1, u "java/lang/Object"), (0, u "<init>"), (0, u "()V"), (0, .methodref 8 9), (0, .class_ 10), (0, .nameAndType 11 12), (0, u "com/example/toehold/toehold/piv/ReferenceDataIsPinPinLaw"), (0, u "pick"), (0, u "(II)B"), (0, .methodref 8 14), (0, .nameAndType 15 16), (0, u "dig"), (0, u "(B)Z"), (0, .methodref 8 18), (0, .nameAndType 19 16), (0, u "ff"), (0, .methodref 21 22), (0, .class_ 23), (0, .nameAndType 24 25), (0, u "com/example/toehold/toehold/piv/ReferenceData"), (0, u "isPin"), (0, u "([B)Z"), (3, u "law"), (0, u "(IIJI)Z")] 4

def k1m0 : Method := { name := "<init>", desc := "()V", sig := { parameters := [], returnType := none }, accessFlags := 2, code := none }
def k1c1 : Code := { maxStack := 3, maxLocals := 4, code := method_2_code, exceptionTable := #[], attributes := #[] }
def k1m1 : Method := { name := "pick", desc := "(II)B", sig := { parameters := [.int, .int], returnType := some .byte }, accessFlags := 10, code := some k1c1 }
def k1c2 : Code := { maxStack := 2, maxLocals := 1, code := method_3_code, exceptionTable := #[], attributes := #[] }
def k1m2 : Method := { name := "dig", desc := "(B)Z", sig := { parameters := [.byte], returnType := some .boolean }, accessFlags := 10, code := some k1c2 }
def k1c3 : Code := { maxStack := 2, maxLocals := 1, code := method_4_code, exceptionTable := #[], attributes := #[] }
def k1m3 : Method := { name := "ff", desc := "(B)Z", sig := { parameters := [.byte], returnType := some .boolean }, accessFlags := 10, code := some k1c3 }
def k1c4 : Code := { maxStack := 4, maxLocals := 19, code := code, exceptionTable := #[], attributes := #[] }
def k1m4 : Method := { name := "law", desc := "(IIJI)Z", sig := { parameters := [.int, .int, .long, .int], returnType := some .boolean }, accessFlags := 9, code := some k1c4 }
/-- com/example/toehold/toehold/piv/ReferenceDataIsPinPinLaw -/
def k1 : Class := { plain "com/example/toehold/toehold/piv/ReferenceDataIsPinPinLaw" (some 0) with
  accessFlags := 49
  interfaces := #[]
  cf := some (fileOf pool1 8 #[] #[{ accessFlags := 2, nameIndex := 5, descriptorIndex := 6, attributes := #[] }, { accessFlags := 10, nameIndex := 11, descriptorIndex := 12, attributes := #[] }, { accessFlags := 10, nameIndex := 15, descriptorIndex := 16, attributes := #[] }, { accessFlags := 10, nameIndex := 19, descriptorIndex := 16, attributes := #[] }, { accessFlags := 9, nameIndex := 29, descriptorIndex := 30, attributes := #[] }] 49 2 #[] #[])
  fields := #[]
  methods := #[k1m0, k1m1, k1m2, k1m3, k1m4]
  instanceTypes := #[]
  staticTypes := #[]
  resolved := Array.replicate 35 none
  statics := none }

def pool2 : Array CpInfo := pool [(2, .class_ 4), (1, u "java/lang/Object"), (3, .class_ 10), (1, u "com/example/toehold/toehold/piv/ReferenceData"), (0, u "memory"), (0, u "Lcom/example/toehold/toehold/piv/PersistentMemory;"), (2, u "name"), (0, u "Ljava/lang/String;"), (38, u "verified"), (0, u "Z"), (2, u "unspent"), (18, u "LENGTH"), (0, u "I"), (2, u "PAD"), (0, u "B"), (1, u "MIN_PIN_DIGITS"), (1, u "RETRY_LIMIT"), (1, u "TRIES_LEFT"), (1, u "VALUE"), (6, u "isPin"), (0, u "([B)Z")] 14

def k2c0 : Code := { maxStack := 3, maxLocals := 4, code := prog_33_method_4_code, exceptionTable := #[], attributes := #[] }
def k2m0 : Method := { name := "isPin", desc := "([B)Z", sig := { parameters := [(.array .byte)], returnType := some .boolean }, accessFlags := 8, code := some k2c0 }
/-- com/example/toehold/toehold/piv/ReferenceData -/
def k2 : Class := { plain "com/example/toehold/toehold/piv/ReferenceData" (some 0) with
  accessFlags := 48
  interfaces := #[]
  cf := some (fileOf pool2 8 #[] #[{ accessFlags := 8, nameIndex := 98, descriptorIndex := 99, attributes := #[] }] 48 2 #[] #[{ accessFlags := 24, nameIndex := 78, descriptorIndex := 79, attributes := #[] }, { accessFlags := 26, nameIndex := 82, descriptorIndex := 83, attributes := #[] }, { accessFlags := 26, nameIndex := 85, descriptorIndex := 79, attributes := #[] }, { accessFlags := 26, nameIndex := 87, descriptorIndex := 79, attributes := #[] }, { accessFlags := 26, nameIndex := 89, descriptorIndex := 79, attributes := #[] }, { accessFlags := 26, nameIndex := 91, descriptorIndex := 79, attributes := #[] }, { accessFlags := 18, nameIndex := 11, descriptorIndex := 12, attributes := #[] }, { accessFlags := 18, nameIndex := 15, descriptorIndex := 16, attributes := #[] }, { accessFlags := 2, nameIndex := 55, descriptorIndex := 56, attributes := #[] }, { accessFlags := 2, nameIndex := 59, descriptorIndex := 56, attributes := #[] }])
  fields := #[{ name := "LENGTH", type := .int, accessFlags := 24, slot := 0, constantValue := 0 }, { name := "PAD", type := .byte, accessFlags := 26, slot := 1, constantValue := 0 }, { name := "MIN_PIN_DIGITS", type := .int, accessFlags := 26, slot := 2, constantValue := 0 }, { name := "RETRY_LIMIT", type := .int, accessFlags := 26, slot := 3, constantValue := 0 }, { name := "TRIES_LEFT", type := .int, accessFlags := 26, slot := 4, constantValue := 0 }, { name := "VALUE", type := .int, accessFlags := 26, slot := 5, constantValue := 0 }, { name := "memory", type := (.object "com/example/toehold/toehold/piv/PersistentMemory"), accessFlags := 18, slot := 0, constantValue := 0 }, { name := "name", type := (.object "java/lang/String"), accessFlags := 18, slot := 1, constantValue := 0 }, { name := "verified", type := .boolean, accessFlags := 2, slot := 2, constantValue := 0 }, { name := "unspent", type := .boolean, accessFlags := 2, slot := 3, constantValue := 0 }]
  methods := #[k2m0]
  instanceTypes := #[(.object "com/example/toehold/toehold/piv/PersistentMemory"), (.object "java/lang/String"), .boolean, .boolean]
  staticTypes := #[.int, .byte, .int, .int, .int, .int]
  resolved := Array.replicate 114 none
  statics := none }

def pool3 : Array CpInfo := pool [(1, u "java/lang/Cloneable"), (0, .class_ 1), (0, u "java/lang/Object"), (0, .class_ 3)] 3

/-- java/lang/Cloneable -/
def k3 : Class := { plain "java/lang/Cloneable" (some 0) with
  accessFlags := 1537
  interfaces := #[]
  cf := some (fileOf pool3 2 #[] #[] 1537 4 #[] #[])
  fields := #[]
  methods := #[]
  instanceTypes := #[]
  staticTypes := #[]
  resolved := Array.replicate 8 none
  statics := none }

def pool4 : Array CpInfo := pool [(1, u "java/io/Serializable"), (0, .class_ 1), (0, u "java/lang/Object"), (0, .class_ 3)] 3

/-- java/io/Serializable -/
def k4 : Class := { plain "java/io/Serializable" (some 0) with
  accessFlags := 1537
  interfaces := #[]
  cf := some (fileOf pool4 2 #[] #[] 1537 4 #[] #[])
  fields := #[]
  methods := #[]
  instanceTypes := #[]
  staticTypes := #[]
  resolved := Array.replicate 8 none
  statics := none }

/-- the primitive byte -/
def k5 : Class := { plain "byte" none with kind := .primitive 'B', accessFlags := 0x411 }
/-- [B -/
def k6 : Class := { plain "[B" (some 0) with kind := .array 5 .byte, interfaces := #[3, 4], accessFlags := 1041 }

/-- the primitive int -/
def k7 : Class := { plain "int" none with kind := .primitive 'I', accessFlags := 0x411 }
/-- [I -/
def k8 : Class := { plain "[I" (some 0) with kind := .array 7 .int, interfaces := #[3, 4], accessFlags := 1041 }

def heap : Heap := #[]
def classes : Array Class := #[k0, k1, k2, k3, k4, k5, k6, k7, k8]
def interned : List (Array UInt16 × Addr) := []
def slotsUsed : Nat := 0
def theMethod : MethodId := ⟨1, 4⟩
def args0 : Array Value := #[.int 5, .int 6, .long 7, .int 8]
def aboutOver (below : List Frame) : State where
  vm := { classes := classes, interned := interned.toArray }
  heap := heap
  slotsUsed := slotsUsed
  threads := #[{ frames := .invoking theMethod args0 :: below }]
def below0 : List Frame := [.native { method := ⟨0, 0⟩, args := #[] }]
def about1 : State := aboutOver below0
def p0 : Program := .bare "" "" ""
def e0 : Env := launch0.env 0 0 0
theorem w_frames : about1.frames = Frame.invoking theMethod args0 :: below0 := rfl
set_option maxRecDepth 65536 in
theorem w_args : argsFit about1.vm theMethod args0 = true := by decide +kernel
set_option maxRecDepth 65536 in
theorem w_heap : heapFits about1 = true := by decide +kernel
set_option maxRecDepth 65536 in
theorem w_runnable : about1.curStatus? = some .runnable := by decide +kernel
set_option maxRecDepth 65536 in
theorem w_alone : about1.alone = true := by decide +kernel
set_option maxRecDepth 65536 in
theorem w_named : about1.methodNamed? x = some theMethod := by decide +kernel
set_option maxRecDepth 65536 in
theorem w_hears : about1.hears theMethod below0 = true := by decide +kernel
set_option maxRecDepth 65536 in
theorem w_ripe : about1.ripe theMethod args0 below0 = true := by decide +kernel
theorem w_running : about1.status = .running := rfl
set_option maxRecDepth 65536 in
theorem w_room : about1.hasRoom e0.platform room_1 = true :=
  launch0.hasRoom_least _ room_1 (by decide +kernel) (by decide +kernel) (by decide +kernel) (by decide +kernel) (by decide +kernel) (by decide +kernel)
theorem allAtoms_all (ts : List Jvm.Cond) (a : Array Jvm.Value) (st : Jvm.State) : (allAtoms ts).before a st = ts.all (fun c => c.before a st) := by
  induction ts with
  | nil => rfl
  | cons c t ih =>
    show (Jvm.Cond.and c (allAtoms t)).before a st = _
    rw [Jvm.Cond.before_and, ih, List.all_cons]
def words1 : List Jvm.Cond := Jvm.Cond.code x code maxLocals ret :: tables_1
/-- a 'code' word, met by the world's own term for the bytes: nothing is compared byte by byte -/
theorem code_word {y : MethodName} {bytes : ByteArray} {mx : Nat} {rt : Option FieldType} {a : Array Value} {s : State} {m : MethodId} {meth : Method} {c : Code} (h1 : s.methodNamed? y = some m) (h2 : s.vm.method? m = some meth) (h3 : meth.code = some c) (h4 : c.code = bytes)
    (h5 : (c.maxLocals == mx && c.exceptionTable.isEmpty && decide (c.maxStack ≤ mostOperands) && decide (meth.sig.returnType = rt) && !meth.locks && decide (parseMethodDescriptor y.desc = some meth.sig)) = true) : (Jvm.Cond.code y bytes mx rt).before a s = true := by
  simp only [Bool.and_eq_true, beq_iff_eq, Bool.not_eq_true', decide_eq_true_eq] at h5
  obtain ⟨⟨⟨⟨⟨g1, g2⟩, g3⟩, g4⟩, g5⟩, g6⟩ := h5
  simp [Cond.before, Cond.holds, Cond.value, h1, h2, h3, h4, g1, g2, g3, g4, g5, g6]
def isCode : Jvm.Cond → Bool
  | .code _ _ _ _ => true
  | _ => false
theorem all_split {L : List Jvm.Cond} {P : Jvm.Cond → Bool} (h1 : L.all (fun c => isCode c || P c) = true) (h2 : ∀ c ∈ L.filter isCode, P c = true) : L.all P = true := by
  refine List.all_eq_true.mpr fun c hc => ?_
  have h := List.all_eq_true.mp h1 c hc
  rcases Bool.eq_false_or_eq_true (isCode c) with hi | hi
  · exact h2 c (List.mem_filter.mpr ⟨hc, hi⟩)
  · simpa [hi] using h
set_option maxRecDepth 65536 in
theorem w_c0 : (Jvm.Cond.code x code maxLocals ret).before args0 about1 = true := code_word (m := ⟨1, 4⟩) (meth := k1m4) (c := k1c4) (by decide +kernel) rfl rfl rfl (by decide +kernel)
set_option maxRecDepth 65536 in
theorem w_c1 : (Jvm.Cond.code ({ cls := "com/example/toehold/toehold/piv/ReferenceDataIsPinPinLaw", name := "pick", desc := "(II)B" } : Jvm.MethodName) method_2_code (4 : Nat) (Option.some Jvm.ClassFile.FieldType.byte)).before args0 about1 = true := code_word (m := ⟨1, 1⟩) (meth := k1m1) (c := k1c1) (by decide +kernel) rfl rfl rfl (by decide +kernel)
set_option maxRecDepth 65536 in
theorem w_c2 : (Jvm.Cond.code ({ cls := "com/example/toehold/toehold/piv/ReferenceDataIsPinPinLaw", name := "dig", desc := "(B)Z" } : Jvm.MethodName) method_3_code (1 : Nat) (Option.some Jvm.ClassFile.FieldType.boolean)).before args0 about1 = true := code_word (m := ⟨1, 2⟩) (meth := k1m2) (c := k1c2) (by decide +kernel) rfl rfl rfl (by decide +kernel)
set_option maxRecDepth 65536 in
theorem w_c3 : (Jvm.Cond.code ({ cls := "com/example/toehold/toehold/piv/ReferenceData", name := "isPin", desc := "([B)Z" } : Jvm.MethodName) prog_33_method_4_code (4 : Nat) (Option.some Jvm.ClassFile.FieldType.boolean)).before args0 about1 = true := code_word (m := ⟨2, 0⟩) (meth := k2m0) (c := k2c0) (by decide +kernel) rfl rfl rfl (by decide +kernel)
set_option maxRecDepth 65536 in
theorem w_c4 : (Jvm.Cond.code ({ cls := "com/example/toehold/toehold/piv/ReferenceDataIsPinPinLaw", name := "ff", desc := "(B)Z" } : Jvm.MethodName) method_4_code (1 : Nat) (Option.some Jvm.ClassFile.FieldType.boolean)).before args0 about1 = true := code_word (m := ⟨1, 3⟩) (meth := k1m3) (c := k1c3) (by decide +kernel) rfl rfl rfl (by decide +kernel)
def codes1 : List Jvm.Cond := [Jvm.Cond.code x code maxLocals ret, Jvm.Cond.code ({ cls := "com/example/toehold/toehold/piv/ReferenceDataIsPinPinLaw", name := "pick", desc := "(II)B" } : Jvm.MethodName) method_2_code (4 : Nat) (Option.some Jvm.ClassFile.FieldType.byte), Jvm.Cond.code ({ cls := "com/example/toehold/toehold/piv/ReferenceDataIsPinPinLaw", name := "dig", desc := "(B)Z" } : Jvm.MethodName) method_3_code (1 : Nat) (Option.some Jvm.ClassFile.FieldType.boolean), Jvm.Cond.code ({ cls := "com/example/toehold/toehold/piv/ReferenceData", name := "isPin", desc := "([B)Z" } : Jvm.MethodName) prog_33_method_4_code (4 : Nat) (Option.some Jvm.ClassFile.FieldType.boolean), Jvm.Cond.code ({ cls := "com/example/toehold/toehold/piv/ReferenceDataIsPinPinLaw", name := "ff", desc := "(B)Z" } : Jvm.MethodName) method_4_code (1 : Nat) (Option.some Jvm.ClassFile.FieldType.boolean)]
set_option maxRecDepth 65536 in
theorem codes_eq : words1.filter isCode = codes1 := rfl
theorem w_codes : ∀ c ∈ words1.filter isCode, c.before args0 about1 = true := by
  rw [codes_eq]
  intro c hc
  simp only [codes1, List.mem_cons, List.not_mem_nil, or_false] at hc
  rcases hc with rfl | rfl | rfl | rfl | rfl
  · exact w_c0
  · exact w_c1
  · exact w_c2
  · exact w_c3
  · exact w_c4
set_option maxRecDepth 65536 in
theorem w_t1 : words1.all (fun c => isCode c || c.before args0 about1) = true := by decide +kernel
theorem w_tables : (allAtoms (Jvm.Cond.code x code maxLocals ret :: tables_1)).before args0 about1 = true := by
  rw [allAtoms_all]
  show words1.all (fun c => c.before args0 about1) = true
  refine all_split ?_ w_codes
  rw [w_t1]
set_option maxRecDepth 65536 in
theorem w_case : (Jvm.Cond.and given_1 narrow_1).before args0 about1 = true := by decide +kernel
theorem w_applies : (headSpec (Jvm.Cond.code x code maxLocals ret :: tables_1) room_1).applies x e0.platform about1 = true :=
  (Spec.applies_iff w_frames).mpr ⟨w_running, w_runnable, w_alone, w_named, w_hears, w_ripe, w_room, w_tables⟩
theorem atStart : AtStart classFile x code maxLocals ret World_1 tables_1 room_1 Calls_1 rest_1 Pre_1 launch0 p0 e0 about1 theMethod args0 below0 :=
  ⟨lists_1, trivial, launch0.admits_env _ _ _, launch0.least_env, fairChoices_fair.cas, fairChoices_fair.clock, w_frames, w_args, w_heap, w_applies, trivial, trivial, w_case⟩
end start1
theorem witness_1 : WitnessClaimed_1 := ⟨start1.p0, start1.e0, start1.about1, start1.theMethod, start1.args0, start1.below0, start1.atStart⟩
end Jvm.Pilot.@@N@@
