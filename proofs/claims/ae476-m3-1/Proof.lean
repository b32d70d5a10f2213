import JvmDerived
import JvmDerived.Pilot.@@N@@Statement
import JvmDerived.Pilot.@@N@@Code
set_option linter.unusedVariables false
set_option linter.unusedSimpArgs false
namespace Jvm.Own
open Sem ClassFile Op Lib Jvm.Stand Jvm.Free Jvm.LawKit Jvm.RoadKit
/-! A plain store over the heap: what each address that matters holds. -/
abbrev Key : Type := String × String × String
abbrev Obj : Type := Sum (String × List (Key × Value)) (FieldType × List Value)
abbrev Mem : Type := Addr → Option Obj
def upd (μ : Mem) (a : Addr) (o : Obj) : Mem := fun x => if x = a then some o else μ x
section MemFacts
variable {μ : Mem} {a b : Addr} {o o' : Obj}
theorem upd_same : upd μ a o a = some o := by simp [upd]
theorem upd_ne (h : b ≠ a) : upd μ a o b = μ b := by simp [upd, h]
theorem upd_upd : upd (upd μ a o) a o' = upd μ a o' := by funext x; simp only [upd]; split <;> rfl
theorem upd_at (h : b ≠ a) {q : Obj} (hb : μ b = some q) : upd μ a o b = some q := (upd_ne h).trans hb
theorem upd_id (h : μ a = some o) : upd μ a o = μ := by funext x; simp only [upd]; split <;> simp_all
theorem upd_in {ν : Mem} {w : Obj} (h : upd μ a o = ν) (hb : b ≠ a) : upd (upd μ b w) a o = upd ν b w := by
  subst h; funext x; simp only [upd]
  by_cases h1 : x = a
  · subst h1; simp [Ne.symm hb]
  · by_cases h2 : x = b
    · subst h2; simp [h1]
    · simp [h1, h2]
theorem upd2 {ν ρ : Mem} {o' : Obj} (h1 : upd μ a o = ν) (h2 : upd ν b o' = ρ) : upd (upd μ a o) b o' = ρ := by subst h1; exact h2
theorem upd_list {ty : FieldType} {vs vs' : List Value} {ν : Mem} (h : vs = vs') (e : upd μ a (.inr (ty, vs')) = ν) : upd μ a (.inr (ty, vs)) = ν := by subst h; exact e
end MemFacts
def sl (Z : State) (q : Key × Value) : Nat := RoadKit.slotOf Z q.1.1 q.1.2.1 q.1.2.2
def IsO (Z : State) (h : Heap) (a : Addr) (C : String) (fs : List (Key × Value)) : Prop :=
  Exa Z h a C ∧ (∀ q ∈ fs, Fld Z h a q.1.1 q.1.2.1 q.1.2.2 q.2) ∧ fs.Pairwise fun q r => sl Z q ≠ sl Z r
def IsA (Z : State) (n0 : Nat) (h : Heap) (a : Addr) (ty : FieldType) (vs : List Value) : Prop :=
  ∃ c : Cell, Arr Z h a c ty ∧ c.slots.toList = vs ∧ vs.length < 2 ^ 31 ∧ (∀ v ∈ vs, fits ty v = true) ∧ (n0 ≤ a → ∀ C, ty = .object C → Ovr Z c.cls C)
def Is (Z : State) (n0 : Nat) (h : Heap) (a : Addr) : Obj → Prop
  | .inl q => IsO Z h a q.1 q.2
  | .inr q => IsA Z n0 h a q.1 q.2
def Hp (Z : State) (n0 : Nat) (μ : Mem) (h : Heap) : Prop := Old Z n0 h ∧ ∀ a o, μ a = some o → Is Z n0 h a o
section HpFacts
variable {Z : State} {n0 : Nat} {μ : Mem} {h h' : Heap} {a b : Addr} {o : Obj} {sl' : Nat} {v : Value}
theorem Is.lt (H : Is Z n0 h a o) : a < h.size := by
  rcases o with q | q
  · exact H.1.lt
  · obtain ⟨c, A, -⟩ := H; exact A.lt
theorem Is.ext (H : Is Z n0 h a o) (E : Ext h h') : Is Z n0 h' a o := by
  rcases o with q | q
  · exact ⟨H.1.ext E, fun r hr => (H.2.1 r hr).ext E, H.2.2⟩
  · obtain ⟨c, A, r⟩ := H; exact ⟨c, A.ext E, r⟩
theorem Is.other (H : Is Z n0 h b o) (W : Wr h h' a sl' v) (q : b ≠ a) : Is Z n0 h' b o := by
  rcases o with r | r
  · exact ⟨H.1.wr W, fun r hr => (H.2.1 r hr).other W (Or.inl q), H.2.2⟩
  · obtain ⟨c, A, r⟩ := H; exact ⟨c, A.other W q, r⟩
theorem Hp.ext (H : Hp Z n0 μ h) (E : Ext h h') : Hp Z n0 μ h' := ⟨H.1.ext E, fun a o q => (H.2 a o q).ext E⟩
theorem Hp.ge (H : Hp Z n0 μ h) : n0 ≤ h.size := H.1.1 ▸ H.1.2.1
theorem Hp.fresh (H : Hp Z n0 μ h) : ∀ b o, μ b = some o → b ≠ h.size := fun b o q => Nat.ne_of_lt (H.2 b o q).lt
theorem Hp.set (H : Hp Z n0 μ h') (I : Is Z n0 h' a o) : Hp Z n0 (upd μ a o) h' := ⟨H.1, fun b o' q => by
  by_cases e : b = a
  · subst e; rw [upd_same] at q; cases q; exact I
  · rw [upd_ne e] at q; exact H.2 b o' q⟩
theorem Hp.wr (H : Hp Z n0 μ h) (W : Wr h h' a sl' v) (g : n0 ≤ a) (I : Is Z n0 h' a o) : Hp Z n0 (upd μ a o) h' := ⟨H.1.wr W g, fun b o' q => by
  by_cases e : b = a
  · subst e; rw [upd_same] at q; cases q; exact I
  · rw [upd_ne e] at q; exact (H.2 b o' q).other W e⟩
theorem IsO.put {C : String} {fs fs' : List (Key × Value)} {k : Key} {i : Nat} {w : Value} (H : IsO Z h a C fs) (hi : fs[i]? = some (k, w)) (W : Wr h h' a (RoadKit.slotOf Z k.1 k.2.1 k.2.2) v) (e : fs.set i (k, v) = fs') : IsO Z h' a C fs' := by
  subst e
  obtain ⟨hlt, hk⟩ := List.getElem?_eq_some_iff.mp hi
  have F0 := H.2.1 _ (List.mem_of_getElem? hi)
  have hp := List.pairwise_iff_getElem.mp H.2.2
  refine ⟨H.1.wr W, fun q hq => ?_, ?_⟩
  · obtain ⟨j, hj, rfl⟩ := List.mem_iff_getElem.mp hq
    rw [List.length_set] at hj
    by_cases e : i = j
    · subst e; rw [List.getElem_set_self]; exact F0.same W
    · rw [List.getElem_set_ne e]
      refine (H.2.1 _ (List.getElem_mem hj)).other W (Or.inr ?_)
      have e0 : sl Z fs[i] = RoadKit.slotOf Z k.1 k.2.1 k.2.2 := by rw [hk]; rfl
      rcases Nat.lt_or_gt_of_ne e with q | q
      · have := hp i j hlt hj q; rw [e0] at this; exact fun z => this z.symm
      · have := hp j i hj hlt q; rw [e0] at this; exact this
  · rw [List.pairwise_iff_getElem]
    intro x y hx hy hxy
    rw [List.length_set] at hx hy
    have key : ∀ z (hz : z < (fs.set i (k, v)).length) (hz' : z < fs.length), sl Z (fs.set i (k, v))[z] = sl Z fs[z] := fun z hz hz' => by
      by_cases e : i = z
      · subst e; rw [List.getElem_set_self, hk]; rfl
      · rw [List.getElem_set_ne e]
    rw [key x _ hx, key y _ hy]
    exact hp x y hx hy hxy
theorem IsA.put {ty : FieldType} {vs : List Value} {j : Nat} (H : IsA Z n0 h a ty vs) (hv : fits ty v = true) (W : Wr h h' a j v) : IsA Z n0 h' a ty (vs.set j v) := by
  obtain ⟨c, A, rfl, hl, hf, ho⟩ := H
  refine ⟨_, A.same W, by simp [Cell.setSlot], by simpa using hl, fun w hw => ?_, ho⟩
  rcases List.mem_or_eq_of_mem_set hw with q | q
  · exact hf w q
  · subst q; exact hv
end HpFacts
/-- what is left to show from the frame g on -/
def Go (p : Program) (l : Launch) (e : Env) (R : Room) (s : State) (m : MethodId) (args : Array Value) (below : List Frame) (meth : Method) (c : Code) (Z : State) (n0 : Nat) (P : Option Value → Mem → Prop) (kc ks : Nat) (μ : Mem) (k n : Nat) (g : JFrame) : Prop :=
  ∀ T locs, Stand p l e R s m args below meth c T locs k n → Fr n0 locs → Hp Z n0 μ T.heap →
    ∃ s₂ o, Steps p.tables e below (T.setTop g) s₂ ∧ s₂.status = .running ∧ Ended s₂ below o ∧ ∃ v L, o = .returned v ∧ (Fr n0 L ∧ ∃ μ', Hp Z n0 μ' s₂.heap ∧ P v μ') ∧ FrameEnd s o s₂ L kc ks
/-- what stands fast while a body is walked -/
def Ctx (p : Program) (s : State) (m : MethodId) (meth : Method) (c : Code) (Z : State) (own nm : String) (B : ByteArray) (ml : Nat) (rt : Option FieldType) : Prop :=
  p.tables.exec = Jvm.exec ∧ c.code = B ∧ c.maxLocals = ml ∧ Z.Warmed39 s.vm ∧ s.vm.findClass own = some m.cls ∧ meth.sig.returnType = rt ∧ meth.locks = false ∧ meth.name = nm
/-- a body's contract -/
def Con (l : Launch) (Z : State) (n0 : Nat) (y : MethodName) (B : ByteArray) (ml : Nat) (rt : Option FieldType) (ws : List Cond) (rm : Room) (kc ks : Nat) (as : Array Value) (μ : Mem) (P : Option Value → Mem → Prop) : Prop :=
  ∀ h0, Hp Z n0 μ h0 → MetFree l y (head1 (Cond.code y B ml rt :: ws) rm) (fun a U => a = as ∧ Z.Warmed39 U.vm ∧ U.heap = h0) (fun _ _ _ _ _ => True)
    (fun _ U o U' => ∃ v L, o = .returned v ∧ (Fr n0 L ∧ ∃ μ', Hp Z n0 μ' U'.heap ∧ P v μ') ∧ FrameEnd U o U' L kc ks)
section Rules
variable {p : Program} {l : Launch} {e : Env} {R : Room} {s : State} {m : MethodId} {args : Array Value} {below : List Frame} {meth : Method} {c : Code} {Z : State} {a0 : Array Value} {n0 : Nat} {P : Option Value → Mem → Prop} {kc ks : Nat} {μ : Mem} {k n : Nat}
  {own nm : String} {B : ByteArray} {ml : Nat} {rt : Option FieldType} {pc q : Nat} {L L' : Array Slot} {st : List Value} {y : MethodName} {ws : List Cond} {rm : Room} {as : Array Value}
theorem Con.intro {L0 : Array Slot} (hx : plainFor y = true) (hef : ∀ m, entryFrame m as ml = mkF m 0 L0 [])
    (body : ∀ (p : Program) (e : Env) (s : State) (m : MethodId) (below : List Frame) (meth : Method) (c : Code), Ctx p s m meth c Z y.cls y.name B ml rt → Go p l e rm s m as below meth c Z n0 P kc ks μ 0 0 (mkF m 0 L0 [])) : Con l Z n0 y B ml rt ws rm kc ks as μ P := by
  intro h0 H0
  refine MetFree.of_bodySF hx hisR ?_
  intro p e s m args below meth c s₁ Bd hml hP hK
  obtain ⟨rfl, hZ, hh⟩ := hP
  have X0 : Stand p l e rm s m args below meth c s₁ [] 0 0 := Stand.of_body Bd
  have e0 : s₁.heap = h0 := by rw [← hh, Bd.state]; rfl
  obtain ⟨s2, o, g1, g2, g3, g4⟩ := body p e s m below meth c ⟨Bd.exec, Bd.bytes, hml, hZ, findClass_of_methodNamed Bd.named, Bd.returns, Bd.notSynchronized, (name_of_methodNamed Bd.named Bd.method).1⟩ s₁ [] X0 (Fr.nil n0) (by rw [e0]; exact H0)
  exact ⟨s2, o, castTop (hef m) g1, g2, g3, g4⟩
theorem Go.pure {g g' : JFrame} (K : Go p l e R s m args below meth c Z n0 P kc ks μ k n g') (st : ∀ T, At T m c below → ∀ target, Steps p.tables e below (T.setTop g') target → Steps p.tables e below (T.setTop g) target) : Go p l e R s m args below meth c Z n0 P kc ks μ k n g := fun T locs X F H => by
  obtain ⟨s2, o, h1, h2⟩ := K T locs X F H
  exact ⟨s2, o, st T X.here _ h1, h2⟩
theorem Go.stand {g g' : JFrame} (K : Go p l e R s m args below meth c Z n0 P kc ks μ k n g') (st : ∀ T locs, Stand p l e R s m args below meth c T locs k n → Hp Z n0 μ T.heap → ∃ T', Stand p l e R s m args below meth c T' locs k n ∧ T'.heap = T.heap ∧ ∀ target, Steps p.tables e below (T'.setTop g') target → Steps p.tables e below (T.setTop g) target) : Go p l e R s m args below meth c Z n0 P kc ks μ k n g := fun T locs X F H => by
  obtain ⟨T', X', e', h⟩ := st T locs X H
  obtain ⟨s2, o, h1, h2⟩ := K T' locs X' F (by rw [e']; exact H)
  exact ⟨s2, o, h _ h1, h2⟩
theorem iadd (C : Ctx p s m meth c Z own nm B ml rt) {x y : Int32} (hd : decode B pc = .ok (.iadd, 1)) (hq : pc + 1 = q) (k' : ∀ z : Int32, z = x + y → Go p l e R s m args below meth c Z n0 P kc ks μ k n (mkF m q L (.int z :: st))) : Go p l e R s m args below meth c Z n0 P kc ks μ k n (mkF m pc L (.int y :: .int x :: st)) := by
  subst hq
  exact Go.pure (k' _ rfl) fun T h t hr => XS.iadd h C.1 rfl (hb C.2.1 hd) rfl hr
theorem isub (C : Ctx p s m meth c Z own nm B ml rt) {x y : Int32} (hd : decode B pc = .ok (.isub, 1)) (hq : pc + 1 = q) (k' : ∀ z : Int32, z = x - y → Go p l e R s m args below meth c Z n0 P kc ks μ k n (mkF m q L (.int z :: st))) : Go p l e R s m args below meth c Z n0 P kc ks μ k n (mkF m pc L (.int y :: .int x :: st)) := by
  subst hq
  exact Go.pure (k' _ rfl) fun T h t hr => XS.isub h C.1 rfl (hb C.2.1 hd) rfl hr
theorem imul (C : Ctx p s m meth c Z own nm B ml rt) {x y : Int32} (hd : decode B pc = .ok (.imul, 1)) (hq : pc + 1 = q) (k' : ∀ z : Int32, z = x * y → Go p l e R s m args below meth c Z n0 P kc ks μ k n (mkF m q L (.int z :: st))) : Go p l e R s m args below meth c Z n0 P kc ks μ k n (mkF m pc L (.int y :: .int x :: st)) := by
  subst hq
  exact Go.pure (k' _ rfl) fun T h t hr => XS.imul h C.1 rfl (hb C.2.1 hd) rfl hr
theorem iand (C : Ctx p s m meth c Z own nm B ml rt) {x y : Int32} (hd : decode B pc = .ok (.iand, 1)) (hq : pc + 1 = q) (k' : ∀ z : Int32, z = x &&& y → Go p l e R s m args below meth c Z n0 P kc ks μ k n (mkF m q L (.int z :: st))) : Go p l e R s m args below meth c Z n0 P kc ks μ k n (mkF m pc L (.int y :: .int x :: st)) := by
  subst hq
  exact Go.pure (k' _ rfl) fun T h t hr => XS.iand h C.1 rfl (hb C.2.1 hd) rfl hr
theorem ior (C : Ctx p s m meth c Z own nm B ml rt) {x y : Int32} (hd : decode B pc = .ok (.ior, 1)) (hq : pc + 1 = q) (k' : ∀ z : Int32, z = x ||| y → Go p l e R s m args below meth c Z n0 P kc ks μ k n (mkF m q L (.int z :: st))) : Go p l e R s m args below meth c Z n0 P kc ks μ k n (mkF m pc L (.int y :: .int x :: st)) := by
  subst hq
  exact Go.pure (k' _ rfl) fun T h t hr => XS.ior h C.1 rfl (hb C.2.1 hd) rfl hr
theorem ixor (C : Ctx p s m meth c Z own nm B ml rt) {x y : Int32} (hd : decode B pc = .ok (.ixor, 1)) (hq : pc + 1 = q) (k' : ∀ z : Int32, z = x ^^^ y → Go p l e R s m args below meth c Z n0 P kc ks μ k n (mkF m q L (.int z :: st))) : Go p l e R s m args below meth c Z n0 P kc ks μ k n (mkF m pc L (.int y :: .int x :: st)) := by
  subst hq
  exact Go.pure (k' _ rfl) fun T h t hr => XS.ixor h C.1 rfl (hb C.2.1 hd) rfl hr
theorem ladd (C : Ctx p s m meth c Z own nm B ml rt) {x y : Int64} (hd : decode B pc = .ok (.ladd, 1)) (hq : pc + 1 = q) (k' : ∀ z : Int64, z = x + y → Go p l e R s m args below meth c Z n0 P kc ks μ k n (mkF m q L (.long z :: st))) : Go p l e R s m args below meth c Z n0 P kc ks μ k n (mkF m pc L (.long y :: .long x :: st)) := by
  subst hq
  exact Go.pure (k' _ rfl) fun T h t hr => XS.ladd h C.1 rfl (hb C.2.1 hd) rfl hr
theorem lsub (C : Ctx p s m meth c Z own nm B ml rt) {x y : Int64} (hd : decode B pc = .ok (.lsub, 1)) (hq : pc + 1 = q) (k' : ∀ z : Int64, z = x - y → Go p l e R s m args below meth c Z n0 P kc ks μ k n (mkF m q L (.long z :: st))) : Go p l e R s m args below meth c Z n0 P kc ks μ k n (mkF m pc L (.long y :: .long x :: st)) := by
  subst hq
  exact Go.pure (k' _ rfl) fun T h t hr => XS.lsub h C.1 rfl (hb C.2.1 hd) rfl hr
theorem lmul (C : Ctx p s m meth c Z own nm B ml rt) {x y : Int64} (hd : decode B pc = .ok (.lmul, 1)) (hq : pc + 1 = q) (k' : ∀ z : Int64, z = x * y → Go p l e R s m args below meth c Z n0 P kc ks μ k n (mkF m q L (.long z :: st))) : Go p l e R s m args below meth c Z n0 P kc ks μ k n (mkF m pc L (.long y :: .long x :: st)) := by
  subst hq
  exact Go.pure (k' _ rfl) fun T h t hr => XS.lmul h C.1 rfl (hb C.2.1 hd) rfl hr
theorem land (C : Ctx p s m meth c Z own nm B ml rt) {x y : Int64} (hd : decode B pc = .ok (.land, 1)) (hq : pc + 1 = q) (k' : ∀ z : Int64, z = x &&& y → Go p l e R s m args below meth c Z n0 P kc ks μ k n (mkF m q L (.long z :: st))) : Go p l e R s m args below meth c Z n0 P kc ks μ k n (mkF m pc L (.long y :: .long x :: st)) := by
  subst hq
  exact Go.pure (k' _ rfl) fun T h t hr => XS.land h C.1 rfl (hb C.2.1 hd) rfl hr
theorem lor (C : Ctx p s m meth c Z own nm B ml rt) {x y : Int64} (hd : decode B pc = .ok (.lor, 1)) (hq : pc + 1 = q) (k' : ∀ z : Int64, z = x ||| y → Go p l e R s m args below meth c Z n0 P kc ks μ k n (mkF m q L (.long z :: st))) : Go p l e R s m args below meth c Z n0 P kc ks μ k n (mkF m pc L (.long y :: .long x :: st)) := by
  subst hq
  exact Go.pure (k' _ rfl) fun T h t hr => XS.lor h C.1 rfl (hb C.2.1 hd) rfl hr
theorem lxor (C : Ctx p s m meth c Z own nm B ml rt) {x y : Int64} (hd : decode B pc = .ok (.lxor, 1)) (hq : pc + 1 = q) (k' : ∀ z : Int64, z = x ^^^ y → Go p l e R s m args below meth c Z n0 P kc ks μ k n (mkF m q L (.long z :: st))) : Go p l e R s m args below meth c Z n0 P kc ks μ k n (mkF m pc L (.long y :: .long x :: st)) := by
  subst hq
  exact Go.pure (k' _ rfl) fun T h t hr => XS.lxor h C.1 rfl (hb C.2.1 hd) rfl hr
theorem ishl (C : Ctx p s m meth c Z own nm B ml rt) {x y : Int32} (hd : decode B pc = .ok (.ishl, 1)) (hq : pc + 1 = q) (k' : ∀ z : Int32, z = x <<< (y &&& 31) → Go p l e R s m args below meth c Z n0 P kc ks μ k n (mkF m q L (.int z :: st))) : Go p l e R s m args below meth c Z n0 P kc ks μ k n (mkF m pc L (.int y :: .int x :: st)) := by
  subst hq
  exact Go.pure (k' _ rfl) fun T h t hr => XS.ishl h C.1 rfl (hb C.2.1 hd) rfl hr
theorem ishr (C : Ctx p s m meth c Z own nm B ml rt) {x y : Int32} (hd : decode B pc = .ok (.ishr, 1)) (hq : pc + 1 = q) (k' : ∀ z : Int32, z = x >>> (y &&& 31) → Go p l e R s m args below meth c Z n0 P kc ks μ k n (mkF m q L (.int z :: st))) : Go p l e R s m args below meth c Z n0 P kc ks μ k n (mkF m pc L (.int y :: .int x :: st)) := by
  subst hq
  exact Go.pure (k' _ rfl) fun T h t hr => XS.ishr h C.1 rfl (hb C.2.1 hd) rfl hr
theorem iushr (C : Ctx p s m meth c Z own nm B ml rt) {x y : Int32} (hd : decode B pc = .ok (.iushr, 1)) (hq : pc + 1 = q) (k' : ∀ z : Int32, z = (x.toUInt32 >>> (y &&& 31).toUInt32).toInt32 → Go p l e R s m args below meth c Z n0 P kc ks μ k n (mkF m q L (.int z :: st))) : Go p l e R s m args below meth c Z n0 P kc ks μ k n (mkF m pc L (.int y :: .int x :: st)) := by
  subst hq
  exact Go.pure (k' _ rfl) fun T h t hr => XS.iushr h C.1 rfl (hb C.2.1 hd) rfl hr
theorem lshl (C : Ctx p s m meth c Z own nm B ml rt) {x : Int64} {y : Int32} (hd : decode B pc = .ok (.lshl, 1)) (hq : pc + 1 = q) (k' : ∀ z : Int64, z = x <<< (y &&& 0x3f).toInt64 → Go p l e R s m args below meth c Z n0 P kc ks μ k n (mkF m q L (.long z :: st))) : Go p l e R s m args below meth c Z n0 P kc ks μ k n (mkF m pc L (.int y :: .long x :: st)) := by
  subst hq
  exact Go.pure (k' _ rfl) fun T h t hr => XS.lshl h C.1 rfl (hb C.2.1 hd) rfl hr
theorem lshr (C : Ctx p s m meth c Z own nm B ml rt) {x : Int64} {y : Int32} (hd : decode B pc = .ok (.lshr, 1)) (hq : pc + 1 = q) (k' : ∀ z : Int64, z = x >>> (y &&& 0x3f).toInt64 → Go p l e R s m args below meth c Z n0 P kc ks μ k n (mkF m q L (.long z :: st))) : Go p l e R s m args below meth c Z n0 P kc ks μ k n (mkF m pc L (.int y :: .long x :: st)) := by
  subst hq
  exact Go.pure (k' _ rfl) fun T h t hr => XS.lshr h C.1 rfl (hb C.2.1 hd) rfl hr
theorem lushr (C : Ctx p s m meth c Z own nm B ml rt) {x : Int64} {y : Int32} (hd : decode B pc = .ok (.lushr, 1)) (hq : pc + 1 = q) (k' : ∀ z : Int64, z = (x.toUInt64 >>> (y &&& 0x3f).toInt64.toUInt64).toInt64 → Go p l e R s m args below meth c Z n0 P kc ks μ k n (mkF m q L (.long z :: st))) : Go p l e R s m args below meth c Z n0 P kc ks μ k n (mkF m pc L (.int y :: .long x :: st)) := by
  subst hq
  exact Go.pure (k' _ rfl) fun T h t hr => XS.lushr h C.1 rfl (hb C.2.1 hd) rfl hr
theorem idiv (C : Ctx p s m meth c Z own nm B ml rt) {x y : Int32} (hd : decode B pc = .ok (.idiv, 1)) (hq : pc + 1 = q) (hy : y ≠ 0) (k' : ∀ z : Int32, z = x / y → Go p l e R s m args below meth c Z n0 P kc ks μ k n (mkF m q L (.int z :: st))) : Go p l e R s m args below meth c Z n0 P kc ks μ k n (mkF m pc L (.int y :: .int x :: st)) := by
  subst hq
  exact Go.pure (k' _ rfl) fun T h t hr => XS.idiv h C.1 rfl (hb C.2.1 hd) rfl hy hr
theorem irem (C : Ctx p s m meth c Z own nm B ml rt) {x y : Int32} (hd : decode B pc = .ok (.irem, 1)) (hq : pc + 1 = q) (hy : y ≠ 0) (k' : ∀ z : Int32, z = x % y → Go p l e R s m args below meth c Z n0 P kc ks μ k n (mkF m q L (.int z :: st))) : Go p l e R s m args below meth c Z n0 P kc ks μ k n (mkF m pc L (.int y :: .int x :: st)) := by
  subst hq
  exact Go.pure (k' _ rfl) fun T h t hr => XS.irem h C.1 rfl (hb C.2.1 hd) rfl hy (by rw [irem_eq_mod]; exact hr)
theorem ldiv (C : Ctx p s m meth c Z own nm B ml rt) {x y : Int64} (hd : decode B pc = .ok (.ldiv, 1)) (hq : pc + 1 = q) (hy : y ≠ 0) (k' : ∀ z : Int64, z = x / y → Go p l e R s m args below meth c Z n0 P kc ks μ k n (mkF m q L (.long z :: st))) : Go p l e R s m args below meth c Z n0 P kc ks μ k n (mkF m pc L (.long y :: .long x :: st)) := by
  subst hq
  exact Go.pure (k' _ rfl) fun T h t hr => XS.ldiv h C.1 rfl (hb C.2.1 hd) rfl hy hr
theorem lrem (C : Ctx p s m meth c Z own nm B ml rt) {x y : Int64} (hd : decode B pc = .ok (.lrem, 1)) (hq : pc + 1 = q) (hy : y ≠ 0) (k' : ∀ z : Int64, z = x - (x / y) * y → Go p l e R s m args below meth c Z n0 P kc ks μ k n (mkF m q L (.long z :: st))) : Go p l e R s m args below meth c Z n0 P kc ks μ k n (mkF m pc L (.long y :: .long x :: st)) := by
  subst hq
  exact Go.pure (k' _ rfl) fun T h t hr => XS.lrem h C.1 rfl (hb C.2.1 hd) rfl hy hr
theorem ineg (C : Ctx p s m meth c Z own nm B ml rt) {x : Int32} (hd : decode B pc = .ok (.ineg, 1)) (hq : pc + 1 = q) (k' : ∀ z : Int32, z = -x → Go p l e R s m args below meth c Z n0 P kc ks μ k n (mkF m q L (.int z :: st))) : Go p l e R s m args below meth c Z n0 P kc ks μ k n (mkF m pc L (.int x :: st)) := by
  subst hq
  exact Go.pure (k' _ rfl) fun T h t hr => XS.ineg h C.1 rfl (hb C.2.1 hd) rfl hr
theorem lneg (C : Ctx p s m meth c Z own nm B ml rt) {x : Int64} (hd : decode B pc = .ok (.lneg, 1)) (hq : pc + 1 = q) (k' : ∀ z : Int64, z = -x → Go p l e R s m args below meth c Z n0 P kc ks μ k n (mkF m q L (.long z :: st))) : Go p l e R s m args below meth c Z n0 P kc ks μ k n (mkF m pc L (.long x :: st)) := by
  subst hq
  exact Go.pure (k' _ rfl) fun T h t hr => XS.lneg h C.1 rfl (hb C.2.1 hd) rfl hr
theorem i2l (C : Ctx p s m meth c Z own nm B ml rt) {x : Int32} (hd : decode B pc = .ok (.i2l, 1)) (hq : pc + 1 = q) (k' : ∀ z : Int64, z = x.toInt64 → Go p l e R s m args below meth c Z n0 P kc ks μ k n (mkF m q L (.long z :: st))) : Go p l e R s m args below meth c Z n0 P kc ks μ k n (mkF m pc L (.int x :: st)) := by
  subst hq
  exact Go.pure (k' _ rfl) fun T h t hr => XS.i2l h C.1 rfl (hb C.2.1 hd) rfl hr
theorem l2i (C : Ctx p s m meth c Z own nm B ml rt) {x : Int64} (hd : decode B pc = .ok (.l2i, 1)) (hq : pc + 1 = q) (k' : ∀ z : Int32, z = x.toInt32 → Go p l e R s m args below meth c Z n0 P kc ks μ k n (mkF m q L (.int z :: st))) : Go p l e R s m args below meth c Z n0 P kc ks μ k n (mkF m pc L (.long x :: st)) := by
  subst hq
  exact Go.pure (k' _ rfl) fun T h t hr => XS.l2i h C.1 rfl (hb C.2.1 hd) rfl hr
theorem i2b (C : Ctx p s m meth c Z own nm B ml rt) {x : Int32} (hd : decode B pc = .ok (.i2b, 1)) (hq : pc + 1 = q) (k' : ∀ z : Int32, z = x.toInt8.toInt32 → Go p l e R s m args below meth c Z n0 P kc ks μ k n (mkF m q L (.int z :: st))) : Go p l e R s m args below meth c Z n0 P kc ks μ k n (mkF m pc L (.int x :: st)) := by
  subst hq
  exact Go.pure (k' _ rfl) fun T h t hr => XS.i2b h C.1 rfl (hb C.2.1 hd) rfl hr
theorem i2s (C : Ctx p s m meth c Z own nm B ml rt) {x : Int32} (hd : decode B pc = .ok (.i2s, 1)) (hq : pc + 1 = q) (k' : ∀ z : Int32, z = x.toInt16.toInt32 → Go p l e R s m args below meth c Z n0 P kc ks μ k n (mkF m q L (.int z :: st))) : Go p l e R s m args below meth c Z n0 P kc ks μ k n (mkF m pc L (.int x :: st)) := by
  subst hq
  exact Go.pure (k' _ rfl) fun T h t hr => XS.i2s h C.1 rfl (hb C.2.1 hd) rfl hr
theorem i2c (C : Ctx p s m meth c Z own nm B ml rt) {x : Int32} (hd : decode B pc = .ok (.i2c, 1)) (hq : pc + 1 = q) (k' : ∀ z : Int32, z = x.toUInt32.toUInt16.toUInt32.toInt32 → Go p l e R s m args below meth c Z n0 P kc ks μ k n (mkF m q L (.int z :: st))) : Go p l e R s m args below meth c Z n0 P kc ks μ k n (mkF m pc L (.int x :: st)) := by
  subst hq
  exact Go.pure (k' _ rfl) fun T h t hr => XS.i2c h C.1 rfl (hb C.2.1 hd) rfl hr
theorem iloadN (C : Ctx p s m meth c Z own nm B ml rt) {i : Fin 4} {v : Int32} (hd : decode B pc = .ok (.iload_n i, 1)) (hq : pc + 1 = q) (hl : L[i.val]? = some (.val (.int v))) (k' : Go p l e R s m args below meth c Z n0 P kc ks μ k n (mkF m q L (.int v :: st))) : Go p l e R s m args below meth c Z n0 P kc ks μ k n (mkF m pc L st) := by
  subst hq
  exact Go.pure k' fun T h t hr => XS.iloadN h C.1 rfl (hb C.2.1 hd) hl hr
theorem iload (C : Ctx p s m meth c Z own nm B ml rt) {i : Nat} {v : Int32} (hd : decode B pc = .ok (.iload i, 2)) (hq : pc + 2 = q) (hl : L[i]? = some (.val (.int v))) (k' : Go p l e R s m args below meth c Z n0 P kc ks μ k n (mkF m q L (.int v :: st))) : Go p l e R s m args below meth c Z n0 P kc ks μ k n (mkF m pc L st) := by
  subst hq
  exact Go.pure k' fun T h t hr => XS.iload h C.1 rfl (hb C.2.1 hd) hl hr
theorem istoreN (C : Ctx p s m meth c Z own nm B ml rt) {i : Fin 4} {v : Int32} (hd : decode B pc = .ok (.istore_n i, 1)) (hq : pc + 1 = q) (hl : storeLocals L i.val (.int v) = some L') (k' : Go p l e R s m args below meth c Z n0 P kc ks μ k n (mkF m q L' st)) : Go p l e R s m args below meth c Z n0 P kc ks μ k n (mkF m pc L (.int v :: st)) := by
  subst hq
  exact Go.pure k' fun T h t hr => XS.istoreN h C.1 rfl (hb C.2.1 hd) rfl hl hr
theorem istore (C : Ctx p s m meth c Z own nm B ml rt) {i : Nat} {v : Int32} (hd : decode B pc = .ok (.istore i, 2)) (hq : pc + 2 = q) (hl : storeLocals L i (.int v) = some L') (k' : Go p l e R s m args below meth c Z n0 P kc ks μ k n (mkF m q L' st)) : Go p l e R s m args below meth c Z n0 P kc ks μ k n (mkF m pc L (.int v :: st)) := by
  subst hq
  exact Go.pure k' fun T h t hr => XS.istore h C.1 rfl (hb C.2.1 hd) rfl hl hr
theorem lloadN (C : Ctx p s m meth c Z own nm B ml rt) {i : Fin 4} {v : Int64} (hd : decode B pc = .ok (.lload_n i, 1)) (hq : pc + 1 = q) (hl : L[i.val]? = some (.val (.long v))) (k' : Go p l e R s m args below meth c Z n0 P kc ks μ k n (mkF m q L (.long v :: st))) : Go p l e R s m args below meth c Z n0 P kc ks μ k n (mkF m pc L st) := by
  subst hq
  exact Go.pure k' fun T h t hr => XS.lloadN h C.1 rfl (hb C.2.1 hd) hl hr
theorem lload (C : Ctx p s m meth c Z own nm B ml rt) {i : Nat} {v : Int64} (hd : decode B pc = .ok (.lload i, 2)) (hq : pc + 2 = q) (hl : L[i]? = some (.val (.long v))) (k' : Go p l e R s m args below meth c Z n0 P kc ks μ k n (mkF m q L (.long v :: st))) : Go p l e R s m args below meth c Z n0 P kc ks μ k n (mkF m pc L st) := by
  subst hq
  exact Go.pure k' fun T h t hr => XS.lload h C.1 rfl (hb C.2.1 hd) hl hr
theorem lstoreN (C : Ctx p s m meth c Z own nm B ml rt) {i : Fin 4} {v : Int64} (hd : decode B pc = .ok (.lstore_n i, 1)) (hq : pc + 1 = q) (hl : storeLocals L i.val (.long v) = some L') (k' : Go p l e R s m args below meth c Z n0 P kc ks μ k n (mkF m q L' st)) : Go p l e R s m args below meth c Z n0 P kc ks μ k n (mkF m pc L (.long v :: st)) := by
  subst hq
  exact Go.pure k' fun T h t hr => XS.lstoreN h C.1 rfl (hb C.2.1 hd) rfl hl hr
theorem lstore (C : Ctx p s m meth c Z own nm B ml rt) {i : Nat} {v : Int64} (hd : decode B pc = .ok (.lstore i, 2)) (hq : pc + 2 = q) (hl : storeLocals L i (.long v) = some L') (k' : Go p l e R s m args below meth c Z n0 P kc ks μ k n (mkF m q L' st)) : Go p l e R s m args below meth c Z n0 P kc ks μ k n (mkF m pc L (.long v :: st)) := by
  subst hq
  exact Go.pure k' fun T h t hr => XS.lstore h C.1 rfl (hb C.2.1 hd) rfl hl hr
theorem aloadN (C : Ctx p s m meth c Z own nm B ml rt) {i : Fin 4} {v : Value} (hd : decode B pc = .ok (.aload_n i, 1)) (hq : pc + 1 = q) (hl : L[i.val]? = some (.val v)) (hv : v.isRef = true) (k' : Go p l e R s m args below meth c Z n0 P kc ks μ k n (mkF m q L (v :: st))) : Go p l e R s m args below meth c Z n0 P kc ks μ k n (mkF m pc L st) := by
  subst hq
  exact Go.pure k' fun T h t hr => XS.aloadN h C.1 rfl (hb C.2.1 hd) hl hv hr
theorem aload (C : Ctx p s m meth c Z own nm B ml rt) {i : Nat} {v : Value} (hd : decode B pc = .ok (.aload i, 2)) (hq : pc + 2 = q) (hl : L[i]? = some (.val v)) (hv : v.isRef = true) (k' : Go p l e R s m args below meth c Z n0 P kc ks μ k n (mkF m q L (v :: st))) : Go p l e R s m args below meth c Z n0 P kc ks μ k n (mkF m pc L st) := by
  subst hq
  exact Go.pure k' fun T h t hr => XS.aload h C.1 rfl (hb C.2.1 hd) hl hv hr
theorem astoreN (C : Ctx p s m meth c Z own nm B ml rt) {i : Fin 4} {v : Value} (hd : decode B pc = .ok (.astore_n i, 1)) (hq : pc + 1 = q) (hl : storeLocals L i.val v = some L') (hv : v.isRef = true) (k' : Go p l e R s m args below meth c Z n0 P kc ks μ k n (mkF m q L' st)) : Go p l e R s m args below meth c Z n0 P kc ks μ k n (mkF m pc L (v :: st)) := by
  subst hq
  exact Go.pure k' fun T h t hr => XS.astoreN h C.1 rfl (hb C.2.1 hd) rfl hv hl hr
theorem astore (C : Ctx p s m meth c Z own nm B ml rt) {i : Nat} {v : Value} (hd : decode B pc = .ok (.astore i, 2)) (hq : pc + 2 = q) (hl : storeLocals L i v = some L') (hv : v.isRef = true) (k' : Go p l e R s m args below meth c Z n0 P kc ks μ k n (mkF m q L' st)) : Go p l e R s m args below meth c Z n0 P kc ks μ k n (mkF m pc L (v :: st)) := by
  subst hq
  exact Go.pure k' fun T h t hr => XS.astore h C.1 rfl (hb C.2.1 hd) rfl hv hl hr
theorem iconst (C : Ctx p s m meth c Z own nm B ml rt) {i : Int} {z : Int32} (hd : decode B pc = .ok (.iconst i, 1)) (hq : pc + 1 = q) (hz : Int32.ofInt i = z) (k' : Go p l e R s m args below meth c Z n0 P kc ks μ k n (mkF m q L (.int z :: st))) : Go p l e R s m args below meth c Z n0 P kc ks μ k n (mkF m pc L st) := by
  subst hq
  exact Go.pure k' fun T h t hr => XS.iconst h C.1 rfl (hb C.2.1 hd) (by rw [hz]; exact hr)
theorem bipush (C : Ctx p s m meth c Z own nm B ml rt) {i : Int} {z : Int32} (hd : decode B pc = .ok (.bipush i, 2)) (hq : pc + 2 = q) (hz : (Int8.ofInt i).toInt32 = z) (k' : Go p l e R s m args below meth c Z n0 P kc ks μ k n (mkF m q L (.int z :: st))) : Go p l e R s m args below meth c Z n0 P kc ks μ k n (mkF m pc L st) := by
  subst hq
  exact Go.pure k' fun T h t hr => XS.bipush h C.1 rfl (hb C.2.1 hd) (by rw [hz]; exact hr)
theorem sipush (C : Ctx p s m meth c Z own nm B ml rt) {i : Int} {z : Int32} (hd : decode B pc = .ok (.sipush i, 3)) (hq : pc + 3 = q) (hz : (Int16.ofInt i).toInt32 = z) (k' : Go p l e R s m args below meth c Z n0 P kc ks μ k n (mkF m q L (.int z :: st))) : Go p l e R s m args below meth c Z n0 P kc ks μ k n (mkF m pc L st) := by
  subst hq
  exact Go.pure k' fun T h t hr => XS.sipush h C.1 rfl (hb C.2.1 hd) (by rw [hz]; exact hr)
theorem lconst (C : Ctx p s m meth c Z own nm B ml rt) {i : Fin 2} {z : Int64} (hd : decode B pc = .ok (.lconst i, 1)) (hq : pc + 1 = q) (hz : Int64.ofNat i = z) (k' : Go p l e R s m args below meth c Z n0 P kc ks μ k n (mkF m q L (.long z :: st))) : Go p l e R s m args below meth c Z n0 P kc ks μ k n (mkF m pc L st) := by
  subst hq
  exact Go.pure k' fun T h t hr => XS.lconst h C.1 rfl (hb C.2.1 hd) (by rw [hz]; exact hr)
theorem aconstNull (C : Ctx p s m meth c Z own nm B ml rt)  (hd : decode B pc = .ok (.aconst_null, 1)) (hq : pc + 1 = q) (k' : Go p l e R s m args below meth c Z n0 P kc ks μ k n (mkF m q L (.null :: st))) : Go p l e R s m args below meth c Z n0 P kc ks μ k n (mkF m pc L st) := by
  subst hq
  exact Go.pure k' fun T h t hr => XS.aconstNull h C.1 rfl (hb C.2.1 hd) hr
theorem dup (C : Ctx p s m meth c Z own nm B ml rt) {v : Value} (hd : decode B pc = .ok (.dup, 1)) (hq : pc + 1 = q) (hv : v.category = 1) (k' : Go p l e R s m args below meth c Z n0 P kc ks μ k n (mkF m q L (v :: v :: st))) : Go p l e R s m args below meth c Z n0 P kc ks μ k n (mkF m pc L (v :: st)) := by
  subst hq
  exact Go.pure k' fun T h t hr => XS.dup h C.1 rfl (hb C.2.1 hd) rfl hv hr
theorem pop (C : Ctx p s m meth c Z own nm B ml rt) {v : Value} (hd : decode B pc = .ok (.pop, 1)) (hq : pc + 1 = q) (hv : v.category = 1) (k' : Go p l e R s m args below meth c Z n0 P kc ks μ k n (mkF m q L st)) : Go p l e R s m args below meth c Z n0 P kc ks μ k n (mkF m pc L (v :: st)) := by
  subst hq
  exact Go.pure k' fun T h t hr => XS.pop h C.1 rfl (hb C.2.1 hd) rfl hv hr
theorem dupX1 (C : Ctx p s m meth c Z own nm B ml rt) {v w : Value} (hd : decode B pc = .ok (.dup_x1, 1)) (hq : pc + 1 = q) (hv : v.category = 1) (hw : w.category = 1) (k' : Go p l e R s m args below meth c Z n0 P kc ks μ k n (mkF m q L (v :: w :: v :: st))) : Go p l e R s m args below meth c Z n0 P kc ks μ k n (mkF m pc L (v :: w :: st)) := by
  subst hq
  exact Go.pure k' fun T h t hr => XS.dupX1 h C.1 rfl (hb C.2.1 hd) rfl hv hw hr
theorem dup2 (C : Ctx p s m meth c Z own nm B ml rt) {v w : Value} (hd : decode B pc = .ok (.dup2, 1)) (hq : pc + 1 = q) (hv : v.category = 1) (hw : w.category = 1) (k' : Go p l e R s m args below meth c Z n0 P kc ks μ k n (mkF m q L (v :: w :: v :: w :: st))) : Go p l e R s m args below meth c Z n0 P kc ks μ k n (mkF m pc L (v :: w :: st)) := by
  subst hq
  exact Go.pure k' fun T h t hr => XT.dup2 h C.1 rfl (hb C.2.1 hd) rfl hv hw hr
theorem dup2L (C : Ctx p s m meth c Z own nm B ml rt) {x : Int64} (hd : decode B pc = .ok (.dup2, 1)) (hq : pc + 1 = q) (k' : Go p l e R s m args below meth c Z n0 P kc ks μ k n (mkF m q L (.long x :: .long x :: st))) : Go p l e R s m args below meth c Z n0 P kc ks μ k n (mkF m pc L (.long x :: st)) := by
  subst hq
  exact Go.pure k' fun T h t hr => XT.dup2L h C.1 rfl (hb C.2.1 hd) rfl hr
theorem iinc (C : Ctx p s m meth c Z own nm B ml rt) {i : Nat} {d : Int} {x z : Int32} (hd : decode B pc = .ok (.iinc i d, 3)) (hq : pc + 3 = q) (hl : L[i]? = some (.val (.int x))) (hz : x + Int32.ofInt d = z) (hl' : storeLocals L i (.int z) = some L') (k' : Go p l e R s m args below meth c Z n0 P kc ks μ k n (mkF m q L' st)) : Go p l e R s m args below meth c Z n0 P kc ks μ k n (mkF m pc L st) := by
  subst hq
  exact Go.pure k' fun T h t hr => XS.iinc h C.1 rfl (hb C.2.1 hd) hl (by rw [hz]; exact hl') hr
theorem goto (C : Ctx p s m meth c Z own nm B ml rt) {o : Int} (hd : decode B pc = .ok (.goto o, 3)) (hq : 0 ≤ (pc : Int) + o ∧ ((pc : Int) + o).toNat = q) (k' : Go p l e R s m args below meth c Z n0 P kc ks μ k n (mkF m q L st)) : Go p l e R s m args below meth c Z n0 P kc ks μ k n (mkF m pc L st) := Go.pure k' fun T h t hr => XS.goto h C.1 rfl rfl (hb C.2.1 hd) hq.1 hq.2 hr
theorem icmp_eq (C : Ctx p s m meth c Z own nm B ml rt) {x y : Int32} {o : Int} {r : Nat} (hd : decode B pc = .ok (.if_icmp .eq o, 3)) (hq : pc + 3 = q) (hr : 0 ≤ (pc : Int) + o ∧ ((pc : Int) + o).toNat = r) (ky : x = y → Go p l e R s m args below meth c Z n0 P kc ks μ k n (mkF m r L st)) (kn : ¬ x = y → Go p l e R s m args below meth c Z n0 P kc ks μ k n (mkF m q L st)) : Go p l e R s m args below meth c Z n0 P kc ks μ k n (mkF m pc L (.int y :: .int x :: st)) := by
  subst hq
  by_cases hc : x = y
  · exact Go.pure (ky hc) fun T h t k => XS.icmpYes h C.1 rfl rfl (hb C.2.1 hd) rfl (XT.ii_eq_t hc) hr.1 hr.2 k
  · exact Go.pure (kn (by first | exact hc | exact Decidable.of_not_not hc)) fun T h t k => XS.icmpNo h C.1 rfl (hb C.2.1 hd) rfl (XT.ii_eq_f (by first | exact hc | exact Decidable.of_not_not hc)) k
theorem if_eq (C : Ctx p s m meth c Z own nm B ml rt) {x : Int32} {o : Int} {r : Nat} (hd : decode B pc = .ok (.ifCond .eq o, 3)) (hq : pc + 3 = q) (hr : 0 ≤ (pc : Int) + o ∧ ((pc : Int) + o).toNat = r) (ky : x = 0 → Go p l e R s m args below meth c Z n0 P kc ks μ k n (mkF m r L st)) (kn : ¬ x = 0 → Go p l e R s m args below meth c Z n0 P kc ks μ k n (mkF m q L st)) : Go p l e R s m args below meth c Z n0 P kc ks μ k n (mkF m pc L (.int x :: st)) := by
  subst hq
  by_cases hc : x = 0
  · exact Go.pure (ky hc) fun T h t k => XS.ifYes h C.1 rfl rfl (hb C.2.1 hd) rfl (XT.i0_eq_t hc) hr.1 hr.2 k
  · exact Go.pure (kn (by first | exact hc | exact Decidable.of_not_not hc)) fun T h t k => XS.ifNo h C.1 rfl (hb C.2.1 hd) rfl (XT.i0_eq_f (by first | exact hc | exact Decidable.of_not_not hc)) k
theorem lcmp_eq (C : Ctx p s m meth c Z own nm B ml rt) {x y : Int64} {o : Int} {r pc1 : Nat} (hd0 : decode B pc = .ok (.lcmp, 1)) (h1 : pc + 1 = pc1) (hd : decode B pc1 = .ok (.ifCond .eq o, 3)) (hq : pc1 + 3 = q) (hr : 0 ≤ (pc1 : Int) + o ∧ ((pc1 : Int) + o).toNat = r) (ky : x = y → Go p l e R s m args below meth c Z n0 P kc ks μ k n (mkF m r L st)) (kn : ¬ x = y → Go p l e R s m args below meth c Z n0 P kc ks μ k n (mkF m q L st)) : Go p l e R s m args below meth c Z n0 P kc ks μ k n (mkF m pc L (.long y :: .long x :: st)) := by
  subst hq h1
  refine Go.pure (g' := mkF m (pc + 1) L (.int (XT.cmpL x y) :: st)) ?_ fun T h t k => XT.lcmp h C.1 rfl (hb C.2.1 hd0) rfl k
  by_cases hc : x = y
  · exact Go.pure (ky hc) fun T h t k => XS.ifYes h C.1 rfl rfl (hb C.2.1 hd) rfl (XT.ll_eq_t hc) hr.1 hr.2 k
  · exact Go.pure (kn (by first | exact hc | exact Decidable.of_not_not hc)) fun T h t k => XS.ifNo h C.1 rfl (hb C.2.1 hd) rfl (XT.ll_eq_f (by first | exact hc | exact Decidable.of_not_not hc)) k
theorem icmp_ne (C : Ctx p s m meth c Z own nm B ml rt) {x y : Int32} {o : Int} {r : Nat} (hd : decode B pc = .ok (.if_icmp .ne o, 3)) (hq : pc + 3 = q) (hr : 0 ≤ (pc : Int) + o ∧ ((pc : Int) + o).toNat = r) (ky : ¬ x = y → Go p l e R s m args below meth c Z n0 P kc ks μ k n (mkF m r L st)) (kn : x = y → Go p l e R s m args below meth c Z n0 P kc ks μ k n (mkF m q L st)) : Go p l e R s m args below meth c Z n0 P kc ks μ k n (mkF m pc L (.int y :: .int x :: st)) := by
  subst hq
  by_cases hc : ¬ x = y
  · exact Go.pure (ky hc) fun T h t k => XS.icmpYes h C.1 rfl rfl (hb C.2.1 hd) rfl (XT.ii_ne_t hc) hr.1 hr.2 k
  · exact Go.pure (kn (by first | exact hc | exact Decidable.of_not_not hc)) fun T h t k => XS.icmpNo h C.1 rfl (hb C.2.1 hd) rfl (XT.ii_ne_f (by first | exact hc | exact Decidable.of_not_not hc)) k
theorem if_ne (C : Ctx p s m meth c Z own nm B ml rt) {x : Int32} {o : Int} {r : Nat} (hd : decode B pc = .ok (.ifCond .ne o, 3)) (hq : pc + 3 = q) (hr : 0 ≤ (pc : Int) + o ∧ ((pc : Int) + o).toNat = r) (ky : ¬ x = 0 → Go p l e R s m args below meth c Z n0 P kc ks μ k n (mkF m r L st)) (kn : x = 0 → Go p l e R s m args below meth c Z n0 P kc ks μ k n (mkF m q L st)) : Go p l e R s m args below meth c Z n0 P kc ks μ k n (mkF m pc L (.int x :: st)) := by
  subst hq
  by_cases hc : ¬ x = 0
  · exact Go.pure (ky hc) fun T h t k => XS.ifYes h C.1 rfl rfl (hb C.2.1 hd) rfl (XT.i0_ne_t hc) hr.1 hr.2 k
  · exact Go.pure (kn (by first | exact hc | exact Decidable.of_not_not hc)) fun T h t k => XS.ifNo h C.1 rfl (hb C.2.1 hd) rfl (XT.i0_ne_f (by first | exact hc | exact Decidable.of_not_not hc)) k
theorem lcmp_ne (C : Ctx p s m meth c Z own nm B ml rt) {x y : Int64} {o : Int} {r pc1 : Nat} (hd0 : decode B pc = .ok (.lcmp, 1)) (h1 : pc + 1 = pc1) (hd : decode B pc1 = .ok (.ifCond .ne o, 3)) (hq : pc1 + 3 = q) (hr : 0 ≤ (pc1 : Int) + o ∧ ((pc1 : Int) + o).toNat = r) (ky : ¬ x = y → Go p l e R s m args below meth c Z n0 P kc ks μ k n (mkF m r L st)) (kn : x = y → Go p l e R s m args below meth c Z n0 P kc ks μ k n (mkF m q L st)) : Go p l e R s m args below meth c Z n0 P kc ks μ k n (mkF m pc L (.long y :: .long x :: st)) := by
  subst hq h1
  refine Go.pure (g' := mkF m (pc + 1) L (.int (XT.cmpL x y) :: st)) ?_ fun T h t k => XT.lcmp h C.1 rfl (hb C.2.1 hd0) rfl k
  by_cases hc : ¬ x = y
  · exact Go.pure (ky hc) fun T h t k => XS.ifYes h C.1 rfl rfl (hb C.2.1 hd) rfl (XT.ll_ne_t hc) hr.1 hr.2 k
  · exact Go.pure (kn (by first | exact hc | exact Decidable.of_not_not hc)) fun T h t k => XS.ifNo h C.1 rfl (hb C.2.1 hd) rfl (XT.ll_ne_f (by first | exact hc | exact Decidable.of_not_not hc)) k
theorem icmp_lt (C : Ctx p s m meth c Z own nm B ml rt) {x y : Int32} {o : Int} {r : Nat} (hd : decode B pc = .ok (.if_icmp .lt o, 3)) (hq : pc + 3 = q) (hr : 0 ≤ (pc : Int) + o ∧ ((pc : Int) + o).toNat = r) (ky : x < y → Go p l e R s m args below meth c Z n0 P kc ks μ k n (mkF m r L st)) (kn : ¬ x < y → Go p l e R s m args below meth c Z n0 P kc ks μ k n (mkF m q L st)) : Go p l e R s m args below meth c Z n0 P kc ks μ k n (mkF m pc L (.int y :: .int x :: st)) := by
  subst hq
  by_cases hc : x < y
  · exact Go.pure (ky hc) fun T h t k => XS.icmpYes h C.1 rfl rfl (hb C.2.1 hd) rfl (XT.ii_lt_t hc) hr.1 hr.2 k
  · exact Go.pure (kn (by first | exact hc | exact Decidable.of_not_not hc)) fun T h t k => XS.icmpNo h C.1 rfl (hb C.2.1 hd) rfl (XT.ii_lt_f (by first | exact hc | exact Decidable.of_not_not hc)) k
theorem if_lt (C : Ctx p s m meth c Z own nm B ml rt) {x : Int32} {o : Int} {r : Nat} (hd : decode B pc = .ok (.ifCond .lt o, 3)) (hq : pc + 3 = q) (hr : 0 ≤ (pc : Int) + o ∧ ((pc : Int) + o).toNat = r) (ky : x < 0 → Go p l e R s m args below meth c Z n0 P kc ks μ k n (mkF m r L st)) (kn : ¬ x < 0 → Go p l e R s m args below meth c Z n0 P kc ks μ k n (mkF m q L st)) : Go p l e R s m args below meth c Z n0 P kc ks μ k n (mkF m pc L (.int x :: st)) := by
  subst hq
  by_cases hc : x < 0
  · exact Go.pure (ky hc) fun T h t k => XS.ifYes h C.1 rfl rfl (hb C.2.1 hd) rfl (XT.i0_lt_t hc) hr.1 hr.2 k
  · exact Go.pure (kn (by first | exact hc | exact Decidable.of_not_not hc)) fun T h t k => XS.ifNo h C.1 rfl (hb C.2.1 hd) rfl (XT.i0_lt_f (by first | exact hc | exact Decidable.of_not_not hc)) k
theorem lcmp_lt (C : Ctx p s m meth c Z own nm B ml rt) {x y : Int64} {o : Int} {r pc1 : Nat} (hd0 : decode B pc = .ok (.lcmp, 1)) (h1 : pc + 1 = pc1) (hd : decode B pc1 = .ok (.ifCond .lt o, 3)) (hq : pc1 + 3 = q) (hr : 0 ≤ (pc1 : Int) + o ∧ ((pc1 : Int) + o).toNat = r) (ky : x < y → Go p l e R s m args below meth c Z n0 P kc ks μ k n (mkF m r L st)) (kn : ¬ x < y → Go p l e R s m args below meth c Z n0 P kc ks μ k n (mkF m q L st)) : Go p l e R s m args below meth c Z n0 P kc ks μ k n (mkF m pc L (.long y :: .long x :: st)) := by
  subst hq h1
  refine Go.pure (g' := mkF m (pc + 1) L (.int (XT.cmpL x y) :: st)) ?_ fun T h t k => XT.lcmp h C.1 rfl (hb C.2.1 hd0) rfl k
  by_cases hc : x < y
  · exact Go.pure (ky hc) fun T h t k => XS.ifYes h C.1 rfl rfl (hb C.2.1 hd) rfl (XT.ll_lt_t hc) hr.1 hr.2 k
  · exact Go.pure (kn (by first | exact hc | exact Decidable.of_not_not hc)) fun T h t k => XS.ifNo h C.1 rfl (hb C.2.1 hd) rfl (XT.ll_lt_f (by first | exact hc | exact Decidable.of_not_not hc)) k
theorem icmp_ge (C : Ctx p s m meth c Z own nm B ml rt) {x y : Int32} {o : Int} {r : Nat} (hd : decode B pc = .ok (.if_icmp .ge o, 3)) (hq : pc + 3 = q) (hr : 0 ≤ (pc : Int) + o ∧ ((pc : Int) + o).toNat = r) (ky : ¬ x < y → Go p l e R s m args below meth c Z n0 P kc ks μ k n (mkF m r L st)) (kn : x < y → Go p l e R s m args below meth c Z n0 P kc ks μ k n (mkF m q L st)) : Go p l e R s m args below meth c Z n0 P kc ks μ k n (mkF m pc L (.int y :: .int x :: st)) := by
  subst hq
  by_cases hc : ¬ x < y
  · exact Go.pure (ky hc) fun T h t k => XS.icmpYes h C.1 rfl rfl (hb C.2.1 hd) rfl (XT.ii_ge_t hc) hr.1 hr.2 k
  · exact Go.pure (kn (by first | exact hc | exact Decidable.of_not_not hc)) fun T h t k => XS.icmpNo h C.1 rfl (hb C.2.1 hd) rfl (XT.ii_ge_f (by first | exact hc | exact Decidable.of_not_not hc)) k
theorem if_ge (C : Ctx p s m meth c Z own nm B ml rt) {x : Int32} {o : Int} {r : Nat} (hd : decode B pc = .ok (.ifCond .ge o, 3)) (hq : pc + 3 = q) (hr : 0 ≤ (pc : Int) + o ∧ ((pc : Int) + o).toNat = r) (ky : ¬ x < 0 → Go p l e R s m args below meth c Z n0 P kc ks μ k n (mkF m r L st)) (kn : x < 0 → Go p l e R s m args below meth c Z n0 P kc ks μ k n (mkF m q L st)) : Go p l e R s m args below meth c Z n0 P kc ks μ k n (mkF m pc L (.int x :: st)) := by
  subst hq
  by_cases hc : ¬ x < 0
  · exact Go.pure (ky hc) fun T h t k => XS.ifYes h C.1 rfl rfl (hb C.2.1 hd) rfl (XT.i0_ge_t hc) hr.1 hr.2 k
  · exact Go.pure (kn (by first | exact hc | exact Decidable.of_not_not hc)) fun T h t k => XS.ifNo h C.1 rfl (hb C.2.1 hd) rfl (XT.i0_ge_f (by first | exact hc | exact Decidable.of_not_not hc)) k
theorem lcmp_ge (C : Ctx p s m meth c Z own nm B ml rt) {x y : Int64} {o : Int} {r pc1 : Nat} (hd0 : decode B pc = .ok (.lcmp, 1)) (h1 : pc + 1 = pc1) (hd : decode B pc1 = .ok (.ifCond .ge o, 3)) (hq : pc1 + 3 = q) (hr : 0 ≤ (pc1 : Int) + o ∧ ((pc1 : Int) + o).toNat = r) (ky : ¬ x < y → Go p l e R s m args below meth c Z n0 P kc ks μ k n (mkF m r L st)) (kn : x < y → Go p l e R s m args below meth c Z n0 P kc ks μ k n (mkF m q L st)) : Go p l e R s m args below meth c Z n0 P kc ks μ k n (mkF m pc L (.long y :: .long x :: st)) := by
  subst hq h1
  refine Go.pure (g' := mkF m (pc + 1) L (.int (XT.cmpL x y) :: st)) ?_ fun T h t k => XT.lcmp h C.1 rfl (hb C.2.1 hd0) rfl k
  by_cases hc : ¬ x < y
  · exact Go.pure (ky hc) fun T h t k => XS.ifYes h C.1 rfl rfl (hb C.2.1 hd) rfl (XT.ll_ge_t hc) hr.1 hr.2 k
  · exact Go.pure (kn (by first | exact hc | exact Decidable.of_not_not hc)) fun T h t k => XS.ifNo h C.1 rfl (hb C.2.1 hd) rfl (XT.ll_ge_f (by first | exact hc | exact Decidable.of_not_not hc)) k
theorem icmp_gt (C : Ctx p s m meth c Z own nm B ml rt) {x y : Int32} {o : Int} {r : Nat} (hd : decode B pc = .ok (.if_icmp .gt o, 3)) (hq : pc + 3 = q) (hr : 0 ≤ (pc : Int) + o ∧ ((pc : Int) + o).toNat = r) (ky : y < x → Go p l e R s m args below meth c Z n0 P kc ks μ k n (mkF m r L st)) (kn : ¬ y < x → Go p l e R s m args below meth c Z n0 P kc ks μ k n (mkF m q L st)) : Go p l e R s m args below meth c Z n0 P kc ks μ k n (mkF m pc L (.int y :: .int x :: st)) := by
  subst hq
  by_cases hc : y < x
  · exact Go.pure (ky hc) fun T h t k => XS.icmpYes h C.1 rfl rfl (hb C.2.1 hd) rfl (XT.ii_gt_t hc) hr.1 hr.2 k
  · exact Go.pure (kn (by first | exact hc | exact Decidable.of_not_not hc)) fun T h t k => XS.icmpNo h C.1 rfl (hb C.2.1 hd) rfl (XT.ii_gt_f (by first | exact hc | exact Decidable.of_not_not hc)) k
theorem if_gt (C : Ctx p s m meth c Z own nm B ml rt) {x : Int32} {o : Int} {r : Nat} (hd : decode B pc = .ok (.ifCond .gt o, 3)) (hq : pc + 3 = q) (hr : 0 ≤ (pc : Int) + o ∧ ((pc : Int) + o).toNat = r) (ky : 0 < x → Go p l e R s m args below meth c Z n0 P kc ks μ k n (mkF m r L st)) (kn : ¬ 0 < x → Go p l e R s m args below meth c Z n0 P kc ks μ k n (mkF m q L st)) : Go p l e R s m args below meth c Z n0 P kc ks μ k n (mkF m pc L (.int x :: st)) := by
  subst hq
  by_cases hc : 0 < x
  · exact Go.pure (ky hc) fun T h t k => XS.ifYes h C.1 rfl rfl (hb C.2.1 hd) rfl (XT.i0_gt_t hc) hr.1 hr.2 k
  · exact Go.pure (kn (by first | exact hc | exact Decidable.of_not_not hc)) fun T h t k => XS.ifNo h C.1 rfl (hb C.2.1 hd) rfl (XT.i0_gt_f (by first | exact hc | exact Decidable.of_not_not hc)) k
theorem lcmp_gt (C : Ctx p s m meth c Z own nm B ml rt) {x y : Int64} {o : Int} {r pc1 : Nat} (hd0 : decode B pc = .ok (.lcmp, 1)) (h1 : pc + 1 = pc1) (hd : decode B pc1 = .ok (.ifCond .gt o, 3)) (hq : pc1 + 3 = q) (hr : 0 ≤ (pc1 : Int) + o ∧ ((pc1 : Int) + o).toNat = r) (ky : y < x → Go p l e R s m args below meth c Z n0 P kc ks μ k n (mkF m r L st)) (kn : ¬ y < x → Go p l e R s m args below meth c Z n0 P kc ks μ k n (mkF m q L st)) : Go p l e R s m args below meth c Z n0 P kc ks μ k n (mkF m pc L (.long y :: .long x :: st)) := by
  subst hq h1
  refine Go.pure (g' := mkF m (pc + 1) L (.int (XT.cmpL x y) :: st)) ?_ fun T h t k => XT.lcmp h C.1 rfl (hb C.2.1 hd0) rfl k
  by_cases hc : y < x
  · exact Go.pure (ky hc) fun T h t k => XS.ifYes h C.1 rfl rfl (hb C.2.1 hd) rfl (XT.ll_gt_t hc) hr.1 hr.2 k
  · exact Go.pure (kn (by first | exact hc | exact Decidable.of_not_not hc)) fun T h t k => XS.ifNo h C.1 rfl (hb C.2.1 hd) rfl (XT.ll_gt_f (by first | exact hc | exact Decidable.of_not_not hc)) k
theorem icmp_le (C : Ctx p s m meth c Z own nm B ml rt) {x y : Int32} {o : Int} {r : Nat} (hd : decode B pc = .ok (.if_icmp .le o, 3)) (hq : pc + 3 = q) (hr : 0 ≤ (pc : Int) + o ∧ ((pc : Int) + o).toNat = r) (ky : ¬ y < x → Go p l e R s m args below meth c Z n0 P kc ks μ k n (mkF m r L st)) (kn : y < x → Go p l e R s m args below meth c Z n0 P kc ks μ k n (mkF m q L st)) : Go p l e R s m args below meth c Z n0 P kc ks μ k n (mkF m pc L (.int y :: .int x :: st)) := by
  subst hq
  by_cases hc : ¬ y < x
  · exact Go.pure (ky hc) fun T h t k => XS.icmpYes h C.1 rfl rfl (hb C.2.1 hd) rfl (XT.ii_le_t hc) hr.1 hr.2 k
  · exact Go.pure (kn (by first | exact hc | exact Decidable.of_not_not hc)) fun T h t k => XS.icmpNo h C.1 rfl (hb C.2.1 hd) rfl (XT.ii_le_f (by first | exact hc | exact Decidable.of_not_not hc)) k
theorem if_le (C : Ctx p s m meth c Z own nm B ml rt) {x : Int32} {o : Int} {r : Nat} (hd : decode B pc = .ok (.ifCond .le o, 3)) (hq : pc + 3 = q) (hr : 0 ≤ (pc : Int) + o ∧ ((pc : Int) + o).toNat = r) (ky : ¬ 0 < x → Go p l e R s m args below meth c Z n0 P kc ks μ k n (mkF m r L st)) (kn : 0 < x → Go p l e R s m args below meth c Z n0 P kc ks μ k n (mkF m q L st)) : Go p l e R s m args below meth c Z n0 P kc ks μ k n (mkF m pc L (.int x :: st)) := by
  subst hq
  by_cases hc : ¬ 0 < x
  · exact Go.pure (ky hc) fun T h t k => XS.ifYes h C.1 rfl rfl (hb C.2.1 hd) rfl (XT.i0_le_t hc) hr.1 hr.2 k
  · exact Go.pure (kn (by first | exact hc | exact Decidable.of_not_not hc)) fun T h t k => XS.ifNo h C.1 rfl (hb C.2.1 hd) rfl (XT.i0_le_f (by first | exact hc | exact Decidable.of_not_not hc)) k
theorem lcmp_le (C : Ctx p s m meth c Z own nm B ml rt) {x y : Int64} {o : Int} {r pc1 : Nat} (hd0 : decode B pc = .ok (.lcmp, 1)) (h1 : pc + 1 = pc1) (hd : decode B pc1 = .ok (.ifCond .le o, 3)) (hq : pc1 + 3 = q) (hr : 0 ≤ (pc1 : Int) + o ∧ ((pc1 : Int) + o).toNat = r) (ky : ¬ y < x → Go p l e R s m args below meth c Z n0 P kc ks μ k n (mkF m r L st)) (kn : y < x → Go p l e R s m args below meth c Z n0 P kc ks μ k n (mkF m q L st)) : Go p l e R s m args below meth c Z n0 P kc ks μ k n (mkF m pc L (.long y :: .long x :: st)) := by
  subst hq h1
  refine Go.pure (g' := mkF m (pc + 1) L (.int (XT.cmpL x y) :: st)) ?_ fun T h t k => XT.lcmp h C.1 rfl (hb C.2.1 hd0) rfl k
  by_cases hc : ¬ y < x
  · exact Go.pure (ky hc) fun T h t k => XS.ifYes h C.1 rfl rfl (hb C.2.1 hd) rfl (XT.ll_le_t hc) hr.1 hr.2 k
  · exact Go.pure (kn (by first | exact hc | exact Decidable.of_not_not hc)) fun T h t k => XS.ifNo h C.1 rfl (hb C.2.1 hd) rfl (XT.ll_le_f (by first | exact hc | exact Decidable.of_not_not hc)) k
theorem ifnullY (C : Ctx p s m meth c Z own nm B ml rt) {o : Int} {b : Addr} (hd : decode B pc = .ok (.ifnull o, 3)) (hq : 0 ≤ (pc : Int) + o ∧ ((pc : Int) + o).toNat = q) (k' : Go p l e R s m args below meth c Z n0 P kc ks μ k n (mkF m q L st)) : Go p l e R s m args below meth c Z n0 P kc ks μ k n (mkF m pc L (.null :: st)) := Go.pure k' fun T h t hr => XS.ifnullYes h C.1 rfl rfl (hb C.2.1 hd) rfl hq.1 hq.2 hr
theorem ifnullN (C : Ctx p s m meth c Z own nm B ml rt) {o : Int} {b : Addr} (hd : decode B pc = .ok (.ifnull o, 3)) (hq : pc + 3 = q) (k' : Go p l e R s m args below meth c Z n0 P kc ks μ k n (mkF m q L st)) : Go p l e R s m args below meth c Z n0 P kc ks μ k n (mkF m pc L ((.ref b) :: st)) := by
  subst hq
  exact Go.pure k' fun T h t hr => XS.ifnullNo h C.1 rfl (hb C.2.1 hd) rfl hr
theorem ifnonnullY (C : Ctx p s m meth c Z own nm B ml rt) {o : Int} {b : Addr} (hd : decode B pc = .ok (.ifnonnull o, 3)) (hq : 0 ≤ (pc : Int) + o ∧ ((pc : Int) + o).toNat = q) (k' : Go p l e R s m args below meth c Z n0 P kc ks μ k n (mkF m q L st)) : Go p l e R s m args below meth c Z n0 P kc ks μ k n (mkF m pc L ((.ref b) :: st)) := Go.pure k' fun T h t hr => XT.ifnonnullYes h C.1 rfl rfl (hb C.2.1 hd) rfl hq.1 hq.2 hr
theorem ifnonnullN (C : Ctx p s m meth c Z own nm B ml rt) {o : Int} {b : Addr} (hd : decode B pc = .ok (.ifnonnull o, 3)) (hq : pc + 3 = q) (k' : Go p l e R s m args below meth c Z n0 P kc ks μ k n (mkF m q L st)) : Go p l e R s m args below meth c Z n0 P kc ks μ k n (mkF m pc L (.null :: st)) := by
  subst hq
  exact Go.pure k' fun T h t hr => XT.ifnonnullNo h C.1 rfl (hb C.2.1 hd) rfl hr
theorem acmp_eq (C : Ctx p s m meth c Z own nm B ml rt) {x y : Value} {o : Int} {r : Nat} (hd : decode B pc = .ok (.if_acmp .eq o, 3)) (hq : pc + 3 = q) (hr : 0 ≤ (pc : Int) + o ∧ ((pc : Int) + o).toNat = r) (h1 : x.isRef = true) (h2 : y.isRef = true) (ky : x = y → Go p l e R s m args below meth c Z n0 P kc ks μ k n (mkF m r L st)) (kn : ¬ x = y → Go p l e R s m args below meth c Z n0 P kc ks μ k n (mkF m q L st)) : Go p l e R s m args below meth c Z n0 P kc ks μ k n (mkF m pc L (y :: x :: st)) := by
  subst hq
  by_cases hc : x = y
  · exact Go.pure (ky hc) fun T h t k => XT.acmpYes h C.1 rfl rfl (hb C.2.1 hd) rfl h1 h2 (XT.aa_eq_t hc) hr.1 hr.2 k
  · exact Go.pure (kn (by first | exact hc | exact Decidable.of_not_not hc)) fun T h t k => XT.acmpNo h C.1 rfl (hb C.2.1 hd) rfl h1 h2 (XT.aa_eq_f (by first | exact hc | exact Decidable.of_not_not hc)) k
theorem acmp_ne (C : Ctx p s m meth c Z own nm B ml rt) {x y : Value} {o : Int} {r : Nat} (hd : decode B pc = .ok (.if_acmp .ne o, 3)) (hq : pc + 3 = q) (hr : 0 ≤ (pc : Int) + o ∧ ((pc : Int) + o).toNat = r) (h1 : x.isRef = true) (h2 : y.isRef = true) (ky : ¬ x = y → Go p l e R s m args below meth c Z n0 P kc ks μ k n (mkF m r L st)) (kn : x = y → Go p l e R s m args below meth c Z n0 P kc ks μ k n (mkF m q L st)) : Go p l e R s m args below meth c Z n0 P kc ks μ k n (mkF m pc L (y :: x :: st)) := by
  subst hq
  by_cases hc : ¬ x = y
  · exact Go.pure (ky hc) fun T h t k => XT.acmpYes h C.1 rfl rfl (hb C.2.1 hd) rfl h1 h2 (XT.aa_ne_t hc) hr.1 hr.2 k
  · exact Go.pure (kn (by first | exact hc | exact Decidable.of_not_not hc)) fun T h t k => XT.acmpNo h C.1 rfl (hb C.2.1 hd) rfl h1 h2 (XT.aa_ne_f (by first | exact hc | exact Decidable.of_not_not hc)) k
theorem mem {μ' : Mem} {g : JFrame} (h : μ = μ') (k' : Go p l e R s m args below meth c Z n0 P kc ks μ' k n g) : Go p l e R s m args below meth c Z n0 P kc ks μ k n g := by subst h; exact k'
/-! constants of the pool -/
theorem ldcI (C : Ctx p s m meth c Z own nm B ml rt) {i : Nat} {v : Int32} (hd : decode B pc = .ok (.ldc i, 2)) (hq : pc + 2 = q) (w : (Cond.constant own i v).before a0 Z = true) (k' : Go p l e R s m args below meth c Z n0 P kc ks μ k n (mkF m q L (.int v :: st))) : Go p l e R s m args below meth c Z n0 P kc ks μ k n (mkF m pc L st) := by
  subst hq
  exact Go.stand k' fun T locs X H => ⟨T, X, rfl, X.ldcInt C.1 C.2.2.2.2.1 (mvT C.2.2.2.1 w) (g := mkF m pc L st) rfl (hb C.2.1 hd)⟩
theorem ldcwI (C : Ctx p s m meth c Z own nm B ml rt) {i : Nat} {v : Int32} (hd : decode B pc = .ok (.ldc_w i, 3)) (hq : pc + 3 = q) (w : (Cond.constant own i v).before a0 Z = true) (k' : Go p l e R s m args below meth c Z n0 P kc ks μ k n (mkF m q L (.int v :: st))) : Go p l e R s m args below meth c Z n0 P kc ks μ k n (mkF m pc L st) := by
  subst hq
  exact Go.stand k' fun T locs X H => ⟨T, X, rfl, X.ldcwInt C.1 C.2.2.2.2.1 (mvT C.2.2.2.1 w) (g := mkF m pc L st) rfl (hb C.2.1 hd)⟩
theorem ldcJ (C : Ctx p s m meth c Z own nm B ml rt) {i : Nat} {v : Int64} (hd : decode B pc = .ok (.ldc2_w i, 3)) (hq : pc + 3 = q) (w : (Cond.constantLong own i v).before a0 Z = true) (k' : Go p l e R s m args below meth c Z n0 P kc ks μ k n (mkF m q L (.long v :: st))) : Go p l e R s m args below meth c Z n0 P kc ks μ k n (mkF m pc L st) := by
  subst hq
  exact Go.stand k' fun T locs X H => ⟨T, X, rfl, X.ldc2Long C.1 C.2.2.2.2.1 (mvT C.2.2.2.1 w) (g := mkF m pc L st) rfl (hb C.2.1 hd)⟩
/-! fields -/
theorem getfield (C : Ctx p s m meth c Z own nm B ml rt) {i j : Nat} {R0 O f d host K : String} {fs : List (Key × Value)} {v : Value} {a : Addr} (hd : decode B pc = .ok (.getfield i, 3)) (hq : pc + 3 = q) (w : (Cond.fieldLink own i R0 f d).before a0 Z = true ∨ (Cond.fieldLinkNest own i R0 f d host).before a0 Z = true) (via : Via Z R0 O f d)
    (hμ : μ a = some (.inl (K, fs))) (hj : fs[j]? = some ((O, f, d), v)) (k' : Go p l e R s m args below meth c Z n0 P kc ks μ k n (mkF m q L (v :: st))) : Go p l e R s m args below meth c Z n0 P kc ks μ k n (mkF m pc L (.ref a :: st)) := by
  subst hq
  refine Go.stand k' fun T locs X H => ?_
  have I := H.2 a _ hμ
  exact getF X C.1 C.2.2.2.1 C.2.2.2.2.1 w via rfl (I.2.1 _ (List.mem_of_getElem? hj)) (g := mkF m pc L (.ref a :: st)) rfl rfl (hb C.2.1 hd)
theorem putfield (C : Ctx p s m meth c Z own nm B ml rt) {i j kk : Nat} {R0 O f d host K : String} {fs fs' : List (Key × Value)} {v old : Value} {a : Addr} {ty : FieldType} (hd : decode B pc = .ok (.putfield i, 3)) (hq : pc + 3 = q) (w : (Cond.fieldLink own i R0 f d).before a0 Z = true ∨ (Cond.fieldLinkNest own i R0 f d host).before a0 Z = true) (via : Via Z R0 O f d)
    (wl : (Cond.lays K O f d).before a0 Z = true ∨ ((Cond.laysFinal K O f d).before a0 Z = true ∧ own = O ∧ nm = "<init>")) (wi : (Cond.instantiable K kk).before a0 Z = true) (hty : parseFieldDescriptor d = some ty) (hn : narrow ty v = v) (hf : fits ty v = true)
    (hμ : μ a = some (.inl (K, fs))) (hj : fs[j]? = some ((O, f, d), old)) (hfs : fs.set j ((O, f, d), v) = fs') (ha : n0 ≤ a) (k' : Go p l e R s m args below meth c Z n0 P kc ks (upd μ a (.inl (K, fs'))) k n (mkF m q L st)) : Go p l e R s m args below meth c Z n0 P kc ks μ k n (mkF m pc L (v :: .ref a :: st)) := by
  subst hq
  intro T locs X F H
  have I := H.2 a _ hμ
  obtain ⟨T', h', X', e', W, stp⟩ := putF X C.1 C.2.2.2.1 C.2.2.2.2.1 w via rfl (I.2.1 _ (List.mem_of_getElem? hj)) I.1 (wl.imp id fun z => ⟨z.1, z.2.1, C.2.2.2.2.2.2.2.trans z.2.2⟩) wi hty hn hf (g := mkF m pc L (v :: .ref a :: st)) rfl rfl (hb C.2.1 hd)
  obtain ⟨s2, o, h1, h2⟩ := k' T' _ X' (Fr.snoc X' F ha) (by rw [e']; exact H.wr W ha (IsO.put I hj W hfs))
  exact ⟨s2, o, stp _ h1, h2⟩
theorem putfieldN (C : Ctx p s m meth c Z own nm B ml rt) {i j kk : Nat} {R0 O f d K : String} {fs fs' : List (Key × Value)} {v v' old : Value} {a : Addr} {ty : FieldType} (hd : decode B pc = .ok (.putfield i, 3)) (hq : pc + 3 = q) (w : (Cond.fieldLink own i R0 f d).before a0 Z = true) (via : Via Z R0 O f d)
    (wl : (Cond.lays K O f d).before a0 Z = true ∨ ((Cond.laysFinal K O f d).before a0 Z = true ∧ own = O ∧ nm = "<init>")) (wi : (Cond.instantiable K kk).before a0 Z = true) (hty : parseFieldDescriptor d = some ty) (hn : narrow ty v = v') (hf : fits ty v' = true)
    (hμ : μ a = some (.inl (K, fs))) (hj : fs[j]? = some ((O, f, d), old)) (hfs : fs.set j ((O, f, d), v') = fs') (ha : n0 ≤ a) (k' : Go p l e R s m args below meth c Z n0 P kc ks (upd μ a (.inl (K, fs'))) k n (mkF m q L st)) : Go p l e R s m args below meth c Z n0 P kc ks μ k n (mkF m pc L (v :: .ref a :: st)) := by
  subst hq
  intro T locs X F H
  have I := H.2 a _ hμ
  obtain ⟨T', h', X', e', W, stp⟩ := putFN X C.1 C.2.2.2.1 C.2.2.2.2.1 w via rfl (I.2.1 _ (List.mem_of_getElem? hj)) I.1 (wl.imp id fun z => ⟨z.1, z.2.1, C.2.2.2.2.2.2.2.trans z.2.2⟩) wi hty hn hf (g := mkF m pc L (v :: .ref a :: st)) rfl rfl (hb C.2.1 hd)
  obtain ⟨s2, o, h1, h2⟩ := k' T' _ X' (Fr.snoc X' F ha) (by rw [e']; exact H.wr W ha (IsO.put I hj W hfs))
  exact ⟨s2, o, stp _ h1, h2⟩
theorem getstatic (C : Ctx p s m meth c Z own nm B ml rt) {i : Nat} {R0 O f d host : String} {v : Value} (hd : decode B pc = .ok (.getstatic i, 3)) (hq : pc + 3 = q) (w : (Cond.fieldLink own i R0 f d).before a0 Z = true ∨ (Cond.fieldLinkNest own i R0 f d host).before a0 Z = true) (via : Via Z R0 O f d)
    (S : Sta Z Z.heap O f d v) (k' : Go p l e R s m args below meth c Z n0 P kc ks μ k n (mkF m q L (v :: st))) : Go p l e R s m args below meth c Z n0 P kc ks μ k n (mkF m pc L st) := by
  subst hq
  exact Go.stand k' fun T locs X H => getS2 X C.1 C.2.2.2.1 C.2.2.2.2.1 w via rfl (S.ext H.1.2) (g := mkF m pc L st) rfl (hb C.2.1 hd)
/-! new objects -/
def AllLaid (Z : State) (a0 : Array Value) (C : String) : List (Key × Value) → Prop
  | [] => True
  | q :: r => (∃ ty, Laid Z a0 C q.1.1 q.1.2.1 q.1.2.2 ∧ parseFieldDescriptor q.1.2.2 = some ty ∧ q.2 = defaultValue ty) ∧ AllLaid Z a0 C r
theorem AllLaid.mem {K : String} : ∀ {fs : List (Key × Value)}, AllLaid Z a0 K fs → ∀ q ∈ fs, ∃ ty, Laid Z a0 K q.1.1 q.1.2.1 q.1.2.2 ∧ parseFieldDescriptor q.1.2.2 = some ty ∧ q.2 = defaultValue ty
  | [], _, _, h => nomatch h
  | _ :: _, H, q, h => (List.mem_cons.mp h).elim (fun z => z ▸ H.1) (AllLaid.mem H.2 q)
theorem AllLaid.pw {K : String} : ∀ {fs : List (Key × Value)}, AllLaid Z a0 K fs → fs.Pairwise (fun q r => q.1.2.1 ≠ r.1.2.1) → fs.Pairwise fun q r => sl Z q ≠ sl Z r
  | [], _, _ => .nil
  | x :: r, H, N => by
    cases N with
    | cons h1 h2 =>
      refine .cons (fun y hy => ?_) (AllLaid.pw H.2 h2)
      obtain ⟨t1, L1, p1, -⟩ := H.1
      obtain ⟨t2, L2, p2, -⟩ := AllLaid.mem H.2 y hy
      exact RoadKit.slot_ne L1 L2 (h1 y hy) p1 p2
theorem new (C : Ctx p s m meth c Z own nm B ml rt) {i ns : Nat} {K : String} {fs : List (Key × Value)} (hd : decode B pc = .ok (.new i, 3)) (hq : pc + 3 = q) (w1 : (Cond.classLink own i K).before a0 Z = true) (w2 : (Cond.instantiable K ns).before a0 Z = true) (w3 : (Cond.initialized K).before a0 Z = true)
    (hl : AllLaid Z a0 K fs) (hnd : fs.Pairwise (fun q r => q.1.2.1 ≠ r.1.2.1)) (hc : k + 1 ≤ R.cells) (hs : n + ns ≤ R.slots)
    (k' : ∀ a : Addr, (∀ b o, μ b = some o → b ≠ a) → n0 ≤ a → Go p l e R s m args below meth c Z n0 P kc ks (upd μ a (.inl (K, fs))) (k + 1) (n + ns) (mkF m q L (.ref a :: st))) : Go p l e R s m args below meth c Z n0 P kc ks μ k n (mkF m pc L st) := by
  subst hq
  intro T locs X F H
  obtain ⟨T', h', X', e', E, A, D, -, stp⟩ := newO X C.1 C.2.2.2.1 C.2.2.2.2.1 w1 w2 w3 rfl (g := mkF m pc L st) rfl (hb C.2.1 hd) hc hs
  obtain ⟨s2, o, h1, h2⟩ := k' T.heap.size H.fresh H.ge T' _ X' F (by
    rw [e']
    refine Hp.set (H.ext E) ⟨A, fun z hz => ?_, hl.pw hnd⟩
    obtain ⟨ty, l1, l2, l3⟩ := hl.mem z hz
    rw [l3]; exact D l1 l2)
  exact ⟨s2, o, stp _ h1, h2⟩
theorem newArr (C : Ctx p s m meth c Z own nm B ml rt) {aty : ArrayType} {ty : FieldType} {z : Int32} {cap : Nat} {vs : List Value} (hd : decode B pc = .ok (.newarray aty, 2)) (hq : pc + 2 = q) (ht : newarray.typeOf aty = ty) (w : (Cond.arrayClass ty).before a0 Z = true) (hz : ¬ z < 0) (hcap : z.toNatClampNeg ≤ cap) (hbig : cap * 8 ≤ 536870912) (hvs : List.replicate z.toNatClampNeg (defaultValue ty) = vs)
    (hc : k + 1 ≤ R.cells) (hs : n + cap ≤ R.slots)
    (k' : ∀ a : Addr, (∀ b o, μ b = some o → b ≠ a) → n0 ≤ a → Go p l e R s m args below meth c Z n0 P kc ks (upd μ a (.inr (ty, vs))) (k + 1) (n + cap) (mkF m q L (.ref a :: st))) : Go p l e R s m args below meth c Z n0 P kc ks μ k n (mkF m pc L (.int z :: st)) := by
  subst hq hvs ht
  intro T locs X F H
  obtain ⟨T', h', cA, X', e', E, A, stp⟩ := newP X C.1 C.2.2.2.1 w rfl (g := mkF m pc L (.int z :: st)) rfl (hb C.2.1 hd) rfl hz hcap hbig hc hs
  obtain ⟨s2, o, h1, h2⟩ := k' T.heap.size H.fresh H.ge T' _ X' F (by
    rw [e']
    refine Hp.set (H.ext E) ⟨_, A, by simp [newA], by rw [List.length_replicate]; exact (back32 hz).2, fun v hv => ?_, fun _ K hK => ?_⟩
    · rw [(List.mem_replicate.mp hv).2]; cases aty <;> rfl
    · cases aty <;> cases hK)
  exact ⟨s2, o, stp _ h1, h2⟩
theorem newRef (C : Ctx p s m meth c Z own nm B ml rt) {i : Nat} {K : String} {z : Int32} {cap : Nat} {vs : List Value} (hd : decode B pc = .ok (.anewarray i, 3)) (hq : pc + 3 = q) (w1 : (Cond.classLink own i K).before a0 Z = true) (w2 : (Cond.arrayOver (.object K)).before a0 Z = true) (hz : ¬ z < 0) (hcap : z.toNatClampNeg ≤ cap) (hbig : cap * 8 ≤ 536870912) (hvs : List.replicate z.toNatClampNeg Value.null = vs)
    (hc : k + 1 ≤ R.cells) (hs : n + cap ≤ R.slots)
    (k' : ∀ a : Addr, (∀ b o, μ b = some o → b ≠ a) → n0 ≤ a → Go p l e R s m args below meth c Z n0 P kc ks (upd μ a (.inr (.object K, vs))) (k + 1) (n + cap) (mkF m q L (.ref a :: st))) : Go p l e R s m args below meth c Z n0 P kc ks μ k n (mkF m pc L (.int z :: st)) := by
  subst hq hvs
  intro T locs X F H
  obtain ⟨T', h', cA, X', e', E, A, O, stp⟩ := newR X C.1 C.2.2.2.1 C.2.2.2.2.1 w1 w2 rfl (g := mkF m pc L (.int z :: st)) rfl (hb C.2.1 hd) rfl hz hcap hbig hc hs
  obtain ⟨s2, o, h1, h2⟩ := k' T.heap.size H.fresh H.ge T' _ X' F (by
    rw [e']
    refine Hp.set (H.ext E) ⟨_, A, by simp [newA, defaultValue], by rw [List.length_replicate]; exact (back32 hz).2, fun v hv => ?_, fun _ K' hK => ?_⟩
    · rw [(List.mem_replicate.mp hv).2]; rfl
    · cases hK; exact O)
  exact ⟨s2, o, stp _ h1, h2⟩
/-! arrays -/
theorem inb {c : Cell} {vs : List Value} {j : Int32} (e : c.slots.toList = vs) (h0 : ¬ j < 0) (hj : j.toNatClampNeg < vs.length) : ¬ (j < 0 ∨ c.slots.size ≤ j.toNatClampNeg) := by
  subst e; rw [Array.length_toList] at hj; rintro (q | q)
  · exact h0 q
  · omega
theorem atL {c : Cell} {vs : List Value} {j : Nat} {v : Value} (e : c.slots.toList = vs) (hv : vs[j]? = some v) : c.slots[j]? = some v := by
  subst e; rw [Array.getElem?_toList] at hv; exact hv
theorem arraylength (C : Ctx p s m meth c Z own nm B ml rt) {ty : FieldType} {vs : List Value} {a : Addr} (hd : decode B pc = .ok (.arraylength, 1)) (hq : pc + 1 = q) (hμ : μ a = some (.inr (ty, vs))) (k' : ∀ z : Int32, z = Int32.ofNat vs.length → z.toInt = vs.length → Go p l e R s m args below meth c Z n0 P kc ks μ k n (mkF m q L (.int z :: st))) : Go p l e R s m args below meth c Z n0 P kc ks μ k n (mkF m pc L (.ref a :: st)) := by
  subst hq
  intro T locs X F H
  obtain ⟨cl, A, e1, hl, -⟩ := H.2 a _ hμ
  have e2 : cl.slots.size = vs.length := by subst e1; rw [Array.length_toList]
  obtain ⟨s2, o, h1, h2⟩ := k' (Int32.ofNat vs.length) rfl (Int32.toInt_ofNat_small hl) T _ X F H
  exact ⟨s2, o, X.arraylength C.1 A.1 (State.isArrayOf_alike C.2.2.2.1.alike A.2.1) (g := mkF m pc L (.ref a :: st)) rfl rfl (hb C.2.1 hd) _ (by rw [e2]; exact h1), h2⟩
theorem iaload (C : Ctx p s m meth c Z own nm B ml rt) {vs : List Value} {a : Addr} {j : Int32} {v : Value} (hd : decode B pc = .ok (.iaload, 1)) (hq : pc + 1 = q) (hμ : μ a = some (.inr (.int, vs))) (h0 : ¬ j < 0) (hv : vs[j.toNatClampNeg]? = some v) (k' : Go p l e R s m args below meth c Z n0 P kc ks μ k n (mkF m q L (v :: st))) : Go p l e R s m args below meth c Z n0 P kc ks μ k n (mkF m pc L (.int j :: .ref a :: st)) := by
  subst hq
  intro T locs X F H
  obtain ⟨cl, A, e1, -⟩ := H.2 a _ hμ
  obtain ⟨s2, o, h1, h2⟩ := k' T _ X F H
  exact ⟨s2, o, X.iaload C.1 A.1 (State.isArrayOf_alike C.2.2.2.1.alike A.2.1) A.2.2 (inb e1 h0 (List.getElem?_eq_some_iff.mp hv).1) (atL e1 hv) (g := mkF m pc L (.int j :: .ref a :: st)) rfl rfl (hb C.2.1 hd) _ h1, h2⟩
theorem laload (C : Ctx p s m meth c Z own nm B ml rt) {vs : List Value} {a : Addr} {j : Int32} {v : Value} (hd : decode B pc = .ok (.laload, 1)) (hq : pc + 1 = q) (hμ : μ a = some (.inr (.long, vs))) (h0 : ¬ j < 0) (hv : vs[j.toNatClampNeg]? = some v) (k' : Go p l e R s m args below meth c Z n0 P kc ks μ k n (mkF m q L (v :: st))) : Go p l e R s m args below meth c Z n0 P kc ks μ k n (mkF m pc L (.int j :: .ref a :: st)) := by
  subst hq
  intro T locs X F H
  obtain ⟨cl, A, e1, -⟩ := H.2 a _ hμ
  obtain ⟨s2, o, h1, h2⟩ := k' T _ X F H
  exact ⟨s2, o, X.laload C.1 A.1 (State.isArrayOf_alike C.2.2.2.1.alike A.2.1) A.2.2 (inb e1 h0 (List.getElem?_eq_some_iff.mp hv).1) (atL e1 hv) (g := mkF m pc L (.int j :: .ref a :: st)) rfl rfl (hb C.2.1 hd) _ h1, h2⟩
theorem caload (C : Ctx p s m meth c Z own nm B ml rt) {vs : List Value} {a : Addr} {j : Int32} {v : Value} (hd : decode B pc = .ok (.caload, 1)) (hq : pc + 1 = q) (hμ : μ a = some (.inr (.char, vs))) (h0 : ¬ j < 0) (hv : vs[j.toNatClampNeg]? = some v) (k' : Go p l e R s m args below meth c Z n0 P kc ks μ k n (mkF m q L (v :: st))) : Go p l e R s m args below meth c Z n0 P kc ks μ k n (mkF m pc L (.int j :: .ref a :: st)) := by
  subst hq
  intro T locs X F H
  obtain ⟨cl, A, e1, -⟩ := H.2 a _ hμ
  obtain ⟨s2, o, h1, h2⟩ := k' T _ X F H
  exact ⟨s2, o, X.caload C.1 A.1 (State.isArrayOf_alike C.2.2.2.1.alike A.2.1) A.2.2 (inb e1 h0 (List.getElem?_eq_some_iff.mp hv).1) (atL e1 hv) (g := mkF m pc L (.int j :: .ref a :: st)) rfl rfl (hb C.2.1 hd) _ h1, h2⟩
theorem baload (C : Ctx p s m meth c Z own nm B ml rt) {vs : List Value} {a : Addr} {j : Int32} {v : Value} (hd : decode B pc = .ok (.baload, 1)) (hq : pc + 1 = q) (hμ : μ a = some (.inr (.byte, vs))) (h0 : ¬ j < 0) (hv : vs[j.toNatClampNeg]? = some v) (k' : Go p l e R s m args below meth c Z n0 P kc ks μ k n (mkF m q L (v :: st))) : Go p l e R s m args below meth c Z n0 P kc ks μ k n (mkF m pc L (.int j :: .ref a :: st)) := by
  subst hq
  intro T locs X F H
  obtain ⟨cl, A, e1, -⟩ := H.2 a _ hμ
  obtain ⟨s2, o, h1, h2⟩ := k' T _ X F H
  exact ⟨s2, o, X.baloadBytes C.1 A.1 (State.isArrayOf_alike C.2.2.2.1.alike A.2.1) A.2.2 (inb e1 h0 (List.getElem?_eq_some_iff.mp hv).1) (atL e1 hv) (g := mkF m pc L (.int j :: .ref a :: st)) rfl rfl (hb C.2.1 hd) _ h1, h2⟩
theorem zaload (C : Ctx p s m meth c Z own nm B ml rt) {vs : List Value} {a : Addr} {j : Int32} {v : Value} (hd : decode B pc = .ok (.baload, 1)) (hq : pc + 1 = q) (hμ : μ a = some (.inr (.boolean, vs))) (h0 : ¬ j < 0) (hv : vs[j.toNatClampNeg]? = some v) (k' : Go p l e R s m args below meth c Z n0 P kc ks μ k n (mkF m q L (v :: st))) : Go p l e R s m args below meth c Z n0 P kc ks μ k n (mkF m pc L (.int j :: .ref a :: st)) := by
  subst hq
  intro T locs X F H
  obtain ⟨cl, A, e1, -⟩ := H.2 a _ hμ
  obtain ⟨s2, o, h1, h2⟩ := k' T _ X F H
  exact ⟨s2, o, X.baloadBooleans C.1 A.1 (State.isArrayOf_alike C.2.2.2.1.alike A.2.1) A.2.2 (inb e1 h0 (List.getElem?_eq_some_iff.mp hv).1) (atL e1 hv) (g := mkF m pc L (.int j :: .ref a :: st)) rfl rfl (hb C.2.1 hd) _ h1, h2⟩
theorem aaload (C : Ctx p s m meth c Z own nm B ml rt) {ty : FieldType} {vs : List Value} {a : Addr} {j : Int32} {v : Value} (hd : decode B pc = .ok (.aaload, 1)) (hq : pc + 1 = q) (hμ : μ a = some (.inr (ty, vs))) (hr : ty.isReference = true) (h0 : ¬ j < 0) (hv : vs[j.toNatClampNeg]? = some v) (k' : Go p l e R s m args below meth c Z n0 P kc ks μ k n (mkF m q L (v :: st))) : Go p l e R s m args below meth c Z n0 P kc ks μ k n (mkF m pc L (.int j :: .ref a :: st)) := by
  subst hq
  intro T locs X F H
  obtain ⟨cl, A, e1, -⟩ := H.2 a _ hμ
  obtain ⟨s2, o, h1, h2⟩ := k' T _ X F H
  exact ⟨s2, o, X.aaload C.1 A.1 (State.isArrayOf_alike C.2.2.2.1.alike A.2.1) hr A.2.2 (inb e1 h0 (List.getElem?_eq_some_iff.mp hv).1) (atL e1 hv) (g := mkF m pc L (.int j :: .ref a :: st)) rfl rfl (hb C.2.1 hd) _ h1, h2⟩
theorem iastore (C : Ctx p s m meth c Z own nm B ml rt) {vs : List Value} {a : Addr} {j : Int32} {x : Int32} (hd : decode B pc = .ok (.iastore, 1)) (hq : pc + 1 = q) (hμ : μ a = some (.inr (.int, vs))) (h0 : ¬ j < 0) (hj : j.toNatClampNeg < vs.length) (ha : n0 ≤ a) (k' : Go p l e R s m args below meth c Z n0 P kc ks (upd μ a (.inr (.int, vs.set j.toNatClampNeg (.int x)))) k n (mkF m q L st)) : Go p l e R s m args below meth c Z n0 P kc ks μ k n (mkF m pc L ((.int x) :: .int j :: .ref a :: st)) := by
  subst hq
  intro T locs X F H
  have I := H.2 a _ hμ
  obtain ⟨cl, A, e1, -⟩ := id I
  obtain ⟨T', h', X', e', W, stp⟩ := stI X C.1 C.2.2.2.1 rfl A (inb e1 h0 hj) (g := mkF m pc L ((.int x) :: .int j :: .ref a :: st)) rfl rfl (hb C.2.1 hd)
  obtain ⟨s2, o, h1, h2⟩ := k' T' _ X' (Fr.snoc X' F ha) (by rw [e']; exact H.wr W ha (IsA.put I rfl W))
  exact ⟨s2, o, stp _ h1, h2⟩
theorem lastore (C : Ctx p s m meth c Z own nm B ml rt) {vs : List Value} {a : Addr} {j : Int32} {x : Int64} (hd : decode B pc = .ok (.lastore, 1)) (hq : pc + 1 = q) (hμ : μ a = some (.inr (.long, vs))) (h0 : ¬ j < 0) (hj : j.toNatClampNeg < vs.length) (ha : n0 ≤ a) (k' : Go p l e R s m args below meth c Z n0 P kc ks (upd μ a (.inr (.long, vs.set j.toNatClampNeg (.long x)))) k n (mkF m q L st)) : Go p l e R s m args below meth c Z n0 P kc ks μ k n (mkF m pc L ((.long x) :: .int j :: .ref a :: st)) := by
  subst hq
  intro T locs X F H
  have I := H.2 a _ hμ
  obtain ⟨cl, A, e1, -⟩ := id I
  obtain ⟨T', h', X', e', W, stp⟩ := stJ X C.1 C.2.2.2.1 rfl A (inb e1 h0 hj) (g := mkF m pc L ((.long x) :: .int j :: .ref a :: st)) rfl rfl (hb C.2.1 hd)
  obtain ⟨s2, o, h1, h2⟩ := k' T' _ X' (Fr.snoc X' F ha) (by rw [e']; exact H.wr W ha (IsA.put I rfl W))
  exact ⟨s2, o, stp _ h1, h2⟩
theorem castore (C : Ctx p s m meth c Z own nm B ml rt) {vs : List Value} {a : Addr} {j : Int32} {x : Int32} (hd : decode B pc = .ok (.castore, 1)) (hq : pc + 1 = q) (hμ : μ a = some (.inr (.char, vs))) (h0 : ¬ j < 0) (hj : j.toNatClampNeg < vs.length) (ha : n0 ≤ a) (k' : Go p l e R s m args below meth c Z n0 P kc ks (upd μ a (.inr (.char, vs.set j.toNatClampNeg (.int (nar .char x))))) k n (mkF m q L st)) : Go p l e R s m args below meth c Z n0 P kc ks μ k n (mkF m pc L ((.int x) :: .int j :: .ref a :: st)) := by
  subst hq
  intro T locs X F H
  have I := H.2 a _ hμ
  obtain ⟨cl, A, e1, -⟩ := id I
  obtain ⟨T', h', X', e', W, stp⟩ := stC X C.1 C.2.2.2.1 rfl A (inb e1 h0 hj) (g := mkF m pc L ((.int x) :: .int j :: .ref a :: st)) rfl rfl (hb C.2.1 hd)
  obtain ⟨s2, o, h1, h2⟩ := k' T' _ X' (Fr.snoc X' F ha) (by rw [e']; exact H.wr W ha (IsA.put I (fits_nar_char _) W))
  exact ⟨s2, o, stp _ h1, h2⟩
theorem bastore (C : Ctx p s m meth c Z own nm B ml rt) {vs : List Value} {a : Addr} {j : Int32} {x : Int32} (hd : decode B pc = .ok (.bastore, 1)) (hq : pc + 1 = q) (hμ : μ a = some (.inr (.byte, vs))) (h0 : ¬ j < 0) (hj : j.toNatClampNeg < vs.length) (ha : n0 ≤ a) (k' : Go p l e R s m args below meth c Z n0 P kc ks (upd μ a (.inr (.byte, vs.set j.toNatClampNeg (.int x.toInt8.toInt32)))) k n (mkF m q L st)) : Go p l e R s m args below meth c Z n0 P kc ks μ k n (mkF m pc L ((.int x) :: .int j :: .ref a :: st)) := by
  subst hq
  intro T locs X F H
  have I := H.2 a _ hμ
  obtain ⟨cl, A, e1, -⟩ := id I
  obtain ⟨T', h', X', e', W, stp⟩ := stB X C.1 C.2.2.2.1 rfl A (inb e1 h0 hj) (g := mkF m pc L ((.int x) :: .int j :: .ref a :: st)) rfl rfl (hb C.2.1 hd)
  obtain ⟨s2, o, h1, h2⟩ := k' T' _ X' (Fr.snoc X' F ha) (by rw [e']; exact H.wr W ha (IsA.put I (fits_nar_byte _) W))
  exact ⟨s2, o, stp _ h1, h2⟩
theorem zastore (C : Ctx p s m meth c Z own nm B ml rt) {vs : List Value} {a : Addr} {j : Int32} {x : Int32} (hd : decode B pc = .ok (.bastore, 1)) (hq : pc + 1 = q) (hμ : μ a = some (.inr (.boolean, vs))) (h0 : ¬ j < 0) (hj : j.toNatClampNeg < vs.length) (ha : n0 ≤ a) (k' : Go p l e R s m args below meth c Z n0 P kc ks (upd μ a (.inr (.boolean, vs.set j.toNatClampNeg (.int (nar .boolean x))))) k n (mkF m q L st)) : Go p l e R s m args below meth c Z n0 P kc ks μ k n (mkF m pc L ((.int x) :: .int j :: .ref a :: st)) := by
  subst hq
  intro T locs X F H
  have I := H.2 a _ hμ
  obtain ⟨cl, A, e1, -⟩ := id I
  obtain ⟨T', h', X', e', W, stp⟩ := stZ X C.1 C.2.2.2.1 rfl A (inb e1 h0 hj) (g := mkF m pc L ((.int x) :: .int j :: .ref a :: st)) rfl rfl (hb C.2.1 hd)
  obtain ⟨s2, o, h1, h2⟩ := k' T' _ X' (Fr.snoc X' F ha) (by rw [e']; exact H.wr W ha (IsA.put I (fits_nar_bool _) W))
  exact ⟨s2, o, stp _ h1, h2⟩
theorem aastore (C : Ctx p s m meth c Z own nm B ml rt) {K : String} {vs : List Value} {a : Addr} {j : Int32} {v : Value} (hd : decode B pc = .ok (.aastore, 1)) (hq : pc + 1 = q) (hμ : μ a = some (.inr (.object K, vs))) (hv : v = .null ∨ ∃ b, v = .ref b ∧ ∀ h, Hp Z n0 μ h → Ins Z h b K true) (h0 : ¬ j < 0) (hj : j.toNatClampNeg < vs.length) (ha : n0 ≤ a) (k' : Go p l e R s m args below meth c Z n0 P kc ks (upd μ a (.inr (.object K, vs.set j.toNatClampNeg v))) k n (mkF m q L st)) : Go p l e R s m args below meth c Z n0 P kc ks μ k n (mkF m pc L (v :: .int j :: .ref a :: st)) := by
  subst hq
  intro T locs X F H
  have I := H.2 a _ hμ
  obtain ⟨cl, A, e1, -, -, O⟩ := id I
  have S : Sto Z T.heap a v := by
    rcases hv with rfl | ⟨b, rfl, hb⟩
    · exact Or.inl rfl
    · exact Sto.of A (O ha K rfl) (hb _ H)
  have hf : fits (.object K) v = true := by
    rcases hv with rfl | ⟨b, rfl, -⟩ <;> rfl
  obtain ⟨T', h', X', e', W, stp⟩ := stR X C.1 C.2.2.2.1 rfl A (inb e1 h0 hj) rfl S (g := mkF m pc L (v :: .int j :: .ref a :: st)) rfl rfl (hb C.2.1 hd)
  obtain ⟨s2, o, h1, h2⟩ := k' T' _ X' (Fr.snoc X' F ha) (by rw [e']; exact H.wr W ha (IsA.put I hf W))
  exact ⟨s2, o, stp _ h1, h2⟩
/-! returns -/
theorem ireturn (C : Ctx p s m meth c Z own nm B ml (some .int)) {z : Int32} (hd : decode B pc = .ok (.ireturn, 1)) (hk : k ≤ kc) (hn : n ≤ ks) (h : P (some (.int z)) μ) : Go p l e R s m args below meth c Z n0 P kc ks μ k n (mkF m pc L (.int z :: st)) := fun T locs X F H => by
  obtain ⟨fs, hr, hrun, hended, hW, hsame⟩ := X.leave (v := some (.int z)) (fun h => by rw [C.2.2.2.2.2.1] at h; cases h) C.2.2.2.2.2.2.1
  exact ⟨_, _, retOut X C.1 C.2.2.2.2.2.1 rfl (Or.inl ⟨rfl, Or.inl rfl, z, rfl⟩) (hb C.2.1 hd) hr, hrun, hended, _, _, rfl, ⟨F, μ, H, h⟩, ⟨_, rfl⟩, hW, hsame.mono hk hn⟩
theorem nreturn {t : FieldType} (C : Ctx p s m meth c Z own nm B ml (some t)) {z z' : Int32} (hd : decode B pc = .ok (.ireturn, 1)) (ht : t = .boolean ∨ t = .byte ∨ t = .char ∨ t = .short) (hz : nar t z = z') (hk : k ≤ kc) (hn : n ≤ ks) (h : P (some (.int z')) μ) : Go p l e R s m args below meth c Z n0 P kc ks μ k n (mkF m pc L (.int z :: st)) := fun T locs X F H => by
  subst hz
  obtain ⟨fs, hr, hrun, hended, hW, hsame⟩ := X.leave (v := some (.int (nar t z))) (fun h => by rw [C.2.2.2.2.2.1] at h; cases h) C.2.2.2.2.2.2.1
  exact ⟨_, _, retN X C.1 C.2.2.2.2.2.1 ht (hb C.2.1 hd) hr, hrun, hended, _, _, rfl, ⟨F, μ, H, h⟩, ⟨_, rfl⟩, hW, hsame.mono hk hn⟩
theorem lreturn (C : Ctx p s m meth c Z own nm B ml (some .long)) {z : Int64} (hd : decode B pc = .ok (.lreturn, 1)) (hk : k ≤ kc) (hn : n ≤ ks) (h : P (some (.long z)) μ) : Go p l e R s m args below meth c Z n0 P kc ks μ k n (mkF m pc L (.long z :: st)) := fun T locs X F H => by
  obtain ⟨fs, hr, hrun, hended, hW, hsame⟩ := X.leave (v := some (.long z)) (fun h => by rw [C.2.2.2.2.2.1] at h; cases h) C.2.2.2.2.2.2.1
  exact ⟨_, _, retOut X C.1 C.2.2.2.2.2.1 rfl (Or.inr (Or.inl ⟨rfl, rfl, z, rfl⟩)) (hb C.2.1 hd) hr, hrun, hended, _, _, rfl, ⟨F, μ, H, h⟩, ⟨_, rfl⟩, hW, hsame.mono hk hn⟩
theorem nref {t : FieldType} {v : Value} (h1 : t.isReference = true) (h2 : v.isRef = true) : narrow t v = v := by
  cases t <;> first | (cases h1; done) | rfl
theorem areturn {t : FieldType} (C : Ctx p s m meth c Z own nm B ml (some t)) {v : Value} (ht : t.isReference = true) (hv : v.isRef = true) (hd : decode B pc = .ok (.areturn, 1)) (hk : k ≤ kc) (hn : n ≤ ks) (h : P (some v) μ) : Go p l e R s m args below meth c Z n0 P kc ks μ k n (mkF m pc L (v :: st)) := fun T locs X F H => by
  obtain ⟨fs, hr, hrun, hended, hW, hsame⟩ := X.leave (v := some v) (fun h => by rw [C.2.2.2.2.2.1] at h; cases h) C.2.2.2.2.2.2.1
  exact ⟨_, _, retOut X C.1 C.2.2.2.2.2.1 (nref ht hv) (Or.inr (Or.inr (Or.inr (Or.inr ⟨rfl, ht, hv⟩)))) (hb C.2.1 hd) hr, hrun, hended, _, _, rfl, ⟨F, μ, H, h⟩, ⟨_, rfl⟩, hW, hsame.mono hk hn⟩
theorem vreturn (C : Ctx p s m meth c Z own nm B ml none) (hd : decode B pc = .ok (.return_, 1)) (hk : k ≤ kc) (hn : n ≤ ks) (h : P none μ) : Go p l e R s m args below meth c Z n0 P kc ks μ k n (mkF m pc L []) := fun T locs X F H => by
  obtain ⟨fs, hr, hrun, hended, hW, hsame⟩ := X.leave (v := none) (fun _ => rfl) C.2.2.2.2.2.2.1
  exact ⟨_, _, X.returnOut C.1 C.2.2.2.2.2.1 (hb C.2.1 hd) hr, hrun, hended, _, _, rfl, ⟨F, μ, H, h⟩, ⟨_, rfl⟩, hW, hsame.mono hk hn⟩
/-! what a callee leaves, by the kind of its return -/
def RV (Q : Mem → Prop) : Option Value → Mem → Prop := fun v μ => v = none ∧ Q μ
def RI (Q : Int32 → Mem → Prop) : Option Value → Mem → Prop := fun v μ => ∃ z, v = some (.int z) ∧ Q z μ
def RJ (Q : Int64 → Mem → Prop) : Option Value → Mem → Prop := fun v μ => ∃ z, v = some (.long z) ∧ Q z μ
def RR (Q : Value → Mem → Prop) : Option Value → Mem → Prop := fun v μ => ∃ z : Value, v = some z ∧ z.isRef = true ∧ Q z μ
section Nx
variable {k2 n2 : Nat}
theorem nxV {Q : Mem → Prop} (h : ∀ μ', Q μ' → Go p l e R s m args below meth c Z n0 P kc ks μ' k2 n2 (mkF m q L st)) : ∀ v μ', RV Q v μ' → Go p l e R s m args below meth c Z n0 P kc ks μ' k2 n2 (mkF m q L (v.toList ++ st)) := fun v μ' ⟨e1, e2⟩ => by subst e1; exact h μ' e2
theorem nxI {Q : Int32 → Mem → Prop} (h : ∀ z μ', Q z μ' → Go p l e R s m args below meth c Z n0 P kc ks μ' k2 n2 (mkF m q L (.int z :: st))) : ∀ v μ', RI Q v μ' → Go p l e R s m args below meth c Z n0 P kc ks μ' k2 n2 (mkF m q L (v.toList ++ st)) := fun v μ' ⟨z, e1, e2⟩ => by subst e1; exact h z μ' e2
theorem nxJ {Q : Int64 → Mem → Prop} (h : ∀ z μ', Q z μ' → Go p l e R s m args below meth c Z n0 P kc ks μ' k2 n2 (mkF m q L (.long z :: st))) : ∀ v μ', RJ Q v μ' → Go p l e R s m args below meth c Z n0 P kc ks μ' k2 n2 (mkF m q L (v.toList ++ st)) := fun v μ' ⟨z, e1, e2⟩ => by subst e1; exact h z μ' e2
theorem nxR {Q : Value → Mem → Prop} (h : ∀ z μ', z.isRef = true → Q z μ' → Go p l e R s m args below meth c Z n0 P kc ks μ' k2 n2 (mkF m q L (z :: st))) : ∀ v μ', RR Q v μ' → Go p l e R s m args below meth c Z n0 P kc ks μ' k2 n2 (mkF m q L (v.toList ++ st)) := fun v μ' ⟨z, e1, e2, e3⟩ => by subst e1; exact h z μ' e2 e3
end Nx
/-! calls by contract -/
theorem backs {y : MethodName} {B' : ByteArray} {ml' : Nat} {rt' : Option FieldType} {rm : Room} {len W : Nat} {as' : Array Value} {P' : Option Value → Mem → Prop} {h : Heap}
    (con : Con l Z n0 y B' ml' rt' [] rm rm.cells rm.slots as' μ P') (H : Hp Z n0 μ h) (hZ : Z.Warmed39 s.vm) (wc : (Cond.code y B' ml' rt').before a0 Z = true) (wz : (Cond.initialized y.cls).before a0 Z = true) (hf : rm.frames + 1 ≤ R.frames) (hl : W + (ml' + 11) + rm.locals ≤ R.locals) :
    Back l R p e below s args y len W (fun A a => a = as' ∧ A.U.heap = h ∧ A.cells + rm.cells ≤ R.cells ∧ A.slots + rm.slots ≤ R.slots)
      (fun A _ v B => ∃ L, (Fr n0 L ∧ ∃ μ', Hp Z n0 μ' B.U.heap ∧ P' v μ') ∧ B.locs = A.locs ++ L ∧ B.cells = A.cells + rm.cells ∧ B.slots = A.slots + rm.slots) :=
  backOf (Q := fun v h' L => Fr n0 L ∧ ∃ μ', Hp Z n0 μ' h' ∧ P' v μ') (con h H) hZ wc wz hf hl
theorem callS (C : Ctx p s m meth c Z own nm B ml rt) {i : Nat} {y : MethodName} {B' : ByteArray} {ml' : Nat} {rt' : Option FieldType} {rm : Room} {W : Nat} {argsL : List Value} {P' : Option Value → Mem → Prop} {S : List Value} (hd : decode B pc = .ok (.invokestatic i, 3)) (hq : pc + 3 = q)
    (w1 : (Cond.methodLink own i y).before a0 Z = true) (w2 : (Cond.static y).before a0 Z = true) (w3 : (Cond.initialized y.cls).before a0 Z = true) (w4 : (Cond.code y B' ml' rt').before a0 Z = true) (hy : y.cls ≠ "java/lang/invoke/MethodHandle" ∧ y.cls ≠ "java/lang/invoke/VarHandle")
    (hlen : ∀ sig, parseMethodDescriptor y.desc = some sig → argsL.length = sig.parameters.length) (hS : S = argsL.reverse ++ st) (hsz : L.size = ml) (hW : 2 * 0 + (st.map fun v => v.category).sum ≤ W) (hf : rm.frames + 1 ≤ R.frames) (hl : W + (ml' + 11) + rm.locals ≤ R.locals) (hc : k + rm.cells ≤ R.cells) (hs : n + rm.slots ≤ R.slots)
    (con : Con l Z n0 y B' ml' rt' [] rm rm.cells rm.slots argsL.toArray μ P')
    (k' : ∀ v μ', P' v μ' → Go p l e R s m args below meth c Z n0 P kc ks μ' (k + rm.cells) (n + rm.slots) (mkF m q L (v.toList ++ st))) : Go p l e R s m args below meth c Z n0 P kc ks μ k n (mkF m pc L S) := by
  subst hq
  intro T locs X F H
  obtain ⟨v, vm1, ⟨T', L', k2, n2⟩, -, X', ⟨Lc, ⟨N, μ', H', hP⟩, e1, e2, e3⟩, stp⟩ := Jvm.LawKit.callS X C.1 (y := y) C.2.2.2.2.1 (mvT C.2.2.2.1 w1) (mvT C.2.2.2.1 w2) (mvT C.2.2.2.1 w3) (mvT C.2.2.2.1 w4) hy (backs (W := W) con H C.2.2.2.1 w4 w3 hf hl) (g := mkF m pc L S) rfl (hsz.trans C.2.2.1.symm) (argsL := argsL) (rest := st) hlen hS hW (hb C.2.1 hd) (fun _ _ => ⟨rfl, rfl, hc, hs⟩)
  dsimp only [Pt.U, Pt.locs, Pt.cells, Pt.slots] at X' e1 e2 e3 stp H'
  subst e1 e2 e3
  obtain ⟨s2, o, h1, h2⟩ := k' v μ' hP T' _ X' (F.app N) H'
  exact ⟨s2, o, stp _ h1, h2⟩
theorem callI (C : Ctx p s m meth c Z own nm B ml rt) {i : Nat} {y : MethodName} {B' : ByteArray} {ml' : Nat} {rm : Room} {W : Nat} {argsL : List Value} {P' : Option Value → Mem → Prop} {S : List Value} {a : Addr} (hd : decode B pc = .ok (.invokespecial i, 3)) (hq : pc + 3 = q) (hnm : y.name = "<init>")
    (w1 : (Cond.methodLink own i y).before a0 Z = true) (w2 : (Cond.instanceMethod y).before a0 Z = true) (w3 : (Cond.initialized y.cls).before a0 Z = true) (w4 : (Cond.code y B' ml' none).before a0 Z = true) (hy : y.cls ≠ "java/lang/invoke/MethodHandle" ∧ y.cls ≠ "java/lang/invoke/VarHandle")
    (hlen : ∀ sig, parseMethodDescriptor y.desc = some sig → argsL.length = sig.parameters.length) (hS : S = argsL.reverse ++ .ref a :: st) (hsz : L.size = ml) (hW : 2 * 0 + (st.map fun v => v.category).sum ≤ W) (hf : rm.frames + 1 ≤ R.frames) (hl : W + (ml' + 11) + rm.locals ≤ R.locals) (hc : k + rm.cells ≤ R.cells) (hs : n + rm.slots ≤ R.slots)
    (con : Con l Z n0 y B' ml' none [] rm rm.cells rm.slots (.ref a :: argsL).toArray μ P')
    (k' : ∀ v μ', P' v μ' → Go p l e R s m args below meth c Z n0 P kc ks μ' (k + rm.cells) (n + rm.slots) (mkF m q L (v.toList ++ st))) : Go p l e R s m args below meth c Z n0 P kc ks μ k n (mkF m pc L S) := by
  subst hq
  intro T locs X F H
  obtain ⟨v, vm1, ⟨T', L', k2, n2⟩, -, X', ⟨Lc, ⟨N, μ', H', hP⟩, e1, e2, e3⟩, stp⟩ := X.specialBack C.1 (y := y) hnm C.2.2.2.2.1 (mvT C.2.2.2.1 w1) (mvT C.2.2.2.1 w2) (mvT C.2.2.2.1 w4) hy (backs (W := W) con H C.2.2.2.1 w4 w3 hf hl) (g := mkF m pc L S) rfl (hsz.trans C.2.2.1.symm) (Steps.refl _) (a := a) (argsL := argsL) (rest := st) hlen hS hW (hb C.2.1 hd) (fun _ _ => ⟨rfl, rfl, hc, hs⟩)
  dsimp only [Pt.U, Pt.locs, Pt.cells, Pt.slots] at X' e1 e2 e3 stp H'
  subst e1 e2 e3
  obtain ⟨s2, o, h1, h2⟩ := k' v μ' hP T' _ X' (F.app N) H'
  exact ⟨s2, o, stp.trans h1, h2⟩
theorem initObj (C : Ctx p s m meth c Z own nm B ml rt) {i W : Nat} {a : Addr} (hd : decode B pc = .ok (.invokespecial i, 3)) (hq : pc + 3 = q) (w1 : (Cond.methodLink own i Lib.objectInit).before a0 Z = true) (w2 : (Cond.instanceMethod Lib.objectInit).before a0 Z = true) (w3 : (Cond.code Lib.objectInit ⟨#[0xb1]⟩ 1 none).before a0 Z = true)
    (hsz : L.size = ml) (hf : 1 ≤ R.frames) (hW : 2 * 0 + (st.map fun v => v.category).sum ≤ W) (hl : W + 12 ≤ R.locals) (k' : Go p l e R s m args below meth c Z n0 P kc ks μ k n (mkF m q L st)) : Go p l e R s m args below meth c Z n0 P kc ks μ k n (mkF m pc L (.ref a :: st)) := by
  subst hq
  exact Go.stand k' fun T locs X H => initO X C.1 C.2.2.2.1 C.2.2.2.2.1 w1 w2 w3 rfl (g := mkF m pc L (.ref a :: st)) rfl (hsz.trans C.2.2.1.symm) rfl (hb C.2.1 hd) hf hW hl
theorem callV (C : Ctx p s m meth c Z own nm B ml rt) {i : Nat} {y z : MethodName} {K : String} {fs : List (Key × Value)} {B' : ByteArray} {ml' : Nat} {rt' : Option FieldType} {rm : Room} {W : Nat} {argsL : List Value} {P' : Option Value → Mem → Prop} {S : List Value} {a : Addr} (hd : decode B pc = .ok (.invokevirtual i, 3)) (hq : pc + 3 = q)
    (w1 : (Cond.methodLink own i y).before a0 Z = true) (w2 : (Cond.declares y).before a0 Z = true) (hnf : NotFace s y) (w5 : (Cond.selects K y z).before a0 Z = true) (w6 : (Cond.instanceMethod z).before a0 Z = true) (w3 : (Cond.initialized z.cls).before a0 Z = true) (w4 : (Cond.code z B' ml' rt').before a0 Z = true) (hy : y.cls ≠ "java/lang/invoke/MethodHandle" ∧ y.cls ≠ "java/lang/invoke/VarHandle")
    (hlen : ∀ sig, parseMethodDescriptor y.desc = some sig → argsL.length = sig.parameters.length) (hS : S = argsL.reverse ++ .ref a :: st) (hsz : L.size = ml) (hW : 2 * 0 + (st.map fun v => v.category).sum ≤ W) (hf : rm.frames + 1 ≤ R.frames) (hl : W + (ml' + 11) + rm.locals ≤ R.locals) (hc : k + rm.cells ≤ R.cells) (hs : n + rm.slots ≤ R.slots)
    (hμ : μ a = some (.inl (K, fs))) (con : Con l Z n0 z B' ml' rt' [] rm rm.cells rm.slots (.ref a :: argsL).toArray μ P')
    (k' : ∀ v μ', P' v μ' → Go p l e R s m args below meth c Z n0 P kc ks μ' (k + rm.cells) (n + rm.slots) (mkF m q L (v.toList ++ st))) : Go p l e R s m args below meth c Z n0 P kc ks μ k n (mkF m pc L S) := by
  subst hq
  intro T locs X F H
  obtain ⟨cq, kq, qa, qb, qc⟩ := isOf (T := T) C.2.2.2.1 rfl (H.2 a _ hμ).1
  obtain ⟨v, vm1, ⟨T', L', k2, n2⟩, -, X', ⟨Lc, ⟨N, μ', H', hP⟩, e1, e2, e3⟩, stp⟩ := X.virtualBack C.1 (y := y) (z := z) C.2.2.2.2.1 (mvT C.2.2.2.1 w1) (mvT C.2.2.2.1 w2) hnf (mvT C.2.2.2.1 w5) (mvT C.2.2.2.1 w6) hy (backs (W := W) con H C.2.2.2.1 w4 w3 hf hl) qa qc (g := mkF m pc L S) rfl (hsz.trans C.2.2.1.symm) (Steps.refl _) (argsL := argsL) (rest := st) hlen hS hW (hb C.2.1 hd) (fun _ _ => ⟨rfl, rfl, hc, hs⟩)
  dsimp only [Pt.U, Pt.locs, Pt.cells, Pt.slots] at X' e1 e2 e3 stp H'
  subst e1 e2 e3
  obtain ⟨s2, o, h1, h2⟩ := k' v μ' hP T' _ X' (F.app N) H'
  exact ⟨s2, o, stp.trans h1, h2⟩
theorem callP (C : Ctx p s m meth c Z own nm B ml rt) {i : Nat} {y : MethodName} {K : String} {fs : List (Key × Value)} {B' : ByteArray} {ml' : Nat} {rt' : Option FieldType} {rm : Room} {W : Nat} {argsL : List Value} {P' : Option Value → Mem → Prop} {S : List Value} {a : Addr} (hd : decode B pc = .ok (.invokevirtual i, 3)) (hq : pc + 3 = q)
    (w1 : (Cond.methodLink own i y).before a0 Z = true) (w2 : (Cond.privateMethod y).before a0 Z = true) {kk : Nat} (w5 : (Cond.instantiable y.cls kk).before a0 Z = true) (w6 : (Cond.instanceMethod y).before a0 Z = true) (w3 : (Cond.initialized y.cls).before a0 Z = true) (w4 : (Cond.code y B' ml' rt').before a0 Z = true) (hy : y.cls ≠ "java/lang/invoke/MethodHandle" ∧ y.cls ≠ "java/lang/invoke/VarHandle")
    (hlen : ∀ sig, parseMethodDescriptor y.desc = some sig → argsL.length = sig.parameters.length) (hS : S = argsL.reverse ++ .ref a :: st) (hsz : L.size = ml) (hW : 2 * 0 + (st.map fun v => v.category).sum ≤ W) (hf : rm.frames + 1 ≤ R.frames) (hl : W + (ml' + 11) + rm.locals ≤ R.locals) (hc : k + rm.cells ≤ R.cells) (hs : n + rm.slots ≤ R.slots)
    (hμ : μ a = some (.inl (K, fs))) (con : Con l Z n0 y B' ml' rt' [] rm rm.cells rm.slots (.ref a :: argsL).toArray μ P')
    (k' : ∀ v μ', P' v μ' → Go p l e R s m args below meth c Z n0 P kc ks μ' (k + rm.cells) (n + rm.slots) (mkF m q L (v.toList ++ st))) : Go p l e R s m args below meth c Z n0 P kc ks μ k n (mkF m pc L S) := by
  subst hq
  intro T locs X F H
  obtain ⟨cq, q1, q2⟩ := (H.2 a _ hμ).1.cell
  have hp : s.PrivateAt y := Cond.privateMethod_at (mvP C.2.2.2.1 w2 (args := #[]))
  obtain ⟨c2, k2, i1, i2, -, i4, -⟩ := Cond.instantiable_spec (show (Cond.instantiable y.cls kk).before args s = true from mvT C.2.2.2.1 w5)
  have h5 : (Cond.selects y.cls y y).before args s = true := Jvm.Stand.selects_self_of_private i1 i2 (by simp only [Bool.or_eq_false_iff] at i4; exact i4.1) hp (mvT C.2.2.2.1 w6) hy
  obtain ⟨v, vm1, ⟨T', L', k2, n2⟩, -, X', ⟨Lc, ⟨N, μ', H', hP⟩, e1, e2, e3⟩, stp⟩ := X.privateBack C.1 (y := y) C.2.2.2.2.1 (mvT C.2.2.2.1 w1) (mvT C.2.2.2.1 w6) h5 hp (mvT C.2.2.2.1 w4) hy (backs (W := W) con H C.2.2.2.1 w4 w3 hf hl) (g := mkF m pc L S) rfl (hsz.trans C.2.2.1.symm) (Steps.refl _) (a := a) q1 q2 (argsL := argsL) (rest := st) hlen hS hW (hb C.2.1 hd) (fun _ _ => ⟨rfl, rfl, hc, hs⟩)
  dsimp only [Pt.U, Pt.locs, Pt.cells, Pt.slots] at X' e1 e2 e3 stp H'
  subst e1 e2 e3
  obtain ⟨s2, o, h1, h2⟩ := k' v μ' hP T' _ X' (F.app N) H'
  exact ⟨s2, o, stp.trans h1, h2⟩
end Rules
end Jvm.Own
namespace Jvm.Own
open Sem ClassFile Op Lib Jvm.Stand Jvm.Free Jvm.LawKit Jvm.RoadKit
section Copy
variable {p : Program} {l : Launch} {e : Env} {R : Room} {s : State} {m : MethodId} {args : Array Value} {below : List Frame} {meth : Method} {c : Code} {Z : State} {a0 : Array Value} {n0 : Nat} {P : Option Value → Mem → Prop} {kc ks : Nat} {μ : Mem} {k n : Nat}
  {own nm : String} {B : ByteArray} {ml : Nat} {rt : Option FieldType} {pc q : Nat} {L L' : Array Slot} {st : List Value}
theorem Is.keep {h h' : Heap} {a b : Addr} {o : Obj} (H : Is Z n0 h b o) (K : Keep h h' [a]) (q : b ≠ a) : Is Z n0 h' b o := by
  have nb : b ∉ [a] := fun z => q (List.mem_singleton.mp z)
  rcases o with r | r
  · exact ⟨H.1.keep K, fun r hr => (H.2.1 r hr).keep K nb, H.2.2⟩
  · obtain ⟨c, A, r⟩ := H; exact ⟨c, ⟨K.2.1 _ _ A.1 nb, A.2⟩, r⟩
theorem arv_of {h : Heap} {a : Addr} {ty : FieldType} {vs : List Value} {dv : Value} (I : IsA Z n0 h a ty vs) : ∃ k, Arv Z h a k ty (Int32.ofNat vs.length) vs dv := by
  obtain ⟨c, A, e1, hl, hf, -⟩ := I
  have e2 : c.slots.size = vs.length := by subst e1; rw [Array.length_toList]
  have e3 : (Int32.ofNat vs.length).toInt = vs.length := Int32.toInt_ofNat_small hl
  refine ⟨c.cls, c, A, rfl, ?_, ?_, fun i hi => ?_, fun i hi => ?_⟩
  · rw [e2]; simp only [Int32.toNatClampNeg, e3]; rfl
  · rw [Int32.lt_iff_toInt_lt, e3]; have z : (0 : Int32).toInt = 0 := rfl; omega
  · rw [e2] at hi; rw [← Array.getElem?_toList, e1, List.getElem?_eq_getElem hi, List.getD_eq_getElem?_getD, List.getElem?_eq_getElem hi]; rfl
  · rw [e2] at hi; rw [List.getD_eq_getElem?_getD, List.getElem?_eq_getElem hi]; exact hf _ (List.getElem_mem hi)
/-- System.arraycopy of numbers -/
theorem arraycopy (C : Ctx p s m meth c Z own nm B ml rt) {i W : Nat} {ty : FieldType} {vs ws us : List Value} {a b : Addr} {sp dp nn : Int32} (hd : decode B pc = .ok (.invokestatic i, 3)) (hq : pc + 3 = q)
    (w1 : (Cond.methodLink own i Jvm.Stand.acN).before a0 Z = true) (w2 : (Cond.native Jvm.Stand.acN).before a0 Z = true) (w3 : (Cond.static Jvm.Stand.acN).before a0 Z = true) (w4 : (Cond.initialized "java/lang/System").before a0 Z = true)
    (hμ : μ a = some (.inr (ty, vs))) (hν : μ b = some (.inr (ty, ws))) (hr : refKind ty = false) (gb : n0 ≤ b) (h1 : ¬ sp < 0) (h2 : ¬ dp < 0) (h3 : ¬ nn < 0) (h4 : sp.toNatClampNeg + nn.toNatClampNeg ≤ vs.length) (h5 : dp.toNatClampNeg + nn.toNatClampNeg ≤ ws.length)
    (hus : us = ws.take dp.toNatClampNeg ++ ((List.range nn.toNatClampNeg).map fun i => vs.getD (sp.toNatClampNeg + i) .null) ++ ws.drop (dp.toNatClampNeg + nn.toNatClampNeg))
    (hsz : L.size = ml) (hf : 1 ≤ R.frames) (hW : 2 * 0 + (st.map fun v => v.category).sum ≤ W) (hlo : W + (nativeFrameWords "java/lang/System" "arraycopy" 5 + 11) ≤ R.locals)
    (k' : Go p l e R s m args below meth c Z n0 P kc ks (upd μ b (.inr (ty, us))) k n (mkF m q L st)) : Go p l e R s m args below meth c Z n0 P kc ks μ k n (mkF m pc L (.int nn :: .int dp :: .ref b :: .int sp :: .ref a :: st)) := by
  subst hq
  intro T locs X F H
  obtain ⟨ka, Aa⟩ := arv_of (dv := .null) (H.2 a _ hμ)
  obtain ⟨kb, Ab⟩ := arv_of (dv := .null) (H.2 b _ hν)
  obtain ⟨-, -, -, hlv, -⟩ := H.2 a _ hμ
  obtain ⟨-, -, -, hlw, -⟩ := H.2 b _ hν
  have tn : ∀ {x : List Value}, x.length < 2 ^ 31 → (Int32.ofNat x.length).toNatClampNeg = x.length := fun hx => by simp only [Int32.toNatClampNeg, Int32.toInt_ofNat_small hx]; rfl
  obtain ⟨T', h', L2, X', e', F', K, A', stp⟩ := cpA X C.1 C.2.2.2.1 C.2.2.2.2.1 w1 w2 w3 w4 rfl Aa Ab (Or.inl ⟨rfl, hr⟩) h1 h2 h3 (by rw [tn hlv]; exact h4) (by rw [tn hlw]; exact h5) rfl h5 F gb (g := mkF m pc L (.int nn :: .int dp :: .ref b :: .int sp :: .ref a :: st)) rfl (hsz.trans C.2.2.1.symm) rfl (hb C.2.1 hd) hf hW hlo
  rw [← hus] at A'
  have hl' : us.length = ws.length := by rw [hus]; simp only [List.length_append, List.length_take, List.length_map, List.length_range, List.length_drop]; omega
  obtain ⟨s2, o, g1, g2⟩ := k' T' _ X' F' (by
    rw [e']
    refine ⟨H.1.keep K (fun x hx => by cases List.mem_singleton.mp hx; exact gb), fun x ob hx => ?_⟩
    by_cases e : x = b
    · subst e; rw [upd_same] at hx; cases hx
      obtain ⟨c', A1, -, S1, -, H1, G1⟩ := A'
      have S2 : c'.slots.size = ws.length := S1.trans (tn (x := ws) hlw)
      clear S1
      have el : c'.slots.toList = us := by
        apply List.ext_getElem?
        intro j
        rw [Array.getElem?_toList]
        by_cases hj : j < c'.slots.size
        · rw [H1 j hj, List.getD_eq_getElem?_getD, List.getElem?_eq_getElem (by omega)]; rfl
        · rw [Array.getElem?_eq_none (by omega), List.getElem?_eq_none (by omega)]
      refine ⟨c', A1, el, by rw [hl']; exact hlw, fun v hv => ?_, fun _ K' hK => ?_⟩
      · obtain ⟨j, hj, rfl⟩ := List.mem_iff_getElem.mp hv
        have hj' : j < us.length := hj
        have := G1 j (by omega); rw [List.getD_eq_getElem?_getD, List.getElem?_eq_getElem hj'] at this; exact this
      · have hK : ty = .object K' := hK
        subst hK; cases hr
    · rw [upd_ne e] at hx; exact (H.2 x ob hx).keep K e)
  exact ⟨s2, o, stp _ g1, g2⟩
end Copy
end Jvm.Own
namespace Jvm.Pilot.@@N@@
open Jvm Jvm.ClassFile Sem Op Lib Jvm.Free Jvm.Stand Jvm.LawKit Jvm.RoadKit Bundle Jvm.Own Jvm.Pilot.@@N@@.Jvm.D
abbrev o_BW (v0 : Value) (v1 : Value) (v2 : Value) (v3 : Value) : Obj := .inl ("com/example/thin_index/thinindex/BitWriter", [(("com/example/thin_index/thinindex/BitWriter", "bytes", "[B"), v0), (("com/example/thin_index/thinindex/BitWriter", "pending", "J"), v1), (("com/example/thin_index/thinindex/BitWriter", "pendingCount", "I"), v2), (("com/example/thin_index/thinindex/BitWriter", "byteCount", "I"), v3)])
theorem lay_BW {Z : State} {a0 : Array Value} (hw : ∀ d ∈ tables_1, d.before a0 Z = true) : AllLaid Z a0 "com/example/thin_index/thinindex/BitWriter" [(("com/example/thin_index/thinindex/BitWriter", "bytes", "[B"), .null), (("com/example/thin_index/thinindex/BitWriter", "pending", "J"), (.long (0 : Int64))), (("com/example/thin_index/thinindex/BitWriter", "pendingCount", "I"), (.int (0 : Int32))), (("com/example/thin_index/thinindex/BitWriter", "byteCount", "I"), (.int (0 : Int32)))] := ⟨⟨(.array .byte), Or.inl (hw _ (List.mem_of_getElem? (i := 16) rfl)), by decide +kernel, rfl⟩, ⟨.long, Or.inl (hw _ (List.mem_of_getElem? (i := 23) rfl)), by decide +kernel, rfl⟩, ⟨.int, Or.inl (hw _ (List.mem_of_getElem? (i := 25) rfl)), by decide +kernel, rfl⟩, ⟨.int, Or.inl (hw _ (List.mem_of_getElem? (i := 32) rfl)), by decide +kernel, rfl⟩, trivial⟩
def bit (x : Int64) (k : Nat) : Bool := x.toBitVec.getLsbD k
def bit32 (x : Int32) (k : Nat) : Bool := x.toBitVec.getLsbD k
theorem shamt : ∀ k : Fin 64, ((Int32.ofNat k.val &&& 0x3f).toInt64.toBitVec.smod 64).toNat = k.val ∧ ((Int32.ofNat k.val &&& 0x3f).toInt64.toUInt64.toBitVec % 64).toNat = k.val := by decide +kernel
theorem asNat {y : Int32} (h : 0 ≤ y.toInt) : Int32.ofNat y.toInt.toNat = y := by
  have := rng32 y
  apply Int32.toInt_inj.mp; rw [Int32.toInt_ofNat_small (by omega)]; omega
theorem bit_shl (x : Int64) (y : Int32) (n : Nat) (h : y.toInt = n) (hn : n < 64) (k : Nat) : bit (x <<< (y &&& 0x3f).toInt64) k = (decide (k < 64) && !decide (k < n) && bit x (k - n)) := by
  have e := (shamt ⟨n, hn⟩).1
  have ey : Int32.ofNat n = y := by have := asNat (y := y) (by omega); rw [h] at this; simpa using this
  simp only [ey] at e
  unfold bit
  rw [Int64.toBitVec_shiftLeft, BitVec.shiftLeft_eq', e, BitVec.getLsbD_shiftLeft]
theorem bit_ushr (x : Int64) (y : Int32) (n : Nat) (h : y.toInt = n) (hn : n < 64) (k : Nat) : bit (x.toUInt64 >>> (y &&& 0x3f).toInt64.toUInt64).toInt64 k = bit x (n + k) := by
  have e := (shamt ⟨n, hn⟩).2
  have ey : Int32.ofNat n = y := by have := asNat (y := y) (by omega); rw [h] at this; simpa using this
  simp only [ey] at e
  unfold bit
  rw [UInt64.toBitVec_toInt64, UInt64.toBitVec_shiftRight, BitVec.ushiftRight_eq', e, BitVec.getLsbD_ushiftRight]
  rfl
theorem bit_or (x y : Int64) (k : Nat) : bit (x ||| y) k = (bit x k || bit y k) := by unfold bit; rw [Int64.toBitVec_or, BitVec.getLsbD_or]
theorem bit_and (x y : Int64) (k : Nat) : bit (x &&& y) k = (bit x k && bit y k) := by unfold bit; rw [Int64.toBitVec_and, BitVec.getLsbD_and]
theorem bit_i2l (x : Int32) (k : Nat) (h : k < 32) : bit x.toInt64 k = bit32 x k := by unfold bit bit32; rw [Int32.toBitVec_toInt64, BitVec.getLsbD_signExtend]; simp [h, Nat.lt_trans h (by decide : 32 < 64)]
theorem bit_l2i (x : Int64) (k : Nat) (h : k < 32) : bit32 x.toInt32 k = bit x k := by unfold bit bit32; rw [Int64.toBitVec_toInt32, BitVec.getLsbD_signExtend]; simp [h, Nat.lt_trans h (by decide : 32 < 64)]
theorem bit_i2b (x : Int32) (k : Nat) (h : k < 8) : bit32 x.toInt8.toInt32 k = bit32 x k := by unfold bit32; rw [Int8.toBitVec_toInt32, BitVec.getLsbD_signExtend, Int32.toBitVec_toInt8, BitVec.getLsbD_signExtend]; simp [h, Nat.lt_trans h (by decide : 8 < 32)]
theorem mask : ∀ c : Fin 33, ∀ k : Fin 64, bit (((1 : Int64) <<< (Int32.ofNat c.val &&& 0x3f).toInt64) - 1) k.val = decide (k.val < c.val) := by decide +kernel
theorem bit_hi (x : Int64) (k : Nat) (h : 64 ≤ k) : bit x k = false := BitVec.getLsbD_of_ge _ _ h
theorem bit_z (k : Nat) : bit 0 k = false := by unfold bit; simp
theorem byte_eq {x y : Int32} (hx : x.toInt8.toInt32 = x) (hy : y.toInt8.toInt32 = y) (h : ∀ k, k < 8 → bit32 x k = bit32 y k) : x = y := by
  rw [← hx, ← hy]
  have : x.toInt8 = y.toInt8 := by
    apply Int8.toBitVec_inj.mp
    apply BitVec.eq_of_getLsbD_eq
    intro i hi
    rw [Int32.toBitVec_toInt8, Int32.toBitVec_toInt8, BitVec.getLsbD_signExtend, BitVec.getLsbD_signExtend]
    rw [if_pos (by omega), if_pos (by omega)]; have := h i hi; unfold bit32 at this; rw [this]
  rw [this]
theorem bit_mask (y : Int32) (c : Nat) (h : y.toInt = c) (hc : c ≤ 32) (k : Nat) (hk : k < 64) : bit (((1 : Int64) <<< (y &&& 0x3f).toInt64) - 1) k = decide (k < c) := by
  have e := mask ⟨c, by omega⟩ ⟨k, hk⟩
  have ey : Int32.ofNat c = y := by have := asNat (y := y) (by omega); rw [h] at this; simpa using this
  simpa only [ey] using e
/-- the stream with c bits of v behind its first T -/
def app (S : Nat → Bool) (T : Nat) (v : Int32) (c : Nat) (j : Nat) : Bool := if j < T then S j else bit32 v (T + c - 1 - j)
def Bt (S : Nat → Bool) (i : Nat) (b : Int32) : Prop := b.toInt8.toInt32 = b ∧ ∀ k, k < 8 → bit32 b k = S (8 * i + 7 - k)
theorem pend {pd z6 z8 z11 z13 z14 z15 : Int64} {v cn : Int32} {c pc T : Nat} {S : Nat → Bool} (hc : cn.toInt = c) (hc' : c ≤ 32) (hpc : pc < 8) (hT : pc ≤ T) (hp : ∀ k, k < pc → bit pd k = S (T - 1 - k))
    (e6 : z6 = pd <<< (cn &&& 0x3f).toInt64) (e8 : z8 = v.toInt64) (e11 : z11 = 1 <<< (cn &&& 0x3f).toInt64) (e13 : z13 = z11 - 1) (e14 : z14 = z8 &&& z13) (e15 : z15 = z6 ||| z14) :
    ∀ k, k < pc + c → bit z15 k = app S T v c (T + c - 1 - k) := by
  intro k hk
  subst e15; subst e14; subst e13; subst e11; subst e8; subst e6
  rw [bit_or, bit_and, bit_shl _ _ c hc (by omega), bit_mask _ c hc hc' k (by omega)]
  unfold app
  by_cases h : k < c
  · rw [if_neg (by omega), bit_i2l _ _ (by omega), show T + c - 1 - (T + c - 1 - k) = k by omega]
    simp [h]
  · rw [if_pos (by omega)]
    simp only [h, decide_false, Bool.and_false, Bool.or_false, Bool.not_false, Bool.and_true, show k < 64 by omega, decide_true, Bool.true_and]
    rw [hp (k - c) (by omega)]; congr 1; omega
theorem outb {z15 z102 : Int64} {z103 z104 p2 : Int32} {S : Nat → Bool} {n T i w : Nat} (hS : ∀ k, k < w → bit z15 k = S (T - 1 - k)) (hn : p2.toInt = n) (hw : n + 8 ≤ w) (hw' : w ≤ 40) (hT : T = 8 * i + n + 8)
    (e102 : z102 = (z15.toUInt64 >>> (p2 &&& 0x3f).toInt64.toUInt64).toInt64) (e103 : z103 = z102.toInt32) (e104 : z104 = z103.toInt8.toInt32) : Bt S i z104.toInt8.toInt32 := by
  subst e104; subst e103; subst e102
  refine ⟨by apply Int32.toInt_inj.mp; have := c_i2b ((z15.toUInt64 >>> (p2 &&& 63).toInt64.toUInt64).toInt64.toInt32.toInt8.toInt32); have := c_i2b ((z15.toUInt64 >>> (p2 &&& 63).toInt64.toUInt64).toInt64.toInt32.toInt8.toInt32).toInt8.toInt32; omega, fun k hk => ?_⟩
  rw [bit_i2b _ _ hk, bit_i2b _ _ hk, bit_l2i _ _ (by omega), bit_ushr _ _ n hn (by omega), hS _ (by omega)]
  congr 1; omega
def ar (n : Nat) (f : Nat → Int32) : List Value := (List.range n).map fun i => Value.int (f i)
theorem ar_len (n : Nat) (f : Nat → Int32) : (ar n f).length = n := by simp [ar]
theorem ar_get {n i : Nat} (f : Nat → Int32) (h : i < n) : (ar n f)[i]? = some (.int (f i)) := by simp [ar, h]
theorem ar_ext {n : Nat} {f g : Nat → Int32} (h : ∀ i, i < n → f i = g i) : ar n f = ar n g := by
  unfold ar; apply List.map_congr_left; intro i hi; rw [h i (List.mem_range.mp hi)]
theorem ar_set {n j : Nat} (f : Nat → Int32) (v : Int32) : (ar n f).set j (.int v) = ar n (fun i => if i = j then v else f i) := by
  apply List.ext_getElem?
  intro i
  by_cases hi : i < n
  · rw [ar_get _ hi, List.getElem?_set]
    by_cases e : j = i
    · subst e; simp [ar_len, hi]
    · rw [if_neg e, ar_get _ hi, if_neg (fun q => e q.symm)]
  · rw [List.getElem?_eq_none (by rw [List.length_set, ar_len]; omega), List.getElem?_eq_none (by rw [ar_len]; omega)]
theorem ar_zero (n : Nat) : List.replicate n (Value.int 0) = ar n (fun _ => 0) := by
  apply List.ext_getElem?; intro i
  by_cases hi : i < n
  · rw [ar_get _ hi]; simp [hi]
  · rw [List.getElem?_eq_none (by simp; omega), List.getElem?_eq_none (by rw [ar_len]; omega)]
theorem ar_copy {n : Nat} (g : Nat → Int32) (hn : n ≤ 64) : ar n g = (ar n (fun _ => 0)).take 0 ++ ((List.range n).map fun i => (ar 64 g).getD (0 + i) .null) ++ (ar n (fun _ => 0)).drop (0 + n) := by
  rw [List.take_zero, List.drop_of_length_le (by rw [ar_len]; omega), List.nil_append, List.append_nil]
  unfold ar; apply List.map_congr_left; intro i hi
  have hi := List.mem_range.mp hi
  have := ar_get (n := 64) g (i := 0 + i) (by omega)
  rw [List.getD_eq_getElem?_getD, show List.map (fun i => Value.int (g i)) (List.range 64) = ar 64 g from rfl, this, Nat.zero_add]; rfl
theorem tn {x : Int32} {n : Nat} (h : x.toInt = n) : x.toNatClampNeg = n := by simp only [Int32.toNatClampNeg]; omega
theorem nneg {x : Int32} {n : Nat} (h : x.toInt = n) : ¬ x < 0 := by rw [Int32.lt_iff_toInt_lt, show (0 : Int32).toInt = 0 from rfl]; omega
def mn' (x y : Int32) : Int32 := if y < x then y else x
theorem bt_app {S : Nat → Bool} {T c i : Nat} {v b : Int32} (h : Bt S i b) (hi : 8 * i + 8 ≤ T) : Bt (app S T v c) i b := ⟨h.1, fun k hk => by rw [h.2 k hk]; unfold app; rw [if_pos (by omega)]⟩
def cutS (S : Nat → Bool) (T j : Nat) : Bool := if j < T then S j else false
theorem bt_cut {S : Nat → Bool} {T i : Nat} {b : Int32} (h : Bt S i b) (hi : 8 * i + 8 ≤ T) : Bt (cutS S T) i b := ⟨h.1, fun k hk => by rw [h.2 k hk]; unfold cutS; rw [if_pos (by omega)]⟩
theorem lastb {pd z48 : Int64} {z47 z49 z50 pc : Int32} {S : Nat → Bool} {B Pc : Nat} (hp : pc.toInt = Pc) (h0 : 0 < Pc) (h8 : Pc < 8) (hS : ∀ k, k < Pc → bit pd k = S (8 * B + Pc - 1 - k)) (e47 : z47 = 8 - pc) (e48 : z48 = pd <<< (z47 &&& 0x3f).toInt64) (e49 : z49 = z48.toInt32) (e50 : z50 = z49.toInt8.toInt32) : Bt (cutS S (8 * B + Pc)) B z50.toInt8.toInt32 := by
  have h47 : z47.toInt = ((8 - Pc : Nat) : Int) := by have o := c_isub 8 pc; rw [← e47] at o; have := rng32 z47; simp only [show (8 : Int32).toInt = 8 from rfl] at o; omega
  subst e50; subst e49; subst e48
  refine ⟨by apply Int32.toInt_inj.mp; have := c_i2b ((pd <<< (z47 &&& 0x3f).toInt64).toInt32.toInt8.toInt32); have := c_i2b ((pd <<< (z47 &&& 0x3f).toInt64).toInt32.toInt8.toInt32).toInt8.toInt32; omega, fun k hk => ?_⟩
  rw [bit_i2b _ _ hk, bit_i2b _ _ hk, bit_l2i _ _ (by omega), bit_shl _ _ _ h47 (by omega)]
  unfold cutS
  by_cases h : k < 8 - Pc
  · rw [if_neg (by omega)]; simp [h]
  · rw [if_pos (by omega), hS _ (by omega)]
    simp only [h, show k < 64 by omega, decide_true, decide_false, Bool.not_false, Bool.and_true, Bool.true_and]
    congr 1; omega
abbrev rm_1 : Room := { frames := 0, cells := 0, slots := 0, locals := 0 }
theorem d1_0 : decode jdk_29_method_69_code 0 = .ok (.iload_n 0, 1) := by decide +kernel
theorem d1_1 : decode jdk_29_method_69_code 1 = .ok (.iload_n 1, 1) := by decide +kernel
theorem d1_2 : decode jdk_29_method_69_code 2 = .ok (.if_icmp .gt 7, 3) := by decide +kernel
theorem d1_5 : decode jdk_29_method_69_code 5 = .ok (.iload_n 0, 1) := by decide +kernel
theorem d1_6 : decode jdk_29_method_69_code 6 = .ok (.goto 4, 3) := by decide +kernel
theorem d1_9 : decode jdk_29_method_69_code 9 = .ok (.iload_n 1, 1) := by decide +kernel
theorem d1_10 : decode jdk_29_method_69_code 10 = .ok (.ireturn, 1) := by decide +kernel
set_option maxRecDepth 65536 in
set_option maxHeartbeats 4000000 in
theorem c_min (l : Launch) (Z : State) (a0 : Array Value) (hw : ∀ d ∈ tables_1, d.before a0 Z = true) (n0 : Nat) (μ : Mem) (x : Int32) (y : Int32)  :
    Con l Z n0 (⟨"java/lang/Math", "min", "(II)I"⟩ : MethodName) jdk_29_method_69_code 2 (some .int) [] rm_1 rm_1.cells rm_1.slots #[(.int x), (.int y)] μ (RI fun z μ' => μ' = μ ∧ z = mn' x y) := by
  refine Con.intro (L0 := #[.val (.int x), .val (.int y)]) (Jvm.Free.JP.mathPlain rfl (by decide +kernel)) (fun m => by first | (simp [entryFrame, mkF, argsToLocals, Value.category]; done) | rfl) ?_
  intro p e s m below meth c C
  have C : Ctx p s m meth c Z "java/lang/Math" "min" jdk_29_method_69_code 2 (some .int) := C
  refine Own.iloadN C d1_0 (q := 1) rfl rfl ?_
  refine Own.iloadN C d1_1 (q := 2) rfl rfl ?_
  refine Own.icmp_gt C d1_2 (q := 5) rfl (r := 9) (by decide) (fun h2 => ?_) (fun h2 => ?_)
  · refine Own.iloadN C d1_9 (q := 10) rfl rfl ?_
    refine Own.ireturn C d1_10 (by decide) (by decide) ?_
    exact ⟨_, rfl, rfl, by simp [mn', h2]⟩
  · refine Own.iloadN C d1_5 (q := 6) rfl rfl ?_
    refine Own.goto C d1_6 (q := 10) (by decide) ?_
    refine Own.ireturn C d1_10 (by decide) (by decide) ?_
    exact ⟨_, rfl, rfl, by simp [mn', h2]⟩
abbrev rm_2 : Room := { frames := 1, cells := 1, slots := 64, locals := 12 }
theorem d2_0 : decode prog_4_method_1_code 0 = .ok (.aload_n 0, 1) := by decide +kernel
theorem d2_1 : decode prog_4_method_1_code 1 = .ok (.invokespecial 1, 3) := by decide +kernel
theorem d2_4 : decode prog_4_method_1_code 4 = .ok (.aload_n 0, 1) := by decide +kernel
theorem d2_5 : decode prog_4_method_1_code 5 = .ok (.bipush 64, 2) := by decide +kernel
theorem d2_7 : decode prog_4_method_1_code 7 = .ok (.newarray .byte, 2) := by decide +kernel
theorem d2_9 : decode prog_4_method_1_code 9 = .ok (.putfield 7, 3) := by decide +kernel
theorem d2_12 : decode prog_4_method_1_code 12 = .ok (.return_, 1) := by decide +kernel
set_option maxRecDepth 65536 in
set_option maxHeartbeats 4000000 in
theorem c_init (l : Launch) (Z : State) (a0 : Array Value) (hw : ∀ d ∈ tables_1, d.before a0 Z = true) (n0 : Nat) (μ : Mem) (a : Addr) (hμ : μ a = some (o_BW .null (.long (0 : Int64)) (.int (0 : Int32)) (.int (0 : Int32)))) (ga : n0 ≤ a) :
    Con l Z n0 (⟨"com/example/thin_index/thinindex/BitWriter", "<init>", "()V"⟩ : MethodName) prog_4_method_1_code 1 none [] rm_2 rm_2.cells rm_2.slots #[(.ref a)] μ (RV fun μ' => ∃ q, n0 ≤ q ∧ (∀ b o, μ b = some o → b ≠ q) ∧ μ' = upd (upd μ a (o_BW (.ref q) (.long (0 : Int64)) (.int (0 : Int32)) (.int (0 : Int32)))) q (.inr (.byte, (ar 64 (fun _ => 0))))) := by
  refine Con.intro (L0 := #[.val (.ref a)]) (plainFor_of_name (by first | (simp [plainName, overriddenIn]; done) | decide +kernel)) (fun m => by first | (simp [entryFrame, mkF, argsToLocals, Value.category]; done) | rfl) ?_
  intro p e s m below meth c C
  have C : Ctx p s m meth c Z "com/example/thin_index/thinindex/BitWriter" "<init>" prog_4_method_1_code 1 none := C
  refine Own.aloadN C d2_0 (q := 1) rfl rfl rfl ?_
  refine Own.initObj C d2_1 (q := 4) rfl (hw _ (List.mem_of_getElem? (i := 11) rfl)) (hw _ (List.mem_of_getElem? (i := 12) rfl)) (hw _ (List.mem_of_getElem? (i := 13) rfl)) rfl (by decide) (W := 0) (Nat.le_of_eq rfl) (by decide) ?_
  refine Own.aloadN C d2_4 (q := 5) rfl rfl rfl ?_
  refine Own.bipush C d2_5 (q := 7) rfl (z := 64) (by decide) ?_
  refine Own.newArr C d2_7 (q := 9) rfl (ty := .byte) rfl (hw _ (List.mem_of_getElem? (i := 14) rfl)) (by decide) (cap := 64) (by decide) (by decide) (vs := [(.int (0 : Int32)), (.int (0 : Int32)), (.int (0 : Int32)), (.int (0 : Int32)), (.int (0 : Int32)), (.int (0 : Int32)), (.int (0 : Int32)), (.int (0 : Int32)), (.int (0 : Int32)), (.int (0 : Int32)), (.int (0 : Int32)), (.int (0 : Int32)), (.int (0 : Int32)), (.int (0 : Int32)), (.int (0 : Int32)), (.int (0 : Int32)), (.int (0 : Int32)), (.int (0 : Int32)), (.int (0 : Int32)), (.int (0 : Int32)), (.int (0 : Int32)), (.int (0 : Int32)), (.int (0 : Int32)), (.int (0 : Int32)), (.int (0 : Int32)), (.int (0 : Int32)), (.int (0 : Int32)), (.int (0 : Int32)), (.int (0 : Int32)), (.int (0 : Int32)), (.int (0 : Int32)), (.int (0 : Int32)), (.int (0 : Int32)), (.int (0 : Int32)), (.int (0 : Int32)), (.int (0 : Int32)), (.int (0 : Int32)), (.int (0 : Int32)), (.int (0 : Int32)), (.int (0 : Int32)), (.int (0 : Int32)), (.int (0 : Int32)), (.int (0 : Int32)), (.int (0 : Int32)), (.int (0 : Int32)), (.int (0 : Int32)), (.int (0 : Int32)), (.int (0 : Int32)), (.int (0 : Int32)), (.int (0 : Int32)), (.int (0 : Int32)), (.int (0 : Int32)), (.int (0 : Int32)), (.int (0 : Int32)), (.int (0 : Int32)), (.int (0 : Int32)), (.int (0 : Int32)), (.int (0 : Int32)), (.int (0 : Int32)), (.int (0 : Int32)), (.int (0 : Int32)), (.int (0 : Int32)), (.int (0 : Int32)), (.int (0 : Int32))]) rfl (by decide) (by decide) fun a7 a7_f a7_g => ?_
  have ne_a_a7 := a7_f _ _ hμ
  refine Own.putfield C d2_9 (q := 12) rfl (host := "") (Or.inl (hw _ (List.mem_of_getElem? (i := 15) rfl))) Via.refl (Or.inl (hw _ (List.mem_of_getElem? (i := 16) rfl))) (hw _ (List.mem_of_getElem? (i := 6) rfl)) (ty := (.array .byte)) (by decide) rfl rfl (upd_at ne_a_a7 hμ) (j := 0) rfl (fs' := [(("com/example/thin_index/thinindex/BitWriter", "bytes", "[B"), (.ref a7)), (("com/example/thin_index/thinindex/BitWriter", "pending", "J"), (.long (0 : Int64))), (("com/example/thin_index/thinindex/BitWriter", "pendingCount", "I"), (.int (0 : Int32))), (("com/example/thin_index/thinindex/BitWriter", "byteCount", "I"), (.int (0 : Int32)))]) rfl ga (mem rfl ?_)
  refine Own.vreturn C d2_12 (by decide) (by decide) ?_
  exact ⟨rfl, _, a7_g, a7_f, (upd_in rfl ne_a_a7).symm⟩
abbrev rm_7 : Room := { frames := 0, cells := 0, slots := 0, locals := 0 }
theorem d7_0 : decode prog_4_method_3_code 0 = .ok (.aload_n 0, 1) := by decide +kernel
theorem d7_1 : decode prog_4_method_3_code 1 = .ok (.getfield 23, 3) := by decide +kernel
theorem d7_4 : decode prog_4_method_3_code 4 = .ok (.i2l, 1) := by decide +kernel
theorem d7_5 : decode prog_4_method_3_code 5 = .ok (.ldc2_w 32, 3) := by decide +kernel
theorem d7_8 : decode prog_4_method_3_code 8 = .ok (.lmul, 1) := by decide +kernel
theorem d7_9 : decode prog_4_method_3_code 9 = .ok (.aload_n 0, 1) := by decide +kernel
theorem d7_10 : decode prog_4_method_3_code 10 = .ok (.getfield 17, 3) := by decide +kernel
theorem d7_13 : decode prog_4_method_3_code 13 = .ok (.i2l, 1) := by decide +kernel
theorem d7_14 : decode prog_4_method_3_code 14 = .ok (.ladd, 1) := by decide +kernel
theorem d7_15 : decode prog_4_method_3_code 15 = .ok (.lreturn, 1) := by decide +kernel
set_option maxRecDepth 65536 in
set_option maxHeartbeats 4000000 in
theorem c_bits (l : Launch) (Z : State) (a0 : Array Value) (hw : ∀ d ∈ tables_1, d.before a0 Z = true) (n0 : Nat) (μ : Mem) (a : Addr) (q : Value) (bc pc : Int32) (pd : Int64) (hμ : μ a = some (o_BW q (.long pd) (.int pc) (.int bc))) :
    Con l Z n0 (⟨"com/example/thin_index/thinindex/BitWriter", "bitCount", "()J"⟩ : MethodName) prog_4_method_3_code 1 (some .long) [] rm_7 rm_7.cells rm_7.slots #[(.ref a)] μ (RJ fun z μ' => μ' = μ ∧ z.toInt = 8 * bc.toInt + pc.toInt) := by
  refine Con.intro (L0 := #[.val (.ref a)]) (plainFor_of_name (by first | (simp [plainName, overriddenIn]; done) | decide +kernel)) (fun m => by first | (simp [entryFrame, mkF, argsToLocals, Value.category]; done) | rfl) ?_
  intro p e s m below meth c C
  have C : Ctx p s m meth c Z "com/example/thin_index/thinindex/BitWriter" "bitCount" prog_4_method_3_code 1 (some .long) := C
  refine Own.aloadN C d7_0 (q := 1) rfl rfl rfl ?_
  refine Own.getfield C d7_1 (q := 4) rfl (host := "") (Or.inl (hw _ (List.mem_of_getElem? (i := 31) rfl))) Via.refl hμ (j := 3) rfl ?_
  refine Own.i2l C d7_4 (q := 5) rfl fun z4 e4 => ?_
  refine Own.ldcJ C d7_5 (q := 8) rfl (hw _ (List.mem_of_getElem? (i := 47) rfl)) ?_
  refine Own.lmul C d7_8 (q := 9) rfl fun z8 e8 => ?_
  refine Own.aloadN C d7_9 (q := 10) rfl rfl rfl ?_
  refine Own.getfield C d7_10 (q := 13) rfl (host := "") (Or.inl (hw _ (List.mem_of_getElem? (i := 24) rfl))) Via.refl hμ (j := 2) rfl ?_
  refine Own.i2l C d7_13 (q := 14) rfl fun z13 e13 => ?_
  refine Own.ladd C d7_14 (q := 15) rfl fun z14 e14 => ?_
  refine Own.lreturn C d7_15 (by decide) (by decide) ?_
  refine ⟨_, rfl, rfl, ?_⟩
  have o1 := c_i2l bc; rw [← e4] at o1; have o2 := c_lmul z4 8; rw [← e8] at o2; have o3 := c_i2l pc; rw [← e13] at o3; have o4 := c_ladd z8 z13; rw [← e14] at o4
  have := rng32 bc; have := rng32 pc; have := rng64 z8; have := rng64 z14
  simp only [show (8 : Int64).toInt = 8 from rfl] at o2
  omega
abbrev rm_4 : Room := { frames := 0, cells := 0, slots := 0, locals := 0 }
theorem d4_0 : decode prog_4_method_2_code 0 = .ok (.aload_n 0, 1) := by decide +kernel
theorem d4_1 : decode prog_4_method_2_code 1 = .ok (.aload_n 0, 1) := by decide +kernel
theorem d4_2 : decode prog_4_method_2_code 2 = .ok (.getfield 13, 3) := by decide +kernel
theorem d4_5 : decode prog_4_method_2_code 5 = .ok (.iload_n 2, 1) := by decide +kernel
theorem d4_6 : decode prog_4_method_2_code 6 = .ok (.lshl, 1) := by decide +kernel
theorem d4_7 : decode prog_4_method_2_code 7 = .ok (.iload_n 1, 1) := by decide +kernel
theorem d4_8 : decode prog_4_method_2_code 8 = .ok (.i2l, 1) := by decide +kernel
theorem d4_9 : decode prog_4_method_2_code 9 = .ok (.lconst 1, 1) := by decide +kernel
theorem d4_10 : decode prog_4_method_2_code 10 = .ok (.iload_n 2, 1) := by decide +kernel
theorem d4_11 : decode prog_4_method_2_code 11 = .ok (.lshl, 1) := by decide +kernel
theorem d4_12 : decode prog_4_method_2_code 12 = .ok (.lconst 1, 1) := by decide +kernel
theorem d4_13 : decode prog_4_method_2_code 13 = .ok (.lsub, 1) := by decide +kernel
theorem d4_14 : decode prog_4_method_2_code 14 = .ok (.land, 1) := by decide +kernel
theorem d4_15 : decode prog_4_method_2_code 15 = .ok (.lor, 1) := by decide +kernel
theorem d4_16 : decode prog_4_method_2_code 16 = .ok (.putfield 13, 3) := by decide +kernel
theorem d4_19 : decode prog_4_method_2_code 19 = .ok (.aload_n 0, 1) := by decide +kernel
theorem d4_20 : decode prog_4_method_2_code 20 = .ok (.dup, 1) := by decide +kernel
theorem d4_21 : decode prog_4_method_2_code 21 = .ok (.getfield 17, 3) := by decide +kernel
theorem d4_24 : decode prog_4_method_2_code 24 = .ok (.iload_n 2, 1) := by decide +kernel
theorem d4_25 : decode prog_4_method_2_code 25 = .ok (.iadd, 1) := by decide +kernel
theorem d4_26 : decode prog_4_method_2_code 26 = .ok (.putfield 17, 3) := by decide +kernel
theorem d4_29 : decode prog_4_method_2_code 29 = .ok (.aload_n 0, 1) := by decide +kernel
theorem d4_30 : decode prog_4_method_2_code 30 = .ok (.getfield 17, 3) := by decide +kernel
theorem d4_33 : decode prog_4_method_2_code 33 = .ok (.bipush 8, 2) := by decide +kernel
theorem d4_35 : decode prog_4_method_2_code 35 = .ok (.if_icmp .lt 74, 3) := by decide +kernel
theorem d4_38 : decode prog_4_method_2_code 38 = .ok (.aload_n 0, 1) := by decide +kernel
theorem d4_39 : decode prog_4_method_2_code 39 = .ok (.dup, 1) := by decide +kernel
theorem d4_40 : decode prog_4_method_2_code 40 = .ok (.getfield 17, 3) := by decide +kernel
theorem d4_43 : decode prog_4_method_2_code 43 = .ok (.bipush 8, 2) := by decide +kernel
theorem d4_45 : decode prog_4_method_2_code 45 = .ok (.isub, 1) := by decide +kernel
theorem d4_46 : decode prog_4_method_2_code 46 = .ok (.putfield 17, 3) := by decide +kernel
theorem d4_49 : decode prog_4_method_2_code 49 = .ok (.aload_n 0, 1) := by decide +kernel
theorem d4_50 : decode prog_4_method_2_code 50 = .ok (.getfield 23, 3) := by decide +kernel
theorem d4_53 : decode prog_4_method_2_code 53 = .ok (.aload_n 0, 1) := by decide +kernel
theorem d4_54 : decode prog_4_method_2_code 54 = .ok (.getfield 7, 3) := by decide +kernel
theorem d4_57 : decode prog_4_method_2_code 57 = .ok (.arraylength, 1) := by decide +kernel
theorem d4_58 : decode prog_4_method_2_code 58 = .ok (.if_icmp .ne 21, 3) := by decide +kernel
theorem d4_79 : decode prog_4_method_2_code 79 = .ok (.aload_n 0, 1) := by decide +kernel
theorem d4_80 : decode prog_4_method_2_code 80 = .ok (.getfield 7, 3) := by decide +kernel
theorem d4_83 : decode prog_4_method_2_code 83 = .ok (.aload_n 0, 1) := by decide +kernel
theorem d4_84 : decode prog_4_method_2_code 84 = .ok (.dup, 1) := by decide +kernel
theorem d4_85 : decode prog_4_method_2_code 85 = .ok (.getfield 23, 3) := by decide +kernel
theorem d4_88 : decode prog_4_method_2_code 88 = .ok (.dup_x1, 1) := by decide +kernel
theorem d4_89 : decode prog_4_method_2_code 89 = .ok (.iconst 1, 1) := by decide +kernel
theorem d4_90 : decode prog_4_method_2_code 90 = .ok (.iadd, 1) := by decide +kernel
theorem d4_91 : decode prog_4_method_2_code 91 = .ok (.putfield 23, 3) := by decide +kernel
theorem d4_94 : decode prog_4_method_2_code 94 = .ok (.aload_n 0, 1) := by decide +kernel
theorem d4_95 : decode prog_4_method_2_code 95 = .ok (.getfield 13, 3) := by decide +kernel
theorem d4_98 : decode prog_4_method_2_code 98 = .ok (.aload_n 0, 1) := by decide +kernel
theorem d4_99 : decode prog_4_method_2_code 99 = .ok (.getfield 17, 3) := by decide +kernel
theorem d4_102 : decode prog_4_method_2_code 102 = .ok (.lushr, 1) := by decide +kernel
theorem d4_103 : decode prog_4_method_2_code 103 = .ok (.l2i, 1) := by decide +kernel
theorem d4_104 : decode prog_4_method_2_code 104 = .ok (.i2b, 1) := by decide +kernel
theorem d4_105 : decode prog_4_method_2_code 105 = .ok (.bastore, 1) := by decide +kernel
theorem d4_106 : decode prog_4_method_2_code 106 = .ok (.goto (-77), 3) := by decide +kernel
theorem d4_109 : decode prog_4_method_2_code 109 = .ok (.return_, 1) := by decide +kernel
set_option maxRecDepth 65536 in
set_option maxHeartbeats 4000000 in
theorem c_write (l : Launch) (Z : State) (a0 : Array Value) (hw : ∀ d ∈ tables_1, d.before a0 Z = true) (n0 : Nat) (μ : Mem) (a : Addr) (v : Int32) (cn : Int32) (q : Addr) (g : Nat → Int32) (bc pc : Int32) (pd : Int64) (S : Nat → Bool) (B Pc c' : Nat) (hμ : μ a = some (o_BW (.ref q) (.long pd) (.int pc) (.int bc))) (hq : μ q = some (.inr (.byte, (ar 64 g)))) (naq : a ≠ q) (ga : n0 ≤ a) (gq : n0 ≤ q) (hbc : bc.toInt = B) (hpc : pc.toInt = Pc) (h8 : Pc < 8) (hcn : cn.toInt = c') (h32 : c' ≤ 32) (hB : 8 * B + Pc + c' ≤ 100) (hp : ∀ k, k < Pc → bit pd k = S (8 * B + Pc - 1 - k)) (hg : ∀ i, i < B → Bt S i (g i)) :
    Con l Z n0 (⟨"com/example/thin_index/thinindex/BitWriter", "write", "(II)V"⟩ : MethodName) prog_4_method_2_code 3 none [] rm_4 rm_4.cells rm_4.slots #[(.ref a), (.int v), (.int cn)] μ (RV fun μ' => ∃ (g' : Nat → Int32) (bc' pc' : Int32) (pd' : Int64) (B' P' : Nat), μ' = upd (upd μ a (o_BW (.ref q) (.long pd') (.int pc') (.int bc'))) q (.inr (.byte, ar 64 g')) ∧ bc'.toInt = B' ∧ pc'.toInt = P' ∧ P' < 8 ∧ 8 * B' + P' = 8 * B + Pc + c' ∧ (∀ k, k < P' → bit pd' k = (app S (8 * B + Pc) v c') (8 * B' + P' - 1 - k)) ∧ (∀ i, i < B' → Bt (app S (8 * B + Pc) v c') i (g' i))) := by
  refine Con.intro (L0 := #[.val (.ref a), .val (.int v), .val (.int cn)]) (plainFor_of_name (by first | (simp [plainName, overriddenIn]; done) | decide +kernel)) (fun m => by first | (simp [entryFrame, mkF, argsToLocals, Value.category]; done) | rfl) ?_
  intro p e s m below meth c C
  have C : Ctx p s m meth c Z "com/example/thin_index/thinindex/BitWriter" "write" prog_4_method_2_code 3 none := C
  refine Own.aloadN C d4_0 (q := 1) rfl rfl rfl ?_
  refine Own.aloadN C d4_1 (q := 2) rfl rfl rfl ?_
  refine Own.getfield C d4_2 (q := 5) rfl (host := "") (Or.inl (hw _ (List.mem_of_getElem? (i := 22) rfl))) Via.refl hμ (j := 1) rfl ?_
  refine Own.iloadN C d4_5 (q := 6) rfl rfl ?_
  refine Own.lshl C d4_6 (q := 7) rfl fun z6 e6 => ?_
  refine Own.iloadN C d4_7 (q := 8) rfl rfl ?_
  refine Own.i2l C d4_8 (q := 9) rfl fun z8 e8 => ?_
  refine Own.lconst C d4_9 (q := 10) rfl (z := 1) (by decide) ?_
  refine Own.iloadN C d4_10 (q := 11) rfl rfl ?_
  refine Own.lshl C d4_11 (q := 12) rfl fun z11 e11 => ?_
  refine Own.lconst C d4_12 (q := 13) rfl (z := 1) (by decide) ?_
  refine Own.lsub C d4_13 (q := 14) rfl fun z13 e13 => ?_
  refine Own.land C d4_14 (q := 15) rfl fun z14 e14 => ?_
  refine Own.lor C d4_15 (q := 16) rfl fun z15 e15 => ?_
  refine Own.putfield C d4_16 (q := 19) rfl (host := "") (Or.inl (hw _ (List.mem_of_getElem? (i := 22) rfl))) Via.refl (Or.inl (hw _ (List.mem_of_getElem? (i := 23) rfl))) (hw _ (List.mem_of_getElem? (i := 6) rfl)) (ty := .long) (by decide) rfl rfl hμ (j := 1) rfl (fs' := [(("com/example/thin_index/thinindex/BitWriter", "bytes", "[B"), (.ref q)), (("com/example/thin_index/thinindex/BitWriter", "pending", "J"), (.long z15)), (("com/example/thin_index/thinindex/BitWriter", "pendingCount", "I"), (.int pc)), (("com/example/thin_index/thinindex/BitWriter", "byteCount", "I"), (.int bc))]) rfl ga (mem rfl ?_)
  refine Own.aloadN C d4_19 (q := 20) rfl rfl rfl ?_
  refine Own.dup C d4_20 (q := 21) rfl rfl ?_
  refine Own.getfield C d4_21 (q := 24) rfl (host := "") (Or.inl (hw _ (List.mem_of_getElem? (i := 24) rfl))) Via.refl upd_same (j := 2) rfl ?_
  refine Own.iloadN C d4_24 (q := 25) rfl rfl ?_
  refine Own.iadd C d4_25 (q := 26) rfl fun z25 e25 => ?_
  refine Own.putfield C d4_26 (q := 29) rfl (host := "") (Or.inl (hw _ (List.mem_of_getElem? (i := 24) rfl))) Via.refl (Or.inl (hw _ (List.mem_of_getElem? (i := 25) rfl))) (hw _ (List.mem_of_getElem? (i := 6) rfl)) (ty := .int) (by decide) rfl rfl upd_same (j := 2) rfl (fs' := [(("com/example/thin_index/thinindex/BitWriter", "bytes", "[B"), (.ref q)), (("com/example/thin_index/thinindex/BitWriter", "pending", "J"), (.long z15)), (("com/example/thin_index/thinindex/BitWriter", "pendingCount", "I"), (.int z25)), (("com/example/thin_index/thinindex/BitWriter", "byteCount", "I"), (.int bc))]) rfl ga (mem upd_upd ?_)
  have hz15 := pend hcn h32 h8 (show Pc ≤ 8 * B + Pc by omega) hp e6 e8 e11 e13 e14 e15
  have J29 : ∀ (N : Nat) (g1 : Nat → Int32) (bc1 pc1 : Int32) (B1 P1 : Nat), bc1.toInt = B1 → pc1.toInt = P1 → 8 * B1 + P1 = 8 * B + Pc + c' → P1 ≤ Pc + c' → (∀ i, i < B1 → Bt (app S (8 * B + Pc) v c') i (g1 i)) → P1 < N → Go p l e rm_4 s m #[(.ref a), (.int v), (.int cn)] below meth c Z n0 (RV fun μ' => ∃ (g' : Nat → Int32) (bc' pc' : Int32) (pd' : Int64) (B' P' : Nat), μ' = upd (upd μ a (o_BW (.ref q) (.long pd') (.int pc') (.int bc'))) q (.inr (.byte, ar 64 g')) ∧ bc'.toInt = B' ∧ pc'.toInt = P' ∧ P' < 8 ∧ 8 * B' + P' = 8 * B + Pc + c' ∧ (∀ k, k < P' → bit pd' k = (app S (8 * B + Pc) v c') (8 * B' + P' - 1 - k)) ∧ (∀ i, i < B' → Bt (app S (8 * B + Pc) v c') i (g' i))) rm_4.cells rm_4.slots (upd (upd μ a (o_BW (.ref q) (.long z15) (.int pc1) (.int bc1))) q (.inr (.byte, (ar 64 g1)))) (0) (0) (mkF m 29 #[.val (.ref a), .val (.int v), .val (.int cn)] []) := by
    intro N
    induction N with
    | zero => intro g1 bc1 pc1 B1 P1 _ _ _ _ _ h; omega
    | succ N ih =>
      intro g1 bc1 pc1 B1 P1 hb1 hp1 ht1 hle hg1 hN
      refine Own.aloadN C d4_29 (q := 30) rfl rfl rfl ?_
      refine Own.getfield C d4_30 (q := 33) rfl (host := "") (Or.inl (hw _ (List.mem_of_getElem? (i := 24) rfl))) Via.refl (upd_at naq upd_same) (j := 2) rfl ?_
      refine Own.bipush C d4_33 (q := 35) rfl (z := 8) (by decide) ?_
      refine Own.icmp_lt C d4_35 (q := 38) rfl (r := 109) (by decide) (fun h35 => ?_) (fun h35 => ?_)
      · refine Own.vreturn C d4_109 (by decide) (by decide) ?_
        refine ⟨rfl, g1, bc1, pc1, _, B1, P1, rfl, hb1, hp1, ?_, ht1, ?_, hg1⟩
        · rw [Int32.lt_iff_toInt_lt, show (8 : Int32).toInt = 8 from rfl] at h35; omega
        · intro k hk; rw [hz15 k (by omega)]; congr 1; omega
      · have hP8 : 8 ≤ P1 := by rw [Int32.lt_iff_toInt_lt, show (8 : Int32).toInt = 8 from rfl] at h35; omega
        refine Own.aloadN C d4_38 (q := 39) rfl rfl rfl ?_
        refine Own.dup C d4_39 (q := 40) rfl rfl ?_
        refine Own.getfield C d4_40 (q := 43) rfl (host := "") (Or.inl (hw _ (List.mem_of_getElem? (i := 24) rfl))) Via.refl (upd_at naq upd_same) (j := 2) rfl ?_
        refine Own.bipush C d4_43 (q := 45) rfl (z := 8) (by decide) ?_
        refine Own.isub C d4_45 (q := 46) rfl fun z45 e45 => ?_
        refine Own.putfield C d4_46 (q := 49) rfl (host := "") (Or.inl (hw _ (List.mem_of_getElem? (i := 24) rfl))) Via.refl (Or.inl (hw _ (List.mem_of_getElem? (i := 25) rfl))) (hw _ (List.mem_of_getElem? (i := 6) rfl)) (ty := .int) (by decide) rfl rfl (upd_at naq upd_same) (j := 2) rfl (fs' := [(("com/example/thin_index/thinindex/BitWriter", "bytes", "[B"), (.ref q)), (("com/example/thin_index/thinindex/BitWriter", "pending", "J"), (.long z15)), (("com/example/thin_index/thinindex/BitWriter", "pendingCount", "I"), (.int z45)), (("com/example/thin_index/thinindex/BitWriter", "byteCount", "I"), (.int bc1))]) rfl ga (mem (upd_in upd_upd (Ne.symm naq)) ?_)
        refine Own.aloadN C d4_49 (q := 50) rfl rfl rfl ?_
        refine Own.getfield C d4_50 (q := 53) rfl (host := "") (Or.inl (hw _ (List.mem_of_getElem? (i := 31) rfl))) Via.refl (upd_at naq upd_same) (j := 3) rfl ?_
        refine Own.aloadN C d4_53 (q := 54) rfl rfl rfl ?_
        refine Own.getfield C d4_54 (q := 57) rfl (host := "") (Or.inl (hw _ (List.mem_of_getElem? (i := 15) rfl))) Via.refl (upd_at naq upd_same) (j := 0) rfl ?_
        refine Own.arraylength C d4_57 (q := 58) rfl upd_same fun z57 e57 e57i => ?_
        refine Own.icmp_ne C d4_58 (q := 61) rfl (r := 79) (by decide) (fun h58 => ?_) (fun h58 => ?_)
        · refine Own.aloadN C d4_79 (q := 80) rfl rfl rfl ?_
          refine Own.getfield C d4_80 (q := 83) rfl (host := "") (Or.inl (hw _ (List.mem_of_getElem? (i := 15) rfl))) Via.refl (upd_at naq upd_same) (j := 0) rfl ?_
          refine Own.aloadN C d4_83 (q := 84) rfl rfl rfl ?_
          refine Own.dup C d4_84 (q := 85) rfl rfl ?_
          refine Own.getfield C d4_85 (q := 88) rfl (host := "") (Or.inl (hw _ (List.mem_of_getElem? (i := 31) rfl))) Via.refl (upd_at naq upd_same) (j := 3) rfl ?_
          refine Own.dupX1 C d4_88 (q := 89) rfl rfl rfl ?_
          refine Own.iconst C d4_89 (q := 90) rfl (z := 1) (by decide) ?_
          refine Own.iadd C d4_90 (q := 91) rfl fun z90 e90 => ?_
          refine Own.putfield C d4_91 (q := 94) rfl (host := "") (Or.inl (hw _ (List.mem_of_getElem? (i := 31) rfl))) Via.refl (Or.inl (hw _ (List.mem_of_getElem? (i := 32) rfl))) (hw _ (List.mem_of_getElem? (i := 6) rfl)) (ty := .int) (by decide) rfl rfl (upd_at naq upd_same) (j := 3) rfl (fs' := [(("com/example/thin_index/thinindex/BitWriter", "bytes", "[B"), (.ref q)), (("com/example/thin_index/thinindex/BitWriter", "pending", "J"), (.long z15)), (("com/example/thin_index/thinindex/BitWriter", "pendingCount", "I"), (.int z45)), (("com/example/thin_index/thinindex/BitWriter", "byteCount", "I"), (.int z90))]) rfl ga (mem (upd_in upd_upd (Ne.symm naq)) ?_)
          refine Own.aloadN C d4_94 (q := 95) rfl rfl rfl ?_
          refine Own.getfield C d4_95 (q := 98) rfl (host := "") (Or.inl (hw _ (List.mem_of_getElem? (i := 22) rfl))) Via.refl (upd_at naq upd_same) (j := 1) rfl ?_
          refine Own.aloadN C d4_98 (q := 99) rfl rfl rfl ?_
          refine Own.getfield C d4_99 (q := 102) rfl (host := "") (Or.inl (hw _ (List.mem_of_getElem? (i := 24) rfl))) Via.refl (upd_at naq upd_same) (j := 2) rfl ?_
          refine Own.lushr C d4_102 (q := 103) rfl fun z102 e102 => ?_
          refine Own.l2i C d4_103 (q := 104) rfl fun z103 e103 => ?_
          refine Own.i2b C d4_104 (q := 105) rfl fun z104 e104 => ?_
          refine Own.bastore C d4_105 (q := 106) rfl upd_same (nneg hb1) (by rw [ar_len, tn hb1]; omega) gq (mem (upd_list (vs' := (ar 64 (fun i => if i = bc1.toNatClampNeg then z104.toInt8.toInt32 else g1 i))) (ar_set g1 _) upd_upd) ?_)
          refine Own.goto C d4_106 (q := 29) (by decide) ?_
          have o1 := c_isub pc1 8; rw [← e45] at o1; have o2 := c_iadd bc1 1; rw [← e90] at o2; have r1 := rng32 z45; have r2 := rng32 z90
          simp only [show (8 : Int32).toInt = 8 from rfl, show (1 : Int32).toInt = 1 from rfl] at o1 o2
          refine ih _ z90 z45 (B1 + 1) (P1 - 8) (by omega) (by omega) (by omega) (by omega) (fun i hi => ?_) (by omega)
          by_cases e : i = B1
          · rw [if_pos (e.trans (tn hb1).symm), e]; exact outb hz15 (n := P1 - 8) (by omega) (by omega) (by omega) (by omega) e102 e103 e104
          · rw [if_neg (fun q => e (q.trans (tn hb1)))]; exact hg1 i (by omega)
        · exfalso; rw [ar_len] at e57i; rw [← Int32.toInt_inj] at h58; omega
  refine Own.mem (upd_id (upd_at (Ne.symm naq) hq)).symm ?_
  have o0 := c_iadd pc cn; rw [← e25] at o0; have w0 := rng32 z25
  exact J29 (Pc + c' + 1) g bc z25 B (Pc + c') hbc (by omega) (by omega) (Nat.le_refl _) (fun i hi => bt_app (hg i hi) (by omega)) (by omega)
theorem pd_0 : parseMethodDescriptor "(II)I" = some ⟨[.int, .int], some .int⟩ := by decide +kernel
abbrev rm_6 : Room := { frames := 1, cells := 1, slots := 8, locals := 40 }
theorem d6_0 : decode jdk_65_method_121_code 0 = .ok (.iload_n 1, 1) := by decide +kernel
theorem d6_1 : decode jdk_65_method_121_code 1 = .ok (.aload_n 0, 1) := by decide +kernel
theorem d6_2 : decode jdk_65_method_121_code 2 = .ok (.arraylength, 1) := by decide +kernel
theorem d6_3 : decode jdk_65_method_121_code 3 = .ok (.if_icmp .ne 11, 3) := by decide +kernel
theorem d6_14 : decode jdk_65_method_121_code 14 = .ok (.iload_n 1, 1) := by decide +kernel
theorem d6_15 : decode jdk_65_method_121_code 15 = .ok (.newarray .byte, 2) := by decide +kernel
theorem d6_17 : decode jdk_65_method_121_code 17 = .ok (.astore_n 2, 1) := by decide +kernel
theorem d6_18 : decode jdk_65_method_121_code 18 = .ok (.aload_n 0, 1) := by decide +kernel
theorem d6_19 : decode jdk_65_method_121_code 19 = .ok (.iconst 0, 1) := by decide +kernel
theorem d6_20 : decode jdk_65_method_121_code 20 = .ok (.aload_n 2, 1) := by decide +kernel
theorem d6_21 : decode jdk_65_method_121_code 21 = .ok (.iconst 0, 1) := by decide +kernel
theorem d6_22 : decode jdk_65_method_121_code 22 = .ok (.aload_n 0, 1) := by decide +kernel
theorem d6_23 : decode jdk_65_method_121_code 23 = .ok (.arraylength, 1) := by decide +kernel
theorem d6_24 : decode jdk_65_method_121_code 24 = .ok (.iload_n 1, 1) := by decide +kernel
theorem d6_25 : decode jdk_65_method_121_code 25 = .ok (.invokestatic 304, 3) := by decide +kernel
theorem d6_28 : decode jdk_65_method_121_code 28 = .ok (.invokestatic 150, 3) := by decide +kernel
theorem d6_31 : decode jdk_65_method_121_code 31 = .ok (.aload_n 2, 1) := by decide +kernel
theorem d6_32 : decode jdk_65_method_121_code 32 = .ok (.areturn, 1) := by decide +kernel
set_option maxRecDepth 65536 in
set_option maxHeartbeats 4000000 in
theorem c_copy (l : Launch) (Z : State) (a0 : Array Value) (hw : ∀ d ∈ tables_1, d.before a0 Z = true) (n0 : Nat) (μ : Mem) (a : Addr) (x : Int32) (g : Nat → Int32) (n : Nat) (hx : x.toInt = n) (hn : n ≤ 8) (hμ : μ a = some (.inr (.byte, (ar 64 g)))) :
    Con l Z n0 (⟨"java/util/Arrays", "copyOf", "([BI)[B"⟩ : MethodName) jdk_65_method_121_code 3 (some (.array .byte)) [] rm_6 rm_6.cells rm_6.slots #[(.ref a), (.int x)] μ (RR fun z μ' => ∃ q, z = .ref q ∧ n0 ≤ q ∧ (∀ b o, μ b = some o → b ≠ q) ∧ μ' = upd μ q (.inr (.byte, ar n g))) := by
  refine Con.intro (L0 := #[.val (.ref a), .val (.int x), .unset]) (plainFor_of_name (by first | (simp [plainName, overriddenIn]; done) | decide +kernel)) (fun m => by first | (simp [entryFrame, mkF, argsToLocals, Value.category]; done) | rfl) ?_
  intro p e s m below meth c C
  have C : Ctx p s m meth c Z "java/util/Arrays" "copyOf" jdk_65_method_121_code 3 (some (.array .byte)) := C
  refine Own.iloadN C d6_0 (q := 1) rfl rfl ?_
  refine Own.aloadN C d6_1 (q := 2) rfl rfl rfl ?_
  refine Own.arraylength C d6_2 (q := 3) rfl hμ fun z2 e2 e2i => ?_
  refine Own.icmp_ne C d6_3 (q := 6) rfl (r := 14) (by decide) (fun h3 => ?_) (fun h3 => ?_)
  · refine Own.iloadN C d6_14 (q := 15) rfl rfl ?_
    refine Own.newArr C d6_15 (q := 17) rfl (ty := .byte) rfl (hw _ (List.mem_of_getElem? (i := 14) rfl)) (nneg hx) (cap := 8) (by rw [tn hx]; exact hn) (by decide) (vs := (ar n (fun _ => 0))) (by rw [tn hx]; exact ar_zero n) (by decide) (by decide) fun a15 a15_f a15_g => ?_
    have ne_a_a15 := a15_f _ _ hμ
    refine Own.astoreN C d6_17 (q := 18) rfl (L' := #[.val (.ref a), .val (.int x), .val (.ref a15)]) rfl rfl ?_
    refine Own.aloadN C d6_18 (q := 19) rfl rfl rfl ?_
    refine Own.iconst C d6_19 (q := 20) rfl (z := 0) (by decide) ?_
    refine Own.aloadN C d6_20 (q := 21) rfl rfl rfl ?_
    refine Own.iconst C d6_21 (q := 22) rfl (z := 0) (by decide) ?_
    refine Own.aloadN C d6_22 (q := 23) rfl rfl rfl ?_
    refine Own.arraylength C d6_23 (q := 24) rfl (upd_at ne_a_a15 hμ) fun z23 e23 e23i => ?_
    refine Own.iloadN C d6_24 (q := 25) rfl rfl ?_
    refine Own.callS C d6_25 (q := 28) rfl (hw _ (List.mem_of_getElem? (i := 37) rfl)) (hw _ (List.mem_of_getElem? (i := 2) rfl)) (hw _ (List.mem_of_getElem? (i := 3) rfl)) (hw _ (List.mem_of_getElem? (i := 4) rfl)) (by decide) (W := 4) (rm := rm_1) (argsL := [(.int z23), (.int x)]) (st := [(.int (0 : Int32)), (.ref a15), (.int (0 : Int32)), (.ref a)]) (lenOf pd_0 rfl) rfl rfl (Nat.le_of_eq rfl) (by decide) (by decide) (by decide) (by decide) (c_min l Z a0 hw n0 _ z23 x) (nxI fun z25 μ25 h25 => ?_)
    obtain ⟨h25m, h25⟩ := h25
    refine Own.mem h25m ?_
    obtain rfl : z25 = x := by rw [h25]; unfold mn'; rw [if_pos]; rw [Int32.lt_iff_toInt_lt, e23i, ar_len]; omega
    refine Own.arraycopy C d6_28 (q := 31) rfl (hw _ (List.mem_of_getElem? (i := 38) rfl)) (hw _ (List.mem_of_getElem? (i := 41) rfl)) (hw _ (List.mem_of_getElem? (i := 39) rfl)) (hw _ (List.mem_of_getElem? (i := 40) rfl)) (upd_at ne_a_a15 hμ) upd_same rfl a15_g (by decide) (by decide) (nneg hx) (by rw [ar_len, tn hx]; show 0 + n ≤ 64; omega) (by rw [ar_len, tn hx]; show 0 + n ≤ n; omega) (us := ar n g) (by rw [tn hx]; exact ar_copy g (by omega)) rfl (by decide) (W := 0) (Nat.le_of_eq rfl) (by decide) (mem upd_upd ?_)
    refine Own.aloadN C d6_31 (q := 32) rfl rfl rfl ?_
    refine Own.areturn C rfl rfl d6_32 (by decide) (by decide) ?_
    exact ⟨_, rfl, rfl, _, rfl, a15_g, a15_f, rfl⟩
  · exfalso; rw [ar_len] at e2i; rw [← Int32.toInt_inj] at h3; omega
theorem pd_1 : parseMethodDescriptor "([BI)[B" = some ⟨[(.array .byte), .int], some (.array .byte)⟩ := by decide +kernel
abbrev rm_5 : Room := { frames := 2, cells := 1, slots := 8, locals := 54 }
theorem d5_0 : decode prog_4_method_4_code 0 = .ok (.aload_n 0, 1) := by decide +kernel
theorem d5_1 : decode prog_4_method_4_code 1 = .ok (.getfield 7, 3) := by decide +kernel
theorem d5_4 : decode prog_4_method_4_code 4 = .ok (.aload_n 0, 1) := by decide +kernel
theorem d5_5 : decode prog_4_method_4_code 5 = .ok (.getfield 23, 3) := by decide +kernel
theorem d5_8 : decode prog_4_method_4_code 8 = .ok (.aload_n 0, 1) := by decide +kernel
theorem d5_9 : decode prog_4_method_4_code 9 = .ok (.getfield 17, 3) := by decide +kernel
theorem d5_12 : decode prog_4_method_4_code 12 = .ok (.ifCond .le 7, 3) := by decide +kernel
theorem d5_15 : decode prog_4_method_4_code 15 = .ok (.iconst 1, 1) := by decide +kernel
theorem d5_16 : decode prog_4_method_4_code 16 = .ok (.goto 4, 3) := by decide +kernel
theorem d5_19 : decode prog_4_method_4_code 19 = .ok (.iconst 0, 1) := by decide +kernel
theorem d5_20 : decode prog_4_method_4_code 20 = .ok (.iadd, 1) := by decide +kernel
theorem d5_21 : decode prog_4_method_4_code 21 = .ok (.invokestatic 26, 3) := by decide +kernel
theorem d5_24 : decode prog_4_method_4_code 24 = .ok (.astore_n 1, 1) := by decide +kernel
theorem d5_25 : decode prog_4_method_4_code 25 = .ok (.aload_n 0, 1) := by decide +kernel
theorem d5_26 : decode prog_4_method_4_code 26 = .ok (.getfield 17, 3) := by decide +kernel
theorem d5_29 : decode prog_4_method_4_code 29 = .ok (.ifCond .le 23, 3) := by decide +kernel
theorem d5_32 : decode prog_4_method_4_code 32 = .ok (.aload_n 1, 1) := by decide +kernel
theorem d5_33 : decode prog_4_method_4_code 33 = .ok (.aload_n 0, 1) := by decide +kernel
theorem d5_34 : decode prog_4_method_4_code 34 = .ok (.getfield 23, 3) := by decide +kernel
theorem d5_37 : decode prog_4_method_4_code 37 = .ok (.aload_n 0, 1) := by decide +kernel
theorem d5_38 : decode prog_4_method_4_code 38 = .ok (.getfield 13, 3) := by decide +kernel
theorem d5_41 : decode prog_4_method_4_code 41 = .ok (.bipush 8, 2) := by decide +kernel
theorem d5_43 : decode prog_4_method_4_code 43 = .ok (.aload_n 0, 1) := by decide +kernel
theorem d5_44 : decode prog_4_method_4_code 44 = .ok (.getfield 17, 3) := by decide +kernel
theorem d5_47 : decode prog_4_method_4_code 47 = .ok (.isub, 1) := by decide +kernel
theorem d5_48 : decode prog_4_method_4_code 48 = .ok (.lshl, 1) := by decide +kernel
theorem d5_49 : decode prog_4_method_4_code 49 = .ok (.l2i, 1) := by decide +kernel
theorem d5_50 : decode prog_4_method_4_code 50 = .ok (.i2b, 1) := by decide +kernel
theorem d5_51 : decode prog_4_method_4_code 51 = .ok (.bastore, 1) := by decide +kernel
theorem d5_52 : decode prog_4_method_4_code 52 = .ok (.aload_n 1, 1) := by decide +kernel
theorem d5_53 : decode prog_4_method_4_code 53 = .ok (.areturn, 1) := by decide +kernel
set_option maxRecDepth 65536 in
set_option maxHeartbeats 4000000 in
theorem c_bytes (l : Launch) (Z : State) (a0 : Array Value) (hw : ∀ d ∈ tables_1, d.before a0 Z = true) (n0 : Nat) (μ : Mem) (a : Addr) (q : Addr) (g : Nat → Int32) (bc pc : Int32) (pd : Int64) (S : Nat → Bool) (B Pc : Nat) (hμ : μ a = some (o_BW (.ref q) (.long pd) (.int pc) (.int bc))) (hq : μ q = some (.inr (.byte, (ar 64 g)))) (hbc : bc.toInt = B) (hpc : pc.toInt = Pc) (h8 : Pc < 8) (hB : 8 * B + Pc ≤ 64) (hp : ∀ k, k < Pc → bit pd k = S (8 * B + Pc - 1 - k)) (hg : ∀ i, i < B → Bt S i (g i)) :
    Con l Z n0 (⟨"com/example/thin_index/thinindex/BitWriter", "toByteArray", "()[B"⟩ : MethodName) prog_4_method_4_code 2 (some (.array .byte)) [] rm_5 rm_5.cells rm_5.slots #[(.ref a)] μ (RR fun z μ' => ∃ (r : Addr) (M : Nat) (h : Nat → Int32), z = .ref r ∧ n0 ≤ r ∧ (∀ b o, μ b = some o → b ≠ r) ∧ μ' = upd μ r (.inr (.byte, ar M h)) ∧ M = (8 * B + Pc + 7) / 8 ∧ ∀ i, i < M → Bt (cutS S (8 * B + Pc)) i (h i)) := by
  refine Con.intro (L0 := #[.val (.ref a), .unset]) (plainFor_of_name (by first | (simp [plainName, overriddenIn]; done) | decide +kernel)) (fun m => by first | (simp [entryFrame, mkF, argsToLocals, Value.category]; done) | rfl) ?_
  intro p e s m below meth c C
  have C : Ctx p s m meth c Z "com/example/thin_index/thinindex/BitWriter" "toByteArray" prog_4_method_4_code 2 (some (.array .byte)) := C
  refine Own.aloadN C d5_0 (q := 1) rfl rfl rfl ?_
  refine Own.getfield C d5_1 (q := 4) rfl (host := "") (Or.inl (hw _ (List.mem_of_getElem? (i := 15) rfl))) Via.refl hμ (j := 0) rfl ?_
  refine Own.aloadN C d5_4 (q := 5) rfl rfl rfl ?_
  refine Own.getfield C d5_5 (q := 8) rfl (host := "") (Or.inl (hw _ (List.mem_of_getElem? (i := 31) rfl))) Via.refl hμ (j := 3) rfl ?_
  refine Own.aloadN C d5_8 (q := 9) rfl rfl rfl ?_
  refine Own.getfield C d5_9 (q := 12) rfl (host := "") (Or.inl (hw _ (List.mem_of_getElem? (i := 24) rfl))) Via.refl hμ (j := 2) rfl ?_
  refine Own.if_le C d5_12 (q := 15) rfl (r := 19) (by decide) (fun h12 => ?_) (fun h12 => ?_)
  · refine Own.iconst C d5_19 (q := 20) rfl (z := 0) (by decide) ?_
    refine Own.iadd C d5_20 (q := 21) rfl fun z20 e20 => ?_
    refine Own.callS C d5_21 (q := 24) rfl (hw _ (List.mem_of_getElem? (i := 33) rfl)) (hw _ (List.mem_of_getElem? (i := 34) rfl)) (hw _ (List.mem_of_getElem? (i := 35) rfl)) (hw _ (List.mem_of_getElem? (i := 36) rfl)) (by decide) (W := 0) (rm := rm_6) (argsL := [(.ref q), (.int z20)]) (st := []) (lenOf pd_1 rfl) rfl rfl (Nat.le_of_eq rfl) (by decide) (by decide) (by decide) (by decide) (c_copy l Z a0 hw n0 _ q z20 g B (by have o := c_iadd bc 0; rw [← e20] at o; have := rng32 z20; simp only [show (0 : Int32).toInt = 0 from rfl] at o; omega) (by omega) hq) (nxR fun z21 μ21 z21_r h21 => ?_)
    obtain ⟨r, rfl, r_g, r_f, rfl⟩ := h21
    have ne_a_r := r_f _ _ hμ
    have ne_q_r := r_f _ _ hq
    refine Own.astoreN C d5_24 (q := 25) rfl (L' := #[.val (.ref a), .val (.ref r)]) rfl rfl ?_
    refine Own.aloadN C d5_25 (q := 26) rfl rfl rfl ?_
    refine Own.getfield C d5_26 (q := 29) rfl (host := "") (Or.inl (hw _ (List.mem_of_getElem? (i := 24) rfl))) Via.refl (upd_at ne_a_r hμ) (j := 2) rfl ?_
    refine Own.if_le C d5_29 (q := 32) rfl (r := 52) (by decide) (fun h29 => ?_) (fun h29 => ?_)
    · refine Own.aloadN C d5_52 (q := 53) rfl rfl rfl ?_
      refine Own.areturn C rfl rfl d5_53 (by decide) (by decide) ?_
      have hP0 : Pc = 0 := by rw [Int32.lt_iff_toInt_lt, show (0 : Int32).toInt = 0 from rfl] at h12; omega
      subst hP0
      exact ⟨_, rfl, rfl, _, B, g, rfl, r_g, r_f, rfl, by omega, fun i hi => bt_cut (hg i hi) (by omega)⟩
    · exact absurd h29 h12
  · refine Own.iconst C d5_15 (q := 16) rfl (z := 1) (by decide) ?_
    refine Own.goto C d5_16 (q := 20) (by decide) ?_
    refine Own.iadd C d5_20 (q := 21) rfl fun z20 e20 => ?_
    refine Own.callS C d5_21 (q := 24) rfl (hw _ (List.mem_of_getElem? (i := 33) rfl)) (hw _ (List.mem_of_getElem? (i := 34) rfl)) (hw _ (List.mem_of_getElem? (i := 35) rfl)) (hw _ (List.mem_of_getElem? (i := 36) rfl)) (by decide) (W := 0) (rm := rm_6) (argsL := [(.ref q), (.int z20)]) (st := []) (lenOf pd_1 rfl) rfl rfl (Nat.le_of_eq rfl) (by decide) (by decide) (by decide) (by decide) (c_copy l Z a0 hw n0 _ q z20 g (B + 1) (by have o := c_iadd bc 1; rw [← e20] at o; have := rng32 z20; simp only [show (1 : Int32).toInt = 1 from rfl] at o; omega) (by have h0 : 0 < Pc := (by rw [Int32.lt_iff_toInt_lt, show (0 : Int32).toInt = 0 from rfl] at h12; omega); omega) hq) (nxR fun z21 μ21 z21_r h21 => ?_)
    obtain ⟨r, rfl, r_g, r_f, rfl⟩ := h21
    have ne_a_r := r_f _ _ hμ
    have ne_q_r := r_f _ _ hq
    refine Own.astoreN C d5_24 (q := 25) rfl (L' := #[.val (.ref a), .val (.ref r)]) rfl rfl ?_
    refine Own.aloadN C d5_25 (q := 26) rfl rfl rfl ?_
    refine Own.getfield C d5_26 (q := 29) rfl (host := "") (Or.inl (hw _ (List.mem_of_getElem? (i := 24) rfl))) Via.refl (upd_at ne_a_r hμ) (j := 2) rfl ?_
    refine Own.if_le C d5_29 (q := 32) rfl (r := 52) (by decide) (fun h29 => ?_) (fun h29 => ?_)
    · exact absurd h12 h29
    · refine Own.aloadN C d5_32 (q := 33) rfl rfl rfl ?_
      refine Own.aloadN C d5_33 (q := 34) rfl rfl rfl ?_
      refine Own.getfield C d5_34 (q := 37) rfl (host := "") (Or.inl (hw _ (List.mem_of_getElem? (i := 31) rfl))) Via.refl (upd_at ne_a_r hμ) (j := 3) rfl ?_
      refine Own.aloadN C d5_37 (q := 38) rfl rfl rfl ?_
      refine Own.getfield C d5_38 (q := 41) rfl (host := "") (Or.inl (hw _ (List.mem_of_getElem? (i := 22) rfl))) Via.refl (upd_at ne_a_r hμ) (j := 1) rfl ?_
      refine Own.bipush C d5_41 (q := 43) rfl (z := 8) (by decide) ?_
      refine Own.aloadN C d5_43 (q := 44) rfl rfl rfl ?_
      refine Own.getfield C d5_44 (q := 47) rfl (host := "") (Or.inl (hw _ (List.mem_of_getElem? (i := 24) rfl))) Via.refl (upd_at ne_a_r hμ) (j := 2) rfl ?_
      refine Own.isub C d5_47 (q := 48) rfl fun z47 e47 => ?_
      refine Own.lshl C d5_48 (q := 49) rfl fun z48 e48 => ?_
      refine Own.l2i C d5_49 (q := 50) rfl fun z49 e49 => ?_
      refine Own.i2b C d5_50 (q := 51) rfl fun z50 e50 => ?_
      refine Own.bastore C d5_51 (q := 52) rfl upd_same (nneg hbc) (by rw [ar_len, tn hbc]; omega) r_g (mem (upd_list (vs' := (ar (B + 1) (fun i => if i = B then z50.toInt8.toInt32 else g i))) (by rw [tn hbc]; exact ar_set g _) upd_upd) ?_)
      refine Own.aloadN C d5_52 (q := 53) rfl rfl rfl ?_
      refine Own.areturn C rfl rfl d5_53 (by decide) (by decide) ?_
      have hP0 : 0 < Pc := by rw [Int32.lt_iff_toInt_lt, show (0 : Int32).toInt = 0 from rfl] at h12; omega
      refine ⟨_, rfl, rfl, _, B + 1, _, rfl, r_g, r_f, rfl, by omega, fun i hi => ?_⟩
      by_cases e : i = B
      · rw [if_pos e, e]; exact lastb hpc hP0 h8 hp e47 e48 e49 e50
      · rw [if_neg e]; exact bt_cut (hg i (by omega)) (by omega)
theorem topb {v cn off z11 : Int32} {z7 z12 z14 : Int64} {c o : Nat} (hc : cn.toInt = c) (ho : off.toInt = o) (h0 : 0 < c) (h32 : c ≤ 32) (h64 : c + o ≤ 64) (e7 : z7 = v.toInt64) (e11 : z11 = 64 - cn) (e12 : z12 = z7 <<< (z11 &&& 0x3f).toInt64) (e14 : z14 = (z12.toUInt64 >>> (off &&& 0x3f).toInt64.toUInt64).toInt64) :
    ∀ j, j < 64 → bit z14 (63 - j) = (decide (o ≤ j) && decide (j < o + c) && bit32 v (o + c - 1 - j)) := by
  intro j hj
  have h11 : z11.toInt = ((64 - c : Nat) : Int) := by have q := c_isub 64 cn; rw [← e11] at q; have := rng32 z11; simp only [show (64 : Int32).toInt = 64 from rfl] at q; omega
  subst e14; subst e12; subst e7
  rw [bit_ushr _ _ o ho (by omega), bit_shl _ _ _ h11 (by omega)]
  by_cases h1 : o ≤ j
  · by_cases h2 : j < o + c
    · rw [show o + (63 - j) - (64 - c) = o + c - 1 - j by omega, bit_i2l _ _ (by omega)]
      simp [h1, h2, show o + (63 - j) < 64 by omega, show ¬ o + (63 - j) < 64 - c by omega]
    · simp [h2, show o + (63 - j) < 64 - c by omega]
  · simp [h1, show ¬ o + (63 - j) < 64 by omega]
abbrev rm_8 : Room := { frames := 0, cells := 0, slots := 0, locals := 0 }
theorem d8_0 : decode method_2_code 0 = .ok (.iload_n 1, 1) := by decide +kernel
theorem d8_1 : decode method_2_code 1 = .ok (.ifCond .ne 5, 3) := by decide +kernel
theorem d8_4 : decode method_2_code 4 = .ok (.lconst 0, 1) := by decide +kernel
theorem d8_5 : decode method_2_code 5 = .ok (.lreturn, 1) := by decide +kernel
theorem d8_6 : decode method_2_code 6 = .ok (.iload_n 0, 1) := by decide +kernel
theorem d8_7 : decode method_2_code 7 = .ok (.i2l, 1) := by decide +kernel
theorem d8_8 : decode method_2_code 8 = .ok (.bipush 64, 2) := by decide +kernel
theorem d8_10 : decode method_2_code 10 = .ok (.iload_n 1, 1) := by decide +kernel
theorem d8_11 : decode method_2_code 11 = .ok (.isub, 1) := by decide +kernel
theorem d8_12 : decode method_2_code 12 = .ok (.lshl, 1) := by decide +kernel
theorem d8_13 : decode method_2_code 13 = .ok (.iload_n 2, 1) := by decide +kernel
theorem d8_14 : decode method_2_code 14 = .ok (.lushr, 1) := by decide +kernel
theorem d8_15 : decode method_2_code 15 = .ok (.lreturn, 1) := by decide +kernel
set_option maxRecDepth 65536 in
set_option maxHeartbeats 4000000 in
theorem c_top (l : Launch) (Z : State) (a0 : Array Value) (hw : ∀ d ∈ tables_1, d.before a0 Z = true) (n0 : Nat) (μ : Mem) (v : Int32) (cn : Int32) (off : Int32) (c' o : Nat) (hc : cn.toInt = c') (ho : off.toInt = o) (h32 : c' ≤ 32) (h64 : c' + o ≤ 64) :
    Con l Z n0 (⟨"com/example/thin_index/thinindex/BitWriterWritePinLaw", "top", "(III)J"⟩ : MethodName) method_2_code 3 (some .long) [] rm_8 rm_8.cells rm_8.slots #[(.int v), (.int cn), (.int off)] μ (RJ fun z μ' => μ' = μ ∧ ∀ j, j < 64 → bit z (63 - j) = (decide (o ≤ j) && decide (j < o + c') && bit32 v (o + c' - 1 - j))) := by
  refine Con.intro (L0 := #[.val (.int v), .val (.int cn), .val (.int off)]) (plainFor_of_name (by first | (simp [plainName, overriddenIn]; done) | decide +kernel)) (fun m => by first | (simp [entryFrame, mkF, argsToLocals, Value.category]; done) | rfl) ?_
  intro p e s m below meth c C
  have C : Ctx p s m meth c Z "com/example/thin_index/thinindex/BitWriterWritePinLaw" "top" method_2_code 3 (some .long) := C
  refine Own.iloadN C d8_0 (q := 1) rfl rfl ?_
  refine Own.if_ne C d8_1 (q := 4) rfl (r := 6) (by decide) (fun h1 => ?_) (fun h1 => ?_)
  · refine Own.iloadN C d8_6 (q := 7) rfl rfl ?_
    refine Own.i2l C d8_7 (q := 8) rfl fun z7 e7 => ?_
    refine Own.bipush C d8_8 (q := 10) rfl (z := 64) (by decide) ?_
    refine Own.iloadN C d8_10 (q := 11) rfl rfl ?_
    refine Own.isub C d8_11 (q := 12) rfl fun z11 e11 => ?_
    refine Own.lshl C d8_12 (q := 13) rfl fun z12 e12 => ?_
    refine Own.iloadN C d8_13 (q := 14) rfl rfl ?_
    refine Own.lushr C d8_14 (q := 15) rfl fun z14 e14 => ?_
    refine Own.lreturn C d8_15 (by decide) (by decide) ?_
    refine ⟨_, rfl, rfl, topb hc ho ?_ h32 h64 e7 e11 e12 e14⟩
    rw [← Int32.toInt_inj, show (0 : Int32).toInt = 0 from rfl] at h1; omega
  · refine Own.lconst C d8_4 (q := 5) rfl (z := 0) (by decide) ?_
    refine Own.lreturn C d8_5 (by decide) (by decide) ?_
    refine ⟨_, rfl, rfl, fun j hj => ?_⟩
    have hc0 : c' = 0 := by rw [h1] at hc; have e : (0 : Int32).toInt = 0 := rfl; omega
    subst hc0
    rw [bit_z]; by_cases q : o ≤ j <;> simp [q, show ¬ j < o ∨ ¬ o ≤ j by omega]; omega
theorem okb {s z17 : Int64} {i z15 z16 z18 z19 b : Int32} {S : Nat → Bool} {n : Nat} (hi : i.toInt = n) (h8 : n < 8) (hS : ∀ j, j < 64 → bit s (63 - j) = S j) (hb : Bt S n b) (e15 : z15 = 8 * i) (e16 : z16 = 56 - z15) (e17 : z17 = (s.toUInt64 >>> (z16 &&& 0x3f).toInt64.toUInt64).toInt64) (e18 : z18 = z17.toInt32) (e19 : z19 = z18.toInt8.toInt32) : b = z19 := by
  have h16 : z16.toInt = ((56 - 8 * n : Nat) : Int) := by have q := c_imul 8 i; rw [← e15] at q; have q2 := c_isub 56 z15; rw [← e16] at q2; have := rng32 z15; have := rng32 z16; simp only [show (8 : Int32).toInt = 8 from rfl, show (56 : Int32).toInt = 56 from rfl] at q q2; omega
  subst e19; subst e18; subst e17
  refine byte_eq hb.1 (by apply Int32.toInt_inj.mp; have := c_i2b (s.toUInt64 >>> (z16 &&& 0x3f).toInt64.toUInt64).toInt64.toInt32; have := c_i2b (s.toUInt64 >>> (z16 &&& 0x3f).toInt64.toUInt64).toInt64.toInt32.toInt8.toInt32; omega) fun k hk => ?_
  rw [hb.2 k hk, bit_i2b _ _ hk, bit_l2i _ _ (by omega), bit_ushr _ _ _ h16 (by omega), ← hS (8 * n + 7 - k) (by omega)]
  congr 1; omega
abbrev rm_9 : Room := { frames := 0, cells := 0, slots := 0, locals := 0 }
theorem d9_0 : decode method_3_code 0 = .ok (.iload_n 1, 1) := by decide +kernel
theorem d9_1 : decode method_3_code 1 = .ok (.aload_n 0, 1) := by decide +kernel
theorem d9_2 : decode method_3_code 2 = .ok (.arraylength, 1) := by decide +kernel
theorem d9_3 : decode method_3_code 3 = .ok (.if_icmp .ge 20, 3) := by decide +kernel
theorem d9_6 : decode method_3_code 6 = .ok (.aload_n 0, 1) := by decide +kernel
theorem d9_7 : decode method_3_code 7 = .ok (.iload_n 1, 1) := by decide +kernel
theorem d9_8 : decode method_3_code 8 = .ok (.baload, 1) := by decide +kernel
theorem d9_9 : decode method_3_code 9 = .ok (.lload_n 2, 1) := by decide +kernel
theorem d9_10 : decode method_3_code 10 = .ok (.bipush 56, 2) := by decide +kernel
theorem d9_12 : decode method_3_code 12 = .ok (.bipush 8, 2) := by decide +kernel
theorem d9_14 : decode method_3_code 14 = .ok (.iload_n 1, 1) := by decide +kernel
theorem d9_15 : decode method_3_code 15 = .ok (.imul, 1) := by decide +kernel
theorem d9_16 : decode method_3_code 16 = .ok (.isub, 1) := by decide +kernel
theorem d9_17 : decode method_3_code 17 = .ok (.lushr, 1) := by decide +kernel
theorem d9_18 : decode method_3_code 18 = .ok (.l2i, 1) := by decide +kernel
theorem d9_19 : decode method_3_code 19 = .ok (.i2b, 1) := by decide +kernel
theorem d9_20 : decode method_3_code 20 = .ok (.if_icmp .ne 7, 3) := by decide +kernel
theorem d9_23 : decode method_3_code 23 = .ok (.iconst 1, 1) := by decide +kernel
theorem d9_24 : decode method_3_code 24 = .ok (.goto 4, 3) := by decide +kernel
theorem d9_28 : decode method_3_code 28 = .ok (.ireturn, 1) := by decide +kernel
set_option maxRecDepth 65536 in
set_option maxHeartbeats 4000000 in
theorem c_ok (l : Launch) (Z : State) (a0 : Array Value) (hw : ∀ d ∈ tables_1, d.before a0 Z = true) (n0 : Nat) (μ : Mem) (a : Addr) (i : Int32) (s' : Int64) (M n : Nat) (g : Nat → Int32) (S : Nat → Bool) (hi : i.toInt = n) (h8 : n < 8) (ha : μ a = some (.inr (.byte, (ar M g)))) (hS : ∀ j, j < 64 → bit s' (63 - j) = S j) (hb' : ∀ i, i < M → Bt S i (g i)) :
    Con l Z n0 (⟨"com/example/thin_index/thinindex/BitWriterWritePinLaw", "byteOk", "([BIJ)Z"⟩ : MethodName) method_3_code 4 (some .boolean) [] rm_9 rm_9.cells rm_9.slots #[(.ref a), (.int i), (.long s')] μ (RI fun z μ' => μ' = μ ∧ z = 1) := by
  refine Con.intro (L0 := #[.val (.ref a), .val (.int i), .val (.long s'), .second]) (plainFor_of_name (by first | (simp [plainName, overriddenIn]; done) | decide +kernel)) (fun m => by first | (simp [entryFrame, mkF, argsToLocals, Value.category]; done) | rfl) ?_
  intro p e s m below meth c C
  have C : Ctx p s m meth c Z "com/example/thin_index/thinindex/BitWriterWritePinLaw" "byteOk" method_3_code 4 (some .boolean) := C
  refine Own.iloadN C d9_0 (q := 1) rfl rfl ?_
  refine Own.aloadN C d9_1 (q := 2) rfl rfl rfl ?_
  refine Own.arraylength C d9_2 (q := 3) rfl ha fun z2 e2 e2i => ?_
  refine Own.icmp_ge C d9_3 (q := 6) rfl (r := 23) (by decide) (fun h3 => ?_) (fun h3 => ?_)
  · refine Own.iconst C d9_23 (q := 24) rfl (z := 1) (by decide) ?_
    refine Own.goto C d9_24 (q := 28) (by decide) ?_
    refine Own.nreturn C d9_28 (by simp) (z' := (1 : Int32)) (by decide) (by decide) (by decide) ?_
    exact ⟨_, rfl, rfl, rfl⟩
  · have hnM : n < M := by rw [Int32.lt_iff_toInt_lt, e2i, ar_len] at h3; omega
    refine Own.aloadN C d9_6 (q := 7) rfl rfl rfl ?_
    refine Own.iloadN C d9_7 (q := 8) rfl rfl ?_
    refine Own.baload C d9_8 (q := 9) rfl ha (nneg hi) (v := (.int (g n))) (by rw [tn hi]; exact ar_get g hnM) ?_
    refine Own.lloadN C d9_9 (q := 10) rfl rfl ?_
    refine Own.bipush C d9_10 (q := 12) rfl (z := 56) (by decide) ?_
    refine Own.bipush C d9_12 (q := 14) rfl (z := 8) (by decide) ?_
    refine Own.iloadN C d9_14 (q := 15) rfl rfl ?_
    refine Own.imul C d9_15 (q := 16) rfl fun z15 e15 => ?_
    refine Own.isub C d9_16 (q := 17) rfl fun z16 e16 => ?_
    refine Own.lushr C d9_17 (q := 18) rfl fun z17 e17 => ?_
    refine Own.l2i C d9_18 (q := 19) rfl fun z18 e18 => ?_
    refine Own.i2b C d9_19 (q := 20) rfl fun z19 e19 => ?_
    refine Own.icmp_ne C d9_20 (q := 23) rfl (r := 27) (by decide) (fun h20 => ?_) (fun h20 => ?_)
    · exact absurd (okb hi h8 hS (hb' n hnM) e15 e16 e17 e18 e19) h20
    · refine Own.iconst C d9_23 (q := 24) rfl (z := 1) (by decide) ?_
      refine Own.goto C d9_24 (q := 28) (by decide) ?_
      refine Own.nreturn C d9_28 (by simp) (z' := (1 : Int32)) (by decide) (by decide) (by decide) ?_
      exact ⟨_, rfl, rfl, rfl⟩
theorem m33 (x : Int32) {z w : Int32} (hz : z = x &&& 2147483647) (hw : w = z % 33) : ∃ n : Nat, w.toInt = n ∧ n ≤ 32 := by
  have o1 := c_mask x 2147483647 31 (by decide) (by decide)
  have o2 := c_irem z 33 33 (by decide)
  rw [← hz] at o1; rw [← hw] at o2
  exact ⟨w.toInt.toNat, by omega, by omega⟩
theorem allS {v1 v2 v3 : Int32} {c1 c2 c3 : Nat} (h : c1 + c2 + c3 ≤ 64) {S : Nat → Bool} {z1 z2 z3 z4 z5 : Int64} (h1 : ∀ j, j < 64 → bit z1 (63 - j) = (decide (0 ≤ j) && decide (j < 0 + c1) && bit32 v1 (0 + c1 - 1 - j))) (h2 : ∀ j, j < 64 → bit z2 (63 - j) = (decide (c1 ≤ j) && decide (j < c1 + c2) && bit32 v2 (c1 + c2 - 1 - j))) (h3 : ∀ j, j < 64 → bit z3 (63 - j) = (decide (c1 + c2 ≤ j) && decide (j < c1 + c2 + c3) && bit32 v3 (c1 + c2 + c3 - 1 - j))) (e4 : z4 = z1 ||| z2) (e5 : z5 = z4 ||| z3) :
    ∀ j, j < 64 → bit z5 (63 - j) = cutS (app (app (app S 0 v1 c1) c1 v2 c2) (c1 + c2) v3 c3) (c1 + c2 + c3) j := by
  intro j hj
  subst e5; subst e4
  rw [bit_or, bit_or, h1 j hj, h2 j hj, h3 j hj]
  unfold cutS app
  by_cases q1 : j < c1
  · simp [q1, show ¬ c1 ≤ j by omega, show ¬ c1 + c2 ≤ j by omega, show j < c1 + c2 by omega, show j < c1 + c2 + c3 by omega]
  · by_cases q2 : j < c1 + c2
    · simp [q1, q2, show c1 ≤ j by omega, show ¬ c1 + c2 ≤ j by omega, show j < c1 + c2 + c3 by omega]
    · by_cases q3 : j < c1 + c2 + c3
      · simp [q1, q2, q3, show c1 + c2 ≤ j by omega]
      · simp [q1, q2, q3]
theorem pd_2 : parseMethodDescriptor "()V" = some ⟨[], none⟩ := by decide +kernel
theorem pd_3 : parseMethodDescriptor "(II)V" = some ⟨[.int, .int], none⟩ := by decide +kernel
theorem pd_4 : parseMethodDescriptor "()[B" = some ⟨[], some (.array .byte)⟩ := by decide +kernel
theorem pd_5 : parseMethodDescriptor "()J" = some ⟨[], some .long⟩ := by decide +kernel
theorem pd_6 : parseMethodDescriptor "(III)J" = some ⟨[.int, .int, .int], some .long⟩ := by decide +kernel
theorem pd_7 : parseMethodDescriptor "([BIJ)Z" = some ⟨[(.array .byte), .int, .long], some .boolean⟩ := by decide +kernel
set_option maxRecDepth 65536 in
set_option maxHeartbeats 40000000 in
theorem c_law (l : Launch) (Z : State) (a0 : Array Value) (hw : ∀ d ∈ tables_1, d.before a0 Z = true) (n0 : Nat) (μ : Mem) (v1 : Int32) (u1 : Int32) (v2 : Int32) (u2 : Int32) (v3 : Int32) (u3 : Int32)  :
    Con l Z n0 x code maxLocals ret tables_1 room_1 room_1.cells room_1.slots #[(.int v1), (.int u1), (.int v2), (.int u2), (.int v3), (.int u3)] μ (fun v _ => v = some (.int 1)) := by
  refine Con.intro (L0 := #[.val (.int v1), .val (.int u1), .val (.int v2), .val (.int u2), .val (.int v3), .val (.int u3), .unset, .unset, .unset, .unset, .unset, .unset, .unset, .unset, .unset, .unset, .unset]) (plainFor_of_name (by first | (simp [plainName, overriddenIn]; done) | decide +kernel)) (fun m => by first | (simp [entryFrame, mkF, argsToLocals, Value.category, maxLocals]; done) | rfl) ?_
  intro p e s m below meth c C
  have C : Ctx p s m meth c Z "com/example/thin_index/thinindex/BitWriterWritePinLaw" "law" code maxLocals (some .boolean) := C
  refine Own.iloadN C at_0 (q := 1) rfl rfl ?_
  refine Own.ldcI C at_1 (q := 3) rfl (hw _ (List.mem_of_getElem? (i := 0) rfl)) ?_
  refine Own.iand C at_3 (q := 4) rfl fun z3 e3 => ?_
  refine Own.bipush C at_4 (q := 6) rfl (z := 33) (by decide) ?_
  refine Own.irem C at_6 (q := 7) rfl (by decide) fun z6 e6 => ?_
  refine Own.istore C at_7 (q := 9) rfl (L' := #[.val (.int v1), .val (.int u1), .val (.int v2), .val (.int u2), .val (.int v3), .val (.int u3), .val (.int z6), .unset, .unset, .unset, .unset, .unset, .unset, .unset, .unset, .unset, .unset]) rfl ?_
  refine Own.iloadN C at_9 (q := 10) rfl rfl ?_
  refine Own.ldcI C at_10 (q := 12) rfl (hw _ (List.mem_of_getElem? (i := 0) rfl)) ?_
  refine Own.iand C at_12 (q := 13) rfl fun z12 e12 => ?_
  refine Own.bipush C at_13 (q := 15) rfl (z := 33) (by decide) ?_
  refine Own.irem C at_15 (q := 16) rfl (by decide) fun z15 e15 => ?_
  refine Own.istore C at_16 (q := 18) rfl (L' := #[.val (.int v1), .val (.int u1), .val (.int v2), .val (.int u2), .val (.int v3), .val (.int u3), .val (.int z6), .val (.int z15), .unset, .unset, .unset, .unset, .unset, .unset, .unset, .unset, .unset]) rfl ?_
  obtain ⟨c1, k1, l1⟩ := m33 u1 e3 e6
  obtain ⟨c2, k2, l2⟩ := m33 u2 e12 e15
  refine Own.bipush C at_18 (q := 20) rfl (z := 32) (by decide) ?_
  refine Own.bipush C at_20 (q := 22) rfl (z := 64) (by decide) ?_
  refine Own.iload C at_22 (q := 24) rfl rfl ?_
  refine Own.isub C at_24 (q := 25) rfl fun z24 e24 => ?_
  refine Own.iload C at_25 (q := 27) rfl rfl ?_
  refine Own.isub C at_27 (q := 28) rfl fun z27 e27 => ?_
  refine Own.callS C at_28 (q := 31) rfl (hw _ (List.mem_of_getElem? (i := 1) rfl)) (hw _ (List.mem_of_getElem? (i := 2) rfl)) (hw _ (List.mem_of_getElem? (i := 3) rfl)) (hw _ (List.mem_of_getElem? (i := 4) rfl)) (by decide) (W := 0) (rm := rm_1) (argsL := [(.int (32 : Int32)), (.int z27)]) (st := []) (lenOf pd_0 rfl) rfl rfl (Nat.le_of_eq rfl) (by decide) (by decide) (by decide) (by decide) (c_min l Z a0 hw n0 _ (32 : Int32) z27) (nxI fun z28 μ28 h28 => ?_)
  obtain ⟨h28m, h28⟩ := h28
  refine Own.mem h28m ?_
  refine Own.istore C at_31 (q := 33) rfl (L' := #[.val (.int v1), .val (.int u1), .val (.int v2), .val (.int u2), .val (.int v3), .val (.int u3), .val (.int z6), .val (.int z15), .val (.int z28), .unset, .unset, .unset, .unset, .unset, .unset, .unset, .unset]) rfl ?_
  refine Own.iload C at_33 (q := 35) rfl rfl ?_
  refine Own.ldcI C at_35 (q := 37) rfl (hw _ (List.mem_of_getElem? (i := 0) rfl)) ?_
  refine Own.iand C at_37 (q := 38) rfl fun z37 e37 => ?_
  refine Own.iload C at_38 (q := 40) rfl rfl ?_
  refine Own.iconst C at_40 (q := 41) rfl (z := 1) (by decide) ?_
  refine Own.iadd C at_41 (q := 42) rfl fun z41 e41 => ?_
  have hrm : 0 ≤ z28.toInt ∧ z28.toInt ≤ 32 ∧ z28.toInt ≤ 64 - c1 - c2 := by
    have o1 := c_isub 64 z6; rw [← e24] at o1; have o2 := c_isub z24 z15; rw [← e27] at o2; have r1 := rng32 z24; have r2 := rng32 z27; simp only [show (64 : Int32).toInt = 64 from rfl] at o1
    rw [h28]; unfold mn'; split <;> rename_i q <;> rw [Int32.lt_iff_toInt_lt, show (32 : Int32).toInt = 32 from rfl] at q
    · omega
    · rw [show (32 : Int32).toInt = 32 from rfl]; omega
  have h41 : z41.toInt = z28.toInt + 1 := by have o := c_iadd z28 1; rw [← e41] at o; have := rng32 z41; simp only [show (1 : Int32).toInt = 1 from rfl] at o; omega
  have hnz : z41 ≠ 0 := fun q => by rw [q] at h41; have e : (0 : Int32).toInt = 0 := rfl; omega
  refine Own.irem C at_42 (q := 43) rfl hnz fun z42 e42 => ?_
  obtain ⟨c3, k3, l3, l3'⟩ : ∃ n : Nat, z42.toInt = n ∧ n ≤ 32 ∧ c1 + c2 + n ≤ 64 := by
    have o1 := c_mask u3 2147483647 31 (by decide) (by decide); rw [← e37] at o1; have o2 := (c_iremV z37 z41).1 (by omega) (by omega); rw [← e42] at o2
    exact ⟨z42.toInt.toNat, by omega, by omega, by omega⟩
  have hno : ∀ k : Nat, k < 0 → bit (0 : Int64) k = (fun _ => false : Nat → Bool) (8 * 0 + 0 - 1 - k) := fun k hk => absurd hk (by omega)
  refine Own.istore C at_43 (q := 45) rfl (L' := #[.val (.int v1), .val (.int u1), .val (.int v2), .val (.int u2), .val (.int v3), .val (.int u3), .val (.int z6), .val (.int z15), .val (.int z28), .val (.int z42), .unset, .unset, .unset, .unset, .unset, .unset, .unset]) rfl ?_
  refine Own.iload C at_45 (q := 47) rfl rfl ?_
  refine Own.iload C at_47 (q := 49) rfl rfl ?_
  refine Own.iadd C at_49 (q := 50) rfl fun z49 e49 => ?_
  refine Own.iload C at_50 (q := 52) rfl rfl ?_
  refine Own.iadd C at_52 (q := 53) rfl fun z52 e52 => ?_
  refine Own.istore C at_53 (q := 55) rfl (L' := #[.val (.int v1), .val (.int u1), .val (.int v2), .val (.int u2), .val (.int v3), .val (.int u3), .val (.int z6), .val (.int z15), .val (.int z28), .val (.int z42), .val (.int z52), .unset, .unset, .unset, .unset, .unset, .unset]) rfl ?_
  have htot : z52.toInt = c1 + c2 + c3 := by have o1 := c_iadd z6 z15; rw [← e49] at o1; have o2 := c_iadd z49 z42; rw [← e52] at o2; have := rng32 z49; have := rng32 z52; omega
  refine Own.new C at_55 (q := 58) rfl (hw _ (List.mem_of_getElem? (i := 5) rfl)) (hw _ (List.mem_of_getElem? (i := 6) rfl)) (hw _ (List.mem_of_getElem? (i := 7) rfl)) (lay_BW hw) (by decide) (by decide) (by decide) fun a55 a55_f a55_g => ?_
  refine Own.dup C at_58 (q := 59) rfl rfl ?_
  refine Own.callI C at_59 (q := 62) rfl rfl (hw _ (List.mem_of_getElem? (i := 8) rfl)) (hw _ (List.mem_of_getElem? (i := 9) rfl)) (hw _ (List.mem_of_getElem? (i := 7) rfl)) (hw _ (List.mem_of_getElem? (i := 10) rfl)) (by decide) (W := 1) (rm := rm_2) (argsL := []) (st := [(.ref a55)]) (lenOf pd_2 rfl) rfl rfl (Nat.le_of_eq rfl) (by decide) (by decide) (by decide) (by decide) (c_init l Z a0 hw n0 _ a55 upd_same a55_g) (nxV fun μ59 h59 => ?_)
  obtain ⟨q, q_g, q_f, rfl⟩ := h59
  have ne_a55_q := q_f _ _ upd_same
  refine Own.mem (congrArg (fun m => Own.upd m q _) upd_upd) ?_
  refine Own.astore C at_62 (q := 64) rfl (L' := #[.val (.int v1), .val (.int u1), .val (.int v2), .val (.int u2), .val (.int v3), .val (.int u3), .val (.int z6), .val (.int z15), .val (.int z28), .val (.int z42), .val (.int z52), .val (.ref a55), .unset, .unset, .unset, .unset, .unset]) rfl rfl ?_
  refine Own.aload C at_64 (q := 66) rfl rfl rfl ?_
  refine Own.iloadN C at_66 (q := 67) rfl rfl ?_
  refine Own.iload C at_67 (q := 69) rfl rfl ?_
  refine Own.callV C at_69 (q := 72) rfl (hw _ (List.mem_of_getElem? (i := 17) rfl)) (hw _ (List.mem_of_getElem? (i := 18) rfl)) (notFace_of_selects (args := #[]) (mvT C.2.2.2.1 (hw _ (List.mem_of_getElem? (i := 20) rfl)))) (hw _ (List.mem_of_getElem? (i := 20) rfl)) (hw _ (List.mem_of_getElem? (i := 19) rfl)) (hw _ (List.mem_of_getElem? (i := 7) rfl)) (hw _ (List.mem_of_getElem? (i := 21) rfl)) (by decide) (W := 0) (rm := rm_4) (argsL := [(.int v1), (.int z6)]) (st := []) (lenOf pd_3 rfl) rfl rfl (Nat.le_of_eq rfl) (by decide) (by decide) (by decide) (by decide) (upd_at ne_a55_q upd_same) (c_write l Z a0 hw n0 _ a55 v1 z6 q (fun _ => 0) (0 : Int32) (0 : Int32) (0 : Int64) (fun _ => false) 0 0 c1 (upd_at ne_a55_q upd_same) upd_same ne_a55_q a55_g q_g (by decide) (by decide) (by decide) k1 l1 (by omega) hno (fun i hi => absurd hi (by omega)) ) (nxV fun μ69 h69 => ?_)
  obtain ⟨g69, bc69, pc69, pd69, B69, P69, rfl, hb69, hp69, h869, ht69, hs69, hg69⟩ := h69
  refine Own.mem (upd2 (upd_in upd_upd (Ne.symm ne_a55_q)) upd_upd) ?_
  refine Own.aload C at_72 (q := 74) rfl rfl rfl ?_
  refine Own.iloadN C at_74 (q := 75) rfl rfl ?_
  refine Own.iload C at_75 (q := 77) rfl rfl ?_
  refine Own.callV C at_77 (q := 80) rfl (hw _ (List.mem_of_getElem? (i := 17) rfl)) (hw _ (List.mem_of_getElem? (i := 18) rfl)) (notFace_of_selects (args := #[]) (mvT C.2.2.2.1 (hw _ (List.mem_of_getElem? (i := 20) rfl)))) (hw _ (List.mem_of_getElem? (i := 20) rfl)) (hw _ (List.mem_of_getElem? (i := 19) rfl)) (hw _ (List.mem_of_getElem? (i := 7) rfl)) (hw _ (List.mem_of_getElem? (i := 21) rfl)) (by decide) (W := 0) (rm := rm_4) (argsL := [(.int v2), (.int z15)]) (st := []) (lenOf pd_3 rfl) rfl rfl (Nat.le_of_eq rfl) (by decide) (by decide) (by decide) (by decide) (upd_at ne_a55_q upd_same) (c_write l Z a0 hw n0 _ a55 v2 z15 q g69 bc69 pc69 pd69 (app (fun _ => false) (8 * 0 + 0) v1 c1) B69 P69 c2 (upd_at ne_a55_q upd_same) upd_same ne_a55_q a55_g q_g hb69 hp69 h869 k2 l2 (by omega) hs69 hg69 ) (nxV fun μ77 h77 => ?_)
  obtain ⟨g77, bc77, pc77, pd77, B77, P77, rfl, hb77, hp77, h877, ht77, hs77, hg77⟩ := h77
  refine Own.mem (upd2 (upd_in upd_upd (Ne.symm ne_a55_q)) upd_upd) ?_
  refine Own.aload C at_80 (q := 82) rfl rfl rfl ?_
  refine Own.iload C at_82 (q := 84) rfl rfl ?_
  refine Own.iload C at_84 (q := 86) rfl rfl ?_
  refine Own.callV C at_86 (q := 89) rfl (hw _ (List.mem_of_getElem? (i := 17) rfl)) (hw _ (List.mem_of_getElem? (i := 18) rfl)) (notFace_of_selects (args := #[]) (mvT C.2.2.2.1 (hw _ (List.mem_of_getElem? (i := 20) rfl)))) (hw _ (List.mem_of_getElem? (i := 20) rfl)) (hw _ (List.mem_of_getElem? (i := 19) rfl)) (hw _ (List.mem_of_getElem? (i := 7) rfl)) (hw _ (List.mem_of_getElem? (i := 21) rfl)) (by decide) (W := 0) (rm := rm_4) (argsL := [(.int v3), (.int z42)]) (st := []) (lenOf pd_3 rfl) rfl rfl (Nat.le_of_eq rfl) (by decide) (by decide) (by decide) (by decide) (upd_at ne_a55_q upd_same) (c_write l Z a0 hw n0 _ a55 v3 z42 q g77 bc77 pc77 pd77 (app (app (fun _ => false) (8 * 0 + 0) v1 c1) (8 * B69 + P69) v2 c2) B77 P77 c3 (upd_at ne_a55_q upd_same) upd_same ne_a55_q a55_g q_g hb77 hp77 h877 k3 l3 (by omega) hs77 hg77 ) (nxV fun μ86 h86 => ?_)
  obtain ⟨g86, bc86, pc86, pd86, B86, P86, rfl, hb86, hp86, h886, ht86, hs86, hg86⟩ := h86
  refine Own.mem (upd2 (upd_in upd_upd (Ne.symm ne_a55_q)) upd_upd) ?_
  refine Own.aload C at_89 (q := 91) rfl rfl rfl ?_
  refine Own.callV C at_91 (q := 94) rfl (hw _ (List.mem_of_getElem? (i := 26) rfl)) (hw _ (List.mem_of_getElem? (i := 27) rfl)) (notFace_of_selects (args := #[]) (mvT C.2.2.2.1 (hw _ (List.mem_of_getElem? (i := 29) rfl)))) (hw _ (List.mem_of_getElem? (i := 29) rfl)) (hw _ (List.mem_of_getElem? (i := 28) rfl)) (hw _ (List.mem_of_getElem? (i := 7) rfl)) (hw _ (List.mem_of_getElem? (i := 30) rfl)) (by decide) (W := 0) (rm := rm_5) (argsL := []) (st := []) (lenOf pd_4 rfl) rfl rfl (Nat.le_of_eq rfl) (by decide) (by decide) (by decide) (by decide) (upd_at ne_a55_q upd_same) (c_bytes l Z a0 hw n0 _ a55 q g86 bc86 pc86 pd86 (app (app (app (fun _ => false) (8 * 0 + 0) v1 c1) (8 * B69 + P69) v2 c2) (8 * B77 + P77) v3 c3) B86 P86 (upd_at ne_a55_q upd_same) upd_same hb86 hp86 h886 (by omega) hs86 hg86) (nxR fun z91 μ91 z91_r h91 => ?_)
  obtain ⟨r, M, hh, rfl, r_g, r_f, rfl, hM, hbt⟩ := h91
  have ne_a55_r := r_f _ _ (upd_at ne_a55_q upd_same)
  have ne_q_r := r_f _ _ upd_same
  refine Own.astore C at_94 (q := 96) rfl (L' := #[.val (.int v1), .val (.int u1), .val (.int v2), .val (.int u2), .val (.int v3), .val (.int u3), .val (.int z6), .val (.int z15), .val (.int z28), .val (.int z42), .val (.int z52), .val (.ref a55), .val (.ref r), .unset, .unset, .unset, .unset]) rfl rfl ?_
  refine Own.aload C at_96 (q := 98) rfl rfl rfl ?_
  refine Own.callV C at_98 (q := 101) rfl (hw _ (List.mem_of_getElem? (i := 42) rfl)) (hw _ (List.mem_of_getElem? (i := 43) rfl)) (notFace_of_selects (args := #[]) (mvT C.2.2.2.1 (hw _ (List.mem_of_getElem? (i := 45) rfl)))) (hw _ (List.mem_of_getElem? (i := 45) rfl)) (hw _ (List.mem_of_getElem? (i := 44) rfl)) (hw _ (List.mem_of_getElem? (i := 7) rfl)) (hw _ (List.mem_of_getElem? (i := 46) rfl)) (by decide) (W := 0) (rm := rm_7) (argsL := []) (st := []) (lenOf pd_5 rfl) rfl rfl (Nat.le_of_eq rfl) (by decide) (by decide) (by decide) (by decide) (upd_at ne_a55_r (upd_at ne_a55_q upd_same)) (c_bits l Z a0 hw n0 _ a55 (.ref q) bc86 pc86 pd86 (upd_at ne_a55_r (upd_at ne_a55_q upd_same))) (nxJ fun z98 μ98 h98 => ?_)
  obtain ⟨h98m, h98⟩ := h98
  refine Own.mem h98m ?_
  refine Own.lstore C at_101 (q := 103) rfl (L' := #[.val (.int v1), .val (.int u1), .val (.int v2), .val (.int u2), .val (.int v3), .val (.int u3), .val (.int z6), .val (.int z15), .val (.int z28), .val (.int z42), .val (.int z52), .val (.ref a55), .val (.ref r), .val (.long z98), .second, .unset, .unset]) rfl ?_
  refine Own.iloadN C at_103 (q := 104) rfl rfl ?_
  refine Own.iload C at_104 (q := 106) rfl rfl ?_
  refine Own.iconst C at_106 (q := 107) rfl (z := 0) (by decide) ?_
  refine Own.callS C at_107 (q := 110) rfl (hw _ (List.mem_of_getElem? (i := 48) rfl)) (hw _ (List.mem_of_getElem? (i := 49) rfl)) (hw _ (List.mem_of_getElem? (i := 50) rfl)) (hw _ (List.mem_of_getElem? (i := 51) rfl)) (by decide) (W := 0) (rm := rm_8) (argsL := [(.int v1), (.int z6), (.int (0 : Int32))]) (st := []) (lenOf pd_6 rfl) rfl rfl (Nat.le_of_eq rfl) (by decide) (by decide) (by decide) (by decide) (c_top l Z a0 hw n0 _ v1 z6 (0 : Int32) c1 0 k1 (by decide) l1 (by omega)) (nxJ fun z107 μ107 h107 => ?_)
  obtain ⟨h107m, h107⟩ := h107
  refine Own.mem h107m ?_
  refine Own.iloadN C at_110 (q := 111) rfl rfl ?_
  refine Own.iload C at_111 (q := 113) rfl rfl ?_
  refine Own.iload C at_113 (q := 115) rfl rfl ?_
  refine Own.callS C at_115 (q := 118) rfl (hw _ (List.mem_of_getElem? (i := 48) rfl)) (hw _ (List.mem_of_getElem? (i := 49) rfl)) (hw _ (List.mem_of_getElem? (i := 50) rfl)) (hw _ (List.mem_of_getElem? (i := 51) rfl)) (by decide) (W := 2) (rm := rm_8) (argsL := [(.int v2), (.int z15), (.int z6)]) (st := [(.long z107)]) (lenOf pd_6 rfl) rfl rfl (Nat.le_of_eq rfl) (by decide) (by decide) (by decide) (by decide) (c_top l Z a0 hw n0 _ v2 z15 z6 c2 c1 k2 k1 l2 (by omega)) (nxJ fun z115 μ115 h115 => ?_)
  obtain ⟨h115m, h115⟩ := h115
  refine Own.mem h115m ?_
  refine Own.lor C at_118 (q := 119) rfl fun z118 e118 => ?_
  refine Own.iload C at_119 (q := 121) rfl rfl ?_
  refine Own.iload C at_121 (q := 123) rfl rfl ?_
  refine Own.iload C at_123 (q := 125) rfl rfl ?_
  refine Own.iload C at_125 (q := 127) rfl rfl ?_
  refine Own.iadd C at_127 (q := 128) rfl fun z127 e127 => ?_
  refine Own.callS C at_128 (q := 131) rfl (hw _ (List.mem_of_getElem? (i := 48) rfl)) (hw _ (List.mem_of_getElem? (i := 49) rfl)) (hw _ (List.mem_of_getElem? (i := 50) rfl)) (hw _ (List.mem_of_getElem? (i := 51) rfl)) (by decide) (W := 2) (rm := rm_8) (argsL := [(.int v3), (.int z42), (.int z127)]) (st := [(.long z118)]) (lenOf pd_6 rfl) rfl rfl (Nat.le_of_eq rfl) (by decide) (by decide) (by decide) (by decide) (c_top l Z a0 hw n0 _ v3 z42 z127 c3 (c1 + c2) k3 (by have o1 := c_iadd z6 z15; rw [← e127] at o1; have := rng32 z127; omega) l3 (by omega)) (nxJ fun z128 μ128 h128 => ?_)
  obtain ⟨h128m, h128⟩ := h128
  refine Own.mem h128m ?_
  refine Own.lor C at_131 (q := 132) rfl fun z131 e131 => ?_
  refine Own.lstore C at_132 (q := 134) rfl (L' := #[.val (.int v1), .val (.int u1), .val (.int v2), .val (.int u2), .val (.int v3), .val (.int u3), .val (.int z6), .val (.int z15), .val (.int z28), .val (.int z42), .val (.int z52), .val (.ref a55), .val (.ref r), .val (.long z98), .second, .val (.long z131), .second]) rfl ?_
  have hS := allS l3' (S := (fun _ => false)) h107 h115 h128 e118 e131
  rw [show 8 * 0 + 0 = 0 from rfl, show 8 * B69 + P69 = c1 by omega, show 8 * B77 + P77 = c1 + c2 by omega, show 8 * B86 + P86 = c1 + c2 + c3 by omega] at hbt
  refine Own.lload C at_134 (q := 136) rfl rfl ?_
  refine Own.iload C at_136 (q := 138) rfl rfl ?_
  refine Own.i2l C at_138 (q := 139) rfl fun z138 e138 => ?_
  refine Own.lcmp_eq C at_139 (pc1 := 140) rfl at_140 (q := 143) rfl (r := 145) (by decide) (fun h139 => ?_) (fun h139 => ?_)
  · refine Own.aload C at_145 (q := 147) rfl rfl rfl ?_
    refine Own.arraylength C at_147 (q := 148) rfl upd_same fun z147 e147 e147i => ?_
    refine Own.iload C at_148 (q := 150) rfl rfl ?_
    refine Own.bipush C at_150 (q := 152) rfl (z := 7) (by decide) ?_
    refine Own.iadd C at_152 (q := 153) rfl fun z152 e152 => ?_
    refine Own.bipush C at_153 (q := 155) rfl (z := 8) (by decide) ?_
    refine Own.idiv C at_155 (q := 156) rfl (by decide) fun z155 e155 => ?_
    refine Own.icmp_eq C at_156 (q := 159) rfl (r := 161) (by decide) (fun h156 => ?_) (fun h156 => ?_)
    · refine Own.aload C at_161 (q := 163) rfl rfl rfl ?_
      refine Own.iconst C at_163 (q := 164) rfl (z := 0) (by decide) ?_
      refine Own.lload C at_164 (q := 166) rfl rfl ?_
      refine Own.callS C at_166 (q := 169) rfl (hw _ (List.mem_of_getElem? (i := 52) rfl)) (hw _ (List.mem_of_getElem? (i := 53) rfl)) (hw _ (List.mem_of_getElem? (i := 50) rfl)) (hw _ (List.mem_of_getElem? (i := 54) rfl)) (by decide) (W := 0) (rm := rm_9) (argsL := [(.ref r), (.int (0 : Int32)), (.long z131)]) (st := []) (lenOf pd_7 rfl) rfl rfl (Nat.le_of_eq rfl) (by decide) (by decide) (by decide) (by decide) (c_ok l Z a0 hw n0 _ r (0 : Int32) z131 M 0 hh _ (by decide) (by decide) upd_same hS hbt) (nxI fun z166 μ166 h166 => ?_)
      obtain ⟨h166m, rfl⟩ := h166
      refine Own.mem h166m ?_
      refine Own.if_eq C at_169 (q := 172) rfl (r := 255) (by decide) (fun h169 => ?_) (fun h169 => ?_)
      · exact absurd h169 (by decide)
      · refine Own.aload C at_172 (q := 174) rfl rfl rfl ?_
        refine Own.iconst C at_174 (q := 175) rfl (z := 1) (by decide) ?_
        refine Own.lload C at_175 (q := 177) rfl rfl ?_
        refine Own.callS C at_177 (q := 180) rfl (hw _ (List.mem_of_getElem? (i := 52) rfl)) (hw _ (List.mem_of_getElem? (i := 53) rfl)) (hw _ (List.mem_of_getElem? (i := 50) rfl)) (hw _ (List.mem_of_getElem? (i := 54) rfl)) (by decide) (W := 0) (rm := rm_9) (argsL := [(.ref r), (.int (1 : Int32)), (.long z131)]) (st := []) (lenOf pd_7 rfl) rfl rfl (Nat.le_of_eq rfl) (by decide) (by decide) (by decide) (by decide) (c_ok l Z a0 hw n0 _ r (1 : Int32) z131 M 1 hh _ (by decide) (by decide) upd_same hS hbt) (nxI fun z177 μ177 h177 => ?_)
        obtain ⟨h177m, rfl⟩ := h177
        refine Own.mem h177m ?_
        refine Own.if_eq C at_180 (q := 183) rfl (r := 255) (by decide) (fun h180 => ?_) (fun h180 => ?_)
        · exact absurd h180 (by decide)
        · refine Own.aload C at_183 (q := 185) rfl rfl rfl ?_
          refine Own.iconst C at_185 (q := 186) rfl (z := 2) (by decide) ?_
          refine Own.lload C at_186 (q := 188) rfl rfl ?_
          refine Own.callS C at_188 (q := 191) rfl (hw _ (List.mem_of_getElem? (i := 52) rfl)) (hw _ (List.mem_of_getElem? (i := 53) rfl)) (hw _ (List.mem_of_getElem? (i := 50) rfl)) (hw _ (List.mem_of_getElem? (i := 54) rfl)) (by decide) (W := 0) (rm := rm_9) (argsL := [(.ref r), (.int (2 : Int32)), (.long z131)]) (st := []) (lenOf pd_7 rfl) rfl rfl (Nat.le_of_eq rfl) (by decide) (by decide) (by decide) (by decide) (c_ok l Z a0 hw n0 _ r (2 : Int32) z131 M 2 hh _ (by decide) (by decide) upd_same hS hbt) (nxI fun z188 μ188 h188 => ?_)
          obtain ⟨h188m, rfl⟩ := h188
          refine Own.mem h188m ?_
          refine Own.if_eq C at_191 (q := 194) rfl (r := 255) (by decide) (fun h191 => ?_) (fun h191 => ?_)
          · exact absurd h191 (by decide)
          · refine Own.aload C at_194 (q := 196) rfl rfl rfl ?_
            refine Own.iconst C at_196 (q := 197) rfl (z := 3) (by decide) ?_
            refine Own.lload C at_197 (q := 199) rfl rfl ?_
            refine Own.callS C at_199 (q := 202) rfl (hw _ (List.mem_of_getElem? (i := 52) rfl)) (hw _ (List.mem_of_getElem? (i := 53) rfl)) (hw _ (List.mem_of_getElem? (i := 50) rfl)) (hw _ (List.mem_of_getElem? (i := 54) rfl)) (by decide) (W := 0) (rm := rm_9) (argsL := [(.ref r), (.int (3 : Int32)), (.long z131)]) (st := []) (lenOf pd_7 rfl) rfl rfl (Nat.le_of_eq rfl) (by decide) (by decide) (by decide) (by decide) (c_ok l Z a0 hw n0 _ r (3 : Int32) z131 M 3 hh _ (by decide) (by decide) upd_same hS hbt) (nxI fun z199 μ199 h199 => ?_)
            obtain ⟨h199m, rfl⟩ := h199
            refine Own.mem h199m ?_
            refine Own.if_eq C at_202 (q := 205) rfl (r := 255) (by decide) (fun h202 => ?_) (fun h202 => ?_)
            · exact absurd h202 (by decide)
            · refine Own.aload C at_205 (q := 207) rfl rfl rfl ?_
              refine Own.iconst C at_207 (q := 208) rfl (z := 4) (by decide) ?_
              refine Own.lload C at_208 (q := 210) rfl rfl ?_
              refine Own.callS C at_210 (q := 213) rfl (hw _ (List.mem_of_getElem? (i := 52) rfl)) (hw _ (List.mem_of_getElem? (i := 53) rfl)) (hw _ (List.mem_of_getElem? (i := 50) rfl)) (hw _ (List.mem_of_getElem? (i := 54) rfl)) (by decide) (W := 0) (rm := rm_9) (argsL := [(.ref r), (.int (4 : Int32)), (.long z131)]) (st := []) (lenOf pd_7 rfl) rfl rfl (Nat.le_of_eq rfl) (by decide) (by decide) (by decide) (by decide) (c_ok l Z a0 hw n0 _ r (4 : Int32) z131 M 4 hh _ (by decide) (by decide) upd_same hS hbt) (nxI fun z210 μ210 h210 => ?_)
              obtain ⟨h210m, rfl⟩ := h210
              refine Own.mem h210m ?_
              refine Own.if_eq C at_213 (q := 216) rfl (r := 255) (by decide) (fun h213 => ?_) (fun h213 => ?_)
              · exact absurd h213 (by decide)
              · refine Own.aload C at_216 (q := 218) rfl rfl rfl ?_
                refine Own.iconst C at_218 (q := 219) rfl (z := 5) (by decide) ?_
                refine Own.lload C at_219 (q := 221) rfl rfl ?_
                refine Own.callS C at_221 (q := 224) rfl (hw _ (List.mem_of_getElem? (i := 52) rfl)) (hw _ (List.mem_of_getElem? (i := 53) rfl)) (hw _ (List.mem_of_getElem? (i := 50) rfl)) (hw _ (List.mem_of_getElem? (i := 54) rfl)) (by decide) (W := 0) (rm := rm_9) (argsL := [(.ref r), (.int (5 : Int32)), (.long z131)]) (st := []) (lenOf pd_7 rfl) rfl rfl (Nat.le_of_eq rfl) (by decide) (by decide) (by decide) (by decide) (c_ok l Z a0 hw n0 _ r (5 : Int32) z131 M 5 hh _ (by decide) (by decide) upd_same hS hbt) (nxI fun z221 μ221 h221 => ?_)
                obtain ⟨h221m, rfl⟩ := h221
                refine Own.mem h221m ?_
                refine Own.if_eq C at_224 (q := 227) rfl (r := 255) (by decide) (fun h224 => ?_) (fun h224 => ?_)
                · exact absurd h224 (by decide)
                · refine Own.aload C at_227 (q := 229) rfl rfl rfl ?_
                  refine Own.bipush C at_229 (q := 231) rfl (z := 6) (by decide) ?_
                  refine Own.lload C at_231 (q := 233) rfl rfl ?_
                  refine Own.callS C at_233 (q := 236) rfl (hw _ (List.mem_of_getElem? (i := 52) rfl)) (hw _ (List.mem_of_getElem? (i := 53) rfl)) (hw _ (List.mem_of_getElem? (i := 50) rfl)) (hw _ (List.mem_of_getElem? (i := 54) rfl)) (by decide) (W := 0) (rm := rm_9) (argsL := [(.ref r), (.int (6 : Int32)), (.long z131)]) (st := []) (lenOf pd_7 rfl) rfl rfl (Nat.le_of_eq rfl) (by decide) (by decide) (by decide) (by decide) (c_ok l Z a0 hw n0 _ r (6 : Int32) z131 M 6 hh _ (by decide) (by decide) upd_same hS hbt) (nxI fun z233 μ233 h233 => ?_)
                  obtain ⟨h233m, rfl⟩ := h233
                  refine Own.mem h233m ?_
                  refine Own.if_eq C at_236 (q := 239) rfl (r := 255) (by decide) (fun h236 => ?_) (fun h236 => ?_)
                  · exact absurd h236 (by decide)
                  · refine Own.aload C at_239 (q := 241) rfl rfl rfl ?_
                    refine Own.bipush C at_241 (q := 243) rfl (z := 7) (by decide) ?_
                    refine Own.lload C at_243 (q := 245) rfl rfl ?_
                    refine Own.callS C at_245 (q := 248) rfl (hw _ (List.mem_of_getElem? (i := 52) rfl)) (hw _ (List.mem_of_getElem? (i := 53) rfl)) (hw _ (List.mem_of_getElem? (i := 50) rfl)) (hw _ (List.mem_of_getElem? (i := 54) rfl)) (by decide) (W := 0) (rm := rm_9) (argsL := [(.ref r), (.int (7 : Int32)), (.long z131)]) (st := []) (lenOf pd_7 rfl) rfl rfl (Nat.le_of_eq rfl) (by decide) (by decide) (by decide) (by decide) (c_ok l Z a0 hw n0 _ r (7 : Int32) z131 M 7 hh _ (by decide) (by decide) upd_same hS hbt) (nxI fun z245 μ245 h245 => ?_)
                    obtain ⟨h245m, rfl⟩ := h245
                    refine Own.mem h245m ?_
                    refine Own.if_eq C at_248 (q := 251) rfl (r := 255) (by decide) (fun h248 => ?_) (fun h248 => ?_)
                    · exact absurd h248 (by decide)
                    · refine Own.iconst C at_251 (q := 252) rfl (z := 1) (by decide) ?_
                      refine Own.goto C at_252 (q := 256) (by decide) ?_
                      refine Own.nreturn C at_256 (by simp) (z' := (1 : Int32)) (by decide) (by decide) (by decide) ?_
                      rfl
    · refine absurd (Int32.toInt_inj.mp ?_) h156; rw [e147i, ar_len]; have o1 := c_iadd z52 7; rw [← e152] at o1; have := rng32 z152; simp only [show (7 : Int32).toInt = 7 from rfl] at o1; have o2 := (c_idiv z152 8 8 (by decide) (by decide)).1 (by omega); rw [← e155] at o2; omega
  · refine absurd (Int64.toInt_inj.mp ?_) h139; have o := c_i2l z52; rw [← e138] at o; rw [h98, o, htot]; omega
set_option maxRecDepth 65536 in
set_option maxHeartbeats 4000000 in
theorem comes_1 {Post : Tables → Env → Array Value → State → Outcome → State → Prop} (hpost : ∀ tb e args s v u, (limb_1_1.after args s (.returned v) u = true ∧ limb_1_2.after args s (.returned v) u = true ∧ True) → FrameEnd s (.returned v) u (Jvm.fieldLocs frame_1_writes args s ++ Jvm.arrayLocs frame_1_arrays args s ++ Jvm.staticLocs frame_1_statics s) 16 256 → Post tb e args s (.returned v) u) :
    ArmFor flags0 classFile x code maxLocals ret World_1 tables_1 room_1 Calls_1 rest_1 Pre_1 Post := by
  intro l hfl _ _ p e ha hc hk s m args below hf hA hF happ hP
  obtain ⟨hcalls, hrest, hpre⟩ := hP
  obtain ⟨-, -, -, hnamed, -, -, -, hat⟩ := (Spec.applies_iff hf).mp happ
  obtain ⟨hg, hn⟩ := and_e (Cond.before_iff.mp (show (Jvm.Cond.and given_1 narrow_1).before args s = true from hpre))
  obtain ⟨g0, hg⟩ := and_e hg
  obtain ⟨g1, hg⟩ := and_e hg
  obtain ⟨g2, hg⟩ := and_e hg
  obtain ⟨g3, hg⟩ := and_e hg
  obtain ⟨g4, hg⟩ := and_e hg
  obtain ⟨g5, hg⟩ := and_e hg
  have g6 := hg
  obtain ⟨w0, w1, w2, w3, w4, w5, rfl⟩ : ∃ w0 w1 w2 w3 w4 w5 : Value, args = #[w0, w1, w2, w3, w4, w5] := by
    have hs : args.size = 6 := by simpa [Cond.value, given_1] using g0
    obtain ⟨L⟩ := args
    match L, hs with
    | [w0, w1, w2, w3, w4, w5], _ => exact ⟨w0, w1, w2, w3, w4, w5, rfl⟩
  have hw := fun d (hd : d ∈ tables_1) => atoms_spec (ws := Jvm.Cond.code x code maxLocals ret :: tables_1) hat d (List.mem_cons_of_mem _ hd)
  have hfit : Fit s := fun {y c} hc i hi => by
    obtain ⟨ha, rfl⟩ := Array.getElem?_eq_some_iff.mp hc
    have q := List.all_eq_true.mp ((Array.all_eq_true_iff_forall_mem.mp hF) _ (Array.getElem_mem ha)) i (List.mem_range.mpr hi)
    simpa [Array.getElem?_eq_getElem hi] using q
  obtain ⟨i0, ei0⟩ := is_v g1
  obtain rfl : w0 = (.int i0) := Option.some.inj ei0
  obtain ⟨i1, ei1⟩ := is_v g2
  obtain rfl : w1 = (.int i1) := Option.some.inj ei1
  obtain ⟨i2, ei2⟩ := is_v g3
  obtain rfl : w2 = (.int i2) := Option.some.inj ei2
  obtain ⟨i3, ei3⟩ := is_v g4
  obtain rfl : w3 = (.int i3) := Option.some.inj ei3
  obtain ⟨i4, ei4⟩ := is_v g5
  obtain rfl : w4 = (.int i4) := Option.some.inj ei4
  obtain ⟨i5, ei5⟩ := is_v g6
  obtain rfl : w5 = (.int i5) := Option.some.inj ei5
  obtain ⟨n, o, h1, h2, h3, _, L, rfl, ⟨N, _, -, rfl⟩, hq⟩ := c_law l s _ hw s.heap.size (fun _ => none) i0 i1 i2 i3 i4 i5 s.heap ⟨Old.start s, fun _ _ q => nomatch q⟩ p e ha hc hk s m _ below hf ((Spec.applies_iff_loose hf).mp happ).1 ⟨rfl, State.Warmed39.refl s, rfl⟩ trivial
  refine ⟨n, _, h1, h2, h3, hpost _ _ _ _ _ _ ⟨Cond.after_iff.mpr rfl, Cond.after_iff.mpr (eq_i res_at (Term.int_eval (1)) rfl), trivial⟩ ⟨hq.1, hq.2.1, (hq.2.2.sift fun y hy => Or.inr (N y hy)).mono (by decide) (by decide)⟩⟩
theorem main_1_1 : Claimed_1_1 := comes_1 fun _ _ _ _ _ _ h hF => ⟨h.1, hF⟩
theorem main_1_2 : Claimed_1_2 := comes_1 fun _ _ _ _ _ _ h hF => ⟨h.2.1, hF⟩
end Jvm.Pilot.@@N@@
namespace Jvm.Pilot.@@N@@
open Jvm Jvm.ClassFile Sem Op Lib Jvm.Free Jvm.Stand Jvm.Pilot.@@N@@.Jvm.D
/-! MADE BY PROGRAM (witnessworld.py) out of the Statement's table words and the real class files: 12 classes; the members and pool entries that the words name. The judged class is class 1, her method 3. -/
namespace start1
open Jvm.ClassFile
def u (s : String) : CpInfo := .utf8 (stringToUtf16 s)
/-- a pool by its gaps: so many unusable entries, then the entry; so many at the end -/
def gap : Nat → List CpInfo → List CpInfo
  | 0, r => r
  | n + 1, r => .unusable :: gap n r
def poolList (es : List (Nat × CpInfo)) (last : Nat) : List CpInfo := es.foldr (fun e r => gap e.1 (e.2 :: r)) (gap last [])
def pool (es : List (Nat × CpInfo)) (last : Nat) : Array CpInfo := ⟨poolList es last⟩
def fileOf (pool : Array CpInfo) (this : Nat) (attrs : Array Attribute := #[]) (ms : Array MethodInfo := #[]) (fl : Nat := 33) (sup : Nat := 0) (ifs : Array Nat := #[]) (fds : Array FieldInfo := #[]) : ClassFile where
  minorVersion := 0
  majorVersion := 65
  constantPool := pool
  accessFlags := fl
  thisClass := this
  superClass := sup
  interfaces := ifs
  fields := fds
  methods := ms
  attributes := attrs
def plain (name : String) (sup : Option ClassId) : Class where
  name := name
  kind := .ordinary
  loader := none
  accessFlags := 33
  super := sup
  interfaces := #[]
  cf := none
  fields := #[]
  methods := #[]
  instanceTypes := #[]
  staticTypes := #[]
  resolved := #[]
  callSites := []
  init := .initialized
  statics := none
  mirror := none

def pool0 : Array CpInfo := pool [(5, u "<init>"), (0, u "()V"), (1, .class_ 10), (1, u "java/lang/Object")] 113

def k0c0 : Code := { maxStack := 0, maxLocals := 1, code := object_method_1_code, exceptionTable := #[], attributes := #[] }
def k0m0 : Method := { name := "<init>", desc := "()V", sig := { parameters := [], returnType := none }, accessFlags := 1, code := some k0c0 }
/-- java/lang/Object -/
def k0 : Class := { plain "java/lang/Object" none with
  accessFlags := 33
  interfaces := #[]
  cf := some (fileOf pool0 8 #[] #[{ accessFlags := 1, nameIndex := 5, descriptorIndex := 6, attributes := #[] }] 33 0 #[] #[])
  fields := #[]
  methods := #[k0m0]
  instanceTypes := #[]
  staticTypes := #[]
  resolved := Array.replicate 124 none
  statics := none }

def pool1 : Array CpInfo := pool [(2, .class_ 4), (0, .nameAndType 5 6), (0, u "java/lang/Object"), (0, u "<init>"), (0, u "()V"), (0, .integer 2147483647), (0, .methodref 9 10), (0, .class_ 11), (0, .nameAndType 12 13), (0, u "java/lang/Math"), (0, u "min"), (0, u "(II)I"), (0, .class_ 15), (0, u "com/example/thin_index/thinindex/BitWriter"), (0, .methodref 14 3), (0, .methodref 14 18), (0, .nameAndType 19 20), (0, u "write"), (0, u "(II)V"), (0, .methodref 14 22), (0, .nameAndType 23 24), (0, u "toByteArray"), (0, u "()[B"), (0, .methodref 14 26), (0, .nameAndType 27 28), (0, u "bitCount"), (0, u "()J"), (0, .methodref 30 31), (0, .class_ 32), (0, .nameAndType 33 34), (0, u "com/example/thin_index/thinindex/BitWriterWritePinLaw"), (0, u "top"), (0, u "(III)J"), (0, .methodref 30 36), (0, .nameAndType 37 38), (0, u "byteOk"), (0, u "([BIJ)Z"), (3, u "law"), (0, u "(IIIIII)Z")] 4

def k1m0 : Method := { name := "<init>", desc := "()V", sig := { parameters := [], returnType := none }, accessFlags := 1, code := none }
def k1c1 : Code := { maxStack := 4, maxLocals := 3, code := method_2_code, exceptionTable := #[], attributes := #[] }
def k1m1 : Method := { name := "top", desc := "(III)J", sig := { parameters := [.int, .int, .int], returnType := some .long }, accessFlags := 10, code := some k1c1 }
def k1c2 : Code := { maxStack := 6, maxLocals := 4, code := method_3_code, exceptionTable := #[], attributes := #[] }
def k1m2 : Method := { name := "byteOk", desc := "([BIJ)Z", sig := { parameters := [(.array .byte), .int, .long], returnType := some .boolean }, accessFlags := 10, code := some k1c2 }
def k1c3 : Code := { maxStack := 6, maxLocals := 17, code := code, exceptionTable := #[], attributes := #[] }
def k1m3 : Method := { name := "law", desc := "(IIIIII)Z", sig := { parameters := [.int, .int, .int, .int, .int, .int], returnType := some .boolean }, accessFlags := 9, code := some k1c3 }
/-- com/example/thin_index/thinindex/BitWriterWritePinLaw -/
def k1 : Class := { plain "com/example/thin_index/thinindex/BitWriterWritePinLaw" (some 0) with
  accessFlags := 49
  interfaces := #[]
  cf := some (fileOf pool1 30 #[] #[{ accessFlags := 1, nameIndex := 5, descriptorIndex := 6, attributes := #[] }, { accessFlags := 10, nameIndex := 33, descriptorIndex := 34, attributes := #[] }, { accessFlags := 10, nameIndex := 37, descriptorIndex := 38, attributes := #[] }, { accessFlags := 9, nameIndex := 42, descriptorIndex := 43, attributes := #[] }] 49 2 #[] #[])
  fields := #[]
  methods := #[k1m0, k1m1, k1m2, k1m3]
  instanceTypes := #[]
  staticTypes := #[]
  resolved := Array.replicate 48 none
  statics := none }

def pool2 : Array CpInfo := pool [(1, .class_ 2), (0, u "java/lang/Math"), (1, .class_ 6), (1, u "java/lang/Object"), (0, u "<init>"), (0, u "()V"), (89, .class_ 100), (1, u "java/lang/Math$RandomNumberGeneratorHolder"), (71, u "negativeZeroFloatBits"), (0, u "J"), (2, u "negativeZeroDoubleBits"), (24, u "min"), (43, u "$assertionsDisabled"), (0, u "Z"), (88, u "(II)I"), (2, u "twoToTheDoubleScaleDown"), (0, u "D"), (4, u "twoToTheDoubleScaleUp"), (9, u "E"), (3, u "PI"), (2, u "TAU"), (2, u "DEGREES_TO_RADIANS"), (0, u "RADIANS_TO_DEGREES")] 94

def k2m0 : Method := { name := "<init>", desc := "()V", sig := { parameters := [], returnType := none }, accessFlags := 2, code := none }
def k2c1 : Code := { maxStack := 2, maxLocals := 2, code := jdk_29_method_69_code, exceptionTable := #[], attributes := #[] }
def k2m1 : Method := { name := "min", desc := "(II)I", sig := { parameters := [.int, .int], returnType := some .int }, accessFlags := 9, code := some k2c1 }
/-- java/lang/Math -/
def k2 : Class := { plain "java/lang/Math" (some 0) with
  accessFlags := 49
  interfaces := #[]
  cf := some (fileOf pool2 1 #[.nestMembers #[98]] #[{ accessFlags := 2, nameIndex := 7, descriptorIndex := 8, attributes := #[] }, { accessFlags := 9, nameIndex := 201, descriptorIndex := 335, attributes := #[] }] 49 4 #[] #[{ accessFlags := 25, nameIndex := 354, descriptorIndex := 339, attributes := #[] }, { accessFlags := 25, nameIndex := 358, descriptorIndex := 339, attributes := #[] }, { accessFlags := 25, nameIndex := 361, descriptorIndex := 339, attributes := #[] }, { accessFlags := 26, nameIndex := 364, descriptorIndex := 339, attributes := #[] }, { accessFlags := 26, nameIndex := 365, descriptorIndex := 339, attributes := #[] }, { accessFlags := 26, nameIndex := 172, descriptorIndex := 173, attributes := #[] }, { accessFlags := 26, nameIndex := 176, descriptorIndex := 173, attributes := #[] }, { accessFlags := 8, nameIndex := 344, descriptorIndex := 339, attributes := #[] }, { accessFlags := 8, nameIndex := 338, descriptorIndex := 339, attributes := #[] }, { accessFlags := 4120, nameIndex := 245, descriptorIndex := 246, attributes := #[] }])
  fields := #[{ name := "E", type := .double, accessFlags := 25, slot := 0, constantValue := 0 }, { name := "PI", type := .double, accessFlags := 25, slot := 1, constantValue := 0 }, { name := "TAU", type := .double, accessFlags := 25, slot := 2, constantValue := 0 }, { name := "DEGREES_TO_RADIANS", type := .double, accessFlags := 26, slot := 3, constantValue := 0 }, { name := "RADIANS_TO_DEGREES", type := .double, accessFlags := 26, slot := 4, constantValue := 0 }, { name := "negativeZeroFloatBits", type := .long, accessFlags := 26, slot := 5, constantValue := 0 }, { name := "negativeZeroDoubleBits", type := .long, accessFlags := 26, slot := 6, constantValue := 0 }, { name := "twoToTheDoubleScaleUp", type := .double, accessFlags := 8, slot := 7, constantValue := 0 }, { name := "twoToTheDoubleScaleDown", type := .double, accessFlags := 8, slot := 8, constantValue := 0 }, { name := "$assertionsDisabled", type := .boolean, accessFlags := 4120, slot := 9, constantValue := 0 }]
  methods := #[k2m0, k2m1]
  instanceTypes := #[]
  staticTypes := #[.double, .double, .double, .double, .double, .long, .long, .double, .double, .boolean]
  resolved := Array.replicate 460 none
  statics := none }

def pool3 : Array CpInfo := pool [(1, .methodref 2 3), (0, .class_ 4), (0, .nameAndType 5 6), (0, u "java/lang/Object"), (0, u "<init>"), (0, u "()V"), (0, .fieldref 8 9), (0, .class_ 10), (0, .nameAndType 11 12), (0, u "com/example/thin_index/thinindex/BitWriter"), (0, u "bytes"), (0, u "[B"), (0, .fieldref 8 14), (0, .nameAndType 15 16), (0, u "pending"), (0, u "J"), (0, .fieldref 8 18), (0, .nameAndType 19 20), (0, u "pendingCount"), (0, u "I"), (2, .fieldref 8 24), (0, .nameAndType 25 20), (0, u "byteCount"), (0, .methodref 27 28), (0, .class_ 29), (0, .nameAndType 30 31), (0, u "java/util/Arrays"), (0, u "copyOf"), (0, u "([BI)[B"), (0, .long 8), (3, u "write"), (0, u "(II)V"), (1, u "bitCount"), (0, u "()J"), (0, u "toByteArray"), (0, u "()[B")] 3

def k3c0 : Code := { maxStack := 2, maxLocals := 1, code := prog_4_method_1_code, exceptionTable := #[], attributes := #[] }
def k3m0 : Method := { name := "<init>", desc := "()V", sig := { parameters := [], returnType := none }, accessFlags := 0, code := some k3c0 }
def k3c1 : Code := { maxStack := 9, maxLocals := 3, code := prog_4_method_2_code, exceptionTable := #[], attributes := #[] }
def k3m1 : Method := { name := "write", desc := "(II)V", sig := { parameters := [.int, .int], returnType := none }, accessFlags := 0, code := some k3c1 }
def k3c2 : Code := { maxStack := 4, maxLocals := 1, code := prog_4_method_3_code, exceptionTable := #[], attributes := #[] }
def k3m2 : Method := { name := "bitCount", desc := "()J", sig := { parameters := [], returnType := some .long }, accessFlags := 0, code := some k3c2 }
def k3c3 : Code := { maxStack := 6, maxLocals := 2, code := prog_4_method_4_code, exceptionTable := #[], attributes := #[] }
def k3m3 : Method := { name := "toByteArray", desc := "()[B", sig := { parameters := [], returnType := some (.array .byte) }, accessFlags := 0, code := some k3c3 }
/-- com/example/thin_index/thinindex/BitWriter -/
def k3 : Class := { plain "com/example/thin_index/thinindex/BitWriter" (some 0) with
  accessFlags := 48
  interfaces := #[]
  cf := some (fileOf pool3 8 #[] #[{ accessFlags := 0, nameIndex := 5, descriptorIndex := 6, attributes := #[] }, { accessFlags := 0, nameIndex := 36, descriptorIndex := 37, attributes := #[] }, { accessFlags := 0, nameIndex := 39, descriptorIndex := 40, attributes := #[] }, { accessFlags := 0, nameIndex := 41, descriptorIndex := 42, attributes := #[] }] 48 2 #[] #[{ accessFlags := 2, nameIndex := 11, descriptorIndex := 12, attributes := #[] }, { accessFlags := 2, nameIndex := 25, descriptorIndex := 20, attributes := #[] }, { accessFlags := 2, nameIndex := 15, descriptorIndex := 16, attributes := #[] }, { accessFlags := 2, nameIndex := 19, descriptorIndex := 20, attributes := #[] }])
  fields := #[{ name := "bytes", type := (.array .byte), accessFlags := 2, slot := 0, constantValue := 0 }, { name := "byteCount", type := .int, accessFlags := 2, slot := 1, constantValue := 0 }, { name := "pending", type := .long, accessFlags := 2, slot := 2, constantValue := 0 }, { name := "pendingCount", type := .int, accessFlags := 2, slot := 3, constantValue := 0 }]
  methods := #[k3m0, k3m1, k3m2, k3m3]
  instanceTypes := #[(.array .byte), .int, .long, .int]
  staticTypes := #[]
  resolved := Array.replicate 46 none
  statics := none }

def pool4 : Array CpInfo := pool [(2, .class_ 4), (1, u "java/lang/Object"), (0, u "<init>"), (0, u "()V"), (7, .class_ 16), (1, u "java/util/Arrays"), (57, .class_ 76), (1, u "java/util/Arrays$NaturalOrder"), (36, .class_ 115), (1, u "java/util/Arrays$LegacyMergeSort"), (1, u "Z"), (32, .methodref 151 152), (0, .class_ 153), (0, .nameAndType 154 155), (0, u "java/lang/System"), (0, u "arraycopy"), (0, u "(Ljava/lang/Object;ILjava/lang/Object;II)V"), (146, u "copyOf"), (1, .methodref 305 306), (0, .class_ 307), (0, .nameAndType 308 309), (0, u "java/lang/Math"), (0, u "min"), (0, u "(II)I"), (65, .class_ 376), (0, u "java/util/Arrays$ArrayList"), (68, u "$assertionsDisabled"), (269, u "MIN_ARRAY_SORT_GRAN"), (0, u "I"), (2, u "INSERTIONSORT_THRESHOLD"), (149, u "([BI)[B"), (105, .class_ 976), (0, u "java/util/Arrays$ArrayItr")] 52

def k4m0 : Method := { name := "<init>", desc := "()V", sig := { parameters := [], returnType := none }, accessFlags := 2, code := none }
def k4c1 : Code := { maxStack := 6, maxLocals := 3, code := jdk_65_method_121_code, exceptionTable := #[], attributes := #[] }
def k4m1 : Method := { name := "copyOf", desc := "([BI)[B", sig := { parameters := [(.array .byte), .int], returnType := some (.array .byte) }, accessFlags := 9, code := some k4c1 }
/-- java/util/Arrays -/
def k4 : Class := { plain "java/util/Arrays" (some 0) with
  accessFlags := 49
  interfaces := #[]
  cf := some (fileOf pool4 14 #[.nestMembers #[975, 375, 113, 74]] #[{ accessFlags := 2, nameIndex := 5, descriptorIndex := 6, attributes := #[] }, { accessFlags := 9, nameIndex := 302, descriptorIndex := 869, attributes := #[] }] 49 2 #[] #[{ accessFlags := 26, nameIndex := 715, descriptorIndex := 716, attributes := #[] }, { accessFlags := 26, nameIndex := 719, descriptorIndex := 716, attributes := #[] }, { accessFlags := 4120, nameIndex := 445, descriptorIndex := 117, attributes := #[] }])
  fields := #[{ name := "MIN_ARRAY_SORT_GRAN", type := .int, accessFlags := 26, slot := 0, constantValue := 0 }, { name := "INSERTIONSORT_THRESHOLD", type := .int, accessFlags := 26, slot := 1, constantValue := 0 }, { name := "$assertionsDisabled", type := .boolean, accessFlags := 4120, slot := 2, constantValue := 0 }]
  methods := #[k4m0, k4m1]
  instanceTypes := #[]
  staticTypes := #[.int, .int, .boolean]
  resolved := Array.replicate 1029 none
  statics := none }

def pool5 : Array CpInfo := pool [(2, .class_ 4), (1, u "java/lang/Object"), (0, u "<init>"), (0, u "()V"), (1, .class_ 10), (1, u "java/lang/System"), (0, u "allowSecurityManager"), (0, u "I"), (16, u "cons"), (0, u "Ljava/io/Console;"), (77, .class_ 110), (1, u "java/lang/System$CallersHolder"), (43, u "initialErrStream"), (0, u "Ljava/io/PrintStream;"), (19, u "security"), (0, u "Ljava/lang/SecurityManager;"), (31, .class_ 209), (0, u "java/lang/System$1"), (7, u "props"), (0, u "Ljava/util/Properties;"), (2, u "lineSeparator"), (0, u "Ljava/lang/String;"), (96, .class_ 321), (1, u "java/lang/System$LoggerFinder"), (5, .class_ 328), (0, u "java/lang/System$Logger"), (67, u "err"), (2, u "out"), (91, u "notSupportedJnuEncoding"), (15, u "in"), (17, u "initialIn"), (0, u "Ljava/io/InputStream;"), (35, u "bootLayer"), (0, u "Ljava/lang/ModuleLayer;"), (99, .class_ 664), (0, u "java/lang/System$2"), (9, u "NEVER"), (2, u "MAYBE"), (49, u "arraycopy"), (0, u "(Ljava/lang/Object;ILjava/lang/Object;II)V"), (72, .class_ 802), (0, u "java/lang/System$Logger$Level")] 31

def k5m0 : Method := { name := "<init>", desc := "()V", sig := { parameters := [], returnType := none }, accessFlags := 2, code := none }
def k5m1 : Method := { name := "arraycopy", desc := "(Ljava/lang/Object;ILjava/lang/Object;II)V", sig := { parameters := [(.object "java/lang/Object"), .int, (.object "java/lang/Object"), .int, .int], returnType := none }, accessFlags := 265, code := none }
/-- java/lang/System -/
def k5 : Class := { plain "java/lang/System" (some 0) with
  accessFlags := 49
  interfaces := #[]
  cf := some (fileOf pool5 8 #[.nestMembers #[319, 327, 801, 108, 663, 208]] #[{ accessFlags := 2, nameIndex := 5, descriptorIndex := 6, attributes := #[] }, { accessFlags := 265, nameIndex := 727, descriptorIndex := 728, attributes := #[] }] 49 2 #[] #[{ accessFlags := 25, nameIndex := 507, descriptorIndex := 526, attributes := #[] }, { accessFlags := 25, nameIndex := 399, descriptorIndex := 155, attributes := #[] }, { accessFlags := 25, nameIndex := 396, descriptorIndex := 155, attributes := #[] }, { accessFlags := 10, nameIndex := 525, descriptorIndex := 526, attributes := #[] }, { accessFlags := 26, nameIndex := 674, descriptorIndex := 12, attributes := #[] }, { accessFlags := 26, nameIndex := 677, descriptorIndex := 12, attributes := #[] }, { accessFlags := 10, nameIndex := 11, descriptorIndex := 12, attributes := #[] }, { accessFlags := 74, nameIndex := 175, descriptorIndex := 176, attributes := #[] }, { accessFlags := 10, nameIndex := 491, descriptorIndex := 222, attributes := #[] }, { accessFlags := 74, nameIndex := 29, descriptorIndex := 30, attributes := #[] }, { accessFlags := 74, nameIndex := 154, descriptorIndex := 155, attributes := #[] }, { accessFlags := 10, nameIndex := 217, descriptorIndex := 218, attributes := #[] }, { accessFlags := 10, nameIndex := 221, descriptorIndex := 222, attributes := #[] }, { accessFlags := 8, nameIndex := 562, descriptorIndex := 563, attributes := #[] }])
  fields := #[{ name := "in", type := (.object "java/io/InputStream"), accessFlags := 25, slot := 0, constantValue := 0 }, { name := "out", type := (.object "java/io/PrintStream"), accessFlags := 25, slot := 1, constantValue := 0 }, { name := "err", type := (.object "java/io/PrintStream"), accessFlags := 25, slot := 2, constantValue := 0 }, { name := "initialIn", type := (.object "java/io/InputStream"), accessFlags := 10, slot := 3, constantValue := 0 }, { name := "NEVER", type := .int, accessFlags := 26, slot := 4, constantValue := 0 }, { name := "MAYBE", type := .int, accessFlags := 26, slot := 5, constantValue := 0 }, { name := "allowSecurityManager", type := .int, accessFlags := 10, slot := 6, constantValue := 0 }, { name := "security", type := (.object "java/lang/SecurityManager"), accessFlags := 74, slot := 7, constantValue := 0 }, { name := "notSupportedJnuEncoding", type := (.object "java/lang/String"), accessFlags := 10, slot := 8, constantValue := 0 }, { name := "cons", type := (.object "java/io/Console"), accessFlags := 74, slot := 9, constantValue := 0 }, { name := "initialErrStream", type := (.object "java/io/PrintStream"), accessFlags := 74, slot := 10, constantValue := 0 }, { name := "props", type := (.object "java/util/Properties"), accessFlags := 10, slot := 11, constantValue := 0 }, { name := "lineSeparator", type := (.object "java/lang/String"), accessFlags := 10, slot := 12, constantValue := 0 }, { name := "bootLayer", type := (.object "java/lang/ModuleLayer"), accessFlags := 8, slot := 13, constantValue := 0 }]
  methods := #[k5m0, k5m1]
  instanceTypes := #[]
  staticTypes := #[(.object "java/io/InputStream"), (.object "java/io/PrintStream"), (.object "java/io/PrintStream"), (.object "java/io/InputStream"), .int, .int, .int, (.object "java/lang/SecurityManager"), (.object "java/lang/String"), (.object "java/io/Console"), (.object "java/io/PrintStream"), (.object "java/util/Properties"), (.object "java/lang/String"), (.object "java/lang/ModuleLayer")]
  resolved := Array.replicate 834 none
  statics := none }

def pool6 : Array CpInfo := pool [(1, u "java/lang/Cloneable"), (0, .class_ 1), (0, u "java/lang/Object"), (0, .class_ 3)] 3

/-- java/lang/Cloneable -/
def k6 : Class := { plain "java/lang/Cloneable" (some 0) with
  accessFlags := 1537
  interfaces := #[]
  cf := some (fileOf pool6 2 #[] #[] 1537 4 #[] #[])
  fields := #[]
  methods := #[]
  instanceTypes := #[]
  staticTypes := #[]
  resolved := Array.replicate 8 none
  statics := none }

def pool7 : Array CpInfo := pool [(1, u "java/io/Serializable"), (0, .class_ 1), (0, u "java/lang/Object"), (0, .class_ 3)] 3

/-- java/io/Serializable -/
def k7 : Class := { plain "java/io/Serializable" (some 0) with
  accessFlags := 1537
  interfaces := #[]
  cf := some (fileOf pool7 2 #[] #[] 1537 4 #[] #[])
  fields := #[]
  methods := #[]
  instanceTypes := #[]
  staticTypes := #[]
  resolved := Array.replicate 8 none
  statics := none }

/-- the primitive byte -/
def k8 : Class := { plain "byte" none with kind := .primitive 'B', accessFlags := 0x411 }
/-- [B -/
def k9 : Class := { plain "[B" (some 0) with kind := .array 8 .byte, interfaces := #[6, 7], accessFlags := 1041 }

/-- the primitive int -/
def k10 : Class := { plain "int" none with kind := .primitive 'I', accessFlags := 0x411 }
/-- [I -/
def k11 : Class := { plain "[I" (some 0) with kind := .array 10 .int, interfaces := #[6, 7], accessFlags := 1041 }

def heap : Heap := #[]
def classes : Array Class := #[k0, k1, k2, k3, k4, k5, k6, k7, k8, k9, k10, k11]
def interned : List (Array UInt16 × Addr) := []
def slotsUsed : Nat := 0
def theMethod : MethodId := ⟨1, 3⟩
def args0 : Array Value := #[.int 5, .int 6, .int 7, .int 8, .int 9, .int 10]
def aboutOver (below : List Frame) : State where
  vm := { classes := classes, interned := interned.toArray }
  heap := heap
  slotsUsed := slotsUsed
  threads := #[{ frames := .invoking theMethod args0 :: below }]
def below0 : List Frame := [.native { method := ⟨0, 0⟩, args := #[] }]
def about1 : State := aboutOver below0
def p0 : Program := .bare "" "" ""
def e0 : Env := launch0.env 0 0 0
theorem w_frames : about1.frames = Frame.invoking theMethod args0 :: below0 := rfl
set_option maxRecDepth 65536 in
theorem w_args : argsFit about1.vm theMethod args0 = true := by decide +kernel
set_option maxRecDepth 65536 in
theorem w_heap : heapFits about1 = true := by decide +kernel
set_option maxRecDepth 65536 in
theorem w_runnable : about1.curStatus? = some .runnable := by decide +kernel
set_option maxRecDepth 65536 in
theorem w_alone : about1.alone = true := by decide +kernel
set_option maxRecDepth 65536 in
theorem w_named : about1.methodNamed? x = some theMethod := by decide +kernel
set_option maxRecDepth 65536 in
theorem w_hears : about1.hears theMethod below0 = true := by decide +kernel
set_option maxRecDepth 65536 in
theorem w_ripe : about1.ripe theMethod args0 below0 = true := by decide +kernel
theorem w_running : about1.status = .running := rfl
set_option maxRecDepth 65536 in
theorem w_room : about1.hasRoom e0.platform room_1 = true :=
  launch0.hasRoom_least _ room_1 (by decide +kernel) (by decide +kernel) (by decide +kernel) (by decide +kernel) (by decide +kernel) (by decide +kernel)
theorem allAtoms_all (ts : List Jvm.Cond) (a : Array Jvm.Value) (st : Jvm.State) : (allAtoms ts).before a st = ts.all (fun c => c.before a st) := by
  induction ts with
  | nil => rfl
  | cons c t ih =>
    show (Jvm.Cond.and c (allAtoms t)).before a st = _
    rw [Jvm.Cond.before_and, ih, List.all_cons]
def words1 : List Jvm.Cond := Jvm.Cond.code x code maxLocals ret :: tables_1
/-- a 'code' word, met by the world's own term for the bytes: nothing is compared byte by byte -/
theorem code_word {y : MethodName} {bytes : ByteArray} {mx : Nat} {rt : Option FieldType} {a : Array Value} {s : State} {m : MethodId} {meth : Method} {c : Code} (h1 : s.methodNamed? y = some m) (h2 : s.vm.method? m = some meth) (h3 : meth.code = some c) (h4 : c.code = bytes)
    (h5 : (c.maxLocals == mx && c.exceptionTable.isEmpty && decide (c.maxStack ≤ mostOperands) && decide (meth.sig.returnType = rt) && !meth.locks && decide (parseMethodDescriptor y.desc = some meth.sig)) = true) : (Jvm.Cond.code y bytes mx rt).before a s = true := by
  simp only [Bool.and_eq_true, beq_iff_eq, Bool.not_eq_true', decide_eq_true_eq] at h5
  obtain ⟨⟨⟨⟨⟨g1, g2⟩, g3⟩, g4⟩, g5⟩, g6⟩ := h5
  simp [Cond.before, Cond.holds, Cond.value, h1, h2, h3, h4, g1, g2, g3, g4, g5, g6]
def isCode : Jvm.Cond → Bool
  | .code _ _ _ _ => true
  | _ => false
theorem all_split {L : List Jvm.Cond} {P : Jvm.Cond → Bool} (h1 : L.all (fun c => isCode c || P c) = true) (h2 : ∀ c ∈ L.filter isCode, P c = true) : L.all P = true := by
  refine List.all_eq_true.mpr fun c hc => ?_
  have h := List.all_eq_true.mp h1 c hc
  rcases Bool.eq_false_or_eq_true (isCode c) with hi | hi
  · exact h2 c (List.mem_filter.mpr ⟨hc, hi⟩)
  · simpa [hi] using h
set_option maxRecDepth 65536 in
theorem w_c0 : (Jvm.Cond.code x code maxLocals ret).before args0 about1 = true := code_word (m := ⟨1, 3⟩) (meth := k1m3) (c := k1c3) (by decide +kernel) rfl rfl rfl (by decide +kernel)
set_option maxRecDepth 65536 in
theorem w_c1 : (Jvm.Cond.code ({ cls := "java/lang/Math", name := "min", desc := "(II)I" } : Jvm.MethodName) jdk_29_method_69_code (2 : Nat) (Option.some Jvm.ClassFile.FieldType.int)).before args0 about1 = true := code_word (m := ⟨2, 1⟩) (meth := k2m1) (c := k2c1) (by decide +kernel) rfl rfl rfl (by decide +kernel)
set_option maxRecDepth 65536 in
theorem w_c2 : (Jvm.Cond.code ({ cls := "com/example/thin_index/thinindex/BitWriter", name := "<init>", desc := "()V" } : Jvm.MethodName) prog_4_method_1_code (1 : Nat) (Option.none : Option Jvm.ClassFile.FieldType)).before args0 about1 = true := code_word (m := ⟨3, 0⟩) (meth := k3m0) (c := k3c0) (by decide +kernel) rfl rfl rfl (by decide +kernel)
set_option maxRecDepth 65536 in
theorem w_c3 : (Jvm.Cond.code ({ cls := "java/lang/Object", name := "<init>", desc := "()V" } : Jvm.MethodName) object_method_1_code (1 : Nat) (Option.none : Option Jvm.ClassFile.FieldType)).before args0 about1 = true := code_word (m := ⟨0, 0⟩) (meth := k0m0) (c := k0c0) (by decide +kernel) rfl rfl rfl (by decide +kernel)
set_option maxRecDepth 65536 in
theorem w_c4 : (Jvm.Cond.code ({ cls := "com/example/thin_index/thinindex/BitWriter", name := "write", desc := "(II)V" } : Jvm.MethodName) prog_4_method_2_code (3 : Nat) (Option.none : Option Jvm.ClassFile.FieldType)).before args0 about1 = true := code_word (m := ⟨3, 1⟩) (meth := k3m1) (c := k3c1) (by decide +kernel) rfl rfl rfl (by decide +kernel)
set_option maxRecDepth 65536 in
theorem w_c5 : (Jvm.Cond.code ({ cls := "com/example/thin_index/thinindex/BitWriter", name := "toByteArray", desc := "()[B" } : Jvm.MethodName) prog_4_method_4_code (2 : Nat) (Option.some (Jvm.ClassFile.FieldType.array Jvm.ClassFile.FieldType.byte))).before args0 about1 = true := code_word (m := ⟨3, 3⟩) (meth := k3m3) (c := k3c3) (by decide +kernel) rfl rfl rfl (by decide +kernel)
set_option maxRecDepth 65536 in
theorem w_c6 : (Jvm.Cond.code ({ cls := "java/util/Arrays", name := "copyOf", desc := "([BI)[B" } : Jvm.MethodName) jdk_65_method_121_code (3 : Nat) (Option.some (Jvm.ClassFile.FieldType.array Jvm.ClassFile.FieldType.byte))).before args0 about1 = true := code_word (m := ⟨4, 1⟩) (meth := k4m1) (c := k4c1) (by decide +kernel) rfl rfl rfl (by decide +kernel)
set_option maxRecDepth 65536 in
theorem w_c7 : (Jvm.Cond.code ({ cls := "com/example/thin_index/thinindex/BitWriter", name := "bitCount", desc := "()J" } : Jvm.MethodName) prog_4_method_3_code (1 : Nat) (Option.some Jvm.ClassFile.FieldType.long)).before args0 about1 = true := code_word (m := ⟨3, 2⟩) (meth := k3m2) (c := k3c2) (by decide +kernel) rfl rfl rfl (by decide +kernel)
set_option maxRecDepth 65536 in
theorem w_c8 : (Jvm.Cond.code ({ cls := "com/example/thin_index/thinindex/BitWriterWritePinLaw", name := "top", desc := "(III)J" } : Jvm.MethodName) method_2_code (3 : Nat) (Option.some Jvm.ClassFile.FieldType.long)).before args0 about1 = true := code_word (m := ⟨1, 1⟩) (meth := k1m1) (c := k1c1) (by decide +kernel) rfl rfl rfl (by decide +kernel)
set_option maxRecDepth 65536 in
theorem w_c9 : (Jvm.Cond.code ({ cls := "com/example/thin_index/thinindex/BitWriterWritePinLaw", name := "byteOk", desc := "([BIJ)Z" } : Jvm.MethodName) method_3_code (4 : Nat) (Option.some Jvm.ClassFile.FieldType.boolean)).before args0 about1 = true := code_word (m := ⟨1, 2⟩) (meth := k1m2) (c := k1c2) (by decide +kernel) rfl rfl rfl (by decide +kernel)
def codes1 : List Jvm.Cond := [Jvm.Cond.code x code maxLocals ret, Jvm.Cond.code ({ cls := "java/lang/Math", name := "min", desc := "(II)I" } : Jvm.MethodName) jdk_29_method_69_code (2 : Nat) (Option.some Jvm.ClassFile.FieldType.int), Jvm.Cond.code ({ cls := "com/example/thin_index/thinindex/BitWriter", name := "<init>", desc := "()V" } : Jvm.MethodName) prog_4_method_1_code (1 : Nat) (Option.none : Option Jvm.ClassFile.FieldType), Jvm.Cond.code ({ cls := "java/lang/Object", name := "<init>", desc := "()V" } : Jvm.MethodName) object_method_1_code (1 : Nat) (Option.none : Option Jvm.ClassFile.FieldType), Jvm.Cond.code ({ cls := "com/example/thin_index/thinindex/BitWriter", name := "write", desc := "(II)V" } : Jvm.MethodName) prog_4_method_2_code (3 : Nat) (Option.none : Option Jvm.ClassFile.FieldType), Jvm.Cond.code ({ cls := "com/example/thin_index/thinindex/BitWriter", name := "toByteArray", desc := "()[B" } : Jvm.MethodName) prog_4_method_4_code (2 : Nat) (Option.some (Jvm.ClassFile.FieldType.array Jvm.ClassFile.FieldType.byte)), Jvm.Cond.code ({ cls := "java/util/Arrays", name := "copyOf", desc := "([BI)[B" } : Jvm.MethodName) jdk_65_method_121_code (3 : Nat) (Option.some (Jvm.ClassFile.FieldType.array Jvm.ClassFile.FieldType.byte)), Jvm.Cond.code ({ cls := "com/example/thin_index/thinindex/BitWriter", name := "bitCount", desc := "()J" } : Jvm.MethodName) prog_4_method_3_code (1 : Nat) (Option.some Jvm.ClassFile.FieldType.long), Jvm.Cond.code ({ cls := "com/example/thin_index/thinindex/BitWriterWritePinLaw", name := "top", desc := "(III)J" } : Jvm.MethodName) method_2_code (3 : Nat) (Option.some Jvm.ClassFile.FieldType.long), Jvm.Cond.code ({ cls := "com/example/thin_index/thinindex/BitWriterWritePinLaw", name := "byteOk", desc := "([BIJ)Z" } : Jvm.MethodName) method_3_code (4 : Nat) (Option.some Jvm.ClassFile.FieldType.boolean)]
set_option maxRecDepth 65536 in
theorem codes_eq : words1.filter isCode = codes1 := rfl
theorem w_codes : ∀ c ∈ words1.filter isCode, c.before args0 about1 = true := by
  rw [codes_eq]
  intro c hc
  simp only [codes1, List.mem_cons, List.not_mem_nil, or_false] at hc
  rcases hc with rfl | rfl | rfl | rfl | rfl | rfl | rfl | rfl | rfl | rfl
  · exact w_c0
  · exact w_c1
  · exact w_c2
  · exact w_c3
  · exact w_c4
  · exact w_c5
  · exact w_c6
  · exact w_c7
  · exact w_c8
  · exact w_c9
set_option maxRecDepth 65536 in
theorem w_t1 : (words1.take 24).all (fun c => isCode c || c.before args0 about1) = true := by decide +kernel
set_option maxRecDepth 65536 in
theorem w_t2 : ((words1.drop 24).take 24).all (fun c => isCode c || c.before args0 about1) = true := by decide +kernel
set_option maxRecDepth 65536 in
theorem w_t3 : ((words1.drop 24).drop 24).all (fun c => isCode c || c.before args0 about1) = true := by decide +kernel
theorem w_tables : (allAtoms (Jvm.Cond.code x code maxLocals ret :: tables_1)).before args0 about1 = true := by
  rw [allAtoms_all]
  show words1.all (fun c => c.before args0 about1) = true
  refine all_split ?_ w_codes
  rw [← List.take_append_drop 24 words1, List.all_append, w_t1, ← List.take_append_drop 24 (words1.drop 24), List.all_append, w_t2, w_t3]
  rfl
set_option maxRecDepth 65536 in
theorem w_case : (Jvm.Cond.and given_1 narrow_1).before args0 about1 = true := by decide +kernel
theorem w_applies : (headSpec (Jvm.Cond.code x code maxLocals ret :: tables_1) room_1).applies x e0.platform about1 = true :=
  (Spec.applies_iff w_frames).mpr ⟨w_running, w_runnable, w_alone, w_named, w_hears, w_ripe, w_room, w_tables⟩
theorem atStart : AtStart classFile x code maxLocals ret World_1 tables_1 room_1 Calls_1 rest_1 Pre_1 launch0 p0 e0 about1 theMethod args0 below0 :=
  ⟨lists_1, trivial, launch0.admits_env _ _ _, launch0.least_env, fairChoices_fair.cas, fairChoices_fair.clock, w_frames, w_args, w_heap, w_applies, trivial, trivial, w_case⟩
end start1
theorem witness_1 : WitnessClaimed_1 := ⟨start1.p0, start1.e0, start1.about1, start1.theMethod, start1.args0, start1.below0, start1.atStart⟩
end Jvm.Pilot.@@N@@
