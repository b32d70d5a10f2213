import JvmDerived
import JvmDerived.Pilot.@@N@@Statement
import JvmDerived.Pilot.@@N@@Code
set_option linter.unusedVariables false
set_option linter.unusedSimpArgs false
namespace Jvm.Own
open Sem ClassFile Op Lib Jvm.Stand Jvm.Free Jvm.LawKit Jvm.RoadKit
/-! A plain store over the heap: what each address that matters holds. -/
abbrev Key : Type := String × String × String
abbrev Obj : Type := Sum (String × List (Key × Value)) (FieldType × List Value)
abbrev Mem : Type := Addr → Option Obj
def upd (μ : Mem) (a : Addr) (o : Obj) : Mem := fun x => if x = a then some o else μ x
section MemFacts
variable {μ : Mem} {a b : Addr} {o o' : Obj}
theorem upd_same : upd μ a o a = some o := by simp [upd]
theorem upd_ne (h : b ≠ a) : upd μ a o b = μ b := by simp [upd, h]
theorem upd_upd : upd (upd μ a o) a o' = upd μ a o' := by funext x; simp only [upd]; split <;> rfl
theorem upd_at (h : b ≠ a) {q : Obj} (hb : μ b = some q) : upd μ a o b = some q := (upd_ne h).trans hb
theorem upd_id (h : μ a = some o) : upd μ a o = μ := by funext x; simp only [upd]; split <;> simp_all
theorem upd_in {ν : Mem} {w : Obj} (h : upd μ a o = ν) (hb : b ≠ a) : upd (upd μ b w) a o = upd ν b w := by
  subst h; funext x; simp only [upd]
  by_cases h1 : x = a
  · subst h1; simp [Ne.symm hb]
  · by_cases h2 : x = b
    · subst h2; simp [h1]
    · simp [h1, h2]
theorem upd2 {ν ρ : Mem} {o' : Obj} (h1 : upd μ a o = ν) (h2 : upd ν b o' = ρ) : upd (upd μ a o) b o' = ρ := by subst h1; exact h2
theorem upd_list {ty : FieldType} {vs vs' : List Value} {ν : Mem} (h : vs = vs') (e : upd μ a (.inr (ty, vs')) = ν) : upd μ a (.inr (ty, vs)) = ν := by subst h; exact e
end MemFacts
def sl (Z : State) (q : Key × Value) : Nat := RoadKit.slotOf Z q.1.1 q.1.2.1 q.1.2.2
def IsO (Z : State) (h : Heap) (a : Addr) (C : String) (fs : List (Key × Value)) : Prop :=
  Exa Z h a C ∧ (∀ q ∈ fs, Fld Z h a q.1.1 q.1.2.1 q.1.2.2 q.2) ∧ fs.Pairwise fun q r => sl Z q ≠ sl Z r
def Tag (Z : State) (n0 : Nat) (h : Heap) (a : Addr) (k : ClassId) (ty : FieldType) : Prop := n0 ≤ a → (ty = .int → Exa Z h a "[I") ∧ (ty = .array .int → OvrA Z k .int "[I")
def IsA (Z : State) (n0 : Nat) (h : Heap) (a : Addr) (ty : FieldType) (vs : List Value) : Prop :=
  ∃ c : Cell, Arr Z h a c ty ∧ c.slots.toList = vs ∧ vs.length < 2 ^ 31 ∧ (∀ v ∈ vs, fits ty v = true) ∧ Tag Z n0 h a c.cls ty
def Is (Z : State) (n0 : Nat) (h : Heap) (a : Addr) : Obj → Prop
  | .inl q => IsO Z h a q.1 q.2
  | .inr q => IsA Z n0 h a q.1 q.2
def Hp (Z : State) (n0 : Nat) (μ : Mem) (h : Heap) : Prop := Old Z n0 h ∧ ∀ a o, μ a = some o → Is Z n0 h a o
section HpFacts
variable {Z : State} {n0 : Nat} {μ : Mem} {h h' : Heap} {a b : Addr} {o : Obj} {sl' : Nat} {v : Value}
theorem Is.lt (H : Is Z n0 h a o) : a < h.size := by
  rcases o with q | q
  · exact H.1.lt
  · obtain ⟨c, A, -⟩ := H; exact A.lt
theorem Is.ext (H : Is Z n0 h a o) (E : Ext h h') : Is Z n0 h' a o := by
  rcases o with q | q
  · exact ⟨H.1.ext E, fun r hr => (H.2.1 r hr).ext E, H.2.2⟩
  · obtain ⟨c, A, r1, r2, r3, r4⟩ := H; exact ⟨c, A.ext E, r1, r2, r3, fun g => ⟨fun q => ((r4 g).1 q).ext E, (r4 g).2⟩⟩
theorem Is.other (H : Is Z n0 h b o) (W : Wr h h' a sl' v) (q : b ≠ a) : Is Z n0 h' b o := by
  rcases o with r | r
  · exact ⟨H.1.wr W, fun r hr => (H.2.1 r hr).other W (Or.inl q), H.2.2⟩
  · obtain ⟨c, A, r1, r2, r3, r4⟩ := H; exact ⟨c, A.other W q, r1, r2, r3, fun g => ⟨fun q => ((r4 g).1 q).wr W, (r4 g).2⟩⟩
theorem Hp.ext (H : Hp Z n0 μ h) (E : Ext h h') : Hp Z n0 μ h' := ⟨H.1.ext E, fun a o q => (H.2 a o q).ext E⟩
theorem Hp.ge (H : Hp Z n0 μ h) : n0 ≤ h.size := H.1.1 ▸ H.1.2.1
theorem Hp.fresh (H : Hp Z n0 μ h) : ∀ b o, μ b = some o → b ≠ h.size := fun b o q => Nat.ne_of_lt (H.2 b o q).lt
theorem Hp.set (H : Hp Z n0 μ h') (I : Is Z n0 h' a o) : Hp Z n0 (upd μ a o) h' := ⟨H.1, fun b o' q => by
  by_cases e : b = a
  · subst e; rw [upd_same] at q; cases q; exact I
  · rw [upd_ne e] at q; exact H.2 b o' q⟩
theorem Hp.wr (H : Hp Z n0 μ h) (W : Wr h h' a sl' v) (g : n0 ≤ a) (I : Is Z n0 h' a o) : Hp Z n0 (upd μ a o) h' := ⟨H.1.wr W g, fun b o' q => by
  by_cases e : b = a
  · subst e; rw [upd_same] at q; cases q; exact I
  · rw [upd_ne e] at q; exact (H.2 b o' q).other W e⟩
theorem IsO.put {C : String} {fs fs' : List (Key × Value)} {k : Key} {i : Nat} {w : Value} (H : IsO Z h a C fs) (hi : fs[i]? = some (k, w)) (W : Wr h h' a (RoadKit.slotOf Z k.1 k.2.1 k.2.2) v) (e : fs.set i (k, v) = fs') : IsO Z h' a C fs' := by
  subst e
  obtain ⟨hlt, hk⟩ := List.getElem?_eq_some_iff.mp hi
  have F0 := H.2.1 _ (List.mem_of_getElem? hi)
  have hp := List.pairwise_iff_getElem.mp H.2.2
  refine ⟨H.1.wr W, fun q hq => ?_, ?_⟩
  · obtain ⟨j, hj, rfl⟩ := List.mem_iff_getElem.mp hq
    rw [List.length_set] at hj
    by_cases e : i = j
    · subst e; rw [List.getElem_set_self]; exact F0.same W
    · rw [List.getElem_set_ne e]
      refine (H.2.1 _ (List.getElem_mem hj)).other W (Or.inr ?_)
      have e0 : sl Z fs[i] = RoadKit.slotOf Z k.1 k.2.1 k.2.2 := by rw [hk]; rfl
      rcases Nat.lt_or_gt_of_ne e with q | q
      · have := hp i j hlt hj q; rw [e0] at this; exact fun z => this z.symm
      · have := hp j i hj hlt q; rw [e0] at this; exact this
  · rw [List.pairwise_iff_getElem]
    intro x y hx hy hxy
    rw [List.length_set] at hx hy
    have key : ∀ z (hz : z < (fs.set i (k, v)).length) (hz' : z < fs.length), sl Z (fs.set i (k, v))[z] = sl Z fs[z] := fun z hz hz' => by
      by_cases e : i = z
      · subst e; rw [List.getElem_set_self, hk]; rfl
      · rw [List.getElem_set_ne e]
    rw [key x _ hx, key y _ hy]
    exact hp x y hx hy hxy
theorem IsA.put {ty : FieldType} {vs : List Value} {j : Nat} (H : IsA Z n0 h a ty vs) (hv : fits ty v = true) (W : Wr h h' a j v) : IsA Z n0 h' a ty (vs.set j v) := by
  obtain ⟨c, A, rfl, hl, hf, ho⟩ := H
  refine ⟨_, A.same W, by simp [Cell.setSlot], by simpa using hl, fun w hw => ?_, fun g => ⟨fun q => ((ho g).1 q).wr W, (ho g).2⟩⟩
  rcases List.mem_or_eq_of_mem_set hw with q | q
  · exact hf w q
  · subst q; exact hv
end HpFacts
/-- what is left to show from the frame g on -/
def Go (p : Program) (l : Launch) (e : Env) (R : Room) (s : State) (m : MethodId) (args : Array Value) (below : List Frame) (meth : Method) (c : Code) (Z : State) (n0 : Nat) (P : Option Value → Mem → Prop) (kc ks : Nat) (μ : Mem) (k n : Nat) (g : JFrame) : Prop :=
  ∀ T locs, Stand p l e R s m args below meth c T locs k n → Fr n0 locs → Hp Z n0 μ T.heap →
    ∃ s₂ o, Steps p.tables e below (T.setTop g) s₂ ∧ s₂.status = .running ∧ Ended s₂ below o ∧ ∃ v L, o = .returned v ∧ (Fr n0 L ∧ ∃ μ', Hp Z n0 μ' s₂.heap ∧ P v μ') ∧ FrameEnd s o s₂ L kc ks
/-- what stands fast while a body is walked -/
def Ctx (p : Program) (s : State) (m : MethodId) (meth : Method) (c : Code) (Z : State) (own nm : String) (B : ByteArray) (ml : Nat) (rt : Option FieldType) : Prop :=
  p.tables.exec = Jvm.exec ∧ c.code = B ∧ c.maxLocals = ml ∧ Z.Warmed39 s.vm ∧ s.vm.findClass own = some m.cls ∧ meth.sig.returnType = rt ∧ meth.locks = false ∧ meth.name = nm
/-- a body's contract -/
def Con (l : Launch) (Z : State) (n0 : Nat) (y : MethodName) (B : ByteArray) (ml : Nat) (rt : Option FieldType) (ws : List Cond) (rm : Room) (kc ks : Nat) (as : Array Value) (μ : Mem) (P : Option Value → Mem → Prop) : Prop :=
  ∀ h0, Hp Z n0 μ h0 → MetFree l y (head1 (Cond.code y B ml rt :: ws) rm) (fun a U => a = as ∧ Z.Warmed39 U.vm ∧ U.heap = h0) (fun _ _ _ _ _ => True)
    (fun _ U o U' => ∃ v L, o = .returned v ∧ (Fr n0 L ∧ ∃ μ', Hp Z n0 μ' U'.heap ∧ P v μ') ∧ FrameEnd U o U' L kc ks)
section Rules
variable {p : Program} {l : Launch} {e : Env} {R : Room} {s : State} {m : MethodId} {args : Array Value} {below : List Frame} {meth : Method} {c : Code} {Z : State} {a0 : Array Value} {n0 : Nat} {P : Option Value → Mem → Prop} {kc ks : Nat} {μ : Mem} {k n : Nat}
  {own nm : String} {B : ByteArray} {ml : Nat} {rt : Option FieldType} {pc q : Nat} {L L' : Array Slot} {st : List Value} {y : MethodName} {ws : List Cond} {rm : Room} {as : Array Value}
theorem Con.intro {L0 : Array Slot} (hx : plainFor y = true) (hef : ∀ m, entryFrame m as ml = mkF m 0 L0 [])
    (body : ∀ (p : Program) (e : Env) (s : State) (m : MethodId) (below : List Frame) (meth : Method) (c : Code), Ctx p s m meth c Z y.cls y.name B ml rt → Go p l e rm s m as below meth c Z n0 P kc ks μ 0 0 (mkF m 0 L0 [])) : Con l Z n0 y B ml rt ws rm kc ks as μ P := by
  intro h0 H0
  refine MetFree.of_bodySF hx hisR ?_
  intro p e s m args below meth c s₁ Bd hml hP hK
  obtain ⟨rfl, hZ, hh⟩ := hP
  have X0 : Stand p l e rm s m args below meth c s₁ [] 0 0 := Stand.of_body Bd
  have e0 : s₁.heap = h0 := by rw [← hh, Bd.state]; rfl
  obtain ⟨s2, o, g1, g2, g3, g4⟩ := body p e s m below meth c ⟨Bd.exec, Bd.bytes, hml, hZ, findClass_of_methodNamed Bd.named, Bd.returns, Bd.notSynchronized, (name_of_methodNamed Bd.named Bd.method).1⟩ s₁ [] X0 (Fr.nil n0) (by rw [e0]; exact H0)
  exact ⟨s2, o, castTop (hef m) g1, g2, g3, g4⟩
theorem Go.pure {g g' : JFrame} (K : Go p l e R s m args below meth c Z n0 P kc ks μ k n g') (st : ∀ T, At T m c below → ∀ target, Steps p.tables e below (T.setTop g') target → Steps p.tables e below (T.setTop g) target) : Go p l e R s m args below meth c Z n0 P kc ks μ k n g := fun T locs X F H => by
  obtain ⟨s2, o, h1, h2⟩ := K T locs X F H
  exact ⟨s2, o, st T X.here _ h1, h2⟩
theorem Go.stand {g g' : JFrame} (K : Go p l e R s m args below meth c Z n0 P kc ks μ k n g') (st : ∀ T locs, Stand p l e R s m args below meth c T locs k n → Hp Z n0 μ T.heap → ∃ T', Stand p l e R s m args below meth c T' locs k n ∧ T'.heap = T.heap ∧ ∀ target, Steps p.tables e below (T'.setTop g') target → Steps p.tables e below (T.setTop g) target) : Go p l e R s m args below meth c Z n0 P kc ks μ k n g := fun T locs X F H => by
  obtain ⟨T', X', e', h⟩ := st T locs X H
  obtain ⟨s2, o, h1, h2⟩ := K T' locs X' F (by rw [e']; exact H)
  exact ⟨s2, o, h _ h1, h2⟩
theorem iadd (C : Ctx p s m meth c Z own nm B ml rt) {x y : Int32} (hd : decode B pc = .ok (.iadd, 1)) (hq : pc + 1 = q) (k' : ∀ z : Int32, z = x + y → Go p l e R s m args below meth c Z n0 P kc ks μ k n (mkF m q L (.int z :: st))) : Go p l e R s m args below meth c Z n0 P kc ks μ k n (mkF m pc L (.int y :: .int x :: st)) := by
  subst hq
  exact Go.pure (k' _ rfl) fun T h t hr => XS.iadd h C.1 rfl (hb C.2.1 hd) rfl hr
theorem isub (C : Ctx p s m meth c Z own nm B ml rt) {x y : Int32} (hd : decode B pc = .ok (.isub, 1)) (hq : pc + 1 = q) (k' : ∀ z : Int32, z = x - y → Go p l e R s m args below meth c Z n0 P kc ks μ k n (mkF m q L (.int z :: st))) : Go p l e R s m args below meth c Z n0 P kc ks μ k n (mkF m pc L (.int y :: .int x :: st)) := by
  subst hq
  exact Go.pure (k' _ rfl) fun T h t hr => XS.isub h C.1 rfl (hb C.2.1 hd) rfl hr
theorem imul (C : Ctx p s m meth c Z own nm B ml rt) {x y : Int32} (hd : decode B pc = .ok (.imul, 1)) (hq : pc + 1 = q) (k' : ∀ z : Int32, z = x * y → Go p l e R s m args below meth c Z n0 P kc ks μ k n (mkF m q L (.int z :: st))) : Go p l e R s m args below meth c Z n0 P kc ks μ k n (mkF m pc L (.int y :: .int x :: st)) := by
  subst hq
  exact Go.pure (k' _ rfl) fun T h t hr => XS.imul h C.1 rfl (hb C.2.1 hd) rfl hr
theorem iand (C : Ctx p s m meth c Z own nm B ml rt) {x y : Int32} (hd : decode B pc = .ok (.iand, 1)) (hq : pc + 1 = q) (k' : ∀ z : Int32, z = x &&& y → Go p l e R s m args below meth c Z n0 P kc ks μ k n (mkF m q L (.int z :: st))) : Go p l e R s m args below meth c Z n0 P kc ks μ k n (mkF m pc L (.int y :: .int x :: st)) := by
  subst hq
  exact Go.pure (k' _ rfl) fun T h t hr => XS.iand h C.1 rfl (hb C.2.1 hd) rfl hr
theorem ior (C : Ctx p s m meth c Z own nm B ml rt) {x y : Int32} (hd : decode B pc = .ok (.ior, 1)) (hq : pc + 1 = q) (k' : ∀ z : Int32, z = x ||| y → Go p l e R s m args below meth c Z n0 P kc ks μ k n (mkF m q L (.int z :: st))) : Go p l e R s m args below meth c Z n0 P kc ks μ k n (mkF m pc L (.int y :: .int x :: st)) := by
  subst hq
  exact Go.pure (k' _ rfl) fun T h t hr => XS.ior h C.1 rfl (hb C.2.1 hd) rfl hr
theorem ixor (C : Ctx p s m meth c Z own nm B ml rt) {x y : Int32} (hd : decode B pc = .ok (.ixor, 1)) (hq : pc + 1 = q) (k' : ∀ z : Int32, z = x ^^^ y → Go p l e R s m args below meth c Z n0 P kc ks μ k n (mkF m q L (.int z :: st))) : Go p l e R s m args below meth c Z n0 P kc ks μ k n (mkF m pc L (.int y :: .int x :: st)) := by
  subst hq
  exact Go.pure (k' _ rfl) fun T h t hr => XS.ixor h C.1 rfl (hb C.2.1 hd) rfl hr
theorem ladd (C : Ctx p s m meth c Z own nm B ml rt) {x y : Int64} (hd : decode B pc = .ok (.ladd, 1)) (hq : pc + 1 = q) (k' : ∀ z : Int64, z = x + y → Go p l e R s m args below meth c Z n0 P kc ks μ k n (mkF m q L (.long z :: st))) : Go p l e R s m args below meth c Z n0 P kc ks μ k n (mkF m pc L (.long y :: .long x :: st)) := by
  subst hq
  exact Go.pure (k' _ rfl) fun T h t hr => XS.ladd h C.1 rfl (hb C.2.1 hd) rfl hr
theorem lsub (C : Ctx p s m meth c Z own nm B ml rt) {x y : Int64} (hd : decode B pc = .ok (.lsub, 1)) (hq : pc + 1 = q) (k' : ∀ z : Int64, z = x - y → Go p l e R s m args below meth c Z n0 P kc ks μ k n (mkF m q L (.long z :: st))) : Go p l e R s m args below meth c Z n0 P kc ks μ k n (mkF m pc L (.long y :: .long x :: st)) := by
  subst hq
  exact Go.pure (k' _ rfl) fun T h t hr => XS.lsub h C.1 rfl (hb C.2.1 hd) rfl hr
theorem lmul (C : Ctx p s m meth c Z own nm B ml rt) {x y : Int64} (hd : decode B pc = .ok (.lmul, 1)) (hq : pc + 1 = q) (k' : ∀ z : Int64, z = x * y → Go p l e R s m args below meth c Z n0 P kc ks μ k n (mkF m q L (.long z :: st))) : Go p l e R s m args below meth c Z n0 P kc ks μ k n (mkF m pc L (.long y :: .long x :: st)) := by
  subst hq
  exact Go.pure (k' _ rfl) fun T h t hr => XS.lmul h C.1 rfl (hb C.2.1 hd) rfl hr
theorem land (C : Ctx p s m meth c Z own nm B ml rt) {x y : Int64} (hd : decode B pc = .ok (.land, 1)) (hq : pc + 1 = q) (k' : ∀ z : Int64, z = x &&& y → Go p l e R s m args below meth c Z n0 P kc ks μ k n (mkF m q L (.long z :: st))) : Go p l e R s m args below meth c Z n0 P kc ks μ k n (mkF m pc L (.long y :: .long x :: st)) := by
  subst hq
  exact Go.pure (k' _ rfl) fun T h t hr => XS.land h C.1 rfl (hb C.2.1 hd) rfl hr
theorem lor (C : Ctx p s m meth c Z own nm B ml rt) {x y : Int64} (hd : decode B pc = .ok (.lor, 1)) (hq : pc + 1 = q) (k' : ∀ z : Int64, z = x ||| y → Go p l e R s m args below meth c Z n0 P kc ks μ k n (mkF m q L (.long z :: st))) : Go p l e R s m args below meth c Z n0 P kc ks μ k n (mkF m pc L (.long y :: .long x :: st)) := by
  subst hq
  exact Go.pure (k' _ rfl) fun T h t hr => XS.lor h C.1 rfl (hb C.2.1 hd) rfl hr
theorem lxor (C : Ctx p s m meth c Z own nm B ml rt) {x y : Int64} (hd : decode B pc = .ok (.lxor, 1)) (hq : pc + 1 = q) (k' : ∀ z : Int64, z = x ^^^ y → Go p l e R s m args below meth c Z n0 P kc ks μ k n (mkF m q L (.long z :: st))) : Go p l e R s m args below meth c Z n0 P kc ks μ k n (mkF m pc L (.long y :: .long x :: st)) := by
  subst hq
  exact Go.pure (k' _ rfl) fun T h t hr => XS.lxor h C.1 rfl (hb C.2.1 hd) rfl hr
theorem ishl (C : Ctx p s m meth c Z own nm B ml rt) {x y : Int32} (hd : decode B pc = .ok (.ishl, 1)) (hq : pc + 1 = q) (k' : ∀ z : Int32, z = x <<< (y &&& 31) → Go p l e R s m args below meth c Z n0 P kc ks μ k n (mkF m q L (.int z :: st))) : Go p l e R s m args below meth c Z n0 P kc ks μ k n (mkF m pc L (.int y :: .int x :: st)) := by
  subst hq
  exact Go.pure (k' _ rfl) fun T h t hr => XS.ishl h C.1 rfl (hb C.2.1 hd) rfl hr
theorem ishr (C : Ctx p s m meth c Z own nm B ml rt) {x y : Int32} (hd : decode B pc = .ok (.ishr, 1)) (hq : pc + 1 = q) (k' : ∀ z : Int32, z = x >>> (y &&& 31) → Go p l e R s m args below meth c Z n0 P kc ks μ k n (mkF m q L (.int z :: st))) : Go p l e R s m args below meth c Z n0 P kc ks μ k n (mkF m pc L (.int y :: .int x :: st)) := by
  subst hq
  exact Go.pure (k' _ rfl) fun T h t hr => XS.ishr h C.1 rfl (hb C.2.1 hd) rfl hr
theorem iushr (C : Ctx p s m meth c Z own nm B ml rt) {x y : Int32} (hd : decode B pc = .ok (.iushr, 1)) (hq : pc + 1 = q) (k' : ∀ z : Int32, z = (x.toUInt32 >>> (y &&& 31).toUInt32).toInt32 → Go p l e R s m args below meth c Z n0 P kc ks μ k n (mkF m q L (.int z :: st))) : Go p l e R s m args below meth c Z n0 P kc ks μ k n (mkF m pc L (.int y :: .int x :: st)) := by
  subst hq
  exact Go.pure (k' _ rfl) fun T h t hr => XS.iushr h C.1 rfl (hb C.2.1 hd) rfl hr
theorem lshl (C : Ctx p s m meth c Z own nm B ml rt) {x : Int64} {y : Int32} (hd : decode B pc = .ok (.lshl, 1)) (hq : pc + 1 = q) (k' : ∀ z : Int64, z = x <<< (y &&& 0x3f).toInt64 → Go p l e R s m args below meth c Z n0 P kc ks μ k n (mkF m q L (.long z :: st))) : Go p l e R s m args below meth c Z n0 P kc ks μ k n (mkF m pc L (.int y :: .long x :: st)) := by
  subst hq
  exact Go.pure (k' _ rfl) fun T h t hr => XS.lshl h C.1 rfl (hb C.2.1 hd) rfl hr
theorem lshr (C : Ctx p s m meth c Z own nm B ml rt) {x : Int64} {y : Int32} (hd : decode B pc = .ok (.lshr, 1)) (hq : pc + 1 = q) (k' : ∀ z : Int64, z = x >>> (y &&& 0x3f).toInt64 → Go p l e R s m args below meth c Z n0 P kc ks μ k n (mkF m q L (.long z :: st))) : Go p l e R s m args below meth c Z n0 P kc ks μ k n (mkF m pc L (.int y :: .long x :: st)) := by
  subst hq
  exact Go.pure (k' _ rfl) fun T h t hr => XS.lshr h C.1 rfl (hb C.2.1 hd) rfl hr
theorem lushr (C : Ctx p s m meth c Z own nm B ml rt) {x : Int64} {y : Int32} (hd : decode B pc = .ok (.lushr, 1)) (hq : pc + 1 = q) (k' : ∀ z : Int64, z = (x.toUInt64 >>> (y &&& 0x3f).toInt64.toUInt64).toInt64 → Go p l e R s m args below meth c Z n0 P kc ks μ k n (mkF m q L (.long z :: st))) : Go p l e R s m args below meth c Z n0 P kc ks μ k n (mkF m pc L (.int y :: .long x :: st)) := by
  subst hq
  exact Go.pure (k' _ rfl) fun T h t hr => XS.lushr h C.1 rfl (hb C.2.1 hd) rfl hr
theorem idiv (C : Ctx p s m meth c Z own nm B ml rt) {x y : Int32} (hd : decode B pc = .ok (.idiv, 1)) (hq : pc + 1 = q) (hy : y ≠ 0) (k' : ∀ z : Int32, z = x / y → Go p l e R s m args below meth c Z n0 P kc ks μ k n (mkF m q L (.int z :: st))) : Go p l e R s m args below meth c Z n0 P kc ks μ k n (mkF m pc L (.int y :: .int x :: st)) := by
  subst hq
  exact Go.pure (k' _ rfl) fun T h t hr => XS.idiv h C.1 rfl (hb C.2.1 hd) rfl hy hr
theorem irem (C : Ctx p s m meth c Z own nm B ml rt) {x y : Int32} (hd : decode B pc = .ok (.irem, 1)) (hq : pc + 1 = q) (hy : y ≠ 0) (k' : ∀ z : Int32, z = x % y → Go p l e R s m args below meth c Z n0 P kc ks μ k n (mkF m q L (.int z :: st))) : Go p l e R s m args below meth c Z n0 P kc ks μ k n (mkF m pc L (.int y :: .int x :: st)) := by
  subst hq
  exact Go.pure (k' _ rfl) fun T h t hr => XS.irem h C.1 rfl (hb C.2.1 hd) rfl hy (by rw [irem_eq_mod]; exact hr)
theorem ldiv (C : Ctx p s m meth c Z own nm B ml rt) {x y : Int64} (hd : decode B pc = .ok (.ldiv, 1)) (hq : pc + 1 = q) (hy : y ≠ 0) (k' : ∀ z : Int64, z = x / y → Go p l e R s m args below meth c Z n0 P kc ks μ k n (mkF m q L (.long z :: st))) : Go p l e R s m args below meth c Z n0 P kc ks μ k n (mkF m pc L (.long y :: .long x :: st)) := by
  subst hq
  exact Go.pure (k' _ rfl) fun T h t hr => XS.ldiv h C.1 rfl (hb C.2.1 hd) rfl hy hr
theorem lrem (C : Ctx p s m meth c Z own nm B ml rt) {x y : Int64} (hd : decode B pc = .ok (.lrem, 1)) (hq : pc + 1 = q) (hy : y ≠ 0) (k' : ∀ z : Int64, z = x - (x / y) * y → Go p l e R s m args below meth c Z n0 P kc ks μ k n (mkF m q L (.long z :: st))) : Go p l e R s m args below meth c Z n0 P kc ks μ k n (mkF m pc L (.long y :: .long x :: st)) := by
  subst hq
  exact Go.pure (k' _ rfl) fun T h t hr => XS.lrem h C.1 rfl (hb C.2.1 hd) rfl hy hr
theorem ineg (C : Ctx p s m meth c Z own nm B ml rt) {x : Int32} (hd : decode B pc = .ok (.ineg, 1)) (hq : pc + 1 = q) (k' : ∀ z : Int32, z = -x → Go p l e R s m args below meth c Z n0 P kc ks μ k n (mkF m q L (.int z :: st))) : Go p l e R s m args below meth c Z n0 P kc ks μ k n (mkF m pc L (.int x :: st)) := by
  subst hq
  exact Go.pure (k' _ rfl) fun T h t hr => XS.ineg h C.1 rfl (hb C.2.1 hd) rfl hr
theorem lneg (C : Ctx p s m meth c Z own nm B ml rt) {x : Int64} (hd : decode B pc = .ok (.lneg, 1)) (hq : pc + 1 = q) (k' : ∀ z : Int64, z = -x → Go p l e R s m args below meth c Z n0 P kc ks μ k n (mkF m q L (.long z :: st))) : Go p l e R s m args below meth c Z n0 P kc ks μ k n (mkF m pc L (.long x :: st)) := by
  subst hq
  exact Go.pure (k' _ rfl) fun T h t hr => XS.lneg h C.1 rfl (hb C.2.1 hd) rfl hr
theorem i2l (C : Ctx p s m meth c Z own nm B ml rt) {x : Int32} (hd : decode B pc = .ok (.i2l, 1)) (hq : pc + 1 = q) (k' : ∀ z : Int64, z = x.toInt64 → Go p l e R s m args below meth c Z n0 P kc ks μ k n (mkF m q L (.long z :: st))) : Go p l e R s m args below meth c Z n0 P kc ks μ k n (mkF m pc L (.int x :: st)) := by
  subst hq
  exact Go.pure (k' _ rfl) fun T h t hr => XS.i2l h C.1 rfl (hb C.2.1 hd) rfl hr
theorem l2i (C : Ctx p s m meth c Z own nm B ml rt) {x : Int64} (hd : decode B pc = .ok (.l2i, 1)) (hq : pc + 1 = q) (k' : ∀ z : Int32, z = x.toInt32 → Go p l e R s m args below meth c Z n0 P kc ks μ k n (mkF m q L (.int z :: st))) : Go p l e R s m args below meth c Z n0 P kc ks μ k n (mkF m pc L (.long x :: st)) := by
  subst hq
  exact Go.pure (k' _ rfl) fun T h t hr => XS.l2i h C.1 rfl (hb C.2.1 hd) rfl hr
theorem i2b (C : Ctx p s m meth c Z own nm B ml rt) {x : Int32} (hd : decode B pc = .ok (.i2b, 1)) (hq : pc + 1 = q) (k' : ∀ z : Int32, z = x.toInt8.toInt32 → Go p l e R s m args below meth c Z n0 P kc ks μ k n (mkF m q L (.int z :: st))) : Go p l e R s m args below meth c Z n0 P kc ks μ k n (mkF m pc L (.int x :: st)) := by
  subst hq
  exact Go.pure (k' _ rfl) fun T h t hr => XS.i2b h C.1 rfl (hb C.2.1 hd) rfl hr
theorem i2s (C : Ctx p s m meth c Z own nm B ml rt) {x : Int32} (hd : decode B pc = .ok (.i2s, 1)) (hq : pc + 1 = q) (k' : ∀ z : Int32, z = x.toInt16.toInt32 → Go p l e R s m args below meth c Z n0 P kc ks μ k n (mkF m q L (.int z :: st))) : Go p l e R s m args below meth c Z n0 P kc ks μ k n (mkF m pc L (.int x :: st)) := by
  subst hq
  exact Go.pure (k' _ rfl) fun T h t hr => XS.i2s h C.1 rfl (hb C.2.1 hd) rfl hr
theorem i2c (C : Ctx p s m meth c Z own nm B ml rt) {x : Int32} (hd : decode B pc = .ok (.i2c, 1)) (hq : pc + 1 = q) (k' : ∀ z : Int32, z = x.toUInt32.toUInt16.toUInt32.toInt32 → Go p l e R s m args below meth c Z n0 P kc ks μ k n (mkF m q L (.int z :: st))) : Go p l e R s m args below meth c Z n0 P kc ks μ k n (mkF m pc L (.int x :: st)) := by
  subst hq
  exact Go.pure (k' _ rfl) fun T h t hr => XS.i2c h C.1 rfl (hb C.2.1 hd) rfl hr
theorem iloadN (C : Ctx p s m meth c Z own nm B ml rt) {i : Fin 4} {v : Int32} (hd : decode B pc = .ok (.iload_n i, 1)) (hq : pc + 1 = q) (hl : L[i.val]? = some (.val (.int v))) (k' : Go p l e R s m args below meth c Z n0 P kc ks μ k n (mkF m q L (.int v :: st))) : Go p l e R s m args below meth c Z n0 P kc ks μ k n (mkF m pc L st) := by
  subst hq
  exact Go.pure k' fun T h t hr => XS.iloadN h C.1 rfl (hb C.2.1 hd) hl hr
theorem iload (C : Ctx p s m meth c Z own nm B ml rt) {i : Nat} {v : Int32} (hd : decode B pc = .ok (.iload i, 2)) (hq : pc + 2 = q) (hl : L[i]? = some (.val (.int v))) (k' : Go p l e R s m args below meth c Z n0 P kc ks μ k n (mkF m q L (.int v :: st))) : Go p l e R s m args below meth c Z n0 P kc ks μ k n (mkF m pc L st) := by
  subst hq
  exact Go.pure k' fun T h t hr => XS.iload h C.1 rfl (hb C.2.1 hd) hl hr
theorem istoreN (C : Ctx p s m meth c Z own nm B ml rt) {i : Fin 4} {v : Int32} (hd : decode B pc = .ok (.istore_n i, 1)) (hq : pc + 1 = q) (hl : storeLocals L i.val (.int v) = some L') (k' : Go p l e R s m args below meth c Z n0 P kc ks μ k n (mkF m q L' st)) : Go p l e R s m args below meth c Z n0 P kc ks μ k n (mkF m pc L (.int v :: st)) := by
  subst hq
  exact Go.pure k' fun T h t hr => XS.istoreN h C.1 rfl (hb C.2.1 hd) rfl hl hr
theorem istore (C : Ctx p s m meth c Z own nm B ml rt) {i : Nat} {v : Int32} (hd : decode B pc = .ok (.istore i, 2)) (hq : pc + 2 = q) (hl : storeLocals L i (.int v) = some L') (k' : Go p l e R s m args below meth c Z n0 P kc ks μ k n (mkF m q L' st)) : Go p l e R s m args below meth c Z n0 P kc ks μ k n (mkF m pc L (.int v :: st)) := by
  subst hq
  exact Go.pure k' fun T h t hr => XS.istore h C.1 rfl (hb C.2.1 hd) rfl hl hr
theorem lloadN (C : Ctx p s m meth c Z own nm B ml rt) {i : Fin 4} {v : Int64} (hd : decode B pc = .ok (.lload_n i, 1)) (hq : pc + 1 = q) (hl : L[i.val]? = some (.val (.long v))) (k' : Go p l e R s m args below meth c Z n0 P kc ks μ k n (mkF m q L (.long v :: st))) : Go p l e R s m args below meth c Z n0 P kc ks μ k n (mkF m pc L st) := by
  subst hq
  exact Go.pure k' fun T h t hr => XS.lloadN h C.1 rfl (hb C.2.1 hd) hl hr
theorem lload (C : Ctx p s m meth c Z own nm B ml rt) {i : Nat} {v : Int64} (hd : decode B pc = .ok (.lload i, 2)) (hq : pc + 2 = q) (hl : L[i]? = some (.val (.long v))) (k' : Go p l e R s m args below meth c Z n0 P kc ks μ k n (mkF m q L (.long v :: st))) : Go p l e R s m args below meth c Z n0 P kc ks μ k n (mkF m pc L st) := by
  subst hq
  exact Go.pure k' fun T h t hr => XS.lload h C.1 rfl (hb C.2.1 hd) hl hr
theorem lstoreN (C : Ctx p s m meth c Z own nm B ml rt) {i : Fin 4} {v : Int64} (hd : decode B pc = .ok (.lstore_n i, 1)) (hq : pc + 1 = q) (hl : storeLocals L i.val (.long v) = some L') (k' : Go p l e R s m args below meth c Z n0 P kc ks μ k n (mkF m q L' st)) : Go p l e R s m args below meth c Z n0 P kc ks μ k n (mkF m pc L (.long v :: st)) := by
  subst hq
  exact Go.pure k' fun T h t hr => XS.lstoreN h C.1 rfl (hb C.2.1 hd) rfl hl hr
theorem lstore (C : Ctx p s m meth c Z own nm B ml rt) {i : Nat} {v : Int64} (hd : decode B pc = .ok (.lstore i, 2)) (hq : pc + 2 = q) (hl : storeLocals L i (.long v) = some L') (k' : Go p l e R s m args below meth c Z n0 P kc ks μ k n (mkF m q L' st)) : Go p l e R s m args below meth c Z n0 P kc ks μ k n (mkF m pc L (.long v :: st)) := by
  subst hq
  exact Go.pure k' fun T h t hr => XS.lstore h C.1 rfl (hb C.2.1 hd) rfl hl hr
theorem aloadN (C : Ctx p s m meth c Z own nm B ml rt) {i : Fin 4} {v : Value} (hd : decode B pc = .ok (.aload_n i, 1)) (hq : pc + 1 = q) (hl : L[i.val]? = some (.val v)) (hv : v.isRef = true) (k' : Go p l e R s m args below meth c Z n0 P kc ks μ k n (mkF m q L (v :: st))) : Go p l e R s m args below meth c Z n0 P kc ks μ k n (mkF m pc L st) := by
  subst hq
  exact Go.pure k' fun T h t hr => XS.aloadN h C.1 rfl (hb C.2.1 hd) hl hv hr
theorem aload (C : Ctx p s m meth c Z own nm B ml rt) {i : Nat} {v : Value} (hd : decode B pc = .ok (.aload i, 2)) (hq : pc + 2 = q) (hl : L[i]? = some (.val v)) (hv : v.isRef = true) (k' : Go p l e R s m args below meth c Z n0 P kc ks μ k n (mkF m q L (v :: st))) : Go p l e R s m args below meth c Z n0 P kc ks μ k n (mkF m pc L st) := by
  subst hq
  exact Go.pure k' fun T h t hr => XS.aload h C.1 rfl (hb C.2.1 hd) hl hv hr
theorem astoreN (C : Ctx p s m meth c Z own nm B ml rt) {i : Fin 4} {v : Value} (hd : decode B pc = .ok (.astore_n i, 1)) (hq : pc + 1 = q) (hl : storeLocals L i.val v = some L') (hv : v.isRef = true) (k' : Go p l e R s m args below meth c Z n0 P kc ks μ k n (mkF m q L' st)) : Go p l e R s m args below meth c Z n0 P kc ks μ k n (mkF m pc L (v :: st)) := by
  subst hq
  exact Go.pure k' fun T h t hr => XS.astoreN h C.1 rfl (hb C.2.1 hd) rfl hv hl hr
theorem astore (C : Ctx p s m meth c Z own nm B ml rt) {i : Nat} {v : Value} (hd : decode B pc = .ok (.astore i, 2)) (hq : pc + 2 = q) (hl : storeLocals L i v = some L') (hv : v.isRef = true) (k' : Go p l e R s m args below meth c Z n0 P kc ks μ k n (mkF m q L' st)) : Go p l e R s m args below meth c Z n0 P kc ks μ k n (mkF m pc L (v :: st)) := by
  subst hq
  exact Go.pure k' fun T h t hr => XS.astore h C.1 rfl (hb C.2.1 hd) rfl hv hl hr
theorem iconst (C : Ctx p s m meth c Z own nm B ml rt) {i : Int} {z : Int32} (hd : decode B pc = .ok (.iconst i, 1)) (hq : pc + 1 = q) (hz : Int32.ofInt i = z) (k' : Go p l e R s m args below meth c Z n0 P kc ks μ k n (mkF m q L (.int z :: st))) : Go p l e R s m args below meth c Z n0 P kc ks μ k n (mkF m pc L st) := by
  subst hq
  exact Go.pure k' fun T h t hr => XS.iconst h C.1 rfl (hb C.2.1 hd) (by rw [hz]; exact hr)
theorem bipush (C : Ctx p s m meth c Z own nm B ml rt) {i : Int} {z : Int32} (hd : decode B pc = .ok (.bipush i, 2)) (hq : pc + 2 = q) (hz : (Int8.ofInt i).toInt32 = z) (k' : Go p l e R s m args below meth c Z n0 P kc ks μ k n (mkF m q L (.int z :: st))) : Go p l e R s m args below meth c Z n0 P kc ks μ k n (mkF m pc L st) := by
  subst hq
  exact Go.pure k' fun T h t hr => XS.bipush h C.1 rfl (hb C.2.1 hd) (by rw [hz]; exact hr)
theorem sipush (C : Ctx p s m meth c Z own nm B ml rt) {i : Int} {z : Int32} (hd : decode B pc = .ok (.sipush i, 3)) (hq : pc + 3 = q) (hz : (Int16.ofInt i).toInt32 = z) (k' : Go p l e R s m args below meth c Z n0 P kc ks μ k n (mkF m q L (.int z :: st))) : Go p l e R s m args below meth c Z n0 P kc ks μ k n (mkF m pc L st) := by
  subst hq
  exact Go.pure k' fun T h t hr => XS.sipush h C.1 rfl (hb C.2.1 hd) (by rw [hz]; exact hr)
theorem lconst (C : Ctx p s m meth c Z own nm B ml rt) {i : Fin 2} {z : Int64} (hd : decode B pc = .ok (.lconst i, 1)) (hq : pc + 1 = q) (hz : Int64.ofNat i = z) (k' : Go p l e R s m args below meth c Z n0 P kc ks μ k n (mkF m q L (.long z :: st))) : Go p l e R s m args below meth c Z n0 P kc ks μ k n (mkF m pc L st) := by
  subst hq
  exact Go.pure k' fun T h t hr => XS.lconst h C.1 rfl (hb C.2.1 hd) (by rw [hz]; exact hr)
theorem aconstNull (C : Ctx p s m meth c Z own nm B ml rt)  (hd : decode B pc = .ok (.aconst_null, 1)) (hq : pc + 1 = q) (k' : Go p l e R s m args below meth c Z n0 P kc ks μ k n (mkF m q L (.null :: st))) : Go p l e R s m args below meth c Z n0 P kc ks μ k n (mkF m pc L st) := by
  subst hq
  exact Go.pure k' fun T h t hr => XS.aconstNull h C.1 rfl (hb C.2.1 hd) hr
theorem dup (C : Ctx p s m meth c Z own nm B ml rt) {v : Value} (hd : decode B pc = .ok (.dup, 1)) (hq : pc + 1 = q) (hv : v.category = 1) (k' : Go p l e R s m args below meth c Z n0 P kc ks μ k n (mkF m q L (v :: v :: st))) : Go p l e R s m args below meth c Z n0 P kc ks μ k n (mkF m pc L (v :: st)) := by
  subst hq
  exact Go.pure k' fun T h t hr => XS.dup h C.1 rfl (hb C.2.1 hd) rfl hv hr
theorem pop (C : Ctx p s m meth c Z own nm B ml rt) {v : Value} (hd : decode B pc = .ok (.pop, 1)) (hq : pc + 1 = q) (hv : v.category = 1) (k' : Go p l e R s m args below meth c Z n0 P kc ks μ k n (mkF m q L st)) : Go p l e R s m args below meth c Z n0 P kc ks μ k n (mkF m pc L (v :: st)) := by
  subst hq
  exact Go.pure k' fun T h t hr => XS.pop h C.1 rfl (hb C.2.1 hd) rfl hv hr
theorem dupX1 (C : Ctx p s m meth c Z own nm B ml rt) {v w : Value} (hd : decode B pc = .ok (.dup_x1, 1)) (hq : pc + 1 = q) (hv : v.category = 1) (hw : w.category = 1) (k' : Go p l e R s m args below meth c Z n0 P kc ks μ k n (mkF m q L (v :: w :: v :: st))) : Go p l e R s m args below meth c Z n0 P kc ks μ k n (mkF m pc L (v :: w :: st)) := by
  subst hq
  exact Go.pure k' fun T h t hr => XS.dupX1 h C.1 rfl (hb C.2.1 hd) rfl hv hw hr
theorem dup2 (C : Ctx p s m meth c Z own nm B ml rt) {v w : Value} (hd : decode B pc = .ok (.dup2, 1)) (hq : pc + 1 = q) (hv : v.category = 1) (hw : w.category = 1) (k' : Go p l e R s m args below meth c Z n0 P kc ks μ k n (mkF m q L (v :: w :: v :: w :: st))) : Go p l e R s m args below meth c Z n0 P kc ks μ k n (mkF m pc L (v :: w :: st)) := by
  subst hq
  exact Go.pure k' fun T h t hr => XT.dup2 h C.1 rfl (hb C.2.1 hd) rfl hv hw hr
theorem dup2L (C : Ctx p s m meth c Z own nm B ml rt) {x : Int64} (hd : decode B pc = .ok (.dup2, 1)) (hq : pc + 1 = q) (k' : Go p l e R s m args below meth c Z n0 P kc ks μ k n (mkF m q L (.long x :: .long x :: st))) : Go p l e R s m args below meth c Z n0 P kc ks μ k n (mkF m pc L (.long x :: st)) := by
  subst hq
  exact Go.pure k' fun T h t hr => XT.dup2L h C.1 rfl (hb C.2.1 hd) rfl hr
theorem iinc (C : Ctx p s m meth c Z own nm B ml rt) {i : Nat} {d : Int} {x z : Int32} (hd : decode B pc = .ok (.iinc i d, 3)) (hq : pc + 3 = q) (hl : L[i]? = some (.val (.int x))) (hz : x + Int32.ofInt d = z) (hl' : storeLocals L i (.int z) = some L') (k' : Go p l e R s m args below meth c Z n0 P kc ks μ k n (mkF m q L' st)) : Go p l e R s m args below meth c Z n0 P kc ks μ k n (mkF m pc L st) := by
  subst hq
  exact Go.pure k' fun T h t hr => XS.iinc h C.1 rfl (hb C.2.1 hd) hl (by rw [hz]; exact hl') hr
theorem goto (C : Ctx p s m meth c Z own nm B ml rt) {o : Int} (hd : decode B pc = .ok (.goto o, 3)) (hq : 0 ≤ (pc : Int) + o ∧ ((pc : Int) + o).toNat = q) (k' : Go p l e R s m args below meth c Z n0 P kc ks μ k n (mkF m q L st)) : Go p l e R s m args below meth c Z n0 P kc ks μ k n (mkF m pc L st) := Go.pure k' fun T h t hr => XS.goto h C.1 rfl rfl (hb C.2.1 hd) hq.1 hq.2 hr
theorem icmp_eq (C : Ctx p s m meth c Z own nm B ml rt) {x y : Int32} {o : Int} {r : Nat} (hd : decode B pc = .ok (.if_icmp .eq o, 3)) (hq : pc + 3 = q) (hr : 0 ≤ (pc : Int) + o ∧ ((pc : Int) + o).toNat = r) (ky : x = y → Go p l e R s m args below meth c Z n0 P kc ks μ k n (mkF m r L st)) (kn : ¬ x = y → Go p l e R s m args below meth c Z n0 P kc ks μ k n (mkF m q L st)) : Go p l e R s m args below meth c Z n0 P kc ks μ k n (mkF m pc L (.int y :: .int x :: st)) := by
  subst hq
  by_cases hc : x = y
  · exact Go.pure (ky hc) fun T h t k => XS.icmpYes h C.1 rfl rfl (hb C.2.1 hd) rfl (XT.ii_eq_t hc) hr.1 hr.2 k
  · exact Go.pure (kn (by first | exact hc | exact Decidable.of_not_not hc)) fun T h t k => XS.icmpNo h C.1 rfl (hb C.2.1 hd) rfl (XT.ii_eq_f (by first | exact hc | exact Decidable.of_not_not hc)) k
theorem if_eq (C : Ctx p s m meth c Z own nm B ml rt) {x : Int32} {o : Int} {r : Nat} (hd : decode B pc = .ok (.ifCond .eq o, 3)) (hq : pc + 3 = q) (hr : 0 ≤ (pc : Int) + o ∧ ((pc : Int) + o).toNat = r) (ky : x = 0 → Go p l e R s m args below meth c Z n0 P kc ks μ k n (mkF m r L st)) (kn : ¬ x = 0 → Go p l e R s m args below meth c Z n0 P kc ks μ k n (mkF m q L st)) : Go p l e R s m args below meth c Z n0 P kc ks μ k n (mkF m pc L (.int x :: st)) := by
  subst hq
  by_cases hc : x = 0
  · exact Go.pure (ky hc) fun T h t k => XS.ifYes h C.1 rfl rfl (hb C.2.1 hd) rfl (XT.i0_eq_t hc) hr.1 hr.2 k
  · exact Go.pure (kn (by first | exact hc | exact Decidable.of_not_not hc)) fun T h t k => XS.ifNo h C.1 rfl (hb C.2.1 hd) rfl (XT.i0_eq_f (by first | exact hc | exact Decidable.of_not_not hc)) k
theorem lcmp_eq (C : Ctx p s m meth c Z own nm B ml rt) {x y : Int64} {o : Int} {r pc1 : Nat} (hd0 : decode B pc = .ok (.lcmp, 1)) (h1 : pc + 1 = pc1) (hd : decode B pc1 = .ok (.ifCond .eq o, 3)) (hq : pc1 + 3 = q) (hr : 0 ≤ (pc1 : Int) + o ∧ ((pc1 : Int) + o).toNat = r) (ky : x = y → Go p l e R s m args below meth c Z n0 P kc ks μ k n (mkF m r L st)) (kn : ¬ x = y → Go p l e R s m args below meth c Z n0 P kc ks μ k n (mkF m q L st)) : Go p l e R s m args below meth c Z n0 P kc ks μ k n (mkF m pc L (.long y :: .long x :: st)) := by
  subst hq h1
  refine Go.pure (g' := mkF m (pc + 1) L (.int (XT.cmpL x y) :: st)) ?_ fun T h t k => XT.lcmp h C.1 rfl (hb C.2.1 hd0) rfl k
  by_cases hc : x = y
  · exact Go.pure (ky hc) fun T h t k => XS.ifYes h C.1 rfl rfl (hb C.2.1 hd) rfl (XT.ll_eq_t hc) hr.1 hr.2 k
  · exact Go.pure (kn (by first | exact hc | exact Decidable.of_not_not hc)) fun T h t k => XS.ifNo h C.1 rfl (hb C.2.1 hd) rfl (XT.ll_eq_f (by first | exact hc | exact Decidable.of_not_not hc)) k
theorem icmp_ne (C : Ctx p s m meth c Z own nm B ml rt) {x y : Int32} {o : Int} {r : Nat} (hd : decode B pc = .ok (.if_icmp .ne o, 3)) (hq : pc + 3 = q) (hr : 0 ≤ (pc : Int) + o ∧ ((pc : Int) + o).toNat = r) (ky : ¬ x = y → Go p l e R s m args below meth c Z n0 P kc ks μ k n (mkF m r L st)) (kn : x = y → Go p l e R s m args below meth c Z n0 P kc ks μ k n (mkF m q L st)) : Go p l e R s m args below meth c Z n0 P kc ks μ k n (mkF m pc L (.int y :: .int x :: st)) := by
  subst hq
  by_cases hc : ¬ x = y
  · exact Go.pure (ky hc) fun T h t k => XS.icmpYes h C.1 rfl rfl (hb C.2.1 hd) rfl (XT.ii_ne_t hc) hr.1 hr.2 k
  · exact Go.pure (kn (by first | exact hc | exact Decidable.of_not_not hc)) fun T h t k => XS.icmpNo h C.1 rfl (hb C.2.1 hd) rfl (XT.ii_ne_f (by first | exact hc | exact Decidable.of_not_not hc)) k
theorem if_ne (C : Ctx p s m meth c Z own nm B ml rt) {x : Int32} {o : Int} {r : Nat} (hd : decode B pc = .ok (.ifCond .ne o, 3)) (hq : pc + 3 = q) (hr : 0 ≤ (pc : Int) + o ∧ ((pc : Int) + o).toNat = r) (ky : ¬ x = 0 → Go p l e R s m args below meth c Z n0 P kc ks μ k n (mkF m r L st)) (kn : x = 0 → Go p l e R s m args below meth c Z n0 P kc ks μ k n (mkF m q L st)) : Go p l e R s m args below meth c Z n0 P kc ks μ k n (mkF m pc L (.int x :: st)) := by
  subst hq
  by_cases hc : ¬ x = 0
  · exact Go.pure (ky hc) fun T h t k => XS.ifYes h C.1 rfl rfl (hb C.2.1 hd) rfl (XT.i0_ne_t hc) hr.1 hr.2 k
  · exact Go.pure (kn (by first | exact hc | exact Decidable.of_not_not hc)) fun T h t k => XS.ifNo h C.1 rfl (hb C.2.1 hd) rfl (XT.i0_ne_f (by first | exact hc | exact Decidable.of_not_not hc)) k
theorem lcmp_ne (C : Ctx p s m meth c Z own nm B ml rt) {x y : Int64} {o : Int} {r pc1 : Nat} (hd0 : decode B pc = .ok (.lcmp, 1)) (h1 : pc + 1 = pc1) (hd : decode B pc1 = .ok (.ifCond .ne o, 3)) (hq : pc1 + 3 = q) (hr : 0 ≤ (pc1 : Int) + o ∧ ((pc1 : Int) + o).toNat = r) (ky : ¬ x = y → Go p l e R s m args below meth c Z n0 P kc ks μ k n (mkF m r L st)) (kn : x = y → Go p l e R s m args below meth c Z n0 P kc ks μ k n (mkF m q L st)) : Go p l e R s m args below meth c Z n0 P kc ks μ k n (mkF m pc L (.long y :: .long x :: st)) := by
  subst hq h1
  refine Go.pure (g' := mkF m (pc + 1) L (.int (XT.cmpL x y) :: st)) ?_ fun T h t k => XT.lcmp h C.1 rfl (hb C.2.1 hd0) rfl k
  by_cases hc : ¬ x = y
  · exact Go.pure (ky hc) fun T h t k => XS.ifYes h C.1 rfl rfl (hb C.2.1 hd) rfl (XT.ll_ne_t hc) hr.1 hr.2 k
  · exact Go.pure (kn (by first | exact hc | exact Decidable.of_not_not hc)) fun T h t k => XS.ifNo h C.1 rfl (hb C.2.1 hd) rfl (XT.ll_ne_f (by first | exact hc | exact Decidable.of_not_not hc)) k
theorem icmp_lt (C : Ctx p s m meth c Z own nm B ml rt) {x y : Int32} {o : Int} {r : Nat} (hd : decode B pc = .ok (.if_icmp .lt o, 3)) (hq : pc + 3 = q) (hr : 0 ≤ (pc : Int) + o ∧ ((pc : Int) + o).toNat = r) (ky : x < y → Go p l e R s m args below meth c Z n0 P kc ks μ k n (mkF m r L st)) (kn : ¬ x < y → Go p l e R s m args below meth c Z n0 P kc ks μ k n (mkF m q L st)) : Go p l e R s m args below meth c Z n0 P kc ks μ k n (mkF m pc L (.int y :: .int x :: st)) := by
  subst hq
  by_cases hc : x < y
  · exact Go.pure (ky hc) fun T h t k => XS.icmpYes h C.1 rfl rfl (hb C.2.1 hd) rfl (XT.ii_lt_t hc) hr.1 hr.2 k
  · exact Go.pure (kn (by first | exact hc | exact Decidable.of_not_not hc)) fun T h t k => XS.icmpNo h C.1 rfl (hb C.2.1 hd) rfl (XT.ii_lt_f (by first | exact hc | exact Decidable.of_not_not hc)) k
theorem if_lt (C : Ctx p s m meth c Z own nm B ml rt) {x : Int32} {o : Int} {r : Nat} (hd : decode B pc = .ok (.ifCond .lt o, 3)) (hq : pc + 3 = q) (hr : 0 ≤ (pc : Int) + o ∧ ((pc : Int) + o).toNat = r) (ky : x < 0 → Go p l e R s m args below meth c Z n0 P kc ks μ k n (mkF m r L st)) (kn : ¬ x < 0 → Go p l e R s m args below meth c Z n0 P kc ks μ k n (mkF m q L st)) : Go p l e R s m args below meth c Z n0 P kc ks μ k n (mkF m pc L (.int x :: st)) := by
  subst hq
  by_cases hc : x < 0
  · exact Go.pure (ky hc) fun T h t k => XS.ifYes h C.1 rfl rfl (hb C.2.1 hd) rfl (XT.i0_lt_t hc) hr.1 hr.2 k
  · exact Go.pure (kn (by first | exact hc | exact Decidable.of_not_not hc)) fun T h t k => XS.ifNo h C.1 rfl (hb C.2.1 hd) rfl (XT.i0_lt_f (by first | exact hc | exact Decidable.of_not_not hc)) k
theorem lcmp_lt (C : Ctx p s m meth c Z own nm B ml rt) {x y : Int64} {o : Int} {r pc1 : Nat} (hd0 : decode B pc = .ok (.lcmp, 1)) (h1 : pc + 1 = pc1) (hd : decode B pc1 = .ok (.ifCond .lt o, 3)) (hq : pc1 + 3 = q) (hr : 0 ≤ (pc1 : Int) + o ∧ ((pc1 : Int) + o).toNat = r) (ky : x < y → Go p l e R s m args below meth c Z n0 P kc ks μ k n (mkF m r L st)) (kn : ¬ x < y → Go p l e R s m args below meth c Z n0 P kc ks μ k n (mkF m q L st)) : Go p l e R s m args below meth c Z n0 P kc ks μ k n (mkF m pc L (.long y :: .long x :: st)) := by
  subst hq h1
  refine Go.pure (g' := mkF m (pc + 1) L (.int (XT.cmpL x y) :: st)) ?_ fun T h t k => XT.lcmp h C.1 rfl (hb C.2.1 hd0) rfl k
  by_cases hc : x < y
  · exact Go.pure (ky hc) fun T h t k => XS.ifYes h C.1 rfl rfl (hb C.2.1 hd) rfl (XT.ll_lt_t hc) hr.1 hr.2 k
  · exact Go.pure (kn (by first | exact hc | exact Decidable.of_not_not hc)) fun T h t k => XS.ifNo h C.1 rfl (hb C.2.1 hd) rfl (XT.ll_lt_f (by first | exact hc | exact Decidable.of_not_not hc)) k
theorem icmp_ge (C : Ctx p s m meth c Z own nm B ml rt) {x y : Int32} {o : Int} {r : Nat} (hd : decode B pc = .ok (.if_icmp .ge o, 3)) (hq : pc + 3 = q) (hr : 0 ≤ (pc : Int) + o ∧ ((pc : Int) + o).toNat = r) (ky : ¬ x < y → Go p l e R s m args below meth c Z n0 P kc ks μ k n (mkF m r L st)) (kn : x < y → Go p l e R s m args below meth c Z n0 P kc ks μ k n (mkF m q L st)) : Go p l e R s m args below meth c Z n0 P kc ks μ k n (mkF m pc L (.int y :: .int x :: st)) := by
  subst hq
  by_cases hc : ¬ x < y
  · exact Go.pure (ky hc) fun T h t k => XS.icmpYes h C.1 rfl rfl (hb C.2.1 hd) rfl (XT.ii_ge_t hc) hr.1 hr.2 k
  · exact Go.pure (kn (by first | exact hc | exact Decidable.of_not_not hc)) fun T h t k => XS.icmpNo h C.1 rfl (hb C.2.1 hd) rfl (XT.ii_ge_f (by first | exact hc | exact Decidable.of_not_not hc)) k
theorem if_ge (C : Ctx p s m meth c Z own nm B ml rt) {x : Int32} {o : Int} {r : Nat} (hd : decode B pc = .ok (.ifCond .ge o, 3)) (hq : pc + 3 = q) (hr : 0 ≤ (pc : Int) + o ∧ ((pc : Int) + o).toNat = r) (ky : ¬ x < 0 → Go p l e R s m args below meth c Z n0 P kc ks μ k n (mkF m r L st)) (kn : x < 0 → Go p l e R s m args below meth c Z n0 P kc ks μ k n (mkF m q L st)) : Go p l e R s m args below meth c Z n0 P kc ks μ k n (mkF m pc L (.int x :: st)) := by
  subst hq
  by_cases hc : ¬ x < 0
  · exact Go.pure (ky hc) fun T h t k => XS.ifYes h C.1 rfl rfl (hb C.2.1 hd) rfl (XT.i0_ge_t hc) hr.1 hr.2 k
  · exact Go.pure (kn (by first | exact hc | exact Decidable.of_not_not hc)) fun T h t k => XS.ifNo h C.1 rfl (hb C.2.1 hd) rfl (XT.i0_ge_f (by first | exact hc | exact Decidable.of_not_not hc)) k
theorem lcmp_ge (C : Ctx p s m meth c Z own nm B ml rt) {x y : Int64} {o : Int} {r pc1 : Nat} (hd0 : decode B pc = .ok (.lcmp, 1)) (h1 : pc + 1 = pc1) (hd : decode B pc1 = .ok (.ifCond .ge o, 3)) (hq : pc1 + 3 = q) (hr : 0 ≤ (pc1 : Int) + o ∧ ((pc1 : Int) + o).toNat = r) (ky : ¬ x < y → Go p l e R s m args below meth c Z n0 P kc ks μ k n (mkF m r L st)) (kn : x < y → Go p l e R s m args below meth c Z n0 P kc ks μ k n (mkF m q L st)) : Go p l e R s m args below meth c Z n0 P kc ks μ k n (mkF m pc L (.long y :: .long x :: st)) := by
  subst hq h1
  refine Go.pure (g' := mkF m (pc + 1) L (.int (XT.cmpL x y) :: st)) ?_ fun T h t k => XT.lcmp h C.1 rfl (hb C.2.1 hd0) rfl k
  by_cases hc : ¬ x < y
  · exact Go.pure (ky hc) fun T h t k => XS.ifYes h C.1 rfl rfl (hb C.2.1 hd) rfl (XT.ll_ge_t hc) hr.1 hr.2 k
  · exact Go.pure (kn (by first | exact hc | exact Decidable.of_not_not hc)) fun T h t k => XS.ifNo h C.1 rfl (hb C.2.1 hd) rfl (XT.ll_ge_f (by first | exact hc | exact Decidable.of_not_not hc)) k
theorem icmp_gt (C : Ctx p s m meth c Z own nm B ml rt) {x y : Int32} {o : Int} {r : Nat} (hd : decode B pc = .ok (.if_icmp .gt o, 3)) (hq : pc + 3 = q) (hr : 0 ≤ (pc : Int) + o ∧ ((pc : Int) + o).toNat = r) (ky : y < x → Go p l e R s m args below meth c Z n0 P kc ks μ k n (mkF m r L st)) (kn : ¬ y < x → Go p l e R s m args below meth c Z n0 P kc ks μ k n (mkF m q L st)) : Go p l e R s m args below meth c Z n0 P kc ks μ k n (mkF m pc L (.int y :: .int x :: st)) := by
  subst hq
  by_cases hc : y < x
  · exact Go.pure (ky hc) fun T h t k => XS.icmpYes h C.1 rfl rfl (hb C.2.1 hd) rfl (XT.ii_gt_t hc) hr.1 hr.2 k
  · exact Go.pure (kn (by first | exact hc | exact Decidable.of_not_not hc)) fun T h t k => XS.icmpNo h C.1 rfl (hb C.2.1 hd) rfl (XT.ii_gt_f (by first | exact hc | exact Decidable.of_not_not hc)) k
theorem if_gt (C : Ctx p s m meth c Z own nm B ml rt) {x : Int32} {o : Int} {r : Nat} (hd : decode B pc = .ok (.ifCond .gt o, 3)) (hq : pc + 3 = q) (hr : 0 ≤ (pc : Int) + o ∧ ((pc : Int) + o).toNat = r) (ky : 0 < x → Go p l e R s m args below meth c Z n0 P kc ks μ k n (mkF m r L st)) (kn : ¬ 0 < x → Go p l e R s m args below meth c Z n0 P kc ks μ k n (mkF m q L st)) : Go p l e R s m args below meth c Z n0 P kc ks μ k n (mkF m pc L (.int x :: st)) := by
  subst hq
  by_cases hc : 0 < x
  · exact Go.pure (ky hc) fun T h t k => XS.ifYes h C.1 rfl rfl (hb C.2.1 hd) rfl (XT.i0_gt_t hc) hr.1 hr.2 k
  · exact Go.pure (kn (by first | exact hc | exact Decidable.of_not_not hc)) fun T h t k => XS.ifNo h C.1 rfl (hb C.2.1 hd) rfl (XT.i0_gt_f (by first | exact hc | exact Decidable.of_not_not hc)) k
theorem lcmp_gt (C : Ctx p s m meth c Z own nm B ml rt) {x y : Int64} {o : Int} {r pc1 : Nat} (hd0 : decode B pc = .ok (.lcmp, 1)) (h1 : pc + 1 = pc1) (hd : decode B pc1 = .ok (.ifCond .gt o, 3)) (hq : pc1 + 3 = q) (hr : 0 ≤ (pc1 : Int) + o ∧ ((pc1 : Int) + o).toNat = r) (ky : y < x → Go p l e R s m args below meth c Z n0 P kc ks μ k n (mkF m r L st)) (kn : ¬ y < x → Go p l e R s m args below meth c Z n0 P kc ks μ k n (mkF m q L st)) : Go p l e R s m args below meth c Z n0 P kc ks μ k n (mkF m pc L (.long y :: .long x :: st)) := by
  subst hq h1
  refine Go.pure (g' := mkF m (pc + 1) L (.int (XT.cmpL x y) :: st)) ?_ fun T h t k => XT.lcmp h C.1 rfl (hb C.2.1 hd0) rfl k
  by_cases hc : y < x
  · exact Go.pure (ky hc) fun T h t k => XS.ifYes h C.1 rfl rfl (hb C.2.1 hd) rfl (XT.ll_gt_t hc) hr.1 hr.2 k
  · exact Go.pure (kn (by first | exact hc | exact Decidable.of_not_not hc)) fun T h t k => XS.ifNo h C.1 rfl (hb C.2.1 hd) rfl (XT.ll_gt_f (by first | exact hc | exact Decidable.of_not_not hc)) k
theorem icmp_le (C : Ctx p s m meth c Z own nm B ml rt) {x y : Int32} {o : Int} {r : Nat} (hd : decode B pc = .ok (.if_icmp .le o, 3)) (hq : pc + 3 = q) (hr : 0 ≤ (pc : Int) + o ∧ ((pc : Int) + o).toNat = r) (ky : ¬ y < x → Go p l e R s m args below meth c Z n0 P kc ks μ k n (mkF m r L st)) (kn : y < x → Go p l e R s m args below meth c Z n0 P kc ks μ k n (mkF m q L st)) : Go p l e R s m args below meth c Z n0 P kc ks μ k n (mkF m pc L (.int y :: .int x :: st)) := by
  subst hq
  by_cases hc : ¬ y < x
  · exact Go.pure (ky hc) fun T h t k => XS.icmpYes h C.1 rfl rfl (hb C.2.1 hd) rfl (XT.ii_le_t hc) hr.1 hr.2 k
  · exact Go.pure (kn (by first | exact hc | exact Decidable.of_not_not hc)) fun T h t k => XS.icmpNo h C.1 rfl (hb C.2.1 hd) rfl (XT.ii_le_f (by first | exact hc | exact Decidable.of_not_not hc)) k
theorem if_le (C : Ctx p s m meth c Z own nm B ml rt) {x : Int32} {o : Int} {r : Nat} (hd : decode B pc = .ok (.ifCond .le o, 3)) (hq : pc + 3 = q) (hr : 0 ≤ (pc : Int) + o ∧ ((pc : Int) + o).toNat = r) (ky : ¬ 0 < x → Go p l e R s m args below meth c Z n0 P kc ks μ k n (mkF m r L st)) (kn : 0 < x → Go p l e R s m args below meth c Z n0 P kc ks μ k n (mkF m q L st)) : Go p l e R s m args below meth c Z n0 P kc ks μ k n (mkF m pc L (.int x :: st)) := by
  subst hq
  by_cases hc : ¬ 0 < x
  · exact Go.pure (ky hc) fun T h t k => XS.ifYes h C.1 rfl rfl (hb C.2.1 hd) rfl (XT.i0_le_t hc) hr.1 hr.2 k
  · exact Go.pure (kn (by first | exact hc | exact Decidable.of_not_not hc)) fun T h t k => XS.ifNo h C.1 rfl (hb C.2.1 hd) rfl (XT.i0_le_f (by first | exact hc | exact Decidable.of_not_not hc)) k
theorem lcmp_le (C : Ctx p s m meth c Z own nm B ml rt) {x y : Int64} {o : Int} {r pc1 : Nat} (hd0 : decode B pc = .ok (.lcmp, 1)) (h1 : pc + 1 = pc1) (hd : decode B pc1 = .ok (.ifCond .le o, 3)) (hq : pc1 + 3 = q) (hr : 0 ≤ (pc1 : Int) + o ∧ ((pc1 : Int) + o).toNat = r) (ky : ¬ y < x → Go p l e R s m args below meth c Z n0 P kc ks μ k n (mkF m r L st)) (kn : y < x → Go p l e R s m args below meth c Z n0 P kc ks μ k n (mkF m q L st)) : Go p l e R s m args below meth c Z n0 P kc ks μ k n (mkF m pc L (.long y :: .long x :: st)) := by
  subst hq h1
  refine Go.pure (g' := mkF m (pc + 1) L (.int (XT.cmpL x y) :: st)) ?_ fun T h t k => XT.lcmp h C.1 rfl (hb C.2.1 hd0) rfl k
  by_cases hc : ¬ y < x
  · exact Go.pure (ky hc) fun T h t k => XS.ifYes h C.1 rfl rfl (hb C.2.1 hd) rfl (XT.ll_le_t hc) hr.1 hr.2 k
  · exact Go.pure (kn (by first | exact hc | exact Decidable.of_not_not hc)) fun T h t k => XS.ifNo h C.1 rfl (hb C.2.1 hd) rfl (XT.ll_le_f (by first | exact hc | exact Decidable.of_not_not hc)) k
theorem ifnullY (C : Ctx p s m meth c Z own nm B ml rt) {o : Int} {b : Addr} (hd : decode B pc = .ok (.ifnull o, 3)) (hq : 0 ≤ (pc : Int) + o ∧ ((pc : Int) + o).toNat = q) (k' : Go p l e R s m args below meth c Z n0 P kc ks μ k n (mkF m q L st)) : Go p l e R s m args below meth c Z n0 P kc ks μ k n (mkF m pc L (.null :: st)) := Go.pure k' fun T h t hr => XS.ifnullYes h C.1 rfl rfl (hb C.2.1 hd) rfl hq.1 hq.2 hr
theorem ifnullN (C : Ctx p s m meth c Z own nm B ml rt) {o : Int} {b : Addr} (hd : decode B pc = .ok (.ifnull o, 3)) (hq : pc + 3 = q) (k' : Go p l e R s m args below meth c Z n0 P kc ks μ k n (mkF m q L st)) : Go p l e R s m args below meth c Z n0 P kc ks μ k n (mkF m pc L ((.ref b) :: st)) := by
  subst hq
  exact Go.pure k' fun T h t hr => XS.ifnullNo h C.1 rfl (hb C.2.1 hd) rfl hr
theorem ifnonnullY (C : Ctx p s m meth c Z own nm B ml rt) {o : Int} {b : Addr} (hd : decode B pc = .ok (.ifnonnull o, 3)) (hq : 0 ≤ (pc : Int) + o ∧ ((pc : Int) + o).toNat = q) (k' : Go p l e R s m args below meth c Z n0 P kc ks μ k n (mkF m q L st)) : Go p l e R s m args below meth c Z n0 P kc ks μ k n (mkF m pc L ((.ref b) :: st)) := Go.pure k' fun T h t hr => XT.ifnonnullYes h C.1 rfl rfl (hb C.2.1 hd) rfl hq.1 hq.2 hr
theorem ifnonnullN (C : Ctx p s m meth c Z own nm B ml rt) {o : Int} {b : Addr} (hd : decode B pc = .ok (.ifnonnull o, 3)) (hq : pc + 3 = q) (k' : Go p l e R s m args below meth c Z n0 P kc ks μ k n (mkF m q L st)) : Go p l e R s m args below meth c Z n0 P kc ks μ k n (mkF m pc L (.null :: st)) := by
  subst hq
  exact Go.pure k' fun T h t hr => XT.ifnonnullNo h C.1 rfl (hb C.2.1 hd) rfl hr
theorem acmp_eq (C : Ctx p s m meth c Z own nm B ml rt) {x y : Value} {o : Int} {r : Nat} (hd : decode B pc = .ok (.if_acmp .eq o, 3)) (hq : pc + 3 = q) (hr : 0 ≤ (pc : Int) + o ∧ ((pc : Int) + o).toNat = r) (h1 : x.isRef = true) (h2 : y.isRef = true) (ky : x = y → Go p l e R s m args below meth c Z n0 P kc ks μ k n (mkF m r L st)) (kn : ¬ x = y → Go p l e R s m args below meth c Z n0 P kc ks μ k n (mkF m q L st)) : Go p l e R s m args below meth c Z n0 P kc ks μ k n (mkF m pc L (y :: x :: st)) := by
  subst hq
  by_cases hc : x = y
  · exact Go.pure (ky hc) fun T h t k => XT.acmpYes h C.1 rfl rfl (hb C.2.1 hd) rfl h1 h2 (XT.aa_eq_t hc) hr.1 hr.2 k
  · exact Go.pure (kn (by first | exact hc | exact Decidable.of_not_not hc)) fun T h t k => XT.acmpNo h C.1 rfl (hb C.2.1 hd) rfl h1 h2 (XT.aa_eq_f (by first | exact hc | exact Decidable.of_not_not hc)) k
theorem acmp_ne (C : Ctx p s m meth c Z own nm B ml rt) {x y : Value} {o : Int} {r : Nat} (hd : decode B pc = .ok (.if_acmp .ne o, 3)) (hq : pc + 3 = q) (hr : 0 ≤ (pc : Int) + o ∧ ((pc : Int) + o).toNat = r) (h1 : x.isRef = true) (h2 : y.isRef = true) (ky : ¬ x = y → Go p l e R s m args below meth c Z n0 P kc ks μ k n (mkF m r L st)) (kn : x = y → Go p l e R s m args below meth c Z n0 P kc ks μ k n (mkF m q L st)) : Go p l e R s m args below meth c Z n0 P kc ks μ k n (mkF m pc L (y :: x :: st)) := by
  subst hq
  by_cases hc : ¬ x = y
  · exact Go.pure (ky hc) fun T h t k => XT.acmpYes h C.1 rfl rfl (hb C.2.1 hd) rfl h1 h2 (XT.aa_ne_t hc) hr.1 hr.2 k
  · exact Go.pure (kn (by first | exact hc | exact Decidable.of_not_not hc)) fun T h t k => XT.acmpNo h C.1 rfl (hb C.2.1 hd) rfl h1 h2 (XT.aa_ne_f (by first | exact hc | exact Decidable.of_not_not hc)) k
theorem mem {μ' : Mem} {g : JFrame} (h : μ = μ') (k' : Go p l e R s m args below meth c Z n0 P kc ks μ' k n g) : Go p l e R s m args below meth c Z n0 P kc ks μ k n g := by subst h; exact k'
/-! constants of the pool -/
theorem ldcI (C : Ctx p s m meth c Z own nm B ml rt) {i : Nat} {v : Int32} (hd : decode B pc = .ok (.ldc i, 2)) (hq : pc + 2 = q) (w : (Cond.constant own i v).before a0 Z = true) (k' : Go p l e R s m args below meth c Z n0 P kc ks μ k n (mkF m q L (.int v :: st))) : Go p l e R s m args below meth c Z n0 P kc ks μ k n (mkF m pc L st) := by
  subst hq
  exact Go.stand k' fun T locs X H => ⟨T, X, rfl, X.ldcInt C.1 C.2.2.2.2.1 (mvT C.2.2.2.1 w) (g := mkF m pc L st) rfl (hb C.2.1 hd)⟩
theorem ldcwI (C : Ctx p s m meth c Z own nm B ml rt) {i : Nat} {v : Int32} (hd : decode B pc = .ok (.ldc_w i, 3)) (hq : pc + 3 = q) (w : (Cond.constant own i v).before a0 Z = true) (k' : Go p l e R s m args below meth c Z n0 P kc ks μ k n (mkF m q L (.int v :: st))) : Go p l e R s m args below meth c Z n0 P kc ks μ k n (mkF m pc L st) := by
  subst hq
  exact Go.stand k' fun T locs X H => ⟨T, X, rfl, X.ldcwInt C.1 C.2.2.2.2.1 (mvT C.2.2.2.1 w) (g := mkF m pc L st) rfl (hb C.2.1 hd)⟩
theorem ldcJ (C : Ctx p s m meth c Z own nm B ml rt) {i : Nat} {v : Int64} (hd : decode B pc = .ok (.ldc2_w i, 3)) (hq : pc + 3 = q) (w : (Cond.constantLong own i v).before a0 Z = true) (k' : Go p l e R s m args below meth c Z n0 P kc ks μ k n (mkF m q L (.long v :: st))) : Go p l e R s m args below meth c Z n0 P kc ks μ k n (mkF m pc L st) := by
  subst hq
  exact Go.stand k' fun T locs X H => ⟨T, X, rfl, X.ldc2Long C.1 C.2.2.2.2.1 (mvT C.2.2.2.1 w) (g := mkF m pc L st) rfl (hb C.2.1 hd)⟩
/-! fields -/
theorem getfield (C : Ctx p s m meth c Z own nm B ml rt) {i j : Nat} {R0 O f d host K : String} {fs : List (Key × Value)} {v : Value} {a : Addr} (hd : decode B pc = .ok (.getfield i, 3)) (hq : pc + 3 = q) (w : (Cond.fieldLink own i R0 f d).before a0 Z = true ∨ (Cond.fieldLinkNest own i R0 f d host).before a0 Z = true) (via : Via Z R0 O f d)
    (hμ : μ a = some (.inl (K, fs))) (hj : fs[j]? = some ((O, f, d), v)) (k' : Go p l e R s m args below meth c Z n0 P kc ks μ k n (mkF m q L (v :: st))) : Go p l e R s m args below meth c Z n0 P kc ks μ k n (mkF m pc L (.ref a :: st)) := by
  subst hq
  refine Go.stand k' fun T locs X H => ?_
  have I := H.2 a _ hμ
  exact getF X C.1 C.2.2.2.1 C.2.2.2.2.1 w via rfl (I.2.1 _ (List.mem_of_getElem? hj)) (g := mkF m pc L (.ref a :: st)) rfl rfl (hb C.2.1 hd)
theorem putfield (C : Ctx p s m meth c Z own nm B ml rt) {i j kk : Nat} {R0 O f d host K : String} {fs fs' : List (Key × Value)} {v old : Value} {a : Addr} {ty : FieldType} (hd : decode B pc = .ok (.putfield i, 3)) (hq : pc + 3 = q) (w : (Cond.fieldLink own i R0 f d).before a0 Z = true ∨ (Cond.fieldLinkNest own i R0 f d host).before a0 Z = true) (via : Via Z R0 O f d)
    (wl : (Cond.lays K O f d).before a0 Z = true ∨ ((Cond.laysFinal K O f d).before a0 Z = true ∧ own = O ∧ nm = "<init>")) (wi : (Cond.instantiable K kk).before a0 Z = true) (hty : parseFieldDescriptor d = some ty) (hn : narrow ty v = v) (hf : fits ty v = true)
    (hμ : μ a = some (.inl (K, fs))) (hj : fs[j]? = some ((O, f, d), old)) (hfs : fs.set j ((O, f, d), v) = fs') (ha : n0 ≤ a) (k' : Go p l e R s m args below meth c Z n0 P kc ks (upd μ a (.inl (K, fs'))) k n (mkF m q L st)) : Go p l e R s m args below meth c Z n0 P kc ks μ k n (mkF m pc L (v :: .ref a :: st)) := by
  subst hq
  intro T locs X F H
  have I := H.2 a _ hμ
  obtain ⟨T', h', X', e', W, stp⟩ := putF X C.1 C.2.2.2.1 C.2.2.2.2.1 w via rfl (I.2.1 _ (List.mem_of_getElem? hj)) I.1 (wl.imp id fun z => ⟨z.1, z.2.1, C.2.2.2.2.2.2.2.trans z.2.2⟩) wi hty hn hf (g := mkF m pc L (v :: .ref a :: st)) rfl rfl (hb C.2.1 hd)
  obtain ⟨s2, o, h1, h2⟩ := k' T' _ X' (Fr.snoc X' F ha) (by rw [e']; exact H.wr W ha (IsO.put I hj W hfs))
  exact ⟨s2, o, stp _ h1, h2⟩
theorem putfieldN (C : Ctx p s m meth c Z own nm B ml rt) {i j kk : Nat} {R0 O f d K : String} {fs fs' : List (Key × Value)} {v v' old : Value} {a : Addr} {ty : FieldType} (hd : decode B pc = .ok (.putfield i, 3)) (hq : pc + 3 = q) (w : (Cond.fieldLink own i R0 f d).before a0 Z = true) (via : Via Z R0 O f d)
    (wl : (Cond.lays K O f d).before a0 Z = true ∨ ((Cond.laysFinal K O f d).before a0 Z = true ∧ own = O ∧ nm = "<init>")) (wi : (Cond.instantiable K kk).before a0 Z = true) (hty : parseFieldDescriptor d = some ty) (hn : narrow ty v = v') (hf : fits ty v' = true)
    (hμ : μ a = some (.inl (K, fs))) (hj : fs[j]? = some ((O, f, d), old)) (hfs : fs.set j ((O, f, d), v') = fs') (ha : n0 ≤ a) (k' : Go p l e R s m args below meth c Z n0 P kc ks (upd μ a (.inl (K, fs'))) k n (mkF m q L st)) : Go p l e R s m args below meth c Z n0 P kc ks μ k n (mkF m pc L (v :: .ref a :: st)) := by
  subst hq
  intro T locs X F H
  have I := H.2 a _ hμ
  obtain ⟨T', h', X', e', W, stp⟩ := putFN X C.1 C.2.2.2.1 C.2.2.2.2.1 w via rfl (I.2.1 _ (List.mem_of_getElem? hj)) I.1 (wl.imp id fun z => ⟨z.1, z.2.1, C.2.2.2.2.2.2.2.trans z.2.2⟩) wi hty hn hf (g := mkF m pc L (v :: .ref a :: st)) rfl rfl (hb C.2.1 hd)
  obtain ⟨s2, o, h1, h2⟩ := k' T' _ X' (Fr.snoc X' F ha) (by rw [e']; exact H.wr W ha (IsO.put I hj W hfs))
  exact ⟨s2, o, stp _ h1, h2⟩
theorem getstatic (C : Ctx p s m meth c Z own nm B ml rt) {i : Nat} {R0 O f d host : String} {v : Value} (hd : decode B pc = .ok (.getstatic i, 3)) (hq : pc + 3 = q) (w : (Cond.fieldLink own i R0 f d).before a0 Z = true ∨ (Cond.fieldLinkNest own i R0 f d host).before a0 Z = true) (via : Via Z R0 O f d)
    (S : Sta Z Z.heap O f d v) (k' : Go p l e R s m args below meth c Z n0 P kc ks μ k n (mkF m q L (v :: st))) : Go p l e R s m args below meth c Z n0 P kc ks μ k n (mkF m pc L st) := by
  subst hq
  exact Go.stand k' fun T locs X H => getS2 X C.1 C.2.2.2.1 C.2.2.2.2.1 w via rfl (S.ext H.1.2) (g := mkF m pc L st) rfl (hb C.2.1 hd)
/-! new objects -/
def AllLaid (Z : State) (a0 : Array Value) (C : String) : List (Key × Value) → Prop
  | [] => True
  | q :: r => (∃ ty, Laid Z a0 C q.1.1 q.1.2.1 q.1.2.2 ∧ parseFieldDescriptor q.1.2.2 = some ty ∧ q.2 = defaultValue ty) ∧ AllLaid Z a0 C r
theorem AllLaid.mem {K : String} : ∀ {fs : List (Key × Value)}, AllLaid Z a0 K fs → ∀ q ∈ fs, ∃ ty, Laid Z a0 K q.1.1 q.1.2.1 q.1.2.2 ∧ parseFieldDescriptor q.1.2.2 = some ty ∧ q.2 = defaultValue ty
  | [], _, _, h => nomatch h
  | _ :: _, H, q, h => (List.mem_cons.mp h).elim (fun z => z ▸ H.1) (AllLaid.mem H.2 q)
theorem AllLaid.pw {K : String} : ∀ {fs : List (Key × Value)}, AllLaid Z a0 K fs → fs.Pairwise (fun q r => q.1.2.1 ≠ r.1.2.1) → fs.Pairwise fun q r => sl Z q ≠ sl Z r
  | [], _, _ => .nil
  | x :: r, H, N => by
    cases N with
    | cons h1 h2 =>
      refine .cons (fun y hy => ?_) (AllLaid.pw H.2 h2)
      obtain ⟨t1, L1, p1, -⟩ := H.1
      obtain ⟨t2, L2, p2, -⟩ := AllLaid.mem H.2 y hy
      exact RoadKit.slot_ne L1 L2 (h1 y hy) p1 p2
theorem new (C : Ctx p s m meth c Z own nm B ml rt) {i ns : Nat} {K : String} {fs : List (Key × Value)} (hd : decode B pc = .ok (.new i, 3)) (hq : pc + 3 = q) (w1 : (Cond.classLink own i K).before a0 Z = true) (w2 : (Cond.instantiable K ns).before a0 Z = true) (w3 : (Cond.initialized K).before a0 Z = true)
    (hl : AllLaid Z a0 K fs) (hnd : fs.Pairwise (fun q r => q.1.2.1 ≠ r.1.2.1)) (hc : k + 1 ≤ R.cells) (hs : n + ns ≤ R.slots)
    (k' : ∀ a : Addr, (∀ b o, μ b = some o → b ≠ a) → n0 ≤ a → Go p l e R s m args below meth c Z n0 P kc ks (upd μ a (.inl (K, fs))) (k + 1) (n + ns) (mkF m q L (.ref a :: st))) : Go p l e R s m args below meth c Z n0 P kc ks μ k n (mkF m pc L st) := by
  subst hq
  intro T locs X F H
  obtain ⟨T', h', X', e', E, A, D, -, stp⟩ := newO X C.1 C.2.2.2.1 C.2.2.2.2.1 w1 w2 w3 rfl (g := mkF m pc L st) rfl (hb C.2.1 hd) hc hs
  obtain ⟨s2, o, h1, h2⟩ := k' T.heap.size H.fresh H.ge T' _ X' F (by
    rw [e']
    refine Hp.set (H.ext E) ⟨A, fun z hz => ?_, hl.pw hnd⟩
    obtain ⟨ty, l1, l2, l3⟩ := hl.mem z hz
    rw [l3]; exact D l1 l2)
  exact ⟨s2, o, stp _ h1, h2⟩
theorem newArr (C : Ctx p s m meth c Z own nm B ml rt) {aty : ArrayType} {ty : FieldType} {z : Int32} {cap : Nat} {vs : List Value} (hd : decode B pc = .ok (.newarray aty, 2)) (hq : pc + 2 = q) (ht : newarray.typeOf aty = ty) (w : (Cond.arrayClass ty).before a0 Z = true) (hz : ¬ z < 0) (hcap : z.toNatClampNeg ≤ cap) (hbig : cap * 8 ≤ 536870912) (hvs : List.replicate z.toNatClampNeg (defaultValue ty) = vs)
    (hc : k + 1 ≤ R.cells) (hs : n + cap ≤ R.slots)
    (k' : ∀ a : Addr, (∀ b o, μ b = some o → b ≠ a) → n0 ≤ a → Go p l e R s m args below meth c Z n0 P kc ks (upd μ a (.inr (ty, vs))) (k + 1) (n + cap) (mkF m q L (.ref a :: st))) : Go p l e R s m args below meth c Z n0 P kc ks μ k n (mkF m pc L (.int z :: st)) := by
  subst hq hvs ht
  intro T locs X F H
  obtain ⟨T', h', cA, X', e', E, A, Ex, stp⟩ := newPE X C.1 C.2.2.2.1 w rfl (g := mkF m pc L (.int z :: st)) rfl (hb C.2.1 hd) rfl hz hcap hbig hc hs rfl
  obtain ⟨s2, o, h1, h2⟩ := k' T.heap.size H.fresh H.ge T' _ X' F (by
    rw [e']
    refine Hp.set (H.ext E) ⟨_, A, by simp [newA], by rw [List.length_replicate]; exact (back32 hz).2, fun v hv => ?_, fun _ => ⟨fun q => ?_, fun q => ?_⟩⟩
    · rw [(List.mem_replicate.mp hv).2]; cases aty <;> rfl
    · cases aty <;> first | exact Ex | cases q
    · cases aty <;> cases q)
  exact ⟨s2, o, stp _ h1, h2⟩
/-! arrays -/
theorem inb {c : Cell} {vs : List Value} {j : Int32} (e : c.slots.toList = vs) (h0 : ¬ j < 0) (hj : j.toNatClampNeg < vs.length) : ¬ (j < 0 ∨ c.slots.size ≤ j.toNatClampNeg) := by
  subst e; rw [Array.length_toList] at hj; rintro (q | q)
  · exact h0 q
  · omega
theorem atL {c : Cell} {vs : List Value} {j : Nat} {v : Value} (e : c.slots.toList = vs) (hv : vs[j]? = some v) : c.slots[j]? = some v := by
  subst e; rw [Array.getElem?_toList] at hv; exact hv
theorem arraylength (C : Ctx p s m meth c Z own nm B ml rt) {ty : FieldType} {vs : List Value} {a : Addr} (hd : decode B pc = .ok (.arraylength, 1)) (hq : pc + 1 = q) (hμ : μ a = some (.inr (ty, vs))) (k' : ∀ z : Int32, z = Int32.ofNat vs.length → z.toInt = vs.length → Go p l e R s m args below meth c Z n0 P kc ks μ k n (mkF m q L (.int z :: st))) : Go p l e R s m args below meth c Z n0 P kc ks μ k n (mkF m pc L (.ref a :: st)) := by
  subst hq
  intro T locs X F H
  obtain ⟨cl, A, e1, hl, -⟩ := H.2 a _ hμ
  have e2 : cl.slots.size = vs.length := by subst e1; rw [Array.length_toList]
  obtain ⟨s2, o, h1, h2⟩ := k' (Int32.ofNat vs.length) rfl (Int32.toInt_ofNat_small hl) T _ X F H
  exact ⟨s2, o, X.arraylength C.1 A.1 (State.isArrayOf_alike C.2.2.2.1.alike A.2.1) (g := mkF m pc L (.ref a :: st)) rfl rfl (hb C.2.1 hd) _ (by rw [e2]; exact h1), h2⟩
theorem iaload (C : Ctx p s m meth c Z own nm B ml rt) {vs : List Value} {a : Addr} {j : Int32} {v : Value} (hd : decode B pc = .ok (.iaload, 1)) (hq : pc + 1 = q) (hμ : μ a = some (.inr (.int, vs))) (h0 : ¬ j < 0) (hv : vs[j.toNatClampNeg]? = some v) (k' : Go p l e R s m args below meth c Z n0 P kc ks μ k n (mkF m q L (v :: st))) : Go p l e R s m args below meth c Z n0 P kc ks μ k n (mkF m pc L (.int j :: .ref a :: st)) := by
  subst hq
  intro T locs X F H
  obtain ⟨cl, A, e1, -⟩ := H.2 a _ hμ
  obtain ⟨s2, o, h1, h2⟩ := k' T _ X F H
  exact ⟨s2, o, X.iaload C.1 A.1 (State.isArrayOf_alike C.2.2.2.1.alike A.2.1) A.2.2 (inb e1 h0 (List.getElem?_eq_some_iff.mp hv).1) (atL e1 hv) (g := mkF m pc L (.int j :: .ref a :: st)) rfl rfl (hb C.2.1 hd) _ h1, h2⟩
theorem laload (C : Ctx p s m meth c Z own nm B ml rt) {vs : List Value} {a : Addr} {j : Int32} {v : Value} (hd : decode B pc = .ok (.laload, 1)) (hq : pc + 1 = q) (hμ : μ a = some (.inr (.long, vs))) (h0 : ¬ j < 0) (hv : vs[j.toNatClampNeg]? = some v) (k' : Go p l e R s m args below meth c Z n0 P kc ks μ k n (mkF m q L (v :: st))) : Go p l e R s m args below meth c Z n0 P kc ks μ k n (mkF m pc L (.int j :: .ref a :: st)) := by
  subst hq
  intro T locs X F H
  obtain ⟨cl, A, e1, -⟩ := H.2 a _ hμ
  obtain ⟨s2, o, h1, h2⟩ := k' T _ X F H
  exact ⟨s2, o, X.laload C.1 A.1 (State.isArrayOf_alike C.2.2.2.1.alike A.2.1) A.2.2 (inb e1 h0 (List.getElem?_eq_some_iff.mp hv).1) (atL e1 hv) (g := mkF m pc L (.int j :: .ref a :: st)) rfl rfl (hb C.2.1 hd) _ h1, h2⟩
theorem caload (C : Ctx p s m meth c Z own nm B ml rt) {vs : List Value} {a : Addr} {j : Int32} {v : Value} (hd : decode B pc = .ok (.caload, 1)) (hq : pc + 1 = q) (hμ : μ a = some (.inr (.char, vs))) (h0 : ¬ j < 0) (hv : vs[j.toNatClampNeg]? = some v) (k' : Go p l e R s m args below meth c Z n0 P kc ks μ k n (mkF m q L (v :: st))) : Go p l e R s m args below meth c Z n0 P kc ks μ k n (mkF m pc L (.int j :: .ref a :: st)) := by
  subst hq
  intro T locs X F H
  obtain ⟨cl, A, e1, -⟩ := H.2 a _ hμ
  obtain ⟨s2, o, h1, h2⟩ := k' T _ X F H
  exact ⟨s2, o, X.caload C.1 A.1 (State.isArrayOf_alike C.2.2.2.1.alike A.2.1) A.2.2 (inb e1 h0 (List.getElem?_eq_some_iff.mp hv).1) (atL e1 hv) (g := mkF m pc L (.int j :: .ref a :: st)) rfl rfl (hb C.2.1 hd) _ h1, h2⟩
theorem baload (C : Ctx p s m meth c Z own nm B ml rt) {vs : List Value} {a : Addr} {j : Int32} {v : Value} (hd : decode B pc = .ok (.baload, 1)) (hq : pc + 1 = q) (hμ : μ a = some (.inr (.byte, vs))) (h0 : ¬ j < 0) (hv : vs[j.toNatClampNeg]? = some v) (k' : Go p l e R s m args below meth c Z n0 P kc ks μ k n (mkF m q L (v :: st))) : Go p l e R s m args below meth c Z n0 P kc ks μ k n (mkF m pc L (.int j :: .ref a :: st)) := by
  subst hq
  intro T locs X F H
  obtain ⟨cl, A, e1, -⟩ := H.2 a _ hμ
  obtain ⟨s2, o, h1, h2⟩ := k' T _ X F H
  exact ⟨s2, o, X.baloadBytes C.1 A.1 (State.isArrayOf_alike C.2.2.2.1.alike A.2.1) A.2.2 (inb e1 h0 (List.getElem?_eq_some_iff.mp hv).1) (atL e1 hv) (g := mkF m pc L (.int j :: .ref a :: st)) rfl rfl (hb C.2.1 hd) _ h1, h2⟩
theorem zaload (C : Ctx p s m meth c Z own nm B ml rt) {vs : List Value} {a : Addr} {j : Int32} {v : Value} (hd : decode B pc = .ok (.baload, 1)) (hq : pc + 1 = q) (hμ : μ a = some (.inr (.boolean, vs))) (h0 : ¬ j < 0) (hv : vs[j.toNatClampNeg]? = some v) (k' : Go p l e R s m args below meth c Z n0 P kc ks μ k n (mkF m q L (v :: st))) : Go p l e R s m args below meth c Z n0 P kc ks μ k n (mkF m pc L (.int j :: .ref a :: st)) := by
  subst hq
  intro T locs X F H
  obtain ⟨cl, A, e1, -⟩ := H.2 a _ hμ
  obtain ⟨s2, o, h1, h2⟩ := k' T _ X F H
  exact ⟨s2, o, X.baloadBooleans C.1 A.1 (State.isArrayOf_alike C.2.2.2.1.alike A.2.1) A.2.2 (inb e1 h0 (List.getElem?_eq_some_iff.mp hv).1) (atL e1 hv) (g := mkF m pc L (.int j :: .ref a :: st)) rfl rfl (hb C.2.1 hd) _ h1, h2⟩
theorem aaload (C : Ctx p s m meth c Z own nm B ml rt) {ty : FieldType} {vs : List Value} {a : Addr} {j : Int32} {v : Value} (hd : decode B pc = .ok (.aaload, 1)) (hq : pc + 1 = q) (hμ : μ a = some (.inr (ty, vs))) (hr : ty.isReference = true) (h0 : ¬ j < 0) (hv : vs[j.toNatClampNeg]? = some v) (k' : Go p l e R s m args below meth c Z n0 P kc ks μ k n (mkF m q L (v :: st))) : Go p l e R s m args below meth c Z n0 P kc ks μ k n (mkF m pc L (.int j :: .ref a :: st)) := by
  subst hq
  intro T locs X F H
  obtain ⟨cl, A, e1, -⟩ := H.2 a _ hμ
  obtain ⟨s2, o, h1, h2⟩ := k' T _ X F H
  exact ⟨s2, o, X.aaload C.1 A.1 (State.isArrayOf_alike C.2.2.2.1.alike A.2.1) hr A.2.2 (inb e1 h0 (List.getElem?_eq_some_iff.mp hv).1) (atL e1 hv) (g := mkF m pc L (.int j :: .ref a :: st)) rfl rfl (hb C.2.1 hd) _ h1, h2⟩
theorem iastore (C : Ctx p s m meth c Z own nm B ml rt) {vs : List Value} {a : Addr} {j : Int32} {x : Int32} (hd : decode B pc = .ok (.iastore, 1)) (hq : pc + 1 = q) (hμ : μ a = some (.inr (.int, vs))) (h0 : ¬ j < 0) (hj : j.toNatClampNeg < vs.length) (ha : n0 ≤ a) (k' : Go p l e R s m args below meth c Z n0 P kc ks (upd μ a (.inr (.int, vs.set j.toNatClampNeg (.int x)))) k n (mkF m q L st)) : Go p l e R s m args below meth c Z n0 P kc ks μ k n (mkF m pc L ((.int x) :: .int j :: .ref a :: st)) := by
  subst hq
  intro T locs X F H
  have I := H.2 a _ hμ
  obtain ⟨cl, A, e1, -⟩ := id I
  obtain ⟨T', h', X', e', W, stp⟩ := stI X C.1 C.2.2.2.1 rfl A (inb e1 h0 hj) (g := mkF m pc L ((.int x) :: .int j :: .ref a :: st)) rfl rfl (hb C.2.1 hd)
  obtain ⟨s2, o, h1, h2⟩ := k' T' _ X' (Fr.snoc X' F ha) (by rw [e']; exact H.wr W ha (IsA.put I rfl W))
  exact ⟨s2, o, stp _ h1, h2⟩
theorem lastore (C : Ctx p s m meth c Z own nm B ml rt) {vs : List Value} {a : Addr} {j : Int32} {x : Int64} (hd : decode B pc = .ok (.lastore, 1)) (hq : pc + 1 = q) (hμ : μ a = some (.inr (.long, vs))) (h0 : ¬ j < 0) (hj : j.toNatClampNeg < vs.length) (ha : n0 ≤ a) (k' : Go p l e R s m args below meth c Z n0 P kc ks (upd μ a (.inr (.long, vs.set j.toNatClampNeg (.long x)))) k n (mkF m q L st)) : Go p l e R s m args below meth c Z n0 P kc ks μ k n (mkF m pc L ((.long x) :: .int j :: .ref a :: st)) := by
  subst hq
  intro T locs X F H
  have I := H.2 a _ hμ
  obtain ⟨cl, A, e1, -⟩ := id I
  obtain ⟨T', h', X', e', W, stp⟩ := stJ X C.1 C.2.2.2.1 rfl A (inb e1 h0 hj) (g := mkF m pc L ((.long x) :: .int j :: .ref a :: st)) rfl rfl (hb C.2.1 hd)
  obtain ⟨s2, o, h1, h2⟩ := k' T' _ X' (Fr.snoc X' F ha) (by rw [e']; exact H.wr W ha (IsA.put I rfl W))
  exact ⟨s2, o, stp _ h1, h2⟩
theorem castore (C : Ctx p s m meth c Z own nm B ml rt) {vs : List Value} {a : Addr} {j : Int32} {x : Int32} (hd : decode B pc = .ok (.castore, 1)) (hq : pc + 1 = q) (hμ : μ a = some (.inr (.char, vs))) (h0 : ¬ j < 0) (hj : j.toNatClampNeg < vs.length) (ha : n0 ≤ a) (k' : Go p l e R s m args below meth c Z n0 P kc ks (upd μ a (.inr (.char, vs.set j.toNatClampNeg (.int (nar .char x))))) k n (mkF m q L st)) : Go p l e R s m args below meth c Z n0 P kc ks μ k n (mkF m pc L ((.int x) :: .int j :: .ref a :: st)) := by
  subst hq
  intro T locs X F H
  have I := H.2 a _ hμ
  obtain ⟨cl, A, e1, -⟩ := id I
  obtain ⟨T', h', X', e', W, stp⟩ := stC X C.1 C.2.2.2.1 rfl A (inb e1 h0 hj) (g := mkF m pc L ((.int x) :: .int j :: .ref a :: st)) rfl rfl (hb C.2.1 hd)
  obtain ⟨s2, o, h1, h2⟩ := k' T' _ X' (Fr.snoc X' F ha) (by rw [e']; exact H.wr W ha (IsA.put I (fits_nar_char _) W))
  exact ⟨s2, o, stp _ h1, h2⟩
theorem bastore (C : Ctx p s m meth c Z own nm B ml rt) {vs : List Value} {a : Addr} {j : Int32} {x : Int32} (hd : decode B pc = .ok (.bastore, 1)) (hq : pc + 1 = q) (hμ : μ a = some (.inr (.byte, vs))) (h0 : ¬ j < 0) (hj : j.toNatClampNeg < vs.length) (ha : n0 ≤ a) (k' : Go p l e R s m args below meth c Z n0 P kc ks (upd μ a (.inr (.byte, vs.set j.toNatClampNeg (.int x.toInt8.toInt32)))) k n (mkF m q L st)) : Go p l e R s m args below meth c Z n0 P kc ks μ k n (mkF m pc L ((.int x) :: .int j :: .ref a :: st)) := by
  subst hq
  intro T locs X F H
  have I := H.2 a _ hμ
  obtain ⟨cl, A, e1, -⟩ := id I
  obtain ⟨T', h', X', e', W, stp⟩ := stB X C.1 C.2.2.2.1 rfl A (inb e1 h0 hj) (g := mkF m pc L ((.int x) :: .int j :: .ref a :: st)) rfl rfl (hb C.2.1 hd)
  obtain ⟨s2, o, h1, h2⟩ := k' T' _ X' (Fr.snoc X' F ha) (by rw [e']; exact H.wr W ha (IsA.put I (fits_nar_byte _) W))
  exact ⟨s2, o, stp _ h1, h2⟩
theorem zastore (C : Ctx p s m meth c Z own nm B ml rt) {vs : List Value} {a : Addr} {j : Int32} {x : Int32} (hd : decode B pc = .ok (.bastore, 1)) (hq : pc + 1 = q) (hμ : μ a = some (.inr (.boolean, vs))) (h0 : ¬ j < 0) (hj : j.toNatClampNeg < vs.length) (ha : n0 ≤ a) (k' : Go p l e R s m args below meth c Z n0 P kc ks (upd μ a (.inr (.boolean, vs.set j.toNatClampNeg (.int (nar .boolean x))))) k n (mkF m q L st)) : Go p l e R s m args below meth c Z n0 P kc ks μ k n (mkF m pc L ((.int x) :: .int j :: .ref a :: st)) := by
  subst hq
  intro T locs X F H
  have I := H.2 a _ hμ
  obtain ⟨cl, A, e1, -⟩ := id I
  obtain ⟨T', h', X', e', W, stp⟩ := stZ X C.1 C.2.2.2.1 rfl A (inb e1 h0 hj) (g := mkF m pc L ((.int x) :: .int j :: .ref a :: st)) rfl rfl (hb C.2.1 hd)
  obtain ⟨s2, o, h1, h2⟩ := k' T' _ X' (Fr.snoc X' F ha) (by rw [e']; exact H.wr W ha (IsA.put I (fits_nar_bool _) W))
  exact ⟨s2, o, stp _ h1, h2⟩
/-! returns -/
theorem ireturn (C : Ctx p s m meth c Z own nm B ml (some .int)) {z : Int32} (hd : decode B pc = .ok (.ireturn, 1)) (hk : k ≤ kc) (hn : n ≤ ks) (h : P (some (.int z)) μ) : Go p l e R s m args below meth c Z n0 P kc ks μ k n (mkF m pc L (.int z :: st)) := fun T locs X F H => by
  obtain ⟨fs, hr, hrun, hended, hW, hsame⟩ := X.leave (v := some (.int z)) (fun h => by rw [C.2.2.2.2.2.1] at h; cases h) C.2.2.2.2.2.2.1
  exact ⟨_, _, retOut X C.1 C.2.2.2.2.2.1 rfl (Or.inl ⟨rfl, Or.inl rfl, z, rfl⟩) (hb C.2.1 hd) hr, hrun, hended, _, _, rfl, ⟨F, μ, H, h⟩, ⟨_, rfl⟩, hW, hsame.mono hk hn⟩
theorem nreturn {t : FieldType} (C : Ctx p s m meth c Z own nm B ml (some t)) {z z' : Int32} (hd : decode B pc = .ok (.ireturn, 1)) (ht : t = .boolean ∨ t = .byte ∨ t = .char ∨ t = .short) (hz : nar t z = z') (hk : k ≤ kc) (hn : n ≤ ks) (h : P (some (.int z')) μ) : Go p l e R s m args below meth c Z n0 P kc ks μ k n (mkF m pc L (.int z :: st)) := fun T locs X F H => by
  subst hz
  obtain ⟨fs, hr, hrun, hended, hW, hsame⟩ := X.leave (v := some (.int (nar t z))) (fun h => by rw [C.2.2.2.2.2.1] at h; cases h) C.2.2.2.2.2.2.1
  exact ⟨_, _, retN X C.1 C.2.2.2.2.2.1 ht (hb C.2.1 hd) hr, hrun, hended, _, _, rfl, ⟨F, μ, H, h⟩, ⟨_, rfl⟩, hW, hsame.mono hk hn⟩
theorem lreturn (C : Ctx p s m meth c Z own nm B ml (some .long)) {z : Int64} (hd : decode B pc = .ok (.lreturn, 1)) (hk : k ≤ kc) (hn : n ≤ ks) (h : P (some (.long z)) μ) : Go p l e R s m args below meth c Z n0 P kc ks μ k n (mkF m pc L (.long z :: st)) := fun T locs X F H => by
  obtain ⟨fs, hr, hrun, hended, hW, hsame⟩ := X.leave (v := some (.long z)) (fun h => by rw [C.2.2.2.2.2.1] at h; cases h) C.2.2.2.2.2.2.1
  exact ⟨_, _, retOut X C.1 C.2.2.2.2.2.1 rfl (Or.inr (Or.inl ⟨rfl, rfl, z, rfl⟩)) (hb C.2.1 hd) hr, hrun, hended, _, _, rfl, ⟨F, μ, H, h⟩, ⟨_, rfl⟩, hW, hsame.mono hk hn⟩
theorem nref {t : FieldType} {v : Value} (h1 : t.isReference = true) (h2 : v.isRef = true) : narrow t v = v := by
  cases t <;> first | (cases h1; done) | rfl
theorem areturn {t : FieldType} (C : Ctx p s m meth c Z own nm B ml (some t)) {v : Value} (ht : t.isReference = true) (hv : v.isRef = true) (hd : decode B pc = .ok (.areturn, 1)) (hk : k ≤ kc) (hn : n ≤ ks) (h : P (some v) μ) : Go p l e R s m args below meth c Z n0 P kc ks μ k n (mkF m pc L (v :: st)) := fun T locs X F H => by
  obtain ⟨fs, hr, hrun, hended, hW, hsame⟩ := X.leave (v := some v) (fun h => by rw [C.2.2.2.2.2.1] at h; cases h) C.2.2.2.2.2.2.1
  exact ⟨_, _, retOut X C.1 C.2.2.2.2.2.1 (nref ht hv) (Or.inr (Or.inr (Or.inr (Or.inr ⟨rfl, ht, hv⟩)))) (hb C.2.1 hd) hr, hrun, hended, _, _, rfl, ⟨F, μ, H, h⟩, ⟨_, rfl⟩, hW, hsame.mono hk hn⟩
theorem vreturn (C : Ctx p s m meth c Z own nm B ml none) (hd : decode B pc = .ok (.return_, 1)) (hk : k ≤ kc) (hn : n ≤ ks) (h : P none μ) : Go p l e R s m args below meth c Z n0 P kc ks μ k n (mkF m pc L []) := fun T locs X F H => by
  obtain ⟨fs, hr, hrun, hended, hW, hsame⟩ := X.leave (v := none) (fun _ => rfl) C.2.2.2.2.2.2.1
  exact ⟨_, _, X.returnOut C.1 C.2.2.2.2.2.1 (hb C.2.1 hd) hr, hrun, hended, _, _, rfl, ⟨F, μ, H, h⟩, ⟨_, rfl⟩, hW, hsame.mono hk hn⟩
/-! what a callee leaves, by the kind of its return -/
def RV (Q : Mem → Prop) : Option Value → Mem → Prop := fun v μ => v = none ∧ Q μ
def RI (Q : Int32 → Mem → Prop) : Option Value → Mem → Prop := fun v μ => ∃ z, v = some (.int z) ∧ Q z μ
def RJ (Q : Int64 → Mem → Prop) : Option Value → Mem → Prop := fun v μ => ∃ z, v = some (.long z) ∧ Q z μ
def RR (Q : Value → Mem → Prop) : Option Value → Mem → Prop := fun v μ => ∃ z : Value, v = some z ∧ z.isRef = true ∧ Q z μ
section Nx
variable {k2 n2 : Nat}
theorem nxV {Q : Mem → Prop} (h : ∀ μ', Q μ' → Go p l e R s m args below meth c Z n0 P kc ks μ' k2 n2 (mkF m q L st)) : ∀ v μ', RV Q v μ' → Go p l e R s m args below meth c Z n0 P kc ks μ' k2 n2 (mkF m q L (v.toList ++ st)) := fun v μ' ⟨e1, e2⟩ => by subst e1; exact h μ' e2
theorem nxI {Q : Int32 → Mem → Prop} (h : ∀ z μ', Q z μ' → Go p l e R s m args below meth c Z n0 P kc ks μ' k2 n2 (mkF m q L (.int z :: st))) : ∀ v μ', RI Q v μ' → Go p l e R s m args below meth c Z n0 P kc ks μ' k2 n2 (mkF m q L (v.toList ++ st)) := fun v μ' ⟨z, e1, e2⟩ => by subst e1; exact h z μ' e2
theorem nxJ {Q : Int64 → Mem → Prop} (h : ∀ z μ', Q z μ' → Go p l e R s m args below meth c Z n0 P kc ks μ' k2 n2 (mkF m q L (.long z :: st))) : ∀ v μ', RJ Q v μ' → Go p l e R s m args below meth c Z n0 P kc ks μ' k2 n2 (mkF m q L (v.toList ++ st)) := fun v μ' ⟨z, e1, e2⟩ => by subst e1; exact h z μ' e2
theorem nxR {Q : Value → Mem → Prop} (h : ∀ z μ', z.isRef = true → Q z μ' → Go p l e R s m args below meth c Z n0 P kc ks μ' k2 n2 (mkF m q L (z :: st))) : ∀ v μ', RR Q v μ' → Go p l e R s m args below meth c Z n0 P kc ks μ' k2 n2 (mkF m q L (v.toList ++ st)) := fun v μ' ⟨z, e1, e2, e3⟩ => by subst e1; exact h z μ' e2 e3
end Nx
/-! calls by contract -/
theorem backs {y : MethodName} {B' : ByteArray} {ml' : Nat} {rt' : Option FieldType} {rm : Room} {len W : Nat} {as' : Array Value} {P' : Option Value → Mem → Prop} {h : Heap}
    (con : Con l Z n0 y B' ml' rt' [] rm rm.cells rm.slots as' μ P') (H : Hp Z n0 μ h) (hZ : Z.Warmed39 s.vm) (wc : (Cond.code y B' ml' rt').before a0 Z = true) (wz : (Cond.initialized y.cls).before a0 Z = true) (hf : rm.frames + 1 ≤ R.frames) (hl : W + (ml' + 11) + rm.locals ≤ R.locals) :
    Back l R p e below s args y len W (fun A a => a = as' ∧ A.U.heap = h ∧ A.cells + rm.cells ≤ R.cells ∧ A.slots + rm.slots ≤ R.slots)
      (fun A _ v B => ∃ L, (Fr n0 L ∧ ∃ μ', Hp Z n0 μ' B.U.heap ∧ P' v μ') ∧ B.locs = A.locs ++ L ∧ B.cells = A.cells + rm.cells ∧ B.slots = A.slots + rm.slots) :=
  backOf (Q := fun v h' L => Fr n0 L ∧ ∃ μ', Hp Z n0 μ' h' ∧ P' v μ') (con h H) hZ wc wz hf hl
theorem callS (C : Ctx p s m meth c Z own nm B ml rt) {i : Nat} {y : MethodName} {B' : ByteArray} {ml' : Nat} {rt' : Option FieldType} {rm : Room} {W : Nat} {argsL : List Value} {P' : Option Value → Mem → Prop} {S : List Value} (hd : decode B pc = .ok (.invokestatic i, 3)) (hq : pc + 3 = q)
    (w1 : (Cond.methodLink own i y).before a0 Z = true) (w2 : (Cond.static y).before a0 Z = true) (w3 : (Cond.initialized y.cls).before a0 Z = true) (w4 : (Cond.code y B' ml' rt').before a0 Z = true) (hy : y.cls ≠ "java/lang/invoke/MethodHandle" ∧ y.cls ≠ "java/lang/invoke/VarHandle")
    (hlen : ∀ sig, parseMethodDescriptor y.desc = some sig → argsL.length = sig.parameters.length) (hS : S = argsL.reverse ++ st) (hsz : L.size = ml) (hW : 2 * 0 + (st.map fun v => v.category).sum ≤ W) (hf : rm.frames + 1 ≤ R.frames) (hl : W + (ml' + 11) + rm.locals ≤ R.locals) (hc : k + rm.cells ≤ R.cells) (hs : n + rm.slots ≤ R.slots)
    (con : Con l Z n0 y B' ml' rt' [] rm rm.cells rm.slots argsL.toArray μ P')
    (k' : ∀ v μ', P' v μ' → Go p l e R s m args below meth c Z n0 P kc ks μ' (k + rm.cells) (n + rm.slots) (mkF m q L (v.toList ++ st))) : Go p l e R s m args below meth c Z n0 P kc ks μ k n (mkF m pc L S) := by
  subst hq
  intro T locs X F H
  obtain ⟨v, vm1, ⟨T', L', k2, n2⟩, -, X', ⟨Lc, ⟨N, μ', H', hP⟩, e1, e2, e3⟩, stp⟩ := Jvm.LawKit.callS X C.1 (y := y) C.2.2.2.2.1 (mvT C.2.2.2.1 w1) (mvT C.2.2.2.1 w2) (mvT C.2.2.2.1 w3) (mvT C.2.2.2.1 w4) hy (backs (W := W) con H C.2.2.2.1 w4 w3 hf hl) (g := mkF m pc L S) rfl (hsz.trans C.2.2.1.symm) (argsL := argsL) (rest := st) hlen hS hW (hb C.2.1 hd) (fun _ _ => ⟨rfl, rfl, hc, hs⟩)
  dsimp only [Pt.U, Pt.locs, Pt.cells, Pt.slots] at X' e1 e2 e3 stp H'
  subst e1 e2 e3
  obtain ⟨s2, o, h1, h2⟩ := k' v μ' hP T' _ X' (F.app N) H'
  exact ⟨s2, o, stp _ h1, h2⟩
theorem callI (C : Ctx p s m meth c Z own nm B ml rt) {i : Nat} {y : MethodName} {B' : ByteArray} {ml' : Nat} {rm : Room} {W : Nat} {argsL : List Value} {P' : Option Value → Mem → Prop} {S : List Value} {a : Addr} (hd : decode B pc = .ok (.invokespecial i, 3)) (hq : pc + 3 = q) (hnm : y.name = "<init>")
    (w1 : (Cond.methodLink own i y).before a0 Z = true) (w2 : (Cond.instanceMethod y).before a0 Z = true) (w3 : (Cond.initialized y.cls).before a0 Z = true) (w4 : (Cond.code y B' ml' none).before a0 Z = true) (hy : y.cls ≠ "java/lang/invoke/MethodHandle" ∧ y.cls ≠ "java/lang/invoke/VarHandle")
    (hlen : ∀ sig, parseMethodDescriptor y.desc = some sig → argsL.length = sig.parameters.length) (hS : S = argsL.reverse ++ .ref a :: st) (hsz : L.size = ml) (hW : 2 * 0 + (st.map fun v => v.category).sum ≤ W) (hf : rm.frames + 1 ≤ R.frames) (hl : W + (ml' + 11) + rm.locals ≤ R.locals) (hc : k + rm.cells ≤ R.cells) (hs : n + rm.slots ≤ R.slots)
    (con : Con l Z n0 y B' ml' none [] rm rm.cells rm.slots (.ref a :: argsL).toArray μ P')
    (k' : ∀ v μ', P' v μ' → Go p l e R s m args below meth c Z n0 P kc ks μ' (k + rm.cells) (n + rm.slots) (mkF m q L (v.toList ++ st))) : Go p l e R s m args below meth c Z n0 P kc ks μ k n (mkF m pc L S) := by
  subst hq
  intro T locs X F H
  obtain ⟨v, vm1, ⟨T', L', k2, n2⟩, -, X', ⟨Lc, ⟨N, μ', H', hP⟩, e1, e2, e3⟩, stp⟩ := X.specialBack C.1 (y := y) hnm C.2.2.2.2.1 (mvT C.2.2.2.1 w1) (mvT C.2.2.2.1 w2) (mvT C.2.2.2.1 w4) hy (backs (W := W) con H C.2.2.2.1 w4 w3 hf hl) (g := mkF m pc L S) rfl (hsz.trans C.2.2.1.symm) (Steps.refl _) (a := a) (argsL := argsL) (rest := st) hlen hS hW (hb C.2.1 hd) (fun _ _ => ⟨rfl, rfl, hc, hs⟩)
  dsimp only [Pt.U, Pt.locs, Pt.cells, Pt.slots] at X' e1 e2 e3 stp H'
  subst e1 e2 e3
  obtain ⟨s2, o, h1, h2⟩ := k' v μ' hP T' _ X' (F.app N) H'
  exact ⟨s2, o, stp.trans h1, h2⟩
theorem initObj (C : Ctx p s m meth c Z own nm B ml rt) {i W : Nat} {a : Addr} (hd : decode B pc = .ok (.invokespecial i, 3)) (hq : pc + 3 = q) (w1 : (Cond.methodLink own i Lib.objectInit).before a0 Z = true) (w2 : (Cond.instanceMethod Lib.objectInit).before a0 Z = true) (w3 : (Cond.code Lib.objectInit ⟨#[0xb1]⟩ 1 none).before a0 Z = true)
    (hsz : L.size = ml) (hf : 1 ≤ R.frames) (hW : 2 * 0 + (st.map fun v => v.category).sum ≤ W) (hl : W + 12 ≤ R.locals) (k' : Go p l e R s m args below meth c Z n0 P kc ks μ k n (mkF m q L st)) : Go p l e R s m args below meth c Z n0 P kc ks μ k n (mkF m pc L (.ref a :: st)) := by
  subst hq
  exact Go.stand k' fun T locs X H => initO X C.1 C.2.2.2.1 C.2.2.2.2.1 w1 w2 w3 rfl (g := mkF m pc L (.ref a :: st)) rfl (hsz.trans C.2.2.1.symm) rfl (hb C.2.1 hd) hf hW hl
theorem callV (C : Ctx p s m meth c Z own nm B ml rt) {i : Nat} {y z : MethodName} {K : String} {fs : List (Key × Value)} {B' : ByteArray} {ml' : Nat} {rt' : Option FieldType} {rm : Room} {W : Nat} {argsL : List Value} {P' : Option Value → Mem → Prop} {S : List Value} {a : Addr} (hd : decode B pc = .ok (.invokevirtual i, 3)) (hq : pc + 3 = q)
    (w1 : (Cond.methodLink own i y).before a0 Z = true) (w2 : (Cond.declares y).before a0 Z = true) (hnf : NotFace s y) (w5 : (Cond.selects K y z).before a0 Z = true) (w6 : (Cond.instanceMethod z).before a0 Z = true) (w3 : (Cond.initialized z.cls).before a0 Z = true) (w4 : (Cond.code z B' ml' rt').before a0 Z = true) (hy : y.cls ≠ "java/lang/invoke/MethodHandle" ∧ y.cls ≠ "java/lang/invoke/VarHandle")
    (hlen : ∀ sig, parseMethodDescriptor y.desc = some sig → argsL.length = sig.parameters.length) (hS : S = argsL.reverse ++ .ref a :: st) (hsz : L.size = ml) (hW : 2 * 0 + (st.map fun v => v.category).sum ≤ W) (hf : rm.frames + 1 ≤ R.frames) (hl : W + (ml' + 11) + rm.locals ≤ R.locals) (hc : k + rm.cells ≤ R.cells) (hs : n + rm.slots ≤ R.slots)
    (hμ : μ a = some (.inl (K, fs))) (con : Con l Z n0 z B' ml' rt' [] rm rm.cells rm.slots (.ref a :: argsL).toArray μ P')
    (k' : ∀ v μ', P' v μ' → Go p l e R s m args below meth c Z n0 P kc ks μ' (k + rm.cells) (n + rm.slots) (mkF m q L (v.toList ++ st))) : Go p l e R s m args below meth c Z n0 P kc ks μ k n (mkF m pc L S) := by
  subst hq
  intro T locs X F H
  obtain ⟨cq, kq, qa, qb, qc⟩ := isOf (T := T) C.2.2.2.1 rfl (H.2 a _ hμ).1
  obtain ⟨v, vm1, ⟨T', L', k2, n2⟩, -, X', ⟨Lc, ⟨N, μ', H', hP⟩, e1, e2, e3⟩, stp⟩ := X.virtualBack C.1 (y := y) (z := z) C.2.2.2.2.1 (mvT C.2.2.2.1 w1) (mvT C.2.2.2.1 w2) hnf (mvT C.2.2.2.1 w5) (mvT C.2.2.2.1 w6) hy (backs (W := W) con H C.2.2.2.1 w4 w3 hf hl) qa qc (g := mkF m pc L S) rfl (hsz.trans C.2.2.1.symm) (Steps.refl _) (argsL := argsL) (rest := st) hlen hS hW (hb C.2.1 hd) (fun _ _ => ⟨rfl, rfl, hc, hs⟩)
  dsimp only [Pt.U, Pt.locs, Pt.cells, Pt.slots] at X' e1 e2 e3 stp H'
  subst e1 e2 e3
  obtain ⟨s2, o, h1, h2⟩ := k' v μ' hP T' _ X' (F.app N) H'
  exact ⟨s2, o, stp.trans h1, h2⟩
theorem callP (C : Ctx p s m meth c Z own nm B ml rt) {i : Nat} {y : MethodName} {K : String} {fs : List (Key × Value)} {B' : ByteArray} {ml' : Nat} {rt' : Option FieldType} {rm : Room} {W : Nat} {argsL : List Value} {P' : Option Value → Mem → Prop} {S : List Value} {a : Addr} (hd : decode B pc = .ok (.invokevirtual i, 3)) (hq : pc + 3 = q)
    (w1 : (Cond.methodLink own i y).before a0 Z = true) (w2 : (Cond.privateMethod y).before a0 Z = true) {kk : Nat} (w5 : (Cond.instantiable y.cls kk).before a0 Z = true) (w6 : (Cond.instanceMethod y).before a0 Z = true) (w3 : (Cond.initialized y.cls).before a0 Z = true) (w4 : (Cond.code y B' ml' rt').before a0 Z = true) (hy : y.cls ≠ "java/lang/invoke/MethodHandle" ∧ y.cls ≠ "java/lang/invoke/VarHandle")
    (hlen : ∀ sig, parseMethodDescriptor y.desc = some sig → argsL.length = sig.parameters.length) (hS : S = argsL.reverse ++ .ref a :: st) (hsz : L.size = ml) (hW : 2 * 0 + (st.map fun v => v.category).sum ≤ W) (hf : rm.frames + 1 ≤ R.frames) (hl : W + (ml' + 11) + rm.locals ≤ R.locals) (hc : k + rm.cells ≤ R.cells) (hs : n + rm.slots ≤ R.slots)
    (hμ : μ a = some (.inl (K, fs))) (con : Con l Z n0 y B' ml' rt' [] rm rm.cells rm.slots (.ref a :: argsL).toArray μ P')
    (k' : ∀ v μ', P' v μ' → Go p l e R s m args below meth c Z n0 P kc ks μ' (k + rm.cells) (n + rm.slots) (mkF m q L (v.toList ++ st))) : Go p l e R s m args below meth c Z n0 P kc ks μ k n (mkF m pc L S) := by
  subst hq
  intro T locs X F H
  obtain ⟨cq, q1, q2⟩ := (H.2 a _ hμ).1.cell
  have hp : s.PrivateAt y := Cond.privateMethod_at (mvP C.2.2.2.1 w2 (args := #[]))
  obtain ⟨c2, k2, i1, i2, -, i4, -⟩ := Cond.instantiable_spec (show (Cond.instantiable y.cls kk).before args s = true from mvT C.2.2.2.1 w5)
  have h5 : (Cond.selects y.cls y y).before args s = true := Jvm.Stand.selects_self_of_private i1 i2 (by simp only [Bool.or_eq_false_iff] at i4; exact i4.1) hp (mvT C.2.2.2.1 w6) hy
  obtain ⟨v, vm1, ⟨T', L', k2, n2⟩, -, X', ⟨Lc, ⟨N, μ', H', hP⟩, e1, e2, e3⟩, stp⟩ := X.privateBack C.1 (y := y) C.2.2.2.2.1 (mvT C.2.2.2.1 w1) (mvT C.2.2.2.1 w6) h5 hp (mvT C.2.2.2.1 w4) hy (backs (W := W) con H C.2.2.2.1 w4 w3 hf hl) (g := mkF m pc L S) rfl (hsz.trans C.2.2.1.symm) (Steps.refl _) (a := a) q1 q2 (argsL := argsL) (rest := st) hlen hS hW (hb C.2.1 hd) (fun _ _ => ⟨rfl, rfl, hc, hs⟩)
  dsimp only [Pt.U, Pt.locs, Pt.cells, Pt.slots] at X' e1 e2 e3 stp H'
  subst e1 e2 e3
  obtain ⟨s2, o, h1, h2⟩ := k' v μ' hP T' _ X' (F.app N) H'
  exact ⟨s2, o, stp.trans h1, h2⟩
end Rules
end Jvm.Own
namespace Jvm.Own
open Sem ClassFile Op Lib Jvm.Stand Jvm.Free Jvm.LawKit Jvm.RoadKit
theorem ne_ra {μ : Mem} {a b : Addr} {x : FieldType × List Value} {y : String × List (Key × Value)} (h1 : μ b = some (.inr x)) (h2 : μ a = some (.inl y)) : b ≠ a := fun e => by subst e; rw [h1] at h2; cases h2
section Grid
variable {p : Program} {l : Launch} {e : Env} {R : Room} {s : State} {m : MethodId} {args : Array Value} {below : List Frame} {meth : Method} {c : Code} {Z : State} {a0 : Array Value} {n0 : Nat} {P : Option Value → Mem → Prop} {kc ks : Nat} {μ : Mem} {k n : Nat}
  {own nm : String} {B : ByteArray} {ml : Nat} {rt : Option FieldType} {pc q : Nat} {L L' : Array Slot} {st : List Value}
theorem newGrid (C : Ctx p s m meth c Z own nm B ml rt) {i : Nat} {z : Int32} {cap : Nat} {vs : List Value} (hd : decode B pc = .ok (.anewarray i, 3)) (hq : pc + 3 = q) (w1 : (Cond.classLink own i "[I").before a0 Z = true) (w2 : (Cond.arrayOver (.array .int)).before a0 Z = true) (hz : ¬ z < 0) (hcap : z.toNatClampNeg ≤ cap) (hbig : cap * 8 ≤ 536870912) (hvs : List.replicate z.toNatClampNeg Value.null = vs)
    (hc : k + 1 ≤ R.cells) (hs : n + cap ≤ R.slots)
    (k' : ∀ a : Addr, (∀ b o, μ b = some o → b ≠ a) → n0 ≤ a → Go p l e R s m args below meth c Z n0 P kc ks (upd μ a (.inr (.array .int, vs))) (k + 1) (n + cap) (mkF m q L (.ref a :: st))) : Go p l e R s m args below meth c Z n0 P kc ks μ k n (mkF m pc L (.int z :: st)) := by
  subst hq hvs
  intro T locs X F H
  obtain ⟨T', h', cA, X', e', E, A, -, O, stp⟩ := newRA X C.1 C.2.2.2.1 C.2.2.2.2.1 (ty := .int) (by decide) w1 w2 rfl (g := mkF m pc L (.int z :: st)) rfl (hb C.2.1 hd) rfl hz hcap hbig hc hs (ad := "[[I") (by decide)
  obtain ⟨s2, o, h1, h2⟩ := k' T.heap.size H.fresh H.ge T' _ X' F (by
    rw [e']
    refine Hp.set (H.ext E) ⟨_, A, by simp [newA, defaultValue], by rw [List.length_replicate]; exact (back32 hz).2, fun v hv => ?_, fun _ => ⟨fun q => (by cases q), fun _ => O⟩⟩
    rw [(List.mem_replicate.mp hv).2]; rfl)
  exact ⟨s2, o, stp _ h1, h2⟩
theorem aastoreG (C : Ctx p s m meth c Z own nm B ml rt) {vs ws : List Value} {a b : Addr} {j : Int32} (hd : decode B pc = .ok (.aastore, 1)) (hq : pc + 1 = q) (hμ : μ a = some (.inr (.array .int, vs))) (hν : μ b = some (.inr (.int, ws))) (gb : n0 ≤ b) (h0 : ¬ j < 0) (hj : j.toNatClampNeg < vs.length) (ha : n0 ≤ a) (k' : Go p l e R s m args below meth c Z n0 P kc ks (upd μ a (.inr (.array .int, vs.set j.toNatClampNeg (.ref b)))) k n (mkF m q L st)) : Go p l e R s m args below meth c Z n0 P kc ks μ k n (mkF m pc L (.ref b :: .int j :: .ref a :: st)) := by
  subst hq
  intro T locs X F H
  have I := H.2 a _ hμ
  obtain ⟨cl, A, e1, -, -, O⟩ := id I
  obtain ⟨cb, -, -, -, -, Ob⟩ := H.2 b _ hν
  have S : Sto Z T.heap a (.ref b) := Sto.ofVA A rfl ((O ha).2 rfl) (Ins.self ((Ob gb).1 rfl))
  obtain ⟨T', h', X', e', W, stp⟩ := stR X C.1 C.2.2.2.1 rfl A (inb e1 h0 hj) rfl S (g := mkF m pc L (.ref b :: .int j :: .ref a :: st)) rfl rfl (hb C.2.1 hd)
  obtain ⟨s2, o, h1, h2⟩ := k' T' _ X' (Fr.snoc X' F ha) (by rw [e']; exact H.wr W ha (IsA.put I rfl W))
  exact ⟨s2, o, stp _ h1, h2⟩
end Grid
end Jvm.Own
namespace Jvm.Pilot.@@N@@
open Jvm Jvm.ClassFile Sem Op Lib Jvm.Free Jvm.Stand Jvm.LawKit Jvm.RoadKit Bundle Jvm.Own Jvm.Pilot.@@N@@.Jvm.D
abbrev o_MR (v0 : Value) (v1 : Value) (v2 : Value) (v3 : Value) (v4 : Value) (v5 : Value) (v6 : Value) (v7 : Value) (v8 : Value) (v9 : Value) (v10 : Value) (v11 : Value) (v12 : Value) (v13 : Value) (v14 : Value) (v15 : Value) (v16 : Value) (v17 : Value) (v18 : Value) (v19 : Value) : Obj := .inl ("com/example/parcours/parcours/search/Workspace$MatchingRoom", [(("com/example/parcours/parcours/search/Workspace$MatchingRoom", "memberOf", "[I"), v0), (("com/example/parcours/parcours/search/Workspace$MatchingRoom", "members", "[I"), v1), (("com/example/parcours/parcours/search/Workspace$MatchingRoom", "sizeCounts", "[I"), v2), (("com/example/parcours/parcours/search/Workspace$MatchingRoom", "taken", "[I"), v3), (("com/example/parcours/parcours/search/Workspace$MatchingRoom", "matchedTo", "[I"), v4), (("com/example/parcours/parcours/search/Workspace$MatchingRoom", "owners", "[I"), v5), (("com/example/parcours/parcours/search/Workspace$MatchingRoom", "heldStarts", "[I"), v6), (("com/example/parcours/parcours/search/Workspace$MatchingRoom", "valuesHeld", "[I"), v7), (("com/example/parcours/parcours/search/Workspace$MatchingRoom", "holderStarts", "[I"), v8), (("com/example/parcours/parcours/search/Workspace$MatchingRoom", "holders", "[I"), v9), (("com/example/parcours/parcours/search/Workspace$MatchingRoom", "values", "Lcom/example/parcours/parcours/search/ValueNumbers;"), v10), (("com/example/parcours/parcours/search/Workspace$MatchingRoom", "seen", "[I"), v11), (("com/example/parcours/parcours/search/Workspace$MatchingRoom", "path", "[I"), v12), (("com/example/parcours/parcours/search/Workspace$MatchingRoom", "next", "[I"), v13), (("com/example/parcours/parcours/search/Workspace$MatchingRoom", "index", "[I"), v14), (("com/example/parcours/parcours/search/Workspace$MatchingRoom", "low", "[I"), v15), (("com/example/parcours/parcours/search/Workspace$MatchingRoom", "open", "[I"), v16), (("com/example/parcours/parcours/search/Workspace$MatchingRoom", "onStack", "[Z"), v17), (("com/example/parcours/parcours/search/Workspace$MatchingRoom", "component", "[I"), v18), (("com/example/parcours/parcours/search/Workspace$MatchingRoom", "reached", "[Z"), v19)])
theorem lay_MR {Z : State} {a0 : Array Value} (hw : ∀ d ∈ tables_1, d.before a0 Z = true) : AllLaid Z a0 "com/example/parcours/parcours/search/Workspace$MatchingRoom" [(("com/example/parcours/parcours/search/Workspace$MatchingRoom", "memberOf", "[I"), .null), (("com/example/parcours/parcours/search/Workspace$MatchingRoom", "members", "[I"), .null), (("com/example/parcours/parcours/search/Workspace$MatchingRoom", "sizeCounts", "[I"), .null), (("com/example/parcours/parcours/search/Workspace$MatchingRoom", "taken", "[I"), .null), (("com/example/parcours/parcours/search/Workspace$MatchingRoom", "matchedTo", "[I"), .null), (("com/example/parcours/parcours/search/Workspace$MatchingRoom", "owners", "[I"), .null), (("com/example/parcours/parcours/search/Workspace$MatchingRoom", "heldStarts", "[I"), .null), (("com/example/parcours/parcours/search/Workspace$MatchingRoom", "valuesHeld", "[I"), .null), (("com/example/parcours/parcours/search/Workspace$MatchingRoom", "holderStarts", "[I"), .null), (("com/example/parcours/parcours/search/Workspace$MatchingRoom", "holders", "[I"), .null), (("com/example/parcours/parcours/search/Workspace$MatchingRoom", "values", "Lcom/example/parcours/parcours/search/ValueNumbers;"), .null), (("com/example/parcours/parcours/search/Workspace$MatchingRoom", "seen", "[I"), .null), (("com/example/parcours/parcours/search/Workspace$MatchingRoom", "path", "[I"), .null), (("com/example/parcours/parcours/search/Workspace$MatchingRoom", "next", "[I"), .null), (("com/example/parcours/parcours/search/Workspace$MatchingRoom", "index", "[I"), .null), (("com/example/parcours/parcours/search/Workspace$MatchingRoom", "low", "[I"), .null), (("com/example/parcours/parcours/search/Workspace$MatchingRoom", "open", "[I"), .null), (("com/example/parcours/parcours/search/Workspace$MatchingRoom", "onStack", "[Z"), .null), (("com/example/parcours/parcours/search/Workspace$MatchingRoom", "component", "[I"), .null), (("com/example/parcours/parcours/search/Workspace$MatchingRoom", "reached", "[Z"), .null)] := ⟨⟨(.array .int), Or.inl (hw _ (List.mem_of_getElem? (i := 11) rfl)), by decide +kernel, rfl⟩, ⟨(.array .int), Or.inl (hw _ (List.mem_of_getElem? (i := 13) rfl)), by decide +kernel, rfl⟩, ⟨(.array .int), Or.inl (hw _ (List.mem_of_getElem? (i := 15) rfl)), by decide +kernel, rfl⟩, ⟨(.array .int), Or.inl (hw _ (List.mem_of_getElem? (i := 17) rfl)), by decide +kernel, rfl⟩, ⟨(.array .int), Or.inl (hw _ (List.mem_of_getElem? (i := 19) rfl)), by decide +kernel, rfl⟩, ⟨(.array .int), Or.inl (hw _ (List.mem_of_getElem? (i := 21) rfl)), by decide +kernel, rfl⟩, ⟨(.array .int), Or.inl (hw _ (List.mem_of_getElem? (i := 23) rfl)), by decide +kernel, rfl⟩, ⟨(.array .int), Or.inl (hw _ (List.mem_of_getElem? (i := 25) rfl)), by decide +kernel, rfl⟩, ⟨(.array .int), Or.inl (hw _ (List.mem_of_getElem? (i := 27) rfl)), by decide +kernel, rfl⟩, ⟨(.array .int), Or.inl (hw _ (List.mem_of_getElem? (i := 29) rfl)), by decide +kernel, rfl⟩, ⟨(.object "com/example/parcours/parcours/search/ValueNumbers"), Or.inr (hw _ (List.mem_of_getElem? (i := 47) rfl)), by decide +kernel, rfl⟩, ⟨(.array .int), Or.inl (hw _ (List.mem_of_getElem? (i := 49) rfl)), by decide +kernel, rfl⟩, ⟨(.array .int), Or.inl (hw _ (List.mem_of_getElem? (i := 51) rfl)), by decide +kernel, rfl⟩, ⟨(.array .int), Or.inl (hw _ (List.mem_of_getElem? (i := 53) rfl)), by decide +kernel, rfl⟩, ⟨(.array .int), Or.inl (hw _ (List.mem_of_getElem? (i := 55) rfl)), by decide +kernel, rfl⟩, ⟨(.array .int), Or.inl (hw _ (List.mem_of_getElem? (i := 57) rfl)), by decide +kernel, rfl⟩, ⟨(.array .int), Or.inl (hw _ (List.mem_of_getElem? (i := 59) rfl)), by decide +kernel, rfl⟩, ⟨(.array .boolean), Or.inl (hw _ (List.mem_of_getElem? (i := 62) rfl)), by decide +kernel, rfl⟩, ⟨(.array .int), Or.inl (hw _ (List.mem_of_getElem? (i := 64) rfl)), by decide +kernel, rfl⟩, ⟨(.array .boolean), Or.inl (hw _ (List.mem_of_getElem? (i := 66) rfl)), by decide +kernel, rfl⟩, trivial⟩
abbrev o_VN (v0 : Value) (v1 : Value) (v2 : Value) (v3 : Value) : Obj := .inl ("com/example/parcours/parcours/search/ValueNumbers", [(("com/example/parcours/parcours/search/ValueNumbers", "values", "[I"), v0), (("com/example/parcours/parcours/search/ValueNumbers", "places", "[I"), v1), (("com/example/parcours/parcours/search/ValueNumbers", "slots", "[J"), v2), (("com/example/parcours/parcours/search/ValueNumbers", "slotOf", "[I"), v3)])
theorem lay_VN {Z : State} {a0 : Array Value} (hw : ∀ d ∈ tables_1, d.before a0 Z = true) : AllLaid Z a0 "com/example/parcours/parcours/search/ValueNumbers" [(("com/example/parcours/parcours/search/ValueNumbers", "values", "[I"), .null), (("com/example/parcours/parcours/search/ValueNumbers", "places", "[I"), .null), (("com/example/parcours/parcours/search/ValueNumbers", "slots", "[J"), .null), (("com/example/parcours/parcours/search/ValueNumbers", "slotOf", "[I"), .null)] := ⟨⟨(.array .int), Or.inl (hw _ (List.mem_of_getElem? (i := 38) rfl)), by decide +kernel, rfl⟩, ⟨(.array .int), Or.inl (hw _ (List.mem_of_getElem? (i := 40) rfl)), by decide +kernel, rfl⟩, ⟨(.array .long), Or.inl (hw _ (List.mem_of_getElem? (i := 43) rfl)), by decide +kernel, rfl⟩, ⟨(.array .int), Or.inl (hw _ (List.mem_of_getElem? (i := 45) rfl)), by decide +kernel, rfl⟩, trivial⟩
def mx' (x y : Int32) : Int32 := if x < y then y else x
abbrev rm_7 : Room := { frames := 0, cells := 0, slots := 0, locals := 0 }
theorem d7_0 : decode jdk_29_method_65_code 0 = .ok (.iload_n 0, 1) := by decide +kernel
theorem d7_1 : decode jdk_29_method_65_code 1 = .ok (.iload_n 1, 1) := by decide +kernel
theorem d7_2 : decode jdk_29_method_65_code 2 = .ok (.if_icmp .lt 7, 3) := by decide +kernel
theorem d7_5 : decode jdk_29_method_65_code 5 = .ok (.iload_n 0, 1) := by decide +kernel
theorem d7_6 : decode jdk_29_method_65_code 6 = .ok (.goto 4, 3) := by decide +kernel
theorem d7_9 : decode jdk_29_method_65_code 9 = .ok (.iload_n 1, 1) := by decide +kernel
theorem d7_10 : decode jdk_29_method_65_code 10 = .ok (.ireturn, 1) := by decide +kernel
set_option maxRecDepth 65536 in
set_option maxHeartbeats 4000000 in
theorem c_max (l : Launch) (Z : State) (a0 : Array Value) (hw : ∀ d ∈ tables_1, d.before a0 Z = true) (n0 : Nat) (μ : Mem) (x : Int32) (y : Int32)  :
    Con l Z n0 (⟨"java/lang/Math", "max", "(II)I"⟩ : MethodName) jdk_29_method_65_code 2 (some .int) [] rm_7 rm_7.cells rm_7.slots #[(.int x), (.int y)] μ (RI fun z μ' => μ' = μ ∧ z = mx' x y) := by
  refine Con.intro (L0 := #[.val (.int x), .val (.int y)]) (Jvm.Free.JP.mathPlain rfl (by decide +kernel)) (fun m => by first | (simp [entryFrame, mkF, argsToLocals, Value.category]; done) | rfl) ?_
  intro p e s m below meth c C
  have C : Ctx p s m meth c Z "java/lang/Math" "max" jdk_29_method_65_code 2 (some .int) := C
  refine Own.iloadN C d7_0 (q := 1) rfl rfl ?_
  refine Own.iloadN C d7_1 (q := 2) rfl rfl ?_
  refine Own.icmp_lt C d7_2 (q := 5) rfl (r := 9) (by decide) (fun h2 => ?_) (fun h2 => ?_)
  · refine Own.iloadN C d7_9 (q := 10) rfl rfl ?_
    refine Own.ireturn C d7_10 (by decide) (by decide) ?_
    exact ⟨_, rfl, rfl, by simp [mx', h2]⟩
  · refine Own.iloadN C d7_5 (q := 6) rfl rfl ?_
    refine Own.goto C d7_6 (q := 10) (by decide) ?_
    refine Own.ireturn C d7_10 (by decide) (by decide) ?_
    exact ⟨_, rfl, rfl, by simp [mx', h2]⟩
abbrev rm_3 : Room := { frames := 1, cells := 4, slots := 32, locals := 12 }
theorem d3_0 : decode prog_69_method_1_code 0 = .ok (.aload_n 0, 1) := by decide +kernel
theorem d3_1 : decode prog_69_method_1_code 1 = .ok (.invokespecial 1, 3) := by decide +kernel
theorem d3_4 : decode prog_69_method_1_code 4 = .ok (.aload_n 0, 1) := by decide +kernel
theorem d3_5 : decode prog_69_method_1_code 5 = .ok (.bipush 8, 2) := by decide +kernel
theorem d3_7 : decode prog_69_method_1_code 7 = .ok (.newarray .int, 2) := by decide +kernel
theorem d3_9 : decode prog_69_method_1_code 9 = .ok (.putfield 9, 3) := by decide +kernel
theorem d3_12 : decode prog_69_method_1_code 12 = .ok (.aload_n 0, 1) := by decide +kernel
theorem d3_13 : decode prog_69_method_1_code 13 = .ok (.iconst 0, 1) := by decide +kernel
theorem d3_14 : decode prog_69_method_1_code 14 = .ok (.newarray .int, 2) := by decide +kernel
theorem d3_16 : decode prog_69_method_1_code 16 = .ok (.putfield 13, 3) := by decide +kernel
theorem d3_19 : decode prog_69_method_1_code 19 = .ok (.aload_n 0, 1) := by decide +kernel
theorem d3_20 : decode prog_69_method_1_code 20 = .ok (.bipush 16, 2) := by decide +kernel
theorem d3_22 : decode prog_69_method_1_code 22 = .ok (.newarray .long, 2) := by decide +kernel
theorem d3_24 : decode prog_69_method_1_code 24 = .ok (.putfield 16, 3) := by decide +kernel
theorem d3_27 : decode prog_69_method_1_code 27 = .ok (.aload_n 0, 1) := by decide +kernel
theorem d3_28 : decode prog_69_method_1_code 28 = .ok (.bipush 8, 2) := by decide +kernel
theorem d3_30 : decode prog_69_method_1_code 30 = .ok (.newarray .int, 2) := by decide +kernel
theorem d3_32 : decode prog_69_method_1_code 32 = .ok (.putfield 20, 3) := by decide +kernel
theorem d3_35 : decode prog_69_method_1_code 35 = .ok (.return_, 1) := by decide +kernel
set_option maxRecDepth 65536 in
set_option maxHeartbeats 4000000 in
theorem c_vn (l : Launch) (Z : State) (a0 : Array Value) (hw : ∀ d ∈ tables_1, d.before a0 Z = true) (n0 : Nat) (μ : Mem) (a : Addr) (hμ : μ a = some (o_VN .null .null .null .null)) (ga : n0 ≤ a) :
    Con l Z n0 (⟨"com/example/parcours/parcours/search/ValueNumbers", "<init>", "()V"⟩ : MethodName) prog_69_method_1_code 1 none [] rm_3 rm_3.cells rm_3.slots #[(.ref a)] μ (RV fun μ' => (∀ b o, μ b = some o → b ≠ a → μ' b = some o)) := by
  refine Con.intro (L0 := #[.val (.ref a)]) (plainFor_of_name (by first | (simp [plainName, overriddenIn]; done) | decide +kernel)) (fun m => by first | (simp [entryFrame, mkF, argsToLocals, Value.category]; done) | rfl) ?_
  intro p e s m below meth c C
  have C : Ctx p s m meth c Z "com/example/parcours/parcours/search/ValueNumbers" "<init>" prog_69_method_1_code 1 none := C
  refine Own.aloadN C d3_0 (q := 1) rfl rfl rfl ?_
  refine Own.initObj C d3_1 (q := 4) rfl (hw _ (List.mem_of_getElem? (i := 36) rfl)) (hw _ (List.mem_of_getElem? (i := 7) rfl)) (hw _ (List.mem_of_getElem? (i := 8) rfl)) rfl (by decide) (W := 0) (Nat.le_of_eq rfl) (by decide) ?_
  refine Own.aloadN C d3_4 (q := 5) rfl rfl rfl ?_
  refine Own.bipush C d3_5 (q := 7) rfl (z := 8) (by decide) ?_
  refine Own.newArr C d3_7 (q := 9) rfl (ty := .int) rfl (hw _ (List.mem_of_getElem? (i := 9) rfl)) (by decide) (cap := 8) (by decide) (by decide) (vs := [(.int (0 : Int32)), (.int (0 : Int32)), (.int (0 : Int32)), (.int (0 : Int32)), (.int (0 : Int32)), (.int (0 : Int32)), (.int (0 : Int32)), (.int (0 : Int32))]) rfl (by decide) (by decide) fun a7 a7_f a7_g => ?_
  have ne_a_a7 := a7_f _ _ hμ
  refine Own.putfield C d3_9 (q := 12) rfl (host := "") (Or.inl (hw _ (List.mem_of_getElem? (i := 37) rfl))) Via.refl (Or.inl (hw _ (List.mem_of_getElem? (i := 38) rfl))) (hw _ (List.mem_of_getElem? (i := 31) rfl)) (ty := (.array .int)) (by decide) rfl rfl (upd_at ne_a_a7 hμ) (j := 0) rfl (fs' := [(("com/example/parcours/parcours/search/ValueNumbers", "values", "[I"), (.ref a7)), (("com/example/parcours/parcours/search/ValueNumbers", "places", "[I"), .null), (("com/example/parcours/parcours/search/ValueNumbers", "slots", "[J"), .null), (("com/example/parcours/parcours/search/ValueNumbers", "slotOf", "[I"), .null)]) rfl ga (mem rfl ?_)
  refine Own.aloadN C d3_12 (q := 13) rfl rfl rfl ?_
  refine Own.iconst C d3_13 (q := 14) rfl (z := 0) (by decide) ?_
  refine Own.newArr C d3_14 (q := 16) rfl (ty := .int) rfl (hw _ (List.mem_of_getElem? (i := 9) rfl)) (by decide) (cap := 0) (by decide) (by decide) (vs := []) rfl (by decide) (by decide) fun a14 a14_f a14_g => ?_
  have ne_a7_a14 := a14_f _ _ (upd_at (Ne.symm ne_a_a7) upd_same)
  have ne_a_a14 := a14_f _ _ upd_same
  refine Own.putfield C d3_16 (q := 19) rfl (host := "") (Or.inl (hw _ (List.mem_of_getElem? (i := 39) rfl))) Via.refl (Or.inl (hw _ (List.mem_of_getElem? (i := 40) rfl))) (hw _ (List.mem_of_getElem? (i := 31) rfl)) (ty := (.array .int)) (by decide) rfl rfl (upd_at ne_a_a14 upd_same) (j := 1) rfl (fs' := [(("com/example/parcours/parcours/search/ValueNumbers", "values", "[I"), (.ref a7)), (("com/example/parcours/parcours/search/ValueNumbers", "places", "[I"), (.ref a14)), (("com/example/parcours/parcours/search/ValueNumbers", "slots", "[J"), .null), (("com/example/parcours/parcours/search/ValueNumbers", "slotOf", "[I"), .null)]) rfl ga (mem (upd_in upd_upd (Ne.symm ne_a_a14)) ?_)
  refine Own.aloadN C d3_19 (q := 20) rfl rfl rfl ?_
  refine Own.bipush C d3_20 (q := 22) rfl (z := 16) (by decide) ?_
  refine Own.newArr C d3_22 (q := 24) rfl (ty := .long) rfl (hw _ (List.mem_of_getElem? (i := 41) rfl)) (by decide) (cap := 16) (by decide) (by decide) (vs := [(.long (0 : Int64)), (.long (0 : Int64)), (.long (0 : Int64)), (.long (0 : Int64)), (.long (0 : Int64)), (.long (0 : Int64)), (.long (0 : Int64)), (.long (0 : Int64)), (.long (0 : Int64)), (.long (0 : Int64)), (.long (0 : Int64)), (.long (0 : Int64)), (.long (0 : Int64)), (.long (0 : Int64)), (.long (0 : Int64)), (.long (0 : Int64))]) rfl (by decide) (by decide) fun a22 a22_f a22_g => ?_
  have ne_a7_a22 := a22_f _ _ (upd_at ne_a7_a14 (upd_at (Ne.symm ne_a_a7) upd_same))
  have ne_a_a22 := a22_f _ _ (upd_at ne_a_a14 upd_same)
  have ne_a14_a22 := a22_f _ _ upd_same
  refine Own.putfield C d3_24 (q := 27) rfl (host := "") (Or.inl (hw _ (List.mem_of_getElem? (i := 42) rfl))) Via.refl (Or.inl (hw _ (List.mem_of_getElem? (i := 43) rfl))) (hw _ (List.mem_of_getElem? (i := 31) rfl)) (ty := (.array .long)) (by decide) rfl rfl (upd_at ne_a_a22 (upd_at ne_a_a14 upd_same)) (j := 2) rfl (fs' := [(("com/example/parcours/parcours/search/ValueNumbers", "values", "[I"), (.ref a7)), (("com/example/parcours/parcours/search/ValueNumbers", "places", "[I"), (.ref a14)), (("com/example/parcours/parcours/search/ValueNumbers", "slots", "[J"), (.ref a22)), (("com/example/parcours/parcours/search/ValueNumbers", "slotOf", "[I"), .null)]) rfl ga (mem (upd_in (upd_in upd_upd (Ne.symm ne_a_a14)) (Ne.symm ne_a_a22)) ?_)
  refine Own.aloadN C d3_27 (q := 28) rfl rfl rfl ?_
  refine Own.bipush C d3_28 (q := 30) rfl (z := 8) (by decide) ?_
  refine Own.newArr C d3_30 (q := 32) rfl (ty := .int) rfl (hw _ (List.mem_of_getElem? (i := 9) rfl)) (by decide) (cap := 8) (by decide) (by decide) (vs := [(.int (0 : Int32)), (.int (0 : Int32)), (.int (0 : Int32)), (.int (0 : Int32)), (.int (0 : Int32)), (.int (0 : Int32)), (.int (0 : Int32)), (.int (0 : Int32))]) rfl (by decide) (by decide) fun a30 a30_f a30_g => ?_
  have ne_a7_a30 := a30_f _ _ (upd_at ne_a7_a22 (upd_at ne_a7_a14 (upd_at (Ne.symm ne_a_a7) upd_same)))
  have ne_a_a30 := a30_f _ _ (upd_at ne_a_a22 (upd_at ne_a_a14 upd_same))
  have ne_a14_a30 := a30_f _ _ (upd_at ne_a14_a22 upd_same)
  have ne_a22_a30 := a30_f _ _ upd_same
  refine Own.putfield C d3_32 (q := 35) rfl (host := "") (Or.inl (hw _ (List.mem_of_getElem? (i := 44) rfl))) Via.refl (Or.inl (hw _ (List.mem_of_getElem? (i := 45) rfl))) (hw _ (List.mem_of_getElem? (i := 31) rfl)) (ty := (.array .int)) (by decide) rfl rfl (upd_at ne_a_a30 (upd_at ne_a_a22 (upd_at ne_a_a14 upd_same))) (j := 3) rfl (fs' := [(("com/example/parcours/parcours/search/ValueNumbers", "values", "[I"), (.ref a7)), (("com/example/parcours/parcours/search/ValueNumbers", "places", "[I"), (.ref a14)), (("com/example/parcours/parcours/search/ValueNumbers", "slots", "[J"), (.ref a22)), (("com/example/parcours/parcours/search/ValueNumbers", "slotOf", "[I"), (.ref a30))]) rfl ga (mem (upd_in (upd_in (upd_in upd_upd (Ne.symm ne_a_a14)) (Ne.symm ne_a_a22)) (Ne.symm ne_a_a30)) ?_)
  refine Own.vreturn C d3_35 (by decide) (by decide) ?_
  refine ⟨rfl, fun b o hb hba => ?_⟩
  have n_a7 := a7_f b o hb
  have n_a14 := a14_f b o (upd_at hba (upd_at n_a7 hb))
  have n_a22 := a22_f b o (upd_at n_a14 (upd_at hba (upd_at n_a7 hb)))
  have n_a30 := a30_f b o (upd_at n_a22 (upd_at n_a14 (upd_at hba (upd_at n_a7 hb))))
  exact (upd_at n_a30 (upd_at n_a22 (upd_at n_a14 (upd_at hba (upd_at n_a7 hb)))))
theorem pd_0 : parseMethodDescriptor "()V" = some ⟨[], none⟩ := by decide +kernel
abbrev rm_1 : Room := { frames := 2, cells := 24, slots := 39, locals := 26 }
theorem d1_0 : decode prog_72_method_1_code 0 = .ok (.aload_n 0, 1) := by decide +kernel
theorem d1_1 : decode prog_72_method_1_code 1 = .ok (.invokespecial 1, 3) := by decide +kernel
theorem d1_4 : decode prog_72_method_1_code 4 = .ok (.aload_n 0, 1) := by decide +kernel
theorem d1_5 : decode prog_72_method_1_code 5 = .ok (.iconst 0, 1) := by decide +kernel
theorem d1_6 : decode prog_72_method_1_code 6 = .ok (.newarray .int, 2) := by decide +kernel
theorem d1_8 : decode prog_72_method_1_code 8 = .ok (.putfield 7, 3) := by decide +kernel
theorem d1_11 : decode prog_72_method_1_code 11 = .ok (.aload_n 0, 1) := by decide +kernel
theorem d1_12 : decode prog_72_method_1_code 12 = .ok (.iconst 0, 1) := by decide +kernel
theorem d1_13 : decode prog_72_method_1_code 13 = .ok (.newarray .int, 2) := by decide +kernel
theorem d1_15 : decode prog_72_method_1_code 15 = .ok (.putfield 13, 3) := by decide +kernel
theorem d1_18 : decode prog_72_method_1_code 18 = .ok (.aload_n 0, 1) := by decide +kernel
theorem d1_19 : decode prog_72_method_1_code 19 = .ok (.iconst 0, 1) := by decide +kernel
theorem d1_20 : decode prog_72_method_1_code 20 = .ok (.newarray .int, 2) := by decide +kernel
theorem d1_22 : decode prog_72_method_1_code 22 = .ok (.putfield 16, 3) := by decide +kernel
theorem d1_25 : decode prog_72_method_1_code 25 = .ok (.aload_n 0, 1) := by decide +kernel
theorem d1_26 : decode prog_72_method_1_code 26 = .ok (.iconst 0, 1) := by decide +kernel
theorem d1_27 : decode prog_72_method_1_code 27 = .ok (.newarray .int, 2) := by decide +kernel
theorem d1_29 : decode prog_72_method_1_code 29 = .ok (.putfield 19, 3) := by decide +kernel
theorem d1_32 : decode prog_72_method_1_code 32 = .ok (.aload_n 0, 1) := by decide +kernel
theorem d1_33 : decode prog_72_method_1_code 33 = .ok (.iconst 0, 1) := by decide +kernel
theorem d1_34 : decode prog_72_method_1_code 34 = .ok (.newarray .int, 2) := by decide +kernel
theorem d1_36 : decode prog_72_method_1_code 36 = .ok (.putfield 22, 3) := by decide +kernel
theorem d1_39 : decode prog_72_method_1_code 39 = .ok (.aload_n 0, 1) := by decide +kernel
theorem d1_40 : decode prog_72_method_1_code 40 = .ok (.iconst 0, 1) := by decide +kernel
theorem d1_41 : decode prog_72_method_1_code 41 = .ok (.newarray .int, 2) := by decide +kernel
theorem d1_43 : decode prog_72_method_1_code 43 = .ok (.putfield 25, 3) := by decide +kernel
theorem d1_46 : decode prog_72_method_1_code 46 = .ok (.aload_n 0, 1) := by decide +kernel
theorem d1_47 : decode prog_72_method_1_code 47 = .ok (.iconst 0, 1) := by decide +kernel
theorem d1_48 : decode prog_72_method_1_code 48 = .ok (.newarray .int, 2) := by decide +kernel
theorem d1_50 : decode prog_72_method_1_code 50 = .ok (.putfield 28, 3) := by decide +kernel
theorem d1_53 : decode prog_72_method_1_code 53 = .ok (.aload_n 0, 1) := by decide +kernel
theorem d1_54 : decode prog_72_method_1_code 54 = .ok (.iconst 0, 1) := by decide +kernel
theorem d1_55 : decode prog_72_method_1_code 55 = .ok (.newarray .int, 2) := by decide +kernel
theorem d1_57 : decode prog_72_method_1_code 57 = .ok (.putfield 31, 3) := by decide +kernel
theorem d1_60 : decode prog_72_method_1_code 60 = .ok (.aload_n 0, 1) := by decide +kernel
theorem d1_61 : decode prog_72_method_1_code 61 = .ok (.iconst 0, 1) := by decide +kernel
theorem d1_62 : decode prog_72_method_1_code 62 = .ok (.newarray .int, 2) := by decide +kernel
theorem d1_64 : decode prog_72_method_1_code 64 = .ok (.putfield 34, 3) := by decide +kernel
theorem d1_67 : decode prog_72_method_1_code 67 = .ok (.aload_n 0, 1) := by decide +kernel
theorem d1_68 : decode prog_72_method_1_code 68 = .ok (.iconst 0, 1) := by decide +kernel
theorem d1_69 : decode prog_72_method_1_code 69 = .ok (.newarray .int, 2) := by decide +kernel
theorem d1_71 : decode prog_72_method_1_code 71 = .ok (.putfield 37, 3) := by decide +kernel
theorem d1_74 : decode prog_72_method_1_code 74 = .ok (.aload_n 0, 1) := by decide +kernel
theorem d1_75 : decode prog_72_method_1_code 75 = .ok (.new 40, 3) := by decide +kernel
theorem d1_78 : decode prog_72_method_1_code 78 = .ok (.dup, 1) := by decide +kernel
theorem d1_79 : decode prog_72_method_1_code 79 = .ok (.invokespecial 42, 3) := by decide +kernel
theorem d1_82 : decode prog_72_method_1_code 82 = .ok (.putfield 43, 3) := by decide +kernel
theorem d1_85 : decode prog_72_method_1_code 85 = .ok (.aload_n 0, 1) := by decide +kernel
theorem d1_86 : decode prog_72_method_1_code 86 = .ok (.iconst 0, 1) := by decide +kernel
theorem d1_87 : decode prog_72_method_1_code 87 = .ok (.newarray .int, 2) := by decide +kernel
theorem d1_89 : decode prog_72_method_1_code 89 = .ok (.putfield 47, 3) := by decide +kernel
theorem d1_92 : decode prog_72_method_1_code 92 = .ok (.aload_n 0, 1) := by decide +kernel
theorem d1_93 : decode prog_72_method_1_code 93 = .ok (.iconst 0, 1) := by decide +kernel
theorem d1_94 : decode prog_72_method_1_code 94 = .ok (.newarray .int, 2) := by decide +kernel
theorem d1_96 : decode prog_72_method_1_code 96 = .ok (.putfield 50, 3) := by decide +kernel
theorem d1_99 : decode prog_72_method_1_code 99 = .ok (.aload_n 0, 1) := by decide +kernel
theorem d1_100 : decode prog_72_method_1_code 100 = .ok (.iconst 0, 1) := by decide +kernel
theorem d1_101 : decode prog_72_method_1_code 101 = .ok (.newarray .int, 2) := by decide +kernel
theorem d1_103 : decode prog_72_method_1_code 103 = .ok (.putfield 53, 3) := by decide +kernel
theorem d1_106 : decode prog_72_method_1_code 106 = .ok (.aload_n 0, 1) := by decide +kernel
theorem d1_107 : decode prog_72_method_1_code 107 = .ok (.iconst 0, 1) := by decide +kernel
theorem d1_108 : decode prog_72_method_1_code 108 = .ok (.newarray .int, 2) := by decide +kernel
theorem d1_110 : decode prog_72_method_1_code 110 = .ok (.putfield 56, 3) := by decide +kernel
theorem d1_113 : decode prog_72_method_1_code 113 = .ok (.aload_n 0, 1) := by decide +kernel
theorem d1_114 : decode prog_72_method_1_code 114 = .ok (.iconst 0, 1) := by decide +kernel
theorem d1_115 : decode prog_72_method_1_code 115 = .ok (.newarray .int, 2) := by decide +kernel
theorem d1_117 : decode prog_72_method_1_code 117 = .ok (.putfield 59, 3) := by decide +kernel
theorem d1_120 : decode prog_72_method_1_code 120 = .ok (.aload_n 0, 1) := by decide +kernel
theorem d1_121 : decode prog_72_method_1_code 121 = .ok (.iconst 0, 1) := by decide +kernel
theorem d1_122 : decode prog_72_method_1_code 122 = .ok (.newarray .int, 2) := by decide +kernel
theorem d1_124 : decode prog_72_method_1_code 124 = .ok (.putfield 62, 3) := by decide +kernel
theorem d1_127 : decode prog_72_method_1_code 127 = .ok (.aload_n 0, 1) := by decide +kernel
theorem d1_128 : decode prog_72_method_1_code 128 = .ok (.iconst 0, 1) := by decide +kernel
theorem d1_129 : decode prog_72_method_1_code 129 = .ok (.newarray .boolean, 2) := by decide +kernel
theorem d1_131 : decode prog_72_method_1_code 131 = .ok (.putfield 65, 3) := by decide +kernel
theorem d1_134 : decode prog_72_method_1_code 134 = .ok (.aload_n 0, 1) := by decide +kernel
theorem d1_135 : decode prog_72_method_1_code 135 = .ok (.iconst 0, 1) := by decide +kernel
theorem d1_136 : decode prog_72_method_1_code 136 = .ok (.newarray .int, 2) := by decide +kernel
theorem d1_138 : decode prog_72_method_1_code 138 = .ok (.putfield 69, 3) := by decide +kernel
theorem d1_141 : decode prog_72_method_1_code 141 = .ok (.aload_n 0, 1) := by decide +kernel
theorem d1_142 : decode prog_72_method_1_code 142 = .ok (.iconst 0, 1) := by decide +kernel
theorem d1_143 : decode prog_72_method_1_code 143 = .ok (.newarray .boolean, 2) := by decide +kernel
theorem d1_145 : decode prog_72_method_1_code 145 = .ok (.putfield 72, 3) := by decide +kernel
theorem d1_148 : decode prog_72_method_1_code 148 = .ok (.return_, 1) := by decide +kernel
set_option maxRecDepth 65536 in
set_option maxHeartbeats 40000000 in
theorem c_mr (l : Launch) (Z : State) (a0 : Array Value) (hw : ∀ d ∈ tables_1, d.before a0 Z = true) (n0 : Nat) (μ : Mem) (a : Addr) (hμ : μ a = some (o_MR .null .null .null .null .null .null .null .null .null .null .null .null .null .null .null .null .null .null .null .null)) (ga : n0 ≤ a) :
    Con l Z n0 (⟨"com/example/parcours/parcours/search/Workspace$MatchingRoom", "<init>", "()V"⟩ : MethodName) prog_72_method_1_code 1 none [] rm_1 rm_1.cells rm_1.slots #[(.ref a)] μ (RV fun μ' => ∃ (q_memberOf q_members q_sizeCounts q_taken q_matchedTo q_heldStarts q_owners q_holderStarts q_valuesHeld q_holders q_index q_seen : Addr) (v_values v_path v_next v_low v_open v_onStack v_component v_reached : Value), μ' a = some (o_MR (.ref q_memberOf) (.ref q_members) (.ref q_sizeCounts) (.ref q_taken) (.ref q_matchedTo) (.ref q_owners) (.ref q_heldStarts) (.ref q_valuesHeld) (.ref q_holderStarts) (.ref q_holders) v_values (.ref q_seen) v_path v_next (.ref q_index) v_low v_open v_onStack v_component v_reached) ∧ n0 ≤ q_memberOf ∧ n0 ≤ q_members ∧ n0 ≤ q_sizeCounts ∧ n0 ≤ q_taken ∧ n0 ≤ q_matchedTo ∧ n0 ≤ q_heldStarts ∧ n0 ≤ q_owners ∧ n0 ≤ q_holderStarts ∧ n0 ≤ q_valuesHeld ∧ n0 ≤ q_holders ∧ n0 ≤ q_index ∧ n0 ≤ q_seen ∧ μ' q_memberOf = some (.inr (.int, [])) ∧ μ' q_members = some (.inr (.int, [])) ∧ μ' q_sizeCounts = some (.inr (.int, [])) ∧ μ' q_taken = some (.inr (.int, [])) ∧ μ' q_matchedTo = some (.inr (.int, [])) ∧ μ' q_heldStarts = some (.inr (.int, [])) ∧ μ' q_owners = some (.inr (.int, [])) ∧ μ' q_holderStarts = some (.inr (.int, [])) ∧ μ' q_valuesHeld = some (.inr (.int, [])) ∧ μ' q_holders = some (.inr (.int, [])) ∧ μ' q_index = some (.inr (.int, [])) ∧ μ' q_seen = some (.inr (.int, []))) := by
  refine Con.intro (L0 := #[.val (.ref a)]) (plainFor_of_name (by first | (simp [plainName, overriddenIn]; done) | decide +kernel)) (fun m => by first | (simp [entryFrame, mkF, argsToLocals, Value.category]; done) | rfl) ?_
  intro p e s m below meth c C
  have C : Ctx p s m meth c Z "com/example/parcours/parcours/search/Workspace$MatchingRoom" "<init>" prog_72_method_1_code 1 none := C
  refine Own.aloadN C d1_0 (q := 1) rfl rfl rfl ?_
  refine Own.initObj C d1_1 (q := 4) rfl (hw _ (List.mem_of_getElem? (i := 6) rfl)) (hw _ (List.mem_of_getElem? (i := 7) rfl)) (hw _ (List.mem_of_getElem? (i := 8) rfl)) rfl (by decide) (W := 0) (Nat.le_of_eq rfl) (by decide) ?_
  refine Own.aloadN C d1_4 (q := 5) rfl rfl rfl ?_
  refine Own.iconst C d1_5 (q := 6) rfl (z := 0) (by decide) ?_
  refine Own.newArr C d1_6 (q := 8) rfl (ty := .int) rfl (hw _ (List.mem_of_getElem? (i := 9) rfl)) (by decide) (cap := 0) (by decide) (by decide) (vs := []) rfl (by decide) (by decide) fun a6 a6_f a6_g => ?_
  have ne_a_a6 := a6_f _ _ hμ
  refine Own.putfield C d1_8 (q := 11) rfl (host := "") (Or.inl (hw _ (List.mem_of_getElem? (i := 10) rfl))) Via.refl (Or.inl (hw _ (List.mem_of_getElem? (i := 11) rfl))) (hw _ (List.mem_of_getElem? (i := 1) rfl)) (ty := (.array .int)) (by decide) rfl rfl (upd_at ne_a_a6 hμ) (j := 0) rfl (fs' := [(("com/example/parcours/parcours/search/Workspace$MatchingRoom", "memberOf", "[I"), (.ref a6)), (("com/example/parcours/parcours/search/Workspace$MatchingRoom", "members", "[I"), .null), (("com/example/parcours/parcours/search/Workspace$MatchingRoom", "sizeCounts", "[I"), .null), (("com/example/parcours/parcours/search/Workspace$MatchingRoom", "taken", "[I"), .null), (("com/example/parcours/parcours/search/Workspace$MatchingRoom", "matchedTo", "[I"), .null), (("com/example/parcours/parcours/search/Workspace$MatchingRoom", "owners", "[I"), .null), (("com/example/parcours/parcours/search/Workspace$MatchingRoom", "heldStarts", "[I"), .null), (("com/example/parcours/parcours/search/Workspace$MatchingRoom", "valuesHeld", "[I"), .null), (("com/example/parcours/parcours/search/Workspace$MatchingRoom", "holderStarts", "[I"), .null), (("com/example/parcours/parcours/search/Workspace$MatchingRoom", "holders", "[I"), .null), (("com/example/parcours/parcours/search/Workspace$MatchingRoom", "values", "Lcom/example/parcours/parcours/search/ValueNumbers;"), .null), (("com/example/parcours/parcours/search/Workspace$MatchingRoom", "seen", "[I"), .null), (("com/example/parcours/parcours/search/Workspace$MatchingRoom", "path", "[I"), .null), (("com/example/parcours/parcours/search/Workspace$MatchingRoom", "next", "[I"), .null), (("com/example/parcours/parcours/search/Workspace$MatchingRoom", "index", "[I"), .null), (("com/example/parcours/parcours/search/Workspace$MatchingRoom", "low", "[I"), .null), (("com/example/parcours/parcours/search/Workspace$MatchingRoom", "open", "[I"), .null), (("com/example/parcours/parcours/search/Workspace$MatchingRoom", "onStack", "[Z"), .null), (("com/example/parcours/parcours/search/Workspace$MatchingRoom", "component", "[I"), .null), (("com/example/parcours/parcours/search/Workspace$MatchingRoom", "reached", "[Z"), .null)]) rfl ga (mem rfl ?_)
  refine Own.aloadN C d1_11 (q := 12) rfl rfl rfl ?_
  refine Own.iconst C d1_12 (q := 13) rfl (z := 0) (by decide) ?_
  refine Own.newArr C d1_13 (q := 15) rfl (ty := .int) rfl (hw _ (List.mem_of_getElem? (i := 9) rfl)) (by decide) (cap := 0) (by decide) (by decide) (vs := []) rfl (by decide) (by decide) fun a13 a13_f a13_g => ?_
  have ne_a6_a13 := a13_f _ _ (upd_at (Ne.symm ne_a_a6) upd_same)
  have ne_a_a13 := a13_f _ _ upd_same
  refine Own.putfield C d1_15 (q := 18) rfl (host := "") (Or.inl (hw _ (List.mem_of_getElem? (i := 12) rfl))) Via.refl (Or.inl (hw _ (List.mem_of_getElem? (i := 13) rfl))) (hw _ (List.mem_of_getElem? (i := 1) rfl)) (ty := (.array .int)) (by decide) rfl rfl (upd_at ne_a_a13 upd_same) (j := 1) rfl (fs' := [(("com/example/parcours/parcours/search/Workspace$MatchingRoom", "memberOf", "[I"), (.ref a6)), (("com/example/parcours/parcours/search/Workspace$MatchingRoom", "members", "[I"), (.ref a13)), (("com/example/parcours/parcours/search/Workspace$MatchingRoom", "sizeCounts", "[I"), .null), (("com/example/parcours/parcours/search/Workspace$MatchingRoom", "taken", "[I"), .null), (("com/example/parcours/parcours/search/Workspace$MatchingRoom", "matchedTo", "[I"), .null), (("com/example/parcours/parcours/search/Workspace$MatchingRoom", "owners", "[I"), .null), (("com/example/parcours/parcours/search/Workspace$MatchingRoom", "heldStarts", "[I"), .null), (("com/example/parcours/parcours/search/Workspace$MatchingRoom", "valuesHeld", "[I"), .null), (("com/example/parcours/parcours/search/Workspace$MatchingRoom", "holderStarts", "[I"), .null), (("com/example/parcours/parcours/search/Workspace$MatchingRoom", "holders", "[I"), .null), (("com/example/parcours/parcours/search/Workspace$MatchingRoom", "values", "Lcom/example/parcours/parcours/search/ValueNumbers;"), .null), (("com/example/parcours/parcours/search/Workspace$MatchingRoom", "seen", "[I"), .null), (("com/example/parcours/parcours/search/Workspace$MatchingRoom", "path", "[I"), .null), (("com/example/parcours/parcours/search/Workspace$MatchingRoom", "next", "[I"), .null), (("com/example/parcours/parcours/search/Workspace$MatchingRoom", "index", "[I"), .null), (("com/example/parcours/parcours/search/Workspace$MatchingRoom", "low", "[I"), .null), (("com/example/parcours/parcours/search/Workspace$MatchingRoom", "open", "[I"), .null), (("com/example/parcours/parcours/search/Workspace$MatchingRoom", "onStack", "[Z"), .null), (("com/example/parcours/parcours/search/Workspace$MatchingRoom", "component", "[I"), .null), (("com/example/parcours/parcours/search/Workspace$MatchingRoom", "reached", "[Z"), .null)]) rfl ga (mem (upd_in upd_upd (Ne.symm ne_a_a13)) ?_)
  refine Own.aloadN C d1_18 (q := 19) rfl rfl rfl ?_
  refine Own.iconst C d1_19 (q := 20) rfl (z := 0) (by decide) ?_
  refine Own.newArr C d1_20 (q := 22) rfl (ty := .int) rfl (hw _ (List.mem_of_getElem? (i := 9) rfl)) (by decide) (cap := 0) (by decide) (by decide) (vs := []) rfl (by decide) (by decide) fun a20 a20_f a20_g => ?_
  have ne_a6_a20 := a20_f _ _ (upd_at ne_a6_a13 (upd_at (Ne.symm ne_a_a6) upd_same))
  have ne_a_a20 := a20_f _ _ (upd_at ne_a_a13 upd_same)
  have ne_a13_a20 := a20_f _ _ upd_same
  refine Own.putfield C d1_22 (q := 25) rfl (host := "") (Or.inl (hw _ (List.mem_of_getElem? (i := 14) rfl))) Via.refl (Or.inl (hw _ (List.mem_of_getElem? (i := 15) rfl))) (hw _ (List.mem_of_getElem? (i := 1) rfl)) (ty := (.array .int)) (by decide) rfl rfl (upd_at ne_a_a20 (upd_at ne_a_a13 upd_same)) (j := 2) rfl (fs' := [(("com/example/parcours/parcours/search/Workspace$MatchingRoom", "memberOf", "[I"), (.ref a6)), (("com/example/parcours/parcours/search/Workspace$MatchingRoom", "members", "[I"), (.ref a13)), (("com/example/parcours/parcours/search/Workspace$MatchingRoom", "sizeCounts", "[I"), (.ref a20)), (("com/example/parcours/parcours/search/Workspace$MatchingRoom", "taken", "[I"), .null), (("com/example/parcours/parcours/search/Workspace$MatchingRoom", "matchedTo", "[I"), .null), (("com/example/parcours/parcours/search/Workspace$MatchingRoom", "owners", "[I"), .null), (("com/example/parcours/parcours/search/Workspace$MatchingRoom", "heldStarts", "[I"), .null), (("com/example/parcours/parcours/search/Workspace$MatchingRoom", "valuesHeld", "[I"), .null), (("com/example/parcours/parcours/search/Workspace$MatchingRoom", "holderStarts", "[I"), .null), (("com/example/parcours/parcours/search/Workspace$MatchingRoom", "holders", "[I"), .null), (("com/example/parcours/parcours/search/Workspace$MatchingRoom", "values", "Lcom/example/parcours/parcours/search/ValueNumbers;"), .null), (("com/example/parcours/parcours/search/Workspace$MatchingRoom", "seen", "[I"), .null), (("com/example/parcours/parcours/search/Workspace$MatchingRoom", "path", "[I"), .null), (("com/example/parcours/parcours/search/Workspace$MatchingRoom", "next", "[I"), .null), (("com/example/parcours/parcours/search/Workspace$MatchingRoom", "index", "[I"), .null), (("com/example/parcours/parcours/search/Workspace$MatchingRoom", "low", "[I"), .null), (("com/example/parcours/parcours/search/Workspace$MatchingRoom", "open", "[I"), .null), (("com/example/parcours/parcours/search/Workspace$MatchingRoom", "onStack", "[Z"), .null), (("com/example/parcours/parcours/search/Workspace$MatchingRoom", "component", "[I"), .null), (("com/example/parcours/parcours/search/Workspace$MatchingRoom", "reached", "[Z"), .null)]) rfl ga (mem (upd_in (upd_in upd_upd (Ne.symm ne_a_a13)) (Ne.symm ne_a_a20)) ?_)
  refine Own.aloadN C d1_25 (q := 26) rfl rfl rfl ?_
  refine Own.iconst C d1_26 (q := 27) rfl (z := 0) (by decide) ?_
  refine Own.newArr C d1_27 (q := 29) rfl (ty := .int) rfl (hw _ (List.mem_of_getElem? (i := 9) rfl)) (by decide) (cap := 0) (by decide) (by decide) (vs := []) rfl (by decide) (by decide) fun a27 a27_f a27_g => ?_
  have ne_a6_a27 := a27_f _ _ (upd_at ne_a6_a20 (upd_at ne_a6_a13 (upd_at (Ne.symm ne_a_a6) upd_same)))
  have ne_a_a27 := a27_f _ _ (upd_at ne_a_a20 (upd_at ne_a_a13 upd_same))
  have ne_a13_a27 := a27_f _ _ (upd_at ne_a13_a20 upd_same)
  have ne_a20_a27 := a27_f _ _ upd_same
  refine Own.putfield C d1_29 (q := 32) rfl (host := "") (Or.inl (hw _ (List.mem_of_getElem? (i := 16) rfl))) Via.refl (Or.inl (hw _ (List.mem_of_getElem? (i := 17) rfl))) (hw _ (List.mem_of_getElem? (i := 1) rfl)) (ty := (.array .int)) (by decide) rfl rfl (upd_at ne_a_a27 (upd_at ne_a_a20 (upd_at ne_a_a13 upd_same))) (j := 3) rfl (fs' := [(("com/example/parcours/parcours/search/Workspace$MatchingRoom", "memberOf", "[I"), (.ref a6)), (("com/example/parcours/parcours/search/Workspace$MatchingRoom", "members", "[I"), (.ref a13)), (("com/example/parcours/parcours/search/Workspace$MatchingRoom", "sizeCounts", "[I"), (.ref a20)), (("com/example/parcours/parcours/search/Workspace$MatchingRoom", "taken", "[I"), (.ref a27)), (("com/example/parcours/parcours/search/Workspace$MatchingRoom", "matchedTo", "[I"), .null), (("com/example/parcours/parcours/search/Workspace$MatchingRoom", "owners", "[I"), .null), (("com/example/parcours/parcours/search/Workspace$MatchingRoom", "heldStarts", "[I"), .null), (("com/example/parcours/parcours/search/Workspace$MatchingRoom", "valuesHeld", "[I"), .null), (("com/example/parcours/parcours/search/Workspace$MatchingRoom", "holderStarts", "[I"), .null), (("com/example/parcours/parcours/search/Workspace$MatchingRoom", "holders", "[I"), .null), (("com/example/parcours/parcours/search/Workspace$MatchingRoom", "values", "Lcom/example/parcours/parcours/search/ValueNumbers;"), .null), (("com/example/parcours/parcours/search/Workspace$MatchingRoom", "seen", "[I"), .null), (("com/example/parcours/parcours/search/Workspace$MatchingRoom", "path", "[I"), .null), (("com/example/parcours/parcours/search/Workspace$MatchingRoom", "next", "[I"), .null), (("com/example/parcours/parcours/search/Workspace$MatchingRoom", "index", "[I"), .null), (("com/example/parcours/parcours/search/Workspace$MatchingRoom", "low", "[I"), .null), (("com/example/parcours/parcours/search/Workspace$MatchingRoom", "open", "[I"), .null), (("com/example/parcours/parcours/search/Workspace$MatchingRoom", "onStack", "[Z"), .null), (("com/example/parcours/parcours/search/Workspace$MatchingRoom", "component", "[I"), .null), (("com/example/parcours/parcours/search/Workspace$MatchingRoom", "reached", "[Z"), .null)]) rfl ga (mem (upd_in (upd_in (upd_in upd_upd (Ne.symm ne_a_a13)) (Ne.symm ne_a_a20)) (Ne.symm ne_a_a27)) ?_)
  refine Own.aloadN C d1_32 (q := 33) rfl rfl rfl ?_
  refine Own.iconst C d1_33 (q := 34) rfl (z := 0) (by decide) ?_
  refine Own.newArr C d1_34 (q := 36) rfl (ty := .int) rfl (hw _ (List.mem_of_getElem? (i := 9) rfl)) (by decide) (cap := 0) (by decide) (by decide) (vs := []) rfl (by decide) (by decide) fun a34 a34_f a34_g => ?_
  have ne_a6_a34 := a34_f _ _ (upd_at ne_a6_a27 (upd_at ne_a6_a20 (upd_at ne_a6_a13 (upd_at (Ne.symm ne_a_a6) upd_same))))
  have ne_a_a34 := a34_f _ _ (upd_at ne_a_a27 (upd_at ne_a_a20 (upd_at ne_a_a13 upd_same)))
  have ne_a13_a34 := a34_f _ _ (upd_at ne_a13_a27 (upd_at ne_a13_a20 upd_same))
  have ne_a20_a34 := a34_f _ _ (upd_at ne_a20_a27 upd_same)
  have ne_a27_a34 := a34_f _ _ upd_same
  refine Own.putfield C d1_36 (q := 39) rfl (host := "") (Or.inl (hw _ (List.mem_of_getElem? (i := 18) rfl))) Via.refl (Or.inl (hw _ (List.mem_of_getElem? (i := 19) rfl))) (hw _ (List.mem_of_getElem? (i := 1) rfl)) (ty := (.array .int)) (by decide) rfl rfl (upd_at ne_a_a34 (upd_at ne_a_a27 (upd_at ne_a_a20 (upd_at ne_a_a13 upd_same)))) (j := 4) rfl (fs' := [(("com/example/parcours/parcours/search/Workspace$MatchingRoom", "memberOf", "[I"), (.ref a6)), (("com/example/parcours/parcours/search/Workspace$MatchingRoom", "members", "[I"), (.ref a13)), (("com/example/parcours/parcours/search/Workspace$MatchingRoom", "sizeCounts", "[I"), (.ref a20)), (("com/example/parcours/parcours/search/Workspace$MatchingRoom", "taken", "[I"), (.ref a27)), (("com/example/parcours/parcours/search/Workspace$MatchingRoom", "matchedTo", "[I"), (.ref a34)), (("com/example/parcours/parcours/search/Workspace$MatchingRoom", "owners", "[I"), .null), (("com/example/parcours/parcours/search/Workspace$MatchingRoom", "heldStarts", "[I"), .null), (("com/example/parcours/parcours/search/Workspace$MatchingRoom", "valuesHeld", "[I"), .null), (("com/example/parcours/parcours/search/Workspace$MatchingRoom", "holderStarts", "[I"), .null), (("com/example/parcours/parcours/search/Workspace$MatchingRoom", "holders", "[I"), .null), (("com/example/parcours/parcours/search/Workspace$MatchingRoom", "values", "Lcom/example/parcours/parcours/search/ValueNumbers;"), .null), (("com/example/parcours/parcours/search/Workspace$MatchingRoom", "seen", "[I"), .null), (("com/example/parcours/parcours/search/Workspace$MatchingRoom", "path", "[I"), .null), (("com/example/parcours/parcours/search/Workspace$MatchingRoom", "next", "[I"), .null), (("com/example/parcours/parcours/search/Workspace$MatchingRoom", "index", "[I"), .null), (("com/example/parcours/parcours/search/Workspace$MatchingRoom", "low", "[I"), .null), (("com/example/parcours/parcours/search/Workspace$MatchingRoom", "open", "[I"), .null), (("com/example/parcours/parcours/search/Workspace$MatchingRoom", "onStack", "[Z"), .null), (("com/example/parcours/parcours/search/Workspace$MatchingRoom", "component", "[I"), .null), (("com/example/parcours/parcours/search/Workspace$MatchingRoom", "reached", "[Z"), .null)]) rfl ga (mem (upd_in (upd_in (upd_in (upd_in upd_upd (Ne.symm ne_a_a13)) (Ne.symm ne_a_a20)) (Ne.symm ne_a_a27)) (Ne.symm ne_a_a34)) ?_)
  refine Own.aloadN C d1_39 (q := 40) rfl rfl rfl ?_
  refine Own.iconst C d1_40 (q := 41) rfl (z := 0) (by decide) ?_
  refine Own.newArr C d1_41 (q := 43) rfl (ty := .int) rfl (hw _ (List.mem_of_getElem? (i := 9) rfl)) (by decide) (cap := 0) (by decide) (by decide) (vs := []) rfl (by decide) (by decide) fun a41 a41_f a41_g => ?_
  have ne_a6_a41 := a41_f _ _ (upd_at ne_a6_a34 (upd_at ne_a6_a27 (upd_at ne_a6_a20 (upd_at ne_a6_a13 (upd_at (Ne.symm ne_a_a6) upd_same)))))
  have ne_a_a41 := a41_f _ _ (upd_at ne_a_a34 (upd_at ne_a_a27 (upd_at ne_a_a20 (upd_at ne_a_a13 upd_same))))
  have ne_a13_a41 := a41_f _ _ (upd_at ne_a13_a34 (upd_at ne_a13_a27 (upd_at ne_a13_a20 upd_same)))
  have ne_a20_a41 := a41_f _ _ (upd_at ne_a20_a34 (upd_at ne_a20_a27 upd_same))
  have ne_a27_a41 := a41_f _ _ (upd_at ne_a27_a34 upd_same)
  have ne_a34_a41 := a41_f _ _ upd_same
  refine Own.putfield C d1_43 (q := 46) rfl (host := "") (Or.inl (hw _ (List.mem_of_getElem? (i := 20) rfl))) Via.refl (Or.inl (hw _ (List.mem_of_getElem? (i := 21) rfl))) (hw _ (List.mem_of_getElem? (i := 1) rfl)) (ty := (.array .int)) (by decide) rfl rfl (upd_at ne_a_a41 (upd_at ne_a_a34 (upd_at ne_a_a27 (upd_at ne_a_a20 (upd_at ne_a_a13 upd_same))))) (j := 5) rfl (fs' := [(("com/example/parcours/parcours/search/Workspace$MatchingRoom", "memberOf", "[I"), (.ref a6)), (("com/example/parcours/parcours/search/Workspace$MatchingRoom", "members", "[I"), (.ref a13)), (("com/example/parcours/parcours/search/Workspace$MatchingRoom", "sizeCounts", "[I"), (.ref a20)), (("com/example/parcours/parcours/search/Workspace$MatchingRoom", "taken", "[I"), (.ref a27)), (("com/example/parcours/parcours/search/Workspace$MatchingRoom", "matchedTo", "[I"), (.ref a34)), (("com/example/parcours/parcours/search/Workspace$MatchingRoom", "owners", "[I"), (.ref a41)), (("com/example/parcours/parcours/search/Workspace$MatchingRoom", "heldStarts", "[I"), .null), (("com/example/parcours/parcours/search/Workspace$MatchingRoom", "valuesHeld", "[I"), .null), (("com/example/parcours/parcours/search/Workspace$MatchingRoom", "holderStarts", "[I"), .null), (("com/example/parcours/parcours/search/Workspace$MatchingRoom", "holders", "[I"), .null), (("com/example/parcours/parcours/search/Workspace$MatchingRoom", "values", "Lcom/example/parcours/parcours/search/ValueNumbers;"), .null), (("com/example/parcours/parcours/search/Workspace$MatchingRoom", "seen", "[I"), .null), (("com/example/parcours/parcours/search/Workspace$MatchingRoom", "path", "[I"), .null), (("com/example/parcours/parcours/search/Workspace$MatchingRoom", "next", "[I"), .null), (("com/example/parcours/parcours/search/Workspace$MatchingRoom", "index", "[I"), .null), (("com/example/parcours/parcours/search/Workspace$MatchingRoom", "low", "[I"), .null), (("com/example/parcours/parcours/search/Workspace$MatchingRoom", "open", "[I"), .null), (("com/example/parcours/parcours/search/Workspace$MatchingRoom", "onStack", "[Z"), .null), (("com/example/parcours/parcours/search/Workspace$MatchingRoom", "component", "[I"), .null), (("com/example/parcours/parcours/search/Workspace$MatchingRoom", "reached", "[Z"), .null)]) rfl ga (mem (upd_in (upd_in (upd_in (upd_in (upd_in upd_upd (Ne.symm ne_a_a13)) (Ne.symm ne_a_a20)) (Ne.symm ne_a_a27)) (Ne.symm ne_a_a34)) (Ne.symm ne_a_a41)) ?_)
  refine Own.aloadN C d1_46 (q := 47) rfl rfl rfl ?_
  refine Own.iconst C d1_47 (q := 48) rfl (z := 0) (by decide) ?_
  refine Own.newArr C d1_48 (q := 50) rfl (ty := .int) rfl (hw _ (List.mem_of_getElem? (i := 9) rfl)) (by decide) (cap := 0) (by decide) (by decide) (vs := []) rfl (by decide) (by decide) fun a48 a48_f a48_g => ?_
  have ne_a6_a48 := a48_f _ _ (upd_at ne_a6_a41 (upd_at ne_a6_a34 (upd_at ne_a6_a27 (upd_at ne_a6_a20 (upd_at ne_a6_a13 (upd_at (Ne.symm ne_a_a6) upd_same))))))
  have ne_a_a48 := a48_f _ _ (upd_at ne_a_a41 (upd_at ne_a_a34 (upd_at ne_a_a27 (upd_at ne_a_a20 (upd_at ne_a_a13 upd_same)))))
  have ne_a13_a48 := a48_f _ _ (upd_at ne_a13_a41 (upd_at ne_a13_a34 (upd_at ne_a13_a27 (upd_at ne_a13_a20 upd_same))))
  have ne_a20_a48 := a48_f _ _ (upd_at ne_a20_a41 (upd_at ne_a20_a34 (upd_at ne_a20_a27 upd_same)))
  have ne_a27_a48 := a48_f _ _ (upd_at ne_a27_a41 (upd_at ne_a27_a34 upd_same))
  have ne_a34_a48 := a48_f _ _ (upd_at ne_a34_a41 upd_same)
  have ne_a41_a48 := a48_f _ _ upd_same
  refine Own.putfield C d1_50 (q := 53) rfl (host := "") (Or.inl (hw _ (List.mem_of_getElem? (i := 22) rfl))) Via.refl (Or.inl (hw _ (List.mem_of_getElem? (i := 23) rfl))) (hw _ (List.mem_of_getElem? (i := 1) rfl)) (ty := (.array .int)) (by decide) rfl rfl (upd_at ne_a_a48 (upd_at ne_a_a41 (upd_at ne_a_a34 (upd_at ne_a_a27 (upd_at ne_a_a20 (upd_at ne_a_a13 upd_same)))))) (j := 6) rfl (fs' := [(("com/example/parcours/parcours/search/Workspace$MatchingRoom", "memberOf", "[I"), (.ref a6)), (("com/example/parcours/parcours/search/Workspace$MatchingRoom", "members", "[I"), (.ref a13)), (("com/example/parcours/parcours/search/Workspace$MatchingRoom", "sizeCounts", "[I"), (.ref a20)), (("com/example/parcours/parcours/search/Workspace$MatchingRoom", "taken", "[I"), (.ref a27)), (("com/example/parcours/parcours/search/Workspace$MatchingRoom", "matchedTo", "[I"), (.ref a34)), (("com/example/parcours/parcours/search/Workspace$MatchingRoom", "owners", "[I"), (.ref a41)), (("com/example/parcours/parcours/search/Workspace$MatchingRoom", "heldStarts", "[I"), (.ref a48)), (("com/example/parcours/parcours/search/Workspace$MatchingRoom", "valuesHeld", "[I"), .null), (("com/example/parcours/parcours/search/Workspace$MatchingRoom", "holderStarts", "[I"), .null), (("com/example/parcours/parcours/search/Workspace$MatchingRoom", "holders", "[I"), .null), (("com/example/parcours/parcours/search/Workspace$MatchingRoom", "values", "Lcom/example/parcours/parcours/search/ValueNumbers;"), .null), (("com/example/parcours/parcours/search/Workspace$MatchingRoom", "seen", "[I"), .null), (("com/example/parcours/parcours/search/Workspace$MatchingRoom", "path", "[I"), .null), (("com/example/parcours/parcours/search/Workspace$MatchingRoom", "next", "[I"), .null), (("com/example/parcours/parcours/search/Workspace$MatchingRoom", "index", "[I"), .null), (("com/example/parcours/parcours/search/Workspace$MatchingRoom", "low", "[I"), .null), (("com/example/parcours/parcours/search/Workspace$MatchingRoom", "open", "[I"), .null), (("com/example/parcours/parcours/search/Workspace$MatchingRoom", "onStack", "[Z"), .null), (("com/example/parcours/parcours/search/Workspace$MatchingRoom", "component", "[I"), .null), (("com/example/parcours/parcours/search/Workspace$MatchingRoom", "reached", "[Z"), .null)]) rfl ga (mem (upd_in (upd_in (upd_in (upd_in (upd_in (upd_in upd_upd (Ne.symm ne_a_a13)) (Ne.symm ne_a_a20)) (Ne.symm ne_a_a27)) (Ne.symm ne_a_a34)) (Ne.symm ne_a_a41)) (Ne.symm ne_a_a48)) ?_)
  refine Own.aloadN C d1_53 (q := 54) rfl rfl rfl ?_
  refine Own.iconst C d1_54 (q := 55) rfl (z := 0) (by decide) ?_
  refine Own.newArr C d1_55 (q := 57) rfl (ty := .int) rfl (hw _ (List.mem_of_getElem? (i := 9) rfl)) (by decide) (cap := 0) (by decide) (by decide) (vs := []) rfl (by decide) (by decide) fun a55 a55_f a55_g => ?_
  have ne_a6_a55 := a55_f _ _ (upd_at ne_a6_a48 (upd_at ne_a6_a41 (upd_at ne_a6_a34 (upd_at ne_a6_a27 (upd_at ne_a6_a20 (upd_at ne_a6_a13 (upd_at (Ne.symm ne_a_a6) upd_same)))))))
  have ne_a_a55 := a55_f _ _ (upd_at ne_a_a48 (upd_at ne_a_a41 (upd_at ne_a_a34 (upd_at ne_a_a27 (upd_at ne_a_a20 (upd_at ne_a_a13 upd_same))))))
  have ne_a13_a55 := a55_f _ _ (upd_at ne_a13_a48 (upd_at ne_a13_a41 (upd_at ne_a13_a34 (upd_at ne_a13_a27 (upd_at ne_a13_a20 upd_same)))))
  have ne_a20_a55 := a55_f _ _ (upd_at ne_a20_a48 (upd_at ne_a20_a41 (upd_at ne_a20_a34 (upd_at ne_a20_a27 upd_same))))
  have ne_a27_a55 := a55_f _ _ (upd_at ne_a27_a48 (upd_at ne_a27_a41 (upd_at ne_a27_a34 upd_same)))
  have ne_a34_a55 := a55_f _ _ (upd_at ne_a34_a48 (upd_at ne_a34_a41 upd_same))
  have ne_a41_a55 := a55_f _ _ (upd_at ne_a41_a48 upd_same)
  have ne_a48_a55 := a55_f _ _ upd_same
  refine Own.putfield C d1_57 (q := 60) rfl (host := "") (Or.inl (hw _ (List.mem_of_getElem? (i := 24) rfl))) Via.refl (Or.inl (hw _ (List.mem_of_getElem? (i := 25) rfl))) (hw _ (List.mem_of_getElem? (i := 1) rfl)) (ty := (.array .int)) (by decide) rfl rfl (upd_at ne_a_a55 (upd_at ne_a_a48 (upd_at ne_a_a41 (upd_at ne_a_a34 (upd_at ne_a_a27 (upd_at ne_a_a20 (upd_at ne_a_a13 upd_same))))))) (j := 7) rfl (fs' := [(("com/example/parcours/parcours/search/Workspace$MatchingRoom", "memberOf", "[I"), (.ref a6)), (("com/example/parcours/parcours/search/Workspace$MatchingRoom", "members", "[I"), (.ref a13)), (("com/example/parcours/parcours/search/Workspace$MatchingRoom", "sizeCounts", "[I"), (.ref a20)), (("com/example/parcours/parcours/search/Workspace$MatchingRoom", "taken", "[I"), (.ref a27)), (("com/example/parcours/parcours/search/Workspace$MatchingRoom", "matchedTo", "[I"), (.ref a34)), (("com/example/parcours/parcours/search/Workspace$MatchingRoom", "owners", "[I"), (.ref a41)), (("com/example/parcours/parcours/search/Workspace$MatchingRoom", "heldStarts", "[I"), (.ref a48)), (("com/example/parcours/parcours/search/Workspace$MatchingRoom", "valuesHeld", "[I"), (.ref a55)), (("com/example/parcours/parcours/search/Workspace$MatchingRoom", "holderStarts", "[I"), .null), (("com/example/parcours/parcours/search/Workspace$MatchingRoom", "holders", "[I"), .null), (("com/example/parcours/parcours/search/Workspace$MatchingRoom", "values", "Lcom/example/parcours/parcours/search/ValueNumbers;"), .null), (("com/example/parcours/parcours/search/Workspace$MatchingRoom", "seen", "[I"), .null), (("com/example/parcours/parcours/search/Workspace$MatchingRoom", "path", "[I"), .null), (("com/example/parcours/parcours/search/Workspace$MatchingRoom", "next", "[I"), .null), (("com/example/parcours/parcours/search/Workspace$MatchingRoom", "index", "[I"), .null), (("com/example/parcours/parcours/search/Workspace$MatchingRoom", "low", "[I"), .null), (("com/example/parcours/parcours/search/Workspace$MatchingRoom", "open", "[I"), .null), (("com/example/parcours/parcours/search/Workspace$MatchingRoom", "onStack", "[Z"), .null), (("com/example/parcours/parcours/search/Workspace$MatchingRoom", "component", "[I"), .null), (("com/example/parcours/parcours/search/Workspace$MatchingRoom", "reached", "[Z"), .null)]) rfl ga (mem (upd_in (upd_in (upd_in (upd_in (upd_in (upd_in (upd_in upd_upd (Ne.symm ne_a_a13)) (Ne.symm ne_a_a20)) (Ne.symm ne_a_a27)) (Ne.symm ne_a_a34)) (Ne.symm ne_a_a41)) (Ne.symm ne_a_a48)) (Ne.symm ne_a_a55)) ?_)
  refine Own.aloadN C d1_60 (q := 61) rfl rfl rfl ?_
  refine Own.iconst C d1_61 (q := 62) rfl (z := 0) (by decide) ?_
  refine Own.newArr C d1_62 (q := 64) rfl (ty := .int) rfl (hw _ (List.mem_of_getElem? (i := 9) rfl)) (by decide) (cap := 0) (by decide) (by decide) (vs := []) rfl (by decide) (by decide) fun a62 a62_f a62_g => ?_
  have ne_a6_a62 := a62_f _ _ (upd_at ne_a6_a55 (upd_at ne_a6_a48 (upd_at ne_a6_a41 (upd_at ne_a6_a34 (upd_at ne_a6_a27 (upd_at ne_a6_a20 (upd_at ne_a6_a13 (upd_at (Ne.symm ne_a_a6) upd_same))))))))
  have ne_a_a62 := a62_f _ _ (upd_at ne_a_a55 (upd_at ne_a_a48 (upd_at ne_a_a41 (upd_at ne_a_a34 (upd_at ne_a_a27 (upd_at ne_a_a20 (upd_at ne_a_a13 upd_same)))))))
  have ne_a13_a62 := a62_f _ _ (upd_at ne_a13_a55 (upd_at ne_a13_a48 (upd_at ne_a13_a41 (upd_at ne_a13_a34 (upd_at ne_a13_a27 (upd_at ne_a13_a20 upd_same))))))
  have ne_a20_a62 := a62_f _ _ (upd_at ne_a20_a55 (upd_at ne_a20_a48 (upd_at ne_a20_a41 (upd_at ne_a20_a34 (upd_at ne_a20_a27 upd_same)))))
  have ne_a27_a62 := a62_f _ _ (upd_at ne_a27_a55 (upd_at ne_a27_a48 (upd_at ne_a27_a41 (upd_at ne_a27_a34 upd_same))))
  have ne_a34_a62 := a62_f _ _ (upd_at ne_a34_a55 (upd_at ne_a34_a48 (upd_at ne_a34_a41 upd_same)))
  have ne_a41_a62 := a62_f _ _ (upd_at ne_a41_a55 (upd_at ne_a41_a48 upd_same))
  have ne_a48_a62 := a62_f _ _ (upd_at ne_a48_a55 upd_same)
  have ne_a55_a62 := a62_f _ _ upd_same
  refine Own.putfield C d1_64 (q := 67) rfl (host := "") (Or.inl (hw _ (List.mem_of_getElem? (i := 26) rfl))) Via.refl (Or.inl (hw _ (List.mem_of_getElem? (i := 27) rfl))) (hw _ (List.mem_of_getElem? (i := 1) rfl)) (ty := (.array .int)) (by decide) rfl rfl (upd_at ne_a_a62 (upd_at ne_a_a55 (upd_at ne_a_a48 (upd_at ne_a_a41 (upd_at ne_a_a34 (upd_at ne_a_a27 (upd_at ne_a_a20 (upd_at ne_a_a13 upd_same)))))))) (j := 8) rfl (fs' := [(("com/example/parcours/parcours/search/Workspace$MatchingRoom", "memberOf", "[I"), (.ref a6)), (("com/example/parcours/parcours/search/Workspace$MatchingRoom", "members", "[I"), (.ref a13)), (("com/example/parcours/parcours/search/Workspace$MatchingRoom", "sizeCounts", "[I"), (.ref a20)), (("com/example/parcours/parcours/search/Workspace$MatchingRoom", "taken", "[I"), (.ref a27)), (("com/example/parcours/parcours/search/Workspace$MatchingRoom", "matchedTo", "[I"), (.ref a34)), (("com/example/parcours/parcours/search/Workspace$MatchingRoom", "owners", "[I"), (.ref a41)), (("com/example/parcours/parcours/search/Workspace$MatchingRoom", "heldStarts", "[I"), (.ref a48)), (("com/example/parcours/parcours/search/Workspace$MatchingRoom", "valuesHeld", "[I"), (.ref a55)), (("com/example/parcours/parcours/search/Workspace$MatchingRoom", "holderStarts", "[I"), (.ref a62)), (("com/example/parcours/parcours/search/Workspace$MatchingRoom", "holders", "[I"), .null), (("com/example/parcours/parcours/search/Workspace$MatchingRoom", "values", "Lcom/example/parcours/parcours/search/ValueNumbers;"), .null), (("com/example/parcours/parcours/search/Workspace$MatchingRoom", "seen", "[I"), .null), (("com/example/parcours/parcours/search/Workspace$MatchingRoom", "path", "[I"), .null), (("com/example/parcours/parcours/search/Workspace$MatchingRoom", "next", "[I"), .null), (("com/example/parcours/parcours/search/Workspace$MatchingRoom", "index", "[I"), .null), (("com/example/parcours/parcours/search/Workspace$MatchingRoom", "low", "[I"), .null), (("com/example/parcours/parcours/search/Workspace$MatchingRoom", "open", "[I"), .null), (("com/example/parcours/parcours/search/Workspace$MatchingRoom", "onStack", "[Z"), .null), (("com/example/parcours/parcours/search/Workspace$MatchingRoom", "component", "[I"), .null), (("com/example/parcours/parcours/search/Workspace$MatchingRoom", "reached", "[Z"), .null)]) rfl ga (mem (upd_in (upd_in (upd_in (upd_in (upd_in (upd_in (upd_in (upd_in upd_upd (Ne.symm ne_a_a13)) (Ne.symm ne_a_a20)) (Ne.symm ne_a_a27)) (Ne.symm ne_a_a34)) (Ne.symm ne_a_a41)) (Ne.symm ne_a_a48)) (Ne.symm ne_a_a55)) (Ne.symm ne_a_a62)) ?_)
  refine Own.aloadN C d1_67 (q := 68) rfl rfl rfl ?_
  refine Own.iconst C d1_68 (q := 69) rfl (z := 0) (by decide) ?_
  refine Own.newArr C d1_69 (q := 71) rfl (ty := .int) rfl (hw _ (List.mem_of_getElem? (i := 9) rfl)) (by decide) (cap := 0) (by decide) (by decide) (vs := []) rfl (by decide) (by decide) fun a69 a69_f a69_g => ?_
  have ne_a6_a69 := a69_f _ _ (upd_at ne_a6_a62 (upd_at ne_a6_a55 (upd_at ne_a6_a48 (upd_at ne_a6_a41 (upd_at ne_a6_a34 (upd_at ne_a6_a27 (upd_at ne_a6_a20 (upd_at ne_a6_a13 (upd_at (Ne.symm ne_a_a6) upd_same)))))))))
  have ne_a_a69 := a69_f _ _ (upd_at ne_a_a62 (upd_at ne_a_a55 (upd_at ne_a_a48 (upd_at ne_a_a41 (upd_at ne_a_a34 (upd_at ne_a_a27 (upd_at ne_a_a20 (upd_at ne_a_a13 upd_same))))))))
  have ne_a13_a69 := a69_f _ _ (upd_at ne_a13_a62 (upd_at ne_a13_a55 (upd_at ne_a13_a48 (upd_at ne_a13_a41 (upd_at ne_a13_a34 (upd_at ne_a13_a27 (upd_at ne_a13_a20 upd_same)))))))
  have ne_a20_a69 := a69_f _ _ (upd_at ne_a20_a62 (upd_at ne_a20_a55 (upd_at ne_a20_a48 (upd_at ne_a20_a41 (upd_at ne_a20_a34 (upd_at ne_a20_a27 upd_same))))))
  have ne_a27_a69 := a69_f _ _ (upd_at ne_a27_a62 (upd_at ne_a27_a55 (upd_at ne_a27_a48 (upd_at ne_a27_a41 (upd_at ne_a27_a34 upd_same)))))
  have ne_a34_a69 := a69_f _ _ (upd_at ne_a34_a62 (upd_at ne_a34_a55 (upd_at ne_a34_a48 (upd_at ne_a34_a41 upd_same))))
  have ne_a41_a69 := a69_f _ _ (upd_at ne_a41_a62 (upd_at ne_a41_a55 (upd_at ne_a41_a48 upd_same)))
  have ne_a48_a69 := a69_f _ _ (upd_at ne_a48_a62 (upd_at ne_a48_a55 upd_same))
  have ne_a55_a69 := a69_f _ _ (upd_at ne_a55_a62 upd_same)
  have ne_a62_a69 := a69_f _ _ upd_same
  refine Own.putfield C d1_71 (q := 74) rfl (host := "") (Or.inl (hw _ (List.mem_of_getElem? (i := 28) rfl))) Via.refl (Or.inl (hw _ (List.mem_of_getElem? (i := 29) rfl))) (hw _ (List.mem_of_getElem? (i := 1) rfl)) (ty := (.array .int)) (by decide) rfl rfl (upd_at ne_a_a69 (upd_at ne_a_a62 (upd_at ne_a_a55 (upd_at ne_a_a48 (upd_at ne_a_a41 (upd_at ne_a_a34 (upd_at ne_a_a27 (upd_at ne_a_a20 (upd_at ne_a_a13 upd_same))))))))) (j := 9) rfl (fs' := [(("com/example/parcours/parcours/search/Workspace$MatchingRoom", "memberOf", "[I"), (.ref a6)), (("com/example/parcours/parcours/search/Workspace$MatchingRoom", "members", "[I"), (.ref a13)), (("com/example/parcours/parcours/search/Workspace$MatchingRoom", "sizeCounts", "[I"), (.ref a20)), (("com/example/parcours/parcours/search/Workspace$MatchingRoom", "taken", "[I"), (.ref a27)), (("com/example/parcours/parcours/search/Workspace$MatchingRoom", "matchedTo", "[I"), (.ref a34)), (("com/example/parcours/parcours/search/Workspace$MatchingRoom", "owners", "[I"), (.ref a41)), (("com/example/parcours/parcours/search/Workspace$MatchingRoom", "heldStarts", "[I"), (.ref a48)), (("com/example/parcours/parcours/search/Workspace$MatchingRoom", "valuesHeld", "[I"), (.ref a55)), (("com/example/parcours/parcours/search/Workspace$MatchingRoom", "holderStarts", "[I"), (.ref a62)), (("com/example/parcours/parcours/search/Workspace$MatchingRoom", "holders", "[I"), (.ref a69)), (("com/example/parcours/parcours/search/Workspace$MatchingRoom", "values", "Lcom/example/parcours/parcours/search/ValueNumbers;"), .null), (("com/example/parcours/parcours/search/Workspace$MatchingRoom", "seen", "[I"), .null), (("com/example/parcours/parcours/search/Workspace$MatchingRoom", "path", "[I"), .null), (("com/example/parcours/parcours/search/Workspace$MatchingRoom", "next", "[I"), .null), (("com/example/parcours/parcours/search/Workspace$MatchingRoom", "index", "[I"), .null), (("com/example/parcours/parcours/search/Workspace$MatchingRoom", "low", "[I"), .null), (("com/example/parcours/parcours/search/Workspace$MatchingRoom", "open", "[I"), .null), (("com/example/parcours/parcours/search/Workspace$MatchingRoom", "onStack", "[Z"), .null), (("com/example/parcours/parcours/search/Workspace$MatchingRoom", "component", "[I"), .null), (("com/example/parcours/parcours/search/Workspace$MatchingRoom", "reached", "[Z"), .null)]) rfl ga (mem (upd_in (upd_in (upd_in (upd_in (upd_in (upd_in (upd_in (upd_in (upd_in upd_upd (Ne.symm ne_a_a13)) (Ne.symm ne_a_a20)) (Ne.symm ne_a_a27)) (Ne.symm ne_a_a34)) (Ne.symm ne_a_a41)) (Ne.symm ne_a_a48)) (Ne.symm ne_a_a55)) (Ne.symm ne_a_a62)) (Ne.symm ne_a_a69)) ?_)
  refine Own.aloadN C d1_74 (q := 75) rfl rfl rfl ?_
  refine Own.new C d1_75 (q := 78) rfl (hw _ (List.mem_of_getElem? (i := 30) rfl)) (hw _ (List.mem_of_getElem? (i := 31) rfl)) (hw _ (List.mem_of_getElem? (i := 32) rfl)) (lay_VN hw) (by decide) (by decide) (by decide) fun a75 a75_f a75_g => ?_
  have ne_a6_a75 := a75_f _ _ (upd_at ne_a6_a69 (upd_at ne_a6_a62 (upd_at ne_a6_a55 (upd_at ne_a6_a48 (upd_at ne_a6_a41 (upd_at ne_a6_a34 (upd_at ne_a6_a27 (upd_at ne_a6_a20 (upd_at ne_a6_a13 (upd_at (Ne.symm ne_a_a6) upd_same))))))))))
  have ne_a_a75 := a75_f _ _ (upd_at ne_a_a69 (upd_at ne_a_a62 (upd_at ne_a_a55 (upd_at ne_a_a48 (upd_at ne_a_a41 (upd_at ne_a_a34 (upd_at ne_a_a27 (upd_at ne_a_a20 (upd_at ne_a_a13 upd_same)))))))))
  have ne_a13_a75 := a75_f _ _ (upd_at ne_a13_a69 (upd_at ne_a13_a62 (upd_at ne_a13_a55 (upd_at ne_a13_a48 (upd_at ne_a13_a41 (upd_at ne_a13_a34 (upd_at ne_a13_a27 (upd_at ne_a13_a20 upd_same))))))))
  have ne_a20_a75 := a75_f _ _ (upd_at ne_a20_a69 (upd_at ne_a20_a62 (upd_at ne_a20_a55 (upd_at ne_a20_a48 (upd_at ne_a20_a41 (upd_at ne_a20_a34 (upd_at ne_a20_a27 upd_same)))))))
  have ne_a27_a75 := a75_f _ _ (upd_at ne_a27_a69 (upd_at ne_a27_a62 (upd_at ne_a27_a55 (upd_at ne_a27_a48 (upd_at ne_a27_a41 (upd_at ne_a27_a34 upd_same))))))
  have ne_a34_a75 := a75_f _ _ (upd_at ne_a34_a69 (upd_at ne_a34_a62 (upd_at ne_a34_a55 (upd_at ne_a34_a48 (upd_at ne_a34_a41 upd_same)))))
  have ne_a41_a75 := a75_f _ _ (upd_at ne_a41_a69 (upd_at ne_a41_a62 (upd_at ne_a41_a55 (upd_at ne_a41_a48 upd_same))))
  have ne_a48_a75 := a75_f _ _ (upd_at ne_a48_a69 (upd_at ne_a48_a62 (upd_at ne_a48_a55 upd_same)))
  have ne_a55_a75 := a75_f _ _ (upd_at ne_a55_a69 (upd_at ne_a55_a62 upd_same))
  have ne_a62_a75 := a75_f _ _ (upd_at ne_a62_a69 upd_same)
  have ne_a69_a75 := a75_f _ _ upd_same
  refine Own.dup C d1_78 (q := 79) rfl rfl ?_
  refine Own.callI C d1_79 (q := 82) rfl rfl (hw _ (List.mem_of_getElem? (i := 33) rfl)) (hw _ (List.mem_of_getElem? (i := 34) rfl)) (hw _ (List.mem_of_getElem? (i := 32) rfl)) (hw _ (List.mem_of_getElem? (i := 35) rfl)) (by decide) (W := 2) (rm := rm_3) (argsL := []) (st := [(.ref a75), (.ref a)]) (lenOf pd_0 rfl) rfl rfl (Nat.le_of_eq rfl) (by decide) (by decide) (by decide) (by decide) (c_vn l Z a0 hw n0 _ a75 upd_same a75_g) (nxV fun μ79 h79 => ?_)
  have f79_a6 := h79 _ _ (upd_at ne_a6_a75 (upd_at ne_a6_a69 (upd_at ne_a6_a62 (upd_at ne_a6_a55 (upd_at ne_a6_a48 (upd_at ne_a6_a41 (upd_at ne_a6_a34 (upd_at ne_a6_a27 (upd_at ne_a6_a20 (upd_at ne_a6_a13 (upd_at (Ne.symm ne_a_a6) upd_same))))))))))) ne_a6_a75
  have f79_a := h79 _ _ (upd_at ne_a_a75 (upd_at ne_a_a69 (upd_at ne_a_a62 (upd_at ne_a_a55 (upd_at ne_a_a48 (upd_at ne_a_a41 (upd_at ne_a_a34 (upd_at ne_a_a27 (upd_at ne_a_a20 (upd_at ne_a_a13 upd_same)))))))))) ne_a_a75
  have f79_a13 := h79 _ _ (upd_at ne_a13_a75 (upd_at ne_a13_a69 (upd_at ne_a13_a62 (upd_at ne_a13_a55 (upd_at ne_a13_a48 (upd_at ne_a13_a41 (upd_at ne_a13_a34 (upd_at ne_a13_a27 (upd_at ne_a13_a20 upd_same))))))))) ne_a13_a75
  have f79_a20 := h79 _ _ (upd_at ne_a20_a75 (upd_at ne_a20_a69 (upd_at ne_a20_a62 (upd_at ne_a20_a55 (upd_at ne_a20_a48 (upd_at ne_a20_a41 (upd_at ne_a20_a34 (upd_at ne_a20_a27 upd_same)))))))) ne_a20_a75
  have f79_a27 := h79 _ _ (upd_at ne_a27_a75 (upd_at ne_a27_a69 (upd_at ne_a27_a62 (upd_at ne_a27_a55 (upd_at ne_a27_a48 (upd_at ne_a27_a41 (upd_at ne_a27_a34 upd_same))))))) ne_a27_a75
  have f79_a34 := h79 _ _ (upd_at ne_a34_a75 (upd_at ne_a34_a69 (upd_at ne_a34_a62 (upd_at ne_a34_a55 (upd_at ne_a34_a48 (upd_at ne_a34_a41 upd_same)))))) ne_a34_a75
  have f79_a41 := h79 _ _ (upd_at ne_a41_a75 (upd_at ne_a41_a69 (upd_at ne_a41_a62 (upd_at ne_a41_a55 (upd_at ne_a41_a48 upd_same))))) ne_a41_a75
  have f79_a48 := h79 _ _ (upd_at ne_a48_a75 (upd_at ne_a48_a69 (upd_at ne_a48_a62 (upd_at ne_a48_a55 upd_same)))) ne_a48_a75
  have f79_a55 := h79 _ _ (upd_at ne_a55_a75 (upd_at ne_a55_a69 (upd_at ne_a55_a62 upd_same))) ne_a55_a75
  have f79_a62 := h79 _ _ (upd_at ne_a62_a75 (upd_at ne_a62_a69 upd_same)) ne_a62_a75
  have f79_a69 := h79 _ _ (upd_at ne_a69_a75 upd_same) ne_a69_a75
  refine Own.putfield C d1_82 (q := 85) rfl (host := "") (Or.inl (hw _ (List.mem_of_getElem? (i := 46) rfl))) Via.refl (Or.inr ⟨(hw _ (List.mem_of_getElem? (i := 47) rfl)), rfl, rfl⟩) (hw _ (List.mem_of_getElem? (i := 1) rfl)) (ty := (.object "com/example/parcours/parcours/search/ValueNumbers")) (by decide) rfl rfl f79_a (j := 10) rfl (fs' := [(("com/example/parcours/parcours/search/Workspace$MatchingRoom", "memberOf", "[I"), (.ref a6)), (("com/example/parcours/parcours/search/Workspace$MatchingRoom", "members", "[I"), (.ref a13)), (("com/example/parcours/parcours/search/Workspace$MatchingRoom", "sizeCounts", "[I"), (.ref a20)), (("com/example/parcours/parcours/search/Workspace$MatchingRoom", "taken", "[I"), (.ref a27)), (("com/example/parcours/parcours/search/Workspace$MatchingRoom", "matchedTo", "[I"), (.ref a34)), (("com/example/parcours/parcours/search/Workspace$MatchingRoom", "owners", "[I"), (.ref a41)), (("com/example/parcours/parcours/search/Workspace$MatchingRoom", "heldStarts", "[I"), (.ref a48)), (("com/example/parcours/parcours/search/Workspace$MatchingRoom", "valuesHeld", "[I"), (.ref a55)), (("com/example/parcours/parcours/search/Workspace$MatchingRoom", "holderStarts", "[I"), (.ref a62)), (("com/example/parcours/parcours/search/Workspace$MatchingRoom", "holders", "[I"), (.ref a69)), (("com/example/parcours/parcours/search/Workspace$MatchingRoom", "values", "Lcom/example/parcours/parcours/search/ValueNumbers;"), (.ref a75)), (("com/example/parcours/parcours/search/Workspace$MatchingRoom", "seen", "[I"), .null), (("com/example/parcours/parcours/search/Workspace$MatchingRoom", "path", "[I"), .null), (("com/example/parcours/parcours/search/Workspace$MatchingRoom", "next", "[I"), .null), (("com/example/parcours/parcours/search/Workspace$MatchingRoom", "index", "[I"), .null), (("com/example/parcours/parcours/search/Workspace$MatchingRoom", "low", "[I"), .null), (("com/example/parcours/parcours/search/Workspace$MatchingRoom", "open", "[I"), .null), (("com/example/parcours/parcours/search/Workspace$MatchingRoom", "onStack", "[Z"), .null), (("com/example/parcours/parcours/search/Workspace$MatchingRoom", "component", "[I"), .null), (("com/example/parcours/parcours/search/Workspace$MatchingRoom", "reached", "[Z"), .null)]) rfl ga (mem rfl ?_)
  refine Own.aloadN C d1_85 (q := 86) rfl rfl rfl ?_
  refine Own.iconst C d1_86 (q := 87) rfl (z := 0) (by decide) ?_
  refine Own.newArr C d1_87 (q := 89) rfl (ty := .int) rfl (hw _ (List.mem_of_getElem? (i := 9) rfl)) (by decide) (cap := 0) (by decide) (by decide) (vs := []) rfl (by decide) (by decide) fun a87 a87_f a87_g => ?_
  have ne_a_a87 := a87_f _ _ upd_same
  have ne_a6_a87 := a87_f _ _ (upd_at (Ne.symm ne_a_a6) f79_a6)
  have ne_a13_a87 := a87_f _ _ (upd_at (Ne.symm ne_a_a13) f79_a13)
  have ne_a20_a87 := a87_f _ _ (upd_at (Ne.symm ne_a_a20) f79_a20)
  have ne_a27_a87 := a87_f _ _ (upd_at (Ne.symm ne_a_a27) f79_a27)
  have ne_a34_a87 := a87_f _ _ (upd_at (Ne.symm ne_a_a34) f79_a34)
  have ne_a41_a87 := a87_f _ _ (upd_at (Ne.symm ne_a_a41) f79_a41)
  have ne_a48_a87 := a87_f _ _ (upd_at (Ne.symm ne_a_a48) f79_a48)
  have ne_a55_a87 := a87_f _ _ (upd_at (Ne.symm ne_a_a55) f79_a55)
  have ne_a62_a87 := a87_f _ _ (upd_at (Ne.symm ne_a_a62) f79_a62)
  have ne_a69_a87 := a87_f _ _ (upd_at (Ne.symm ne_a_a69) f79_a69)
  refine Own.putfield C d1_89 (q := 92) rfl (host := "") (Or.inl (hw _ (List.mem_of_getElem? (i := 48) rfl))) Via.refl (Or.inl (hw _ (List.mem_of_getElem? (i := 49) rfl))) (hw _ (List.mem_of_getElem? (i := 1) rfl)) (ty := (.array .int)) (by decide) rfl rfl (upd_at ne_a_a87 upd_same) (j := 11) rfl (fs' := [(("com/example/parcours/parcours/search/Workspace$MatchingRoom", "memberOf", "[I"), (.ref a6)), (("com/example/parcours/parcours/search/Workspace$MatchingRoom", "members", "[I"), (.ref a13)), (("com/example/parcours/parcours/search/Workspace$MatchingRoom", "sizeCounts", "[I"), (.ref a20)), (("com/example/parcours/parcours/search/Workspace$MatchingRoom", "taken", "[I"), (.ref a27)), (("com/example/parcours/parcours/search/Workspace$MatchingRoom", "matchedTo", "[I"), (.ref a34)), (("com/example/parcours/parcours/search/Workspace$MatchingRoom", "owners", "[I"), (.ref a41)), (("com/example/parcours/parcours/search/Workspace$MatchingRoom", "heldStarts", "[I"), (.ref a48)), (("com/example/parcours/parcours/search/Workspace$MatchingRoom", "valuesHeld", "[I"), (.ref a55)), (("com/example/parcours/parcours/search/Workspace$MatchingRoom", "holderStarts", "[I"), (.ref a62)), (("com/example/parcours/parcours/search/Workspace$MatchingRoom", "holders", "[I"), (.ref a69)), (("com/example/parcours/parcours/search/Workspace$MatchingRoom", "values", "Lcom/example/parcours/parcours/search/ValueNumbers;"), (.ref a75)), (("com/example/parcours/parcours/search/Workspace$MatchingRoom", "seen", "[I"), (.ref a87)), (("com/example/parcours/parcours/search/Workspace$MatchingRoom", "path", "[I"), .null), (("com/example/parcours/parcours/search/Workspace$MatchingRoom", "next", "[I"), .null), (("com/example/parcours/parcours/search/Workspace$MatchingRoom", "index", "[I"), .null), (("com/example/parcours/parcours/search/Workspace$MatchingRoom", "low", "[I"), .null), (("com/example/parcours/parcours/search/Workspace$MatchingRoom", "open", "[I"), .null), (("com/example/parcours/parcours/search/Workspace$MatchingRoom", "onStack", "[Z"), .null), (("com/example/parcours/parcours/search/Workspace$MatchingRoom", "component", "[I"), .null), (("com/example/parcours/parcours/search/Workspace$MatchingRoom", "reached", "[Z"), .null)]) rfl ga (mem (upd_in upd_upd (Ne.symm ne_a_a87)) ?_)
  refine Own.aloadN C d1_92 (q := 93) rfl rfl rfl ?_
  refine Own.iconst C d1_93 (q := 94) rfl (z := 0) (by decide) ?_
  refine Own.newArr C d1_94 (q := 96) rfl (ty := .int) rfl (hw _ (List.mem_of_getElem? (i := 9) rfl)) (by decide) (cap := 0) (by decide) (by decide) (vs := []) rfl (by decide) (by decide) fun a94 a94_f a94_g => ?_
  have ne_a_a94 := a94_f _ _ (upd_at ne_a_a87 upd_same)
  have ne_a87_a94 := a94_f _ _ upd_same
  have ne_a6_a94 := a94_f _ _ (upd_at ne_a6_a87 (upd_at (Ne.symm ne_a_a6) f79_a6))
  have ne_a13_a94 := a94_f _ _ (upd_at ne_a13_a87 (upd_at (Ne.symm ne_a_a13) f79_a13))
  have ne_a20_a94 := a94_f _ _ (upd_at ne_a20_a87 (upd_at (Ne.symm ne_a_a20) f79_a20))
  have ne_a27_a94 := a94_f _ _ (upd_at ne_a27_a87 (upd_at (Ne.symm ne_a_a27) f79_a27))
  have ne_a34_a94 := a94_f _ _ (upd_at ne_a34_a87 (upd_at (Ne.symm ne_a_a34) f79_a34))
  have ne_a41_a94 := a94_f _ _ (upd_at ne_a41_a87 (upd_at (Ne.symm ne_a_a41) f79_a41))
  have ne_a48_a94 := a94_f _ _ (upd_at ne_a48_a87 (upd_at (Ne.symm ne_a_a48) f79_a48))
  have ne_a55_a94 := a94_f _ _ (upd_at ne_a55_a87 (upd_at (Ne.symm ne_a_a55) f79_a55))
  have ne_a62_a94 := a94_f _ _ (upd_at ne_a62_a87 (upd_at (Ne.symm ne_a_a62) f79_a62))
  have ne_a69_a94 := a94_f _ _ (upd_at ne_a69_a87 (upd_at (Ne.symm ne_a_a69) f79_a69))
  refine Own.putfield C d1_96 (q := 99) rfl (host := "") (Or.inl (hw _ (List.mem_of_getElem? (i := 50) rfl))) Via.refl (Or.inl (hw _ (List.mem_of_getElem? (i := 51) rfl))) (hw _ (List.mem_of_getElem? (i := 1) rfl)) (ty := (.array .int)) (by decide) rfl rfl (upd_at ne_a_a94 (upd_at ne_a_a87 upd_same)) (j := 12) rfl (fs' := [(("com/example/parcours/parcours/search/Workspace$MatchingRoom", "memberOf", "[I"), (.ref a6)), (("com/example/parcours/parcours/search/Workspace$MatchingRoom", "members", "[I"), (.ref a13)), (("com/example/parcours/parcours/search/Workspace$MatchingRoom", "sizeCounts", "[I"), (.ref a20)), (("com/example/parcours/parcours/search/Workspace$MatchingRoom", "taken", "[I"), (.ref a27)), (("com/example/parcours/parcours/search/Workspace$MatchingRoom", "matchedTo", "[I"), (.ref a34)), (("com/example/parcours/parcours/search/Workspace$MatchingRoom", "owners", "[I"), (.ref a41)), (("com/example/parcours/parcours/search/Workspace$MatchingRoom", "heldStarts", "[I"), (.ref a48)), (("com/example/parcours/parcours/search/Workspace$MatchingRoom", "valuesHeld", "[I"), (.ref a55)), (("com/example/parcours/parcours/search/Workspace$MatchingRoom", "holderStarts", "[I"), (.ref a62)), (("com/example/parcours/parcours/search/Workspace$MatchingRoom", "holders", "[I"), (.ref a69)), (("com/example/parcours/parcours/search/Workspace$MatchingRoom", "values", "Lcom/example/parcours/parcours/search/ValueNumbers;"), (.ref a75)), (("com/example/parcours/parcours/search/Workspace$MatchingRoom", "seen", "[I"), (.ref a87)), (("com/example/parcours/parcours/search/Workspace$MatchingRoom", "path", "[I"), (.ref a94)), (("com/example/parcours/parcours/search/Workspace$MatchingRoom", "next", "[I"), .null), (("com/example/parcours/parcours/search/Workspace$MatchingRoom", "index", "[I"), .null), (("com/example/parcours/parcours/search/Workspace$MatchingRoom", "low", "[I"), .null), (("com/example/parcours/parcours/search/Workspace$MatchingRoom", "open", "[I"), .null), (("com/example/parcours/parcours/search/Workspace$MatchingRoom", "onStack", "[Z"), .null), (("com/example/parcours/parcours/search/Workspace$MatchingRoom", "component", "[I"), .null), (("com/example/parcours/parcours/search/Workspace$MatchingRoom", "reached", "[Z"), .null)]) rfl ga (mem (upd_in (upd_in upd_upd (Ne.symm ne_a_a87)) (Ne.symm ne_a_a94)) ?_)
  refine Own.aloadN C d1_99 (q := 100) rfl rfl rfl ?_
  refine Own.iconst C d1_100 (q := 101) rfl (z := 0) (by decide) ?_
  refine Own.newArr C d1_101 (q := 103) rfl (ty := .int) rfl (hw _ (List.mem_of_getElem? (i := 9) rfl)) (by decide) (cap := 0) (by decide) (by decide) (vs := []) rfl (by decide) (by decide) fun a101 a101_f a101_g => ?_
  have ne_a_a101 := a101_f _ _ (upd_at ne_a_a94 (upd_at ne_a_a87 upd_same))
  have ne_a87_a101 := a101_f _ _ (upd_at ne_a87_a94 upd_same)
  have ne_a94_a101 := a101_f _ _ upd_same
  have ne_a6_a101 := a101_f _ _ (upd_at ne_a6_a94 (upd_at ne_a6_a87 (upd_at (Ne.symm ne_a_a6) f79_a6)))
  have ne_a13_a101 := a101_f _ _ (upd_at ne_a13_a94 (upd_at ne_a13_a87 (upd_at (Ne.symm ne_a_a13) f79_a13)))
  have ne_a20_a101 := a101_f _ _ (upd_at ne_a20_a94 (upd_at ne_a20_a87 (upd_at (Ne.symm ne_a_a20) f79_a20)))
  have ne_a27_a101 := a101_f _ _ (upd_at ne_a27_a94 (upd_at ne_a27_a87 (upd_at (Ne.symm ne_a_a27) f79_a27)))
  have ne_a34_a101 := a101_f _ _ (upd_at ne_a34_a94 (upd_at ne_a34_a87 (upd_at (Ne.symm ne_a_a34) f79_a34)))
  have ne_a41_a101 := a101_f _ _ (upd_at ne_a41_a94 (upd_at ne_a41_a87 (upd_at (Ne.symm ne_a_a41) f79_a41)))
  have ne_a48_a101 := a101_f _ _ (upd_at ne_a48_a94 (upd_at ne_a48_a87 (upd_at (Ne.symm ne_a_a48) f79_a48)))
  have ne_a55_a101 := a101_f _ _ (upd_at ne_a55_a94 (upd_at ne_a55_a87 (upd_at (Ne.symm ne_a_a55) f79_a55)))
  have ne_a62_a101 := a101_f _ _ (upd_at ne_a62_a94 (upd_at ne_a62_a87 (upd_at (Ne.symm ne_a_a62) f79_a62)))
  have ne_a69_a101 := a101_f _ _ (upd_at ne_a69_a94 (upd_at ne_a69_a87 (upd_at (Ne.symm ne_a_a69) f79_a69)))
  refine Own.putfield C d1_103 (q := 106) rfl (host := "") (Or.inl (hw _ (List.mem_of_getElem? (i := 52) rfl))) Via.refl (Or.inl (hw _ (List.mem_of_getElem? (i := 53) rfl))) (hw _ (List.mem_of_getElem? (i := 1) rfl)) (ty := (.array .int)) (by decide) rfl rfl (upd_at ne_a_a101 (upd_at ne_a_a94 (upd_at ne_a_a87 upd_same))) (j := 13) rfl (fs' := [(("com/example/parcours/parcours/search/Workspace$MatchingRoom", "memberOf", "[I"), (.ref a6)), (("com/example/parcours/parcours/search/Workspace$MatchingRoom", "members", "[I"), (.ref a13)), (("com/example/parcours/parcours/search/Workspace$MatchingRoom", "sizeCounts", "[I"), (.ref a20)), (("com/example/parcours/parcours/search/Workspace$MatchingRoom", "taken", "[I"), (.ref a27)), (("com/example/parcours/parcours/search/Workspace$MatchingRoom", "matchedTo", "[I"), (.ref a34)), (("com/example/parcours/parcours/search/Workspace$MatchingRoom", "owners", "[I"), (.ref a41)), (("com/example/parcours/parcours/search/Workspace$MatchingRoom", "heldStarts", "[I"), (.ref a48)), (("com/example/parcours/parcours/search/Workspace$MatchingRoom", "valuesHeld", "[I"), (.ref a55)), (("com/example/parcours/parcours/search/Workspace$MatchingRoom", "holderStarts", "[I"), (.ref a62)), (("com/example/parcours/parcours/search/Workspace$MatchingRoom", "holders", "[I"), (.ref a69)), (("com/example/parcours/parcours/search/Workspace$MatchingRoom", "values", "Lcom/example/parcours/parcours/search/ValueNumbers;"), (.ref a75)), (("com/example/parcours/parcours/search/Workspace$MatchingRoom", "seen", "[I"), (.ref a87)), (("com/example/parcours/parcours/search/Workspace$MatchingRoom", "path", "[I"), (.ref a94)), (("com/example/parcours/parcours/search/Workspace$MatchingRoom", "next", "[I"), (.ref a101)), (("com/example/parcours/parcours/search/Workspace$MatchingRoom", "index", "[I"), .null), (("com/example/parcours/parcours/search/Workspace$MatchingRoom", "low", "[I"), .null), (("com/example/parcours/parcours/search/Workspace$MatchingRoom", "open", "[I"), .null), (("com/example/parcours/parcours/search/Workspace$MatchingRoom", "onStack", "[Z"), .null), (("com/example/parcours/parcours/search/Workspace$MatchingRoom", "component", "[I"), .null), (("com/example/parcours/parcours/search/Workspace$MatchingRoom", "reached", "[Z"), .null)]) rfl ga (mem (upd_in (upd_in (upd_in upd_upd (Ne.symm ne_a_a87)) (Ne.symm ne_a_a94)) (Ne.symm ne_a_a101)) ?_)
  refine Own.aloadN C d1_106 (q := 107) rfl rfl rfl ?_
  refine Own.iconst C d1_107 (q := 108) rfl (z := 0) (by decide) ?_
  refine Own.newArr C d1_108 (q := 110) rfl (ty := .int) rfl (hw _ (List.mem_of_getElem? (i := 9) rfl)) (by decide) (cap := 0) (by decide) (by decide) (vs := []) rfl (by decide) (by decide) fun a108 a108_f a108_g => ?_
  have ne_a_a108 := a108_f _ _ (upd_at ne_a_a101 (upd_at ne_a_a94 (upd_at ne_a_a87 upd_same)))
  have ne_a87_a108 := a108_f _ _ (upd_at ne_a87_a101 (upd_at ne_a87_a94 upd_same))
  have ne_a94_a108 := a108_f _ _ (upd_at ne_a94_a101 upd_same)
  have ne_a101_a108 := a108_f _ _ upd_same
  have ne_a6_a108 := a108_f _ _ (upd_at ne_a6_a101 (upd_at ne_a6_a94 (upd_at ne_a6_a87 (upd_at (Ne.symm ne_a_a6) f79_a6))))
  have ne_a13_a108 := a108_f _ _ (upd_at ne_a13_a101 (upd_at ne_a13_a94 (upd_at ne_a13_a87 (upd_at (Ne.symm ne_a_a13) f79_a13))))
  have ne_a20_a108 := a108_f _ _ (upd_at ne_a20_a101 (upd_at ne_a20_a94 (upd_at ne_a20_a87 (upd_at (Ne.symm ne_a_a20) f79_a20))))
  have ne_a27_a108 := a108_f _ _ (upd_at ne_a27_a101 (upd_at ne_a27_a94 (upd_at ne_a27_a87 (upd_at (Ne.symm ne_a_a27) f79_a27))))
  have ne_a34_a108 := a108_f _ _ (upd_at ne_a34_a101 (upd_at ne_a34_a94 (upd_at ne_a34_a87 (upd_at (Ne.symm ne_a_a34) f79_a34))))
  have ne_a41_a108 := a108_f _ _ (upd_at ne_a41_a101 (upd_at ne_a41_a94 (upd_at ne_a41_a87 (upd_at (Ne.symm ne_a_a41) f79_a41))))
  have ne_a48_a108 := a108_f _ _ (upd_at ne_a48_a101 (upd_at ne_a48_a94 (upd_at ne_a48_a87 (upd_at (Ne.symm ne_a_a48) f79_a48))))
  have ne_a55_a108 := a108_f _ _ (upd_at ne_a55_a101 (upd_at ne_a55_a94 (upd_at ne_a55_a87 (upd_at (Ne.symm ne_a_a55) f79_a55))))
  have ne_a62_a108 := a108_f _ _ (upd_at ne_a62_a101 (upd_at ne_a62_a94 (upd_at ne_a62_a87 (upd_at (Ne.symm ne_a_a62) f79_a62))))
  have ne_a69_a108 := a108_f _ _ (upd_at ne_a69_a101 (upd_at ne_a69_a94 (upd_at ne_a69_a87 (upd_at (Ne.symm ne_a_a69) f79_a69))))
  refine Own.putfield C d1_110 (q := 113) rfl (host := "") (Or.inl (hw _ (List.mem_of_getElem? (i := 54) rfl))) Via.refl (Or.inl (hw _ (List.mem_of_getElem? (i := 55) rfl))) (hw _ (List.mem_of_getElem? (i := 1) rfl)) (ty := (.array .int)) (by decide) rfl rfl (upd_at ne_a_a108 (upd_at ne_a_a101 (upd_at ne_a_a94 (upd_at ne_a_a87 upd_same)))) (j := 14) rfl (fs' := [(("com/example/parcours/parcours/search/Workspace$MatchingRoom", "memberOf", "[I"), (.ref a6)), (("com/example/parcours/parcours/search/Workspace$MatchingRoom", "members", "[I"), (.ref a13)), (("com/example/parcours/parcours/search/Workspace$MatchingRoom", "sizeCounts", "[I"), (.ref a20)), (("com/example/parcours/parcours/search/Workspace$MatchingRoom", "taken", "[I"), (.ref a27)), (("com/example/parcours/parcours/search/Workspace$MatchingRoom", "matchedTo", "[I"), (.ref a34)), (("com/example/parcours/parcours/search/Workspace$MatchingRoom", "owners", "[I"), (.ref a41)), (("com/example/parcours/parcours/search/Workspace$MatchingRoom", "heldStarts", "[I"), (.ref a48)), (("com/example/parcours/parcours/search/Workspace$MatchingRoom", "valuesHeld", "[I"), (.ref a55)), (("com/example/parcours/parcours/search/Workspace$MatchingRoom", "holderStarts", "[I"), (.ref a62)), (("com/example/parcours/parcours/search/Workspace$MatchingRoom", "holders", "[I"), (.ref a69)), (("com/example/parcours/parcours/search/Workspace$MatchingRoom", "values", "Lcom/example/parcours/parcours/search/ValueNumbers;"), (.ref a75)), (("com/example/parcours/parcours/search/Workspace$MatchingRoom", "seen", "[I"), (.ref a87)), (("com/example/parcours/parcours/search/Workspace$MatchingRoom", "path", "[I"), (.ref a94)), (("com/example/parcours/parcours/search/Workspace$MatchingRoom", "next", "[I"), (.ref a101)), (("com/example/parcours/parcours/search/Workspace$MatchingRoom", "index", "[I"), (.ref a108)), (("com/example/parcours/parcours/search/Workspace$MatchingRoom", "low", "[I"), .null), (("com/example/parcours/parcours/search/Workspace$MatchingRoom", "open", "[I"), .null), (("com/example/parcours/parcours/search/Workspace$MatchingRoom", "onStack", "[Z"), .null), (("com/example/parcours/parcours/search/Workspace$MatchingRoom", "component", "[I"), .null), (("com/example/parcours/parcours/search/Workspace$MatchingRoom", "reached", "[Z"), .null)]) rfl ga (mem (upd_in (upd_in (upd_in (upd_in upd_upd (Ne.symm ne_a_a87)) (Ne.symm ne_a_a94)) (Ne.symm ne_a_a101)) (Ne.symm ne_a_a108)) ?_)
  refine Own.aloadN C d1_113 (q := 114) rfl rfl rfl ?_
  refine Own.iconst C d1_114 (q := 115) rfl (z := 0) (by decide) ?_
  refine Own.newArr C d1_115 (q := 117) rfl (ty := .int) rfl (hw _ (List.mem_of_getElem? (i := 9) rfl)) (by decide) (cap := 0) (by decide) (by decide) (vs := []) rfl (by decide) (by decide) fun a115 a115_f a115_g => ?_
  have ne_a_a115 := a115_f _ _ (upd_at ne_a_a108 (upd_at ne_a_a101 (upd_at ne_a_a94 (upd_at ne_a_a87 upd_same))))
  have ne_a87_a115 := a115_f _ _ (upd_at ne_a87_a108 (upd_at ne_a87_a101 (upd_at ne_a87_a94 upd_same)))
  have ne_a94_a115 := a115_f _ _ (upd_at ne_a94_a108 (upd_at ne_a94_a101 upd_same))
  have ne_a101_a115 := a115_f _ _ (upd_at ne_a101_a108 upd_same)
  have ne_a108_a115 := a115_f _ _ upd_same
  have ne_a6_a115 := a115_f _ _ (upd_at ne_a6_a108 (upd_at ne_a6_a101 (upd_at ne_a6_a94 (upd_at ne_a6_a87 (upd_at (Ne.symm ne_a_a6) f79_a6)))))
  have ne_a13_a115 := a115_f _ _ (upd_at ne_a13_a108 (upd_at ne_a13_a101 (upd_at ne_a13_a94 (upd_at ne_a13_a87 (upd_at (Ne.symm ne_a_a13) f79_a13)))))
  have ne_a20_a115 := a115_f _ _ (upd_at ne_a20_a108 (upd_at ne_a20_a101 (upd_at ne_a20_a94 (upd_at ne_a20_a87 (upd_at (Ne.symm ne_a_a20) f79_a20)))))
  have ne_a27_a115 := a115_f _ _ (upd_at ne_a27_a108 (upd_at ne_a27_a101 (upd_at ne_a27_a94 (upd_at ne_a27_a87 (upd_at (Ne.symm ne_a_a27) f79_a27)))))
  have ne_a34_a115 := a115_f _ _ (upd_at ne_a34_a108 (upd_at ne_a34_a101 (upd_at ne_a34_a94 (upd_at ne_a34_a87 (upd_at (Ne.symm ne_a_a34) f79_a34)))))
  have ne_a41_a115 := a115_f _ _ (upd_at ne_a41_a108 (upd_at ne_a41_a101 (upd_at ne_a41_a94 (upd_at ne_a41_a87 (upd_at (Ne.symm ne_a_a41) f79_a41)))))
  have ne_a48_a115 := a115_f _ _ (upd_at ne_a48_a108 (upd_at ne_a48_a101 (upd_at ne_a48_a94 (upd_at ne_a48_a87 (upd_at (Ne.symm ne_a_a48) f79_a48)))))
  have ne_a55_a115 := a115_f _ _ (upd_at ne_a55_a108 (upd_at ne_a55_a101 (upd_at ne_a55_a94 (upd_at ne_a55_a87 (upd_at (Ne.symm ne_a_a55) f79_a55)))))
  have ne_a62_a115 := a115_f _ _ (upd_at ne_a62_a108 (upd_at ne_a62_a101 (upd_at ne_a62_a94 (upd_at ne_a62_a87 (upd_at (Ne.symm ne_a_a62) f79_a62)))))
  have ne_a69_a115 := a115_f _ _ (upd_at ne_a69_a108 (upd_at ne_a69_a101 (upd_at ne_a69_a94 (upd_at ne_a69_a87 (upd_at (Ne.symm ne_a_a69) f79_a69)))))
  refine Own.putfield C d1_117 (q := 120) rfl (host := "") (Or.inl (hw _ (List.mem_of_getElem? (i := 56) rfl))) Via.refl (Or.inl (hw _ (List.mem_of_getElem? (i := 57) rfl))) (hw _ (List.mem_of_getElem? (i := 1) rfl)) (ty := (.array .int)) (by decide) rfl rfl (upd_at ne_a_a115 (upd_at ne_a_a108 (upd_at ne_a_a101 (upd_at ne_a_a94 (upd_at ne_a_a87 upd_same))))) (j := 15) rfl (fs' := [(("com/example/parcours/parcours/search/Workspace$MatchingRoom", "memberOf", "[I"), (.ref a6)), (("com/example/parcours/parcours/search/Workspace$MatchingRoom", "members", "[I"), (.ref a13)), (("com/example/parcours/parcours/search/Workspace$MatchingRoom", "sizeCounts", "[I"), (.ref a20)), (("com/example/parcours/parcours/search/Workspace$MatchingRoom", "taken", "[I"), (.ref a27)), (("com/example/parcours/parcours/search/Workspace$MatchingRoom", "matchedTo", "[I"), (.ref a34)), (("com/example/parcours/parcours/search/Workspace$MatchingRoom", "owners", "[I"), (.ref a41)), (("com/example/parcours/parcours/search/Workspace$MatchingRoom", "heldStarts", "[I"), (.ref a48)), (("com/example/parcours/parcours/search/Workspace$MatchingRoom", "valuesHeld", "[I"), (.ref a55)), (("com/example/parcours/parcours/search/Workspace$MatchingRoom", "holderStarts", "[I"), (.ref a62)), (("com/example/parcours/parcours/search/Workspace$MatchingRoom", "holders", "[I"), (.ref a69)), (("com/example/parcours/parcours/search/Workspace$MatchingRoom", "values", "Lcom/example/parcours/parcours/search/ValueNumbers;"), (.ref a75)), (("com/example/parcours/parcours/search/Workspace$MatchingRoom", "seen", "[I"), (.ref a87)), (("com/example/parcours/parcours/search/Workspace$MatchingRoom", "path", "[I"), (.ref a94)), (("com/example/parcours/parcours/search/Workspace$MatchingRoom", "next", "[I"), (.ref a101)), (("com/example/parcours/parcours/search/Workspace$MatchingRoom", "index", "[I"), (.ref a108)), (("com/example/parcours/parcours/search/Workspace$MatchingRoom", "low", "[I"), (.ref a115)), (("com/example/parcours/parcours/search/Workspace$MatchingRoom", "open", "[I"), .null), (("com/example/parcours/parcours/search/Workspace$MatchingRoom", "onStack", "[Z"), .null), (("com/example/parcours/parcours/search/Workspace$MatchingRoom", "component", "[I"), .null), (("com/example/parcours/parcours/search/Workspace$MatchingRoom", "reached", "[Z"), .null)]) rfl ga (mem (upd_in (upd_in (upd_in (upd_in (upd_in upd_upd (Ne.symm ne_a_a87)) (Ne.symm ne_a_a94)) (Ne.symm ne_a_a101)) (Ne.symm ne_a_a108)) (Ne.symm ne_a_a115)) ?_)
  refine Own.aloadN C d1_120 (q := 121) rfl rfl rfl ?_
  refine Own.iconst C d1_121 (q := 122) rfl (z := 0) (by decide) ?_
  refine Own.newArr C d1_122 (q := 124) rfl (ty := .int) rfl (hw _ (List.mem_of_getElem? (i := 9) rfl)) (by decide) (cap := 0) (by decide) (by decide) (vs := []) rfl (by decide) (by decide) fun a122 a122_f a122_g => ?_
  have ne_a_a122 := a122_f _ _ (upd_at ne_a_a115 (upd_at ne_a_a108 (upd_at ne_a_a101 (upd_at ne_a_a94 (upd_at ne_a_a87 upd_same)))))
  have ne_a87_a122 := a122_f _ _ (upd_at ne_a87_a115 (upd_at ne_a87_a108 (upd_at ne_a87_a101 (upd_at ne_a87_a94 upd_same))))
  have ne_a94_a122 := a122_f _ _ (upd_at ne_a94_a115 (upd_at ne_a94_a108 (upd_at ne_a94_a101 upd_same)))
  have ne_a101_a122 := a122_f _ _ (upd_at ne_a101_a115 (upd_at ne_a101_a108 upd_same))
  have ne_a108_a122 := a122_f _ _ (upd_at ne_a108_a115 upd_same)
  have ne_a115_a122 := a122_f _ _ upd_same
  have ne_a6_a122 := a122_f _ _ (upd_at ne_a6_a115 (upd_at ne_a6_a108 (upd_at ne_a6_a101 (upd_at ne_a6_a94 (upd_at ne_a6_a87 (upd_at (Ne.symm ne_a_a6) f79_a6))))))
  have ne_a13_a122 := a122_f _ _ (upd_at ne_a13_a115 (upd_at ne_a13_a108 (upd_at ne_a13_a101 (upd_at ne_a13_a94 (upd_at ne_a13_a87 (upd_at (Ne.symm ne_a_a13) f79_a13))))))
  have ne_a20_a122 := a122_f _ _ (upd_at ne_a20_a115 (upd_at ne_a20_a108 (upd_at ne_a20_a101 (upd_at ne_a20_a94 (upd_at ne_a20_a87 (upd_at (Ne.symm ne_a_a20) f79_a20))))))
  have ne_a27_a122 := a122_f _ _ (upd_at ne_a27_a115 (upd_at ne_a27_a108 (upd_at ne_a27_a101 (upd_at ne_a27_a94 (upd_at ne_a27_a87 (upd_at (Ne.symm ne_a_a27) f79_a27))))))
  have ne_a34_a122 := a122_f _ _ (upd_at ne_a34_a115 (upd_at ne_a34_a108 (upd_at ne_a34_a101 (upd_at ne_a34_a94 (upd_at ne_a34_a87 (upd_at (Ne.symm ne_a_a34) f79_a34))))))
  have ne_a41_a122 := a122_f _ _ (upd_at ne_a41_a115 (upd_at ne_a41_a108 (upd_at ne_a41_a101 (upd_at ne_a41_a94 (upd_at ne_a41_a87 (upd_at (Ne.symm ne_a_a41) f79_a41))))))
  have ne_a48_a122 := a122_f _ _ (upd_at ne_a48_a115 (upd_at ne_a48_a108 (upd_at ne_a48_a101 (upd_at ne_a48_a94 (upd_at ne_a48_a87 (upd_at (Ne.symm ne_a_a48) f79_a48))))))
  have ne_a55_a122 := a122_f _ _ (upd_at ne_a55_a115 (upd_at ne_a55_a108 (upd_at ne_a55_a101 (upd_at ne_a55_a94 (upd_at ne_a55_a87 (upd_at (Ne.symm ne_a_a55) f79_a55))))))
  have ne_a62_a122 := a122_f _ _ (upd_at ne_a62_a115 (upd_at ne_a62_a108 (upd_at ne_a62_a101 (upd_at ne_a62_a94 (upd_at ne_a62_a87 (upd_at (Ne.symm ne_a_a62) f79_a62))))))
  have ne_a69_a122 := a122_f _ _ (upd_at ne_a69_a115 (upd_at ne_a69_a108 (upd_at ne_a69_a101 (upd_at ne_a69_a94 (upd_at ne_a69_a87 (upd_at (Ne.symm ne_a_a69) f79_a69))))))
  refine Own.putfield C d1_124 (q := 127) rfl (host := "") (Or.inl (hw _ (List.mem_of_getElem? (i := 58) rfl))) Via.refl (Or.inl (hw _ (List.mem_of_getElem? (i := 59) rfl))) (hw _ (List.mem_of_getElem? (i := 1) rfl)) (ty := (.array .int)) (by decide) rfl rfl (upd_at ne_a_a122 (upd_at ne_a_a115 (upd_at ne_a_a108 (upd_at ne_a_a101 (upd_at ne_a_a94 (upd_at ne_a_a87 upd_same)))))) (j := 16) rfl (fs' := [(("com/example/parcours/parcours/search/Workspace$MatchingRoom", "memberOf", "[I"), (.ref a6)), (("com/example/parcours/parcours/search/Workspace$MatchingRoom", "members", "[I"), (.ref a13)), (("com/example/parcours/parcours/search/Workspace$MatchingRoom", "sizeCounts", "[I"), (.ref a20)), (("com/example/parcours/parcours/search/Workspace$MatchingRoom", "taken", "[I"), (.ref a27)), (("com/example/parcours/parcours/search/Workspace$MatchingRoom", "matchedTo", "[I"), (.ref a34)), (("com/example/parcours/parcours/search/Workspace$MatchingRoom", "owners", "[I"), (.ref a41)), (("com/example/parcours/parcours/search/Workspace$MatchingRoom", "heldStarts", "[I"), (.ref a48)), (("com/example/parcours/parcours/search/Workspace$MatchingRoom", "valuesHeld", "[I"), (.ref a55)), (("com/example/parcours/parcours/search/Workspace$MatchingRoom", "holderStarts", "[I"), (.ref a62)), (("com/example/parcours/parcours/search/Workspace$MatchingRoom", "holders", "[I"), (.ref a69)), (("com/example/parcours/parcours/search/Workspace$MatchingRoom", "values", "Lcom/example/parcours/parcours/search/ValueNumbers;"), (.ref a75)), (("com/example/parcours/parcours/search/Workspace$MatchingRoom", "seen", "[I"), (.ref a87)), (("com/example/parcours/parcours/search/Workspace$MatchingRoom", "path", "[I"), (.ref a94)), (("com/example/parcours/parcours/search/Workspace$MatchingRoom", "next", "[I"), (.ref a101)), (("com/example/parcours/parcours/search/Workspace$MatchingRoom", "index", "[I"), (.ref a108)), (("com/example/parcours/parcours/search/Workspace$MatchingRoom", "low", "[I"), (.ref a115)), (("com/example/parcours/parcours/search/Workspace$MatchingRoom", "open", "[I"), (.ref a122)), (("com/example/parcours/parcours/search/Workspace$MatchingRoom", "onStack", "[Z"), .null), (("com/example/parcours/parcours/search/Workspace$MatchingRoom", "component", "[I"), .null), (("com/example/parcours/parcours/search/Workspace$MatchingRoom", "reached", "[Z"), .null)]) rfl ga (mem (upd_in (upd_in (upd_in (upd_in (upd_in (upd_in upd_upd (Ne.symm ne_a_a87)) (Ne.symm ne_a_a94)) (Ne.symm ne_a_a101)) (Ne.symm ne_a_a108)) (Ne.symm ne_a_a115)) (Ne.symm ne_a_a122)) ?_)
  refine Own.aloadN C d1_127 (q := 128) rfl rfl rfl ?_
  refine Own.iconst C d1_128 (q := 129) rfl (z := 0) (by decide) ?_
  refine Own.newArr C d1_129 (q := 131) rfl (ty := .boolean) rfl (hw _ (List.mem_of_getElem? (i := 60) rfl)) (by decide) (cap := 0) (by decide) (by decide) (vs := []) rfl (by decide) (by decide) fun a129 a129_f a129_g => ?_
  have ne_a_a129 := a129_f _ _ (upd_at ne_a_a122 (upd_at ne_a_a115 (upd_at ne_a_a108 (upd_at ne_a_a101 (upd_at ne_a_a94 (upd_at ne_a_a87 upd_same))))))
  have ne_a87_a129 := a129_f _ _ (upd_at ne_a87_a122 (upd_at ne_a87_a115 (upd_at ne_a87_a108 (upd_at ne_a87_a101 (upd_at ne_a87_a94 upd_same)))))
  have ne_a94_a129 := a129_f _ _ (upd_at ne_a94_a122 (upd_at ne_a94_a115 (upd_at ne_a94_a108 (upd_at ne_a94_a101 upd_same))))
  have ne_a101_a129 := a129_f _ _ (upd_at ne_a101_a122 (upd_at ne_a101_a115 (upd_at ne_a101_a108 upd_same)))
  have ne_a108_a129 := a129_f _ _ (upd_at ne_a108_a122 (upd_at ne_a108_a115 upd_same))
  have ne_a115_a129 := a129_f _ _ (upd_at ne_a115_a122 upd_same)
  have ne_a122_a129 := a129_f _ _ upd_same
  have ne_a6_a129 := a129_f _ _ (upd_at ne_a6_a122 (upd_at ne_a6_a115 (upd_at ne_a6_a108 (upd_at ne_a6_a101 (upd_at ne_a6_a94 (upd_at ne_a6_a87 (upd_at (Ne.symm ne_a_a6) f79_a6)))))))
  have ne_a13_a129 := a129_f _ _ (upd_at ne_a13_a122 (upd_at ne_a13_a115 (upd_at ne_a13_a108 (upd_at ne_a13_a101 (upd_at ne_a13_a94 (upd_at ne_a13_a87 (upd_at (Ne.symm ne_a_a13) f79_a13)))))))
  have ne_a20_a129 := a129_f _ _ (upd_at ne_a20_a122 (upd_at ne_a20_a115 (upd_at ne_a20_a108 (upd_at ne_a20_a101 (upd_at ne_a20_a94 (upd_at ne_a20_a87 (upd_at (Ne.symm ne_a_a20) f79_a20)))))))
  have ne_a27_a129 := a129_f _ _ (upd_at ne_a27_a122 (upd_at ne_a27_a115 (upd_at ne_a27_a108 (upd_at ne_a27_a101 (upd_at ne_a27_a94 (upd_at ne_a27_a87 (upd_at (Ne.symm ne_a_a27) f79_a27)))))))
  have ne_a34_a129 := a129_f _ _ (upd_at ne_a34_a122 (upd_at ne_a34_a115 (upd_at ne_a34_a108 (upd_at ne_a34_a101 (upd_at ne_a34_a94 (upd_at ne_a34_a87 (upd_at (Ne.symm ne_a_a34) f79_a34)))))))
  have ne_a41_a129 := a129_f _ _ (upd_at ne_a41_a122 (upd_at ne_a41_a115 (upd_at ne_a41_a108 (upd_at ne_a41_a101 (upd_at ne_a41_a94 (upd_at ne_a41_a87 (upd_at (Ne.symm ne_a_a41) f79_a41)))))))
  have ne_a48_a129 := a129_f _ _ (upd_at ne_a48_a122 (upd_at ne_a48_a115 (upd_at ne_a48_a108 (upd_at ne_a48_a101 (upd_at ne_a48_a94 (upd_at ne_a48_a87 (upd_at (Ne.symm ne_a_a48) f79_a48)))))))
  have ne_a55_a129 := a129_f _ _ (upd_at ne_a55_a122 (upd_at ne_a55_a115 (upd_at ne_a55_a108 (upd_at ne_a55_a101 (upd_at ne_a55_a94 (upd_at ne_a55_a87 (upd_at (Ne.symm ne_a_a55) f79_a55)))))))
  have ne_a62_a129 := a129_f _ _ (upd_at ne_a62_a122 (upd_at ne_a62_a115 (upd_at ne_a62_a108 (upd_at ne_a62_a101 (upd_at ne_a62_a94 (upd_at ne_a62_a87 (upd_at (Ne.symm ne_a_a62) f79_a62)))))))
  have ne_a69_a129 := a129_f _ _ (upd_at ne_a69_a122 (upd_at ne_a69_a115 (upd_at ne_a69_a108 (upd_at ne_a69_a101 (upd_at ne_a69_a94 (upd_at ne_a69_a87 (upd_at (Ne.symm ne_a_a69) f79_a69)))))))
  refine Own.putfield C d1_131 (q := 134) rfl (host := "") (Or.inl (hw _ (List.mem_of_getElem? (i := 61) rfl))) Via.refl (Or.inl (hw _ (List.mem_of_getElem? (i := 62) rfl))) (hw _ (List.mem_of_getElem? (i := 1) rfl)) (ty := (.array .boolean)) (by decide) rfl rfl (upd_at ne_a_a129 (upd_at ne_a_a122 (upd_at ne_a_a115 (upd_at ne_a_a108 (upd_at ne_a_a101 (upd_at ne_a_a94 (upd_at ne_a_a87 upd_same))))))) (j := 17) rfl (fs' := [(("com/example/parcours/parcours/search/Workspace$MatchingRoom", "memberOf", "[I"), (.ref a6)), (("com/example/parcours/parcours/search/Workspace$MatchingRoom", "members", "[I"), (.ref a13)), (("com/example/parcours/parcours/search/Workspace$MatchingRoom", "sizeCounts", "[I"), (.ref a20)), (("com/example/parcours/parcours/search/Workspace$MatchingRoom", "taken", "[I"), (.ref a27)), (("com/example/parcours/parcours/search/Workspace$MatchingRoom", "matchedTo", "[I"), (.ref a34)), (("com/example/parcours/parcours/search/Workspace$MatchingRoom", "owners", "[I"), (.ref a41)), (("com/example/parcours/parcours/search/Workspace$MatchingRoom", "heldStarts", "[I"), (.ref a48)), (("com/example/parcours/parcours/search/Workspace$MatchingRoom", "valuesHeld", "[I"), (.ref a55)), (("com/example/parcours/parcours/search/Workspace$MatchingRoom", "holderStarts", "[I"), (.ref a62)), (("com/example/parcours/parcours/search/Workspace$MatchingRoom", "holders", "[I"), (.ref a69)), (("com/example/parcours/parcours/search/Workspace$MatchingRoom", "values", "Lcom/example/parcours/parcours/search/ValueNumbers;"), (.ref a75)), (("com/example/parcours/parcours/search/Workspace$MatchingRoom", "seen", "[I"), (.ref a87)), (("com/example/parcours/parcours/search/Workspace$MatchingRoom", "path", "[I"), (.ref a94)), (("com/example/parcours/parcours/search/Workspace$MatchingRoom", "next", "[I"), (.ref a101)), (("com/example/parcours/parcours/search/Workspace$MatchingRoom", "index", "[I"), (.ref a108)), (("com/example/parcours/parcours/search/Workspace$MatchingRoom", "low", "[I"), (.ref a115)), (("com/example/parcours/parcours/search/Workspace$MatchingRoom", "open", "[I"), (.ref a122)), (("com/example/parcours/parcours/search/Workspace$MatchingRoom", "onStack", "[Z"), (.ref a129)), (("com/example/parcours/parcours/search/Workspace$MatchingRoom", "component", "[I"), .null), (("com/example/parcours/parcours/search/Workspace$MatchingRoom", "reached", "[Z"), .null)]) rfl ga (mem (upd_in (upd_in (upd_in (upd_in (upd_in (upd_in (upd_in upd_upd (Ne.symm ne_a_a87)) (Ne.symm ne_a_a94)) (Ne.symm ne_a_a101)) (Ne.symm ne_a_a108)) (Ne.symm ne_a_a115)) (Ne.symm ne_a_a122)) (Ne.symm ne_a_a129)) ?_)
  refine Own.aloadN C d1_134 (q := 135) rfl rfl rfl ?_
  refine Own.iconst C d1_135 (q := 136) rfl (z := 0) (by decide) ?_
  refine Own.newArr C d1_136 (q := 138) rfl (ty := .int) rfl (hw _ (List.mem_of_getElem? (i := 9) rfl)) (by decide) (cap := 0) (by decide) (by decide) (vs := []) rfl (by decide) (by decide) fun a136 a136_f a136_g => ?_
  have ne_a_a136 := a136_f _ _ (upd_at ne_a_a129 (upd_at ne_a_a122 (upd_at ne_a_a115 (upd_at ne_a_a108 (upd_at ne_a_a101 (upd_at ne_a_a94 (upd_at ne_a_a87 upd_same)))))))
  have ne_a87_a136 := a136_f _ _ (upd_at ne_a87_a129 (upd_at ne_a87_a122 (upd_at ne_a87_a115 (upd_at ne_a87_a108 (upd_at ne_a87_a101 (upd_at ne_a87_a94 upd_same))))))
  have ne_a94_a136 := a136_f _ _ (upd_at ne_a94_a129 (upd_at ne_a94_a122 (upd_at ne_a94_a115 (upd_at ne_a94_a108 (upd_at ne_a94_a101 upd_same)))))
  have ne_a101_a136 := a136_f _ _ (upd_at ne_a101_a129 (upd_at ne_a101_a122 (upd_at ne_a101_a115 (upd_at ne_a101_a108 upd_same))))
  have ne_a108_a136 := a136_f _ _ (upd_at ne_a108_a129 (upd_at ne_a108_a122 (upd_at ne_a108_a115 upd_same)))
  have ne_a115_a136 := a136_f _ _ (upd_at ne_a115_a129 (upd_at ne_a115_a122 upd_same))
  have ne_a122_a136 := a136_f _ _ (upd_at ne_a122_a129 upd_same)
  have ne_a129_a136 := a136_f _ _ upd_same
  have ne_a6_a136 := a136_f _ _ (upd_at ne_a6_a129 (upd_at ne_a6_a122 (upd_at ne_a6_a115 (upd_at ne_a6_a108 (upd_at ne_a6_a101 (upd_at ne_a6_a94 (upd_at ne_a6_a87 (upd_at (Ne.symm ne_a_a6) f79_a6))))))))
  have ne_a13_a136 := a136_f _ _ (upd_at ne_a13_a129 (upd_at ne_a13_a122 (upd_at ne_a13_a115 (upd_at ne_a13_a108 (upd_at ne_a13_a101 (upd_at ne_a13_a94 (upd_at ne_a13_a87 (upd_at (Ne.symm ne_a_a13) f79_a13))))))))
  have ne_a20_a136 := a136_f _ _ (upd_at ne_a20_a129 (upd_at ne_a20_a122 (upd_at ne_a20_a115 (upd_at ne_a20_a108 (upd_at ne_a20_a101 (upd_at ne_a20_a94 (upd_at ne_a20_a87 (upd_at (Ne.symm ne_a_a20) f79_a20))))))))
  have ne_a27_a136 := a136_f _ _ (upd_at ne_a27_a129 (upd_at ne_a27_a122 (upd_at ne_a27_a115 (upd_at ne_a27_a108 (upd_at ne_a27_a101 (upd_at ne_a27_a94 (upd_at ne_a27_a87 (upd_at (Ne.symm ne_a_a27) f79_a27))))))))
  have ne_a34_a136 := a136_f _ _ (upd_at ne_a34_a129 (upd_at ne_a34_a122 (upd_at ne_a34_a115 (upd_at ne_a34_a108 (upd_at ne_a34_a101 (upd_at ne_a34_a94 (upd_at ne_a34_a87 (upd_at (Ne.symm ne_a_a34) f79_a34))))))))
  have ne_a41_a136 := a136_f _ _ (upd_at ne_a41_a129 (upd_at ne_a41_a122 (upd_at ne_a41_a115 (upd_at ne_a41_a108 (upd_at ne_a41_a101 (upd_at ne_a41_a94 (upd_at ne_a41_a87 (upd_at (Ne.symm ne_a_a41) f79_a41))))))))
  have ne_a48_a136 := a136_f _ _ (upd_at ne_a48_a129 (upd_at ne_a48_a122 (upd_at ne_a48_a115 (upd_at ne_a48_a108 (upd_at ne_a48_a101 (upd_at ne_a48_a94 (upd_at ne_a48_a87 (upd_at (Ne.symm ne_a_a48) f79_a48))))))))
  have ne_a55_a136 := a136_f _ _ (upd_at ne_a55_a129 (upd_at ne_a55_a122 (upd_at ne_a55_a115 (upd_at ne_a55_a108 (upd_at ne_a55_a101 (upd_at ne_a55_a94 (upd_at ne_a55_a87 (upd_at (Ne.symm ne_a_a55) f79_a55))))))))
  have ne_a62_a136 := a136_f _ _ (upd_at ne_a62_a129 (upd_at ne_a62_a122 (upd_at ne_a62_a115 (upd_at ne_a62_a108 (upd_at ne_a62_a101 (upd_at ne_a62_a94 (upd_at ne_a62_a87 (upd_at (Ne.symm ne_a_a62) f79_a62))))))))
  have ne_a69_a136 := a136_f _ _ (upd_at ne_a69_a129 (upd_at ne_a69_a122 (upd_at ne_a69_a115 (upd_at ne_a69_a108 (upd_at ne_a69_a101 (upd_at ne_a69_a94 (upd_at ne_a69_a87 (upd_at (Ne.symm ne_a_a69) f79_a69))))))))
  refine Own.putfield C d1_138 (q := 141) rfl (host := "") (Or.inl (hw _ (List.mem_of_getElem? (i := 63) rfl))) Via.refl (Or.inl (hw _ (List.mem_of_getElem? (i := 64) rfl))) (hw _ (List.mem_of_getElem? (i := 1) rfl)) (ty := (.array .int)) (by decide) rfl rfl (upd_at ne_a_a136 (upd_at ne_a_a129 (upd_at ne_a_a122 (upd_at ne_a_a115 (upd_at ne_a_a108 (upd_at ne_a_a101 (upd_at ne_a_a94 (upd_at ne_a_a87 upd_same)))))))) (j := 18) rfl (fs' := [(("com/example/parcours/parcours/search/Workspace$MatchingRoom", "memberOf", "[I"), (.ref a6)), (("com/example/parcours/parcours/search/Workspace$MatchingRoom", "members", "[I"), (.ref a13)), (("com/example/parcours/parcours/search/Workspace$MatchingRoom", "sizeCounts", "[I"), (.ref a20)), (("com/example/parcours/parcours/search/Workspace$MatchingRoom", "taken", "[I"), (.ref a27)), (("com/example/parcours/parcours/search/Workspace$MatchingRoom", "matchedTo", "[I"), (.ref a34)), (("com/example/parcours/parcours/search/Workspace$MatchingRoom", "owners", "[I"), (.ref a41)), (("com/example/parcours/parcours/search/Workspace$MatchingRoom", "heldStarts", "[I"), (.ref a48)), (("com/example/parcours/parcours/search/Workspace$MatchingRoom", "valuesHeld", "[I"), (.ref a55)), (("com/example/parcours/parcours/search/Workspace$MatchingRoom", "holderStarts", "[I"), (.ref a62)), (("com/example/parcours/parcours/search/Workspace$MatchingRoom", "holders", "[I"), (.ref a69)), (("com/example/parcours/parcours/search/Workspace$MatchingRoom", "values", "Lcom/example/parcours/parcours/search/ValueNumbers;"), (.ref a75)), (("com/example/parcours/parcours/search/Workspace$MatchingRoom", "seen", "[I"), (.ref a87)), (("com/example/parcours/parcours/search/Workspace$MatchingRoom", "path", "[I"), (.ref a94)), (("com/example/parcours/parcours/search/Workspace$MatchingRoom", "next", "[I"), (.ref a101)), (("com/example/parcours/parcours/search/Workspace$MatchingRoom", "index", "[I"), (.ref a108)), (("com/example/parcours/parcours/search/Workspace$MatchingRoom", "low", "[I"), (.ref a115)), (("com/example/parcours/parcours/search/Workspace$MatchingRoom", "open", "[I"), (.ref a122)), (("com/example/parcours/parcours/search/Workspace$MatchingRoom", "onStack", "[Z"), (.ref a129)), (("com/example/parcours/parcours/search/Workspace$MatchingRoom", "component", "[I"), (.ref a136)), (("com/example/parcours/parcours/search/Workspace$MatchingRoom", "reached", "[Z"), .null)]) rfl ga (mem (upd_in (upd_in (upd_in (upd_in (upd_in (upd_in (upd_in (upd_in upd_upd (Ne.symm ne_a_a87)) (Ne.symm ne_a_a94)) (Ne.symm ne_a_a101)) (Ne.symm ne_a_a108)) (Ne.symm ne_a_a115)) (Ne.symm ne_a_a122)) (Ne.symm ne_a_a129)) (Ne.symm ne_a_a136)) ?_)
  refine Own.aloadN C d1_141 (q := 142) rfl rfl rfl ?_
  refine Own.iconst C d1_142 (q := 143) rfl (z := 0) (by decide) ?_
  refine Own.newArr C d1_143 (q := 145) rfl (ty := .boolean) rfl (hw _ (List.mem_of_getElem? (i := 60) rfl)) (by decide) (cap := 0) (by decide) (by decide) (vs := []) rfl (by decide) (by decide) fun a143 a143_f a143_g => ?_
  have ne_a_a143 := a143_f _ _ (upd_at ne_a_a136 (upd_at ne_a_a129 (upd_at ne_a_a122 (upd_at ne_a_a115 (upd_at ne_a_a108 (upd_at ne_a_a101 (upd_at ne_a_a94 (upd_at ne_a_a87 upd_same))))))))
  have ne_a87_a143 := a143_f _ _ (upd_at ne_a87_a136 (upd_at ne_a87_a129 (upd_at ne_a87_a122 (upd_at ne_a87_a115 (upd_at ne_a87_a108 (upd_at ne_a87_a101 (upd_at ne_a87_a94 upd_same)))))))
  have ne_a94_a143 := a143_f _ _ (upd_at ne_a94_a136 (upd_at ne_a94_a129 (upd_at ne_a94_a122 (upd_at ne_a94_a115 (upd_at ne_a94_a108 (upd_at ne_a94_a101 upd_same))))))
  have ne_a101_a143 := a143_f _ _ (upd_at ne_a101_a136 (upd_at ne_a101_a129 (upd_at ne_a101_a122 (upd_at ne_a101_a115 (upd_at ne_a101_a108 upd_same)))))
  have ne_a108_a143 := a143_f _ _ (upd_at ne_a108_a136 (upd_at ne_a108_a129 (upd_at ne_a108_a122 (upd_at ne_a108_a115 upd_same))))
  have ne_a115_a143 := a143_f _ _ (upd_at ne_a115_a136 (upd_at ne_a115_a129 (upd_at ne_a115_a122 upd_same)))
  have ne_a122_a143 := a143_f _ _ (upd_at ne_a122_a136 (upd_at ne_a122_a129 upd_same))
  have ne_a129_a143 := a143_f _ _ (upd_at ne_a129_a136 upd_same)
  have ne_a136_a143 := a143_f _ _ upd_same
  have ne_a6_a143 := a143_f _ _ (upd_at ne_a6_a136 (upd_at ne_a6_a129 (upd_at ne_a6_a122 (upd_at ne_a6_a115 (upd_at ne_a6_a108 (upd_at ne_a6_a101 (upd_at ne_a6_a94 (upd_at ne_a6_a87 (upd_at (Ne.symm ne_a_a6) f79_a6)))))))))
  have ne_a13_a143 := a143_f _ _ (upd_at ne_a13_a136 (upd_at ne_a13_a129 (upd_at ne_a13_a122 (upd_at ne_a13_a115 (upd_at ne_a13_a108 (upd_at ne_a13_a101 (upd_at ne_a13_a94 (upd_at ne_a13_a87 (upd_at (Ne.symm ne_a_a13) f79_a13)))))))))
  have ne_a20_a143 := a143_f _ _ (upd_at ne_a20_a136 (upd_at ne_a20_a129 (upd_at ne_a20_a122 (upd_at ne_a20_a115 (upd_at ne_a20_a108 (upd_at ne_a20_a101 (upd_at ne_a20_a94 (upd_at ne_a20_a87 (upd_at (Ne.symm ne_a_a20) f79_a20)))))))))
  have ne_a27_a143 := a143_f _ _ (upd_at ne_a27_a136 (upd_at ne_a27_a129 (upd_at ne_a27_a122 (upd_at ne_a27_a115 (upd_at ne_a27_a108 (upd_at ne_a27_a101 (upd_at ne_a27_a94 (upd_at ne_a27_a87 (upd_at (Ne.symm ne_a_a27) f79_a27)))))))))
  have ne_a34_a143 := a143_f _ _ (upd_at ne_a34_a136 (upd_at ne_a34_a129 (upd_at ne_a34_a122 (upd_at ne_a34_a115 (upd_at ne_a34_a108 (upd_at ne_a34_a101 (upd_at ne_a34_a94 (upd_at ne_a34_a87 (upd_at (Ne.symm ne_a_a34) f79_a34)))))))))
  have ne_a41_a143 := a143_f _ _ (upd_at ne_a41_a136 (upd_at ne_a41_a129 (upd_at ne_a41_a122 (upd_at ne_a41_a115 (upd_at ne_a41_a108 (upd_at ne_a41_a101 (upd_at ne_a41_a94 (upd_at ne_a41_a87 (upd_at (Ne.symm ne_a_a41) f79_a41)))))))))
  have ne_a48_a143 := a143_f _ _ (upd_at ne_a48_a136 (upd_at ne_a48_a129 (upd_at ne_a48_a122 (upd_at ne_a48_a115 (upd_at ne_a48_a108 (upd_at ne_a48_a101 (upd_at ne_a48_a94 (upd_at ne_a48_a87 (upd_at (Ne.symm ne_a_a48) f79_a48)))))))))
  have ne_a55_a143 := a143_f _ _ (upd_at ne_a55_a136 (upd_at ne_a55_a129 (upd_at ne_a55_a122 (upd_at ne_a55_a115 (upd_at ne_a55_a108 (upd_at ne_a55_a101 (upd_at ne_a55_a94 (upd_at ne_a55_a87 (upd_at (Ne.symm ne_a_a55) f79_a55)))))))))
  have ne_a62_a143 := a143_f _ _ (upd_at ne_a62_a136 (upd_at ne_a62_a129 (upd_at ne_a62_a122 (upd_at ne_a62_a115 (upd_at ne_a62_a108 (upd_at ne_a62_a101 (upd_at ne_a62_a94 (upd_at ne_a62_a87 (upd_at (Ne.symm ne_a_a62) f79_a62)))))))))
  have ne_a69_a143 := a143_f _ _ (upd_at ne_a69_a136 (upd_at ne_a69_a129 (upd_at ne_a69_a122 (upd_at ne_a69_a115 (upd_at ne_a69_a108 (upd_at ne_a69_a101 (upd_at ne_a69_a94 (upd_at ne_a69_a87 (upd_at (Ne.symm ne_a_a69) f79_a69)))))))))
  refine Own.putfield C d1_145 (q := 148) rfl (host := "") (Or.inl (hw _ (List.mem_of_getElem? (i := 65) rfl))) Via.refl (Or.inl (hw _ (List.mem_of_getElem? (i := 66) rfl))) (hw _ (List.mem_of_getElem? (i := 1) rfl)) (ty := (.array .boolean)) (by decide) rfl rfl (upd_at ne_a_a143 (upd_at ne_a_a136 (upd_at ne_a_a129 (upd_at ne_a_a122 (upd_at ne_a_a115 (upd_at ne_a_a108 (upd_at ne_a_a101 (upd_at ne_a_a94 (upd_at ne_a_a87 upd_same))))))))) (j := 19) rfl (fs' := [(("com/example/parcours/parcours/search/Workspace$MatchingRoom", "memberOf", "[I"), (.ref a6)), (("com/example/parcours/parcours/search/Workspace$MatchingRoom", "members", "[I"), (.ref a13)), (("com/example/parcours/parcours/search/Workspace$MatchingRoom", "sizeCounts", "[I"), (.ref a20)), (("com/example/parcours/parcours/search/Workspace$MatchingRoom", "taken", "[I"), (.ref a27)), (("com/example/parcours/parcours/search/Workspace$MatchingRoom", "matchedTo", "[I"), (.ref a34)), (("com/example/parcours/parcours/search/Workspace$MatchingRoom", "owners", "[I"), (.ref a41)), (("com/example/parcours/parcours/search/Workspace$MatchingRoom", "heldStarts", "[I"), (.ref a48)), (("com/example/parcours/parcours/search/Workspace$MatchingRoom", "valuesHeld", "[I"), (.ref a55)), (("com/example/parcours/parcours/search/Workspace$MatchingRoom", "holderStarts", "[I"), (.ref a62)), (("com/example/parcours/parcours/search/Workspace$MatchingRoom", "holders", "[I"), (.ref a69)), (("com/example/parcours/parcours/search/Workspace$MatchingRoom", "values", "Lcom/example/parcours/parcours/search/ValueNumbers;"), (.ref a75)), (("com/example/parcours/parcours/search/Workspace$MatchingRoom", "seen", "[I"), (.ref a87)), (("com/example/parcours/parcours/search/Workspace$MatchingRoom", "path", "[I"), (.ref a94)), (("com/example/parcours/parcours/search/Workspace$MatchingRoom", "next", "[I"), (.ref a101)), (("com/example/parcours/parcours/search/Workspace$MatchingRoom", "index", "[I"), (.ref a108)), (("com/example/parcours/parcours/search/Workspace$MatchingRoom", "low", "[I"), (.ref a115)), (("com/example/parcours/parcours/search/Workspace$MatchingRoom", "open", "[I"), (.ref a122)), (("com/example/parcours/parcours/search/Workspace$MatchingRoom", "onStack", "[Z"), (.ref a129)), (("com/example/parcours/parcours/search/Workspace$MatchingRoom", "component", "[I"), (.ref a136)), (("com/example/parcours/parcours/search/Workspace$MatchingRoom", "reached", "[Z"), (.ref a143))]) rfl ga (mem (upd_in (upd_in (upd_in (upd_in (upd_in (upd_in (upd_in (upd_in (upd_in upd_upd (Ne.symm ne_a_a87)) (Ne.symm ne_a_a94)) (Ne.symm ne_a_a101)) (Ne.symm ne_a_a108)) (Ne.symm ne_a_a115)) (Ne.symm ne_a_a122)) (Ne.symm ne_a_a129)) (Ne.symm ne_a_a136)) (Ne.symm ne_a_a143)) ?_)
  refine Own.vreturn C d1_148 (by decide) (by decide) ?_
  exact ⟨rfl, a6, a13, a20, a27, a34, a48, a41, a62, a55, a69, a108, a87, (.ref a75), (.ref a94), (.ref a101), (.ref a115), (.ref a122), (.ref a129), (.ref a136), (.ref a143), (upd_at ne_a_a143 (upd_at ne_a_a136 (upd_at ne_a_a129 (upd_at ne_a_a122 (upd_at ne_a_a115 (upd_at ne_a_a108 (upd_at ne_a_a101 (upd_at ne_a_a94 (upd_at ne_a_a87 upd_same))))))))), a6_g, a13_g, a20_g, a27_g, a34_g, a48_g, a41_g, a62_g, a55_g, a69_g, a108_g, a87_g, (upd_at ne_a6_a143 (upd_at ne_a6_a136 (upd_at ne_a6_a129 (upd_at ne_a6_a122 (upd_at ne_a6_a115 (upd_at ne_a6_a108 (upd_at ne_a6_a101 (upd_at ne_a6_a94 (upd_at ne_a6_a87 (upd_at (Ne.symm ne_a_a6) f79_a6)))))))))), (upd_at ne_a13_a143 (upd_at ne_a13_a136 (upd_at ne_a13_a129 (upd_at ne_a13_a122 (upd_at ne_a13_a115 (upd_at ne_a13_a108 (upd_at ne_a13_a101 (upd_at ne_a13_a94 (upd_at ne_a13_a87 (upd_at (Ne.symm ne_a_a13) f79_a13)))))))))), (upd_at ne_a20_a143 (upd_at ne_a20_a136 (upd_at ne_a20_a129 (upd_at ne_a20_a122 (upd_at ne_a20_a115 (upd_at ne_a20_a108 (upd_at ne_a20_a101 (upd_at ne_a20_a94 (upd_at ne_a20_a87 (upd_at (Ne.symm ne_a_a20) f79_a20)))))))))), (upd_at ne_a27_a143 (upd_at ne_a27_a136 (upd_at ne_a27_a129 (upd_at ne_a27_a122 (upd_at ne_a27_a115 (upd_at ne_a27_a108 (upd_at ne_a27_a101 (upd_at ne_a27_a94 (upd_at ne_a27_a87 (upd_at (Ne.symm ne_a_a27) f79_a27)))))))))), (upd_at ne_a34_a143 (upd_at ne_a34_a136 (upd_at ne_a34_a129 (upd_at ne_a34_a122 (upd_at ne_a34_a115 (upd_at ne_a34_a108 (upd_at ne_a34_a101 (upd_at ne_a34_a94 (upd_at ne_a34_a87 (upd_at (Ne.symm ne_a_a34) f79_a34)))))))))), (upd_at ne_a48_a143 (upd_at ne_a48_a136 (upd_at ne_a48_a129 (upd_at ne_a48_a122 (upd_at ne_a48_a115 (upd_at ne_a48_a108 (upd_at ne_a48_a101 (upd_at ne_a48_a94 (upd_at ne_a48_a87 (upd_at (Ne.symm ne_a_a48) f79_a48)))))))))), (upd_at ne_a41_a143 (upd_at ne_a41_a136 (upd_at ne_a41_a129 (upd_at ne_a41_a122 (upd_at ne_a41_a115 (upd_at ne_a41_a108 (upd_at ne_a41_a101 (upd_at ne_a41_a94 (upd_at ne_a41_a87 (upd_at (Ne.symm ne_a_a41) f79_a41)))))))))), (upd_at ne_a62_a143 (upd_at ne_a62_a136 (upd_at ne_a62_a129 (upd_at ne_a62_a122 (upd_at ne_a62_a115 (upd_at ne_a62_a108 (upd_at ne_a62_a101 (upd_at ne_a62_a94 (upd_at ne_a62_a87 (upd_at (Ne.symm ne_a_a62) f79_a62)))))))))), (upd_at ne_a55_a143 (upd_at ne_a55_a136 (upd_at ne_a55_a129 (upd_at ne_a55_a122 (upd_at ne_a55_a115 (upd_at ne_a55_a108 (upd_at ne_a55_a101 (upd_at ne_a55_a94 (upd_at ne_a55_a87 (upd_at (Ne.symm ne_a_a55) f79_a55)))))))))), (upd_at ne_a69_a143 (upd_at ne_a69_a136 (upd_at ne_a69_a129 (upd_at ne_a69_a122 (upd_at ne_a69_a115 (upd_at ne_a69_a108 (upd_at ne_a69_a101 (upd_at ne_a69_a94 (upd_at ne_a69_a87 (upd_at (Ne.symm ne_a_a69) f79_a69)))))))))), (upd_at ne_a108_a143 (upd_at ne_a108_a136 (upd_at ne_a108_a129 (upd_at ne_a108_a122 (upd_at ne_a108_a115 upd_same))))), (upd_at ne_a87_a143 (upd_at ne_a87_a136 (upd_at ne_a87_a129 (upd_at ne_a87_a122 (upd_at ne_a87_a115 (upd_at ne_a87_a108 (upd_at ne_a87_a101 (upd_at ne_a87_a94 upd_same))))))))⟩
theorem x1 {x z : Int32} (hx : 0 ≤ x.toInt ∧ x.toInt ≤ 255) (hz : z = x + 1) : ¬ z < 0 ∧ z.toNatClampNeg = x.toNatClampNeg + 1 ∧ z.toNatClampNeg ≤ 256 := by
  have o := c_iadd x 1; rw [← hz] at o; have q := rng32 z; simp only [show (1 : Int32).toInt = 1 from rfl] at o
  refine ⟨by rw [Int32.lt_iff_toInt_lt, show (0 : Int32).toInt = 0 from rfl]; omega, ?_, ?_⟩ <;> simp only [Int32.toNatClampNeg] <;> omega
theorem x0 {x : Int32} (hx : 0 ≤ x.toInt ∧ x.toInt ≤ 255) : ¬ x < 0 ∧ x.toNatClampNeg ≤ 256 := by
  refine ⟨by rw [Int32.lt_iff_toInt_lt, show (0 : Int32).toInt = 0 from rfl]; omega, ?_⟩
  simp only [Int32.toNatClampNeg]; omega
abbrev rm_4 : Room := { frames := 0, cells := 6, slots := 1536, locals := 0 }
theorem d4_0 : decode prog_72_method_2_code 0 = .ok (.aload_n 0, 1) := by decide +kernel
theorem d4_1 : decode prog_72_method_2_code 1 = .ok (.getfield 16, 3) := by decide +kernel
theorem d4_4 : decode prog_72_method_2_code 4 = .ok (.arraylength, 1) := by decide +kernel
theorem d4_5 : decode prog_72_method_2_code 5 = .ok (.iload_n 1, 1) := by decide +kernel
theorem d4_6 : decode prog_72_method_2_code 6 = .ok (.if_icmp .le 4, 3) := by decide +kernel
theorem d4_10 : decode prog_72_method_2_code 10 = .ok (.aload_n 0, 1) := by decide +kernel
theorem d4_11 : decode prog_72_method_2_code 11 = .ok (.iload_n 1, 1) := by decide +kernel
theorem d4_12 : decode prog_72_method_2_code 12 = .ok (.newarray .int, 2) := by decide +kernel
theorem d4_14 : decode prog_72_method_2_code 14 = .ok (.putfield 7, 3) := by decide +kernel
theorem d4_17 : decode prog_72_method_2_code 17 = .ok (.aload_n 0, 1) := by decide +kernel
theorem d4_18 : decode prog_72_method_2_code 18 = .ok (.iload_n 1, 1) := by decide +kernel
theorem d4_19 : decode prog_72_method_2_code 19 = .ok (.newarray .int, 2) := by decide +kernel
theorem d4_21 : decode prog_72_method_2_code 21 = .ok (.putfield 13, 3) := by decide +kernel
theorem d4_24 : decode prog_72_method_2_code 24 = .ok (.aload_n 0, 1) := by decide +kernel
theorem d4_25 : decode prog_72_method_2_code 25 = .ok (.iload_n 1, 1) := by decide +kernel
theorem d4_26 : decode prog_72_method_2_code 26 = .ok (.iconst 1, 1) := by decide +kernel
theorem d4_27 : decode prog_72_method_2_code 27 = .ok (.iadd, 1) := by decide +kernel
theorem d4_28 : decode prog_72_method_2_code 28 = .ok (.newarray .int, 2) := by decide +kernel
theorem d4_30 : decode prog_72_method_2_code 30 = .ok (.putfield 16, 3) := by decide +kernel
theorem d4_33 : decode prog_72_method_2_code 33 = .ok (.aload_n 0, 1) := by decide +kernel
theorem d4_34 : decode prog_72_method_2_code 34 = .ok (.iload_n 1, 1) := by decide +kernel
theorem d4_35 : decode prog_72_method_2_code 35 = .ok (.newarray .int, 2) := by decide +kernel
theorem d4_37 : decode prog_72_method_2_code 37 = .ok (.putfield 19, 3) := by decide +kernel
theorem d4_40 : decode prog_72_method_2_code 40 = .ok (.aload_n 0, 1) := by decide +kernel
theorem d4_41 : decode prog_72_method_2_code 41 = .ok (.iload_n 1, 1) := by decide +kernel
theorem d4_42 : decode prog_72_method_2_code 42 = .ok (.newarray .int, 2) := by decide +kernel
theorem d4_44 : decode prog_72_method_2_code 44 = .ok (.putfield 22, 3) := by decide +kernel
theorem d4_47 : decode prog_72_method_2_code 47 = .ok (.aload_n 0, 1) := by decide +kernel
theorem d4_48 : decode prog_72_method_2_code 48 = .ok (.iload_n 1, 1) := by decide +kernel
theorem d4_49 : decode prog_72_method_2_code 49 = .ok (.iconst 1, 1) := by decide +kernel
theorem d4_50 : decode prog_72_method_2_code 50 = .ok (.iadd, 1) := by decide +kernel
theorem d4_51 : decode prog_72_method_2_code 51 = .ok (.newarray .int, 2) := by decide +kernel
theorem d4_53 : decode prog_72_method_2_code 53 = .ok (.putfield 28, 3) := by decide +kernel
theorem d4_56 : decode prog_72_method_2_code 56 = .ok (.return_, 1) := by decide +kernel
set_option maxRecDepth 65536 in
set_option maxHeartbeats 40000000 in
theorem c_hold (l : Launch) (Z : State) (a0 : Array Value) (hw : ∀ d ∈ tables_1, d.before a0 Z = true) (n0 : Nat) (μ : Mem) (a : Addr) (x : Int32) (v_memberOf v_members v_taken v_matchedTo v_owners v_heldStarts v_valuesHeld v_holderStarts v_holders v_values v_seen v_path v_next v_index v_low v_open v_onStack v_component v_reached : Value) (sc : Addr) (vs : List Value) (hμ : μ a = some (o_MR v_memberOf v_members (.ref sc) v_taken v_matchedTo v_owners v_heldStarts v_valuesHeld v_holderStarts v_holders v_values v_seen v_path v_next v_index v_low v_open v_onStack v_component v_reached)) (hsc : μ sc = some (.inr (.int, vs))) (ga : n0 ≤ a) (hx : 0 ≤ x.toInt ∧ x.toInt ≤ 255) (hl : (vs.length : Int) ≤ x.toInt) :
    Con l Z n0 (⟨"com/example/parcours/parcours/search/Workspace$MatchingRoom", "holdPlaces", "(I)V"⟩ : MethodName) prog_72_method_2_code 2 none [] rm_4 rm_4.cells rm_4.slots #[(.ref a), (.int x)] μ (RV fun μ' => ∃ (r_memberOf r_members r_sizeCounts r_taken r_matchedTo r_heldStarts : Addr), μ' a = some (o_MR (.ref r_memberOf) (.ref r_members) (.ref r_sizeCounts) (.ref r_taken) (.ref r_matchedTo) v_owners (.ref r_heldStarts) v_valuesHeld v_holderStarts v_holders v_values v_seen v_path v_next v_index v_low v_open v_onStack v_component v_reached) ∧ n0 ≤ r_memberOf ∧ n0 ≤ r_members ∧ n0 ≤ r_sizeCounts ∧ n0 ≤ r_taken ∧ n0 ≤ r_matchedTo ∧ n0 ≤ r_heldStarts ∧ μ' r_memberOf = some (.inr (.int, (List.replicate x.toNatClampNeg (Value.int 0)))) ∧ μ' r_members = some (.inr (.int, (List.replicate x.toNatClampNeg (Value.int 0)))) ∧ μ' r_sizeCounts = some (.inr (.int, (List.replicate (x.toNatClampNeg + 1) (Value.int 0)))) ∧ μ' r_taken = some (.inr (.int, (List.replicate x.toNatClampNeg (Value.int 0)))) ∧ μ' r_matchedTo = some (.inr (.int, (List.replicate x.toNatClampNeg (Value.int 0)))) ∧ μ' r_heldStarts = some (.inr (.int, (List.replicate (x.toNatClampNeg + 1) (Value.int 0)))) ∧ (∀ b o, μ b = some o → b ≠ a → μ' b = some o)) := by
  refine Con.intro (L0 := #[.val (.ref a), .val (.int x)]) (plainFor_of_name (by first | (simp [plainName, overriddenIn]; done) | decide +kernel)) (fun m => by first | (simp [entryFrame, mkF, argsToLocals, Value.category]; done) | rfl) ?_
  intro p e s m below meth c C
  have C : Ctx p s m meth c Z "com/example/parcours/parcours/search/Workspace$MatchingRoom" "holdPlaces" prog_72_method_2_code 2 none := C
  refine Own.aloadN C d4_0 (q := 1) rfl rfl rfl ?_
  refine Own.getfield C d4_1 (q := 4) rfl (host := "") (Or.inl (hw _ (List.mem_of_getElem? (i := 14) rfl))) Via.refl hμ (j := 2) rfl ?_
  refine Own.arraylength C d4_4 (q := 5) rfl hsc fun z4 e4 e4i => ?_
  refine Own.iloadN C d4_5 (q := 6) rfl rfl ?_
  refine Own.icmp_le C d4_6 (q := 9) rfl (r := 10) (by decide) (fun h6 => ?_) (fun h6 => ?_)
  · refine Own.aloadN C d4_10 (q := 11) rfl rfl rfl ?_
    refine Own.iloadN C d4_11 (q := 12) rfl rfl ?_
    refine Own.newArr C d4_12 (q := 14) rfl (ty := .int) rfl (hw _ (List.mem_of_getElem? (i := 9) rfl)) (x0 hx).1 (cap := 256) (x0 hx).2 (by decide) (vs := (List.replicate x.toNatClampNeg (Value.int 0))) rfl (by decide) (by decide) fun a12 a12_f a12_g => ?_
    have ne_a_a12 := a12_f _ _ hμ
    have ne_sc_a12 := a12_f _ _ hsc
    refine Own.putfield C d4_14 (q := 17) rfl (host := "") (Or.inl (hw _ (List.mem_of_getElem? (i := 10) rfl))) Via.refl (Or.inl (hw _ (List.mem_of_getElem? (i := 11) rfl))) (hw _ (List.mem_of_getElem? (i := 1) rfl)) (ty := (.array .int)) (by decide) rfl rfl (upd_at ne_a_a12 hμ) (j := 0) rfl (fs' := [(("com/example/parcours/parcours/search/Workspace$MatchingRoom", "memberOf", "[I"), (.ref a12)), (("com/example/parcours/parcours/search/Workspace$MatchingRoom", "members", "[I"), v_members), (("com/example/parcours/parcours/search/Workspace$MatchingRoom", "sizeCounts", "[I"), (.ref sc)), (("com/example/parcours/parcours/search/Workspace$MatchingRoom", "taken", "[I"), v_taken), (("com/example/parcours/parcours/search/Workspace$MatchingRoom", "matchedTo", "[I"), v_matchedTo), (("com/example/parcours/parcours/search/Workspace$MatchingRoom", "owners", "[I"), v_owners), (("com/example/parcours/parcours/search/Workspace$MatchingRoom", "heldStarts", "[I"), v_heldStarts), (("com/example/parcours/parcours/search/Workspace$MatchingRoom", "valuesHeld", "[I"), v_valuesHeld), (("com/example/parcours/parcours/search/Workspace$MatchingRoom", "holderStarts", "[I"), v_holderStarts), (("com/example/parcours/parcours/search/Workspace$MatchingRoom", "holders", "[I"), v_holders), (("com/example/parcours/parcours/search/Workspace$MatchingRoom", "values", "Lcom/example/parcours/parcours/search/ValueNumbers;"), v_values), (("com/example/parcours/parcours/search/Workspace$MatchingRoom", "seen", "[I"), v_seen), (("com/example/parcours/parcours/search/Workspace$MatchingRoom", "path", "[I"), v_path), (("com/example/parcours/parcours/search/Workspace$MatchingRoom", "next", "[I"), v_next), (("com/example/parcours/parcours/search/Workspace$MatchingRoom", "index", "[I"), v_index), (("com/example/parcours/parcours/search/Workspace$MatchingRoom", "low", "[I"), v_low), (("com/example/parcours/parcours/search/Workspace$MatchingRoom", "open", "[I"), v_open), (("com/example/parcours/parcours/search/Workspace$MatchingRoom", "onStack", "[Z"), v_onStack), (("com/example/parcours/parcours/search/Workspace$MatchingRoom", "component", "[I"), v_component), (("com/example/parcours/parcours/search/Workspace$MatchingRoom", "reached", "[Z"), v_reached)]) rfl ga (mem rfl ?_)
    refine Own.aloadN C d4_17 (q := 18) rfl rfl rfl ?_
    refine Own.iloadN C d4_18 (q := 19) rfl rfl ?_
    refine Own.newArr C d4_19 (q := 21) rfl (ty := .int) rfl (hw _ (List.mem_of_getElem? (i := 9) rfl)) (x0 hx).1 (cap := 256) (x0 hx).2 (by decide) (vs := (List.replicate x.toNatClampNeg (Value.int 0))) rfl (by decide) (by decide) fun a19 a19_f a19_g => ?_
    have ne_a12_a19 := a19_f _ _ (upd_at (Ne.symm ne_a_a12) upd_same)
    have ne_a_a19 := a19_f _ _ upd_same
    have ne_sc_a19 := a19_f _ _ (upd_at (ne_ra hsc hμ) (upd_at ne_sc_a12 hsc))
    refine Own.putfield C d4_21 (q := 24) rfl (host := "") (Or.inl (hw _ (List.mem_of_getElem? (i := 12) rfl))) Via.refl (Or.inl (hw _ (List.mem_of_getElem? (i := 13) rfl))) (hw _ (List.mem_of_getElem? (i := 1) rfl)) (ty := (.array .int)) (by decide) rfl rfl (upd_at ne_a_a19 upd_same) (j := 1) rfl (fs' := [(("com/example/parcours/parcours/search/Workspace$MatchingRoom", "memberOf", "[I"), (.ref a12)), (("com/example/parcours/parcours/search/Workspace$MatchingRoom", "members", "[I"), (.ref a19)), (("com/example/parcours/parcours/search/Workspace$MatchingRoom", "sizeCounts", "[I"), (.ref sc)), (("com/example/parcours/parcours/search/Workspace$MatchingRoom", "taken", "[I"), v_taken), (("com/example/parcours/parcours/search/Workspace$MatchingRoom", "matchedTo", "[I"), v_matchedTo), (("com/example/parcours/parcours/search/Workspace$MatchingRoom", "owners", "[I"), v_owners), (("com/example/parcours/parcours/search/Workspace$MatchingRoom", "heldStarts", "[I"), v_heldStarts), (("com/example/parcours/parcours/search/Workspace$MatchingRoom", "valuesHeld", "[I"), v_valuesHeld), (("com/example/parcours/parcours/search/Workspace$MatchingRoom", "holderStarts", "[I"), v_holderStarts), (("com/example/parcours/parcours/search/Workspace$MatchingRoom", "holders", "[I"), v_holders), (("com/example/parcours/parcours/search/Workspace$MatchingRoom", "values", "Lcom/example/parcours/parcours/search/ValueNumbers;"), v_values), (("com/example/parcours/parcours/search/Workspace$MatchingRoom", "seen", "[I"), v_seen), (("com/example/parcours/parcours/search/Workspace$MatchingRoom", "path", "[I"), v_path), (("com/example/parcours/parcours/search/Workspace$MatchingRoom", "next", "[I"), v_next), (("com/example/parcours/parcours/search/Workspace$MatchingRoom", "index", "[I"), v_index), (("com/example/parcours/parcours/search/Workspace$MatchingRoom", "low", "[I"), v_low), (("com/example/parcours/parcours/search/Workspace$MatchingRoom", "open", "[I"), v_open), (("com/example/parcours/parcours/search/Workspace$MatchingRoom", "onStack", "[Z"), v_onStack), (("com/example/parcours/parcours/search/Workspace$MatchingRoom", "component", "[I"), v_component), (("com/example/parcours/parcours/search/Workspace$MatchingRoom", "reached", "[Z"), v_reached)]) rfl ga (mem (upd_in upd_upd (Ne.symm ne_a_a19)) ?_)
    refine Own.aloadN C d4_24 (q := 25) rfl rfl rfl ?_
    refine Own.iloadN C d4_25 (q := 26) rfl rfl ?_
    refine Own.iconst C d4_26 (q := 27) rfl (z := 1) (by decide) ?_
    refine Own.iadd C d4_27 (q := 28) rfl fun z27 e27 => ?_
    refine Own.newArr C d4_28 (q := 30) rfl (ty := .int) rfl (hw _ (List.mem_of_getElem? (i := 9) rfl)) (x1 hx e27).1 (cap := 256) (x1 hx e27).2.2 (by decide) (vs := (List.replicate (x.toNatClampNeg + 1) (Value.int 0))) (by rw [(x1 hx e27).2.1]; rfl) (by decide) (by decide) fun a28 a28_f a28_g => ?_
    have ne_a12_a28 := a28_f _ _ (upd_at ne_a12_a19 (upd_at (Ne.symm ne_a_a12) upd_same))
    have ne_a_a28 := a28_f _ _ (upd_at ne_a_a19 upd_same)
    have ne_a19_a28 := a28_f _ _ upd_same
    have ne_sc_a28 := a28_f _ _ (upd_at ne_sc_a19 (upd_at (ne_ra hsc hμ) (upd_at ne_sc_a12 hsc)))
    refine Own.putfield C d4_30 (q := 33) rfl (host := "") (Or.inl (hw _ (List.mem_of_getElem? (i := 14) rfl))) Via.refl (Or.inl (hw _ (List.mem_of_getElem? (i := 15) rfl))) (hw _ (List.mem_of_getElem? (i := 1) rfl)) (ty := (.array .int)) (by decide) rfl rfl (upd_at ne_a_a28 (upd_at ne_a_a19 upd_same)) (j := 2) rfl (fs' := [(("com/example/parcours/parcours/search/Workspace$MatchingRoom", "memberOf", "[I"), (.ref a12)), (("com/example/parcours/parcours/search/Workspace$MatchingRoom", "members", "[I"), (.ref a19)), (("com/example/parcours/parcours/search/Workspace$MatchingRoom", "sizeCounts", "[I"), (.ref a28)), (("com/example/parcours/parcours/search/Workspace$MatchingRoom", "taken", "[I"), v_taken), (("com/example/parcours/parcours/search/Workspace$MatchingRoom", "matchedTo", "[I"), v_matchedTo), (("com/example/parcours/parcours/search/Workspace$MatchingRoom", "owners", "[I"), v_owners), (("com/example/parcours/parcours/search/Workspace$MatchingRoom", "heldStarts", "[I"), v_heldStarts), (("com/example/parcours/parcours/search/Workspace$MatchingRoom", "valuesHeld", "[I"), v_valuesHeld), (("com/example/parcours/parcours/search/Workspace$MatchingRoom", "holderStarts", "[I"), v_holderStarts), (("com/example/parcours/parcours/search/Workspace$MatchingRoom", "holders", "[I"), v_holders), (("com/example/parcours/parcours/search/Workspace$MatchingRoom", "values", "Lcom/example/parcours/parcours/search/ValueNumbers;"), v_values), (("com/example/parcours/parcours/search/Workspace$MatchingRoom", "seen", "[I"), v_seen), (("com/example/parcours/parcours/search/Workspace$MatchingRoom", "path", "[I"), v_path), (("com/example/parcours/parcours/search/Workspace$MatchingRoom", "next", "[I"), v_next), (("com/example/parcours/parcours/search/Workspace$MatchingRoom", "index", "[I"), v_index), (("com/example/parcours/parcours/search/Workspace$MatchingRoom", "low", "[I"), v_low), (("com/example/parcours/parcours/search/Workspace$MatchingRoom", "open", "[I"), v_open), (("com/example/parcours/parcours/search/Workspace$MatchingRoom", "onStack", "[Z"), v_onStack), (("com/example/parcours/parcours/search/Workspace$MatchingRoom", "component", "[I"), v_component), (("com/example/parcours/parcours/search/Workspace$MatchingRoom", "reached", "[Z"), v_reached)]) rfl ga (mem (upd_in (upd_in upd_upd (Ne.symm ne_a_a19)) (Ne.symm ne_a_a28)) ?_)
    refine Own.aloadN C d4_33 (q := 34) rfl rfl rfl ?_
    refine Own.iloadN C d4_34 (q := 35) rfl rfl ?_
    refine Own.newArr C d4_35 (q := 37) rfl (ty := .int) rfl (hw _ (List.mem_of_getElem? (i := 9) rfl)) (x0 hx).1 (cap := 256) (x0 hx).2 (by decide) (vs := (List.replicate x.toNatClampNeg (Value.int 0))) rfl (by decide) (by decide) fun a35 a35_f a35_g => ?_
    have ne_a12_a35 := a35_f _ _ (upd_at ne_a12_a28 (upd_at ne_a12_a19 (upd_at (Ne.symm ne_a_a12) upd_same)))
    have ne_a_a35 := a35_f _ _ (upd_at ne_a_a28 (upd_at ne_a_a19 upd_same))
    have ne_a19_a35 := a35_f _ _ (upd_at ne_a19_a28 upd_same)
    have ne_a28_a35 := a35_f _ _ upd_same
    have ne_sc_a35 := a35_f _ _ (upd_at ne_sc_a28 (upd_at ne_sc_a19 (upd_at (ne_ra hsc hμ) (upd_at ne_sc_a12 hsc))))
    refine Own.putfield C d4_37 (q := 40) rfl (host := "") (Or.inl (hw _ (List.mem_of_getElem? (i := 16) rfl))) Via.refl (Or.inl (hw _ (List.mem_of_getElem? (i := 17) rfl))) (hw _ (List.mem_of_getElem? (i := 1) rfl)) (ty := (.array .int)) (by decide) rfl rfl (upd_at ne_a_a35 (upd_at ne_a_a28 (upd_at ne_a_a19 upd_same))) (j := 3) rfl (fs' := [(("com/example/parcours/parcours/search/Workspace$MatchingRoom", "memberOf", "[I"), (.ref a12)), (("com/example/parcours/parcours/search/Workspace$MatchingRoom", "members", "[I"), (.ref a19)), (("com/example/parcours/parcours/search/Workspace$MatchingRoom", "sizeCounts", "[I"), (.ref a28)), (("com/example/parcours/parcours/search/Workspace$MatchingRoom", "taken", "[I"), (.ref a35)), (("com/example/parcours/parcours/search/Workspace$MatchingRoom", "matchedTo", "[I"), v_matchedTo), (("com/example/parcours/parcours/search/Workspace$MatchingRoom", "owners", "[I"), v_owners), (("com/example/parcours/parcours/search/Workspace$MatchingRoom", "heldStarts", "[I"), v_heldStarts), (("com/example/parcours/parcours/search/Workspace$MatchingRoom", "valuesHeld", "[I"), v_valuesHeld), (("com/example/parcours/parcours/search/Workspace$MatchingRoom", "holderStarts", "[I"), v_holderStarts), (("com/example/parcours/parcours/search/Workspace$MatchingRoom", "holders", "[I"), v_holders), (("com/example/parcours/parcours/search/Workspace$MatchingRoom", "values", "Lcom/example/parcours/parcours/search/ValueNumbers;"), v_values), (("com/example/parcours/parcours/search/Workspace$MatchingRoom", "seen", "[I"), v_seen), (("com/example/parcours/parcours/search/Workspace$MatchingRoom", "path", "[I"), v_path), (("com/example/parcours/parcours/search/Workspace$MatchingRoom", "next", "[I"), v_next), (("com/example/parcours/parcours/search/Workspace$MatchingRoom", "index", "[I"), v_index), (("com/example/parcours/parcours/search/Workspace$MatchingRoom", "low", "[I"), v_low), (("com/example/parcours/parcours/search/Workspace$MatchingRoom", "open", "[I"), v_open), (("com/example/parcours/parcours/search/Workspace$MatchingRoom", "onStack", "[Z"), v_onStack), (("com/example/parcours/parcours/search/Workspace$MatchingRoom", "component", "[I"), v_component), (("com/example/parcours/parcours/search/Workspace$MatchingRoom", "reached", "[Z"), v_reached)]) rfl ga (mem (upd_in (upd_in (upd_in upd_upd (Ne.symm ne_a_a19)) (Ne.symm ne_a_a28)) (Ne.symm ne_a_a35)) ?_)
    refine Own.aloadN C d4_40 (q := 41) rfl rfl rfl ?_
    refine Own.iloadN C d4_41 (q := 42) rfl rfl ?_
    refine Own.newArr C d4_42 (q := 44) rfl (ty := .int) rfl (hw _ (List.mem_of_getElem? (i := 9) rfl)) (x0 hx).1 (cap := 256) (x0 hx).2 (by decide) (vs := (List.replicate x.toNatClampNeg (Value.int 0))) rfl (by decide) (by decide) fun a42 a42_f a42_g => ?_
    have ne_a12_a42 := a42_f _ _ (upd_at ne_a12_a35 (upd_at ne_a12_a28 (upd_at ne_a12_a19 (upd_at (Ne.symm ne_a_a12) upd_same))))
    have ne_a_a42 := a42_f _ _ (upd_at ne_a_a35 (upd_at ne_a_a28 (upd_at ne_a_a19 upd_same)))
    have ne_a19_a42 := a42_f _ _ (upd_at ne_a19_a35 (upd_at ne_a19_a28 upd_same))
    have ne_a28_a42 := a42_f _ _ (upd_at ne_a28_a35 upd_same)
    have ne_a35_a42 := a42_f _ _ upd_same
    have ne_sc_a42 := a42_f _ _ (upd_at ne_sc_a35 (upd_at ne_sc_a28 (upd_at ne_sc_a19 (upd_at (ne_ra hsc hμ) (upd_at ne_sc_a12 hsc)))))
    refine Own.putfield C d4_44 (q := 47) rfl (host := "") (Or.inl (hw _ (List.mem_of_getElem? (i := 18) rfl))) Via.refl (Or.inl (hw _ (List.mem_of_getElem? (i := 19) rfl))) (hw _ (List.mem_of_getElem? (i := 1) rfl)) (ty := (.array .int)) (by decide) rfl rfl (upd_at ne_a_a42 (upd_at ne_a_a35 (upd_at ne_a_a28 (upd_at ne_a_a19 upd_same)))) (j := 4) rfl (fs' := [(("com/example/parcours/parcours/search/Workspace$MatchingRoom", "memberOf", "[I"), (.ref a12)), (("com/example/parcours/parcours/search/Workspace$MatchingRoom", "members", "[I"), (.ref a19)), (("com/example/parcours/parcours/search/Workspace$MatchingRoom", "sizeCounts", "[I"), (.ref a28)), (("com/example/parcours/parcours/search/Workspace$MatchingRoom", "taken", "[I"), (.ref a35)), (("com/example/parcours/parcours/search/Workspace$MatchingRoom", "matchedTo", "[I"), (.ref a42)), (("com/example/parcours/parcours/search/Workspace$MatchingRoom", "owners", "[I"), v_owners), (("com/example/parcours/parcours/search/Workspace$MatchingRoom", "heldStarts", "[I"), v_heldStarts), (("com/example/parcours/parcours/search/Workspace$MatchingRoom", "valuesHeld", "[I"), v_valuesHeld), (("com/example/parcours/parcours/search/Workspace$MatchingRoom", "holderStarts", "[I"), v_holderStarts), (("com/example/parcours/parcours/search/Workspace$MatchingRoom", "holders", "[I"), v_holders), (("com/example/parcours/parcours/search/Workspace$MatchingRoom", "values", "Lcom/example/parcours/parcours/search/ValueNumbers;"), v_values), (("com/example/parcours/parcours/search/Workspace$MatchingRoom", "seen", "[I"), v_seen), (("com/example/parcours/parcours/search/Workspace$MatchingRoom", "path", "[I"), v_path), (("com/example/parcours/parcours/search/Workspace$MatchingRoom", "next", "[I"), v_next), (("com/example/parcours/parcours/search/Workspace$MatchingRoom", "index", "[I"), v_index), (("com/example/parcours/parcours/search/Workspace$MatchingRoom", "low", "[I"), v_low), (("com/example/parcours/parcours/search/Workspace$MatchingRoom", "open", "[I"), v_open), (("com/example/parcours/parcours/search/Workspace$MatchingRoom", "onStack", "[Z"), v_onStack), (("com/example/parcours/parcours/search/Workspace$MatchingRoom", "component", "[I"), v_component), (("com/example/parcours/parcours/search/Workspace$MatchingRoom", "reached", "[Z"), v_reached)]) rfl ga (mem (upd_in (upd_in (upd_in (upd_in upd_upd (Ne.symm ne_a_a19)) (Ne.symm ne_a_a28)) (Ne.symm ne_a_a35)) (Ne.symm ne_a_a42)) ?_)
    refine Own.aloadN C d4_47 (q := 48) rfl rfl rfl ?_
    refine Own.iloadN C d4_48 (q := 49) rfl rfl ?_
    refine Own.iconst C d4_49 (q := 50) rfl (z := 1) (by decide) ?_
    refine Own.iadd C d4_50 (q := 51) rfl fun z50 e50 => ?_
    refine Own.newArr C d4_51 (q := 53) rfl (ty := .int) rfl (hw _ (List.mem_of_getElem? (i := 9) rfl)) (x1 hx e50).1 (cap := 256) (x1 hx e50).2.2 (by decide) (vs := (List.replicate (x.toNatClampNeg + 1) (Value.int 0))) (by rw [(x1 hx e50).2.1]; rfl) (by decide) (by decide) fun a51 a51_f a51_g => ?_
    have ne_a12_a51 := a51_f _ _ (upd_at ne_a12_a42 (upd_at ne_a12_a35 (upd_at ne_a12_a28 (upd_at ne_a12_a19 (upd_at (Ne.symm ne_a_a12) upd_same)))))
    have ne_a_a51 := a51_f _ _ (upd_at ne_a_a42 (upd_at ne_a_a35 (upd_at ne_a_a28 (upd_at ne_a_a19 upd_same))))
    have ne_a19_a51 := a51_f _ _ (upd_at ne_a19_a42 (upd_at ne_a19_a35 (upd_at ne_a19_a28 upd_same)))
    have ne_a28_a51 := a51_f _ _ (upd_at ne_a28_a42 (upd_at ne_a28_a35 upd_same))
    have ne_a35_a51 := a51_f _ _ (upd_at ne_a35_a42 upd_same)
    have ne_a42_a51 := a51_f _ _ upd_same
    have ne_sc_a51 := a51_f _ _ (upd_at ne_sc_a42 (upd_at ne_sc_a35 (upd_at ne_sc_a28 (upd_at ne_sc_a19 (upd_at (ne_ra hsc hμ) (upd_at ne_sc_a12 hsc))))))
    refine Own.putfield C d4_53 (q := 56) rfl (host := "") (Or.inl (hw _ (List.mem_of_getElem? (i := 22) rfl))) Via.refl (Or.inl (hw _ (List.mem_of_getElem? (i := 23) rfl))) (hw _ (List.mem_of_getElem? (i := 1) rfl)) (ty := (.array .int)) (by decide) rfl rfl (upd_at ne_a_a51 (upd_at ne_a_a42 (upd_at ne_a_a35 (upd_at ne_a_a28 (upd_at ne_a_a19 upd_same))))) (j := 6) rfl (fs' := [(("com/example/parcours/parcours/search/Workspace$MatchingRoom", "memberOf", "[I"), (.ref a12)), (("com/example/parcours/parcours/search/Workspace$MatchingRoom", "members", "[I"), (.ref a19)), (("com/example/parcours/parcours/search/Workspace$MatchingRoom", "sizeCounts", "[I"), (.ref a28)), (("com/example/parcours/parcours/search/Workspace$MatchingRoom", "taken", "[I"), (.ref a35)), (("com/example/parcours/parcours/search/Workspace$MatchingRoom", "matchedTo", "[I"), (.ref a42)), (("com/example/parcours/parcours/search/Workspace$MatchingRoom", "owners", "[I"), v_owners), (("com/example/parcours/parcours/search/Workspace$MatchingRoom", "heldStarts", "[I"), (.ref a51)), (("com/example/parcours/parcours/search/Workspace$MatchingRoom", "valuesHeld", "[I"), v_valuesHeld), (("com/example/parcours/parcours/search/Workspace$MatchingRoom", "holderStarts", "[I"), v_holderStarts), (("com/example/parcours/parcours/search/Workspace$MatchingRoom", "holders", "[I"), v_holders), (("com/example/parcours/parcours/search/Workspace$MatchingRoom", "values", "Lcom/example/parcours/parcours/search/ValueNumbers;"), v_values), (("com/example/parcours/parcours/search/Workspace$MatchingRoom", "seen", "[I"), v_seen), (("com/example/parcours/parcours/search/Workspace$MatchingRoom", "path", "[I"), v_path), (("com/example/parcours/parcours/search/Workspace$MatchingRoom", "next", "[I"), v_next), (("com/example/parcours/parcours/search/Workspace$MatchingRoom", "index", "[I"), v_index), (("com/example/parcours/parcours/search/Workspace$MatchingRoom", "low", "[I"), v_low), (("com/example/parcours/parcours/search/Workspace$MatchingRoom", "open", "[I"), v_open), (("com/example/parcours/parcours/search/Workspace$MatchingRoom", "onStack", "[Z"), v_onStack), (("com/example/parcours/parcours/search/Workspace$MatchingRoom", "component", "[I"), v_component), (("com/example/parcours/parcours/search/Workspace$MatchingRoom", "reached", "[Z"), v_reached)]) rfl ga (mem (upd_in (upd_in (upd_in (upd_in (upd_in upd_upd (Ne.symm ne_a_a19)) (Ne.symm ne_a_a28)) (Ne.symm ne_a_a35)) (Ne.symm ne_a_a42)) (Ne.symm ne_a_a51)) ?_)
    refine Own.vreturn C d4_56 (by decide) (by decide) ?_
    refine ⟨rfl, a12, a19, a28, a35, a42, a51, (upd_at ne_a_a51 (upd_at ne_a_a42 (upd_at ne_a_a35 (upd_at ne_a_a28 (upd_at ne_a_a19 upd_same))))), a12_g, a19_g, a28_g, a35_g, a42_g, a51_g, (upd_at ne_a12_a51 (upd_at ne_a12_a42 (upd_at ne_a12_a35 (upd_at ne_a12_a28 (upd_at ne_a12_a19 (upd_at (Ne.symm ne_a_a12) upd_same)))))), (upd_at ne_a19_a51 (upd_at ne_a19_a42 (upd_at ne_a19_a35 (upd_at ne_a19_a28 upd_same)))), (upd_at ne_a28_a51 (upd_at ne_a28_a42 (upd_at ne_a28_a35 upd_same))), (upd_at ne_a35_a51 (upd_at ne_a35_a42 upd_same)), (upd_at ne_a42_a51 upd_same), upd_same, ?_⟩
    intro b o hb hba
    have n_a12 := a12_f b o hb
    have n_a19 := a19_f b o (upd_at hba (upd_at n_a12 hb))
    have n_a28 := a28_f b o (upd_at n_a19 (upd_at hba (upd_at n_a12 hb)))
    have n_a35 := a35_f b o (upd_at n_a28 (upd_at n_a19 (upd_at hba (upd_at n_a12 hb))))
    have n_a42 := a42_f b o (upd_at n_a35 (upd_at n_a28 (upd_at n_a19 (upd_at hba (upd_at n_a12 hb)))))
    have n_a51 := a51_f b o (upd_at n_a42 (upd_at n_a35 (upd_at n_a28 (upd_at n_a19 (upd_at hba (upd_at n_a12 hb))))))
    exact (upd_at n_a51 (upd_at n_a42 (upd_at n_a35 (upd_at n_a28 (upd_at n_a19 (upd_at hba (upd_at n_a12 hb)))))))
  · exfalso; rw [Int32.lt_iff_toInt_lt, e4i] at h6; omega
theorem d4_9 : decode prog_72_method_2_code 9 = .ok (.return_, 1) := by decide +kernel
set_option maxRecDepth 65536 in
set_option maxHeartbeats 4000000 in
theorem c_stay (l : Launch) (Z : State) (a0 : Array Value) (hw : ∀ d ∈ tables_1, d.before a0 Z = true) (n0 : Nat) (μ : Mem) (a : Addr) (x : Int32) (v_memberOf v_members v_taken v_matchedTo v_owners v_heldStarts v_valuesHeld v_holderStarts v_holders v_values v_seen v_path v_next v_index v_low v_open v_onStack v_component v_reached : Value) (sc : Addr) (vs : List Value) (hμ : μ a = some (o_MR v_memberOf v_members (.ref sc) v_taken v_matchedTo v_owners v_heldStarts v_valuesHeld v_holderStarts v_holders v_values v_seen v_path v_next v_index v_low v_open v_onStack v_component v_reached)) (hsc : μ sc = some (.inr (.int, vs))) (ga : n0 ≤ a) (hl : x.toInt < (vs.length : Int)) :
    Con l Z n0 (⟨"com/example/parcours/parcours/search/Workspace$MatchingRoom", "holdPlaces", "(I)V"⟩ : MethodName) prog_72_method_2_code 2 none [] rm_4 rm_4.cells rm_4.slots #[(.ref a), (.int x)] μ (RV fun μ' => μ' = μ) := by
  refine Con.intro (L0 := #[.val (.ref a), .val (.int x)]) (plainFor_of_name (by first | (simp [plainName, overriddenIn]; done) | decide +kernel)) (fun m => by first | (simp [entryFrame, mkF, argsToLocals, Value.category]; done) | rfl) ?_
  intro p e s m below meth c C
  have C : Ctx p s m meth c Z "com/example/parcours/parcours/search/Workspace$MatchingRoom" "holdPlaces" prog_72_method_2_code 2 none := C
  refine Own.aloadN C d4_0 (q := 1) rfl rfl rfl ?_
  refine Own.getfield C d4_1 (q := 4) rfl (host := "") (Or.inl (hw _ (List.mem_of_getElem? (i := 14) rfl))) Via.refl hμ (j := 2) rfl ?_
  refine Own.arraylength C d4_4 (q := 5) rfl hsc fun z4 e4 e4i => ?_
  refine Own.iloadN C d4_5 (q := 6) rfl rfl ?_
  refine Own.icmp_le C d4_6 (q := 9) rfl (r := 10) (by decide) (fun h6 => ?_) (fun h6 => ?_)
  · exfalso; rw [Int32.lt_iff_toInt_lt, e4i] at h6; omega
  · refine Own.vreturn C d4_9 (by decide) (by decide) ?_
    exact ⟨rfl, rfl⟩
abbrev rm_5 : Room := { frames := 0, cells := 0, slots := 0, locals := 0 }
theorem d5_0 : decode method_2_code 0 = .ok (.aload_n 0, 1) := by decide +kernel
theorem d5_1 : decode method_2_code 1 = .ok (.getfield 7, 3) := by decide +kernel
theorem d5_4 : decode method_2_code 4 = .ok (.arraylength, 1) := by decide +kernel
theorem d5_5 : decode method_2_code 5 = .ok (.iload_n 1, 1) := by decide +kernel
theorem d5_6 : decode method_2_code 6 = .ok (.if_icmp .ne 104, 3) := by decide +kernel
theorem d5_9 : decode method_2_code 9 = .ok (.aload_n 0, 1) := by decide +kernel
theorem d5_10 : decode method_2_code 10 = .ok (.getfield 13, 3) := by decide +kernel
theorem d5_13 : decode method_2_code 13 = .ok (.arraylength, 1) := by decide +kernel
theorem d5_14 : decode method_2_code 14 = .ok (.iload_n 1, 1) := by decide +kernel
theorem d5_15 : decode method_2_code 15 = .ok (.if_icmp .ne 95, 3) := by decide +kernel
theorem d5_18 : decode method_2_code 18 = .ok (.aload_n 0, 1) := by decide +kernel
theorem d5_19 : decode method_2_code 19 = .ok (.getfield 16, 3) := by decide +kernel
theorem d5_22 : decode method_2_code 22 = .ok (.arraylength, 1) := by decide +kernel
theorem d5_23 : decode method_2_code 23 = .ok (.iload_n 1, 1) := by decide +kernel
theorem d5_24 : decode method_2_code 24 = .ok (.if_icmp .ne 86, 3) := by decide +kernel
theorem d5_27 : decode method_2_code 27 = .ok (.aload_n 0, 1) := by decide +kernel
theorem d5_28 : decode method_2_code 28 = .ok (.getfield 19, 3) := by decide +kernel
theorem d5_31 : decode method_2_code 31 = .ok (.arraylength, 1) := by decide +kernel
theorem d5_32 : decode method_2_code 32 = .ok (.iload_n 1, 1) := by decide +kernel
theorem d5_33 : decode method_2_code 33 = .ok (.if_icmp .ne 77, 3) := by decide +kernel
theorem d5_36 : decode method_2_code 36 = .ok (.aload_n 0, 1) := by decide +kernel
theorem d5_37 : decode method_2_code 37 = .ok (.getfield 22, 3) := by decide +kernel
theorem d5_40 : decode method_2_code 40 = .ok (.arraylength, 1) := by decide +kernel
theorem d5_41 : decode method_2_code 41 = .ok (.iload_n 1, 1) := by decide +kernel
theorem d5_42 : decode method_2_code 42 = .ok (.iconst 1, 1) := by decide +kernel
theorem d5_43 : decode method_2_code 43 = .ok (.iadd, 1) := by decide +kernel
theorem d5_44 : decode method_2_code 44 = .ok (.if_icmp .ne 66, 3) := by decide +kernel
theorem d5_47 : decode method_2_code 47 = .ok (.aload_n 0, 1) := by decide +kernel
theorem d5_48 : decode method_2_code 48 = .ok (.getfield 25, 3) := by decide +kernel
theorem d5_51 : decode method_2_code 51 = .ok (.arraylength, 1) := by decide +kernel
theorem d5_52 : decode method_2_code 52 = .ok (.iload_n 1, 1) := by decide +kernel
theorem d5_53 : decode method_2_code 53 = .ok (.iconst 1, 1) := by decide +kernel
theorem d5_54 : decode method_2_code 54 = .ok (.iadd, 1) := by decide +kernel
theorem d5_55 : decode method_2_code 55 = .ok (.if_icmp .ne 55, 3) := by decide +kernel
theorem d5_58 : decode method_2_code 58 = .ok (.aload_n 0, 1) := by decide +kernel
theorem d5_59 : decode method_2_code 59 = .ok (.getfield 28, 3) := by decide +kernel
theorem d5_62 : decode method_2_code 62 = .ok (.arraylength, 1) := by decide +kernel
theorem d5_63 : decode method_2_code 63 = .ok (.ifCond .ne 47, 3) := by decide +kernel
theorem d5_66 : decode method_2_code 66 = .ok (.aload_n 0, 1) := by decide +kernel
theorem d5_67 : decode method_2_code 67 = .ok (.getfield 31, 3) := by decide +kernel
theorem d5_70 : decode method_2_code 70 = .ok (.arraylength, 1) := by decide +kernel
theorem d5_71 : decode method_2_code 71 = .ok (.ifCond .ne 39, 3) := by decide +kernel
theorem d5_74 : decode method_2_code 74 = .ok (.aload_n 0, 1) := by decide +kernel
theorem d5_75 : decode method_2_code 75 = .ok (.getfield 34, 3) := by decide +kernel
theorem d5_78 : decode method_2_code 78 = .ok (.arraylength, 1) := by decide +kernel
theorem d5_79 : decode method_2_code 79 = .ok (.ifCond .ne 31, 3) := by decide +kernel
theorem d5_82 : decode method_2_code 82 = .ok (.aload_n 0, 1) := by decide +kernel
theorem d5_83 : decode method_2_code 83 = .ok (.getfield 37, 3) := by decide +kernel
theorem d5_86 : decode method_2_code 86 = .ok (.arraylength, 1) := by decide +kernel
theorem d5_87 : decode method_2_code 87 = .ok (.ifCond .ne 23, 3) := by decide +kernel
theorem d5_90 : decode method_2_code 90 = .ok (.aload_n 0, 1) := by decide +kernel
theorem d5_91 : decode method_2_code 91 = .ok (.getfield 40, 3) := by decide +kernel
theorem d5_94 : decode method_2_code 94 = .ok (.arraylength, 1) := by decide +kernel
theorem d5_95 : decode method_2_code 95 = .ok (.ifCond .ne 15, 3) := by decide +kernel
theorem d5_98 : decode method_2_code 98 = .ok (.aload_n 0, 1) := by decide +kernel
theorem d5_99 : decode method_2_code 99 = .ok (.getfield 43, 3) := by decide +kernel
theorem d5_102 : decode method_2_code 102 = .ok (.arraylength, 1) := by decide +kernel
theorem d5_103 : decode method_2_code 103 = .ok (.ifCond .ne 7, 3) := by decide +kernel
theorem d5_106 : decode method_2_code 106 = .ok (.iconst 1, 1) := by decide +kernel
theorem d5_107 : decode method_2_code 107 = .ok (.goto 4, 3) := by decide +kernel
theorem d5_111 : decode method_2_code 111 = .ok (.ireturn, 1) := by decide +kernel
set_option maxRecDepth 65536 in
set_option maxHeartbeats 4000000 in
theorem c_check (l : Launch) (Z : State) (a0 : Array Value) (hw : ∀ d ∈ tables_1, d.before a0 Z = true) (n0 : Nat) (μ : Mem) (a : Addr) (x : Int32) (q_memberOf q_members q_sizeCounts q_taken q_matchedTo q_heldStarts q_owners q_holderStarts q_valuesHeld q_holders q_index q_seen : Addr) (v_values v_path v_next v_low v_open v_onStack v_component v_reached : Value) (N : Nat) (hN : N ≤ 255) (hx : x = Int32.ofNat N) (hμ : μ a = some (o_MR (.ref q_memberOf) (.ref q_members) (.ref q_sizeCounts) (.ref q_taken) (.ref q_matchedTo) (.ref q_owners) (.ref q_heldStarts) (.ref q_valuesHeld) (.ref q_holderStarts) (.ref q_holders) v_values (.ref q_seen) v_path v_next (.ref q_index) v_low v_open v_onStack v_component v_reached)) (k_memberOf : μ q_memberOf = some (.inr (.int, (List.replicate N (Value.int 0))))) (k_members : μ q_members = some (.inr (.int, (List.replicate N (Value.int 0))))) (k_sizeCounts : μ q_sizeCounts = some (.inr (.int, (List.replicate (N + 1) (Value.int 0))))) (k_taken : μ q_taken = some (.inr (.int, (List.replicate N (Value.int 0))))) (k_matchedTo : μ q_matchedTo = some (.inr (.int, (List.replicate N (Value.int 0))))) (k_heldStarts : μ q_heldStarts = some (.inr (.int, (List.replicate (N + 1) (Value.int 0))))) (k_owners : μ q_owners = some (.inr (.int, []))) (k_holderStarts : μ q_holderStarts = some (.inr (.int, []))) (k_valuesHeld : μ q_valuesHeld = some (.inr (.int, []))) (k_holders : μ q_holders = some (.inr (.int, []))) (k_index : μ q_index = some (.inr (.int, []))) (k_seen : μ q_seen = some (.inr (.int, []))) :
    Con l Z n0 (⟨"com/example/parcours/parcours/search/MatchingRoomHoldPlacesPinLaw", "check", "(Lcom/example/parcours/parcours/search/Workspace$MatchingRoom;I)Z"⟩ : MethodName) method_2_code 2 (some .boolean) [] rm_5 rm_5.cells rm_5.slots #[(.ref a), (.int x)] μ (RI fun z μ' => μ' = μ ∧ z = 1) := by
  refine Con.intro (L0 := #[.val (.ref a), .val (.int x)]) (plainFor_of_name (by first | (simp [plainName, overriddenIn]; done) | decide +kernel)) (fun m => by first | (simp [entryFrame, mkF, argsToLocals, Value.category]; done) | rfl) ?_
  intro p e s m below meth c C
  have C : Ctx p s m meth c Z "com/example/parcours/parcours/search/MatchingRoomHoldPlacesPinLaw" "check" method_2_code 2 (some .boolean) := C
  refine Own.aloadN C d5_0 (q := 1) rfl rfl rfl ?_
  refine Own.getfield C d5_1 (q := 4) rfl (host := "") (Or.inl (hw _ (List.mem_of_getElem? (i := 76) rfl))) Via.refl hμ (j := 0) rfl ?_
  refine Own.arraylength C d5_4 (q := 5) rfl k_memberOf fun z4 e4 e4i => ?_
  refine Own.iloadN C d5_5 (q := 6) rfl rfl ?_
  refine Own.icmp_ne C d5_6 (q := 9) rfl (r := 110) (by decide) (fun h6 => ?_) (fun h6 => ?_)
  · exfalso; apply h6; rw [e4, hx, List.length_replicate]
  · refine Own.aloadN C d5_9 (q := 10) rfl rfl rfl ?_
    refine Own.getfield C d5_10 (q := 13) rfl (host := "") (Or.inl (hw _ (List.mem_of_getElem? (i := 77) rfl))) Via.refl hμ (j := 1) rfl ?_
    refine Own.arraylength C d5_13 (q := 14) rfl k_members fun z13 e13 e13i => ?_
    refine Own.iloadN C d5_14 (q := 15) rfl rfl ?_
    refine Own.icmp_ne C d5_15 (q := 18) rfl (r := 110) (by decide) (fun h15 => ?_) (fun h15 => ?_)
    · exfalso; apply h15; rw [e13, hx, List.length_replicate]
    · refine Own.aloadN C d5_18 (q := 19) rfl rfl rfl ?_
      refine Own.getfield C d5_19 (q := 22) rfl (host := "") (Or.inl (hw _ (List.mem_of_getElem? (i := 78) rfl))) Via.refl hμ (j := 3) rfl ?_
      refine Own.arraylength C d5_22 (q := 23) rfl k_taken fun z22 e22 e22i => ?_
      refine Own.iloadN C d5_23 (q := 24) rfl rfl ?_
      refine Own.icmp_ne C d5_24 (q := 27) rfl (r := 110) (by decide) (fun h24 => ?_) (fun h24 => ?_)
      · exfalso; apply h24; rw [e22, hx, List.length_replicate]
      · refine Own.aloadN C d5_27 (q := 28) rfl rfl rfl ?_
        refine Own.getfield C d5_28 (q := 31) rfl (host := "") (Or.inl (hw _ (List.mem_of_getElem? (i := 79) rfl))) Via.refl hμ (j := 4) rfl ?_
        refine Own.arraylength C d5_31 (q := 32) rfl k_matchedTo fun z31 e31 e31i => ?_
        refine Own.iloadN C d5_32 (q := 33) rfl rfl ?_
        refine Own.icmp_ne C d5_33 (q := 36) rfl (r := 110) (by decide) (fun h33 => ?_) (fun h33 => ?_)
        · exfalso; apply h33; rw [e31, hx, List.length_replicate]
        · refine Own.aloadN C d5_36 (q := 37) rfl rfl rfl ?_
          refine Own.getfield C d5_37 (q := 40) rfl (host := "") (Or.inl (hw _ (List.mem_of_getElem? (i := 80) rfl))) Via.refl hμ (j := 2) rfl ?_
          refine Own.arraylength C d5_40 (q := 41) rfl k_sizeCounts fun z40 e40 e40i => ?_
          refine Own.iloadN C d5_41 (q := 42) rfl rfl ?_
          refine Own.iconst C d5_42 (q := 43) rfl (z := 1) (by decide) ?_
          refine Own.iadd C d5_43 (q := 44) rfl fun z43 e43 => ?_
          refine Own.icmp_ne C d5_44 (q := 47) rfl (r := 110) (by decide) (fun h44 => ?_) (fun h44 => ?_)
          · exfalso; apply h44; rw [e40, e43, hx, List.length_replicate]; exact inc_ofNat N
          · refine Own.aloadN C d5_47 (q := 48) rfl rfl rfl ?_
            refine Own.getfield C d5_48 (q := 51) rfl (host := "") (Or.inl (hw _ (List.mem_of_getElem? (i := 81) rfl))) Via.refl hμ (j := 6) rfl ?_
            refine Own.arraylength C d5_51 (q := 52) rfl k_heldStarts fun z51 e51 e51i => ?_
            refine Own.iloadN C d5_52 (q := 53) rfl rfl ?_
            refine Own.iconst C d5_53 (q := 54) rfl (z := 1) (by decide) ?_
            refine Own.iadd C d5_54 (q := 55) rfl fun z54 e54 => ?_
            refine Own.icmp_ne C d5_55 (q := 58) rfl (r := 110) (by decide) (fun h55 => ?_) (fun h55 => ?_)
            · exfalso; apply h55; rw [e51, e54, hx, List.length_replicate]; exact inc_ofNat N
            · refine Own.aloadN C d5_58 (q := 59) rfl rfl rfl ?_
              refine Own.getfield C d5_59 (q := 62) rfl (host := "") (Or.inl (hw _ (List.mem_of_getElem? (i := 82) rfl))) Via.refl hμ (j := 5) rfl ?_
              refine Own.arraylength C d5_62 (q := 63) rfl k_owners fun z62 e62 e62i => ?_
              obtain rfl : z62 = (0 : Int32) := e62.trans (by rfl)
              refine Own.if_ne C d5_63 (q := 66) rfl (r := 110) (by decide) (fun h63 => ?_) (fun h63 => ?_)
              · exact absurd h63 (by decide)
              · refine Own.aloadN C d5_66 (q := 67) rfl rfl rfl ?_
                refine Own.getfield C d5_67 (q := 70) rfl (host := "") (Or.inl (hw _ (List.mem_of_getElem? (i := 83) rfl))) Via.refl hμ (j := 8) rfl ?_
                refine Own.arraylength C d5_70 (q := 71) rfl k_holderStarts fun z70 e70 e70i => ?_
                obtain rfl : z70 = (0 : Int32) := e70.trans (by rfl)
                refine Own.if_ne C d5_71 (q := 74) rfl (r := 110) (by decide) (fun h71 => ?_) (fun h71 => ?_)
                · exact absurd h71 (by decide)
                · refine Own.aloadN C d5_74 (q := 75) rfl rfl rfl ?_
                  refine Own.getfield C d5_75 (q := 78) rfl (host := "") (Or.inl (hw _ (List.mem_of_getElem? (i := 84) rfl))) Via.refl hμ (j := 7) rfl ?_
                  refine Own.arraylength C d5_78 (q := 79) rfl k_valuesHeld fun z78 e78 e78i => ?_
                  obtain rfl : z78 = (0 : Int32) := e78.trans (by rfl)
                  refine Own.if_ne C d5_79 (q := 82) rfl (r := 110) (by decide) (fun h79 => ?_) (fun h79 => ?_)
                  · exact absurd h79 (by decide)
                  · refine Own.aloadN C d5_82 (q := 83) rfl rfl rfl ?_
                    refine Own.getfield C d5_83 (q := 86) rfl (host := "") (Or.inl (hw _ (List.mem_of_getElem? (i := 85) rfl))) Via.refl hμ (j := 9) rfl ?_
                    refine Own.arraylength C d5_86 (q := 87) rfl k_holders fun z86 e86 e86i => ?_
                    obtain rfl : z86 = (0 : Int32) := e86.trans (by rfl)
                    refine Own.if_ne C d5_87 (q := 90) rfl (r := 110) (by decide) (fun h87 => ?_) (fun h87 => ?_)
                    · exact absurd h87 (by decide)
                    · refine Own.aloadN C d5_90 (q := 91) rfl rfl rfl ?_
                      refine Own.getfield C d5_91 (q := 94) rfl (host := "") (Or.inl (hw _ (List.mem_of_getElem? (i := 86) rfl))) Via.refl hμ (j := 14) rfl ?_
                      refine Own.arraylength C d5_94 (q := 95) rfl k_index fun z94 e94 e94i => ?_
                      obtain rfl : z94 = (0 : Int32) := e94.trans (by rfl)
                      refine Own.if_ne C d5_95 (q := 98) rfl (r := 110) (by decide) (fun h95 => ?_) (fun h95 => ?_)
                      · exact absurd h95 (by decide)
                      · refine Own.aloadN C d5_98 (q := 99) rfl rfl rfl ?_
                        refine Own.getfield C d5_99 (q := 102) rfl (host := "") (Or.inl (hw _ (List.mem_of_getElem? (i := 87) rfl))) Via.refl hμ (j := 11) rfl ?_
                        refine Own.arraylength C d5_102 (q := 103) rfl k_seen fun z102 e102 e102i => ?_
                        obtain rfl : z102 = (0 : Int32) := e102.trans (by rfl)
                        refine Own.if_ne C d5_103 (q := 106) rfl (r := 110) (by decide) (fun h103 => ?_) (fun h103 => ?_)
                        · exact absurd h103 (by decide)
                        · refine Own.iconst C d5_106 (q := 107) rfl (z := 1) (by decide) ?_
                          refine Own.goto C d5_107 (q := 111) (by decide) ?_
                          refine Own.nreturn C d5_111 (by simp) (z' := (1 : Int32)) (by decide) (by decide) (by decide) ?_
                          exact ⟨_, rfl, rfl, rfl⟩
abbrev rm_6 : Room := { frames := 0, cells := 1, slots := 6, locals := 0 }
theorem d6_0 : decode method_3_code 0 = .ok (.bipush 6, 2) := by decide +kernel
theorem d6_2 : decode method_3_code 2 = .ok (.anewarray 46, 3) := by decide +kernel
theorem d6_5 : decode method_3_code 5 = .ok (.dup, 1) := by decide +kernel
theorem d6_6 : decode method_3_code 6 = .ok (.iconst 0, 1) := by decide +kernel
theorem d6_7 : decode method_3_code 7 = .ok (.aload_n 0, 1) := by decide +kernel
theorem d6_8 : decode method_3_code 8 = .ok (.getfield 7, 3) := by decide +kernel
theorem d6_11 : decode method_3_code 11 = .ok (.aastore, 1) := by decide +kernel
theorem d6_12 : decode method_3_code 12 = .ok (.dup, 1) := by decide +kernel
theorem d6_13 : decode method_3_code 13 = .ok (.iconst 1, 1) := by decide +kernel
theorem d6_14 : decode method_3_code 14 = .ok (.aload_n 0, 1) := by decide +kernel
theorem d6_15 : decode method_3_code 15 = .ok (.getfield 13, 3) := by decide +kernel
theorem d6_18 : decode method_3_code 18 = .ok (.aastore, 1) := by decide +kernel
theorem d6_19 : decode method_3_code 19 = .ok (.dup, 1) := by decide +kernel
theorem d6_20 : decode method_3_code 20 = .ok (.iconst 2, 1) := by decide +kernel
theorem d6_21 : decode method_3_code 21 = .ok (.aload_n 0, 1) := by decide +kernel
theorem d6_22 : decode method_3_code 22 = .ok (.getfield 22, 3) := by decide +kernel
theorem d6_25 : decode method_3_code 25 = .ok (.aastore, 1) := by decide +kernel
theorem d6_26 : decode method_3_code 26 = .ok (.dup, 1) := by decide +kernel
theorem d6_27 : decode method_3_code 27 = .ok (.iconst 3, 1) := by decide +kernel
theorem d6_28 : decode method_3_code 28 = .ok (.aload_n 0, 1) := by decide +kernel
theorem d6_29 : decode method_3_code 29 = .ok (.getfield 16, 3) := by decide +kernel
theorem d6_32 : decode method_3_code 32 = .ok (.aastore, 1) := by decide +kernel
theorem d6_33 : decode method_3_code 33 = .ok (.dup, 1) := by decide +kernel
theorem d6_34 : decode method_3_code 34 = .ok (.iconst 4, 1) := by decide +kernel
theorem d6_35 : decode method_3_code 35 = .ok (.aload_n 0, 1) := by decide +kernel
theorem d6_36 : decode method_3_code 36 = .ok (.getfield 19, 3) := by decide +kernel
theorem d6_39 : decode method_3_code 39 = .ok (.aastore, 1) := by decide +kernel
theorem d6_40 : decode method_3_code 40 = .ok (.dup, 1) := by decide +kernel
theorem d6_41 : decode method_3_code 41 = .ok (.iconst 5, 1) := by decide +kernel
theorem d6_42 : decode method_3_code 42 = .ok (.aload_n 0, 1) := by decide +kernel
theorem d6_43 : decode method_3_code 43 = .ok (.getfield 25, 3) := by decide +kernel
theorem d6_46 : decode method_3_code 46 = .ok (.aastore, 1) := by decide +kernel
theorem d6_47 : decode method_3_code 47 = .ok (.areturn, 1) := by decide +kernel
set_option maxRecDepth 65536 in
set_option maxHeartbeats 4000000 in
theorem c_keep (l : Launch) (Z : State) (a0 : Array Value) (hw : ∀ d ∈ tables_1, d.before a0 Z = true) (n0 : Nat) (μ : Mem) (a : Addr) (q_memberOf q_members q_sizeCounts q_taken q_matchedTo q_heldStarts : Addr) (v_owners v_valuesHeld v_holderStarts v_holders v_values v_seen v_path v_next v_index v_low v_open v_onStack v_component v_reached : Value) (l_memberOf l_members l_sizeCounts l_taken l_matchedTo l_heldStarts : List Value) (hμ : μ a = some (o_MR (.ref q_memberOf) (.ref q_members) (.ref q_sizeCounts) (.ref q_taken) (.ref q_matchedTo) v_owners (.ref q_heldStarts) v_valuesHeld v_holderStarts v_holders v_values v_seen v_path v_next v_index v_low v_open v_onStack v_component v_reached)) (k_memberOf : μ q_memberOf = some (.inr (.int, l_memberOf))) (k_members : μ q_members = some (.inr (.int, l_members))) (k_sizeCounts : μ q_sizeCounts = some (.inr (.int, l_sizeCounts))) (k_taken : μ q_taken = some (.inr (.int, l_taken))) (k_matchedTo : μ q_matchedTo = some (.inr (.int, l_matchedTo))) (k_heldStarts : μ q_heldStarts = some (.inr (.int, l_heldStarts))) (g_memberOf : n0 ≤ q_memberOf) (g_members : n0 ≤ q_members) (g_sizeCounts : n0 ≤ q_sizeCounts) (g_taken : n0 ≤ q_taken) (g_matchedTo : n0 ≤ q_matchedTo) (g_heldStarts : n0 ≤ q_heldStarts) :
    Con l Z n0 (⟨"com/example/parcours/parcours/search/MatchingRoomHoldPlacesPinLaw", "keep", "(Lcom/example/parcours/parcours/search/Workspace$MatchingRoom;)[[I"⟩ : MethodName) method_3_code 1 (some (.array (.array .int))) [] rm_6 rm_6.cells rm_6.slots #[(.ref a)] μ (RR fun z μ' => ∃ q, z = .ref q ∧ n0 ≤ q ∧ (∀ b o, μ b = some o → b ≠ q) ∧ μ' = upd μ q (.inr ((.array .int), [(.ref q_memberOf), (.ref q_members), (.ref q_sizeCounts), (.ref q_taken), (.ref q_matchedTo), (.ref q_heldStarts)]))) := by
  refine Con.intro (L0 := #[.val (.ref a)]) (plainFor_of_name (by first | (simp [plainName, overriddenIn]; done) | decide +kernel)) (fun m => by first | (simp [entryFrame, mkF, argsToLocals, Value.category]; done) | rfl) ?_
  intro p e s m below meth c C
  have C : Ctx p s m meth c Z "com/example/parcours/parcours/search/MatchingRoomHoldPlacesPinLaw" "keep" method_3_code 1 (some (.array (.array .int))) := C
  refine Own.bipush C d6_0 (q := 2) rfl (z := 6) (by decide) ?_
  refine Own.newGrid C d6_2 (q := 5) rfl (hw _ (List.mem_of_getElem? (i := 91) rfl)) (hw _ (List.mem_of_getElem? (i := 92) rfl)) (by decide) (cap := 6) (by decide) (by decide) (vs := [.null, .null, .null, .null, .null, .null]) rfl (by decide) (by decide) fun a2 a2_f a2_g => ?_
  have ne_a_a2 := a2_f _ _ hμ
  have ne_q_memberOf_a2 := a2_f _ _ k_memberOf
  have ne_q_members_a2 := a2_f _ _ k_members
  have ne_q_sizeCounts_a2 := a2_f _ _ k_sizeCounts
  have ne_q_taken_a2 := a2_f _ _ k_taken
  have ne_q_matchedTo_a2 := a2_f _ _ k_matchedTo
  have ne_q_heldStarts_a2 := a2_f _ _ k_heldStarts
  refine Own.dup C d6_5 (q := 6) rfl rfl ?_
  refine Own.iconst C d6_6 (q := 7) rfl (z := 0) (by decide) ?_
  refine Own.aloadN C d6_7 (q := 8) rfl rfl rfl ?_
  refine Own.getfield C d6_8 (q := 11) rfl (host := "") (Or.inl (hw _ (List.mem_of_getElem? (i := 76) rfl))) Via.refl (upd_at ne_a_a2 hμ) (j := 0) rfl ?_
  refine Own.aastoreG C d6_11 (q := 12) rfl upd_same (upd_at ne_q_memberOf_a2 k_memberOf) g_memberOf (by decide) (Nat.le_of_ble_eq_true rfl) a2_g (mem (upd_list (vs' := [(.ref q_memberOf), .null, .null, .null, .null, .null]) rfl upd_upd) ?_)
  refine Own.dup C d6_12 (q := 13) rfl rfl ?_
  refine Own.iconst C d6_13 (q := 14) rfl (z := 1) (by decide) ?_
  refine Own.aloadN C d6_14 (q := 15) rfl rfl rfl ?_
  refine Own.getfield C d6_15 (q := 18) rfl (host := "") (Or.inl (hw _ (List.mem_of_getElem? (i := 77) rfl))) Via.refl (upd_at ne_a_a2 hμ) (j := 1) rfl ?_
  refine Own.aastoreG C d6_18 (q := 19) rfl upd_same (upd_at ne_q_members_a2 k_members) g_members (by decide) (Nat.le_of_ble_eq_true rfl) a2_g (mem (upd_list (vs' := [(.ref q_memberOf), (.ref q_members), .null, .null, .null, .null]) rfl upd_upd) ?_)
  refine Own.dup C d6_19 (q := 20) rfl rfl ?_
  refine Own.iconst C d6_20 (q := 21) rfl (z := 2) (by decide) ?_
  refine Own.aloadN C d6_21 (q := 22) rfl rfl rfl ?_
  refine Own.getfield C d6_22 (q := 25) rfl (host := "") (Or.inl (hw _ (List.mem_of_getElem? (i := 80) rfl))) Via.refl (upd_at ne_a_a2 hμ) (j := 2) rfl ?_
  refine Own.aastoreG C d6_25 (q := 26) rfl upd_same (upd_at ne_q_sizeCounts_a2 k_sizeCounts) g_sizeCounts (by decide) (Nat.le_of_ble_eq_true rfl) a2_g (mem (upd_list (vs' := [(.ref q_memberOf), (.ref q_members), (.ref q_sizeCounts), .null, .null, .null]) rfl upd_upd) ?_)
  refine Own.dup C d6_26 (q := 27) rfl rfl ?_
  refine Own.iconst C d6_27 (q := 28) rfl (z := 3) (by decide) ?_
  refine Own.aloadN C d6_28 (q := 29) rfl rfl rfl ?_
  refine Own.getfield C d6_29 (q := 32) rfl (host := "") (Or.inl (hw _ (List.mem_of_getElem? (i := 78) rfl))) Via.refl (upd_at ne_a_a2 hμ) (j := 3) rfl ?_
  refine Own.aastoreG C d6_32 (q := 33) rfl upd_same (upd_at ne_q_taken_a2 k_taken) g_taken (by decide) (Nat.le_of_ble_eq_true rfl) a2_g (mem (upd_list (vs' := [(.ref q_memberOf), (.ref q_members), (.ref q_sizeCounts), (.ref q_taken), .null, .null]) rfl upd_upd) ?_)
  refine Own.dup C d6_33 (q := 34) rfl rfl ?_
  refine Own.iconst C d6_34 (q := 35) rfl (z := 4) (by decide) ?_
  refine Own.aloadN C d6_35 (q := 36) rfl rfl rfl ?_
  refine Own.getfield C d6_36 (q := 39) rfl (host := "") (Or.inl (hw _ (List.mem_of_getElem? (i := 79) rfl))) Via.refl (upd_at ne_a_a2 hμ) (j := 4) rfl ?_
  refine Own.aastoreG C d6_39 (q := 40) rfl upd_same (upd_at ne_q_matchedTo_a2 k_matchedTo) g_matchedTo (by decide) (Nat.le_of_ble_eq_true rfl) a2_g (mem (upd_list (vs' := [(.ref q_memberOf), (.ref q_members), (.ref q_sizeCounts), (.ref q_taken), (.ref q_matchedTo), .null]) rfl upd_upd) ?_)
  refine Own.dup C d6_40 (q := 41) rfl rfl ?_
  refine Own.iconst C d6_41 (q := 42) rfl (z := 5) (by decide) ?_
  refine Own.aloadN C d6_42 (q := 43) rfl rfl rfl ?_
  refine Own.getfield C d6_43 (q := 46) rfl (host := "") (Or.inl (hw _ (List.mem_of_getElem? (i := 81) rfl))) Via.refl (upd_at ne_a_a2 hμ) (j := 6) rfl ?_
  refine Own.aastoreG C d6_46 (q := 47) rfl upd_same (upd_at ne_q_heldStarts_a2 k_heldStarts) g_heldStarts (by decide) (Nat.le_of_ble_eq_true rfl) a2_g (mem (upd_list (vs' := [(.ref q_memberOf), (.ref q_members), (.ref q_sizeCounts), (.ref q_taken), (.ref q_matchedTo), (.ref q_heldStarts)]) rfl upd_upd) ?_)
  refine Own.areturn C rfl rfl d6_47 (by decide) (by decide) ?_
  exact ⟨_, rfl, rfl, _, rfl, a2_g, a2_f, rfl⟩
abbrev rm_8 : Room := { frames := 0, cells := 0, slots := 0, locals := 0 }
theorem d8_0 : decode method_4_code 0 = .ok (.aload_n 0, 1) := by decide +kernel
theorem d8_1 : decode method_4_code 1 = .ok (.getfield 7, 3) := by decide +kernel
theorem d8_4 : decode method_4_code 4 = .ok (.aload_n 1, 1) := by decide +kernel
theorem d8_5 : decode method_4_code 5 = .ok (.iconst 0, 1) := by decide +kernel
theorem d8_6 : decode method_4_code 6 = .ok (.aaload, 1) := by decide +kernel
theorem d8_7 : decode method_4_code 7 = .ok (.if_acmp .ne 57, 3) := by decide +kernel
theorem d8_10 : decode method_4_code 10 = .ok (.aload_n 0, 1) := by decide +kernel
theorem d8_11 : decode method_4_code 11 = .ok (.getfield 13, 3) := by decide +kernel
theorem d8_14 : decode method_4_code 14 = .ok (.aload_n 1, 1) := by decide +kernel
theorem d8_15 : decode method_4_code 15 = .ok (.iconst 1, 1) := by decide +kernel
theorem d8_16 : decode method_4_code 16 = .ok (.aaload, 1) := by decide +kernel
theorem d8_17 : decode method_4_code 17 = .ok (.if_acmp .ne 47, 3) := by decide +kernel
theorem d8_20 : decode method_4_code 20 = .ok (.aload_n 0, 1) := by decide +kernel
theorem d8_21 : decode method_4_code 21 = .ok (.getfield 22, 3) := by decide +kernel
theorem d8_24 : decode method_4_code 24 = .ok (.aload_n 1, 1) := by decide +kernel
theorem d8_25 : decode method_4_code 25 = .ok (.iconst 2, 1) := by decide +kernel
theorem d8_26 : decode method_4_code 26 = .ok (.aaload, 1) := by decide +kernel
theorem d8_27 : decode method_4_code 27 = .ok (.if_acmp .ne 37, 3) := by decide +kernel
theorem d8_30 : decode method_4_code 30 = .ok (.aload_n 0, 1) := by decide +kernel
theorem d8_31 : decode method_4_code 31 = .ok (.getfield 16, 3) := by decide +kernel
theorem d8_34 : decode method_4_code 34 = .ok (.aload_n 1, 1) := by decide +kernel
theorem d8_35 : decode method_4_code 35 = .ok (.iconst 3, 1) := by decide +kernel
theorem d8_36 : decode method_4_code 36 = .ok (.aaload, 1) := by decide +kernel
theorem d8_37 : decode method_4_code 37 = .ok (.if_acmp .ne 27, 3) := by decide +kernel
theorem d8_40 : decode method_4_code 40 = .ok (.aload_n 0, 1) := by decide +kernel
theorem d8_41 : decode method_4_code 41 = .ok (.getfield 19, 3) := by decide +kernel
theorem d8_44 : decode method_4_code 44 = .ok (.aload_n 1, 1) := by decide +kernel
theorem d8_45 : decode method_4_code 45 = .ok (.iconst 4, 1) := by decide +kernel
theorem d8_46 : decode method_4_code 46 = .ok (.aaload, 1) := by decide +kernel
theorem d8_47 : decode method_4_code 47 = .ok (.if_acmp .ne 17, 3) := by decide +kernel
theorem d8_50 : decode method_4_code 50 = .ok (.aload_n 0, 1) := by decide +kernel
theorem d8_51 : decode method_4_code 51 = .ok (.getfield 25, 3) := by decide +kernel
theorem d8_54 : decode method_4_code 54 = .ok (.aload_n 1, 1) := by decide +kernel
theorem d8_55 : decode method_4_code 55 = .ok (.iconst 5, 1) := by decide +kernel
theorem d8_56 : decode method_4_code 56 = .ok (.aaload, 1) := by decide +kernel
theorem d8_57 : decode method_4_code 57 = .ok (.if_acmp .ne 7, 3) := by decide +kernel
theorem d8_60 : decode method_4_code 60 = .ok (.iconst 1, 1) := by decide +kernel
theorem d8_61 : decode method_4_code 61 = .ok (.goto 4, 3) := by decide +kernel
theorem d8_65 : decode method_4_code 65 = .ok (.ireturn, 1) := by decide +kernel
set_option maxRecDepth 65536 in
set_option maxHeartbeats 4000000 in
theorem c_same (l : Launch) (Z : State) (a0 : Array Value) (hw : ∀ d ∈ tables_1, d.before a0 Z = true) (n0 : Nat) (μ : Mem) (a : Addr) (k : Addr) (q_memberOf q_members q_sizeCounts q_taken q_matchedTo q_heldStarts : Addr) (v_owners v_valuesHeld v_holderStarts v_holders v_values v_seen v_path v_next v_index v_low v_open v_onStack v_component v_reached : Value) (hμ : μ a = some (o_MR (.ref q_memberOf) (.ref q_members) (.ref q_sizeCounts) (.ref q_taken) (.ref q_matchedTo) v_owners (.ref q_heldStarts) v_valuesHeld v_holderStarts v_holders v_values v_seen v_path v_next v_index v_low v_open v_onStack v_component v_reached)) (hk : μ k = some (.inr ((.array .int), [(.ref q_memberOf), (.ref q_members), (.ref q_sizeCounts), (.ref q_taken), (.ref q_matchedTo), (.ref q_heldStarts)]))) :
    Con l Z n0 (⟨"com/example/parcours/parcours/search/MatchingRoomHoldPlacesPinLaw", "same", "(Lcom/example/parcours/parcours/search/Workspace$MatchingRoom;[[I)Z"⟩ : MethodName) method_4_code 2 (some .boolean) [] rm_8 rm_8.cells rm_8.slots #[(.ref a), (.ref k)] μ (RI fun z μ' => μ' = μ ∧ z = 1) := by
  refine Con.intro (L0 := #[.val (.ref a), .val (.ref k)]) (plainFor_of_name (by first | (simp [plainName, overriddenIn]; done) | decide +kernel)) (fun m => by first | (simp [entryFrame, mkF, argsToLocals, Value.category]; done) | rfl) ?_
  intro p e s m below meth c C
  have C : Ctx p s m meth c Z "com/example/parcours/parcours/search/MatchingRoomHoldPlacesPinLaw" "same" method_4_code 2 (some .boolean) := C
  refine Own.aloadN C d8_0 (q := 1) rfl rfl rfl ?_
  refine Own.getfield C d8_1 (q := 4) rfl (host := "") (Or.inl (hw _ (List.mem_of_getElem? (i := 76) rfl))) Via.refl hμ (j := 0) rfl ?_
  refine Own.aloadN C d8_4 (q := 5) rfl rfl rfl ?_
  refine Own.iconst C d8_5 (q := 6) rfl (z := 0) (by decide) ?_
  refine Own.aaload C d8_6 (q := 7) rfl hk rfl (by decide) (v := (.ref q_memberOf)) rfl ?_
  refine Own.acmp_ne C d8_7 (q := 10) rfl (r := 64) (by decide) rfl rfl (fun h7 => ?_) (fun h7 => ?_)
  · exact absurd rfl h7
  · refine Own.aloadN C d8_10 (q := 11) rfl rfl rfl ?_
    refine Own.getfield C d8_11 (q := 14) rfl (host := "") (Or.inl (hw _ (List.mem_of_getElem? (i := 77) rfl))) Via.refl hμ (j := 1) rfl ?_
    refine Own.aloadN C d8_14 (q := 15) rfl rfl rfl ?_
    refine Own.iconst C d8_15 (q := 16) rfl (z := 1) (by decide) ?_
    refine Own.aaload C d8_16 (q := 17) rfl hk rfl (by decide) (v := (.ref q_members)) rfl ?_
    refine Own.acmp_ne C d8_17 (q := 20) rfl (r := 64) (by decide) rfl rfl (fun h17 => ?_) (fun h17 => ?_)
    · exact absurd rfl h17
    · refine Own.aloadN C d8_20 (q := 21) rfl rfl rfl ?_
      refine Own.getfield C d8_21 (q := 24) rfl (host := "") (Or.inl (hw _ (List.mem_of_getElem? (i := 80) rfl))) Via.refl hμ (j := 2) rfl ?_
      refine Own.aloadN C d8_24 (q := 25) rfl rfl rfl ?_
      refine Own.iconst C d8_25 (q := 26) rfl (z := 2) (by decide) ?_
      refine Own.aaload C d8_26 (q := 27) rfl hk rfl (by decide) (v := (.ref q_sizeCounts)) rfl ?_
      refine Own.acmp_ne C d8_27 (q := 30) rfl (r := 64) (by decide) rfl rfl (fun h27 => ?_) (fun h27 => ?_)
      · exact absurd rfl h27
      · refine Own.aloadN C d8_30 (q := 31) rfl rfl rfl ?_
        refine Own.getfield C d8_31 (q := 34) rfl (host := "") (Or.inl (hw _ (List.mem_of_getElem? (i := 78) rfl))) Via.refl hμ (j := 3) rfl ?_
        refine Own.aloadN C d8_34 (q := 35) rfl rfl rfl ?_
        refine Own.iconst C d8_35 (q := 36) rfl (z := 3) (by decide) ?_
        refine Own.aaload C d8_36 (q := 37) rfl hk rfl (by decide) (v := (.ref q_taken)) rfl ?_
        refine Own.acmp_ne C d8_37 (q := 40) rfl (r := 64) (by decide) rfl rfl (fun h37 => ?_) (fun h37 => ?_)
        · exact absurd rfl h37
        · refine Own.aloadN C d8_40 (q := 41) rfl rfl rfl ?_
          refine Own.getfield C d8_41 (q := 44) rfl (host := "") (Or.inl (hw _ (List.mem_of_getElem? (i := 79) rfl))) Via.refl hμ (j := 4) rfl ?_
          refine Own.aloadN C d8_44 (q := 45) rfl rfl rfl ?_
          refine Own.iconst C d8_45 (q := 46) rfl (z := 4) (by decide) ?_
          refine Own.aaload C d8_46 (q := 47) rfl hk rfl (by decide) (v := (.ref q_matchedTo)) rfl ?_
          refine Own.acmp_ne C d8_47 (q := 50) rfl (r := 64) (by decide) rfl rfl (fun h47 => ?_) (fun h47 => ?_)
          · exact absurd rfl h47
          · refine Own.aloadN C d8_50 (q := 51) rfl rfl rfl ?_
            refine Own.getfield C d8_51 (q := 54) rfl (host := "") (Or.inl (hw _ (List.mem_of_getElem? (i := 81) rfl))) Via.refl hμ (j := 6) rfl ?_
            refine Own.aloadN C d8_54 (q := 55) rfl rfl rfl ?_
            refine Own.iconst C d8_55 (q := 56) rfl (z := 5) (by decide) ?_
            refine Own.aaload C d8_56 (q := 57) rfl hk rfl (by decide) (v := (.ref q_heldStarts)) rfl ?_
            refine Own.acmp_ne C d8_57 (q := 60) rfl (r := 64) (by decide) rfl rfl (fun h57 => ?_) (fun h57 => ?_)
            · exact absurd rfl h57
            · refine Own.iconst C d8_60 (q := 61) rfl (z := 1) (by decide) ?_
              refine Own.goto C d8_61 (q := 65) (by decide) ?_
              refine Own.nreturn C d8_65 (by simp) (z' := (1 : Int32)) (by decide) (by decide) (by decide) ?_
              exact ⟨_, rfl, rfl, rfl⟩
theorem m255 (x : Int32) {z : Int32} (h : z = x &&& 255) : (0 ≤ z.toInt ∧ z.toInt ≤ 255) ∧ z = Int32.ofNat z.toNatClampNeg ∧ z.toNatClampNeg ≤ 255 ∧ (z.toNatClampNeg : Int) = z.toInt := by
  have o := c_mask x 255 8 (by decide) (by decide); rw [← h] at o
  have h0 : 0 ≤ z.toInt ∧ z.toInt ≤ 255 := by omega
  exact ⟨h0, (back32 (by rw [Int32.lt_iff_toInt_lt, show (0 : Int32).toInt = 0 from rfl]; omega)).1.symm, by simp only [Int32.toNatClampNeg]; omega, by simp only [Int32.toNatClampNeg]; omega⟩
theorem mx_l {x y : Int32} (h : y.toInt ≤ x.toInt) : mx' x y = x := by
  unfold mx'; rw [if_neg]; rw [Int32.lt_iff_toInt_lt]; omega
theorem mx_r {x y : Int32} (h : ¬ y.toInt ≤ x.toInt) : mx' x y = y := by
  unfold mx'; rw [if_pos]; rw [Int32.lt_iff_toInt_lt]; omega
theorem pd_1 : parseMethodDescriptor "(I)V" = some ⟨[.int], none⟩ := by decide +kernel
theorem pd_2 : parseMethodDescriptor "(Lcom/example/parcours/parcours/search/Workspace$MatchingRoom;I)Z" = some ⟨[(.object "com/example/parcours/parcours/search/Workspace$MatchingRoom"), .int], some .boolean⟩ := by decide +kernel
theorem pd_3 : parseMethodDescriptor "(Lcom/example/parcours/parcours/search/Workspace$MatchingRoom;)[[I" = some ⟨[(.object "com/example/parcours/parcours/search/Workspace$MatchingRoom")], some (.array (.array .int))⟩ := by decide +kernel
theorem pd_4 : parseMethodDescriptor "(II)I" = some ⟨[.int, .int], some .int⟩ := by decide +kernel
theorem pd_5 : parseMethodDescriptor "(Lcom/example/parcours/parcours/search/Workspace$MatchingRoom;[[I)Z" = some ⟨[(.object "com/example/parcours/parcours/search/Workspace$MatchingRoom"), (.array (.array .int))], some .boolean⟩ := by decide +kernel
set_option maxRecDepth 65536 in
set_option maxHeartbeats 40000000 in
theorem c_law (l : Launch) (Z : State) (a0 : Array Value) (hw : ∀ d ∈ tables_1, d.before a0 Z = true) (n0 : Nat) (μ : Mem) (u : Int32) (w : Int32) (c' : Int32)  :
    Con l Z n0 x code maxLocals ret tables_1 room_1 room_1.cells room_1.slots #[(.int u), (.int w), (.int c')] μ (fun v _ => v = some (.int 1)) := by
  refine Con.intro (L0 := #[.val (.int u), .val (.int w), .val (.int c'), .unset, .unset, .unset, .unset, .unset, .unset, .unset, .unset, .unset]) (plainFor_of_name (by first | (simp [plainName, overriddenIn]; done) | decide +kernel)) (fun m => by first | (simp [entryFrame, mkF, argsToLocals, Value.category, maxLocals]; done) | rfl) ?_
  intro p e s m below meth c C
  have C : Ctx p s m meth c Z "com/example/parcours/parcours/search/MatchingRoomHoldPlacesPinLaw" "law" code maxLocals (some .boolean) := C
  refine Own.iloadN C at_0 (q := 1) rfl rfl ?_
  refine Own.sipush C at_1 (q := 4) rfl (z := 255) (by decide) ?_
  refine Own.iand C at_4 (q := 5) rfl fun z4 e4 => ?_
  refine Own.istoreN C at_5 (q := 6) rfl (L' := #[.val (.int u), .val (.int w), .val (.int c'), .val (.int z4), .unset, .unset, .unset, .unset, .unset, .unset, .unset, .unset]) rfl ?_
  refine Own.iloadN C at_6 (q := 7) rfl rfl ?_
  refine Own.sipush C at_7 (q := 10) rfl (z := 255) (by decide) ?_
  refine Own.iand C at_10 (q := 11) rfl fun z10 e10 => ?_
  refine Own.istore C at_11 (q := 13) rfl (L' := #[.val (.int u), .val (.int w), .val (.int c'), .val (.int z4), .val (.int z10), .unset, .unset, .unset, .unset, .unset, .unset, .unset]) rfl ?_
  refine Own.iloadN C at_13 (q := 14) rfl rfl ?_
  refine Own.sipush C at_14 (q := 17) rfl (z := 255) (by decide) ?_
  refine Own.iand C at_17 (q := 18) rfl fun z17 e17 => ?_
  refine Own.istore C at_18 (q := 20) rfl (L' := #[.val (.int u), .val (.int w), .val (.int c'), .val (.int z4), .val (.int z10), .val (.int z17), .unset, .unset, .unset, .unset, .unset, .unset]) rfl ?_
  have ma := m255 u e4
  have mb := m255 w e10
  have mc := m255 c' e17
  refine Own.new C at_20 (q := 23) rfl (hw _ (List.mem_of_getElem? (i := 0) rfl)) (hw _ (List.mem_of_getElem? (i := 1) rfl)) (hw _ (List.mem_of_getElem? (i := 2) rfl)) (lay_MR hw) (by decide) (by decide) (by decide) fun a20 a20_f a20_g => ?_
  refine Own.dup C at_23 (q := 24) rfl rfl ?_
  refine Own.callI C at_24 (q := 27) rfl rfl (hw _ (List.mem_of_getElem? (i := 3) rfl)) (hw _ (List.mem_of_getElem? (i := 4) rfl)) (hw _ (List.mem_of_getElem? (i := 2) rfl)) (hw _ (List.mem_of_getElem? (i := 5) rfl)) (by decide) (W := 1) (rm := rm_1) (argsL := []) (st := [(.ref a20)]) (lenOf pd_0 rfl) rfl rfl (Nat.le_of_eq rfl) (by decide) (by decide) (by decide) (by decide) (c_mr l Z a0 hw n0 _ a20 upd_same a20_g) (nxV fun μ24 h24 => ?_)
  obtain ⟨q_memberOf, q_members, q_sizeCounts, q_taken, q_matchedTo, q_heldStarts, q_owners, q_holderStarts, q_valuesHeld, q_holders, q_index, q_seen, v_values, v_path, v_next, v_low, v_open, v_onStack, v_component, v_reached, k_a, q_memberOf_g, q_members_g, q_sizeCounts_g, q_taken_g, q_matchedTo_g, q_heldStarts_g, q_owners_g, q_holderStarts_g, q_valuesHeld_g, q_holders_g, q_index_g, q_seen_g, k_memberOf, k_members, k_sizeCounts, k_taken, k_matchedTo, k_heldStarts, k_owners, k_holderStarts, k_valuesHeld, k_holders, k_index, k_seen⟩ := h24
  refine Own.astore C at_27 (q := 29) rfl (L' := #[.val (.int u), .val (.int w), .val (.int c'), .val (.int z4), .val (.int z10), .val (.int z17), .val (.ref a20), .unset, .unset, .unset, .unset, .unset]) rfl rfl ?_
  refine Own.aload C at_29 (q := 31) rfl rfl rfl ?_
  refine Own.iloadN C at_31 (q := 32) rfl rfl ?_
  refine Own.callV C at_32 (q := 35) rfl (hw _ (List.mem_of_getElem? (i := 67) rfl)) (hw _ (List.mem_of_getElem? (i := 68) rfl)) (notFace_of_selects (args := #[]) (mvT C.2.2.2.1 (hw _ (List.mem_of_getElem? (i := 70) rfl)))) (hw _ (List.mem_of_getElem? (i := 70) rfl)) (hw _ (List.mem_of_getElem? (i := 69) rfl)) (hw _ (List.mem_of_getElem? (i := 2) rfl)) (hw _ (List.mem_of_getElem? (i := 71) rfl)) (by decide) (W := 0) (rm := rm_4) (argsL := [(.int z4)]) (st := []) (lenOf pd_1 rfl) rfl rfl (Nat.le_of_eq rfl) (by decide) (by decide) (by decide) (by decide) k_a (c_hold l Z a0 hw n0 _ a20 z4 (.ref q_memberOf) (.ref q_members) (.ref q_taken) (.ref q_matchedTo) (.ref q_owners) (.ref q_heldStarts) (.ref q_valuesHeld) (.ref q_holderStarts) (.ref q_holders) v_values (.ref q_seen) v_path v_next (.ref q_index) v_low v_open v_onStack v_component v_reached q_sizeCounts [] k_a k_sizeCounts a20_g ma.1 (by show ((0 : Nat) : Int) ≤ _; have := ma.1; omega)) (nxV fun μ32 h32 => ?_)
  obtain ⟨r32_memberOf, r32_members, r32_sizeCounts, r32_taken, r32_matchedTo, r32_heldStarts, k32_a, r32_memberOf_g, r32_members_g, r32_sizeCounts_g, r32_taken_g, r32_matchedTo_g, r32_heldStarts_g, k32_memberOf, k32_members, k32_sizeCounts, k32_taken, k32_matchedTo, k32_heldStarts, fr32⟩ := h32
  have f32_q_memberOf := fr32 _ _ k_memberOf (ne_ra k_memberOf k_a)
  have f32_q_members := fr32 _ _ k_members (ne_ra k_members k_a)
  have f32_q_sizeCounts := fr32 _ _ k_sizeCounts (ne_ra k_sizeCounts k_a)
  have f32_q_taken := fr32 _ _ k_taken (ne_ra k_taken k_a)
  have f32_q_matchedTo := fr32 _ _ k_matchedTo (ne_ra k_matchedTo k_a)
  have f32_q_heldStarts := fr32 _ _ k_heldStarts (ne_ra k_heldStarts k_a)
  have f32_q_owners := fr32 _ _ k_owners (ne_ra k_owners k_a)
  have f32_q_holderStarts := fr32 _ _ k_holderStarts (ne_ra k_holderStarts k_a)
  have f32_q_valuesHeld := fr32 _ _ k_valuesHeld (ne_ra k_valuesHeld k_a)
  have f32_q_holders := fr32 _ _ k_holders (ne_ra k_holders k_a)
  have f32_q_index := fr32 _ _ k_index (ne_ra k_index k_a)
  have f32_q_seen := fr32 _ _ k_seen (ne_ra k_seen k_a)
  refine Own.aload C at_35 (q := 37) rfl rfl rfl ?_
  refine Own.iloadN C at_37 (q := 38) rfl rfl ?_
  refine Own.callS C at_38 (q := 41) rfl (hw _ (List.mem_of_getElem? (i := 72) rfl)) (hw _ (List.mem_of_getElem? (i := 73) rfl)) (hw _ (List.mem_of_getElem? (i := 74) rfl)) (hw _ (List.mem_of_getElem? (i := 75) rfl)) (by decide) (W := 0) (rm := rm_5) (argsL := [(.ref a20), (.int z4)]) (st := []) (lenOf pd_2 rfl) rfl rfl (Nat.le_of_eq rfl) (by decide) (by decide) (by decide) (by decide) (c_check l Z a0 hw n0 _ a20 z4 r32_memberOf r32_members r32_sizeCounts r32_taken r32_matchedTo r32_heldStarts q_owners q_holderStarts q_valuesHeld q_holders q_index q_seen v_values v_path v_next v_low v_open v_onStack v_component v_reached z4.toNatClampNeg ma.2.2.1 ma.2.1 k32_a k32_memberOf k32_members k32_sizeCounts k32_taken k32_matchedTo k32_heldStarts f32_q_owners f32_q_holderStarts f32_q_valuesHeld f32_q_holders f32_q_index f32_q_seen) (nxI fun z38 μ38 h38 => ?_)
  obtain ⟨h38m, rfl⟩ := h38
  refine Own.mem h38m ?_
  refine Own.istore C at_41 (q := 43) rfl (L' := #[.val (.int u), .val (.int w), .val (.int c'), .val (.int z4), .val (.int z10), .val (.int z17), .val (.ref a20), .val (.int (1 : Int32)), .unset, .unset, .unset, .unset]) rfl ?_
  refine Own.aload C at_43 (q := 45) rfl rfl rfl ?_
  refine Own.callS C at_45 (q := 48) rfl (hw _ (List.mem_of_getElem? (i := 88) rfl)) (hw _ (List.mem_of_getElem? (i := 89) rfl)) (hw _ (List.mem_of_getElem? (i := 74) rfl)) (hw _ (List.mem_of_getElem? (i := 90) rfl)) (by decide) (W := 0) (rm := rm_6) (argsL := [(.ref a20)]) (st := []) (lenOf pd_3 rfl) rfl rfl (Nat.le_of_eq rfl) (by decide) (by decide) (by decide) (by decide) (c_keep l Z a0 hw n0 _ a20 r32_memberOf r32_members r32_sizeCounts r32_taken r32_matchedTo r32_heldStarts (.ref q_owners) (.ref q_valuesHeld) (.ref q_holderStarts) (.ref q_holders) v_values (.ref q_seen) v_path v_next (.ref q_index) v_low v_open v_onStack v_component v_reached (List.replicate z4.toNatClampNeg (Value.int 0)) (List.replicate z4.toNatClampNeg (Value.int 0)) (List.replicate (z4.toNatClampNeg + 1) (Value.int 0)) (List.replicate z4.toNatClampNeg (Value.int 0)) (List.replicate z4.toNatClampNeg (Value.int 0)) (List.replicate (z4.toNatClampNeg + 1) (Value.int 0)) k32_a k32_memberOf k32_members k32_sizeCounts k32_taken k32_matchedTo k32_heldStarts r32_memberOf_g r32_members_g r32_sizeCounts_g r32_taken_g r32_matchedTo_g r32_heldStarts_g) (nxR fun z45 μ45 z45_r h45 => ?_)
  obtain ⟨o45, rfl, o45_g, o45_f, rfl⟩ := h45
  have ne_q_memberOf_o45 := o45_f _ _ f32_q_memberOf
  have ne_q_members_o45 := o45_f _ _ f32_q_members
  have ne_q_sizeCounts_o45 := o45_f _ _ f32_q_sizeCounts
  have ne_q_taken_o45 := o45_f _ _ f32_q_taken
  have ne_q_matchedTo_o45 := o45_f _ _ f32_q_matchedTo
  have ne_q_heldStarts_o45 := o45_f _ _ f32_q_heldStarts
  have ne_q_owners_o45 := o45_f _ _ f32_q_owners
  have ne_q_holderStarts_o45 := o45_f _ _ f32_q_holderStarts
  have ne_q_valuesHeld_o45 := o45_f _ _ f32_q_valuesHeld
  have ne_q_holders_o45 := o45_f _ _ f32_q_holders
  have ne_q_index_o45 := o45_f _ _ f32_q_index
  have ne_q_seen_o45 := o45_f _ _ f32_q_seen
  have ne_r32_memberOf_o45 := o45_f _ _ k32_memberOf
  have ne_r32_members_o45 := o45_f _ _ k32_members
  have ne_r32_sizeCounts_o45 := o45_f _ _ k32_sizeCounts
  have ne_r32_taken_o45 := o45_f _ _ k32_taken
  have ne_r32_matchedTo_o45 := o45_f _ _ k32_matchedTo
  have ne_r32_heldStarts_o45 := o45_f _ _ k32_heldStarts
  have ne_a20_o45 := o45_f _ _ k32_a
  refine Own.astore C at_48 (q := 50) rfl (L' := #[.val (.int u), .val (.int w), .val (.int c'), .val (.int z4), .val (.int z10), .val (.int z17), .val (.ref a20), .val (.int (1 : Int32)), .val (.ref o45), .unset, .unset, .unset]) rfl rfl ?_
  refine Own.aload C at_50 (q := 52) rfl rfl rfl ?_
  refine Own.iload C at_52 (q := 54) rfl rfl ?_
  by_cases hc54 : z10.toInt ≤ z4.toInt
  · refine Own.callV C at_54 (q := 57) rfl (hw _ (List.mem_of_getElem? (i := 67) rfl)) (hw _ (List.mem_of_getElem? (i := 68) rfl)) (notFace_of_selects (args := #[]) (mvT C.2.2.2.1 (hw _ (List.mem_of_getElem? (i := 70) rfl)))) (hw _ (List.mem_of_getElem? (i := 70) rfl)) (hw _ (List.mem_of_getElem? (i := 69) rfl)) (hw _ (List.mem_of_getElem? (i := 2) rfl)) (hw _ (List.mem_of_getElem? (i := 71) rfl)) (by decide) (W := 0) (rm := rm_4) (argsL := [(.int z10)]) (st := []) (lenOf pd_1 rfl) rfl rfl (Nat.le_of_eq rfl) (by decide) (by decide) (by decide) (by decide) (upd_at ne_a20_o45 k32_a) (c_stay l Z a0 hw n0 _ a20 z10 (.ref r32_memberOf) (.ref r32_members) (.ref r32_taken) (.ref r32_matchedTo) (.ref q_owners) (.ref r32_heldStarts) (.ref q_valuesHeld) (.ref q_holderStarts) (.ref q_holders) v_values (.ref q_seen) v_path v_next (.ref q_index) v_low v_open v_onStack v_component v_reached r32_sizeCounts (List.replicate (z4.toNatClampNeg + 1) (Value.int 0)) (upd_at ne_a20_o45 k32_a) (upd_at ne_r32_sizeCounts_o45 k32_sizeCounts) a20_g (by rw [List.length_replicate]; have := ma.2.2.2; have := mb.2.2.2; have := mc.2.2.2; omega)) (nxV fun μ54 h54 => ?_)
    refine Own.mem h54 ?_
    refine Own.iloadN C at_57 (q := 58) rfl rfl ?_
    refine Own.iload C at_58 (q := 60) rfl rfl ?_
    refine Own.callS C at_60 (q := 63) rfl (hw _ (List.mem_of_getElem? (i := 94) rfl)) (hw _ (List.mem_of_getElem? (i := 95) rfl)) (hw _ (List.mem_of_getElem? (i := 96) rfl)) (hw _ (List.mem_of_getElem? (i := 97) rfl)) (by decide) (W := 0) (rm := rm_7) (argsL := [(.int z4), (.int z10)]) (st := []) (lenOf pd_4 rfl) rfl rfl (Nat.le_of_eq rfl) (by decide) (by decide) (by decide) (by decide) (c_max l Z a0 hw n0 _ z4 z10) (nxI fun z60 μ60 h60 => ?_)
    obtain ⟨h60m, h60⟩ := h60
    refine Own.mem h60m ?_
    refine Own.istore C at_63 (q := 65) rfl (L' := #[.val (.int u), .val (.int w), .val (.int c'), .val (.int z4), .val (.int z10), .val (.int z17), .val (.ref a20), .val (.int (1 : Int32)), .val (.ref o45), .val (.int z60), .unset, .unset]) rfl ?_
    refine Own.iload C at_65 (q := 67) rfl rfl ?_
    refine Own.if_eq C at_67 (q := 70) rfl (r := 84) (by decide) (fun h67 => ?_) (fun h67 => ?_)
    · exact absurd h67 (by decide)
    · refine Own.aload C at_70 (q := 72) rfl rfl rfl ?_
      refine Own.iload C at_72 (q := 74) rfl rfl ?_
      refine Own.callS C at_74 (q := 77) rfl (hw _ (List.mem_of_getElem? (i := 72) rfl)) (hw _ (List.mem_of_getElem? (i := 73) rfl)) (hw _ (List.mem_of_getElem? (i := 74) rfl)) (hw _ (List.mem_of_getElem? (i := 75) rfl)) (by decide) (W := 0) (rm := rm_5) (argsL := [(.ref a20), (.int z60)]) (st := []) (lenOf pd_2 rfl) rfl rfl (Nat.le_of_eq rfl) (by decide) (by decide) (by decide) (by decide) (c_check l Z a0 hw n0 _ a20 z60 r32_memberOf r32_members r32_sizeCounts r32_taken r32_matchedTo r32_heldStarts q_owners q_holderStarts q_valuesHeld q_holders q_index q_seen v_values v_path v_next v_low v_open v_onStack v_component v_reached z4.toNatClampNeg ma.2.2.1 (by rw [h60, mx_l hc54]; exact ma.2.1) (upd_at ne_a20_o45 k32_a) (upd_at ne_r32_memberOf_o45 k32_memberOf) (upd_at ne_r32_members_o45 k32_members) (upd_at ne_r32_sizeCounts_o45 k32_sizeCounts) (upd_at ne_r32_taken_o45 k32_taken) (upd_at ne_r32_matchedTo_o45 k32_matchedTo) (upd_at ne_r32_heldStarts_o45 k32_heldStarts) (upd_at ne_q_owners_o45 f32_q_owners) (upd_at ne_q_holderStarts_o45 f32_q_holderStarts) (upd_at ne_q_valuesHeld_o45 f32_q_valuesHeld) (upd_at ne_q_holders_o45 f32_q_holders) (upd_at ne_q_index_o45 f32_q_index) (upd_at ne_q_seen_o45 f32_q_seen)) (nxI fun z74 μ74 h74 => ?_)
      obtain ⟨h74m, rfl⟩ := h74
      refine Own.mem h74m ?_
      refine Own.if_eq C at_77 (q := 80) rfl (r := 84) (by decide) (fun h77 => ?_) (fun h77 => ?_)
      · exact absurd h77 (by decide)
      · refine Own.iconst C at_80 (q := 81) rfl (z := 1) (by decide) ?_
        refine Own.goto C at_81 (q := 85) (by decide) ?_
        refine Own.istore C at_85 (q := 87) rfl (L' := #[.val (.int u), .val (.int w), .val (.int c'), .val (.int z4), .val (.int z10), .val (.int z17), .val (.ref a20), .val (.int (1 : Int32)), .val (.ref o45), .val (.int z60), .unset, .unset]) rfl ?_
        refine Own.iload C at_87 (q := 89) rfl rfl ?_
        refine Own.iloadN C at_89 (q := 90) rfl rfl ?_
        refine Own.icmp_gt C at_90 (q := 93) rfl (r := 115) (by decide) (fun h90 => ?_) (fun h90 => ?_)
        · exfalso; rw [Int32.lt_iff_toInt_lt] at h90; omega
        · refine Own.iload C at_93 (q := 95) rfl rfl ?_
          refine Own.if_eq C at_95 (q := 98) rfl (r := 112) (by decide) (fun h95 => ?_) (fun h95 => ?_)
          · exact absurd h95 (by decide)
          · refine Own.aload C at_98 (q := 100) rfl rfl rfl ?_
            refine Own.aload C at_100 (q := 102) rfl rfl rfl ?_
            refine Own.callS C at_102 (q := 105) rfl (hw _ (List.mem_of_getElem? (i := 98) rfl)) (hw _ (List.mem_of_getElem? (i := 99) rfl)) (hw _ (List.mem_of_getElem? (i := 74) rfl)) (hw _ (List.mem_of_getElem? (i := 100) rfl)) (by decide) (W := 0) (rm := rm_8) (argsL := [(.ref a20), (.ref o45)]) (st := []) (lenOf pd_5 rfl) rfl rfl (Nat.le_of_eq rfl) (by decide) (by decide) (by decide) (by decide) (c_same l Z a0 hw n0 _ a20 o45 r32_memberOf r32_members r32_sizeCounts r32_taken r32_matchedTo r32_heldStarts (.ref q_owners) (.ref q_valuesHeld) (.ref q_holderStarts) (.ref q_holders) v_values (.ref q_seen) v_path v_next (.ref q_index) v_low v_open v_onStack v_component v_reached (upd_at ne_a20_o45 k32_a) upd_same) (nxI fun z102 μ102 h102 => ?_)
            obtain ⟨h102m, rfl⟩ := h102
            refine Own.mem h102m ?_
            refine Own.if_eq C at_105 (q := 108) rfl (r := 112) (by decide) (fun h105 => ?_) (fun h105 => ?_)
            · exact absurd h105 (by decide)
            · refine Own.iconst C at_108 (q := 109) rfl (z := 1) (by decide) ?_
              refine Own.goto C at_109 (q := 113) (by decide) ?_
              refine Own.istore C at_113 (q := 115) rfl (L' := #[.val (.int u), .val (.int w), .val (.int c'), .val (.int z4), .val (.int z10), .val (.int z17), .val (.ref a20), .val (.int (1 : Int32)), .val (.ref o45), .val (.int z60), .unset, .unset]) rfl ?_
              refine Own.aload C at_115 (q := 117) rfl rfl rfl ?_
              refine Own.callS C at_117 (q := 120) rfl (hw _ (List.mem_of_getElem? (i := 88) rfl)) (hw _ (List.mem_of_getElem? (i := 89) rfl)) (hw _ (List.mem_of_getElem? (i := 74) rfl)) (hw _ (List.mem_of_getElem? (i := 90) rfl)) (by decide) (W := 0) (rm := rm_6) (argsL := [(.ref a20)]) (st := []) (lenOf pd_3 rfl) rfl rfl (Nat.le_of_eq rfl) (by decide) (by decide) (by decide) (by decide) (c_keep l Z a0 hw n0 _ a20 r32_memberOf r32_members r32_sizeCounts r32_taken r32_matchedTo r32_heldStarts (.ref q_owners) (.ref q_valuesHeld) (.ref q_holderStarts) (.ref q_holders) v_values (.ref q_seen) v_path v_next (.ref q_index) v_low v_open v_onStack v_component v_reached (List.replicate z4.toNatClampNeg (Value.int 0)) (List.replicate z4.toNatClampNeg (Value.int 0)) (List.replicate (z4.toNatClampNeg + 1) (Value.int 0)) (List.replicate z4.toNatClampNeg (Value.int 0)) (List.replicate z4.toNatClampNeg (Value.int 0)) (List.replicate (z4.toNatClampNeg + 1) (Value.int 0)) (upd_at ne_a20_o45 k32_a) (upd_at ne_r32_memberOf_o45 k32_memberOf) (upd_at ne_r32_members_o45 k32_members) (upd_at ne_r32_sizeCounts_o45 k32_sizeCounts) (upd_at ne_r32_taken_o45 k32_taken) (upd_at ne_r32_matchedTo_o45 k32_matchedTo) (upd_at ne_r32_heldStarts_o45 k32_heldStarts) r32_memberOf_g r32_members_g r32_sizeCounts_g r32_taken_g r32_matchedTo_g r32_heldStarts_g) (nxR fun z117 μ117 z117_r h117 => ?_)
              obtain ⟨o117, rfl, o117_g, o117_f, rfl⟩ := h117
              have ne_o45_o117 := o117_f _ _ upd_same
              have ne_q_memberOf_o117 := o117_f _ _ (upd_at ne_q_memberOf_o45 f32_q_memberOf)
              have ne_q_members_o117 := o117_f _ _ (upd_at ne_q_members_o45 f32_q_members)
              have ne_q_sizeCounts_o117 := o117_f _ _ (upd_at ne_q_sizeCounts_o45 f32_q_sizeCounts)
              have ne_q_taken_o117 := o117_f _ _ (upd_at ne_q_taken_o45 f32_q_taken)
              have ne_q_matchedTo_o117 := o117_f _ _ (upd_at ne_q_matchedTo_o45 f32_q_matchedTo)
              have ne_q_heldStarts_o117 := o117_f _ _ (upd_at ne_q_heldStarts_o45 f32_q_heldStarts)
              have ne_q_owners_o117 := o117_f _ _ (upd_at ne_q_owners_o45 f32_q_owners)
              have ne_q_holderStarts_o117 := o117_f _ _ (upd_at ne_q_holderStarts_o45 f32_q_holderStarts)
              have ne_q_valuesHeld_o117 := o117_f _ _ (upd_at ne_q_valuesHeld_o45 f32_q_valuesHeld)
              have ne_q_holders_o117 := o117_f _ _ (upd_at ne_q_holders_o45 f32_q_holders)
              have ne_q_index_o117 := o117_f _ _ (upd_at ne_q_index_o45 f32_q_index)
              have ne_q_seen_o117 := o117_f _ _ (upd_at ne_q_seen_o45 f32_q_seen)
              have ne_r32_memberOf_o117 := o117_f _ _ (upd_at ne_r32_memberOf_o45 k32_memberOf)
              have ne_r32_members_o117 := o117_f _ _ (upd_at ne_r32_members_o45 k32_members)
              have ne_r32_sizeCounts_o117 := o117_f _ _ (upd_at ne_r32_sizeCounts_o45 k32_sizeCounts)
              have ne_r32_taken_o117 := o117_f _ _ (upd_at ne_r32_taken_o45 k32_taken)
              have ne_r32_matchedTo_o117 := o117_f _ _ (upd_at ne_r32_matchedTo_o45 k32_matchedTo)
              have ne_r32_heldStarts_o117 := o117_f _ _ (upd_at ne_r32_heldStarts_o45 k32_heldStarts)
              have ne_a20_o117 := o117_f _ _ (upd_at ne_a20_o45 k32_a)
              refine Own.astore C at_120 (q := 122) rfl (L' := #[.val (.int u), .val (.int w), .val (.int c'), .val (.int z4), .val (.int z10), .val (.int z17), .val (.ref a20), .val (.int (1 : Int32)), .val (.ref o45), .val (.int z60), .val (.ref o117), .unset]) rfl rfl ?_
              refine Own.aload C at_122 (q := 124) rfl rfl rfl ?_
              refine Own.iload C at_124 (q := 126) rfl rfl ?_
              by_cases hc126 : z17.toInt ≤ z4.toInt
              · refine Own.callV C at_126 (q := 129) rfl (hw _ (List.mem_of_getElem? (i := 67) rfl)) (hw _ (List.mem_of_getElem? (i := 68) rfl)) (notFace_of_selects (args := #[]) (mvT C.2.2.2.1 (hw _ (List.mem_of_getElem? (i := 70) rfl)))) (hw _ (List.mem_of_getElem? (i := 70) rfl)) (hw _ (List.mem_of_getElem? (i := 69) rfl)) (hw _ (List.mem_of_getElem? (i := 2) rfl)) (hw _ (List.mem_of_getElem? (i := 71) rfl)) (by decide) (W := 0) (rm := rm_4) (argsL := [(.int z17)]) (st := []) (lenOf pd_1 rfl) rfl rfl (Nat.le_of_eq rfl) (by decide) (by decide) (by decide) (by decide) (upd_at ne_a20_o117 (upd_at ne_a20_o45 k32_a)) (c_stay l Z a0 hw n0 _ a20 z17 (.ref r32_memberOf) (.ref r32_members) (.ref r32_taken) (.ref r32_matchedTo) (.ref q_owners) (.ref r32_heldStarts) (.ref q_valuesHeld) (.ref q_holderStarts) (.ref q_holders) v_values (.ref q_seen) v_path v_next (.ref q_index) v_low v_open v_onStack v_component v_reached r32_sizeCounts (List.replicate (z4.toNatClampNeg + 1) (Value.int 0)) (upd_at ne_a20_o117 (upd_at ne_a20_o45 k32_a)) (upd_at ne_r32_sizeCounts_o117 (upd_at ne_r32_sizeCounts_o45 k32_sizeCounts)) a20_g (by rw [List.length_replicate]; have := ma.2.2.2; have := mb.2.2.2; have := mc.2.2.2; omega)) (nxV fun μ126 h126 => ?_)
                refine Own.mem h126 ?_
                refine Own.iload C at_129 (q := 131) rfl rfl ?_
                refine Own.iload C at_131 (q := 133) rfl rfl ?_
                refine Own.callS C at_133 (q := 136) rfl (hw _ (List.mem_of_getElem? (i := 94) rfl)) (hw _ (List.mem_of_getElem? (i := 95) rfl)) (hw _ (List.mem_of_getElem? (i := 96) rfl)) (hw _ (List.mem_of_getElem? (i := 97) rfl)) (by decide) (W := 0) (rm := rm_7) (argsL := [(.int z60), (.int z17)]) (st := []) (lenOf pd_4 rfl) rfl rfl (Nat.le_of_eq rfl) (by decide) (by decide) (by decide) (by decide) (c_max l Z a0 hw n0 _ z60 z17) (nxI fun z133 μ133 h133 => ?_)
                obtain ⟨h133m, h133⟩ := h133
                refine Own.mem h133m ?_
                refine Own.istore C at_136 (q := 138) rfl (L' := #[.val (.int u), .val (.int w), .val (.int c'), .val (.int z4), .val (.int z10), .val (.int z17), .val (.ref a20), .val (.int (1 : Int32)), .val (.ref o45), .val (.int z60), .val (.ref o117), .val (.int z133)]) rfl ?_
                refine Own.iload C at_138 (q := 140) rfl rfl ?_
                refine Own.if_eq C at_140 (q := 143) rfl (r := 157) (by decide) (fun h140 => ?_) (fun h140 => ?_)
                · exact absurd h140 (by decide)
                · refine Own.aload C at_143 (q := 145) rfl rfl rfl ?_
                  refine Own.iload C at_145 (q := 147) rfl rfl ?_
                  refine Own.callS C at_147 (q := 150) rfl (hw _ (List.mem_of_getElem? (i := 72) rfl)) (hw _ (List.mem_of_getElem? (i := 73) rfl)) (hw _ (List.mem_of_getElem? (i := 74) rfl)) (hw _ (List.mem_of_getElem? (i := 75) rfl)) (by decide) (W := 0) (rm := rm_5) (argsL := [(.ref a20), (.int z133)]) (st := []) (lenOf pd_2 rfl) rfl rfl (Nat.le_of_eq rfl) (by decide) (by decide) (by decide) (by decide) (c_check l Z a0 hw n0 _ a20 z133 r32_memberOf r32_members r32_sizeCounts r32_taken r32_matchedTo r32_heldStarts q_owners q_holderStarts q_valuesHeld q_holders q_index q_seen v_values v_path v_next v_low v_open v_onStack v_component v_reached z4.toNatClampNeg ma.2.2.1 (by rw [h133, h60, mx_l hc54, mx_l hc126]; exact ma.2.1) (upd_at ne_a20_o117 (upd_at ne_a20_o45 k32_a)) (upd_at ne_r32_memberOf_o117 (upd_at ne_r32_memberOf_o45 k32_memberOf)) (upd_at ne_r32_members_o117 (upd_at ne_r32_members_o45 k32_members)) (upd_at ne_r32_sizeCounts_o117 (upd_at ne_r32_sizeCounts_o45 k32_sizeCounts)) (upd_at ne_r32_taken_o117 (upd_at ne_r32_taken_o45 k32_taken)) (upd_at ne_r32_matchedTo_o117 (upd_at ne_r32_matchedTo_o45 k32_matchedTo)) (upd_at ne_r32_heldStarts_o117 (upd_at ne_r32_heldStarts_o45 k32_heldStarts)) (upd_at ne_q_owners_o117 (upd_at ne_q_owners_o45 f32_q_owners)) (upd_at ne_q_holderStarts_o117 (upd_at ne_q_holderStarts_o45 f32_q_holderStarts)) (upd_at ne_q_valuesHeld_o117 (upd_at ne_q_valuesHeld_o45 f32_q_valuesHeld)) (upd_at ne_q_holders_o117 (upd_at ne_q_holders_o45 f32_q_holders)) (upd_at ne_q_index_o117 (upd_at ne_q_index_o45 f32_q_index)) (upd_at ne_q_seen_o117 (upd_at ne_q_seen_o45 f32_q_seen))) (nxI fun z147 μ147 h147 => ?_)
                  obtain ⟨h147m, rfl⟩ := h147
                  refine Own.mem h147m ?_
                  refine Own.if_eq C at_150 (q := 153) rfl (r := 157) (by decide) (fun h150 => ?_) (fun h150 => ?_)
                  · exact absurd h150 (by decide)
                  · refine Own.iconst C at_153 (q := 154) rfl (z := 1) (by decide) ?_
                    refine Own.goto C at_154 (q := 158) (by decide) ?_
                    refine Own.istore C at_158 (q := 160) rfl (L' := #[.val (.int u), .val (.int w), .val (.int c'), .val (.int z4), .val (.int z10), .val (.int z17), .val (.ref a20), .val (.int (1 : Int32)), .val (.ref o45), .val (.int z60), .val (.ref o117), .val (.int z133)]) rfl ?_
                    refine Own.iload C at_160 (q := 162) rfl rfl ?_
                    refine Own.iload C at_162 (q := 164) rfl rfl ?_
                    refine Own.icmp_gt C at_164 (q := 167) rfl (r := 189) (by decide) (fun h164 => ?_) (fun h164 => ?_)
                    · exfalso; rw [h60, mx_l hc54, Int32.lt_iff_toInt_lt] at h164; omega
                    · refine Own.iload C at_167 (q := 169) rfl rfl ?_
                      refine Own.if_eq C at_169 (q := 172) rfl (r := 186) (by decide) (fun h169 => ?_) (fun h169 => ?_)
                      · exact absurd h169 (by decide)
                      · refine Own.aload C at_172 (q := 174) rfl rfl rfl ?_
                        refine Own.aload C at_174 (q := 176) rfl rfl rfl ?_
                        refine Own.callS C at_176 (q := 179) rfl (hw _ (List.mem_of_getElem? (i := 98) rfl)) (hw _ (List.mem_of_getElem? (i := 99) rfl)) (hw _ (List.mem_of_getElem? (i := 74) rfl)) (hw _ (List.mem_of_getElem? (i := 100) rfl)) (by decide) (W := 0) (rm := rm_8) (argsL := [(.ref a20), (.ref o117)]) (st := []) (lenOf pd_5 rfl) rfl rfl (Nat.le_of_eq rfl) (by decide) (by decide) (by decide) (by decide) (c_same l Z a0 hw n0 _ a20 o117 r32_memberOf r32_members r32_sizeCounts r32_taken r32_matchedTo r32_heldStarts (.ref q_owners) (.ref q_valuesHeld) (.ref q_holderStarts) (.ref q_holders) v_values (.ref q_seen) v_path v_next (.ref q_index) v_low v_open v_onStack v_component v_reached (upd_at ne_a20_o117 (upd_at ne_a20_o45 k32_a)) upd_same) (nxI fun z176 μ176 h176 => ?_)
                        obtain ⟨h176m, rfl⟩ := h176
                        refine Own.mem h176m ?_
                        refine Own.if_eq C at_179 (q := 182) rfl (r := 186) (by decide) (fun h179 => ?_) (fun h179 => ?_)
                        · exact absurd h179 (by decide)
                        · refine Own.iconst C at_182 (q := 183) rfl (z := 1) (by decide) ?_
                          refine Own.goto C at_183 (q := 187) (by decide) ?_
                          refine Own.istore C at_187 (q := 189) rfl (L' := #[.val (.int u), .val (.int w), .val (.int c'), .val (.int z4), .val (.int z10), .val (.int z17), .val (.ref a20), .val (.int (1 : Int32)), .val (.ref o45), .val (.int z60), .val (.ref o117), .val (.int z133)]) rfl ?_
                          refine Own.iload C at_189 (q := 191) rfl rfl ?_
                          refine Own.nreturn C at_191 (by simp) (z' := (1 : Int32)) (by decide) (by decide) (by decide) ?_
                          rfl
              · refine Own.callV C at_126 (q := 129) rfl (hw _ (List.mem_of_getElem? (i := 67) rfl)) (hw _ (List.mem_of_getElem? (i := 68) rfl)) (notFace_of_selects (args := #[]) (mvT C.2.2.2.1 (hw _ (List.mem_of_getElem? (i := 70) rfl)))) (hw _ (List.mem_of_getElem? (i := 70) rfl)) (hw _ (List.mem_of_getElem? (i := 69) rfl)) (hw _ (List.mem_of_getElem? (i := 2) rfl)) (hw _ (List.mem_of_getElem? (i := 71) rfl)) (by decide) (W := 0) (rm := rm_4) (argsL := [(.int z17)]) (st := []) (lenOf pd_1 rfl) rfl rfl (Nat.le_of_eq rfl) (by decide) (by decide) (by decide) (by decide) (upd_at ne_a20_o117 (upd_at ne_a20_o45 k32_a)) (c_hold l Z a0 hw n0 _ a20 z17 (.ref r32_memberOf) (.ref r32_members) (.ref r32_taken) (.ref r32_matchedTo) (.ref q_owners) (.ref r32_heldStarts) (.ref q_valuesHeld) (.ref q_holderStarts) (.ref q_holders) v_values (.ref q_seen) v_path v_next (.ref q_index) v_low v_open v_onStack v_component v_reached r32_sizeCounts (List.replicate (z4.toNatClampNeg + 1) (Value.int 0)) (upd_at ne_a20_o117 (upd_at ne_a20_o45 k32_a)) (upd_at ne_r32_sizeCounts_o117 (upd_at ne_r32_sizeCounts_o45 k32_sizeCounts)) a20_g mc.1 (by rw [List.length_replicate]; have := ma.2.2.2; have := mb.2.2.2; have := mc.2.2.2; omega)) (nxV fun μ126 h126 => ?_)
                obtain ⟨r126_memberOf, r126_members, r126_sizeCounts, r126_taken, r126_matchedTo, r126_heldStarts, k126_a, r126_memberOf_g, r126_members_g, r126_sizeCounts_g, r126_taken_g, r126_matchedTo_g, r126_heldStarts_g, k126_memberOf, k126_members, k126_sizeCounts, k126_taken, k126_matchedTo, k126_heldStarts, fr126⟩ := h126
                have f126_o45 := fr126 _ _ (upd_at ne_o45_o117 upd_same) (Ne.symm ne_a20_o45)
                have f126_o117 := fr126 _ _ upd_same (Ne.symm ne_a20_o117)
                have f126_q_memberOf := fr126 _ _ (upd_at ne_q_memberOf_o117 (upd_at ne_q_memberOf_o45 f32_q_memberOf)) (ne_ra f32_q_memberOf k32_a)
                have f126_q_members := fr126 _ _ (upd_at ne_q_members_o117 (upd_at ne_q_members_o45 f32_q_members)) (ne_ra f32_q_members k32_a)
                have f126_q_sizeCounts := fr126 _ _ (upd_at ne_q_sizeCounts_o117 (upd_at ne_q_sizeCounts_o45 f32_q_sizeCounts)) (ne_ra f32_q_sizeCounts k32_a)
                have f126_q_taken := fr126 _ _ (upd_at ne_q_taken_o117 (upd_at ne_q_taken_o45 f32_q_taken)) (ne_ra f32_q_taken k32_a)
                have f126_q_matchedTo := fr126 _ _ (upd_at ne_q_matchedTo_o117 (upd_at ne_q_matchedTo_o45 f32_q_matchedTo)) (ne_ra f32_q_matchedTo k32_a)
                have f126_q_heldStarts := fr126 _ _ (upd_at ne_q_heldStarts_o117 (upd_at ne_q_heldStarts_o45 f32_q_heldStarts)) (ne_ra f32_q_heldStarts k32_a)
                have f126_q_owners := fr126 _ _ (upd_at ne_q_owners_o117 (upd_at ne_q_owners_o45 f32_q_owners)) (ne_ra f32_q_owners k32_a)
                have f126_q_holderStarts := fr126 _ _ (upd_at ne_q_holderStarts_o117 (upd_at ne_q_holderStarts_o45 f32_q_holderStarts)) (ne_ra f32_q_holderStarts k32_a)
                have f126_q_valuesHeld := fr126 _ _ (upd_at ne_q_valuesHeld_o117 (upd_at ne_q_valuesHeld_o45 f32_q_valuesHeld)) (ne_ra f32_q_valuesHeld k32_a)
                have f126_q_holders := fr126 _ _ (upd_at ne_q_holders_o117 (upd_at ne_q_holders_o45 f32_q_holders)) (ne_ra f32_q_holders k32_a)
                have f126_q_index := fr126 _ _ (upd_at ne_q_index_o117 (upd_at ne_q_index_o45 f32_q_index)) (ne_ra f32_q_index k32_a)
                have f126_q_seen := fr126 _ _ (upd_at ne_q_seen_o117 (upd_at ne_q_seen_o45 f32_q_seen)) (ne_ra f32_q_seen k32_a)
                have f126_r32_memberOf := fr126 _ _ (upd_at ne_r32_memberOf_o117 (upd_at ne_r32_memberOf_o45 k32_memberOf)) (ne_ra k32_memberOf k32_a)
                have f126_r32_members := fr126 _ _ (upd_at ne_r32_members_o117 (upd_at ne_r32_members_o45 k32_members)) (ne_ra k32_members k32_a)
                have f126_r32_sizeCounts := fr126 _ _ (upd_at ne_r32_sizeCounts_o117 (upd_at ne_r32_sizeCounts_o45 k32_sizeCounts)) (ne_ra k32_sizeCounts k32_a)
                have f126_r32_taken := fr126 _ _ (upd_at ne_r32_taken_o117 (upd_at ne_r32_taken_o45 k32_taken)) (ne_ra k32_taken k32_a)
                have f126_r32_matchedTo := fr126 _ _ (upd_at ne_r32_matchedTo_o117 (upd_at ne_r32_matchedTo_o45 k32_matchedTo)) (ne_ra k32_matchedTo k32_a)
                have f126_r32_heldStarts := fr126 _ _ (upd_at ne_r32_heldStarts_o117 (upd_at ne_r32_heldStarts_o45 k32_heldStarts)) (ne_ra k32_heldStarts k32_a)
                refine Own.iload C at_129 (q := 131) rfl rfl ?_
                refine Own.iload C at_131 (q := 133) rfl rfl ?_
                refine Own.callS C at_133 (q := 136) rfl (hw _ (List.mem_of_getElem? (i := 94) rfl)) (hw _ (List.mem_of_getElem? (i := 95) rfl)) (hw _ (List.mem_of_getElem? (i := 96) rfl)) (hw _ (List.mem_of_getElem? (i := 97) rfl)) (by decide) (W := 0) (rm := rm_7) (argsL := [(.int z60), (.int z17)]) (st := []) (lenOf pd_4 rfl) rfl rfl (Nat.le_of_eq rfl) (by decide) (by decide) (by decide) (by decide) (c_max l Z a0 hw n0 _ z60 z17) (nxI fun z133 μ133 h133 => ?_)
                obtain ⟨h133m, h133⟩ := h133
                refine Own.mem h133m ?_
                refine Own.istore C at_136 (q := 138) rfl (L' := #[.val (.int u), .val (.int w), .val (.int c'), .val (.int z4), .val (.int z10), .val (.int z17), .val (.ref a20), .val (.int (1 : Int32)), .val (.ref o45), .val (.int z60), .val (.ref o117), .val (.int z133)]) rfl ?_
                refine Own.iload C at_138 (q := 140) rfl rfl ?_
                refine Own.if_eq C at_140 (q := 143) rfl (r := 157) (by decide) (fun h140 => ?_) (fun h140 => ?_)
                · exact absurd h140 (by decide)
                · refine Own.aload C at_143 (q := 145) rfl rfl rfl ?_
                  refine Own.iload C at_145 (q := 147) rfl rfl ?_
                  refine Own.callS C at_147 (q := 150) rfl (hw _ (List.mem_of_getElem? (i := 72) rfl)) (hw _ (List.mem_of_getElem? (i := 73) rfl)) (hw _ (List.mem_of_getElem? (i := 74) rfl)) (hw _ (List.mem_of_getElem? (i := 75) rfl)) (by decide) (W := 0) (rm := rm_5) (argsL := [(.ref a20), (.int z133)]) (st := []) (lenOf pd_2 rfl) rfl rfl (Nat.le_of_eq rfl) (by decide) (by decide) (by decide) (by decide) (c_check l Z a0 hw n0 _ a20 z133 r126_memberOf r126_members r126_sizeCounts r126_taken r126_matchedTo r126_heldStarts q_owners q_holderStarts q_valuesHeld q_holders q_index q_seen v_values v_path v_next v_low v_open v_onStack v_component v_reached z17.toNatClampNeg mc.2.2.1 (by rw [h133, h60, mx_l hc54, mx_r hc126]; exact mc.2.1) k126_a k126_memberOf k126_members k126_sizeCounts k126_taken k126_matchedTo k126_heldStarts f126_q_owners f126_q_holderStarts f126_q_valuesHeld f126_q_holders f126_q_index f126_q_seen) (nxI fun z147 μ147 h147 => ?_)
                  obtain ⟨h147m, rfl⟩ := h147
                  refine Own.mem h147m ?_
                  refine Own.if_eq C at_150 (q := 153) rfl (r := 157) (by decide) (fun h150 => ?_) (fun h150 => ?_)
                  · exact absurd h150 (by decide)
                  · refine Own.iconst C at_153 (q := 154) rfl (z := 1) (by decide) ?_
                    refine Own.goto C at_154 (q := 158) (by decide) ?_
                    refine Own.istore C at_158 (q := 160) rfl (L' := #[.val (.int u), .val (.int w), .val (.int c'), .val (.int z4), .val (.int z10), .val (.int z17), .val (.ref a20), .val (.int (1 : Int32)), .val (.ref o45), .val (.int z60), .val (.ref o117), .val (.int z133)]) rfl ?_
                    refine Own.iload C at_160 (q := 162) rfl rfl ?_
                    refine Own.iload C at_162 (q := 164) rfl rfl ?_
                    refine Own.icmp_gt C at_164 (q := 167) rfl (r := 189) (by decide) (fun h164 => ?_) (fun h164 => ?_)
                    · refine Own.iload C at_189 (q := 191) rfl rfl ?_
                      refine Own.nreturn C at_191 (by simp) (z' := (1 : Int32)) (by decide) (by decide) (by decide) ?_
                      rfl
                    · exfalso; rw [h60, mx_l hc54, Int32.lt_iff_toInt_lt] at h164; omega
  · refine Own.callV C at_54 (q := 57) rfl (hw _ (List.mem_of_getElem? (i := 67) rfl)) (hw _ (List.mem_of_getElem? (i := 68) rfl)) (notFace_of_selects (args := #[]) (mvT C.2.2.2.1 (hw _ (List.mem_of_getElem? (i := 70) rfl)))) (hw _ (List.mem_of_getElem? (i := 70) rfl)) (hw _ (List.mem_of_getElem? (i := 69) rfl)) (hw _ (List.mem_of_getElem? (i := 2) rfl)) (hw _ (List.mem_of_getElem? (i := 71) rfl)) (by decide) (W := 0) (rm := rm_4) (argsL := [(.int z10)]) (st := []) (lenOf pd_1 rfl) rfl rfl (Nat.le_of_eq rfl) (by decide) (by decide) (by decide) (by decide) (upd_at ne_a20_o45 k32_a) (c_hold l Z a0 hw n0 _ a20 z10 (.ref r32_memberOf) (.ref r32_members) (.ref r32_taken) (.ref r32_matchedTo) (.ref q_owners) (.ref r32_heldStarts) (.ref q_valuesHeld) (.ref q_holderStarts) (.ref q_holders) v_values (.ref q_seen) v_path v_next (.ref q_index) v_low v_open v_onStack v_component v_reached r32_sizeCounts (List.replicate (z4.toNatClampNeg + 1) (Value.int 0)) (upd_at ne_a20_o45 k32_a) (upd_at ne_r32_sizeCounts_o45 k32_sizeCounts) a20_g mb.1 (by rw [List.length_replicate]; have := ma.2.2.2; have := mb.2.2.2; have := mc.2.2.2; omega)) (nxV fun μ54 h54 => ?_)
    obtain ⟨r54_memberOf, r54_members, r54_sizeCounts, r54_taken, r54_matchedTo, r54_heldStarts, k54_a, r54_memberOf_g, r54_members_g, r54_sizeCounts_g, r54_taken_g, r54_matchedTo_g, r54_heldStarts_g, k54_memberOf, k54_members, k54_sizeCounts, k54_taken, k54_matchedTo, k54_heldStarts, fr54⟩ := h54
    have f54_o45 := fr54 _ _ upd_same (Ne.symm ne_a20_o45)
    have f54_q_memberOf := fr54 _ _ (upd_at ne_q_memberOf_o45 f32_q_memberOf) (ne_ra f32_q_memberOf k32_a)
    have f54_q_members := fr54 _ _ (upd_at ne_q_members_o45 f32_q_members) (ne_ra f32_q_members k32_a)
    have f54_q_sizeCounts := fr54 _ _ (upd_at ne_q_sizeCounts_o45 f32_q_sizeCounts) (ne_ra f32_q_sizeCounts k32_a)
    have f54_q_taken := fr54 _ _ (upd_at ne_q_taken_o45 f32_q_taken) (ne_ra f32_q_taken k32_a)
    have f54_q_matchedTo := fr54 _ _ (upd_at ne_q_matchedTo_o45 f32_q_matchedTo) (ne_ra f32_q_matchedTo k32_a)
    have f54_q_heldStarts := fr54 _ _ (upd_at ne_q_heldStarts_o45 f32_q_heldStarts) (ne_ra f32_q_heldStarts k32_a)
    have f54_q_owners := fr54 _ _ (upd_at ne_q_owners_o45 f32_q_owners) (ne_ra f32_q_owners k32_a)
    have f54_q_holderStarts := fr54 _ _ (upd_at ne_q_holderStarts_o45 f32_q_holderStarts) (ne_ra f32_q_holderStarts k32_a)
    have f54_q_valuesHeld := fr54 _ _ (upd_at ne_q_valuesHeld_o45 f32_q_valuesHeld) (ne_ra f32_q_valuesHeld k32_a)
    have f54_q_holders := fr54 _ _ (upd_at ne_q_holders_o45 f32_q_holders) (ne_ra f32_q_holders k32_a)
    have f54_q_index := fr54 _ _ (upd_at ne_q_index_o45 f32_q_index) (ne_ra f32_q_index k32_a)
    have f54_q_seen := fr54 _ _ (upd_at ne_q_seen_o45 f32_q_seen) (ne_ra f32_q_seen k32_a)
    have f54_r32_memberOf := fr54 _ _ (upd_at ne_r32_memberOf_o45 k32_memberOf) (ne_ra k32_memberOf k32_a)
    have f54_r32_members := fr54 _ _ (upd_at ne_r32_members_o45 k32_members) (ne_ra k32_members k32_a)
    have f54_r32_sizeCounts := fr54 _ _ (upd_at ne_r32_sizeCounts_o45 k32_sizeCounts) (ne_ra k32_sizeCounts k32_a)
    have f54_r32_taken := fr54 _ _ (upd_at ne_r32_taken_o45 k32_taken) (ne_ra k32_taken k32_a)
    have f54_r32_matchedTo := fr54 _ _ (upd_at ne_r32_matchedTo_o45 k32_matchedTo) (ne_ra k32_matchedTo k32_a)
    have f54_r32_heldStarts := fr54 _ _ (upd_at ne_r32_heldStarts_o45 k32_heldStarts) (ne_ra k32_heldStarts k32_a)
    refine Own.iloadN C at_57 (q := 58) rfl rfl ?_
    refine Own.iload C at_58 (q := 60) rfl rfl ?_
    refine Own.callS C at_60 (q := 63) rfl (hw _ (List.mem_of_getElem? (i := 94) rfl)) (hw _ (List.mem_of_getElem? (i := 95) rfl)) (hw _ (List.mem_of_getElem? (i := 96) rfl)) (hw _ (List.mem_of_getElem? (i := 97) rfl)) (by decide) (W := 0) (rm := rm_7) (argsL := [(.int z4), (.int z10)]) (st := []) (lenOf pd_4 rfl) rfl rfl (Nat.le_of_eq rfl) (by decide) (by decide) (by decide) (by decide) (c_max l Z a0 hw n0 _ z4 z10) (nxI fun z60 μ60 h60 => ?_)
    obtain ⟨h60m, h60⟩ := h60
    refine Own.mem h60m ?_
    refine Own.istore C at_63 (q := 65) rfl (L' := #[.val (.int u), .val (.int w), .val (.int c'), .val (.int z4), .val (.int z10), .val (.int z17), .val (.ref a20), .val (.int (1 : Int32)), .val (.ref o45), .val (.int z60), .unset, .unset]) rfl ?_
    refine Own.iload C at_65 (q := 67) rfl rfl ?_
    refine Own.if_eq C at_67 (q := 70) rfl (r := 84) (by decide) (fun h67 => ?_) (fun h67 => ?_)
    · exact absurd h67 (by decide)
    · refine Own.aload C at_70 (q := 72) rfl rfl rfl ?_
      refine Own.iload C at_72 (q := 74) rfl rfl ?_
      refine Own.callS C at_74 (q := 77) rfl (hw _ (List.mem_of_getElem? (i := 72) rfl)) (hw _ (List.mem_of_getElem? (i := 73) rfl)) (hw _ (List.mem_of_getElem? (i := 74) rfl)) (hw _ (List.mem_of_getElem? (i := 75) rfl)) (by decide) (W := 0) (rm := rm_5) (argsL := [(.ref a20), (.int z60)]) (st := []) (lenOf pd_2 rfl) rfl rfl (Nat.le_of_eq rfl) (by decide) (by decide) (by decide) (by decide) (c_check l Z a0 hw n0 _ a20 z60 r54_memberOf r54_members r54_sizeCounts r54_taken r54_matchedTo r54_heldStarts q_owners q_holderStarts q_valuesHeld q_holders q_index q_seen v_values v_path v_next v_low v_open v_onStack v_component v_reached z10.toNatClampNeg mb.2.2.1 (by rw [h60, mx_r hc54]; exact mb.2.1) k54_a k54_memberOf k54_members k54_sizeCounts k54_taken k54_matchedTo k54_heldStarts f54_q_owners f54_q_holderStarts f54_q_valuesHeld f54_q_holders f54_q_index f54_q_seen) (nxI fun z74 μ74 h74 => ?_)
      obtain ⟨h74m, rfl⟩ := h74
      refine Own.mem h74m ?_
      refine Own.if_eq C at_77 (q := 80) rfl (r := 84) (by decide) (fun h77 => ?_) (fun h77 => ?_)
      · exact absurd h77 (by decide)
      · refine Own.iconst C at_80 (q := 81) rfl (z := 1) (by decide) ?_
        refine Own.goto C at_81 (q := 85) (by decide) ?_
        refine Own.istore C at_85 (q := 87) rfl (L' := #[.val (.int u), .val (.int w), .val (.int c'), .val (.int z4), .val (.int z10), .val (.int z17), .val (.ref a20), .val (.int (1 : Int32)), .val (.ref o45), .val (.int z60), .unset, .unset]) rfl ?_
        refine Own.iload C at_87 (q := 89) rfl rfl ?_
        refine Own.iloadN C at_89 (q := 90) rfl rfl ?_
        refine Own.icmp_gt C at_90 (q := 93) rfl (r := 115) (by decide) (fun h90 => ?_) (fun h90 => ?_)
        · refine Own.aload C at_115 (q := 117) rfl rfl rfl ?_
          refine Own.callS C at_117 (q := 120) rfl (hw _ (List.mem_of_getElem? (i := 88) rfl)) (hw _ (List.mem_of_getElem? (i := 89) rfl)) (hw _ (List.mem_of_getElem? (i := 74) rfl)) (hw _ (List.mem_of_getElem? (i := 90) rfl)) (by decide) (W := 0) (rm := rm_6) (argsL := [(.ref a20)]) (st := []) (lenOf pd_3 rfl) rfl rfl (Nat.le_of_eq rfl) (by decide) (by decide) (by decide) (by decide) (c_keep l Z a0 hw n0 _ a20 r54_memberOf r54_members r54_sizeCounts r54_taken r54_matchedTo r54_heldStarts (.ref q_owners) (.ref q_valuesHeld) (.ref q_holderStarts) (.ref q_holders) v_values (.ref q_seen) v_path v_next (.ref q_index) v_low v_open v_onStack v_component v_reached (List.replicate z10.toNatClampNeg (Value.int 0)) (List.replicate z10.toNatClampNeg (Value.int 0)) (List.replicate (z10.toNatClampNeg + 1) (Value.int 0)) (List.replicate z10.toNatClampNeg (Value.int 0)) (List.replicate z10.toNatClampNeg (Value.int 0)) (List.replicate (z10.toNatClampNeg + 1) (Value.int 0)) k54_a k54_memberOf k54_members k54_sizeCounts k54_taken k54_matchedTo k54_heldStarts r54_memberOf_g r54_members_g r54_sizeCounts_g r54_taken_g r54_matchedTo_g r54_heldStarts_g) (nxR fun z117 μ117 z117_r h117 => ?_)
          obtain ⟨o117, rfl, o117_g, o117_f, rfl⟩ := h117
          have ne_o45_o117 := o117_f _ _ f54_o45
          have ne_q_memberOf_o117 := o117_f _ _ f54_q_memberOf
          have ne_q_members_o117 := o117_f _ _ f54_q_members
          have ne_q_sizeCounts_o117 := o117_f _ _ f54_q_sizeCounts
          have ne_q_taken_o117 := o117_f _ _ f54_q_taken
          have ne_q_matchedTo_o117 := o117_f _ _ f54_q_matchedTo
          have ne_q_heldStarts_o117 := o117_f _ _ f54_q_heldStarts
          have ne_q_owners_o117 := o117_f _ _ f54_q_owners
          have ne_q_holderStarts_o117 := o117_f _ _ f54_q_holderStarts
          have ne_q_valuesHeld_o117 := o117_f _ _ f54_q_valuesHeld
          have ne_q_holders_o117 := o117_f _ _ f54_q_holders
          have ne_q_index_o117 := o117_f _ _ f54_q_index
          have ne_q_seen_o117 := o117_f _ _ f54_q_seen
          have ne_r32_memberOf_o117 := o117_f _ _ f54_r32_memberOf
          have ne_r32_members_o117 := o117_f _ _ f54_r32_members
          have ne_r32_sizeCounts_o117 := o117_f _ _ f54_r32_sizeCounts
          have ne_r32_taken_o117 := o117_f _ _ f54_r32_taken
          have ne_r32_matchedTo_o117 := o117_f _ _ f54_r32_matchedTo
          have ne_r32_heldStarts_o117 := o117_f _ _ f54_r32_heldStarts
          have ne_r54_memberOf_o117 := o117_f _ _ k54_memberOf
          have ne_r54_members_o117 := o117_f _ _ k54_members
          have ne_r54_sizeCounts_o117 := o117_f _ _ k54_sizeCounts
          have ne_r54_taken_o117 := o117_f _ _ k54_taken
          have ne_r54_matchedTo_o117 := o117_f _ _ k54_matchedTo
          have ne_r54_heldStarts_o117 := o117_f _ _ k54_heldStarts
          have ne_a20_o117 := o117_f _ _ k54_a
          refine Own.astore C at_120 (q := 122) rfl (L' := #[.val (.int u), .val (.int w), .val (.int c'), .val (.int z4), .val (.int z10), .val (.int z17), .val (.ref a20), .val (.int (1 : Int32)), .val (.ref o45), .val (.int z60), .val (.ref o117), .unset]) rfl rfl ?_
          refine Own.aload C at_122 (q := 124) rfl rfl rfl ?_
          refine Own.iload C at_124 (q := 126) rfl rfl ?_
          by_cases hc126 : z17.toInt ≤ z10.toInt
          · refine Own.callV C at_126 (q := 129) rfl (hw _ (List.mem_of_getElem? (i := 67) rfl)) (hw _ (List.mem_of_getElem? (i := 68) rfl)) (notFace_of_selects (args := #[]) (mvT C.2.2.2.1 (hw _ (List.mem_of_getElem? (i := 70) rfl)))) (hw _ (List.mem_of_getElem? (i := 70) rfl)) (hw _ (List.mem_of_getElem? (i := 69) rfl)) (hw _ (List.mem_of_getElem? (i := 2) rfl)) (hw _ (List.mem_of_getElem? (i := 71) rfl)) (by decide) (W := 0) (rm := rm_4) (argsL := [(.int z17)]) (st := []) (lenOf pd_1 rfl) rfl rfl (Nat.le_of_eq rfl) (by decide) (by decide) (by decide) (by decide) (upd_at ne_a20_o117 k54_a) (c_stay l Z a0 hw n0 _ a20 z17 (.ref r54_memberOf) (.ref r54_members) (.ref r54_taken) (.ref r54_matchedTo) (.ref q_owners) (.ref r54_heldStarts) (.ref q_valuesHeld) (.ref q_holderStarts) (.ref q_holders) v_values (.ref q_seen) v_path v_next (.ref q_index) v_low v_open v_onStack v_component v_reached r54_sizeCounts (List.replicate (z10.toNatClampNeg + 1) (Value.int 0)) (upd_at ne_a20_o117 k54_a) (upd_at ne_r54_sizeCounts_o117 k54_sizeCounts) a20_g (by rw [List.length_replicate]; have := ma.2.2.2; have := mb.2.2.2; have := mc.2.2.2; omega)) (nxV fun μ126 h126 => ?_)
            refine Own.mem h126 ?_
            refine Own.iload C at_129 (q := 131) rfl rfl ?_
            refine Own.iload C at_131 (q := 133) rfl rfl ?_
            refine Own.callS C at_133 (q := 136) rfl (hw _ (List.mem_of_getElem? (i := 94) rfl)) (hw _ (List.mem_of_getElem? (i := 95) rfl)) (hw _ (List.mem_of_getElem? (i := 96) rfl)) (hw _ (List.mem_of_getElem? (i := 97) rfl)) (by decide) (W := 0) (rm := rm_7) (argsL := [(.int z60), (.int z17)]) (st := []) (lenOf pd_4 rfl) rfl rfl (Nat.le_of_eq rfl) (by decide) (by decide) (by decide) (by decide) (c_max l Z a0 hw n0 _ z60 z17) (nxI fun z133 μ133 h133 => ?_)
            obtain ⟨h133m, h133⟩ := h133
            refine Own.mem h133m ?_
            refine Own.istore C at_136 (q := 138) rfl (L' := #[.val (.int u), .val (.int w), .val (.int c'), .val (.int z4), .val (.int z10), .val (.int z17), .val (.ref a20), .val (.int (1 : Int32)), .val (.ref o45), .val (.int z60), .val (.ref o117), .val (.int z133)]) rfl ?_
            refine Own.iload C at_138 (q := 140) rfl rfl ?_
            refine Own.if_eq C at_140 (q := 143) rfl (r := 157) (by decide) (fun h140 => ?_) (fun h140 => ?_)
            · exact absurd h140 (by decide)
            · refine Own.aload C at_143 (q := 145) rfl rfl rfl ?_
              refine Own.iload C at_145 (q := 147) rfl rfl ?_
              refine Own.callS C at_147 (q := 150) rfl (hw _ (List.mem_of_getElem? (i := 72) rfl)) (hw _ (List.mem_of_getElem? (i := 73) rfl)) (hw _ (List.mem_of_getElem? (i := 74) rfl)) (hw _ (List.mem_of_getElem? (i := 75) rfl)) (by decide) (W := 0) (rm := rm_5) (argsL := [(.ref a20), (.int z133)]) (st := []) (lenOf pd_2 rfl) rfl rfl (Nat.le_of_eq rfl) (by decide) (by decide) (by decide) (by decide) (c_check l Z a0 hw n0 _ a20 z133 r54_memberOf r54_members r54_sizeCounts r54_taken r54_matchedTo r54_heldStarts q_owners q_holderStarts q_valuesHeld q_holders q_index q_seen v_values v_path v_next v_low v_open v_onStack v_component v_reached z10.toNatClampNeg mb.2.2.1 (by rw [h133, h60, mx_r hc54, mx_l hc126]; exact mb.2.1) (upd_at ne_a20_o117 k54_a) (upd_at ne_r54_memberOf_o117 k54_memberOf) (upd_at ne_r54_members_o117 k54_members) (upd_at ne_r54_sizeCounts_o117 k54_sizeCounts) (upd_at ne_r54_taken_o117 k54_taken) (upd_at ne_r54_matchedTo_o117 k54_matchedTo) (upd_at ne_r54_heldStarts_o117 k54_heldStarts) (upd_at ne_q_owners_o117 f54_q_owners) (upd_at ne_q_holderStarts_o117 f54_q_holderStarts) (upd_at ne_q_valuesHeld_o117 f54_q_valuesHeld) (upd_at ne_q_holders_o117 f54_q_holders) (upd_at ne_q_index_o117 f54_q_index) (upd_at ne_q_seen_o117 f54_q_seen)) (nxI fun z147 μ147 h147 => ?_)
              obtain ⟨h147m, rfl⟩ := h147
              refine Own.mem h147m ?_
              refine Own.if_eq C at_150 (q := 153) rfl (r := 157) (by decide) (fun h150 => ?_) (fun h150 => ?_)
              · exact absurd h150 (by decide)
              · refine Own.iconst C at_153 (q := 154) rfl (z := 1) (by decide) ?_
                refine Own.goto C at_154 (q := 158) (by decide) ?_
                refine Own.istore C at_158 (q := 160) rfl (L' := #[.val (.int u), .val (.int w), .val (.int c'), .val (.int z4), .val (.int z10), .val (.int z17), .val (.ref a20), .val (.int (1 : Int32)), .val (.ref o45), .val (.int z60), .val (.ref o117), .val (.int z133)]) rfl ?_
                refine Own.iload C at_160 (q := 162) rfl rfl ?_
                refine Own.iload C at_162 (q := 164) rfl rfl ?_
                refine Own.icmp_gt C at_164 (q := 167) rfl (r := 189) (by decide) (fun h164 => ?_) (fun h164 => ?_)
                · exfalso; rw [h60, mx_r hc54, Int32.lt_iff_toInt_lt] at h164; omega
                · refine Own.iload C at_167 (q := 169) rfl rfl ?_
                  refine Own.if_eq C at_169 (q := 172) rfl (r := 186) (by decide) (fun h169 => ?_) (fun h169 => ?_)
                  · exact absurd h169 (by decide)
                  · refine Own.aload C at_172 (q := 174) rfl rfl rfl ?_
                    refine Own.aload C at_174 (q := 176) rfl rfl rfl ?_
                    refine Own.callS C at_176 (q := 179) rfl (hw _ (List.mem_of_getElem? (i := 98) rfl)) (hw _ (List.mem_of_getElem? (i := 99) rfl)) (hw _ (List.mem_of_getElem? (i := 74) rfl)) (hw _ (List.mem_of_getElem? (i := 100) rfl)) (by decide) (W := 0) (rm := rm_8) (argsL := [(.ref a20), (.ref o117)]) (st := []) (lenOf pd_5 rfl) rfl rfl (Nat.le_of_eq rfl) (by decide) (by decide) (by decide) (by decide) (c_same l Z a0 hw n0 _ a20 o117 r54_memberOf r54_members r54_sizeCounts r54_taken r54_matchedTo r54_heldStarts (.ref q_owners) (.ref q_valuesHeld) (.ref q_holderStarts) (.ref q_holders) v_values (.ref q_seen) v_path v_next (.ref q_index) v_low v_open v_onStack v_component v_reached (upd_at ne_a20_o117 k54_a) upd_same) (nxI fun z176 μ176 h176 => ?_)
                    obtain ⟨h176m, rfl⟩ := h176
                    refine Own.mem h176m ?_
                    refine Own.if_eq C at_179 (q := 182) rfl (r := 186) (by decide) (fun h179 => ?_) (fun h179 => ?_)
                    · exact absurd h179 (by decide)
                    · refine Own.iconst C at_182 (q := 183) rfl (z := 1) (by decide) ?_
                      refine Own.goto C at_183 (q := 187) (by decide) ?_
                      refine Own.istore C at_187 (q := 189) rfl (L' := #[.val (.int u), .val (.int w), .val (.int c'), .val (.int z4), .val (.int z10), .val (.int z17), .val (.ref a20), .val (.int (1 : Int32)), .val (.ref o45), .val (.int z60), .val (.ref o117), .val (.int z133)]) rfl ?_
                      refine Own.iload C at_189 (q := 191) rfl rfl ?_
                      refine Own.nreturn C at_191 (by simp) (z' := (1 : Int32)) (by decide) (by decide) (by decide) ?_
                      rfl
          · refine Own.callV C at_126 (q := 129) rfl (hw _ (List.mem_of_getElem? (i := 67) rfl)) (hw _ (List.mem_of_getElem? (i := 68) rfl)) (notFace_of_selects (args := #[]) (mvT C.2.2.2.1 (hw _ (List.mem_of_getElem? (i := 70) rfl)))) (hw _ (List.mem_of_getElem? (i := 70) rfl)) (hw _ (List.mem_of_getElem? (i := 69) rfl)) (hw _ (List.mem_of_getElem? (i := 2) rfl)) (hw _ (List.mem_of_getElem? (i := 71) rfl)) (by decide) (W := 0) (rm := rm_4) (argsL := [(.int z17)]) (st := []) (lenOf pd_1 rfl) rfl rfl (Nat.le_of_eq rfl) (by decide) (by decide) (by decide) (by decide) (upd_at ne_a20_o117 k54_a) (c_hold l Z a0 hw n0 _ a20 z17 (.ref r54_memberOf) (.ref r54_members) (.ref r54_taken) (.ref r54_matchedTo) (.ref q_owners) (.ref r54_heldStarts) (.ref q_valuesHeld) (.ref q_holderStarts) (.ref q_holders) v_values (.ref q_seen) v_path v_next (.ref q_index) v_low v_open v_onStack v_component v_reached r54_sizeCounts (List.replicate (z10.toNatClampNeg + 1) (Value.int 0)) (upd_at ne_a20_o117 k54_a) (upd_at ne_r54_sizeCounts_o117 k54_sizeCounts) a20_g mc.1 (by rw [List.length_replicate]; have := ma.2.2.2; have := mb.2.2.2; have := mc.2.2.2; omega)) (nxV fun μ126 h126 => ?_)
            obtain ⟨r126_memberOf, r126_members, r126_sizeCounts, r126_taken, r126_matchedTo, r126_heldStarts, k126_a, r126_memberOf_g, r126_members_g, r126_sizeCounts_g, r126_taken_g, r126_matchedTo_g, r126_heldStarts_g, k126_memberOf, k126_members, k126_sizeCounts, k126_taken, k126_matchedTo, k126_heldStarts, fr126⟩ := h126
            have f126_o117 := fr126 _ _ upd_same (Ne.symm ne_a20_o117)
            have f126_o45 := fr126 _ _ (upd_at ne_o45_o117 f54_o45) (Ne.symm ne_a20_o45)
            have f126_q_memberOf := fr126 _ _ (upd_at ne_q_memberOf_o117 f54_q_memberOf) (ne_ra f54_q_memberOf k54_a)
            have f126_q_members := fr126 _ _ (upd_at ne_q_members_o117 f54_q_members) (ne_ra f54_q_members k54_a)
            have f126_q_sizeCounts := fr126 _ _ (upd_at ne_q_sizeCounts_o117 f54_q_sizeCounts) (ne_ra f54_q_sizeCounts k54_a)
            have f126_q_taken := fr126 _ _ (upd_at ne_q_taken_o117 f54_q_taken) (ne_ra f54_q_taken k54_a)
            have f126_q_matchedTo := fr126 _ _ (upd_at ne_q_matchedTo_o117 f54_q_matchedTo) (ne_ra f54_q_matchedTo k54_a)
            have f126_q_heldStarts := fr126 _ _ (upd_at ne_q_heldStarts_o117 f54_q_heldStarts) (ne_ra f54_q_heldStarts k54_a)
            have f126_q_owners := fr126 _ _ (upd_at ne_q_owners_o117 f54_q_owners) (ne_ra f54_q_owners k54_a)
            have f126_q_holderStarts := fr126 _ _ (upd_at ne_q_holderStarts_o117 f54_q_holderStarts) (ne_ra f54_q_holderStarts k54_a)
            have f126_q_valuesHeld := fr126 _ _ (upd_at ne_q_valuesHeld_o117 f54_q_valuesHeld) (ne_ra f54_q_valuesHeld k54_a)
            have f126_q_holders := fr126 _ _ (upd_at ne_q_holders_o117 f54_q_holders) (ne_ra f54_q_holders k54_a)
            have f126_q_index := fr126 _ _ (upd_at ne_q_index_o117 f54_q_index) (ne_ra f54_q_index k54_a)
            have f126_q_seen := fr126 _ _ (upd_at ne_q_seen_o117 f54_q_seen) (ne_ra f54_q_seen k54_a)
            have f126_r32_memberOf := fr126 _ _ (upd_at ne_r32_memberOf_o117 f54_r32_memberOf) (ne_ra f54_r32_memberOf k54_a)
            have f126_r32_members := fr126 _ _ (upd_at ne_r32_members_o117 f54_r32_members) (ne_ra f54_r32_members k54_a)
            have f126_r32_sizeCounts := fr126 _ _ (upd_at ne_r32_sizeCounts_o117 f54_r32_sizeCounts) (ne_ra f54_r32_sizeCounts k54_a)
            have f126_r32_taken := fr126 _ _ (upd_at ne_r32_taken_o117 f54_r32_taken) (ne_ra f54_r32_taken k54_a)
            have f126_r32_matchedTo := fr126 _ _ (upd_at ne_r32_matchedTo_o117 f54_r32_matchedTo) (ne_ra f54_r32_matchedTo k54_a)
            have f126_r32_heldStarts := fr126 _ _ (upd_at ne_r32_heldStarts_o117 f54_r32_heldStarts) (ne_ra f54_r32_heldStarts k54_a)
            have f126_r54_memberOf := fr126 _ _ (upd_at ne_r54_memberOf_o117 k54_memberOf) (ne_ra k54_memberOf k54_a)
            have f126_r54_members := fr126 _ _ (upd_at ne_r54_members_o117 k54_members) (ne_ra k54_members k54_a)
            have f126_r54_sizeCounts := fr126 _ _ (upd_at ne_r54_sizeCounts_o117 k54_sizeCounts) (ne_ra k54_sizeCounts k54_a)
            have f126_r54_taken := fr126 _ _ (upd_at ne_r54_taken_o117 k54_taken) (ne_ra k54_taken k54_a)
            have f126_r54_matchedTo := fr126 _ _ (upd_at ne_r54_matchedTo_o117 k54_matchedTo) (ne_ra k54_matchedTo k54_a)
            have f126_r54_heldStarts := fr126 _ _ (upd_at ne_r54_heldStarts_o117 k54_heldStarts) (ne_ra k54_heldStarts k54_a)
            refine Own.iload C at_129 (q := 131) rfl rfl ?_
            refine Own.iload C at_131 (q := 133) rfl rfl ?_
            refine Own.callS C at_133 (q := 136) rfl (hw _ (List.mem_of_getElem? (i := 94) rfl)) (hw _ (List.mem_of_getElem? (i := 95) rfl)) (hw _ (List.mem_of_getElem? (i := 96) rfl)) (hw _ (List.mem_of_getElem? (i := 97) rfl)) (by decide) (W := 0) (rm := rm_7) (argsL := [(.int z60), (.int z17)]) (st := []) (lenOf pd_4 rfl) rfl rfl (Nat.le_of_eq rfl) (by decide) (by decide) (by decide) (by decide) (c_max l Z a0 hw n0 _ z60 z17) (nxI fun z133 μ133 h133 => ?_)
            obtain ⟨h133m, h133⟩ := h133
            refine Own.mem h133m ?_
            refine Own.istore C at_136 (q := 138) rfl (L' := #[.val (.int u), .val (.int w), .val (.int c'), .val (.int z4), .val (.int z10), .val (.int z17), .val (.ref a20), .val (.int (1 : Int32)), .val (.ref o45), .val (.int z60), .val (.ref o117), .val (.int z133)]) rfl ?_
            refine Own.iload C at_138 (q := 140) rfl rfl ?_
            refine Own.if_eq C at_140 (q := 143) rfl (r := 157) (by decide) (fun h140 => ?_) (fun h140 => ?_)
            · exact absurd h140 (by decide)
            · refine Own.aload C at_143 (q := 145) rfl rfl rfl ?_
              refine Own.iload C at_145 (q := 147) rfl rfl ?_
              refine Own.callS C at_147 (q := 150) rfl (hw _ (List.mem_of_getElem? (i := 72) rfl)) (hw _ (List.mem_of_getElem? (i := 73) rfl)) (hw _ (List.mem_of_getElem? (i := 74) rfl)) (hw _ (List.mem_of_getElem? (i := 75) rfl)) (by decide) (W := 0) (rm := rm_5) (argsL := [(.ref a20), (.int z133)]) (st := []) (lenOf pd_2 rfl) rfl rfl (Nat.le_of_eq rfl) (by decide) (by decide) (by decide) (by decide) (c_check l Z a0 hw n0 _ a20 z133 r126_memberOf r126_members r126_sizeCounts r126_taken r126_matchedTo r126_heldStarts q_owners q_holderStarts q_valuesHeld q_holders q_index q_seen v_values v_path v_next v_low v_open v_onStack v_component v_reached z17.toNatClampNeg mc.2.2.1 (by rw [h133, h60, mx_r hc54, mx_r hc126]; exact mc.2.1) k126_a k126_memberOf k126_members k126_sizeCounts k126_taken k126_matchedTo k126_heldStarts f126_q_owners f126_q_holderStarts f126_q_valuesHeld f126_q_holders f126_q_index f126_q_seen) (nxI fun z147 μ147 h147 => ?_)
              obtain ⟨h147m, rfl⟩ := h147
              refine Own.mem h147m ?_
              refine Own.if_eq C at_150 (q := 153) rfl (r := 157) (by decide) (fun h150 => ?_) (fun h150 => ?_)
              · exact absurd h150 (by decide)
              · refine Own.iconst C at_153 (q := 154) rfl (z := 1) (by decide) ?_
                refine Own.goto C at_154 (q := 158) (by decide) ?_
                refine Own.istore C at_158 (q := 160) rfl (L' := #[.val (.int u), .val (.int w), .val (.int c'), .val (.int z4), .val (.int z10), .val (.int z17), .val (.ref a20), .val (.int (1 : Int32)), .val (.ref o45), .val (.int z60), .val (.ref o117), .val (.int z133)]) rfl ?_
                refine Own.iload C at_160 (q := 162) rfl rfl ?_
                refine Own.iload C at_162 (q := 164) rfl rfl ?_
                refine Own.icmp_gt C at_164 (q := 167) rfl (r := 189) (by decide) (fun h164 => ?_) (fun h164 => ?_)
                · refine Own.iload C at_189 (q := 191) rfl rfl ?_
                  refine Own.nreturn C at_191 (by simp) (z' := (1 : Int32)) (by decide) (by decide) (by decide) ?_
                  rfl
                · exfalso; rw [h60, mx_r hc54, Int32.lt_iff_toInt_lt] at h164; omega
        · exfalso; rw [Int32.lt_iff_toInt_lt] at h90; omega
set_option maxRecDepth 65536 in
set_option maxHeartbeats 4000000 in
theorem comes_1 {Post : Tables → Env → Array Value → State → Outcome → State → Prop} (hpost : ∀ tb e args s v u, (limb_1_1.after args s (.returned v) u = true ∧ limb_1_2.after args s (.returned v) u = true ∧ True) → FrameEnd s (.returned v) u (Jvm.fieldLocs frame_1_writes args s ++ Jvm.arrayLocs frame_1_arrays args s ++ Jvm.staticLocs frame_1_statics s) 104 8192 → Post tb e args s (.returned v) u) :
    ArmFor flags0 classFile x code maxLocals ret World_1 tables_1 room_1 Calls_1 rest_1 Pre_1 Post := by
  intro l hfl _ _ p e ha hc hk s m args below hf hA hF happ hP
  obtain ⟨hcalls, hrest, hpre⟩ := hP
  obtain ⟨-, -, -, hnamed, -, -, -, hat⟩ := (Spec.applies_iff hf).mp happ
  obtain ⟨hg, hn⟩ := and_e (Cond.before_iff.mp (show (Jvm.Cond.and given_1 narrow_1).before args s = true from hpre))
  obtain ⟨g0, hg⟩ := and_e hg
  obtain ⟨g1, hg⟩ := and_e hg
  obtain ⟨g2, hg⟩ := and_e hg
  have g3 := hg
  obtain ⟨w0, w1, w2, rfl⟩ : ∃ w0 w1 w2 : Value, args = #[w0, w1, w2] := by
    have hs : args.size = 3 := by simpa [Cond.value, given_1] using g0
    obtain ⟨L⟩ := args
    match L, hs with
    | [w0, w1, w2], _ => exact ⟨w0, w1, w2, rfl⟩
  have hw := fun d (hd : d ∈ tables_1) => atoms_spec (ws := Jvm.Cond.code x code maxLocals ret :: tables_1) hat d (List.mem_cons_of_mem _ hd)
  have hfit : Fit s := fun {y c} hc i hi => by
    obtain ⟨ha, rfl⟩ := Array.getElem?_eq_some_iff.mp hc
    have q := List.all_eq_true.mp ((Array.all_eq_true_iff_forall_mem.mp hF) _ (Array.getElem_mem ha)) i (List.mem_range.mpr hi)
    simpa [Array.getElem?_eq_getElem hi] using q
  obtain ⟨i0, ei0⟩ := is_v g1
  obtain rfl : w0 = (.int i0) := Option.some.inj ei0
  obtain ⟨i1, ei1⟩ := is_v g2
  obtain rfl : w1 = (.int i1) := Option.some.inj ei1
  obtain ⟨i2, ei2⟩ := is_v g3
  obtain rfl : w2 = (.int i2) := Option.some.inj ei2
  obtain ⟨n, o, h1, h2, h3, _, L, rfl, ⟨N, _, -, rfl⟩, hq⟩ := c_law l s _ hw s.heap.size (fun _ => none) i0 i1 i2 s.heap ⟨Old.start s, fun _ _ q => nomatch q⟩ p e ha hc hk s m _ below hf ((Spec.applies_iff_loose hf).mp happ).1 ⟨rfl, State.Warmed39.refl s, rfl⟩ trivial
  refine ⟨n, _, h1, h2, h3, hpost _ _ _ _ _ _ ⟨Cond.after_iff.mpr rfl, Cond.after_iff.mpr (eq_i res_at (Term.int_eval (1)) rfl), trivial⟩ ⟨hq.1, hq.2.1, (hq.2.2.sift fun y hy => Or.inr (N y hy)).mono (by decide) (by decide)⟩⟩
theorem main_1_1 : Claimed_1_1 := comes_1 fun _ _ _ _ _ _ h hF => ⟨h.1, hF⟩
theorem main_1_2 : Claimed_1_2 := comes_1 fun _ _ _ _ _ _ h hF => ⟨h.2.1, hF⟩
end Jvm.Pilot.@@N@@
namespace Jvm.Pilot.@@N@@
open Jvm Jvm.ClassFile Sem Op Lib Jvm.Free Jvm.Stand Jvm.Pilot.@@N@@.Jvm.D
/-! MADE BY PROGRAM (witnessworld.py) out of the Statement's table words and the real class files: 16 classes; the members and pool entries that the words name. The judged class is class 1, her method 4. -/
namespace start1
open Jvm.ClassFile
def u (s : String) : CpInfo := .utf8 (stringToUtf16 s)
/-- a pool by its gaps: so many unusable entries, then the entry; so many at the end -/
def gap : Nat → List CpInfo → List CpInfo
  | 0, r => r
  | n + 1, r => .unusable :: gap n r
def poolList (es : List (Nat × CpInfo)) (last : Nat) : List CpInfo := es.foldr (fun e r => gap e.1 (e.2 :: r)) (gap last [])
def pool (es : List (Nat × CpInfo)) (last : Nat) : Array CpInfo := ⟨poolList es last⟩
def fileOf (pool : Array CpInfo) (this : Nat) (attrs : Array Attribute := #[]) (ms : Array MethodInfo := #[]) (fl : Nat := 33) (sup : Nat := 0) (ifs : Array Nat := #[]) (fds : Array FieldInfo := #[]) : ClassFile where
  minorVersion := 0
  majorVersion := 65
  constantPool := pool
  accessFlags := fl
  thisClass := this
  superClass := sup
  interfaces := ifs
  fields := fds
  methods := ms
  attributes := attrs
def plain (name : String) (sup : Option ClassId) : Class where
  name := name
  kind := .ordinary
  loader := none
  accessFlags := 33
  super := sup
  interfaces := #[]
  cf := none
  fields := #[]
  methods := #[]
  instanceTypes := #[]
  staticTypes := #[]
  resolved := #[]
  callSites := []
  init := .initialized
  statics := none
  mirror := none

def pool0 : Array CpInfo := pool [(5, u "<init>"), (0, u "()V"), (1, .class_ 10), (1, u "java/lang/Object")] 113

def k0c0 : Code := { maxStack := 0, maxLocals := 1, code := object_method_1_code, exceptionTable := #[], attributes := #[] }
def k0m0 : Method := { name := "<init>", desc := "()V", sig := { parameters := [], returnType := none }, accessFlags := 1, code := some k0c0 }
/-- java/lang/Object -/
def k0 : Class := { plain "java/lang/Object" none with
  accessFlags := 33
  interfaces := #[]
  cf := some (fileOf pool0 8 #[] #[{ accessFlags := 1, nameIndex := 5, descriptorIndex := 6, attributes := #[] }] 33 0 #[] #[])
  fields := #[]
  methods := #[k0m0]
  instanceTypes := #[]
  staticTypes := #[]
  resolved := Array.replicate 124 none
  statics := none }

def pool1 : Array CpInfo := pool [(2, .class_ 4), (0, .nameAndType 5 6), (0, u "java/lang/Object"), (0, u "<init>"), (0, u "()V"), (0, .fieldref 8 9), (0, .class_ 10), (0, .nameAndType 11 12), (0, u "com/example/parcours/parcours/search/Workspace$MatchingRoom"), (0, u "memberOf"), (0, u "[I"), (0, .fieldref 8 14), (0, .nameAndType 15 12), (0, u "members"), (0, .fieldref 8 17), (0, .nameAndType 18 12), (0, u "taken"), (0, .fieldref 8 20), (0, .nameAndType 21 12), (0, u "matchedTo"), (0, .fieldref 8 23), (0, .nameAndType 24 12), (0, u "sizeCounts"), (0, .fieldref 8 26), (0, .nameAndType 27 12), (0, u "heldStarts"), (0, .fieldref 8 29), (0, .nameAndType 30 12), (0, u "owners"), (0, .fieldref 8 32), (0, .nameAndType 33 12), (0, u "holderStarts"), (0, .fieldref 8 35), (0, .nameAndType 36 12), (0, u "valuesHeld"), (0, .fieldref 8 38), (0, .nameAndType 39 12), (0, u "holders"), (0, .fieldref 8 41), (0, .nameAndType 42 12), (0, u "index"), (0, .fieldref 8 44), (0, .nameAndType 45 12), (0, u "seen"), (0, .class_ 12), (0, .methodref 8 3), (0, .methodref 8 49), (0, .nameAndType 50 51), (0, u "holdPlaces"), (0, u "(I)V"), (0, .methodref 53 54), (0, .class_ 55), (0, .nameAndType 56 57), (0, u "com/example/parcours/parcours/search/MatchingRoomHoldPlacesPinLaw"), (0, u "check"), (0, u "(Lcom/example/parcours/parcours/search/Workspace$MatchingRoom;I)Z"), (0, .methodref 53 59), (0, .nameAndType 60 61), (0, u "keep"), (0, u "(Lcom/example/parcours/parcours/search/Workspace$MatchingRoom;)[[I"), (0, .methodref 63 64), (0, .class_ 65), (0, .nameAndType 66 67), (0, u "java/lang/Math"), (0, u "max"), (0, u "(II)I"), (0, .methodref 53 69), (0, .nameAndType 70 71), (0, u "same"), (0, u "(Lcom/example/parcours/parcours/search/Workspace$MatchingRoom;[[I)Z"), (3, u "law"), (0, u "(III)Z")] 8

def k1m0 : Method := { name := "<init>", desc := "()V", sig := { parameters := [], returnType := none }, accessFlags := 2, code := none }
def k1c1 : Code := { maxStack := 3, maxLocals := 2, code := method_2_code, exceptionTable := #[], attributes := #[] }
def k1m1 : Method := { name := "check", desc := "(Lcom/example/parcours/parcours/search/Workspace$MatchingRoom;I)Z", sig := { parameters := [(.object "com/example/parcours/parcours/search/Workspace$MatchingRoom"), .int], returnType := some .boolean }, accessFlags := 10, code := some k1c1 }
def k1c2 : Code := { maxStack := 4, maxLocals := 1, code := method_3_code, exceptionTable := #[], attributes := #[] }
def k1m2 : Method := { name := "keep", desc := "(Lcom/example/parcours/parcours/search/Workspace$MatchingRoom;)[[I", sig := { parameters := [(.object "com/example/parcours/parcours/search/Workspace$MatchingRoom")], returnType := some (.array (.array .int)) }, accessFlags := 10, code := some k1c2 }
def k1c3 : Code := { maxStack := 3, maxLocals := 2, code := method_4_code, exceptionTable := #[], attributes := #[] }
def k1m3 : Method := { name := "same", desc := "(Lcom/example/parcours/parcours/search/Workspace$MatchingRoom;[[I)Z", sig := { parameters := [(.object "com/example/parcours/parcours/search/Workspace$MatchingRoom"), (.array (.array .int))], returnType := some .boolean }, accessFlags := 10, code := some k1c3 }
def k1c4 : Code := { maxStack := 2, maxLocals := 12, code := code, exceptionTable := #[], attributes := #[] }
def k1m4 : Method := { name := "law", desc := "(III)Z", sig := { parameters := [.int, .int, .int], returnType := some .boolean }, accessFlags := 9, code := some k1c4 }
/-- com/example/parcours/parcours/search/MatchingRoomHoldPlacesPinLaw -/
def k1 : Class := { plain "com/example/parcours/parcours/search/MatchingRoomHoldPlacesPinLaw" (some 0) with
  accessFlags := 49
  interfaces := #[]
  cf := some (fileOf pool1 53 #[] #[{ accessFlags := 2, nameIndex := 5, descriptorIndex := 6, attributes := #[] }, { accessFlags := 10, nameIndex := 56, descriptorIndex := 57, attributes := #[] }, { accessFlags := 10, nameIndex := 60, descriptorIndex := 61, attributes := #[] }, { accessFlags := 10, nameIndex := 70, descriptorIndex := 71, attributes := #[] }, { accessFlags := 9, nameIndex := 75, descriptorIndex := 76, attributes := #[] }] 49 2 #[] #[])
  fields := #[]
  methods := #[k1m0, k1m1, k1m2, k1m3, k1m4]
  instanceTypes := #[]
  staticTypes := #[]
  resolved := Array.replicate 85 none
  statics := none }

def pool2 : Array CpInfo := pool [(1, .methodref 2 3), (0, .class_ 4), (0, .nameAndType 5 6), (0, u "java/lang/Object"), (0, u "<init>"), (0, u "()V"), (0, .fieldref 8 9), (0, .class_ 10), (0, .nameAndType 11 12), (0, u "com/example/parcours/parcours/search/Workspace$MatchingRoom"), (0, u "memberOf"), (0, u "[I"), (0, .fieldref 8 14), (0, .nameAndType 15 12), (0, u "members"), (0, .fieldref 8 17), (0, .nameAndType 18 12), (0, u "sizeCounts"), (0, .fieldref 8 20), (0, .nameAndType 21 12), (0, u "taken"), (0, .fieldref 8 23), (0, .nameAndType 24 12), (0, u "matchedTo"), (0, .fieldref 8 26), (0, .nameAndType 27 12), (0, u "owners"), (0, .fieldref 8 29), (0, .nameAndType 30 12), (0, u "heldStarts"), (0, .fieldref 8 32), (0, .nameAndType 33 12), (0, u "valuesHeld"), (0, .fieldref 8 35), (0, .nameAndType 36 12), (0, u "holderStarts"), (0, .fieldref 8 38), (0, .nameAndType 39 12), (0, u "holders"), (0, .class_ 41), (0, u "com/example/parcours/parcours/search/ValueNumbers"), (0, .methodref 40 3), (0, .fieldref 8 44), (0, .nameAndType 45 46), (0, u "values"), (0, u "Lcom/example/parcours/parcours/search/ValueNumbers;"), (0, .fieldref 8 48), (0, .nameAndType 49 12), (0, u "seen"), (0, .fieldref 8 51), (0, .nameAndType 52 12), (0, u "path"), (0, .fieldref 8 54), (0, .nameAndType 55 12), (0, u "next"), (0, .fieldref 8 57), (0, .nameAndType 58 12), (0, u "index"), (0, .fieldref 8 60), (0, .nameAndType 61 12), (0, u "low"), (0, .fieldref 8 63), (0, .nameAndType 64 12), (0, u "open"), (0, .fieldref 8 66), (0, .nameAndType 67 68), (0, u "onStack"), (0, u "[Z"), (0, .fieldref 8 70), (0, .nameAndType 71 12), (0, u "component"), (0, .fieldref 8 73), (0, .nameAndType 74 68), (0, u "reached"), (17, u "round"), (0, u "I"), (2, u "holdPlaces"), (0, u "(I)V"), (7, .class_ 106), (0, u "com/example/parcours/parcours/search/Workspace")] 16

def k2c0 : Code := { maxStack := 3, maxLocals := 1, code := prog_72_method_1_code, exceptionTable := #[], attributes := #[] }
def k2m0 : Method := { name := "<init>", desc := "()V", sig := { parameters := [], returnType := none }, accessFlags := 0, code := some k2c0 }
def k2c1 : Code := { maxStack := 3, maxLocals := 2, code := prog_72_method_2_code, exceptionTable := #[], attributes := #[] }
def k2m1 : Method := { name := "holdPlaces", desc := "(I)V", sig := { parameters := [.int], returnType := none }, accessFlags := 0, code := some k2c1 }
/-- com/example/parcours/parcours/search/Workspace$MatchingRoom -/
def k2 : Class := { plain "com/example/parcours/parcours/search/Workspace$MatchingRoom" (some 0) with
  accessFlags := 32
  interfaces := #[]
  cf := some (fileOf pool2 8 #[.nestHost 105] #[{ accessFlags := 0, nameIndex := 5, descriptorIndex := 6, attributes := #[] }, { accessFlags := 0, nameIndex := 96, descriptorIndex := 97, attributes := #[] }] 32 2 #[] #[{ accessFlags := 0, nameIndex := 11, descriptorIndex := 12, attributes := #[] }, { accessFlags := 0, nameIndex := 15, descriptorIndex := 12, attributes := #[] }, { accessFlags := 0, nameIndex := 18, descriptorIndex := 12, attributes := #[] }, { accessFlags := 0, nameIndex := 21, descriptorIndex := 12, attributes := #[] }, { accessFlags := 0, nameIndex := 24, descriptorIndex := 12, attributes := #[] }, { accessFlags := 0, nameIndex := 27, descriptorIndex := 12, attributes := #[] }, { accessFlags := 0, nameIndex := 30, descriptorIndex := 12, attributes := #[] }, { accessFlags := 0, nameIndex := 33, descriptorIndex := 12, attributes := #[] }, { accessFlags := 0, nameIndex := 36, descriptorIndex := 12, attributes := #[] }, { accessFlags := 0, nameIndex := 39, descriptorIndex := 12, attributes := #[] }, { accessFlags := 16, nameIndex := 45, descriptorIndex := 46, attributes := #[] }, { accessFlags := 0, nameIndex := 49, descriptorIndex := 12, attributes := #[] }, { accessFlags := 0, nameIndex := 92, descriptorIndex := 93, attributes := #[] }, { accessFlags := 0, nameIndex := 52, descriptorIndex := 12, attributes := #[] }, { accessFlags := 0, nameIndex := 55, descriptorIndex := 12, attributes := #[] }, { accessFlags := 0, nameIndex := 58, descriptorIndex := 12, attributes := #[] }, { accessFlags := 0, nameIndex := 61, descriptorIndex := 12, attributes := #[] }, { accessFlags := 0, nameIndex := 64, descriptorIndex := 12, attributes := #[] }, { accessFlags := 0, nameIndex := 67, descriptorIndex := 68, attributes := #[] }, { accessFlags := 0, nameIndex := 71, descriptorIndex := 12, attributes := #[] }, { accessFlags := 0, nameIndex := 74, descriptorIndex := 68, attributes := #[] }])
  fields := #[{ name := "memberOf", type := (.array .int), accessFlags := 0, slot := 0, constantValue := 0 }, { name := "members", type := (.array .int), accessFlags := 0, slot := 1, constantValue := 0 }, { name := "sizeCounts", type := (.array .int), accessFlags := 0, slot := 2, constantValue := 0 }, { name := "taken", type := (.array .int), accessFlags := 0, slot := 3, constantValue := 0 }, { name := "matchedTo", type := (.array .int), accessFlags := 0, slot := 4, constantValue := 0 }, { name := "owners", type := (.array .int), accessFlags := 0, slot := 5, constantValue := 0 }, { name := "heldStarts", type := (.array .int), accessFlags := 0, slot := 6, constantValue := 0 }, { name := "valuesHeld", type := (.array .int), accessFlags := 0, slot := 7, constantValue := 0 }, { name := "holderStarts", type := (.array .int), accessFlags := 0, slot := 8, constantValue := 0 }, { name := "holders", type := (.array .int), accessFlags := 0, slot := 9, constantValue := 0 }, { name := "values", type := (.object "com/example/parcours/parcours/search/ValueNumbers"), accessFlags := 16, slot := 10, constantValue := 0 }, { name := "seen", type := (.array .int), accessFlags := 0, slot := 11, constantValue := 0 }, { name := "round", type := .int, accessFlags := 0, slot := 12, constantValue := 0 }, { name := "path", type := (.array .int), accessFlags := 0, slot := 13, constantValue := 0 }, { name := "next", type := (.array .int), accessFlags := 0, slot := 14, constantValue := 0 }, { name := "index", type := (.array .int), accessFlags := 0, slot := 15, constantValue := 0 }, { name := "low", type := (.array .int), accessFlags := 0, slot := 16, constantValue := 0 }, { name := "open", type := (.array .int), accessFlags := 0, slot := 17, constantValue := 0 }, { name := "onStack", type := (.array .boolean), accessFlags := 0, slot := 18, constantValue := 0 }, { name := "component", type := (.array .int), accessFlags := 0, slot := 19, constantValue := 0 }, { name := "reached", type := (.array .boolean), accessFlags := 0, slot := 20, constantValue := 0 }]
  methods := #[k2m0, k2m1]
  instanceTypes := #[(.array .int), (.array .int), (.array .int), (.array .int), (.array .int), (.array .int), (.array .int), (.array .int), (.array .int), (.array .int), (.object "com/example/parcours/parcours/search/ValueNumbers"), (.array .int), .int, (.array .int), (.array .int), (.array .int), (.array .int), (.array .int), (.array .boolean), (.array .int), (.array .boolean)]
  staticTypes := #[]
  resolved := Array.replicate 123 none
  statics := none }

def pool3 : Array CpInfo := pool [(1, .methodref 2 3), (0, .class_ 4), (0, .nameAndType 5 6), (0, u "java/lang/Object"), (0, u "<init>"), (0, u "()V"), (0, .class_ 8), (0, u "com/example/parcours/parcours/search/ValueNumbers"), (0, .fieldref 7 10), (0, .nameAndType 11 12), (0, u "values"), (0, u "[I"), (0, .fieldref 7 14), (0, .nameAndType 15 12), (0, u "places"), (0, .fieldref 7 17), (0, .nameAndType 18 19), (0, u "slots"), (0, u "[J"), (0, .fieldref 7 21), (0, .nameAndType 22 12), (0, u "slotOf"), (2, u "count"), (0, u "I"), (2, u "byPlace"), (0, u "Z"), (2, u "least"), (36, u "FIRST_SLOTS")] 27

def k3c0 : Code := { maxStack := 2, maxLocals := 1, code := prog_69_method_1_code, exceptionTable := #[], attributes := #[] }
def k3m0 : Method := { name := "<init>", desc := "()V", sig := { parameters := [], returnType := none }, accessFlags := 0, code := some k3c0 }
/-- com/example/parcours/parcours/search/ValueNumbers -/
def k3 : Class := { plain "com/example/parcours/parcours/search/ValueNumbers" (some 0) with
  accessFlags := 32
  interfaces := #[]
  cf := some (fileOf pool3 7 #[] #[{ accessFlags := 0, nameIndex := 5, descriptorIndex := 6, attributes := #[] }] 32 2 #[] #[{ accessFlags := 26, nameIndex := 70, descriptorIndex := 26, attributes := #[] }, { accessFlags := 2, nameIndex := 11, descriptorIndex := 12, attributes := #[] }, { accessFlags := 2, nameIndex := 25, descriptorIndex := 26, attributes := #[] }, { accessFlags := 2, nameIndex := 29, descriptorIndex := 30, attributes := #[] }, { accessFlags := 2, nameIndex := 33, descriptorIndex := 26, attributes := #[] }, { accessFlags := 2, nameIndex := 15, descriptorIndex := 12, attributes := #[] }, { accessFlags := 2, nameIndex := 18, descriptorIndex := 19, attributes := #[] }, { accessFlags := 2, nameIndex := 22, descriptorIndex := 12, attributes := #[] }])
  fields := #[{ name := "FIRST_SLOTS", type := .int, accessFlags := 26, slot := 0, constantValue := 0 }, { name := "values", type := (.array .int), accessFlags := 2, slot := 0, constantValue := 0 }, { name := "count", type := .int, accessFlags := 2, slot := 1, constantValue := 0 }, { name := "byPlace", type := .boolean, accessFlags := 2, slot := 2, constantValue := 0 }, { name := "least", type := .int, accessFlags := 2, slot := 3, constantValue := 0 }, { name := "places", type := (.array .int), accessFlags := 2, slot := 4, constantValue := 0 }, { name := "slots", type := (.array .long), accessFlags := 2, slot := 5, constantValue := 0 }, { name := "slotOf", type := (.array .int), accessFlags := 2, slot := 6, constantValue := 0 }]
  methods := #[k3m0]
  instanceTypes := #[(.array .int), .int, .boolean, .int, (.array .int), (.array .long), (.array .int)]
  staticTypes := #[.int]
  resolved := Array.replicate 98 none
  statics := none }

def pool4 : Array CpInfo := pool [(1, .class_ 2), (0, u "java/lang/Math"), (1, .class_ 6), (1, u "java/lang/Object"), (0, u "<init>"), (0, u "()V"), (89, .class_ 100), (1, u "java/lang/Math$RandomNumberGeneratorHolder"), (71, u "negativeZeroFloatBits"), (0, u "J"), (2, u "negativeZeroDoubleBits"), (21, u "max"), (46, u "$assertionsDisabled"), (0, u "Z"), (88, u "(II)I"), (2, u "twoToTheDoubleScaleDown"), (0, u "D"), (4, u "twoToTheDoubleScaleUp"), (9, u "E"), (3, u "PI"), (2, u "TAU"), (2, u "DEGREES_TO_RADIANS"), (0, u "RADIANS_TO_DEGREES")] 94

def k4m0 : Method := { name := "<init>", desc := "()V", sig := { parameters := [], returnType := none }, accessFlags := 2, code := none }
def k4c1 : Code := { maxStack := 2, maxLocals := 2, code := jdk_29_method_65_code, exceptionTable := #[], attributes := #[] }
def k4m1 : Method := { name := "max", desc := "(II)I", sig := { parameters := [.int, .int], returnType := some .int }, accessFlags := 9, code := some k4c1 }
/-- java/lang/Math -/
def k4 : Class := { plain "java/lang/Math" (some 0) with
  accessFlags := 49
  interfaces := #[]
  cf := some (fileOf pool4 1 #[.nestMembers #[98]] #[{ accessFlags := 2, nameIndex := 7, descriptorIndex := 8, attributes := #[] }, { accessFlags := 9, nameIndex := 198, descriptorIndex := 335, attributes := #[] }] 49 4 #[] #[{ accessFlags := 25, nameIndex := 354, descriptorIndex := 339, attributes := #[] }, { accessFlags := 25, nameIndex := 358, descriptorIndex := 339, attributes := #[] }, { accessFlags := 25, nameIndex := 361, descriptorIndex := 339, attributes := #[] }, { accessFlags := 26, nameIndex := 364, descriptorIndex := 339, attributes := #[] }, { accessFlags := 26, nameIndex := 365, descriptorIndex := 339, attributes := #[] }, { accessFlags := 26, nameIndex := 172, descriptorIndex := 173, attributes := #[] }, { accessFlags := 26, nameIndex := 176, descriptorIndex := 173, attributes := #[] }, { accessFlags := 8, nameIndex := 344, descriptorIndex := 339, attributes := #[] }, { accessFlags := 8, nameIndex := 338, descriptorIndex := 339, attributes := #[] }, { accessFlags := 4120, nameIndex := 245, descriptorIndex := 246, attributes := #[] }])
  fields := #[{ name := "E", type := .double, accessFlags := 25, slot := 0, constantValue := 0 }, { name := "PI", type := .double, accessFlags := 25, slot := 1, constantValue := 0 }, { name := "TAU", type := .double, accessFlags := 25, slot := 2, constantValue := 0 }, { name := "DEGREES_TO_RADIANS", type := .double, accessFlags := 26, slot := 3, constantValue := 0 }, { name := "RADIANS_TO_DEGREES", type := .double, accessFlags := 26, slot := 4, constantValue := 0 }, { name := "negativeZeroFloatBits", type := .long, accessFlags := 26, slot := 5, constantValue := 0 }, { name := "negativeZeroDoubleBits", type := .long, accessFlags := 26, slot := 6, constantValue := 0 }, { name := "twoToTheDoubleScaleUp", type := .double, accessFlags := 8, slot := 7, constantValue := 0 }, { name := "twoToTheDoubleScaleDown", type := .double, accessFlags := 8, slot := 8, constantValue := 0 }, { name := "$assertionsDisabled", type := .boolean, accessFlags := 4120, slot := 9, constantValue := 0 }]
  methods := #[k4m0, k4m1]
  instanceTypes := #[]
  staticTypes := #[.double, .double, .double, .double, .double, .long, .long, .double, .double, .boolean]
  resolved := Array.replicate 460 none
  statics := none }

def pool5 : Array CpInfo := pool [(1, u "java/lang/Cloneable"), (0, .class_ 1), (0, u "java/lang/Object"), (0, .class_ 3)] 3

/-- java/lang/Cloneable -/
def k5 : Class := { plain "java/lang/Cloneable" (some 0) with
  accessFlags := 1537
  interfaces := #[]
  cf := some (fileOf pool5 2 #[] #[] 1537 4 #[] #[])
  fields := #[]
  methods := #[]
  instanceTypes := #[]
  staticTypes := #[]
  resolved := Array.replicate 8 none
  statics := none }

def pool6 : Array CpInfo := pool [(1, u "java/io/Serializable"), (0, .class_ 1), (0, u "java/lang/Object"), (0, .class_ 3)] 3

/-- java/io/Serializable -/
def k6 : Class := { plain "java/io/Serializable" (some 0) with
  accessFlags := 1537
  interfaces := #[]
  cf := some (fileOf pool6 2 #[] #[] 1537 4 #[] #[])
  fields := #[]
  methods := #[]
  instanceTypes := #[]
  staticTypes := #[]
  resolved := Array.replicate 8 none
  statics := none }

/-- the primitive boolean -/
def k7 : Class := { plain "boolean" none with kind := .primitive 'Z', accessFlags := 0x411 }
/-- [Z -/
def k8 : Class := { plain "[Z" (some 0) with kind := .array 7 .boolean, interfaces := #[5, 6], accessFlags := 1041 }

/-- the primitive byte -/
def k9 : Class := { plain "byte" none with kind := .primitive 'B', accessFlags := 0x411 }
/-- [B -/
def k10 : Class := { plain "[B" (some 0) with kind := .array 9 .byte, interfaces := #[5, 6], accessFlags := 1041 }

/-- the primitive int -/
def k11 : Class := { plain "int" none with kind := .primitive 'I', accessFlags := 0x411 }
/-- [I -/
def k12 : Class := { plain "[I" (some 0) with kind := .array 11 .int, interfaces := #[5, 6], accessFlags := 1041 }

/-- the primitive long -/
def k13 : Class := { plain "long" none with kind := .primitive 'J', accessFlags := 0x411 }
/-- [J -/
def k14 : Class := { plain "[J" (some 0) with kind := .array 13 .long, interfaces := #[5, 6], accessFlags := 1041 }

/-- [[I -/
def k15 : Class := { plain "[[I" (some 0) with kind := .array 12 (.array .int), interfaces := #[5, 6], accessFlags := 1041 }

def heap : Heap := #[{ cls := 15, slots := #[.null], vm := .none }]
def classes : Array Class := #[k0, k1, k2, k3, k4, k5, k6, k7, k8, k9, k10, k11, k12, k13, k14, k15]
def interned : List (Array UInt16 × Addr) := []
def slotsUsed : Nat := 1
def theMethod : MethodId := ⟨1, 4⟩
def args0 : Array Value := #[.int 5, .int 6, .int 7]
def aboutOver (below : List Frame) : State where
  vm := { classes := classes, interned := interned.toArray }
  heap := heap
  slotsUsed := slotsUsed
  threads := #[{ frames := .invoking theMethod args0 :: below }]
def below0 : List Frame := [.native { method := ⟨0, 0⟩, args := #[] }]
def about1 : State := aboutOver below0
def p0 : Program := .bare "" "" ""
def e0 : Env := launch0.env 0 0 0
theorem w_frames : about1.frames = Frame.invoking theMethod args0 :: below0 := rfl
set_option maxRecDepth 65536 in
theorem w_args : argsFit about1.vm theMethod args0 = true := by decide +kernel
set_option maxRecDepth 65536 in
theorem w_heap : heapFits about1 = true := by decide +kernel
set_option maxRecDepth 65536 in
theorem w_runnable : about1.curStatus? = some .runnable := by decide +kernel
set_option maxRecDepth 65536 in
theorem w_alone : about1.alone = true := by decide +kernel
set_option maxRecDepth 65536 in
theorem w_named : about1.methodNamed? x = some theMethod := by decide +kernel
set_option maxRecDepth 65536 in
theorem w_hears : about1.hears theMethod below0 = true := by decide +kernel
set_option maxRecDepth 65536 in
theorem w_ripe : about1.ripe theMethod args0 below0 = true := by decide +kernel
theorem w_running : about1.status = .running := rfl
set_option maxRecDepth 65536 in
theorem w_room : about1.hasRoom e0.platform room_1 = true :=
  launch0.hasRoom_least _ room_1 (by decide +kernel) (by decide +kernel) (by decide +kernel) (by decide +kernel) (by decide +kernel) (by decide +kernel)
theorem allAtoms_all (ts : List Jvm.Cond) (a : Array Jvm.Value) (st : Jvm.State) : (allAtoms ts).before a st = ts.all (fun c => c.before a st) := by
  induction ts with
  | nil => rfl
  | cons c t ih =>
    show (Jvm.Cond.and c (allAtoms t)).before a st = _
    rw [Jvm.Cond.before_and, ih, List.all_cons]
def words1 : List Jvm.Cond := Jvm.Cond.code x code maxLocals ret :: tables_1
/-- a 'code' word, met by the world's own term for the bytes: nothing is compared byte by byte -/
theorem code_word {y : MethodName} {bytes : ByteArray} {mx : Nat} {rt : Option FieldType} {a : Array Value} {s : State} {m : MethodId} {meth : Method} {c : Code} (h1 : s.methodNamed? y = some m) (h2 : s.vm.method? m = some meth) (h3 : meth.code = some c) (h4 : c.code = bytes)
    (h5 : (c.maxLocals == mx && c.exceptionTable.isEmpty && decide (c.maxStack ≤ mostOperands) && decide (meth.sig.returnType = rt) && !meth.locks && decide (parseMethodDescriptor y.desc = some meth.sig)) = true) : (Jvm.Cond.code y bytes mx rt).before a s = true := by
  simp only [Bool.and_eq_true, beq_iff_eq, Bool.not_eq_true', decide_eq_true_eq] at h5
  obtain ⟨⟨⟨⟨⟨g1, g2⟩, g3⟩, g4⟩, g5⟩, g6⟩ := h5
  simp [Cond.before, Cond.holds, Cond.value, h1, h2, h3, h4, g1, g2, g3, g4, g5, g6]
def isCode : Jvm.Cond → Bool
  | .code _ _ _ _ => true
  | _ => false
theorem all_split {L : List Jvm.Cond} {P : Jvm.Cond → Bool} (h1 : L.all (fun c => isCode c || P c) = true) (h2 : ∀ c ∈ L.filter isCode, P c = true) : L.all P = true := by
  refine List.all_eq_true.mpr fun c hc => ?_
  have h := List.all_eq_true.mp h1 c hc
  rcases Bool.eq_false_or_eq_true (isCode c) with hi | hi
  · exact h2 c (List.mem_filter.mpr ⟨hc, hi⟩)
  · simpa [hi] using h
set_option maxRecDepth 65536 in
theorem w_c0 : (Jvm.Cond.code x code maxLocals ret).before args0 about1 = true := code_word (m := ⟨1, 4⟩) (meth := k1m4) (c := k1c4) (by decide +kernel) rfl rfl rfl (by decide +kernel)
set_option maxRecDepth 65536 in
theorem w_c1 : (Jvm.Cond.code ({ cls := "com/example/parcours/parcours/search/Workspace$MatchingRoom", name := "<init>", desc := "()V" } : Jvm.MethodName) prog_72_method_1_code (1 : Nat) (Option.none : Option Jvm.ClassFile.FieldType)).before args0 about1 = true := code_word (m := ⟨2, 0⟩) (meth := k2m0) (c := k2c0) (by decide +kernel) rfl rfl rfl (by decide +kernel)
set_option maxRecDepth 65536 in
theorem w_c2 : (Jvm.Cond.code ({ cls := "java/lang/Object", name := "<init>", desc := "()V" } : Jvm.MethodName) object_method_1_code (1 : Nat) (Option.none : Option Jvm.ClassFile.FieldType)).before args0 about1 = true := code_word (m := ⟨0, 0⟩) (meth := k0m0) (c := k0c0) (by decide +kernel) rfl rfl rfl (by decide +kernel)
set_option maxRecDepth 65536 in
theorem w_c3 : (Jvm.Cond.code ({ cls := "com/example/parcours/parcours/search/ValueNumbers", name := "<init>", desc := "()V" } : Jvm.MethodName) prog_69_method_1_code (1 : Nat) (Option.none : Option Jvm.ClassFile.FieldType)).before args0 about1 = true := code_word (m := ⟨3, 0⟩) (meth := k3m0) (c := k3c0) (by decide +kernel) rfl rfl rfl (by decide +kernel)
set_option maxRecDepth 65536 in
theorem w_c4 : (Jvm.Cond.code ({ cls := "com/example/parcours/parcours/search/Workspace$MatchingRoom", name := "holdPlaces", desc := "(I)V" } : Jvm.MethodName) prog_72_method_2_code (2 : Nat) (Option.none : Option Jvm.ClassFile.FieldType)).before args0 about1 = true := code_word (m := ⟨2, 1⟩) (meth := k2m1) (c := k2c1) (by decide +kernel) rfl rfl rfl (by decide +kernel)
set_option maxRecDepth 65536 in
theorem w_c5 : (Jvm.Cond.code ({ cls := "com/example/parcours/parcours/search/MatchingRoomHoldPlacesPinLaw", name := "check", desc := "(Lcom/example/parcours/parcours/search/Workspace$MatchingRoom;I)Z" } : Jvm.MethodName) method_2_code (2 : Nat) (Option.some Jvm.ClassFile.FieldType.boolean)).before args0 about1 = true := code_word (m := ⟨1, 1⟩) (meth := k1m1) (c := k1c1) (by decide +kernel) rfl rfl rfl (by decide +kernel)
set_option maxRecDepth 65536 in
theorem w_c6 : (Jvm.Cond.code ({ cls := "com/example/parcours/parcours/search/MatchingRoomHoldPlacesPinLaw", name := "keep", desc := "(Lcom/example/parcours/parcours/search/Workspace$MatchingRoom;)[[I" } : Jvm.MethodName) method_3_code (1 : Nat) (Option.some (Jvm.ClassFile.FieldType.array (Jvm.ClassFile.FieldType.array Jvm.ClassFile.FieldType.int)))).before args0 about1 = true := code_word (m := ⟨1, 2⟩) (meth := k1m2) (c := k1c2) (by decide +kernel) rfl rfl rfl (by decide +kernel)
set_option maxRecDepth 65536 in
theorem w_c7 : (Jvm.Cond.code ({ cls := "java/lang/Math", name := "max", desc := "(II)I" } : Jvm.MethodName) jdk_29_method_65_code (2 : Nat) (Option.some Jvm.ClassFile.FieldType.int)).before args0 about1 = true := code_word (m := ⟨4, 1⟩) (meth := k4m1) (c := k4c1) (by decide +kernel) rfl rfl rfl (by decide +kernel)
set_option maxRecDepth 65536 in
theorem w_c8 : (Jvm.Cond.code ({ cls := "com/example/parcours/parcours/search/MatchingRoomHoldPlacesPinLaw", name := "same", desc := "(Lcom/example/parcours/parcours/search/Workspace$MatchingRoom;[[I)Z" } : Jvm.MethodName) method_4_code (2 : Nat) (Option.some Jvm.ClassFile.FieldType.boolean)).before args0 about1 = true := code_word (m := ⟨1, 3⟩) (meth := k1m3) (c := k1c3) (by decide +kernel) rfl rfl rfl (by decide +kernel)
def codes1 : List Jvm.Cond := [Jvm.Cond.code x code maxLocals ret, Jvm.Cond.code ({ cls := "com/example/parcours/parcours/search/Workspace$MatchingRoom", name := "<init>", desc := "()V" } : Jvm.MethodName) prog_72_method_1_code (1 : Nat) (Option.none : Option Jvm.ClassFile.FieldType), Jvm.Cond.code ({ cls := "java/lang/Object", name := "<init>", desc := "()V" } : Jvm.MethodName) object_method_1_code (1 : Nat) (Option.none : Option Jvm.ClassFile.FieldType), Jvm.Cond.code ({ cls := "com/example/parcours/parcours/search/ValueNumbers", name := "<init>", desc := "()V" } : Jvm.MethodName) prog_69_method_1_code (1 : Nat) (Option.none : Option Jvm.ClassFile.FieldType), Jvm.Cond.code ({ cls := "com/example/parcours/parcours/search/Workspace$MatchingRoom", name := "holdPlaces", desc := "(I)V" } : Jvm.MethodName) prog_72_method_2_code (2 : Nat) (Option.none : Option Jvm.ClassFile.FieldType), Jvm.Cond.code ({ cls := "com/example/parcours/parcours/search/MatchingRoomHoldPlacesPinLaw", name := "check", desc := "(Lcom/example/parcours/parcours/search/Workspace$MatchingRoom;I)Z" } : Jvm.MethodName) method_2_code (2 : Nat) (Option.some Jvm.ClassFile.FieldType.boolean), Jvm.Cond.code ({ cls := "com/example/parcours/parcours/search/MatchingRoomHoldPlacesPinLaw", name := "keep", desc := "(Lcom/example/parcours/parcours/search/Workspace$MatchingRoom;)[[I" } : Jvm.MethodName) method_3_code (1 : Nat) (Option.some (Jvm.ClassFile.FieldType.array (Jvm.ClassFile.FieldType.array Jvm.ClassFile.FieldType.int))), Jvm.Cond.code ({ cls := "java/lang/Math", name := "max", desc := "(II)I" } : Jvm.MethodName) jdk_29_method_65_code (2 : Nat) (Option.some Jvm.ClassFile.FieldType.int), Jvm.Cond.code ({ cls := "com/example/parcours/parcours/search/MatchingRoomHoldPlacesPinLaw", name := "same", desc := "(Lcom/example/parcours/parcours/search/Workspace$MatchingRoom;[[I)Z" } : Jvm.MethodName) method_4_code (2 : Nat) (Option.some Jvm.ClassFile.FieldType.boolean)]
set_option maxRecDepth 65536 in
theorem codes_eq : words1.filter isCode = codes1 := rfl
theorem w_codes : ∀ c ∈ words1.filter isCode, c.before args0 about1 = true := by
  rw [codes_eq]
  intro c hc
  simp only [codes1, List.mem_cons, List.not_mem_nil, or_false] at hc
  rcases hc with rfl | rfl | rfl | rfl | rfl | rfl | rfl | rfl | rfl
  · exact w_c0
  · exact w_c1
  · exact w_c2
  · exact w_c3
  · exact w_c4
  · exact w_c5
  · exact w_c6
  · exact w_c7
  · exact w_c8
set_option maxRecDepth 65536 in
theorem w_t1 : (words1.take 24).all (fun c => isCode c || c.before args0 about1) = true := by decide +kernel
set_option maxRecDepth 65536 in
theorem w_t2 : ((words1.drop 24).take 24).all (fun c => isCode c || c.before args0 about1) = true := by decide +kernel
set_option maxRecDepth 65536 in
theorem w_t3 : (((words1.drop 24).drop 24).take 24).all (fun c => isCode c || c.before args0 about1) = true := by decide +kernel
set_option maxRecDepth 65536 in
theorem w_t4 : ((((words1.drop 24).drop 24).drop 24).take 24).all (fun c => isCode c || c.before args0 about1) = true := by decide +kernel
set_option maxRecDepth 65536 in
theorem w_t5 : ((((words1.drop 24).drop 24).drop 24).drop 24).all (fun c => isCode c || c.before args0 about1) = true := by decide +kernel
theorem w_tables : (allAtoms (Jvm.Cond.code x code maxLocals ret :: tables_1)).before args0 about1 = true := by
  rw [allAtoms_all]
  show words1.all (fun c => c.before args0 about1) = true
  refine all_split ?_ w_codes
  rw [← List.take_append_drop 24 words1, List.all_append, w_t1, ← List.take_append_drop 24 (words1.drop 24), List.all_append, w_t2, ← List.take_append_drop 24 ((words1.drop 24).drop 24), List.all_append, w_t3, ← List.take_append_drop 24 (((words1.drop 24).drop 24).drop 24), List.all_append, w_t4, w_t5]
  rfl
set_option maxRecDepth 65536 in
theorem w_case : (Jvm.Cond.and given_1 narrow_1).before args0 about1 = true := by decide +kernel
theorem w_applies : (headSpec (Jvm.Cond.code x code maxLocals ret :: tables_1) room_1).applies x e0.platform about1 = true :=
  (Spec.applies_iff w_frames).mpr ⟨w_running, w_runnable, w_alone, w_named, w_hears, w_ripe, w_room, w_tables⟩
theorem atStart : AtStart classFile x code maxLocals ret World_1 tables_1 room_1 Calls_1 rest_1 Pre_1 launch0 p0 e0 about1 theMethod args0 below0 :=
  ⟨lists_1, trivial, launch0.admits_env _ _ _, launch0.least_env, fairChoices_fair.cas, fairChoices_fair.clock, w_frames, w_args, w_heap, w_applies, trivial, trivial, w_case⟩
end start1
theorem witness_1 : WitnessClaimed_1 := ⟨start1.p0, start1.e0, start1.about1, start1.theMethod, start1.args0, start1.below0, start1.atStart⟩
end Jvm.Pilot.@@N@@
