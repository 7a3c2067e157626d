import JvmDerived
import JvmDerived.Pilot.@@N@@Statement
import JvmDerived.Pilot.@@N@@Code
set_option linter.unusedVariables false
set_option linter.unusedSimpArgs false
namespace Jvm.RoadKit
open Sem ClassFile Op Lib Jvm.Stand Jvm.Free Jvm.LawKit
section New
variable {p : Program} {l : Launch} {e : Env} {R : Room} {s : State} {m : MethodId} {args : Array Value} {below : List Frame} {meth : Method} {c : Code} {T : State} {locs : List Loc} {cells slots : Nat}
theorem retI (X : Stand p l e R s m args below meth c T locs cells slots) (hx : p.tables.exec = Jvm.exec) {pc : Nat} {Ls : Array Slot} {z : Int32} {rest : List Value} (hret : meth.sig.returnType = some .int) (hd : decode c.code pc = .ok (.ireturn, 1)) {fs : List Frame}
    (hl : ∀ (f : JFrame) (acts : List Action), f.method = m → f.locked = none → f.entered = [] → (doReturn e (T.setTop f) acts (some (.int z))).1 = T.setFrames fs) : Steps p.tables e below (T.setTop (mkF m pc Ls (.int z :: rest))) (T.setFrames fs) := by
  have hm' : T.vm.method? m = some meth := X.method'
  have hn : narrow .int (.int z) = .int z := rfl
  show Steps p.tables e below (T.setTop { method := m, pc := pc, locals := Ls, stack := _ :: rest, locked := none }) _
  jvm_step X.here [X.here.top, hx, hd, hm', hret, hn]
  first | (intro acts; rw [hl _ acts rfl rfl rfl]) | rw [hl _ _ rfl rfl rfl]
  exact Steps.refl _
end New
end Jvm.RoadKit
namespace Jvm.Pilot.@@N@@
open Jvm Jvm.ClassFile Sem Op Lib Jvm.Free Jvm.Stand Jvm.LawKit Jvm.RoadKit Bundle Jvm.Pilot.@@N@@.Jvm.D
section OwnKit
variable {p : Program} {l : Launch} {e : Env} {R : Room} {s : State} {m : MethodId} {args : Array Value} {below : List Frame} {meth : Method} {c : Code} {Z : State} {a0 : Array Value} {cd : ByteArray} {ml : Nat} {ret : Option FieldType} {own nm : String} {n0 : Nat} {Q : Option Value → Heap → Prop} {h : Heap} {k n : Nat}
/-- what stands fast while one body runs -/
def Cx (p : Program) (s : State) (m : MethodId) (meth : Method) (c : Code) (Z : State) (cd : ByteArray) (ml : Nat) (ret : Option FieldType) (own nm : String) : Prop :=
  p.tables.exec = Jvm.exec ∧ Z.Warmed39 s.vm ∧ c.code = cd ∧ c.maxLocals = ml ∧ s.vm.findClass own = some m.cls ∧ meth.sig.returnType = ret ∧ meth.locks = false ∧ meth.name = nm
/-- from this frame, over this heap, the body returns and Q holds -/
def Wp (p : Program) (l : Launch) (e : Env) (R : Room) (s : State) (m : MethodId) (args : Array Value) (below : List Frame) (meth : Method) (c : Code) (n0 : Nat) (Q : Option Value → Heap → Prop) (h : Heap) (k n : Nat) (g : JFrame) : Prop :=
  ∀ (T : State) (locs : List Loc), Stand p l e R s m args below meth c T locs k n → T.heap = h → Fr n0 locs →
    ∃ s₂ o, Steps p.tables e below (T.setTop g) s₂ ∧ s₂.status = .running ∧ Ended s₂ below o ∧ ∃ v L, o = .returned v ∧ (Q v s₂.heap ∧ Fr n0 L) ∧ FrameEnd s o s₂ L R.cells R.slots
/-- a callee's contract: called with these arguments over this heap it returns, and Q holds -/
def Met (l : Launch) (y : MethodName) (bytes : ByteArray) (mL : Nat) (rt : Option FieldType) (ws : List Jvm.Cond) (rm : Room) (Z : State) (n0 : Nat) (as : Array Value) (h : Heap) (Q : Option Value → Heap → Prop) : Prop :=
  MetFree l y (head1 (Jvm.Cond.code y bytes mL rt :: ws) rm) (fun a U => a = as ∧ Z.Warmed39 U.vm ∧ U.heap = h) (fun _ _ _ _ _ => True) (fun _ U o U' => ∃ v L, o = .returned v ∧ (Q v U'.heap ∧ Fr n0 L) ∧ FrameEnd U o U' L rm.cells rm.slots)
theorem own_met {y : MethodName} {bytes : ByteArray} {mL : Nat} {rt : Option FieldType} {ws : List Jvm.Cond} {rm : Room} {as : Array Value} {Ls : Array Slot} (hpn : plainName y.cls = true) (hef : ∀ m, entryFrame m as mL = mkF m 0 Ls [])
    (H : ∀ p e s m below meth c, Cx p s m meth c Z bytes mL rt y.cls y.name → Wp p l e rm s m as below meth c n0 Q h 0 0 (mkF m 0 Ls [])) : Met l y bytes mL rt ws rm Z n0 as h Q := by
  refine MetFree.of_bodySF (plainFor_of_name hpn) hisR ?_
  intro p e s m args below meth c s₁ Bd hml0 hP hK
  obtain ⟨rfl, hZ, hh⟩ := hP
  have hown : s.vm.findClass y.cls = some m.cls := findClass_of_methodNamed Bd.named
  have hnm := (name_of_methodNamed Bd.named Bd.method).1
  have X0 : Stand p l e rm s m args below meth c s₁ [] 0 0 := Stand.of_body Bd
  have e0 : s₁.heap = h := by rw [← hh, Bd.state]; rfl
  obtain ⟨s₂, o, st, r⟩ := H p e s m below meth c ⟨Bd.exec, hZ, Bd.bytes, hml0, hown, Bd.returns, Bd.notSynchronized, hnm⟩ s₁ [] X0 e0 (Fr.nil n0)
  exact ⟨s₂, o, castTop (hef m) st, r⟩
/-! single steps -/
theorem own_lift {g g' : JFrame} (H : ∀ T, At T m c below → ∀ t, Steps p.tables e below (T.setTop g') t → Steps p.tables e below (T.setTop g) t) (W : Wp p l e R s m args below meth c n0 Q h k n g') : Wp p l e R s m args below meth c n0 Q h k n g := fun T locs X eT N => by
  obtain ⟨s₂, o, st, r⟩ := W T locs X eT N
  exact ⟨s₂, o, H T X.here _ st, r⟩
theorem own_liftX {g g' : JFrame} (H : ∀ T locs, Stand p l e R s m args below meth c T locs k n → T.heap = h → ∀ t, Steps p.tables e below (T.setTop g') t → Steps p.tables e below (T.setTop g) t) (W : Wp p l e R s m args below meth c n0 Q h k n g') : Wp p l e R s m args below meth c n0 Q h k n g := fun T locs X eT N => by
  obtain ⟨s₂, o, st, r⟩ := W T locs X eT N
  exact ⟨s₂, o, H T locs X eT _ st, r⟩
theorem own_cast {g g' : JFrame} (q : g = g') (W : Wp p l e R s m args below meth c n0 Q h k n g') : Wp p l e R s m args below meth c n0 Q h k n g := q ▸ W
theorem own_seq {g g' : JFrame} (t : Wp p l e R s m args below meth c n0 Q h k n g' → Wp p l e R s m args below meth c n0 Q h k n g) (w : Wp p l e R s m args below meth c n0 Q h k n g') : Wp p l e R s m args below meth c n0 Q h k n g := t w
theorem own_seq1 {g : JFrame} {F : Slot → JFrame} (t : (∀ u, RoadKit.One u → Wp p l e R s m args below meth c n0 Q h k n (F u)) → Wp p l e R s m args below meth c n0 Q h k n g) (w : ∀ u, RoadKit.One u → Wp p l e R s m args below meth c n0 Q h k n (F u)) : Wp p l e R s m args below meth c n0 Q h k n g := t w
theorem own_seq2 {g : JFrame} {F : Slot → Slot → JFrame} (t : (∀ u, RoadKit.One u → ∀ v, RoadKit.One v → Wp p l e R s m args below meth c n0 Q h k n (F u v)) → Wp p l e R s m args below meth c n0 Q h k n g) (w : ∀ u, RoadKit.One u → ∀ v, RoadKit.One v → Wp p l e R s m args below meth c n0 Q h k n (F u v)) : Wp p l e R s m args below meth c n0 Q h k n g := t w
theorem own_seqH {g g' : JFrame} {P : Heap → Prop} {k' n' : Nat} (t : (∀ h', P h' → Wp p l e R s m args below meth c n0 Q h' k' n' g') → Wp p l e R s m args below meth c n0 Q h k n g) (w : ∀ h', P h' → Wp p l e R s m args below meth c n0 Q h' k' n' g') : Wp p l e R s m args below meth c n0 Q h k n g := t w
variable {pc pc' : Nat} {Ls Ls' : Array Slot} {st : List Value}
theorem own_iload (C : Cx p s m meth c Z cd ml ret own nm) {i : Nat} {v : Int32} (hd : decode cd pc = .ok (.iload i, 2)) (hl : Ls[i]? = some (.val (.int v))) (hp : pc + 2 = pc') (W : Wp p l e R s m args below meth c n0 Q h k n (mkF m pc' Ls (.int v :: st))) : Wp p l e R s m args below meth c n0 Q h k n (mkF m pc Ls st) := by
  subst hp; exact own_lift (fun T A t q => XS.iload A C.1 rfl (hb C.2.2.1 hd) hl q) W
theorem own_iloadN (C : Cx p s m meth c Z cd ml ret own nm) {i : Fin 4} {v : Int32} (hd : decode cd pc = .ok (.iload_n i, 1)) (hl : Ls[i.val]? = some (.val (.int v))) (hp : pc + 1 = pc') (W : Wp p l e R s m args below meth c n0 Q h k n (mkF m pc' Ls (.int v :: st))) : Wp p l e R s m args below meth c n0 Q h k n (mkF m pc Ls st) := by
  subst hp; exact own_lift (fun T A t q => XS.iloadN A C.1 rfl (hb C.2.2.1 hd) hl q) W
theorem own_lload (C : Cx p s m meth c Z cd ml ret own nm) {i : Nat} {v : Int64} (hd : decode cd pc = .ok (.lload i, 2)) (hl : Ls[i]? = some (.val (.long v))) (hp : pc + 2 = pc') (W : Wp p l e R s m args below meth c n0 Q h k n (mkF m pc' Ls (.long v :: st))) : Wp p l e R s m args below meth c n0 Q h k n (mkF m pc Ls st) := by
  subst hp; exact own_lift (fun T A t q => XS.lload A C.1 rfl (hb C.2.2.1 hd) hl q) W
theorem own_lloadN (C : Cx p s m meth c Z cd ml ret own nm) {i : Fin 4} {v : Int64} (hd : decode cd pc = .ok (.lload_n i, 1)) (hl : Ls[i.val]? = some (.val (.long v))) (hp : pc + 1 = pc') (W : Wp p l e R s m args below meth c n0 Q h k n (mkF m pc' Ls (.long v :: st))) : Wp p l e R s m args below meth c n0 Q h k n (mkF m pc Ls st) := by
  subst hp; exact own_lift (fun T A t q => XS.lloadN A C.1 rfl (hb C.2.2.1 hd) hl q) W
theorem own_aload (C : Cx p s m meth c Z cd ml ret own nm) {i : Nat} {v : Value} (hd : decode cd pc = .ok (.aload i, 2)) (hl : Ls[i]? = some (.val v)) (hv : v.isRef = true) (hp : pc + 2 = pc') (W : Wp p l e R s m args below meth c n0 Q h k n (mkF m pc' Ls (v :: st))) : Wp p l e R s m args below meth c n0 Q h k n (mkF m pc Ls st) := by
  subst hp; exact own_lift (fun T A t q => XS.aload A C.1 rfl (hb C.2.2.1 hd) hl hv q) W
theorem own_aloadN (C : Cx p s m meth c Z cd ml ret own nm) {i : Fin 4} {v : Value} (hd : decode cd pc = .ok (.aload_n i, 1)) (hl : Ls[i.val]? = some (.val v)) (hv : v.isRef = true) (hp : pc + 1 = pc') (W : Wp p l e R s m args below meth c n0 Q h k n (mkF m pc' Ls (v :: st))) : Wp p l e R s m args below meth c n0 Q h k n (mkF m pc Ls st) := by
  subst hp; exact own_lift (fun T A t q => XS.aloadN A C.1 rfl (hb C.2.2.1 hd) hl hv q) W
theorem own_istore (C : Cx p s m meth c Z cd ml ret own nm) {i : Nat} {x y : Int32} (hd : decode cd pc = .ok (.istore i, 2)) (hy : x = y) (hl : storeLocals Ls i (.int y) = some Ls') (hp : pc + 2 = pc') (W : Wp p l e R s m args below meth c n0 Q h k n (mkF m pc' Ls' st)) : Wp p l e R s m args below meth c n0 Q h k n (mkF m pc Ls (.int x :: st)) := by
  subst hp hy; exact own_lift (fun T A t q => XS.istore A C.1 rfl (hb C.2.2.1 hd) rfl hl q) W
theorem own_istoreN (C : Cx p s m meth c Z cd ml ret own nm) {i : Fin 4} {x y : Int32} (hd : decode cd pc = .ok (.istore_n i, 1)) (hy : x = y) (hl : storeLocals Ls i.val (.int y) = some Ls') (hp : pc + 1 = pc') (W : Wp p l e R s m args below meth c n0 Q h k n (mkF m pc' Ls' st)) : Wp p l e R s m args below meth c n0 Q h k n (mkF m pc Ls (.int x :: st)) := by
  subst hp hy; exact own_lift (fun T A t q => XS.istoreN A C.1 rfl (hb C.2.2.1 hd) rfl hl q) W
theorem own_lstore (C : Cx p s m meth c Z cd ml ret own nm) {i : Nat} {x y : Int64} (hd : decode cd pc = .ok (.lstore i, 2)) (hy : x = y) (hl : storeLocals Ls i (.long y) = some Ls') (hp : pc + 2 = pc') (W : Wp p l e R s m args below meth c n0 Q h k n (mkF m pc' Ls' st)) : Wp p l e R s m args below meth c n0 Q h k n (mkF m pc Ls (.long x :: st)) := by
  subst hp hy; exact own_lift (fun T A t q => XS.lstore A C.1 rfl (hb C.2.2.1 hd) rfl hl q) W
theorem own_lstoreN (C : Cx p s m meth c Z cd ml ret own nm) {i : Fin 4} {x y : Int64} (hd : decode cd pc = .ok (.lstore_n i, 1)) (hy : x = y) (hl : storeLocals Ls i.val (.long y) = some Ls') (hp : pc + 1 = pc') (W : Wp p l e R s m args below meth c n0 Q h k n (mkF m pc' Ls' st)) : Wp p l e R s m args below meth c n0 Q h k n (mkF m pc Ls (.long x :: st)) := by
  subst hp hy; exact own_lift (fun T A t q => XS.lstoreN A C.1 rfl (hb C.2.2.1 hd) rfl hl q) W
theorem own_astore (C : Cx p s m meth c Z cd ml ret own nm) {i : Nat} {x : Value} (hd : decode cd pc = .ok (.astore i, 2)) (hv : x.isRef = true) (hl : storeLocals Ls i x = some Ls') (hp : pc + 2 = pc') (W : Wp p l e R s m args below meth c n0 Q h k n (mkF m pc' Ls' st)) : Wp p l e R s m args below meth c n0 Q h k n (mkF m pc Ls (x :: st)) := by
  subst hp; exact own_lift (fun T A t q => XS.astore A C.1 rfl (hb C.2.2.1 hd) rfl hv hl q) W
theorem own_astoreN (C : Cx p s m meth c Z cd ml ret own nm) {i : Fin 4} {x : Value} (hd : decode cd pc = .ok (.astore_n i, 1)) (hv : x.isRef = true) (hl : storeLocals Ls i.val x = some Ls') (hp : pc + 1 = pc') (W : Wp p l e R s m args below meth c n0 Q h k n (mkF m pc' Ls' st)) : Wp p l e R s m args below meth c n0 Q h k n (mkF m pc Ls (x :: st)) := by
  subst hp; exact own_lift (fun T A t q => XS.astoreN A C.1 rfl (hb C.2.2.1 hd) rfl hv hl q) W
theorem own_iconst (C : Cx p s m meth c Z cd ml ret own nm) {i : Int} {v : Int32} (hd : decode cd pc = .ok (.iconst i, 1)) (hv : Int32.ofInt i = v) (hp : pc + 1 = pc') (W : Wp p l e R s m args below meth c n0 Q h k n (mkF m pc' Ls (.int v :: st))) : Wp p l e R s m args below meth c n0 Q h k n (mkF m pc Ls st) := by
  subst hp hv; exact own_lift (fun T A t q => XS.iconst A C.1 rfl (hb C.2.2.1 hd) q) W
theorem own_bipush (C : Cx p s m meth c Z cd ml ret own nm) {i : Int} {v : Int32} (hd : decode cd pc = .ok (.bipush i, 2)) (hv : (Int8.ofInt i).toInt32 = v) (hp : pc + 2 = pc') (W : Wp p l e R s m args below meth c n0 Q h k n (mkF m pc' Ls (.int v :: st))) : Wp p l e R s m args below meth c n0 Q h k n (mkF m pc Ls st) := by
  subst hp hv; exact own_lift (fun T A t q => XS.bipush A C.1 rfl (hb C.2.2.1 hd) q) W
theorem own_sipush (C : Cx p s m meth c Z cd ml ret own nm) {i : Int} {v : Int32} (hd : decode cd pc = .ok (.sipush i, 3)) (hv : (Int16.ofInt i).toInt32 = v) (hp : pc + 3 = pc') (W : Wp p l e R s m args below meth c n0 Q h k n (mkF m pc' Ls (.int v :: st))) : Wp p l e R s m args below meth c n0 Q h k n (mkF m pc Ls st) := by
  subst hp hv; exact own_lift (fun T A t q => XS.sipush A C.1 rfl (hb C.2.2.1 hd) q) W
theorem own_lconst (C : Cx p s m meth c Z cd ml ret own nm) {i : Fin 2} {v : Int64} (hd : decode cd pc = .ok (.lconst i, 1)) (hv : Int64.ofNat i.val = v) (hp : pc + 1 = pc') (W : Wp p l e R s m args below meth c n0 Q h k n (mkF m pc' Ls (.long v :: st))) : Wp p l e R s m args below meth c n0 Q h k n (mkF m pc Ls st) := by
  subst hp hv; exact own_lift (fun T A t q => XS.lconst A C.1 rfl (hb C.2.2.1 hd) q) W
theorem own_null (C : Cx p s m meth c Z cd ml ret own nm) (hd : decode cd pc = .ok (.aconst_null, 1)) (hp : pc + 1 = pc') (W : Wp p l e R s m args below meth c n0 Q h k n (mkF m pc' Ls (.null :: st))) : Wp p l e R s m args below meth c n0 Q h k n (mkF m pc Ls st) := by
  subst hp; exact own_lift (fun T A t q => XS.aconstNull A C.1 rfl (hb C.2.2.1 hd) q) W
/-! returns -/
theorem own_vret (C : Cx p s m meth c Z cd ml none own nm) (hd : decode cd pc = .ok (.return_, 1)) (hk : k ≤ R.cells) (hn : n ≤ R.slots) (hq : Q none h) : Wp p l e R s m args below meth c n0 Q h k n (mkF m pc Ls []) := fun T locs X eT N => by
  obtain ⟨hx, hZ, hby, hml, hown, hret, hlk, hnm⟩ := C
  obtain ⟨fs, hr, hrun, hended, hW, hsame⟩ := X.leave (v := none) (fun _ => rfl) hlk
  exact ⟨_, _, X.returnOut hx hret (hb hby hd) hr, hrun, hended, _, _, rfl, ⟨by rw [show (T.setFrames fs).heap = T.heap from rfl, eT]; exact hq, N⟩, ⟨_, rfl⟩, hW, hsame.mono hk hn⟩
theorem own_iret {z : Int32} (C : Cx p s m meth c Z cd ml (some .int) own nm) (hd : decode cd pc = .ok (.ireturn, 1)) (hk : k ≤ R.cells) (hn : n ≤ R.slots) (hq : Q (some (.int z)) h) : Wp p l e R s m args below meth c n0 Q h k n (mkF m pc Ls (.int z :: st)) := fun T locs X eT N => by
  obtain ⟨hx, hZ, hby, hml, hown, hret, hlk, hnm⟩ := C
  obtain ⟨fs, hr, hrun, hended, hW, hsame⟩ := X.leave (v := some (.int z)) (fun q => by rw [hret] at q; cases q) hlk
  exact ⟨_, _, retI X hx hret (hb hby hd) hr, hrun, hended, _, _, rfl, ⟨by rw [show (T.setFrames fs).heap = T.heap from rfl, eT]; exact hq, N⟩, ⟨_, rfl⟩, hW, hsame.mono hk hn⟩
theorem own_nret {z : Int32} {t : FieldType} (C : Cx p s m meth c Z cd ml (some t) own nm) (ht : t = .boolean ∨ t = .byte ∨ t = .char ∨ t = .short) (hd : decode cd pc = .ok (.ireturn, 1)) (hk : k ≤ R.cells) (hn : n ≤ R.slots) (hq : Q (some (.int (nar t z))) h) : Wp p l e R s m args below meth c n0 Q h k n (mkF m pc Ls (.int z :: st)) := fun T locs X eT N => by
  obtain ⟨hx, hZ, hby, hml, hown, hret, hlk, hnm⟩ := C
  obtain ⟨fs, hr, hrun, hended, hW, hsame⟩ := X.leave (v := some (.int (nar t z))) (fun q => by rw [hret] at q; cases q) hlk
  exact ⟨_, _, retN X hx hret ht (hb hby hd) hr, hrun, hended, _, _, rfl, ⟨by rw [show (T.setFrames fs).heap = T.heap from rfl, eT]; exact hq, N⟩, ⟨_, rfl⟩, hW, hsame.mono hk hn⟩
theorem own_zret {z : Int32} (C : Cx p s m meth c Z cd ml (some .boolean) own nm) (hd : decode cd pc = .ok (.ireturn, 1)) (hk : k ≤ R.cells) (hn : n ≤ R.slots) (hz : z = 0 ∨ z = 1) (hq : Q (some (.int z)) h) : Wp p l e R s m args below meth c n0 Q h k n (mkF m pc Ls (.int z :: st)) :=
  own_nret C (Or.inl rfl) hd hk hn (by rcases hz with rfl | rfl <;> exact hq)
theorem own_lret {z : Int64} (C : Cx p s m meth c Z cd ml (some .long) own nm) (hd : decode cd pc = .ok (.lreturn, 1)) (hk : k ≤ R.cells) (hn : n ≤ R.slots) (hq : Q (some (.long z)) h) : Wp p l e R s m args below meth c n0 Q h k n (mkF m pc Ls [.long z]) := fun T locs X eT N => by
  obtain ⟨hx, hZ, hby, hml, hown, hret, hlk, hnm⟩ := C
  obtain ⟨fs, hr, hrun, hended, hW, hsame⟩ := X.leave (v := some (.long z)) (fun q => by rw [hret] at q; cases q) hlk
  exact ⟨_, _, X.lreturnOut hx hret (hb hby hd) hr, hrun, hended, _, _, rfl, ⟨by rw [show (T.setFrames fs).heap = T.heap from rfl, eT]; exact hq, N⟩, ⟨_, rfl⟩, hW, hsame.mono hk hn⟩
theorem own_aret {z : Value} {t : FieldType} (C : Cx p s m meth c Z cd ml (some t) own nm) (hv : z.isRef = true) (ht : t.isReference = true) (hd : decode cd pc = .ok (.areturn, 1)) (hk : k ≤ R.cells) (hn : n ≤ R.slots) (hq : Q (some z) h) : Wp p l e R s m args below meth c n0 Q h k n (mkF m pc Ls (z :: st)) := fun T locs X eT N => by
  obtain ⟨hx, hZ, hby, hml, hown, hret, hlk, hnm⟩ := C
  obtain ⟨fs, hr, hrun, hended, hW, hsame⟩ := X.leave (v := some z) (fun q => by rw [hret] at q; cases q) hlk
  have hd' := hb hby hd
  refine ⟨_, _, ?_, hrun, hended, _, _, rfl, ⟨by rw [show (T.setFrames fs).heap = T.heap from rfl, eT]; exact hq, N⟩, ⟨_, rfl⟩, hW, hsame.mono hk hn⟩
  jvm_step X.here [X.here.top, hx, hd', X.method', hret, hv, ht]
  first | (intro acts; rw [hr _ acts rfl rfl rfl]) | rw [hr _ _ rfl rfl rfl]
  exact Steps.refl _
theorem own_iadd (C : Cx p s m meth c Z cd ml ret own nm) {x y v : Int32} (hd : decode cd pc = .ok (.iadd, 1)) (hv : x + y = v) (hp : pc + 1 = pc') (W : Wp p l e R s m args below meth c n0 Q h k n (mkF m pc' Ls (.int v :: st))) : Wp p l e R s m args below meth c n0 Q h k n (mkF m pc Ls (.int y :: .int x :: st)) := by
  subst hp hv; exact own_lift (fun T A t q => XS.iadd A C.1 rfl (hb C.2.2.1 hd) rfl q) W
theorem own_isub (C : Cx p s m meth c Z cd ml ret own nm) {x y v : Int32} (hd : decode cd pc = .ok (.isub, 1)) (hv : x - y = v) (hp : pc + 1 = pc') (W : Wp p l e R s m args below meth c n0 Q h k n (mkF m pc' Ls (.int v :: st))) : Wp p l e R s m args below meth c n0 Q h k n (mkF m pc Ls (.int y :: .int x :: st)) := by
  subst hp hv; exact own_lift (fun T A t q => XS.isub A C.1 rfl (hb C.2.2.1 hd) rfl q) W
theorem own_imul (C : Cx p s m meth c Z cd ml ret own nm) {x y v : Int32} (hd : decode cd pc = .ok (.imul, 1)) (hv : x * y = v) (hp : pc + 1 = pc') (W : Wp p l e R s m args below meth c n0 Q h k n (mkF m pc' Ls (.int v :: st))) : Wp p l e R s m args below meth c n0 Q h k n (mkF m pc Ls (.int y :: .int x :: st)) := by
  subst hp hv; exact own_lift (fun T A t q => XS.imul A C.1 rfl (hb C.2.2.1 hd) rfl q) W
theorem own_iand (C : Cx p s m meth c Z cd ml ret own nm) {x y v : Int32} (hd : decode cd pc = .ok (.iand, 1)) (hv : x &&& y = v) (hp : pc + 1 = pc') (W : Wp p l e R s m args below meth c n0 Q h k n (mkF m pc' Ls (.int v :: st))) : Wp p l e R s m args below meth c n0 Q h k n (mkF m pc Ls (.int y :: .int x :: st)) := by
  subst hp hv; exact own_lift (fun T A t q => XS.iand A C.1 rfl (hb C.2.2.1 hd) rfl q) W
theorem own_ior (C : Cx p s m meth c Z cd ml ret own nm) {x y v : Int32} (hd : decode cd pc = .ok (.ior, 1)) (hv : x ||| y = v) (hp : pc + 1 = pc') (W : Wp p l e R s m args below meth c n0 Q h k n (mkF m pc' Ls (.int v :: st))) : Wp p l e R s m args below meth c n0 Q h k n (mkF m pc Ls (.int y :: .int x :: st)) := by
  subst hp hv; exact own_lift (fun T A t q => XS.ior A C.1 rfl (hb C.2.2.1 hd) rfl q) W
theorem own_ixor (C : Cx p s m meth c Z cd ml ret own nm) {x y v : Int32} (hd : decode cd pc = .ok (.ixor, 1)) (hv : x ^^^ y = v) (hp : pc + 1 = pc') (W : Wp p l e R s m args below meth c n0 Q h k n (mkF m pc' Ls (.int v :: st))) : Wp p l e R s m args below meth c n0 Q h k n (mkF m pc Ls (.int y :: .int x :: st)) := by
  subst hp hv; exact own_lift (fun T A t q => XS.ixor A C.1 rfl (hb C.2.2.1 hd) rfl q) W
theorem own_ishl (C : Cx p s m meth c Z cd ml ret own nm) {x y v : Int32} (hd : decode cd pc = .ok (.ishl, 1)) (hv : x <<< (y &&& 31) = v) (hp : pc + 1 = pc') (W : Wp p l e R s m args below meth c n0 Q h k n (mkF m pc' Ls (.int v :: st))) : Wp p l e R s m args below meth c n0 Q h k n (mkF m pc Ls (.int y :: .int x :: st)) := by
  subst hp hv; exact own_lift (fun T A t q => XS.ishl A C.1 rfl (hb C.2.2.1 hd) rfl q) W
theorem own_ishr (C : Cx p s m meth c Z cd ml ret own nm) {x y v : Int32} (hd : decode cd pc = .ok (.ishr, 1)) (hv : x >>> (y &&& 31) = v) (hp : pc + 1 = pc') (W : Wp p l e R s m args below meth c n0 Q h k n (mkF m pc' Ls (.int v :: st))) : Wp p l e R s m args below meth c n0 Q h k n (mkF m pc Ls (.int y :: .int x :: st)) := by
  subst hp hv; exact own_lift (fun T A t q => XS.ishr A C.1 rfl (hb C.2.2.1 hd) rfl q) W
theorem own_iushr (C : Cx p s m meth c Z cd ml ret own nm) {x y v : Int32} (hd : decode cd pc = .ok (.iushr, 1)) (hv : (x.toUInt32 >>> (y &&& 31).toUInt32).toInt32 = v) (hp : pc + 1 = pc') (W : Wp p l e R s m args below meth c n0 Q h k n (mkF m pc' Ls (.int v :: st))) : Wp p l e R s m args below meth c n0 Q h k n (mkF m pc Ls (.int y :: .int x :: st)) := by
  subst hp hv; exact own_lift (fun T A t q => XS.iushr A C.1 rfl (hb C.2.2.1 hd) rfl q) W
theorem own_idiv (C : Cx p s m meth c Z cd ml ret own nm) {x y v : Int32} (hd : decode cd pc = .ok (.idiv, 1)) (hy : y ≠ 0) (hv : x / y = v) (hp : pc + 1 = pc') (W : Wp p l e R s m args below meth c n0 Q h k n (mkF m pc' Ls (.int v :: st))) : Wp p l e R s m args below meth c n0 Q h k n (mkF m pc Ls (.int y :: .int x :: st)) := by
  subst hp hv; exact own_lift (fun T A t q => XS.idiv A C.1 rfl (hb C.2.2.1 hd) rfl hy q) W
theorem own_ladd (C : Cx p s m meth c Z cd ml ret own nm) {x y v : Int64} (hd : decode cd pc = .ok (.ladd, 1)) (hv : x + y = v) (hp : pc + 1 = pc') (W : Wp p l e R s m args below meth c n0 Q h k n (mkF m pc' Ls (.long v :: st))) : Wp p l e R s m args below meth c n0 Q h k n (mkF m pc Ls (.long y :: .long x :: st)) := by
  subst hp hv; exact own_lift (fun T A t q => XS.ladd A C.1 rfl (hb C.2.2.1 hd) rfl q) W
theorem own_lsub (C : Cx p s m meth c Z cd ml ret own nm) {x y v : Int64} (hd : decode cd pc = .ok (.lsub, 1)) (hv : x - y = v) (hp : pc + 1 = pc') (W : Wp p l e R s m args below meth c n0 Q h k n (mkF m pc' Ls (.long v :: st))) : Wp p l e R s m args below meth c n0 Q h k n (mkF m pc Ls (.long y :: .long x :: st)) := by
  subst hp hv; exact own_lift (fun T A t q => XS.lsub A C.1 rfl (hb C.2.2.1 hd) rfl q) W
theorem own_lmul (C : Cx p s m meth c Z cd ml ret own nm) {x y v : Int64} (hd : decode cd pc = .ok (.lmul, 1)) (hv : x * y = v) (hp : pc + 1 = pc') (W : Wp p l e R s m args below meth c n0 Q h k n (mkF m pc' Ls (.long v :: st))) : Wp p l e R s m args below meth c n0 Q h k n (mkF m pc Ls (.long y :: .long x :: st)) := by
  subst hp hv; exact own_lift (fun T A t q => XS.lmul A C.1 rfl (hb C.2.2.1 hd) rfl q) W
theorem own_land (C : Cx p s m meth c Z cd ml ret own nm) {x y v : Int64} (hd : decode cd pc = .ok (.land, 1)) (hv : x &&& y = v) (hp : pc + 1 = pc') (W : Wp p l e R s m args below meth c n0 Q h k n (mkF m pc' Ls (.long v :: st))) : Wp p l e R s m args below meth c n0 Q h k n (mkF m pc Ls (.long y :: .long x :: st)) := by
  subst hp hv; exact own_lift (fun T A t q => XS.land A C.1 rfl (hb C.2.2.1 hd) rfl q) W
theorem own_lor (C : Cx p s m meth c Z cd ml ret own nm) {x y v : Int64} (hd : decode cd pc = .ok (.lor, 1)) (hv : x ||| y = v) (hp : pc + 1 = pc') (W : Wp p l e R s m args below meth c n0 Q h k n (mkF m pc' Ls (.long v :: st))) : Wp p l e R s m args below meth c n0 Q h k n (mkF m pc Ls (.long y :: .long x :: st)) := by
  subst hp hv; exact own_lift (fun T A t q => XS.lor A C.1 rfl (hb C.2.2.1 hd) rfl q) W
theorem own_lxor (C : Cx p s m meth c Z cd ml ret own nm) {x y v : Int64} (hd : decode cd pc = .ok (.lxor, 1)) (hv : x ^^^ y = v) (hp : pc + 1 = pc') (W : Wp p l e R s m args below meth c n0 Q h k n (mkF m pc' Ls (.long v :: st))) : Wp p l e R s m args below meth c n0 Q h k n (mkF m pc Ls (.long y :: .long x :: st)) := by
  subst hp hv; exact own_lift (fun T A t q => XS.lxor A C.1 rfl (hb C.2.2.1 hd) rfl q) W
theorem own_ldiv (C : Cx p s m meth c Z cd ml ret own nm) {x y v : Int64} (hd : decode cd pc = .ok (.ldiv, 1)) (hy : y ≠ 0) (hv : x / y = v) (hp : pc + 1 = pc') (W : Wp p l e R s m args below meth c n0 Q h k n (mkF m pc' Ls (.long v :: st))) : Wp p l e R s m args below meth c n0 Q h k n (mkF m pc Ls (.long y :: .long x :: st)) := by
  subst hp hv; exact own_lift (fun T A t q => XS.ldiv A C.1 rfl (hb C.2.2.1 hd) rfl hy q) W
theorem own_irem (C : Cx p s m meth c Z cd ml ret own nm) {x y v : Int32} (hd : decode cd pc = .ok (.irem, 1)) (hy : y ≠ 0) (hv : x % y = v) (hp : pc + 1 = pc') (W : Wp p l e R s m args below meth c n0 Q h k n (mkF m pc' Ls (.int v :: st))) : Wp p l e R s m args below meth c n0 Q h k n (mkF m pc Ls (.int y :: .int x :: st)) := by
  subst hp hv; exact own_liftX (fun T locs X eT t q => iremM X C.1 rfl (hb C.2.2.1 hd) rfl hy q) W
theorem own_lrem (C : Cx p s m meth c Z cd ml ret own nm) {x y v : Int64} (hd : decode cd pc = .ok (.lrem, 1)) (hy : y ≠ 0) (hv : x % y = v) (hp : pc + 1 = pc') (W : Wp p l e R s m args below meth c n0 Q h k n (mkF m pc' Ls (.long v :: st))) : Wp p l e R s m args below meth c n0 Q h k n (mkF m pc Ls (.long y :: .long x :: st)) := by
  subst hp; rw [← lrem_mod] at hv; subst hv; exact own_lift (fun T A t q => XS.lrem A C.1 rfl (hb C.2.2.1 hd) rfl hy q) W
theorem own_lshl (C : Cx p s m meth c Z cd ml ret own nm) {x v : Int64} {y : Int32} (hd : decode cd pc = .ok (.lshl, 1)) (hv : x <<< (y &&& 0x3f).toInt64 = v) (hp : pc + 1 = pc') (W : Wp p l e R s m args below meth c n0 Q h k n (mkF m pc' Ls (.long v :: st))) : Wp p l e R s m args below meth c n0 Q h k n (mkF m pc Ls (.int y :: .long x :: st)) := by
  subst hp hv; exact own_lift (fun T A t q => XS.lshl A C.1 rfl (hb C.2.2.1 hd) rfl q) W
theorem own_lshr (C : Cx p s m meth c Z cd ml ret own nm) {x v : Int64} {y : Int32} (hd : decode cd pc = .ok (.lshr, 1)) (hv : x >>> (y &&& 0x3f).toInt64 = v) (hp : pc + 1 = pc') (W : Wp p l e R s m args below meth c n0 Q h k n (mkF m pc' Ls (.long v :: st))) : Wp p l e R s m args below meth c n0 Q h k n (mkF m pc Ls (.int y :: .long x :: st)) := by
  subst hp hv; exact own_lift (fun T A t q => XS.lshr A C.1 rfl (hb C.2.2.1 hd) rfl q) W
theorem own_lushr (C : Cx p s m meth c Z cd ml ret own nm) {x v : Int64} {y : Int32} (hd : decode cd pc = .ok (.lushr, 1)) (hv : (x.toUInt64 >>> (y &&& 0x3f).toInt64.toUInt64).toInt64 = v) (hp : pc + 1 = pc') (W : Wp p l e R s m args below meth c n0 Q h k n (mkF m pc' Ls (.long v :: st))) : Wp p l e R s m args below meth c n0 Q h k n (mkF m pc Ls (.int y :: .long x :: st)) := by
  subst hp hv; exact own_lift (fun T A t q => XS.lushr A C.1 rfl (hb C.2.2.1 hd) rfl q) W
theorem own_ineg (C : Cx p s m meth c Z cd ml ret own nm) {x : Int32} {v : Int32} (hd : decode cd pc = .ok (.ineg, 1)) (hv : -x = v) (hp : pc + 1 = pc') (W : Wp p l e R s m args below meth c n0 Q h k n (mkF m pc' Ls (.int v :: st))) : Wp p l e R s m args below meth c n0 Q h k n (mkF m pc Ls (.int x :: st)) := by
  subst hp hv; exact own_lift (fun T A t q => XS.ineg A C.1 rfl (hb C.2.2.1 hd) rfl q) W
theorem own_lneg (C : Cx p s m meth c Z cd ml ret own nm) {x : Int64} {v : Int64} (hd : decode cd pc = .ok (.lneg, 1)) (hv : -x = v) (hp : pc + 1 = pc') (W : Wp p l e R s m args below meth c n0 Q h k n (mkF m pc' Ls (.long v :: st))) : Wp p l e R s m args below meth c n0 Q h k n (mkF m pc Ls (.long x :: st)) := by
  subst hp hv; exact own_lift (fun T A t q => XS.lneg A C.1 rfl (hb C.2.2.1 hd) rfl q) W
theorem own_i2l (C : Cx p s m meth c Z cd ml ret own nm) {x : Int32} {v : Int64} (hd : decode cd pc = .ok (.i2l, 1)) (hv : x.toInt64 = v) (hp : pc + 1 = pc') (W : Wp p l e R s m args below meth c n0 Q h k n (mkF m pc' Ls (.long v :: st))) : Wp p l e R s m args below meth c n0 Q h k n (mkF m pc Ls (.int x :: st)) := by
  subst hp hv; exact own_lift (fun T A t q => XS.i2l A C.1 rfl (hb C.2.2.1 hd) rfl q) W
theorem own_l2i (C : Cx p s m meth c Z cd ml ret own nm) {x : Int64} {v : Int32} (hd : decode cd pc = .ok (.l2i, 1)) (hv : x.toInt32 = v) (hp : pc + 1 = pc') (W : Wp p l e R s m args below meth c n0 Q h k n (mkF m pc' Ls (.int v :: st))) : Wp p l e R s m args below meth c n0 Q h k n (mkF m pc Ls (.long x :: st)) := by
  subst hp hv; exact own_lift (fun T A t q => XS.l2i A C.1 rfl (hb C.2.2.1 hd) rfl q) W
theorem own_i2b (C : Cx p s m meth c Z cd ml ret own nm) {x : Int32} {v : Int32} (hd : decode cd pc = .ok (.i2b, 1)) (hv : x.toInt8.toInt32 = v) (hp : pc + 1 = pc') (W : Wp p l e R s m args below meth c n0 Q h k n (mkF m pc' Ls (.int v :: st))) : Wp p l e R s m args below meth c n0 Q h k n (mkF m pc Ls (.int x :: st)) := by
  subst hp hv; exact own_lift (fun T A t q => XS.i2b A C.1 rfl (hb C.2.2.1 hd) rfl q) W
theorem own_i2s (C : Cx p s m meth c Z cd ml ret own nm) {x : Int32} {v : Int32} (hd : decode cd pc = .ok (.i2s, 1)) (hv : x.toInt16.toInt32 = v) (hp : pc + 1 = pc') (W : Wp p l e R s m args below meth c n0 Q h k n (mkF m pc' Ls (.int v :: st))) : Wp p l e R s m args below meth c n0 Q h k n (mkF m pc Ls (.int x :: st)) := by
  subst hp hv; exact own_lift (fun T A t q => XS.i2s A C.1 rfl (hb C.2.2.1 hd) rfl q) W
theorem own_i2c (C : Cx p s m meth c Z cd ml ret own nm) {x : Int32} {v : Int32} (hd : decode cd pc = .ok (.i2c, 1)) (hv : x.toUInt32.toUInt16.toUInt32.toInt32 = v) (hp : pc + 1 = pc') (W : Wp p l e R s m args below meth c n0 Q h k n (mkF m pc' Ls (.int v :: st))) : Wp p l e R s m args below meth c n0 Q h k n (mkF m pc Ls (.int x :: st)) := by
  subst hp hv; exact own_lift (fun T A t q => XS.i2c A C.1 rfl (hb C.2.2.1 hd) rfl q) W
theorem own_lcmp (C : Cx p s m meth c Z cd ml ret own nm) {x y : Int64} (hd : decode cd pc = .ok (.lcmp, 1)) (hp : pc + 1 = pc') (W : Wp p l e R s m args below meth c n0 Q h k n (mkF m pc' Ls (.int (lcmpW x y) :: st))) : Wp p l e R s m args below meth c n0 Q h k n (mkF m pc Ls (.long y :: .long x :: st)) := by
  subst hp; exact own_lift (fun T A t q => XS.lcmp A C.1 rfl (hb C.2.2.1 hd) rfl q) W
theorem own_dup (C : Cx p s m meth c Z cd ml ret own nm) {x : Value} (hd : decode cd pc = .ok (.dup, 1)) (hc : x.category = 1) (hp : pc + 1 = pc') (W : Wp p l e R s m args below meth c n0 Q h k n (mkF m pc' Ls (x :: x :: st))) : Wp p l e R s m args below meth c n0 Q h k n (mkF m pc Ls (x :: st)) := by
  subst hp; exact own_lift (fun T A t q => XS.dup A C.1 rfl (hb C.2.2.1 hd) rfl hc q) W
theorem own_pop (C : Cx p s m meth c Z cd ml ret own nm) {x : Value} (hd : decode cd pc = .ok (.pop, 1)) (hc : x.category = 1) (hp : pc + 1 = pc') (W : Wp p l e R s m args below meth c n0 Q h k n (mkF m pc' Ls st)) : Wp p l e R s m args below meth c n0 Q h k n (mkF m pc Ls (x :: st)) := by
  subst hp; exact own_lift (fun T A t q => XS.pop A C.1 rfl (hb C.2.2.1 hd) rfl hc q) W
theorem own_dupX1 (C : Cx p s m meth c Z cd ml ret own nm) {x y : Value} (hd : decode cd pc = .ok (.dup_x1, 1)) (hc : x.category = 1) (hc' : y.category = 1) (hp : pc + 1 = pc') (W : Wp p l e R s m args below meth c n0 Q h k n (mkF m pc' Ls (x :: y :: x :: st))) : Wp p l e R s m args below meth c n0 Q h k n (mkF m pc Ls (x :: y :: st)) := by
  subst hp; exact own_lift (fun T A t q => XS.dupX1 A C.1 rfl (hb C.2.2.1 hd) rfl hc hc' q) W
theorem own_dup2 (C : Cx p s m meth c Z cd ml ret own nm) {x y : Value} (hd : decode cd pc = .ok (.dup2, 1)) (hc : x.category = 1) (hc' : y.category = 1) (hp : pc + 1 = pc') (W : Wp p l e R s m args below meth c n0 Q h k n (mkF m pc' Ls (x :: y :: x :: y :: st))) : Wp p l e R s m args below meth c n0 Q h k n (mkF m pc Ls (x :: y :: st)) := by
  subst hp; exact own_lift (fun T A t q => Jvm.Free.XT.dup2 A C.1 rfl (hb C.2.2.1 hd) rfl hc hc' q) W
theorem own_iinc (C : Cx p s m meth c Z cd ml ret own nm) {i : Nat} {d : Int} {x v : Int32} (hd : decode cd pc = .ok (.iinc i d, 3)) (hl : Ls[i]? = some (.val (.int x))) (hv : x + Int32.ofInt d = v) (hl' : storeLocals Ls i (.int v) = some Ls') (hp : pc + 3 = pc') (W : Wp p l e R s m args below meth c n0 Q h k n (mkF m pc' Ls' st)) : Wp p l e R s m args below meth c n0 Q h k n (mkF m pc Ls st) := by
  subst hp hv; exact own_lift (fun T A t q => XS.iinc A C.1 rfl (hb C.2.2.1 hd) hl hl' q) W
theorem own_goto (C : Cx p s m meth c Z cd ml ret own nm) {o : Int} (hd : decode cd pc = .ok (.goto o, 3)) (ho : 0 ≤ (pc : Int) + o) (hp : ((pc : Int) + o).toNat = pc') (W : Wp p l e R s m args below meth c n0 Q h k n (mkF m pc' Ls st)) : Wp p l e R s m args below meth c n0 Q h k n (mkF m pc Ls st) :=
  own_lift (fun T A t q => XS.goto A C.1 rfl (pc0 := pc) (pc' := pc') rfl (hb C.2.2.1 hd) ho hp q) W
theorem own_icmp_lt (C : Cx p s m meth c Z cd ml ret own nm) {o : Int} {x y : Int32} {pt pf : Nat} (hd : decode cd pc = .ok (.if_icmp .lt o, 3)) (ho : 0 ≤ (pc : Int) + o) (hp : ((pc : Int) + o).toNat = pt) (hf : pc + 3 = pf) (WT : x < y → Wp p l e R s m args below meth c n0 Q h k n (mkF m pt Ls st)) (WF : ¬ x < y → Wp p l e R s m args below meth c n0 Q h k n (mkF m pf Ls st)) : Wp p l e R s m args below meth c n0 Q h k n (mkF m pc Ls (.int y :: .int x :: st)) := by
  subst hf
  by_cases g : x < y
  · exact own_lift (fun T A t q => XS.icmpYes A C.1 rfl (pc0 := pc) (pc' := pt) rfl (hb C.2.2.1 hd) rfl (tlt g).1 ho hp q) (WT g)
  · exact own_lift (fun T A t q => XS.icmpNo A C.1 rfl (hb C.2.2.1 hd) rfl (flt g).1 q) (WF g)
theorem own_if_lt (C : Cx p s m meth c Z cd ml ret own nm) {o : Int} {x : Int32} {pt pf : Nat} (hd : decode cd pc = .ok (.ifCond .lt o, 3)) (ho : 0 ≤ (pc : Int) + o) (hp : ((pc : Int) + o).toNat = pt) (hf : pc + 3 = pf) (WT : x < 0 → Wp p l e R s m args below meth c n0 Q h k n (mkF m pt Ls st)) (WF : ¬ x < 0 → Wp p l e R s m args below meth c n0 Q h k n (mkF m pf Ls st)) : Wp p l e R s m args below meth c n0 Q h k n (mkF m pc Ls (.int x :: st)) := by
  subst hf
  by_cases g : x < 0
  · exact own_lift (fun T A t q => XS.ifYes A C.1 rfl (pc0 := pc) (pc' := pt) rfl (hb C.2.2.1 hd) rfl ((if0 _ _).trans (tlt g).1) ho hp q) (WT g)
  · exact own_lift (fun T A t q => XS.ifNo A C.1 rfl (hb C.2.2.1 hd) rfl ((if0 _ _).trans (flt g).1) q) (WF g)
theorem own_lcmp_lt (C : Cx p s m meth c Z cd ml ret own nm) {o : Int} {x y : Int64} {p1 pt pf : Nat} (hd0 : decode cd pc = .ok (.lcmp, 1)) (h1 : pc + 1 = p1) (hd : decode cd p1 = .ok (.ifCond .lt o, 3)) (ho : 0 ≤ (p1 : Int) + o) (hp : ((p1 : Int) + o).toNat = pt) (hf : p1 + 3 = pf) (WT : x < y → Wp p l e R s m args below meth c n0 Q h k n (mkF m pt Ls st)) (WF : ¬ x < y → Wp p l e R s m args below meth c n0 Q h k n (mkF m pf Ls st)) : Wp p l e R s m args below meth c n0 Q h k n (mkF m pc Ls (.long y :: .long x :: st)) :=
  own_lcmp C hd0 h1 (own_if_lt C hd ho hp hf (fun g => WT ((lw_lt x y).mp g)) (fun g => WF (fun q => g ((lw_lt x y).mpr q))))
theorem own_icmp_ge (C : Cx p s m meth c Z cd ml ret own nm) {o : Int} {x y : Int32} {pt pf : Nat} (hd : decode cd pc = .ok (.if_icmp .ge o, 3)) (ho : 0 ≤ (pc : Int) + o) (hp : ((pc : Int) + o).toNat = pt) (hf : pc + 3 = pf) (WT : ¬ x < y → Wp p l e R s m args below meth c n0 Q h k n (mkF m pt Ls st)) (WF : x < y → Wp p l e R s m args below meth c n0 Q h k n (mkF m pf Ls st)) : Wp p l e R s m args below meth c n0 Q h k n (mkF m pc Ls (.int y :: .int x :: st)) := by
  subst hf
  by_cases g : x < y
  · exact own_lift (fun T A t q => XS.icmpNo A C.1 rfl (hb C.2.2.1 hd) rfl (tlt g).2.1 q) (WF g)
  · exact own_lift (fun T A t q => XS.icmpYes A C.1 rfl (pc0 := pc) (pc' := pt) rfl (hb C.2.2.1 hd) rfl (flt g).2.1 ho hp q) (WT g)
theorem own_if_ge (C : Cx p s m meth c Z cd ml ret own nm) {o : Int} {x : Int32} {pt pf : Nat} (hd : decode cd pc = .ok (.ifCond .ge o, 3)) (ho : 0 ≤ (pc : Int) + o) (hp : ((pc : Int) + o).toNat = pt) (hf : pc + 3 = pf) (WT : ¬ x < 0 → Wp p l e R s m args below meth c n0 Q h k n (mkF m pt Ls st)) (WF : x < 0 → Wp p l e R s m args below meth c n0 Q h k n (mkF m pf Ls st)) : Wp p l e R s m args below meth c n0 Q h k n (mkF m pc Ls (.int x :: st)) := by
  subst hf
  by_cases g : x < 0
  · exact own_lift (fun T A t q => XS.ifNo A C.1 rfl (hb C.2.2.1 hd) rfl ((if0 _ _).trans (tlt g).2.1) q) (WF g)
  · exact own_lift (fun T A t q => XS.ifYes A C.1 rfl (pc0 := pc) (pc' := pt) rfl (hb C.2.2.1 hd) rfl ((if0 _ _).trans (flt g).2.1) ho hp q) (WT g)
theorem own_lcmp_ge (C : Cx p s m meth c Z cd ml ret own nm) {o : Int} {x y : Int64} {p1 pt pf : Nat} (hd0 : decode cd pc = .ok (.lcmp, 1)) (h1 : pc + 1 = p1) (hd : decode cd p1 = .ok (.ifCond .ge o, 3)) (ho : 0 ≤ (p1 : Int) + o) (hp : ((p1 : Int) + o).toNat = pt) (hf : p1 + 3 = pf) (WT : ¬ x < y → Wp p l e R s m args below meth c n0 Q h k n (mkF m pt Ls st)) (WF : x < y → Wp p l e R s m args below meth c n0 Q h k n (mkF m pf Ls st)) : Wp p l e R s m args below meth c n0 Q h k n (mkF m pc Ls (.long y :: .long x :: st)) :=
  own_lcmp C hd0 h1 (own_if_ge C hd ho hp hf (fun g => WT (fun q => g ((lw_lt x y).mpr q))) (fun g => WF ((lw_lt x y).mp g)))
theorem own_icmp_gt (C : Cx p s m meth c Z cd ml ret own nm) {o : Int} {x y : Int32} {pt pf : Nat} (hd : decode cd pc = .ok (.if_icmp .gt o, 3)) (ho : 0 ≤ (pc : Int) + o) (hp : ((pc : Int) + o).toNat = pt) (hf : pc + 3 = pf) (WT : y < x → Wp p l e R s m args below meth c n0 Q h k n (mkF m pt Ls st)) (WF : ¬ y < x → Wp p l e R s m args below meth c n0 Q h k n (mkF m pf Ls st)) : Wp p l e R s m args below meth c n0 Q h k n (mkF m pc Ls (.int y :: .int x :: st)) := by
  subst hf
  by_cases g : y < x
  · exact own_lift (fun T A t q => XS.icmpYes A C.1 rfl (pc0 := pc) (pc' := pt) rfl (hb C.2.2.1 hd) rfl (tlt g).2.2.1 ho hp q) (WT g)
  · exact own_lift (fun T A t q => XS.icmpNo A C.1 rfl (hb C.2.2.1 hd) rfl (flt g).2.2.1 q) (WF g)
theorem own_if_gt (C : Cx p s m meth c Z cd ml ret own nm) {o : Int} {x : Int32} {pt pf : Nat} (hd : decode cd pc = .ok (.ifCond .gt o, 3)) (ho : 0 ≤ (pc : Int) + o) (hp : ((pc : Int) + o).toNat = pt) (hf : pc + 3 = pf) (WT : 0 < x → Wp p l e R s m args below meth c n0 Q h k n (mkF m pt Ls st)) (WF : ¬ 0 < x → Wp p l e R s m args below meth c n0 Q h k n (mkF m pf Ls st)) : Wp p l e R s m args below meth c n0 Q h k n (mkF m pc Ls (.int x :: st)) := by
  subst hf
  by_cases g : 0 < x
  · exact own_lift (fun T A t q => XS.ifYes A C.1 rfl (pc0 := pc) (pc' := pt) rfl (hb C.2.2.1 hd) rfl ((if0 _ _).trans (tlt g).2.2.1) ho hp q) (WT g)
  · exact own_lift (fun T A t q => XS.ifNo A C.1 rfl (hb C.2.2.1 hd) rfl ((if0 _ _).trans (flt g).2.2.1) q) (WF g)
theorem own_lcmp_gt (C : Cx p s m meth c Z cd ml ret own nm) {o : Int} {x y : Int64} {p1 pt pf : Nat} (hd0 : decode cd pc = .ok (.lcmp, 1)) (h1 : pc + 1 = p1) (hd : decode cd p1 = .ok (.ifCond .gt o, 3)) (ho : 0 ≤ (p1 : Int) + o) (hp : ((p1 : Int) + o).toNat = pt) (hf : p1 + 3 = pf) (WT : y < x → Wp p l e R s m args below meth c n0 Q h k n (mkF m pt Ls st)) (WF : ¬ y < x → Wp p l e R s m args below meth c n0 Q h k n (mkF m pf Ls st)) : Wp p l e R s m args below meth c n0 Q h k n (mkF m pc Ls (.long y :: .long x :: st)) :=
  own_lcmp C hd0 h1 (own_if_gt C hd ho hp hf (fun g => WT ((lw_gt x y).mp g)) (fun g => WF (fun q => g ((lw_gt x y).mpr q))))
theorem own_icmp_le (C : Cx p s m meth c Z cd ml ret own nm) {o : Int} {x y : Int32} {pt pf : Nat} (hd : decode cd pc = .ok (.if_icmp .le o, 3)) (ho : 0 ≤ (pc : Int) + o) (hp : ((pc : Int) + o).toNat = pt) (hf : pc + 3 = pf) (WT : ¬ y < x → Wp p l e R s m args below meth c n0 Q h k n (mkF m pt Ls st)) (WF : y < x → Wp p l e R s m args below meth c n0 Q h k n (mkF m pf Ls st)) : Wp p l e R s m args below meth c n0 Q h k n (mkF m pc Ls (.int y :: .int x :: st)) := by
  subst hf
  by_cases g : y < x
  · exact own_lift (fun T A t q => XS.icmpNo A C.1 rfl (hb C.2.2.1 hd) rfl (tlt g).2.2.2 q) (WF g)
  · exact own_lift (fun T A t q => XS.icmpYes A C.1 rfl (pc0 := pc) (pc' := pt) rfl (hb C.2.2.1 hd) rfl (flt g).2.2.2 ho hp q) (WT g)
theorem own_if_le (C : Cx p s m meth c Z cd ml ret own nm) {o : Int} {x : Int32} {pt pf : Nat} (hd : decode cd pc = .ok (.ifCond .le o, 3)) (ho : 0 ≤ (pc : Int) + o) (hp : ((pc : Int) + o).toNat = pt) (hf : pc + 3 = pf) (WT : ¬ 0 < x → Wp p l e R s m args below meth c n0 Q h k n (mkF m pt Ls st)) (WF : 0 < x → Wp p l e R s m args below meth c n0 Q h k n (mkF m pf Ls st)) : Wp p l e R s m args below meth c n0 Q h k n (mkF m pc Ls (.int x :: st)) := by
  subst hf
  by_cases g : 0 < x
  · exact own_lift (fun T A t q => XS.ifNo A C.1 rfl (hb C.2.2.1 hd) rfl ((if0 _ _).trans (tlt g).2.2.2) q) (WF g)
  · exact own_lift (fun T A t q => XS.ifYes A C.1 rfl (pc0 := pc) (pc' := pt) rfl (hb C.2.2.1 hd) rfl ((if0 _ _).trans (flt g).2.2.2) ho hp q) (WT g)
theorem own_lcmp_le (C : Cx p s m meth c Z cd ml ret own nm) {o : Int} {x y : Int64} {p1 pt pf : Nat} (hd0 : decode cd pc = .ok (.lcmp, 1)) (h1 : pc + 1 = p1) (hd : decode cd p1 = .ok (.ifCond .le o, 3)) (ho : 0 ≤ (p1 : Int) + o) (hp : ((p1 : Int) + o).toNat = pt) (hf : p1 + 3 = pf) (WT : ¬ y < x → Wp p l e R s m args below meth c n0 Q h k n (mkF m pt Ls st)) (WF : y < x → Wp p l e R s m args below meth c n0 Q h k n (mkF m pf Ls st)) : Wp p l e R s m args below meth c n0 Q h k n (mkF m pc Ls (.long y :: .long x :: st)) :=
  own_lcmp C hd0 h1 (own_if_le C hd ho hp hf (fun g => WT (fun q => g ((lw_gt x y).mpr q))) (fun g => WF ((lw_gt x y).mp g)))
theorem own_icmp_eq (C : Cx p s m meth c Z cd ml ret own nm) {o : Int} {x y : Int32} {pt pf : Nat} (hd : decode cd pc = .ok (.if_icmp .eq o, 3)) (ho : 0 ≤ (pc : Int) + o) (hp : ((pc : Int) + o).toNat = pt) (hf : pc + 3 = pf) (WT : x = y → Wp p l e R s m args below meth c n0 Q h k n (mkF m pt Ls st)) (WF : ¬ x = y → Wp p l e R s m args below meth c n0 Q h k n (mkF m pf Ls st)) : Wp p l e R s m args below meth c n0 Q h k n (mkF m pc Ls (.int y :: .int x :: st)) := by
  subst hf
  by_cases g : x = y
  · exact own_lift (fun T A t q => XS.icmpYes A C.1 rfl (pc0 := pc) (pc' := pt) rfl (hb C.2.2.1 hd) rfl (teq g).1 ho hp q) (WT g)
  · exact own_lift (fun T A t q => XS.icmpNo A C.1 rfl (hb C.2.2.1 hd) rfl (feq g).1 q) (WF g)
theorem own_if_eq (C : Cx p s m meth c Z cd ml ret own nm) {o : Int} {x : Int32} {pt pf : Nat} (hd : decode cd pc = .ok (.ifCond .eq o, 3)) (ho : 0 ≤ (pc : Int) + o) (hp : ((pc : Int) + o).toNat = pt) (hf : pc + 3 = pf) (WT : x = 0 → Wp p l e R s m args below meth c n0 Q h k n (mkF m pt Ls st)) (WF : ¬ x = 0 → Wp p l e R s m args below meth c n0 Q h k n (mkF m pf Ls st)) : Wp p l e R s m args below meth c n0 Q h k n (mkF m pc Ls (.int x :: st)) := by
  subst hf
  by_cases g : x = 0
  · exact own_lift (fun T A t q => XS.ifYes A C.1 rfl (pc0 := pc) (pc' := pt) rfl (hb C.2.2.1 hd) rfl ((if0 _ _).trans (teq g).1) ho hp q) (WT g)
  · exact own_lift (fun T A t q => XS.ifNo A C.1 rfl (hb C.2.2.1 hd) rfl ((if0 _ _).trans (feq g).1) q) (WF g)
theorem own_lcmp_eq (C : Cx p s m meth c Z cd ml ret own nm) {o : Int} {x y : Int64} {p1 pt pf : Nat} (hd0 : decode cd pc = .ok (.lcmp, 1)) (h1 : pc + 1 = p1) (hd : decode cd p1 = .ok (.ifCond .eq o, 3)) (ho : 0 ≤ (p1 : Int) + o) (hp : ((p1 : Int) + o).toNat = pt) (hf : p1 + 3 = pf) (WT : x = y → Wp p l e R s m args below meth c n0 Q h k n (mkF m pt Ls st)) (WF : ¬ x = y → Wp p l e R s m args below meth c n0 Q h k n (mkF m pf Ls st)) : Wp p l e R s m args below meth c n0 Q h k n (mkF m pc Ls (.long y :: .long x :: st)) :=
  own_lcmp C hd0 h1 (own_if_eq C hd ho hp hf (fun g => WT ((lw_eq x y).mp g)) (fun g => WF (fun q => g ((lw_eq x y).mpr q))))
theorem own_icmp_ne (C : Cx p s m meth c Z cd ml ret own nm) {o : Int} {x y : Int32} {pt pf : Nat} (hd : decode cd pc = .ok (.if_icmp .ne o, 3)) (ho : 0 ≤ (pc : Int) + o) (hp : ((pc : Int) + o).toNat = pt) (hf : pc + 3 = pf) (WT : ¬ x = y → Wp p l e R s m args below meth c n0 Q h k n (mkF m pt Ls st)) (WF : x = y → Wp p l e R s m args below meth c n0 Q h k n (mkF m pf Ls st)) : Wp p l e R s m args below meth c n0 Q h k n (mkF m pc Ls (.int y :: .int x :: st)) := by
  subst hf
  by_cases g : x = y
  · exact own_lift (fun T A t q => XS.icmpNo A C.1 rfl (hb C.2.2.1 hd) rfl (teq g).2 q) (WF g)
  · exact own_lift (fun T A t q => XS.icmpYes A C.1 rfl (pc0 := pc) (pc' := pt) rfl (hb C.2.2.1 hd) rfl (feq g).2 ho hp q) (WT g)
theorem own_if_ne (C : Cx p s m meth c Z cd ml ret own nm) {o : Int} {x : Int32} {pt pf : Nat} (hd : decode cd pc = .ok (.ifCond .ne o, 3)) (ho : 0 ≤ (pc : Int) + o) (hp : ((pc : Int) + o).toNat = pt) (hf : pc + 3 = pf) (WT : ¬ x = 0 → Wp p l e R s m args below meth c n0 Q h k n (mkF m pt Ls st)) (WF : x = 0 → Wp p l e R s m args below meth c n0 Q h k n (mkF m pf Ls st)) : Wp p l e R s m args below meth c n0 Q h k n (mkF m pc Ls (.int x :: st)) := by
  subst hf
  by_cases g : x = 0
  · exact own_lift (fun T A t q => XS.ifNo A C.1 rfl (hb C.2.2.1 hd) rfl ((if0 _ _).trans (teq g).2) q) (WF g)
  · exact own_lift (fun T A t q => XS.ifYes A C.1 rfl (pc0 := pc) (pc' := pt) rfl (hb C.2.2.1 hd) rfl ((if0 _ _).trans (feq g).2) ho hp q) (WT g)
theorem own_lcmp_ne (C : Cx p s m meth c Z cd ml ret own nm) {o : Int} {x y : Int64} {p1 pt pf : Nat} (hd0 : decode cd pc = .ok (.lcmp, 1)) (h1 : pc + 1 = p1) (hd : decode cd p1 = .ok (.ifCond .ne o, 3)) (ho : 0 ≤ (p1 : Int) + o) (hp : ((p1 : Int) + o).toNat = pt) (hf : p1 + 3 = pf) (WT : ¬ x = y → Wp p l e R s m args below meth c n0 Q h k n (mkF m pt Ls st)) (WF : x = y → Wp p l e R s m args below meth c n0 Q h k n (mkF m pf Ls st)) : Wp p l e R s m args below meth c n0 Q h k n (mkF m pc Ls (.long y :: .long x :: st)) :=
  own_lcmp C hd0 h1 (own_if_ne C hd ho hp hf (fun g => WT (fun q => g ((lw_eq x y).mpr q))) (fun g => WF ((lw_eq x y).mp g)))
theorem own_acmp_eq (C : Cx p s m meth c Z cd ml ret own nm) {o : Int} {a b : Addr} {pt pf : Nat} (hd : decode cd pc = .ok (.if_acmp .eq o, 3)) (ho : 0 ≤ (pc : Int) + o) (hp : ((pc : Int) + o).toNat = pt) (hf : pc + 3 = pf) (WT : a = b → Wp p l e R s m args below meth c n0 Q h k n (mkF m pt Ls st)) (WF : ¬ a = b → Wp p l e R s m args below meth c n0 Q h k n (mkF m pf Ls st)) : Wp p l e R s m args below meth c n0 Q h k n (mkF m pc Ls (.ref b :: .ref a :: st)) := by
  subst hf
  by_cases g : a = b
  · exact own_lift (fun T A t q => XS.acmpYes A C.1 rfl (pc0 := pc) (pc' := pt) rfl (hb C.2.2.1 hd) rfl (by simp [if_acmp.holds, g]) ho hp q) (WT g)
  · exact own_lift (fun T A t q => XS.acmpNo A C.1 rfl (hb C.2.2.1 hd) rfl (by simp [if_acmp.holds, g]) q) (WF g)
theorem own_acmp_ne (C : Cx p s m meth c Z cd ml ret own nm) {o : Int} {a b : Addr} {pt pf : Nat} (hd : decode cd pc = .ok (.if_acmp .ne o, 3)) (ho : 0 ≤ (pc : Int) + o) (hp : ((pc : Int) + o).toNat = pt) (hf : pc + 3 = pf) (WT : ¬ a = b → Wp p l e R s m args below meth c n0 Q h k n (mkF m pt Ls st)) (WF : a = b → Wp p l e R s m args below meth c n0 Q h k n (mkF m pf Ls st)) : Wp p l e R s m args below meth c n0 Q h k n (mkF m pc Ls (.ref b :: .ref a :: st)) := by
  subst hf
  by_cases g : a = b
  · exact own_lift (fun T A t q => XS.acmpNo A C.1 rfl (hb C.2.2.1 hd) rfl (by simp [if_acmp.holds, g]) q) (WF g)
  · exact own_lift (fun T A t q => XS.acmpYes A C.1 rfl (pc0 := pc) (pc' := pt) rfl (hb C.2.2.1 hd) rfl (by simp [if_acmp.holds, g]) ho hp q) (WT g)
theorem own_ifnull_y (C : Cx p s m meth c Z cd ml ret own nm) {o : Int} {pt : Nat} (hd : decode cd pc = .ok (.ifnull o, 3)) (ho : 0 ≤ (pc : Int) + o) (hp : ((pc : Int) + o).toNat = pt) (W : Wp p l e R s m args below meth c n0 Q h k n (mkF m pt Ls st)) : Wp p l e R s m args below meth c n0 Q h k n (mkF m pc Ls (.null :: st)) :=
  own_lift (fun T A t q => XS.ifnullYes A C.1 rfl (pc0 := pc) (pc' := pt) rfl (hb C.2.2.1 hd) rfl ho hp q) W
theorem own_ifnull_n (C : Cx p s m meth c Z cd ml ret own nm) {o : Int} {a : Addr} (hd : decode cd pc = .ok (.ifnull o, 3)) (hp : pc + 3 = pc') (W : Wp p l e R s m args below meth c n0 Q h k n (mkF m pc' Ls st)) : Wp p l e R s m args below meth c n0 Q h k n (mkF m pc Ls (.ref a :: st)) := by
  subst hp; exact own_lift (fun T A t q => XS.ifnullNo A C.1 rfl (hb C.2.2.1 hd) rfl q) W
theorem own_ifnonnull_y (C : Cx p s m meth c Z cd ml ret own nm) {o : Int} {a : Addr} {pt : Nat} (hd : decode cd pc = .ok (.ifnonnull o, 3)) (ho : 0 ≤ (pc : Int) + o) (hp : ((pc : Int) + o).toNat = pt) (W : Wp p l e R s m args below meth c n0 Q h k n (mkF m pt Ls st)) : Wp p l e R s m args below meth c n0 Q h k n (mkF m pc Ls (.ref a :: st)) :=
  own_lift (fun T A t q => XS.ifnonnullYes A C.1 rfl (pc0 := pc) (pc' := pt) rfl (hb C.2.2.1 hd) rfl ho hp q) W
theorem own_ifnonnull_n (C : Cx p s m meth c Z cd ml ret own nm) {o : Int} (hd : decode cd pc = .ok (.ifnonnull o, 3)) (hp : pc + 3 = pc') (W : Wp p l e R s m args below meth c n0 Q h k n (mkF m pc' Ls st)) : Wp p l e R s m args below meth c n0 Q h k n (mkF m pc Ls (.null :: st)) := by
  subst hp; exact own_lift (fun T A t q => XS.ifnonnullNo A C.1 rfl (hb C.2.2.1 hd) rfl q) W
theorem own_ldc (C : Cx p s m meth c Z cd ml ret own nm) {i : Nat} {v : Int32} (hd : decode cd pc = .ok (.ldc i, 2)) (w : (Jvm.Cond.constant own i v).before a0 Z = true) (hp : pc + 2 = pc') (W : Wp p l e R s m args below meth c n0 Q h k n (mkF m pc' Ls (.int v :: st))) : Wp p l e R s m args below meth c n0 Q h k n (mkF m pc Ls st) := by
  subst hp; exact own_liftX (fun T locs X eT t q => X.ldcInt C.1 C.2.2.2.2.1 (mvT C.2.1 w) (g := mkF m pc Ls st) rfl (hb C.2.2.1 hd) t q) W
theorem own_ldcw (C : Cx p s m meth c Z cd ml ret own nm) {i : Nat} {v : Int32} (hd : decode cd pc = .ok (.ldc_w i, 3)) (w : (Jvm.Cond.constant own i v).before a0 Z = true) (hp : pc + 3 = pc') (W : Wp p l e R s m args below meth c n0 Q h k n (mkF m pc' Ls (.int v :: st))) : Wp p l e R s m args below meth c n0 Q h k n (mkF m pc Ls st) := by
  subst hp; exact own_liftX (fun T locs X eT t q => X.ldcwInt C.1 C.2.2.2.2.1 (mvT C.2.1 w) (g := mkF m pc Ls st) rfl (hb C.2.2.1 hd) t q) W
theorem own_ldc2 (C : Cx p s m meth c Z cd ml ret own nm) {i : Nat} {v : Int64} (hd : decode cd pc = .ok (.ldc2_w i, 3)) (w : (Jvm.Cond.constantLong own i v).before a0 Z = true) (hp : pc + 3 = pc') (W : Wp p l e R s m args below meth c n0 Q h k n (mkF m pc' Ls (.long v :: st))) : Wp p l e R s m args below meth c n0 Q h k n (mkF m pc Ls st) := by
  subst hp; exact own_liftX (fun T locs X eT t q => X.ldc2Long C.1 C.2.2.2.2.1 (mvT C.2.1 w) (g := mkF m pc Ls st) rfl (hb C.2.2.1 hd) t q) W
theorem own_dupX2 (C : Cx p s m meth c Z cd ml ret own nm) {x y z : Value} (hd : decode cd pc = .ok (.dup_x2, 1)) (hc : x.category = 1) (hc' : y.category = 1) (hc'' : z.category = 1) (hp : pc + 1 = pc') (W : Wp p l e R s m args below meth c n0 Q h k n (mkF m pc' Ls (x :: y :: z :: x :: st))) : Wp p l e R s m args below meth c n0 Q h k n (mkF m pc Ls (x :: y :: z :: st)) := by
  subst hp
  have hd' := hb C.2.2.1 hd
  refine own_lift (fun T A t q => ?_) W
  jvm_step A [A.top, C.1, hd', hc, hc', hc'']
  exact q
/-! objects -/
theorem own_getfield (C : Cx p s m meth c Z cd ml ret own nm) {i : Nat} {O f d : String} {a : Addr} {v : Value} (hd : decode cd pc = .ok (.getfield i, 3)) (w : (Jvm.Cond.fieldLink own i O f d).before a0 Z = true) (F : Fld Z h a O f d v) (hp : pc + 3 = pc') (W : Wp p l e R s m args below meth c n0 Q h k n (mkF m pc' Ls (v :: st))) : Wp p l e R s m args below meth c n0 Q h k n (mkF m pc Ls (.ref a :: st)) := fun T locs X eT N => by
  subst hp
  obtain ⟨T', X', e', st'⟩ := getF X C.1 C.2.1 C.2.2.2.2.1 (host := "") (Or.inl w) Via.refl eT F (g := mkF m pc Ls (.ref a :: st)) rfl rfl (hb C.2.2.1 hd)
  obtain ⟨s₂, o, q, r⟩ := W T' locs X' e' N
  exact ⟨s₂, o, st' _ q, r⟩
theorem own_getstatic (C : Cx p s m meth c Z cd ml ret own nm) {i : Nat} {O f d : String} {v : Value} (hd : decode cd pc = .ok (.getstatic i, 3)) (w : (Jvm.Cond.fieldLink own i O f d).before a0 Z = true) (F : Sta Z h O f d v) (hp : pc + 3 = pc') (W : Wp p l e R s m args below meth c n0 Q h k n (mkF m pc' Ls (v :: st))) : Wp p l e R s m args below meth c n0 Q h k n (mkF m pc Ls st) := fun T locs X eT N => by
  subst hp
  obtain ⟨T', X', e', st'⟩ := getS2 X C.1 C.2.1 C.2.2.2.2.1 (host := "") (Or.inl w) Via.refl eT F (g := mkF m pc Ls st) rfl (hb C.2.2.1 hd)
  obtain ⟨s₂, o, q, r⟩ := W T' locs X' e' N
  exact ⟨s₂, o, st' _ q, r⟩
theorem own_putfield (C : Cx p s m meth c Z cd ml ret own nm) {i kk : Nat} {O f d K : String} {ty : FieldType} {a : Addr} {v old : Value} (hd : decode cd pc = .ok (.putfield i, 3)) (w : (Jvm.Cond.fieldLink own i O f d).before a0 Z = true) (F : Fld Z h a O f d old) (E : Exa Z h a K) (L : (Jvm.Cond.lays K O f d).before a0 Z = true ∨ ((Jvm.Cond.laysFinal K O f d).before a0 Z = true ∧ own = O ∧ nm = "<init>")) (wi : (Jvm.Cond.instantiable K kk).before a0 Z = true)
    (hty : parseFieldDescriptor d = some ty) (hn : narrow ty v = v) (hf : fits ty v = true) (ha : n0 ≤ a) (hp : pc + 3 = pc') (W : ∀ h', Wr h h' a (RoadKit.slotOf Z O f d) v → Fld Z h' a O f d v → Wp p l e R s m args below meth c n0 Q h' k n (mkF m pc' Ls st)) : Wp p l e R s m args below meth c n0 Q h k n (mkF m pc Ls (v :: .ref a :: st)) := fun T locs X eT N => by
  subst hp
  obtain ⟨T', h', X', e', Wr', st'⟩ := putF X C.1 C.2.1 C.2.2.2.2.1 (host := "") (Or.inl w) Via.refl eT F E (L.imp id fun q => ⟨q.1, q.2.1, C.2.2.2.2.2.2.2.trans q.2.2⟩) wi hty hn hf (g := mkF m pc Ls (v :: .ref a :: st)) rfl rfl (hb C.2.2.1 hd)
  obtain ⟨s₂, o, q, r⟩ := W h' Wr' (F.same Wr') T' _ X' e' (Fr.snoc X' N ha)
  exact ⟨s₂, o, st' _ q, r⟩
theorem own_new (C : Cx p s m meth c Z cd ml ret own nm) {i nn : Nat} {K : String} (hd : decode cd pc = .ok (.new i, 3)) (w : (Jvm.Cond.classLink own i K).before a0 Z = true) (wi : (Jvm.Cond.instantiable K nn).before a0 Z = true) (wz : (Jvm.Cond.initialized K).before a0 Z = true) (hc : k + 1 ≤ R.cells) (hl : n + nn ≤ R.slots) (hp : pc + 3 = pc')
    (W : ∀ h' a, a = h.size → Ext h h' → Exa Z h' a K → (∀ {O f d : String} {ty : FieldType}, Laid Z a0 K O f d → parseFieldDescriptor d = some ty → Fld Z h' a O f d (defaultValue ty)) → Wp p l e R s m args below meth c n0 Q h' (k + 1) (n + nn) (mkF m pc' Ls (.ref a :: st))) : Wp p l e R s m args below meth c n0 Q h k n (mkF m pc Ls st) := fun T locs X eT N => by
  subst hp
  obtain ⟨T', h', X', e', E', A', D', -, st'⟩ := newO X C.1 C.2.1 C.2.2.2.2.1 w wi wz eT (g := mkF m pc Ls st) rfl (hb C.2.2.1 hd) hc hl
  obtain ⟨s₂, o, q, r⟩ := W h' h.size rfl E' A' D' T' _ X' e' N
  exact ⟨s₂, o, st' _ q, r⟩
/-- java.lang.Object's own constructor -/
theorem own_initO (C : Cx p s m meth c Z cd ml ret own nm) {i : Nat} {wL : Nat} (hd : decode cd pc = .ok (.invokespecial i, 3)) (w1 : (Jvm.Cond.methodLink own i Lib.objectInit).before a0 Z = true) (w2 : (Jvm.Cond.instanceMethod Lib.objectInit).before a0 Z = true) (w3 : (Jvm.Cond.code Lib.objectInit ⟨#[0xb1]⟩ 1 none).before a0 Z = true)
    {a : Addr} (hsz : Ls.size = ml) (hf : 1 ≤ R.frames) (hW : 0 + (st.map fun v => v.category).sum ≤ wL) (hl : wL + 12 ≤ R.locals) (hp : pc + 3 = pc') (W : Wp p l e R s m args below meth c n0 Q h k n (mkF m pc' Ls st)) : Wp p l e R s m args below meth c n0 Q h k n (mkF m pc Ls (.ref a :: st)) := fun T locs X eT N => by
  subst hp
  obtain ⟨T', X', e', st'⟩ := initO X C.1 C.2.1 C.2.2.2.2.1 w1 w2 w3 eT (g := mkF m pc Ls (.ref a :: st)) rfl (by rw [C.2.2.2.1]; exact hsz) rfl (hb C.2.2.1 hd) hf (W := wL) hW hl
  obtain ⟨s₂, o, q, r⟩ := W T' locs X' e' N
  exact ⟨s₂, o, st' _ q, r⟩
/-! arrays: of ints (of any narrow kind), of longs -/
def AI (Z : State) (h : Heap) (a : Addr) (ty : FieldType) (xs : List Int32) : Prop := ∃ cl : Cell, Arr Z h a cl ty ∧ cl.slots = (xs.map Value.int).toArray ∧ xs.length < 2 ^ 31
def AJ (Z : State) (h : Heap) (a : Addr) (xs : List Int64) : Prop := ∃ cl : Cell, Arr Z h a cl .long ∧ cl.slots = (xs.map Value.long).toArray ∧ xs.length < 2 ^ 31
theorem AI.lt {a : Addr} {ty : FieldType} {xs : List Int32} (A : AI Z h a ty xs) : a < h.size := by obtain ⟨cl, A, -⟩ := A; exact A.lt
theorem AJ.lt {a : Addr} {xs : List Int64} (A : AJ Z h a xs) : a < h.size := by obtain ⟨cl, A, -⟩ := A; exact A.lt
theorem AI.ext {h' : Heap} {a : Addr} {ty : FieldType} {xs : List Int32} (A : AI Z h a ty xs) (E : Ext h h') : AI Z h' a ty xs := by obtain ⟨cl, A, r⟩ := A; exact ⟨cl, A.ext E, r⟩
theorem AJ.ext {h' : Heap} {a : Addr} {xs : List Int64} (A : AJ Z h a xs) (E : Ext h h') : AJ Z h' a xs := by obtain ⟨cl, A, r⟩ := A; exact ⟨cl, A.ext E, r⟩
theorem AI.other {h' : Heap} {a b : Addr} {sl : Nat} {v : Value} {ty : FieldType} {xs : List Int32} (A : AI Z h a ty xs) (W : Wr h h' b sl v) (q : a ≠ b) : AI Z h' a ty xs := by obtain ⟨cl, A, r⟩ := A; exact ⟨cl, A.other W q, r⟩
theorem AJ.other {h' : Heap} {a b : Addr} {sl : Nat} {v : Value} {xs : List Int64} (A : AJ Z h a xs) (W : Wr h h' b sl v) (q : a ≠ b) : AJ Z h' a xs := by obtain ⟨cl, A, r⟩ := A; exact ⟨cl, A.other W q, r⟩
theorem AI.keep {h' : Heap} {a : Addr} {ws : List Addr} {ty : FieldType} {xs : List Int32} (A : AI Z h a ty xs) (K : Keep h h' ws) (q : a ∉ ws) : AI Z h' a ty xs := by obtain ⟨cl, A, r⟩ := A; exact ⟨cl, ⟨K.2.1 a cl A.1 q, A.2⟩, r⟩
theorem AJ.keep {h' : Heap} {a : Addr} {ws : List Addr} {xs : List Int64} (A : AJ Z h a xs) (K : Keep h h' ws) (q : a ∉ ws) : AJ Z h' a xs := by obtain ⟨cl, A, r⟩ := A; exact ⟨cl, ⟨K.2.1 a cl A.1 q, A.2⟩, r⟩
theorem AI.same {h' : Heap} {a : Addr} {i : Nat} {x : Int32} {ty : FieldType} {xs : List Int32} (A : AI Z h a ty xs) (W : Wr h h' a i (.int x)) : AI Z h' a ty (xs.set i x) := by
  obtain ⟨cl, A, r1, r2⟩ := A
  exact ⟨_, A.same W, by simp [Cell.setSlot, r1, List.map_set], by simpa using r2⟩
theorem AJ.same {h' : Heap} {a : Addr} {i : Nat} {x : Int64} {xs : List Int64} (A : AJ Z h a xs) (W : Wr h h' a i (.long x)) : AJ Z h' a (xs.set i x) := by
  obtain ⟨cl, A, r1, r2⟩ := A
  exact ⟨_, A.same W, by simp [Cell.setSlot, r1, List.map_set], by simpa using r2⟩
theorem own_iaload (C : Cx p s m meth c Z cd ml ret own nm) {a : Addr} {j v : Int32} {i : Nat} {xs : List Int32} (hd : decode cd pc = .ok (.iaload, 1)) (A : AI Z h a .int xs) (hj : ¬ j < 0) (hi : j.toNatClampNeg = i) (hv : xs[i]? = some v) (hp : pc + 1 = pc') (W : Wp p l e R s m args below meth c n0 Q h k n (mkF m pc' Ls (.int v :: st))) : Wp p l e R s m args below meth c n0 Q h k n (mkF m pc Ls (.int j :: .ref a :: st)) := by
  subst hp hi
  obtain ⟨cl, A, r1, r2⟩ := A
  have hlt := (List.getElem?_eq_some_iff.mp hv).1
  exact own_liftX (fun T locs X eT t q => X.iaload C.1 (j := j) (v := .int v) (by rw [eT]; exact A.1) (State.isArrayOf_alike C.2.1.alike A.2.1) A.2.2 (fun z => z.elim hj fun y => by rw [r1] at y; simp at y; omega) (by rw [r1]; simp [hv]) (g := mkF m pc Ls (.int j :: .ref a :: st)) rfl rfl (hb C.2.2.1 hd) t q) W
theorem own_baload (C : Cx p s m meth c Z cd ml ret own nm) {a : Addr} {j v : Int32} {i : Nat} {xs : List Int32} (hd : decode cd pc = .ok (.baload, 1)) (A : AI Z h a .byte xs) (hj : ¬ j < 0) (hi : j.toNatClampNeg = i) (hv : xs[i]? = some v) (hp : pc + 1 = pc') (W : Wp p l e R s m args below meth c n0 Q h k n (mkF m pc' Ls (.int v :: st))) : Wp p l e R s m args below meth c n0 Q h k n (mkF m pc Ls (.int j :: .ref a :: st)) := by
  subst hp hi
  obtain ⟨cl, A, r1, r2⟩ := A
  have hlt := (List.getElem?_eq_some_iff.mp hv).1
  exact own_liftX (fun T locs X eT t q => X.baloadBytes C.1 (j := j) (v := .int v) (by rw [eT]; exact A.1) (State.isArrayOf_alike C.2.1.alike A.2.1) A.2.2 (fun z => z.elim hj fun y => by rw [r1] at y; simp at y; omega) (by rw [r1]; simp [hv]) (g := mkF m pc Ls (.int j :: .ref a :: st)) rfl rfl (hb C.2.2.1 hd) t q) W
theorem own_laload (C : Cx p s m meth c Z cd ml ret own nm) {a : Addr} {j : Int32} {v : Int64} {i : Nat} {xs : List Int64} (hd : decode cd pc = .ok (.laload, 1)) (A : AJ Z h a xs) (hj : ¬ j < 0) (hi : j.toNatClampNeg = i) (hv : xs[i]? = some v) (hp : pc + 1 = pc') (W : Wp p l e R s m args below meth c n0 Q h k n (mkF m pc' Ls (.long v :: st))) : Wp p l e R s m args below meth c n0 Q h k n (mkF m pc Ls (.int j :: .ref a :: st)) := by
  subst hp hi
  obtain ⟨cl, A, r1, r2⟩ := A
  have hlt := (List.getElem?_eq_some_iff.mp hv).1
  exact own_liftX (fun T locs X eT t q => X.laload C.1 (j := j) (v := .long v) (by rw [eT]; exact A.1) (State.isArrayOf_alike C.2.1.alike A.2.1) A.2.2 (fun z => z.elim hj fun y => by rw [r1] at y; simp at y; omega) (by rw [r1]; simp [hv]) (g := mkF m pc Ls (.int j :: .ref a :: st)) rfl rfl (hb C.2.2.1 hd) t q) W
theorem own_lenI (C : Cx p s m meth c Z cd ml ret own nm) {a : Addr} {v : Int32} {ty : FieldType} {xs : List Int32} (hd : decode cd pc = .ok (.arraylength, 1)) (A : AI Z h a ty xs) (hv : xs.length.toInt32 = v) (hp : pc + 1 = pc') (W : Wp p l e R s m args below meth c n0 Q h k n (mkF m pc' Ls (.int v :: st))) : Wp p l e R s m args below meth c n0 Q h k n (mkF m pc Ls (.ref a :: st)) := by
  subst hp hv
  obtain ⟨cl, A, r1, r2⟩ := A
  have e1 : cl.slots.size = xs.length := by rw [r1]; simp
  exact own_liftX (fun T locs X eT t q => X.arraylength C.1 (by rw [eT]; exact A.1) (State.isArrayOf_alike C.2.1.alike A.2.1) (g := mkF m pc Ls (.ref a :: st)) rfl rfl (hb C.2.2.1 hd) t (by rw [e1]; exact q)) W
theorem own_lenJ (C : Cx p s m meth c Z cd ml ret own nm) {a : Addr} {v : Int32} {xs : List Int64} (hd : decode cd pc = .ok (.arraylength, 1)) (A : AJ Z h a xs) (hv : xs.length.toInt32 = v) (hp : pc + 1 = pc') (W : Wp p l e R s m args below meth c n0 Q h k n (mkF m pc' Ls (.int v :: st))) : Wp p l e R s m args below meth c n0 Q h k n (mkF m pc Ls (.ref a :: st)) := by
  subst hp hv
  obtain ⟨cl, A, r1, r2⟩ := A
  have e1 : cl.slots.size = xs.length := by rw [r1]; simp
  exact own_liftX (fun T locs X eT t q => X.arraylength C.1 (by rw [eT]; exact A.1) (State.isArrayOf_alike C.2.1.alike A.2.1) (g := mkF m pc Ls (.ref a :: st)) rfl rfl (hb C.2.2.1 hd) t (by rw [e1]; exact q)) W
theorem own_iastore (C : Cx p s m meth c Z cd ml ret own nm) {a : Addr} {j x : Int32} {i : Nat} {xs ys : List Int32} (hd : decode cd pc = .ok (.iastore, 1)) (A : AI Z h a .int xs) (hj : ¬ j < 0) (hi : j.toNatClampNeg = i) (hlt : i < xs.length) (hys : xs.set i x = ys) (ha : n0 ≤ a) (hp : pc + 1 = pc') (W : ∀ h', Wr h h' a i (.int x) → AI Z h' a .int ys → Wp p l e R s m args below meth c n0 Q h' k n (mkF m pc' Ls st)) : Wp p l e R s m args below meth c n0 Q h k n (mkF m pc Ls (.int x :: .int j :: .ref a :: st)) := fun T locs X eT N => by
  subst hp hi hys
  have A' := A
  obtain ⟨cl, A, r1, r2⟩ := A
  obtain ⟨T', h', X', e', Wr', st'⟩ := stI X C.1 C.2.1 eT A (j := j) (x := x) (fun z => z.elim hj fun y => by rw [r1] at y; simp at y; omega) (g := mkF m pc Ls (.int x :: .int j :: .ref a :: st)) rfl rfl (hb C.2.2.1 hd)
  obtain ⟨s₂, o, q, r⟩ := W h' Wr' (A'.same Wr') T' _ X' e' (Fr.snoc X' N ha)
  exact ⟨s₂, o, st' _ q, r⟩
theorem own_lastore (C : Cx p s m meth c Z cd ml ret own nm) {a : Addr} {j : Int32} {x : Int64} {i : Nat} {xs ys : List Int64} (hd : decode cd pc = .ok (.lastore, 1)) (A : AJ Z h a xs) (hj : ¬ j < 0) (hi : j.toNatClampNeg = i) (hlt : i < xs.length) (hys : xs.set i x = ys) (ha : n0 ≤ a) (hp : pc + 1 = pc') (W : ∀ h', Wr h h' a i (.long x) → AJ Z h' a ys → Wp p l e R s m args below meth c n0 Q h' k n (mkF m pc' Ls st)) : Wp p l e R s m args below meth c n0 Q h k n (mkF m pc Ls (.long x :: .int j :: .ref a :: st)) := fun T locs X eT N => by
  subst hp hi hys
  have A' := A
  obtain ⟨cl, A, r1, r2⟩ := A
  obtain ⟨T', h', X', e', Wr', st'⟩ := stJ X C.1 C.2.1 eT A (j := j) (x := x) (fun z => z.elim hj fun y => by rw [r1] at y; simp at y; omega) (g := mkF m pc Ls (.long x :: .int j :: .ref a :: st)) rfl rfl (hb C.2.2.1 hd)
  obtain ⟨s₂, o, q, r⟩ := W h' Wr' (A'.same Wr') T' _ X' e' (Fr.snoc X' N ha)
  exact ⟨s₂, o, st' _ q, r⟩
theorem own_bastore (C : Cx p s m meth c Z cd ml ret own nm) {a : Addr} {j x : Int32} {i : Nat} {xs ys : List Int32} (hd : decode cd pc = .ok (.bastore, 1)) (A : AI Z h a .byte xs) (hj : ¬ j < 0) (hi : j.toNatClampNeg = i) (hlt : i < xs.length) (hys : xs.set i (nar .byte x) = ys) (ha : n0 ≤ a) (hp : pc + 1 = pc') (W : ∀ h', Wr h h' a i (.int (nar .byte x)) → AI Z h' a .byte ys → Wp p l e R s m args below meth c n0 Q h' k n (mkF m pc' Ls st)) : Wp p l e R s m args below meth c n0 Q h k n (mkF m pc Ls (.int x :: .int j :: .ref a :: st)) := fun T locs X eT N => by
  subst hp hi hys
  have A' := A
  obtain ⟨cl, A, r1, r2⟩ := A
  obtain ⟨T', h', X', e', Wr', st'⟩ := stB X C.1 C.2.1 eT A (j := j) (x := x) (fun z => z.elim hj fun y => by rw [r1] at y; simp at y; omega) (g := mkF m pc Ls (.int x :: .int j :: .ref a :: st)) rfl rfl (hb C.2.2.1 hd)
  obtain ⟨s₂, o, q, r⟩ := W h' Wr' (A'.same Wr') T' _ X' e' (Fr.snoc X' N ha)
  exact ⟨s₂, o, st' _ q, r⟩
theorem own_newI (C : Cx p s m meth c Z cd ml ret own nm) {aty : ArrayType} {ty : FieldType} {z : Int32} {len cap : Nat} (hd : decode cd pc = .ok (.newarray aty, 2)) (hty : newarray.typeOf aty = ty) (hdv : defaultValue ty = .int 0) (w : (Jvm.Cond.arrayClass ty).before a0 Z = true) (hz : ¬ z < 0) (hlen : z.toNatClampNeg = len) (hcap : len ≤ cap) (hb8 : cap * 8 ≤ 536870912) (hc : k + 1 ≤ R.cells) (hl : n + cap ≤ R.slots) (hp : pc + 2 = pc')
    (W : ∀ h' a, a = h.size → Ext h h' → AI Z h' a ty (List.replicate len 0) → Wp p l e R s m args below meth c n0 Q h' (k + 1) (n + cap) (mkF m pc' Ls (.ref a :: st))) : Wp p l e R s m args below meth c n0 Q h k n (mkF m pc Ls (.int z :: st)) := fun T locs X eT N => by
  subst hp hlen hty
  obtain ⟨T', h', cA, X', e', E', A', st'⟩ := newP X C.1 C.2.1 w eT (g := mkF m pc Ls (.int z :: st)) rfl (hb C.2.2.1 hd) rfl hz hcap hb8 hc hl
  obtain ⟨s₂, o, q, r⟩ := W h' h.size rfl E' ⟨_, A', by simp [newA, hdv], by simp; exact (back32 hz).2⟩ T' _ X' e' N
  exact ⟨s₂, o, st' _ q, r⟩
theorem own_newJ (C : Cx p s m meth c Z cd ml ret own nm) {z : Int32} {len cap : Nat} (hd : decode cd pc = .ok (.newarray .long, 2)) (w : (Jvm.Cond.arrayClass .long).before a0 Z = true) (hz : ¬ z < 0) (hlen : z.toNatClampNeg = len) (hcap : len ≤ cap) (hb8 : cap * 8 ≤ 536870912) (hc : k + 1 ≤ R.cells) (hl : n + cap ≤ R.slots) (hp : pc + 2 = pc')
    (W : ∀ h' a, a = h.size → Ext h h' → AJ Z h' a (List.replicate len 0) → Wp p l e R s m args below meth c n0 Q h' (k + 1) (n + cap) (mkF m pc' Ls (.ref a :: st))) : Wp p l e R s m args below meth c n0 Q h k n (mkF m pc Ls (.int z :: st)) := fun T locs X eT N => by
  subst hp hlen
  obtain ⟨T', h', cA, X', e', E', A', st'⟩ := newP X C.1 C.2.1 (aty := .long) w eT (g := mkF m pc Ls (.int z :: st)) rfl (hb C.2.2.1 hd) rfl hz hcap hb8 hc hl
  obtain ⟨s₂, o, q, r⟩ := W h' h.size rfl E' ⟨_, A', by simp [newA, newarray.typeOf, defaultValue], by simp; exact (back32 hz).2⟩ T' _ X' e' N
  exact ⟨s₂, o, st' _ q, r⟩
/-! calls -/
theorem own_callS (C : Cx p s m meth c Z cd ml ret own nm) {i : Nat} {y : MethodName} {bytes : ByteArray} {mL wL : Nat} {rt : Option FieldType} {rm : Room} {as : Array Value} {Qc : Option Value → Heap → Prop} {argsL rest : List Value}
    (M : Met l y bytes mL rt [] rm Z n0 as h Qc)
    (hd : decode cd pc = .ok (.invokestatic i, 3)) (w1 : (Jvm.Cond.methodLink own i y).before a0 Z = true) (w2 : (Jvm.Cond.static y).before a0 Z = true) (w3 : (Jvm.Cond.initialized y.cls).before a0 Z = true) (w4 : (Jvm.Cond.code y bytes mL rt).before a0 Z = true)
    (hy : y.cls ≠ "java/lang/invoke/MethodHandle" ∧ y.cls ≠ "java/lang/invoke/VarHandle") (hfr : rm.frames + 1 ≤ R.frames) (hlo : wL + (mL + 11) + rm.locals ≤ R.locals) (hsz : Ls.size = ml) (hlen : ∀ sig, parseMethodDescriptor y.desc = some sig → argsL.length = sig.parameters.length)
    (hst : st = argsL.reverse ++ rest) (has : argsL.toArray = as) (hW : 0 + (rest.map fun v => v.category).sum ≤ wL) (hc : k + rm.cells ≤ R.cells) (hs : n + rm.slots ≤ R.slots) (hp : pc + 3 = pc')
    (W : ∀ v h', Qc v h' → Wp p l e R s m args below meth c n0 Q h' (k + rm.cells) (n + rm.slots) (mkF m pc' Ls (v.toList ++ rest))) : Wp p l e R s m args below meth c n0 Q h k n (mkF m pc Ls st) := fun T locs X eT N => by
  subst hp has
  obtain ⟨_, _, ⟨T', L', k', n'⟩, -, X', ⟨Lc, hQ, l1, y1, z1⟩, st'⟩ := Jvm.LawKit.callS X C.1 (y := y) C.2.2.2.2.1 (mvT C.2.1 w1) (mvT C.2.1 w2) (mvT C.2.1 w3) (mvT C.2.1 w4) hy (backOf (W := wL) (Q := fun v h L => Qc v h ∧ Fr n0 L) M C.2.1 w4 w3 hfr hlo) (g := mkF m pc Ls st) rfl (by rw [C.2.2.2.1]; exact hsz) (argsL := argsL) (rest := rest) hlen hst hW (hb C.2.2.1 hd) (fun _ _ => ⟨rfl, eT, hc, hs⟩)
  dsimp only [Pt.U, Pt.locs, Pt.cells, Pt.slots] at X' l1 y1 z1 st' hQ
  subst l1 y1 z1
  obtain ⟨s₂, o, q, r⟩ := W _ _ hQ.1 T' _ X' rfl (Fr.app N hQ.2)
  exact ⟨s₂, o, st' _ q, r⟩
theorem own_callI (C : Cx p s m meth c Z cd ml ret own nm) {i : Nat} {K : String} {dsc : String} {bytes : ByteArray} {mL wL : Nat} {rm : Room} {as : Array Value} {Qc : Option Value → Heap → Prop} {argsL rest : List Value} {a : Addr}
    (M : Met l ⟨K, "<init>", dsc⟩ bytes mL none [] rm Z n0 as h Qc)
    (hd : decode cd pc = .ok (.invokespecial i, 3)) (w1 : (Jvm.Cond.methodLink own i ⟨K, "<init>", dsc⟩).before a0 Z = true) (w2 : (Jvm.Cond.instanceMethod ⟨K, "<init>", dsc⟩).before a0 Z = true) (w3 : (Jvm.Cond.initialized K).before a0 Z = true) (w4 : (Jvm.Cond.code ⟨K, "<init>", dsc⟩ bytes mL none).before a0 Z = true)
    (hy : K ≠ "java/lang/invoke/MethodHandle" ∧ K ≠ "java/lang/invoke/VarHandle") (hfr : rm.frames + 1 ≤ R.frames) (hlo : wL + (mL + 11) + rm.locals ≤ R.locals) (hsz : Ls.size = ml) (hlen : ∀ sig, parseMethodDescriptor dsc = some sig → argsL.length = sig.parameters.length)
    (hst : st = argsL.reverse ++ .ref a :: rest) (has : (Value.ref a :: argsL).toArray = as) (hW : 0 + (rest.map fun v => v.category).sum ≤ wL) (hc : k + rm.cells ≤ R.cells) (hs : n + rm.slots ≤ R.slots) (hp : pc + 3 = pc')
    (W : ∀ v h', Qc v h' → Wp p l e R s m args below meth c n0 Q h' (k + rm.cells) (n + rm.slots) (mkF m pc' Ls (v.toList ++ rest))) : Wp p l e R s m args below meth c n0 Q h k n (mkF m pc Ls st) := fun T locs X eT N => by
  subst hp has
  obtain ⟨_, _, ⟨T', L', k', n'⟩, -, X', ⟨Lc, hQ, l1, y1, z1⟩, st'⟩ := X.specialBack C.1 (y := ⟨K, "<init>", dsc⟩) rfl C.2.2.2.2.1 (mvT C.2.1 w1) (mvT C.2.1 w2) (mvT C.2.1 w4) hy (backOf (W := wL) (Q := fun v h L => Qc v h ∧ Fr n0 L) M C.2.1 w4 w3 hfr hlo) (g := mkF m pc Ls st) rfl (by rw [C.2.2.2.1]; exact hsz) (Steps.refl _) (a := a) (argsL := argsL) (rest := rest) hlen hst hW (hb C.2.2.1 hd) (fun _ _ => ⟨rfl, eT, hc, hs⟩)
  dsimp only [Pt.U, Pt.locs, Pt.cells, Pt.slots] at X' l1 y1 z1 st' hQ
  subst l1 y1 z1
  obtain ⟨s₂, o, q, r⟩ := W _ _ hQ.1 T' _ X' rfl (Fr.app N hQ.2)
  exact ⟨s₂, o, st'.trans q, r⟩
theorem own_callV (C : Cx p s m meth c Z cd ml ret own nm) {i : Nat} {y : MethodName} {bytes : ByteArray} {mL wL : Nat} {rt : Option FieldType} {rm : Room} {as : Array Value} {Qc : Option Value → Heap → Prop} {argsL rest : List Value} {a : Addr}
    (M : Met l y bytes mL rt [] rm Z n0 as h Qc) (E : Exa Z h a y.cls)
    (hd : decode cd pc = .ok (.invokevirtual i, 3)) (w1 : (Jvm.Cond.methodLink own i y).before a0 Z = true) (w2 : (Jvm.Cond.declares y).before a0 Z = true) (w5 : (Jvm.Cond.selects y.cls y y).before a0 Z = true) (w6 : (Jvm.Cond.instanceMethod y).before a0 Z = true) (w3 : (Jvm.Cond.initialized y.cls).before a0 Z = true) (w4 : (Jvm.Cond.code y bytes mL rt).before a0 Z = true)
    (hy : y.cls ≠ "java/lang/invoke/MethodHandle" ∧ y.cls ≠ "java/lang/invoke/VarHandle") (hfr : rm.frames + 1 ≤ R.frames) (hlo : wL + (mL + 11) + rm.locals ≤ R.locals) (hsz : Ls.size = ml) (hlen : ∀ sig, parseMethodDescriptor y.desc = some sig → argsL.length = sig.parameters.length)
    (hst : st = argsL.reverse ++ .ref a :: rest) (has : (Value.ref a :: argsL).toArray = as) (hW : 0 + (rest.map fun v => v.category).sum ≤ wL) (hc : k + rm.cells ≤ R.cells) (hs : n + rm.slots ≤ R.slots) (hp : pc + 3 = pc')
    (W : ∀ v h', Qc v h' → Wp p l e R s m args below meth c n0 Q h' (k + rm.cells) (n + rm.slots) (mkF m pc' Ls (v.toList ++ rest))) : Wp p l e R s m args below meth c n0 Q h k n (mkF m pc Ls st) := fun T locs X eT N => by
  subst hp has
  obtain ⟨cq, kq, qa, qb, qc⟩ := isOf C.2.1 eT E
  obtain ⟨_, _, ⟨T', L', k', n'⟩, -, X', ⟨Lc, hQ, l1, y1, z1⟩, st'⟩ := X.virtualBack C.1 (y := y) (z := y) C.2.2.2.2.1 (mvT C.2.1 w1) (mvT C.2.1 w2) (notFace_of_selects (args := #[]) (mvT C.2.1 w5)) (mvT C.2.1 w5) (mvT C.2.1 w6) hy (backOf (W := wL) (Q := fun v h L => Qc v h ∧ Fr n0 L) M C.2.1 w4 w3 hfr hlo) qa qc (g := mkF m pc Ls st) rfl (by rw [C.2.2.2.1]; exact hsz) (Steps.refl _) (argsL := argsL) (rest := rest) hlen hst hW (hb C.2.2.1 hd) (fun _ _ => ⟨rfl, eT, hc, hs⟩)
  dsimp only [Pt.U, Pt.locs, Pt.cells, Pt.slots] at X' l1 y1 z1 st' hQ
  subst l1 y1 z1
  obtain ⟨s₂, o, q, r⟩ := W _ _ hQ.1 T' _ X' rfl (Fr.app N hQ.2)
  exact ⟨s₂, o, st'.trans q, r⟩
theorem own_callP (C : Cx p s m meth c Z cd ml ret own nm) {i : Nat} {y : MethodName} {bytes : ByteArray} {mL wL : Nat} {rt : Option FieldType} {rm : Room} {as : Array Value} {Qc : Option Value → Heap → Prop} {argsL rest : List Value} {a : Addr}
    (M : Met l y bytes mL rt [] rm Z n0 as h Qc) (E : Exa Z h a y.cls)
    (hd : decode cd pc = .ok (.invokevirtual i, 3)) (w1 : (Jvm.Cond.methodLink own i y).before a0 Z = true) (w2 : (Jvm.Cond.privateMethod y).before a0 Z = true) (w5 : (Jvm.Cond.selects y.cls y y).before a0 Z = true) (w6 : (Jvm.Cond.instanceMethod y).before a0 Z = true) (w3 : (Jvm.Cond.initialized y.cls).before a0 Z = true) (w4 : (Jvm.Cond.code y bytes mL rt).before a0 Z = true)
    (hy : y.cls ≠ "java/lang/invoke/MethodHandle" ∧ y.cls ≠ "java/lang/invoke/VarHandle") (hfr : rm.frames + 1 ≤ R.frames) (hlo : wL + (mL + 11) + rm.locals ≤ R.locals) (hsz : Ls.size = ml) (hlen : ∀ sig, parseMethodDescriptor y.desc = some sig → argsL.length = sig.parameters.length)
    (hst : st = argsL.reverse ++ .ref a :: rest) (has : (Value.ref a :: argsL).toArray = as) (hW : 0 + (rest.map fun v => v.category).sum ≤ wL) (hc : k + rm.cells ≤ R.cells) (hs : n + rm.slots ≤ R.slots) (hp : pc + 3 = pc')
    (W : ∀ v h', Qc v h' → Wp p l e R s m args below meth c n0 Q h' (k + rm.cells) (n + rm.slots) (mkF m pc' Ls (v.toList ++ rest))) : Wp p l e R s m args below meth c n0 Q h k n (mkF m pc Ls st) := fun T locs X eT N => by
  subst hp has
  obtain ⟨cq, q1, q2⟩ := E.cell
  obtain ⟨_, _, ⟨T', L', k', n'⟩, -, X', ⟨Lc, hQ, l1, y1, z1⟩, st'⟩ := X.privateBack C.1 (y := y) C.2.2.2.2.1 (mvT C.2.1 w1) (mvT C.2.1 w6) (mvT C.2.1 w5) (Cond.privateMethod_at (mvP C.2.1 w2 (args := #[]))) (mvT C.2.1 w4) hy (backOf (W := wL) (Q := fun v h L => Qc v h ∧ Fr n0 L) M C.2.1 w4 w3 hfr hlo) (g := mkF m pc Ls st) rfl (by rw [C.2.2.2.1]; exact hsz) (Steps.refl _) (a := a) (by rw [eT]; exact q1) q2 (argsL := argsL) (rest := rest) hlen hst hW (hb C.2.2.1 hd) (fun _ _ => ⟨rfl, eT, hc, hs⟩)
  dsimp only [Pt.U, Pt.locs, Pt.cells, Pt.slots] at X' l1 y1 z1 st' hQ
  subst l1 y1 z1
  obtain ⟨s₂, o, q, r⟩ := W _ _ hQ.1 T' _ X' rfl (Fr.app N hQ.2)
  exact ⟨s₂, o, st'.trans q, r⟩
end OwnKit
section OwnRef
variable {p : Program} {l : Launch} {e : Env} {R : Room} {s : State} {m : MethodId} {args : Array Value} {below : List Frame} {meth : Method} {c : Code} {Z : State} {a0 : Array Value} {cd : ByteArray} {ml : Nat} {ret : Option FieldType} {own nm : String} {n0 : Nat} {Q : Option Value → Heap → Prop} {h : Heap} {k n : Nat}
variable {pc pc' : Nat} {Ls Ls' : Array Slot} {st : List Value}
theorem own_metF {y : MethodName} {bytes : ByteArray} {mL : Nat} {rt : Option FieldType} {ws : List Jvm.Cond} {rm : Room} {as : Array Value} {Ls : Array Slot} (hpn : plainFor y = true) (hef : ∀ m, entryFrame m as mL = mkF m 0 Ls [])
    (H : ∀ p e s m below meth c, Cx p s m meth c Z bytes mL rt y.cls y.name → Wp p l e rm s m as below meth c n0 Q h 0 0 (mkF m 0 Ls [])) : Met l y bytes mL rt ws rm Z n0 as h Q := by
  refine MetFree.of_bodySF hpn hisR ?_
  intro p e s m args below meth c s₁ Bd hml0 hP hK
  obtain ⟨rfl, hZ, hh⟩ := hP
  have hown : s.vm.findClass y.cls = some m.cls := findClass_of_methodNamed Bd.named
  have hnm := (name_of_methodNamed Bd.named Bd.method).1
  have X0 : Stand p l e rm s m args below meth c s₁ [] 0 0 := Stand.of_body Bd
  have e0 : s₁.heap = h := by rw [← hh, Bd.state]; rfl
  obtain ⟨s₂, o, st, r⟩ := H p e s m below meth c ⟨Bd.exec, hZ, Bd.bytes, hml0, hown, Bd.returns, Bd.notSynchronized, hnm⟩ s₁ [] X0 e0 (Fr.nil n0)
  exact ⟨s₂, o, castTop (hef m) st, r⟩
/-- a long[][] -/
def AR (Z : State) (h : Heap) (a : Addr) (xs : List Value) : Prop := ∃ cl : Cell, Arr Z h a cl (.array .long) ∧ OvrA Z cl.cls .long "[J" ∧ cl.slots = xs.toArray ∧ xs.length < 2 ^ 31
theorem AR.lt {a : Addr} {xs : List Value} (A : AR Z h a xs) : a < h.size := by obtain ⟨cl, A, -⟩ := A; exact A.lt
theorem AR.ext {h' : Heap} {a : Addr} {xs : List Value} (A : AR Z h a xs) (E : Ext h h') : AR Z h' a xs := by obtain ⟨cl, A, r⟩ := A; exact ⟨cl, A.ext E, r⟩
theorem AR.other {h' : Heap} {a b : Addr} {sl : Nat} {v : Value} {xs : List Value} (A : AR Z h a xs) (W : Wr h h' b sl v) (q : a ≠ b) : AR Z h' a xs := by obtain ⟨cl, A, r⟩ := A; exact ⟨cl, A.other W q, r⟩
theorem AR.keep {h' : Heap} {a : Addr} {ws : List Addr} {xs : List Value} (A : AR Z h a xs) (K : Keep h h' ws) (q : a ∉ ws) : AR Z h' a xs := by obtain ⟨cl, A, r⟩ := A; exact ⟨cl, ⟨K.2.1 a cl A.1 q, A.2⟩, r⟩
theorem AR.same {h' : Heap} {a : Addr} {i : Nat} {v : Value} {xs : List Value} (A : AR Z h a xs) (W : Wr h h' a i v) : AR Z h' a (xs.set i v) := by
  obtain ⟨cl, A, r0, r1, r2⟩ := A
  exact ⟨_, A.same W, r0, by simp [Cell.setSlot, r1], by simpa using r2⟩
theorem own_aaload (C : Cx p s m meth c Z cd ml ret own nm) {a : Addr} {j : Int32} {v : Value} {i : Nat} {xs : List Value} (hd : decode cd pc = .ok (.aaload, 1)) (A : AR Z h a xs) (hj : ¬ j < 0) (hi : j.toNatClampNeg = i) (hv : xs[i]? = some v) (hp : pc + 1 = pc') (W : Wp p l e R s m args below meth c n0 Q h k n (mkF m pc' Ls (v :: st))) : Wp p l e R s m args below meth c n0 Q h k n (mkF m pc Ls (.int j :: .ref a :: st)) := by
  subst hp hi
  obtain ⟨cl, A, r0, r1, r2⟩ := A
  have hlt := (List.getElem?_eq_some_iff.mp hv).1
  exact own_liftX (fun T locs X eT t q => X.aaload C.1 (j := j) (v := v) (by rw [eT]; exact A.1) (State.isArrayOf_alike C.2.1.alike A.2.1) rfl A.2.2 (fun z => z.elim hj fun y => by rw [r1] at y; simp at y; omega) (by rw [r1]; simp [hv]) (g := mkF m pc Ls (.int j :: .ref a :: st)) rfl rfl (hb C.2.2.1 hd) t q) W
theorem own_aastore (C : Cx p s m meth c Z cd ml ret own nm) {a y : Addr} {j : Int32} {i : Nat} {xs ys : List Value} (hd : decode cd pc = .ok (.aastore, 1)) (A : AR Z h a xs) (E : Exa Z h y "[J") (hj : ¬ j < 0) (hi : j.toNatClampNeg = i) (hlt : i < xs.length) (hys : xs.set i (.ref y) = ys) (ha : n0 ≤ a) (hp : pc + 1 = pc') (W : ∀ h', Wr h h' a i (.ref y) → AR Z h' a ys → Wp p l e R s m args below meth c n0 Q h' k n (mkF m pc' Ls st)) : Wp p l e R s m args below meth c n0 Q h k n (mkF m pc Ls (.ref y :: .int j :: .ref a :: st)) := fun T locs X eT N => by
  subst hp hi hys
  have A' := A
  obtain ⟨cl, A, r0, r1, r2⟩ := A
  obtain ⟨T', h', X', e', Wr', st'⟩ := stR X C.1 C.2.1 eT A (j := j) (v := .ref y) (fun z => z.elim hj fun y => by rw [r1] at y; simp at y; omega) rfl (Sto.ofVA A rfl r0 (Ins.self E)) (g := mkF m pc Ls (.ref y :: .int j :: .ref a :: st)) rfl rfl (hb C.2.2.1 hd)
  obtain ⟨s₂, o, q, r⟩ := W h' Wr' (A'.same Wr') T' _ X' e' (Fr.snoc X' N ha)
  exact ⟨s₂, o, st' _ q, r⟩
theorem own_anewA (C : Cx p s m meth c Z cd ml ret own nm) {i : Nat} {z : Int32} {len cap : Nat} (hd : decode cd pc = .ok (.anewarray i, 3)) (w1 : (Jvm.Cond.classLink own i "[J").before a0 Z = true) (w2 : (Jvm.Cond.arrayOver (.array .long)).before a0 Z = true) (hz : ¬ z < 0) (hlen : z.toNatClampNeg = len) (hcap : len ≤ cap) (hb8 : cap * 8 ≤ 536870912) (hc : k + 1 ≤ R.cells) (hl : n + cap ≤ R.slots) (hp : pc + 3 = pc')
    (W : ∀ h' a, a = h.size → Ext h h' → AR Z h' a (List.replicate len .null) → Wp p l e R s m args below meth c n0 Q h' (k + 1) (n + cap) (mkF m pc' Ls (.ref a :: st))) : Wp p l e R s m args below meth c n0 Q h k n (mkF m pc Ls (.int z :: st)) := fun T locs X eT N => by
  subst hp hlen
  obtain ⟨T', h', cA, X', e', E', A', -, O', st'⟩ := newRA X C.1 C.2.1 C.2.2.2.2.1 (C := "[J") (ty := .long) (by decide) w1 w2 eT (g := mkF m pc Ls (.int z :: st)) rfl (hb C.2.2.1 hd) rfl hz hcap hb8 hc hl rfl
  obtain ⟨s₂, o, q, r⟩ := W h' h.size rfl E' ⟨_, A', O', by simp [newA, defaultValue], by simp; exact (back32 hz).2⟩ T' _ X' e' N
  exact ⟨s₂, o, st' _ q, r⟩
theorem own_newJE (C : Cx p s m meth c Z cd ml ret own nm) {z : Int32} {len cap : Nat} (hd : decode cd pc = .ok (.newarray .long, 2)) (w : (Jvm.Cond.arrayClass .long).before a0 Z = true) (hz : ¬ z < 0) (hlen : z.toNatClampNeg = len) (hcap : len ≤ cap) (hb8 : cap * 8 ≤ 536870912) (hc : k + 1 ≤ R.cells) (hl : n + cap ≤ R.slots) (hp : pc + 2 = pc')
    (W : ∀ h' a, a = h.size → Ext h h' → AJ Z h' a (List.replicate len 0) → Exa Z h' a "[J" → Wp p l e R s m args below meth c n0 Q h' (k + 1) (n + cap) (mkF m pc' Ls (.ref a :: st))) : Wp p l e R s m args below meth c n0 Q h k n (mkF m pc Ls (.int z :: st)) := fun T locs X eT N => by
  subst hp hlen
  obtain ⟨T', h', cA, X', e', E', A', Ex', st'⟩ := newPE X C.1 C.2.1 (aty := .long) w eT (g := mkF m pc Ls (.int z :: st)) rfl (hb C.2.2.1 hd) rfl hz hcap hb8 hc hl (ad := "[J") (by decide)
  obtain ⟨s₂, o, q, r⟩ := W h' h.size rfl E' ⟨_, A', by simp [newA, newarray.typeOf, defaultValue], by simp; exact (back32 hz).2⟩ Ex' T' _ X' e' N
  exact ⟨s₂, o, st' _ q, r⟩
/-- System.arraycopy of the first places of one long[] into another -/
theorem own_arraycopy (C : Cx p s m meth c Z cd ml ret own nm) {i wL : Nat} {a b : Addr} {cnt : Nat} {j : Int32} {xs ys zs : List Int64} (hd : decode cd pc = .ok (.invokestatic i, 3)) (w1 : (Jvm.Cond.methodLink own i ⟨"java/lang/System", "arraycopy", "(Ljava/lang/Object;ILjava/lang/Object;II)V"⟩).before a0 Z = true) (w2 : (Jvm.Cond.native ⟨"java/lang/System", "arraycopy", "(Ljava/lang/Object;ILjava/lang/Object;II)V"⟩).before a0 Z = true) (w3 : (Jvm.Cond.static ⟨"java/lang/System", "arraycopy", "(Ljava/lang/Object;ILjava/lang/Object;II)V"⟩).before a0 Z = true) (w4 : (Jvm.Cond.initialized "java/lang/System").before a0 Z = true)
    (A : AJ Z h a xs) (B : AJ Z h b ys) (hj : j = Int32.ofNat cnt) (h1 : cnt ≤ xs.length) (h2 : cnt ≤ ys.length) (hz : xs.take cnt ++ ys.drop cnt = zs) (ha : n0 ≤ b) (hsz : Ls.size = ml) (hf : 1 ≤ R.frames) (hW : 0 + (st.map fun v => v.category).sum ≤ wL) (hlo : wL + 40 ≤ R.locals) (hp : pc + 3 = pc')
    (W : ∀ h', Keep h h' [b] → AJ Z h' b zs → Wp p l e R s m args below meth c n0 Q h' k n (mkF m pc' Ls st)) : Wp p l e R s m args below meth c n0 Q h k n (mkF m pc Ls (.int j :: .int 0 :: .ref b :: .int 0 :: .ref a :: st)) := fun T locs X eT N => by
  subst hp hz
  obtain ⟨ca, A, ra, la⟩ := A
  obtain ⟨cb, B, rb, lb⟩ := B
  have sa : ca.slots.size = xs.length := by rw [ra]; simp
  have sb : cb.slots.size = ys.length := by rw [rb]; simp
  have alT : Z.vm.Alike T.vm := C.2.1.alike.trans X.warmed.alike
  obtain ⟨T', B', X', P', p1, p2, p3, p4, st'⟩ := X.acopy C.1 C.2.2.2.2.1 (index := i) (fun w hw => by
      simp only [Jvm.Free.XT.acW, List.mem_cons, List.not_mem_nil, or_false] at hw
      rcases hw with rfl | rfl | rfl | rfl
      · exact mvT C.2.1 w1
      · exact mvT C.2.1 w2
      · exact mvT C.2.1 w3
      · exact mvT C.2.1 w4)
    (ts := .long) (t := .long) (a := a) (b := b) (A := ca) (B := cb) ⟨by rw [eT]; exact A.1, State.isArrayOf_alike alT A.2.1, A.2.2, by rw [sa]; exact la⟩ ⟨by rw [eT]; exact B.1, State.isArrayOf_alike alT B.2.1, B.2.2, by rw [sb]; exact lb⟩ (by decide) (o := 0) (q := 0) (n := cnt) (jo := 0) (jq := 0) (jn := j) (by decide) (by decide) hj (by rw [sa]; omega) (by rw [sb]; omega)
    (fun i hi => ⟨by
      have hx : ca.slots.getD (0 + i) .null = .long (xs.getD i 0) := by
        rw [ra, Nat.zero_add, Array.getD_eq_getD_getElem?]
        simp [List.getElem?_eq_getElem (show i < xs.length by omega)]
      rw [hx]; rfl, fun q => by cases q⟩)
    (g := mkF m pc Ls (.int j :: .int 0 :: .ref b :: .int 0 :: .ref a :: st)) rfl (by rw [C.2.2.2.1]; exact hsz) rfl (hb C.2.2.1 hd) hW hf hlo
  have hslots : B'.slots = ((xs.take cnt ++ ys.drop cnt).map Value.long).toArray := by
    apply Array.ext_getElem?
    intro q
    rw [p4 q]
    by_cases hq : q < cnt
    · have hx : ca.slots.getD (0 + (q - 0)) .null = .long (xs.getD q 0) := by
        rw [ra, Nat.sub_zero, Nat.zero_add, Array.getD_eq_getD_getElem?]
        simp [List.getElem?_eq_getElem (show q < xs.length by omega)]
      rw [if_pos (by omega), hx]
      simp [List.getElem?_append, show q < min cnt xs.length by omega, hq, List.getElem?_eq_getElem (show q < xs.length by omega)]
    · rw [if_neg (by omega), rb]
      have e1 : min cnt xs.length = cnt := by omega
      simp [List.getElem?_append, hq, e1]
      congr 2
      omega
  have hK : Keep h T'.heap [b] := by
    obtain ⟨q1, q2, q3⟩ := P'
    refine ⟨by rw [q3, eT]; exact Nat.le_refl _, fun x c hx r => ?_, fun x c hx => ?_⟩
    · rw [q2 x (fun z => r (by simp [z])), eT]; exact hx
    · by_cases z : x = b
      · subst z; cases B.1.symm.trans hx
        exact ⟨B', q1, p1, p2, p3⟩
      · exact ⟨c, by rw [q2 x z, eT]; exact hx, rfl, rfl, rfl⟩
  have hB' : AJ Z T'.heap b (xs.take cnt ++ ys.drop cnt) := ⟨B', ⟨P'.1, by
    obtain ⟨z1, z2⟩ := B.2.1
    refine ⟨?_, ?_⟩
    · intro kk; rw [p2]; exact z1 kk
    · rw [p1]; exact z2, by rw [p2]; exact B.2.2⟩, hslots, by simp; omega⟩
  obtain ⟨s₂, o, q, r⟩ := W T'.heap hK hB' T' _ X' rfl (Fr.app N fun y hy => by
    simp only [copyLocs, List.mem_map] at hy
    obtain ⟨i', -, rfl⟩ := hy
    exact ha)
  exact ⟨s₂, o, st' _ q, r⟩
end OwnRef
def own_lt (a b : Int64) : Bool := decide (a < b)

/-! a heap of five at the most, over any items -/
section OwnHeapFns
variable {α : Type} (lt : α → α → Bool)
def own_p1 (x0 v : α) : α × α := if lt v x0 = true then (v, x0) else (x0, v)
def own_p2 (x0 x1 v : α) : α × α × α := if lt v x0 = true then (v, x1, x0) else (x0, x1, v)
def own_p3 (x0 x1 x2 v : α) : α × α × α × α := if lt v x1 = true then (if lt v x0 = true then (v, x0, x2, x1) else (x0, v, x2, x1)) else (x0, x1, x2, v)
def own_p4 (x0 x1 x2 x3 v : α) : α × α × α × α × α := if lt v x1 = true then (if lt v x0 = true then (v, x0, x2, x3, x1) else (x0, v, x2, x3, x1)) else (x0, x1, x2, x3, v)
def own_q4 (x0 x1 x2 x3 x4 : α) : α × α × α × α := if lt x2 x1 = true then (if lt x2 x4 = true then (x2, x1, x4, x3) else (x4, x1, x2, x3)) else (if lt x1 x4 = true then (if lt x3 x4 = true then (x1, x3, x2, x4) else (x1, x4, x2, x3)) else (x4, x1, x2, x3))
def own_q3 (x0 x1 x2 x3 : α) : α × α × α := if lt x2 x1 = true then (if lt x2 x3 = true then (x2, x1, x3) else (x3, x1, x2)) else (if lt x1 x3 = true then (x1, x3, x2) else (x3, x1, x2))
def own_q2 (x0 x1 x2 : α) : α × α := if lt x1 x2 = true then (x1, x2) else (x2, x1)
def own_cs (a b : α) : α × α := if lt b a = true then (b, a) else (a, b)
end OwnHeapFns
theorem own_rank (K : Fin 5 → Int) : ∃ r : Fin 5 → Fin 5, ∀ i j, (K i < K j ↔ r i < r j) := by
  let b : Fin 5 → Fin 5 → Nat := fun m i => if K m < K i then 1 else 0
  have b01 : ∀ m i, b m i ≤ 1 := fun m i => by show (if K m < K i then 1 else 0) ≤ 1; split <;> omega
  have bs : ∀ i, b i i = 0 := fun i => if_neg (Int.lt_irrefl _)
  let c : Fin 5 → Nat := fun i => b 0 i + b 1 i + b 2 i + b 3 i + b 4 i
  have c5 : ∀ i, c i < 5 := fun i => by
    have h0 := b01 0 i; have h1 := b01 1 i; have h2 := b01 2 i; have h3 := b01 3 i; have h4 := b01 4 i
    show b 0 i + b 1 i + b 2 i + b 3 i + b 4 i < 5
    match i with
    | 0 => have := bs 0; omega
    | 1 => have := bs 1; omega
    | 2 => have := bs 2; omega
    | 3 => have := bs 3; omega
    | 4 => have := bs 4; omega
  have mono : ∀ i j, K i ≤ K j → ∀ m, b m i ≤ b m j := fun i j h m => by
    show (if K m < K i then 1 else 0) ≤ (if K m < K j then 1 else 0)
    by_cases q : K m < K i
    · rw [if_pos q, if_pos (by omega)]; omega
    · rw [if_neg q]; omega
  have le : ∀ i j, K i ≤ K j → c i ≤ c j := fun i j h => by
    have h0 := mono i j h 0; have h1 := mono i j h 1; have h2 := mono i j h 2; have h3 := mono i j h 3; have h4 := mono i j h 4
    show b 0 i + b 1 i + b 2 i + b 3 i + b 4 i ≤ b 0 j + b 1 j + b 2 j + b 3 j + b 4 j
    omega
  have lt : ∀ i j, K i < K j → c i < c j := fun i j h => by
    have h0 := mono i j (by omega) 0; have h1 := mono i j (by omega) 1; have h2 := mono i j (by omega) 2; have h3 := mono i j (by omega) 3; have h4 := mono i j (by omega) 4
    have e1 : b i i = 0 := bs i
    have e2 : b i j = 1 := if_pos h
    show b 0 i + b 1 i + b 2 i + b 3 i + b 4 i < b 0 j + b 1 j + b 2 j + b 3 j + b 4 j
    match i, h, h0, h1, h2, h3, h4, e1, e2 with
    | 0, h, h0, h1, h2, h3, h4, e1, e2 => omega
    | 1, h, h0, h1, h2, h3, h4, e1, e2 => omega
    | 2, h, h0, h1, h2, h3, h4, e1, e2 => omega
    | 3, h, h0, h1, h2, h3, h4, e1, e2 => omega
    | 4, h, h0, h1, h2, h3, h4, e1, e2 => omega
  refine ⟨fun i => ⟨c i, c5 i⟩, fun i j => ⟨fun h => lt i j h, fun h => ?_⟩⟩
  by_cases q : K i < K j
  · exact q
  · have h1 : c i < c j := h
    have h2 := le j i (by omega)
    omega

def own_f5 (a : Int32) (b : Int32) : Int32 := (if b < a then b else a)
theorem d5_0 : decode jdk_29_method_69_code 0 = .ok (.iload_n 0, 1) := by decide +kernel
theorem d5_1 : decode jdk_29_method_69_code 1 = .ok (.iload_n 1, 1) := by decide +kernel
theorem d5_2 : decode jdk_29_method_69_code 2 = .ok (.if_icmp .gt 7, 3) := by decide +kernel
theorem d5_5 : decode jdk_29_method_69_code 5 = .ok (.iload_n 0, 1) := by decide +kernel
theorem d5_6 : decode jdk_29_method_69_code 6 = .ok (.goto 4, 3) := by decide +kernel
theorem d5_9 : decode jdk_29_method_69_code 9 = .ok (.iload_n 1, 1) := by decide +kernel
theorem d5_10 : decode jdk_29_method_69_code 10 = .ok (.ireturn, 1) := by decide +kernel
theorem pn5 : plainFor (⟨"java/lang/Math", "min", "(II)I"⟩ : MethodName) = true := by decide +kernel
theorem ef5 (m : MethodId) (x0 : Int32) (x1 : Int32) : entryFrame m #[(.int x0), (.int x1)] 2 = mkF m 0 #[.val (.int x0), .val (.int x1)] [] := by first | (simp [entryFrame, mkF, argsToLocals, Value.category]; done) | rfl
set_option maxRecDepth 65536 in
set_option maxHeartbeats 40000000 in
theorem own_m5 (l : Launch) (Z : State) (a0 : Array Value) (hw : ∀ d ∈ tables_1, d.before a0 Z = true) (a : Int32) (b : Int32)  (h0 : Heap) (n0 : Nat) (Z_ : n0 ≤ h0.size)  :
    Met l (⟨"java/lang/Math", "min", "(II)I"⟩ : MethodName) jdk_29_method_69_code 2 (some .int) [] ({ frames := 0, cells := 0, slots := 0, locals := 0 } : Room) Z n0 #[(.int a), (.int b)] h0 (fun v h => v = some (.int (own_f5 a b)) ∧ h0 = h) := by
  refine own_metF pn5 (fun m => ef5 m a b) ?_
  intro p e s m below meth c C
  refine own_iloadN (pc' := 1) C d5_0 rfl rfl ?_
  refine own_iloadN (pc' := 2) C d5_1 rfl rfl ?_
  obtain ⟨vs_10, hvs_10⟩ : ∃ z : Int32, z = (if b < a then b else a) := ⟨_, rfl⟩
  refine own_seq (g' := mkF m 10 #[.val (.int a), .val (.int b)] [(.int vs_10)]) (fun J10 => ?_) ?_
  · refine own_icmp_gt (pt := 9) (pf := 5) C d5_2 (by decide) (by decide) rfl ?_ ?_
    · intro hc2
      refine own_iloadN (pc' := 10) C d5_9 rfl rfl ?_
      exact own_cast (by simp only [hvs_10, if_pos hc2]) (J10)
    · intro hc2
      refine own_iloadN (pc' := 6) C d5_5 rfl rfl ?_
      refine own_goto (pc' := 10) C d5_6 (by decide) (by decide) ?_
      exact own_cast (by simp only [hvs_10, if_neg hc2]) (J10)
  refine own_iret C d5_10 (by decide) (by decide) ?_
  exact ⟨by simp only [own_f5, ← hvs_10], rfl⟩

theorem d4_0 : decode jdk_65_method_124_code 0 = .ok (.iload_n 1, 1) := by decide +kernel
theorem d4_1 : decode jdk_65_method_124_code 1 = .ok (.aload_n 0, 1) := by decide +kernel
theorem d4_2 : decode jdk_65_method_124_code 2 = .ok (.arraylength, 1) := by decide +kernel
theorem d4_3 : decode jdk_65_method_124_code 3 = .ok (.if_icmp .ne 11, 3) := by decide +kernel
theorem d4_14 : decode jdk_65_method_124_code 14 = .ok (.iload_n 1, 1) := by decide +kernel
theorem d4_15 : decode jdk_65_method_124_code 15 = .ok (.newarray .long, 2) := by decide +kernel
theorem d4_17 : decode jdk_65_method_124_code 17 = .ok (.astore_n 2, 1) := by decide +kernel
theorem d4_18 : decode jdk_65_method_124_code 18 = .ok (.aload_n 0, 1) := by decide +kernel
theorem d4_19 : decode jdk_65_method_124_code 19 = .ok (.iconst 0, 1) := by decide +kernel
theorem d4_20 : decode jdk_65_method_124_code 20 = .ok (.aload_n 2, 1) := by decide +kernel
theorem d4_21 : decode jdk_65_method_124_code 21 = .ok (.iconst 0, 1) := by decide +kernel
theorem d4_22 : decode jdk_65_method_124_code 22 = .ok (.aload_n 0, 1) := by decide +kernel
theorem d4_23 : decode jdk_65_method_124_code 23 = .ok (.arraylength, 1) := by decide +kernel
theorem d4_24 : decode jdk_65_method_124_code 24 = .ok (.iload_n 1, 1) := by decide +kernel
theorem d4_25 : decode jdk_65_method_124_code 25 = .ok (.invokestatic 304, 3) := by decide +kernel
theorem d4_28 : decode jdk_65_method_124_code 28 = .ok (.invokestatic 150, 3) := by decide +kernel
theorem d4_31 : decode jdk_65_method_124_code 31 = .ok (.aload_n 2, 1) := by decide +kernel
theorem d4_32 : decode jdk_65_method_124_code 32 = .ok (.areturn, 1) := by decide +kernel
theorem pn4 : plainName "java/util/Arrays" = true := by first | (simp [plainName, overriddenIn]; done) | decide +kernel
theorem ef4 (m : MethodId) (x0 : Addr) (x1 : Int32) : entryFrame m #[(.ref x0), (.int x1)] 3 = mkF m 0 #[.val (.ref x0), .val (.int x1), .unset] [] := by first | (simp [entryFrame, mkF, argsToLocals, Value.category]; done) | rfl
theorem pd5 : parseMethodDescriptor "(II)I" = some ⟨[.int, .int], some .int⟩ := by decide +kernel
theorem own_ki_0 : Int32.ofInt (0) = (0 : Int32) := by decide
set_option maxRecDepth 65536 in
set_option maxHeartbeats 40000000 in
theorem own_copy (l : Launch) (Z : State) (a0 : Array Value) (hw : ∀ d ∈ tables_1, d.before a0 Z = true) (r : Addr) (x0_ x1_ x2_ x3_ : Int64) (h0 : Heap) (n0 : Nat) (Z_ : n0 ≤ h0.size) (A_r : AJ Z h0 r [x0_, x1_, x2_, x3_]) :
    Met l (⟨"java/util/Arrays", "copyOf", "([JI)[J"⟩ : MethodName) jdk_65_method_124_code 3 (some (.array .long)) [] ({ frames := 1, cells := 1, slots := 8, locals := 40 } : Room) Z n0 #[(.ref r), (.int (8 : Int32))] h0 (fun v h => ∃ o, v = some (.ref o) ∧ h0.size ≤ o ∧ Keep h0 h [] ∧ AJ Z h o [x0_, x1_, x2_, x3_, 0, 0, 0, 0] ∧ Exa Z h o "[J") := by
  refine own_met pn4 (fun m => ef4 m r (8 : Int32)) ?_
  intro p e s m below meth c C
  have K_ : Keep h0 h0 [] := Keep.refl _ _
  refine own_iloadN (pc' := 1) C d4_0 rfl rfl ?_
  refine own_aloadN (pc' := 2) C d4_1 rfl rfl rfl ?_
  refine own_lenJ (pc' := 3) (v := (4 : Int32)) C d4_2 A_r rfl rfl ?_
  refine own_icmp_ne (pt := 14) (pf := 6) C d4_3 (by decide) (by decide) rfl (fun _ => ?_) (fun q => absurd q (by decide))
  refine own_iloadN (pc' := 15) C d4_14 rfl rfl ?_
  refine own_newJE (pc' := 17) (len := 8) (cap := 8) C d4_15 (hw _ (List.mem_of_getElem? (i := 21) rfl)) (by decide) rfl (by decide) (by decide) (by decide) (by decide) rfl ?_
  intro h1 b1 g1 X1 A_b1 E_b1
  have ne_r_b1 : r ≠ b1 := Nat.ne_of_lt (g1 ▸ A_r.lt)
  replace A_r := A_r.ext X1
  have g_b1 : n0 ≤ b1 := g1 ▸ Z_
  have sz_b1 : h0.size ≤ b1 := g1 ▸ K_.1
  replace K_ := K_.ext X1
  replace Z_ := Nat.le_trans Z_ X1.1
  replace A_b1 : AJ Z h1 b1 [(0 : Int64), (0 : Int64), (0 : Int64), (0 : Int64), (0 : Int64), (0 : Int64), (0 : Int64), (0 : Int64)] := A_b1
  refine own_astoreN (pc' := 18) (Ls' := #[.val (.ref r), .val (.int (8 : Int32)), .val (.ref b1)]) C d4_17 rfl rfl rfl ?_
  refine own_aloadN (pc' := 19) C d4_18 rfl rfl rfl ?_
  refine own_iconst (pc' := 20) (v := (0 : Int32)) C d4_19 own_ki_0 rfl ?_
  refine own_aloadN (pc' := 21) C d4_20 rfl rfl rfl ?_
  refine own_iconst (pc' := 22) (v := (0 : Int32)) C d4_21 own_ki_0 rfl ?_
  refine own_aloadN (pc' := 23) C d4_22 rfl rfl rfl ?_
  refine own_lenJ (pc' := 24) (v := (4 : Int32)) C d4_23 A_r rfl rfl ?_
  refine own_iloadN (pc' := 25) C d4_24 rfl rfl ?_
  refine own_callS (pc' := 28) (wL := 4) (argsL := [(.int (4 : Int32)), (.int (8 : Int32))]) (rest := [(.int (0 : Int32)), (.ref b1), (.int (0 : Int32)), (.ref r)]) C (own_m5 l Z a0 hw (4 : Int32) (8 : Int32) h1 n0 Z_) d4_25 (hw _ (List.mem_of_getElem? (i := 27) rfl)) (hw _ (List.mem_of_getElem? (i := 28) rfl)) (hw _ (List.mem_of_getElem? (i := 29) rfl)) (hw _ (List.mem_of_getElem? (i := 30) rfl)) (by decide) (by decide) (by decide) rfl (lenOf pd5 rfl) rfl rfl (Nat.le_of_eq rfl) (by decide) (by decide) rfl ?_
  rintro _ _ ⟨rfl, rfl⟩
  rw [show (own_f5 (4 : Int32) (8 : Int32)) = (4 : Int32) from by decide]
  show Wp p l e _ s m _ below meth c n0 _ h1 (0 + 1) (0 + 8) (mkF m 28 #[.val (.ref r), .val (.int (8 : Int32)), .val (.ref b1)] [(.int (4 : Int32)), (.int (0 : Int32)), (.ref b1), (.int (0 : Int32)), (.ref r)])
  refine own_arraycopy (pc' := 31) (wL := 0) (cnt := 4) (zs := [x0_, x1_, x2_, x3_, (0 : Int64), (0 : Int64), (0 : Int64), (0 : Int64)]) C d4_28 (hw _ (List.mem_of_getElem? (i := 31) rfl)) (hw _ (List.mem_of_getElem? (i := 34) rfl)) (hw _ (List.mem_of_getElem? (i := 32) rfl)) (hw _ (List.mem_of_getElem? (i := 33) rfl)) A_r A_b1 (by decide) (Nat.le_of_ble_eq_true rfl) (Nat.le_of_ble_eq_true rfl) rfl g_b1 rfl (by decide) (Nat.le_of_eq rfl) (by decide) rfl ?_
  intro h2 K2 A2_
  replace A_r := A_r.keep K2 (ninS ne_r_b1 nin0)
  replace E_b1 := E_b1.keep K2
  replace Z_ := Nat.le_trans Z_ K2.1
  replace K_ := K_.trans K2 (allS (Or.inr sz_b1) all0)
  replace A_b1 := A2_
  refine own_aloadN (pc' := 32) C d4_31 rfl rfl rfl ?_
  refine own_aret C rfl rfl d4_32 (by decide) (by decide) ?_
  exact ⟨b1, rfl, sz_b1, K_, A_b1, E_b1⟩

theorem d1_0 : decode prog_58_method_1_code 0 = .ok (.aload_n 0, 1) := by decide +kernel
theorem d1_1 : decode prog_58_method_1_code 1 = .ok (.invokespecial 1, 3) := by decide +kernel
theorem d1_4 : decode prog_58_method_1_code 4 = .ok (.aload_n 0, 1) := by decide +kernel
theorem d1_5 : decode prog_58_method_1_code 5 = .ok (.iload_n 1, 1) := by decide +kernel
theorem d1_6 : decode prog_58_method_1_code 6 = .ok (.anewarray 7, 3) := by decide +kernel
theorem d1_9 : decode prog_58_method_1_code 9 = .ok (.putfield 9, 3) := by decide +kernel
theorem d1_12 : decode prog_58_method_1_code 12 = .ok (.aload_n 0, 1) := by decide +kernel
theorem d1_13 : decode prog_58_method_1_code 13 = .ok (.iload_n 1, 1) := by decide +kernel
theorem d1_14 : decode prog_58_method_1_code 14 = .ok (.newarray .int, 2) := by decide +kernel
theorem d1_16 : decode prog_58_method_1_code 16 = .ok (.putfield 15, 3) := by decide +kernel
theorem d1_19 : decode prog_58_method_1_code 19 = .ok (.return_, 1) := by decide +kernel
theorem pn1 : plainName "com/example/precedence/precedence/LongHeaps" = true := by first | (simp [plainName, overriddenIn]; done) | decide +kernel
theorem ef1 (m : MethodId) (x0 : Addr) (x1 : Int32) : entryFrame m #[(.ref x0), (.int x1)] 2 = mkF m 0 #[.val (.ref x0), .val (.int x1)] [] := by first | (simp [entryFrame, mkF, argsToLocals, Value.category]; done) | rfl
set_option maxRecDepth 65536 in
set_option maxHeartbeats 40000000 in
theorem own_newH (l : Launch) (Z : State) (a0 : Array Value) (hw : ∀ d ∈ tables_1, d.before a0 Z = true) (a : Addr)  (h0 : Heap) (n0 : Nat) (Z_ : n0 ≤ h0.size) (E_a : Exa Z h0 a "com/example/precedence/precedence/LongHeaps") (F_a_heaps : Fld Z h0 a "com/example/precedence/precedence/LongHeaps" "heaps" "[[J" .null) (F_a_sizes : Fld Z h0 a "com/example/precedence/precedence/LongHeaps" "sizes" "[I" .null) (g_a : n0 ≤ a) :
    Met l (⟨"com/example/precedence/precedence/LongHeaps", "<init>", "(I)V"⟩ : MethodName) prog_58_method_1_code 2 none [] ({ frames := 1, cells := 2, slots := 4, locals := 12 } : Room) Z n0 #[(.ref a), (.int (2 : Int32))] h0 (fun v h => v = none ∧ Keep h0 h [a] ∧ ∃ hp sz : Addr, h0.size ≤ hp ∧ h0.size ≤ sz ∧ hp ≠ sz ∧ Fld Z h a "com/example/precedence/precedence/LongHeaps" "heaps" "[[J" (.ref hp) ∧ Fld Z h a "com/example/precedence/precedence/LongHeaps" "sizes" "[I" (.ref sz) ∧ AR Z h hp [.null, .null] ∧ AI Z h sz .int [0, 0]) := by
  refine own_met pn1 (fun m => ef1 m a (2 : Int32)) ?_
  intro p e s m below meth c C
  have K_ : Keep h0 h0 [a] := Keep.refl _ _
  refine own_aloadN (pc' := 1) C d1_0 rfl rfl rfl ?_
  refine own_initO (pc' := 4) (wL := 0) C d1_1 (hw _ (List.mem_of_getElem? (i := 6) rfl)) (hw _ (List.mem_of_getElem? (i := 7) rfl)) (hw _ (List.mem_of_getElem? (i := 8) rfl)) rfl (by decide) (Nat.le_of_eq rfl) (by decide) rfl ?_
  refine own_aloadN (pc' := 5) C d1_4 rfl rfl rfl ?_
  refine own_iloadN (pc' := 6) C d1_5 rfl rfl ?_
  refine own_anewA (pc' := 9) (len := 2) (cap := 2) C d1_6 (hw _ (List.mem_of_getElem? (i := 9) rfl)) (hw _ (List.mem_of_getElem? (i := 10) rfl)) (by decide) rfl (by decide) (by decide) (by decide) (by decide) rfl ?_
  intro h1 b1 g1 X1 A_b1
  have ne_a_b1 : a ≠ b1 := Nat.ne_of_lt (g1 ▸ E_a.lt)
  replace E_a := E_a.ext X1
  replace F_a_heaps := F_a_heaps.ext X1
  replace F_a_sizes := F_a_sizes.ext X1
  have g_b1 : n0 ≤ b1 := g1 ▸ Z_
  have sz_b1 : h0.size ≤ b1 := g1 ▸ K_.1
  replace K_ := K_.ext X1
  replace Z_ := Nat.le_trans Z_ X1.1
  replace A_b1 : AR Z h1 b1 [.null, .null] := A_b1
  refine own_putfield (pc' := 12) C d1_9 (hw _ (List.mem_of_getElem? (i := 11) rfl)) F_a_heaps E_a (Or.inr ⟨(hw _ (List.mem_of_getElem? (i := 12) rfl)), rfl, rfl⟩) (hw _ (List.mem_of_getElem? (i := 1) rfl)) (ty := (.array (.array .long))) (by decide) rfl rfl g_a rfl ?_
  intro h2 W2 F2_
  replace E_a := E_a.wr W2
  replace F_a_sizes := F_a_sizes.other W2 (Or.inr (slot_ne (Or.inr (hw _ (List.mem_of_getElem? (i := 15) rfl))) (Or.inr (hw _ (List.mem_of_getElem? (i := 12) rfl))) (by decide) (t := (.array .int)) (t' := (.array (.array .long))) (by decide) (by decide)))
  replace A_b1 := A_b1.other W2 (Ne.symm ne_a_b1)
  replace F_a_heaps := F2_
  replace Z_ : n0 ≤ _ := Nat.le_trans Z_ (Nat.le_of_eq W2.size.symm)
  replace K_ := K_.wr W2 (Or.inl (List.mem_of_getElem? (i := 0) rfl))
  refine own_aloadN (pc' := 13) C d1_12 rfl rfl rfl ?_
  refine own_iloadN (pc' := 14) C d1_13 rfl rfl ?_
  refine own_newI (pc' := 16) (len := 2) (cap := 2) C d1_14 rfl rfl (hw _ (List.mem_of_getElem? (i := 13) rfl)) (by decide) rfl (by decide) (by decide) (by decide) (by decide) rfl ?_
  intro h3 b3 g3 X3 A_b3
  have ne_a_b3 : a ≠ b3 := Nat.ne_of_lt (g3 ▸ E_a.lt)
  have ne_b1_b3 : b1 ≠ b3 := Nat.ne_of_lt (g3 ▸ A_b1.lt)
  replace E_a := E_a.ext X3
  replace F_a_heaps := F_a_heaps.ext X3
  replace F_a_sizes := F_a_sizes.ext X3
  replace A_b1 := A_b1.ext X3
  have g_b3 : n0 ≤ b3 := g3 ▸ Z_
  have sz_b3 : h0.size ≤ b3 := g3 ▸ K_.1
  replace K_ := K_.ext X3
  replace Z_ := Nat.le_trans Z_ X3.1
  replace A_b3 : AI Z h3 b3 .int [(0 : Int32), (0 : Int32)] := A_b3
  refine own_putfield (pc' := 19) C d1_16 (hw _ (List.mem_of_getElem? (i := 14) rfl)) F_a_sizes E_a (Or.inr ⟨(hw _ (List.mem_of_getElem? (i := 15) rfl)), rfl, rfl⟩) (hw _ (List.mem_of_getElem? (i := 1) rfl)) (ty := (.array .int)) (by decide) rfl rfl g_a rfl ?_
  intro h4 W4 F4_
  replace E_a := E_a.wr W4
  replace F_a_heaps := F_a_heaps.other W4 (Or.inr (slot_ne (Or.inr (hw _ (List.mem_of_getElem? (i := 12) rfl))) (Or.inr (hw _ (List.mem_of_getElem? (i := 15) rfl))) (by decide) (t := (.array (.array .long))) (t' := (.array .int)) (by decide) (by decide)))
  replace A_b1 := A_b1.other W4 (Ne.symm ne_a_b1)
  replace A_b3 := A_b3.other W4 (Ne.symm ne_a_b3)
  replace F_a_sizes := F4_
  replace Z_ : n0 ≤ _ := Nat.le_trans Z_ (Nat.le_of_eq W4.size.symm)
  replace K_ := K_.wr W4 (Or.inl (List.mem_of_getElem? (i := 0) rfl))
  refine own_vret C d1_19 (by decide) (by decide) ?_
  exact ⟨rfl, K_, b1, b3, sz_b1, sz_b3, ne_b1_b3, F_a_heaps, F_a_sizes, A_b1, A_b3⟩

theorem d3_0 : decode prog_58_method_3_code 0 = .ok (.aload_n 0, 1) := by decide +kernel
theorem d3_1 : decode prog_58_method_3_code 1 = .ok (.getfield 9, 3) := by decide +kernel
theorem d3_4 : decode prog_58_method_3_code 4 = .ok (.iload_n 1, 1) := by decide +kernel
theorem d3_5 : decode prog_58_method_3_code 5 = .ok (.aaload, 1) := by decide +kernel
theorem d3_6 : decode prog_58_method_3_code 6 = .ok (.astore 4, 2) := by decide +kernel
theorem d3_8 : decode prog_58_method_3_code 8 = .ok (.aload_n 0, 1) := by decide +kernel
theorem d3_9 : decode prog_58_method_3_code 9 = .ok (.getfield 15, 3) := by decide +kernel
theorem d3_12 : decode prog_58_method_3_code 12 = .ok (.iload_n 1, 1) := by decide +kernel
theorem d3_13 : decode prog_58_method_3_code 13 = .ok (.dup2, 1) := by decide +kernel
theorem d3_14 : decode prog_58_method_3_code 14 = .ok (.iaload, 1) := by decide +kernel
theorem d3_15 : decode prog_58_method_3_code 15 = .ok (.dup_x2, 1) := by decide +kernel
theorem d3_16 : decode prog_58_method_3_code 16 = .ok (.iconst 1, 1) := by decide +kernel
theorem d3_17 : decode prog_58_method_3_code 17 = .ok (.iadd, 1) := by decide +kernel
theorem d3_18 : decode prog_58_method_3_code 18 = .ok (.iastore, 1) := by decide +kernel
theorem d3_19 : decode prog_58_method_3_code 19 = .ok (.istore 5, 2) := by decide +kernel
theorem d3_21 : decode prog_58_method_3_code 21 = .ok (.aload 4, 2) := by decide +kernel
theorem d3_23 : decode prog_58_method_3_code 23 = .ok (.ifnull 11, 3) := by decide +kernel
theorem d3_34 : decode prog_58_method_3_code 34 = .ok (.aload 4, 2) := by decide +kernel
theorem d3_36 : decode prog_58_method_3_code 36 = .ok (.ifnonnull 9, 3) := by decide +kernel
theorem d3_39 : decode prog_58_method_3_code 39 = .ok (.iconst 4, 1) := by decide +kernel
theorem d3_40 : decode prog_58_method_3_code 40 = .ok (.newarray .long, 2) := by decide +kernel
theorem d3_42 : decode prog_58_method_3_code 42 = .ok (.goto 12, 3) := by decide +kernel
theorem d3_54 : decode prog_58_method_3_code 54 = .ok (.astore 4, 2) := by decide +kernel
theorem d3_56 : decode prog_58_method_3_code 56 = .ok (.aload_n 0, 1) := by decide +kernel
theorem d3_57 : decode prog_58_method_3_code 57 = .ok (.getfield 9, 3) := by decide +kernel
theorem d3_60 : decode prog_58_method_3_code 60 = .ok (.iload_n 1, 1) := by decide +kernel
theorem d3_61 : decode prog_58_method_3_code 61 = .ok (.aload 4, 2) := by decide +kernel
theorem d3_63 : decode prog_58_method_3_code 63 = .ok (.aastore, 1) := by decide +kernel
theorem d3_64 : decode prog_58_method_3_code 64 = .ok (.iload 5, 2) := by decide +kernel
theorem d3_66 : decode prog_58_method_3_code 66 = .ok (.ifCond .le 42, 3) := by decide +kernel
theorem d3_108 : decode prog_58_method_3_code 108 = .ok (.aload 4, 2) := by decide +kernel
theorem d3_110 : decode prog_58_method_3_code 110 = .ok (.iload 5, 2) := by decide +kernel
theorem d3_112 : decode prog_58_method_3_code 112 = .ok (.lload_n 2, 1) := by decide +kernel
theorem d3_113 : decode prog_58_method_3_code 113 = .ok (.lastore, 1) := by decide +kernel
theorem d3_114 : decode prog_58_method_3_code 114 = .ok (.return_, 1) := by decide +kernel
theorem pn3 : plainName "com/example/precedence/precedence/LongHeaps" = true := by first | (simp [plainName, overriddenIn]; done) | decide +kernel
theorem ef3 (m : MethodId) (x0 : Addr) (x1 : Int32) (x2 : Int64) : entryFrame m #[(.ref x0), (.int x1), (.long x2)] 6 = mkF m 0 #[.val (.ref x0), .val (.int x1), .val (.long x2), .second, .unset, .unset] [] := by first | (simp [entryFrame, mkF, argsToLocals, Value.category]; done) | rfl
theorem own_ki_1 : Int32.ofInt (1) = (1 : Int32) := by decide
theorem own_ki_4 : Int32.ofInt (4) = (4 : Int32) := by decide
set_option maxRecDepth 65536 in
set_option maxHeartbeats 40000000 in
theorem own_add0_0 (l : Launch) (Z : State) (a0 : Array Value) (hw : ∀ d ∈ tables_1, d.before a0 Z = true) (a : Addr) (q : Int64) (hp sz : Addr) (h0 : Heap) (n0 : Nat) (Z_ : n0 ≤ h0.size) (E_a : Exa Z h0 a "com/example/precedence/precedence/LongHeaps") (F_a_heaps : Fld Z h0 a "com/example/precedence/precedence/LongHeaps" "heaps" "[[J" (.ref hp)) (F_a_sizes : Fld Z h0 a "com/example/precedence/precedence/LongHeaps" "sizes" "[I" (.ref sz)) (g_a : n0 ≤ a) (A_hp : AR Z h0 hp [.null, .null]) (A_sz : AI Z h0 sz .int [(0 : Int32), (0 : Int32)]) (g_hp : n0 ≤ hp) (g_sz : n0 ≤ sz) (ne_a_hp : a ≠ hp) (ne_a_sz : a ≠ sz) (ne_hp_sz : hp ≠ sz) :
    Met l (⟨"com/example/precedence/precedence/LongHeaps", "add", "(IJ)V"⟩ : MethodName) prog_58_method_3_code 6 none [] ({ frames := 0, cells := 1, slots := 4, locals := 0 } : Room) Z n0 #[(.ref a), (.int (0 : Int32)), (.long q)] h0 (fun v h => v = none ∧ Keep h0 h [hp, sz] ∧ ∃ g' : Addr, h0.size ≤ g' ∧ AR Z h hp [(.ref g'), .null] ∧ AI Z h sz .int [(1 : Int32), (0 : Int32)] ∧ Exa Z h g' "[J" ∧ AJ Z h g' [q, (0 : Int64), (0 : Int64), (0 : Int64)]) := by
  refine own_met pn3 (fun m => ef3 m a (0 : Int32) q) ?_
  intro p e s m below meth c C
  have K_ : Keep h0 h0 [hp, sz] := Keep.refl _ _
  refine own_aloadN (pc' := 1) C d3_0 rfl rfl rfl ?_
  refine own_getfield (pc' := 4) C d3_1 (hw _ (List.mem_of_getElem? (i := 11) rfl)) F_a_heaps rfl ?_
  refine own_iloadN (pc' := 5) C d3_4 rfl rfl ?_
  refine own_aaload (pc' := 6) (v := .null) (i := 0) C d3_5 A_hp (by decide) rfl rfl rfl ?_
  refine own_astore (pc' := 8) (Ls' := #[.val (.ref a), .val (.int (0 : Int32)), .val (.long q), .second, .val .null, .unset]) C d3_6 rfl rfl rfl ?_
  refine own_aloadN (pc' := 9) C d3_8 rfl rfl rfl ?_
  refine own_getfield (pc' := 12) C d3_9 (hw _ (List.mem_of_getElem? (i := 14) rfl)) F_a_sizes rfl ?_
  refine own_iloadN (pc' := 13) C d3_12 rfl rfl ?_
  refine own_dup2 (pc' := 14) C d3_13 rfl rfl rfl ?_
  refine own_iaload (pc' := 15) (v := (0 : Int32)) (i := 0) C d3_14 A_sz (by decide) rfl rfl rfl ?_
  refine own_dupX2 (pc' := 16) C d3_15 rfl rfl rfl rfl ?_
  refine own_iconst (pc' := 17) (v := (1 : Int32)) C d3_16 own_ki_1 rfl ?_
  refine own_iadd (pc' := 18) (v := (1 : Int32)) C d3_17 (by decide) rfl ?_
  refine own_iastore (pc' := 19) (i := 0) (ys := [(1 : Int32), (0 : Int32)]) C d3_18 A_sz (by decide) rfl (Nat.le_of_ble_eq_true rfl) rfl g_sz rfl ?_
  intro h1 W1 A1_
  replace E_a := E_a.wr W1
  replace F_a_heaps := F_a_heaps.other W1 (Or.inl ne_a_sz)
  replace F_a_sizes := F_a_sizes.other W1 (Or.inl ne_a_sz)
  replace A_hp := A_hp.other W1 ne_hp_sz
  replace A_sz := A1_
  replace Z_ : n0 ≤ _ := Nat.le_trans Z_ (Nat.le_of_eq W1.size.symm)
  replace K_ := K_.wr W1 (Or.inl (List.mem_of_getElem? (i := 1) rfl))
  refine own_istore (pc' := 21) (y := (0 : Int32)) (Ls' := #[.val (.ref a), .val (.int (0 : Int32)), .val (.long q), .second, .val .null, .val (.int (0 : Int32))]) C d3_19 rfl rfl rfl ?_
  refine own_aload (pc' := 23) C d3_21 rfl rfl rfl ?_
  refine own_ifnull_y (pt := 34) C d3_23 (by decide) (by decide) ?_
  refine own_aload (pc' := 36) C d3_34 rfl rfl rfl ?_
  refine own_ifnonnull_n (pc' := 39) C d3_36 rfl ?_
  refine own_iconst (pc' := 40) (v := (4 : Int32)) C d3_39 own_ki_4 rfl ?_
  refine own_newJE (pc' := 42) (len := 4) (cap := 4) C d3_40 (hw _ (List.mem_of_getElem? (i := 21) rfl)) (by decide) rfl (by decide) (by decide) (by decide) (by decide) rfl ?_
  intro h2 b2 g2 X2 A_b2 E_b2
  have ne_a_b2 : a ≠ b2 := Nat.ne_of_lt (g2 ▸ E_a.lt)
  have ne_hp_b2 : hp ≠ b2 := Nat.ne_of_lt (g2 ▸ A_hp.lt)
  have ne_sz_b2 : sz ≠ b2 := Nat.ne_of_lt (g2 ▸ A_sz.lt)
  replace E_a := E_a.ext X2
  replace F_a_heaps := F_a_heaps.ext X2
  replace F_a_sizes := F_a_sizes.ext X2
  replace A_hp := A_hp.ext X2
  replace A_sz := A_sz.ext X2
  have g_b2 : n0 ≤ b2 := g2 ▸ Z_
  have sz_b2 : h0.size ≤ b2 := g2 ▸ K_.1
  replace K_ := K_.ext X2
  replace Z_ := Nat.le_trans Z_ X2.1
  replace A_b2 : AJ Z h2 b2 [(0 : Int64), (0 : Int64), (0 : Int64), (0 : Int64)] := A_b2
  refine own_goto (pc' := 54) C d3_42 (by decide) (by decide) ?_
  refine own_astore (pc' := 56) (Ls' := #[.val (.ref a), .val (.int (0 : Int32)), .val (.long q), .second, .val (.ref b2), .val (.int (0 : Int32))]) C d3_54 rfl rfl rfl ?_
  refine own_aloadN (pc' := 57) C d3_56 rfl rfl rfl ?_
  refine own_getfield (pc' := 60) C d3_57 (hw _ (List.mem_of_getElem? (i := 11) rfl)) F_a_heaps rfl ?_
  refine own_iloadN (pc' := 61) C d3_60 rfl rfl ?_
  refine own_aload (pc' := 63) C d3_61 rfl rfl rfl ?_
  refine own_aastore (pc' := 64) (i := 0) (ys := [(.ref b2), .null]) C d3_63 A_hp E_b2 (by decide) rfl (Nat.le_of_ble_eq_true rfl) rfl g_hp rfl ?_
  intro h3 W3 A3_
  replace E_a := E_a.wr W3
  replace F_a_heaps := F_a_heaps.other W3 (Or.inl ne_a_hp)
  replace F_a_sizes := F_a_sizes.other W3 (Or.inl ne_a_hp)
  replace A_sz := A_sz.other W3 (Ne.symm ne_hp_sz)
  replace A_b2 := A_b2.other W3 (Ne.symm ne_hp_b2)
  replace E_b2 := E_b2.wr W3
  replace A_hp := A3_
  replace Z_ : n0 ≤ _ := Nat.le_trans Z_ (Nat.le_of_eq W3.size.symm)
  replace K_ := K_.wr W3 (Or.inl (List.mem_of_getElem? (i := 0) rfl))
  refine own_iload (pc' := 66) C d3_64 rfl rfl ?_
  refine own_if_le (pt := 108) (pf := 69) C d3_66 (by decide) (by decide) rfl (fun _ => ?_) (fun q => absurd q (by decide))
  refine own_aload (pc' := 110) C d3_108 rfl rfl rfl ?_
  refine own_iload (pc' := 112) C d3_110 rfl rfl ?_
  refine own_lloadN (pc' := 113) C d3_112 rfl rfl ?_
  refine own_lastore (pc' := 114) (i := 0) (ys := [q, (0 : Int64), (0 : Int64), (0 : Int64)]) C d3_113 A_b2 (by decide) rfl (Nat.le_of_ble_eq_true rfl) rfl g_b2 rfl ?_
  intro h4 W4 A4_
  replace E_a := E_a.wr W4
  replace F_a_heaps := F_a_heaps.other W4 (Or.inl ne_a_b2)
  replace F_a_sizes := F_a_sizes.other W4 (Or.inl ne_a_b2)
  replace A_hp := A_hp.other W4 ne_hp_b2
  replace A_sz := A_sz.other W4 ne_sz_b2
  replace E_b2 := E_b2.wr W4
  replace A_b2 := A4_
  replace Z_ : n0 ≤ _ := Nat.le_trans Z_ (Nat.le_of_eq W4.size.symm)
  replace K_ := K_.wr W4 (Or.inr sz_b2)
  refine own_vret C d3_114 (by decide) (by decide) ?_
  exact ⟨rfl, K_, b2, sz_b2, A_hp, A_sz, E_b2, A_b2⟩

theorem d3_26 : decode prog_58_method_3_code 26 = .ok (.iload 5, 2) := by decide +kernel
theorem d3_28 : decode prog_58_method_3_code 28 = .ok (.aload 4, 2) := by decide +kernel
theorem d3_30 : decode prog_58_method_3_code 30 = .ok (.arraylength, 1) := by decide +kernel
theorem d3_31 : decode prog_58_method_3_code 31 = .ok (.if_icmp .ne 33, 3) := by decide +kernel
theorem d3_69 : decode prog_58_method_3_code 69 = .ok (.aload 4, 2) := by decide +kernel
theorem d3_71 : decode prog_58_method_3_code 71 = .ok (.iload 5, 2) := by decide +kernel
theorem d3_73 : decode prog_58_method_3_code 73 = .ok (.iconst 1, 1) := by decide +kernel
theorem d3_74 : decode prog_58_method_3_code 74 = .ok (.isub, 1) := by decide +kernel
theorem d3_75 : decode prog_58_method_3_code 75 = .ok (.iconst 2, 1) := by decide +kernel
theorem d3_76 : decode prog_58_method_3_code 76 = .ok (.idiv, 1) := by decide +kernel
theorem d3_77 : decode prog_58_method_3_code 77 = .ok (.laload, 1) := by decide +kernel
theorem d3_78 : decode prog_58_method_3_code 78 = .ok (.lload_n 2, 1) := by decide +kernel
theorem d3_79 : decode prog_58_method_3_code 79 = .ok (.lcmp, 1) := by decide +kernel
theorem d3_80 : decode prog_58_method_3_code 80 = .ok (.ifCond .le 28, 3) := by decide +kernel
theorem d3_83 : decode prog_58_method_3_code 83 = .ok (.aload 4, 2) := by decide +kernel
theorem d3_85 : decode prog_58_method_3_code 85 = .ok (.iload 5, 2) := by decide +kernel
theorem d3_87 : decode prog_58_method_3_code 87 = .ok (.aload 4, 2) := by decide +kernel
theorem d3_89 : decode prog_58_method_3_code 89 = .ok (.iload 5, 2) := by decide +kernel
theorem d3_91 : decode prog_58_method_3_code 91 = .ok (.iconst 1, 1) := by decide +kernel
theorem d3_92 : decode prog_58_method_3_code 92 = .ok (.isub, 1) := by decide +kernel
theorem d3_93 : decode prog_58_method_3_code 93 = .ok (.iconst 2, 1) := by decide +kernel
theorem d3_94 : decode prog_58_method_3_code 94 = .ok (.idiv, 1) := by decide +kernel
theorem d3_95 : decode prog_58_method_3_code 95 = .ok (.laload, 1) := by decide +kernel
theorem d3_96 : decode prog_58_method_3_code 96 = .ok (.lastore, 1) := by decide +kernel
theorem d3_97 : decode prog_58_method_3_code 97 = .ok (.iload 5, 2) := by decide +kernel
theorem d3_99 : decode prog_58_method_3_code 99 = .ok (.iconst 1, 1) := by decide +kernel
theorem d3_100 : decode prog_58_method_3_code 100 = .ok (.isub, 1) := by decide +kernel
theorem d3_101 : decode prog_58_method_3_code 101 = .ok (.iconst 2, 1) := by decide +kernel
theorem d3_102 : decode prog_58_method_3_code 102 = .ok (.idiv, 1) := by decide +kernel
theorem d3_103 : decode prog_58_method_3_code 103 = .ok (.istore 5, 2) := by decide +kernel
theorem d3_105 : decode prog_58_method_3_code 105 = .ok (.goto (-41), 3) := by decide +kernel
theorem own_ki_2 : Int32.ofInt (2) = (2 : Int32) := by decide
set_option maxRecDepth 65536 in
set_option maxHeartbeats 40000000 in
theorem own_add0_1 (l : Launch) (Z : State) (a0 : Array Value) (hw : ∀ d ∈ tables_1, d.before a0 Z = true) (a : Addr) (q : Int64) (hp sz g : Addr) (x0_ x1_ x2_ x3_ : Int64) (h0 : Heap) (n0 : Nat) (Z_ : n0 ≤ h0.size) (E_a : Exa Z h0 a "com/example/precedence/precedence/LongHeaps") (F_a_heaps : Fld Z h0 a "com/example/precedence/precedence/LongHeaps" "heaps" "[[J" (.ref hp)) (F_a_sizes : Fld Z h0 a "com/example/precedence/precedence/LongHeaps" "sizes" "[I" (.ref sz)) (g_a : n0 ≤ a) (A_hp : AR Z h0 hp [(.ref g), .null]) (A_sz : AI Z h0 sz .int [(1 : Int32), (0 : Int32)]) (g_hp : n0 ≤ hp) (g_sz : n0 ≤ sz) (ne_a_hp : a ≠ hp) (ne_a_sz : a ≠ sz) (ne_hp_sz : hp ≠ sz) (A_g : AJ Z h0 g [x0_, x1_, x2_, x3_]) (E_g : Exa Z h0 g "[J") (g_g : n0 ≤ g) (ne_a_g : a ≠ g) (ne_hp_g : hp ≠ g) (ne_sz_g : sz ≠ g) :
    Met l (⟨"com/example/precedence/precedence/LongHeaps", "add", "(IJ)V"⟩ : MethodName) prog_58_method_3_code 6 none [] ({ frames := 0, cells := 0, slots := 0, locals := 0 } : Room) Z n0 #[(.ref a), (.int (0 : Int32)), (.long q)] h0 (fun v h => v = none ∧ Keep h0 h [sz, g] ∧ AI Z h sz .int [(2 : Int32), (0 : Int32)] ∧ AJ Z h g [(own_p1 own_lt x0_ q).1, (own_p1 own_lt x0_ q).2, x2_, x3_]) := by
  refine own_met pn3 (fun m => ef3 m a (0 : Int32) q) ?_
  intro p e s m below meth c C
  have K_ : Keep h0 h0 [sz, g] := Keep.refl _ _
  refine own_aloadN (pc' := 1) C d3_0 rfl rfl rfl ?_
  refine own_getfield (pc' := 4) C d3_1 (hw _ (List.mem_of_getElem? (i := 11) rfl)) F_a_heaps rfl ?_
  refine own_iloadN (pc' := 5) C d3_4 rfl rfl ?_
  refine own_aaload (pc' := 6) (v := (.ref g)) (i := 0) C d3_5 A_hp (by decide) rfl rfl rfl ?_
  refine own_astore (pc' := 8) (Ls' := #[.val (.ref a), .val (.int (0 : Int32)), .val (.long q), .second, .val (.ref g), .unset]) C d3_6 rfl rfl rfl ?_
  refine own_aloadN (pc' := 9) C d3_8 rfl rfl rfl ?_
  refine own_getfield (pc' := 12) C d3_9 (hw _ (List.mem_of_getElem? (i := 14) rfl)) F_a_sizes rfl ?_
  refine own_iloadN (pc' := 13) C d3_12 rfl rfl ?_
  refine own_dup2 (pc' := 14) C d3_13 rfl rfl rfl ?_
  refine own_iaload (pc' := 15) (v := (1 : Int32)) (i := 0) C d3_14 A_sz (by decide) rfl rfl rfl ?_
  refine own_dupX2 (pc' := 16) C d3_15 rfl rfl rfl rfl ?_
  refine own_iconst (pc' := 17) (v := (1 : Int32)) C d3_16 own_ki_1 rfl ?_
  refine own_iadd (pc' := 18) (v := (2 : Int32)) C d3_17 (by decide) rfl ?_
  refine own_iastore (pc' := 19) (i := 0) (ys := [(2 : Int32), (0 : Int32)]) C d3_18 A_sz (by decide) rfl (Nat.le_of_ble_eq_true rfl) rfl g_sz rfl ?_
  intro h1 W1 A1_
  replace E_a := E_a.wr W1
  replace F_a_heaps := F_a_heaps.other W1 (Or.inl ne_a_sz)
  replace F_a_sizes := F_a_sizes.other W1 (Or.inl ne_a_sz)
  replace A_hp := A_hp.other W1 ne_hp_sz
  replace A_g := A_g.other W1 (Ne.symm ne_sz_g)
  replace E_g := E_g.wr W1
  replace A_sz := A1_
  replace Z_ : n0 ≤ _ := Nat.le_trans Z_ (Nat.le_of_eq W1.size.symm)
  replace K_ := K_.wr W1 (Or.inl (List.mem_of_getElem? (i := 0) rfl))
  refine own_istore (pc' := 21) (y := (1 : Int32)) (Ls' := #[.val (.ref a), .val (.int (0 : Int32)), .val (.long q), .second, .val (.ref g), .val (.int (1 : Int32))]) C d3_19 rfl rfl rfl ?_
  refine own_aload (pc' := 23) C d3_21 rfl rfl rfl ?_
  refine own_ifnull_n (pc' := 26) C d3_23 rfl ?_
  refine own_iload (pc' := 28) C d3_26 rfl rfl ?_
  refine own_aload (pc' := 30) C d3_28 rfl rfl rfl ?_
  refine own_lenJ (pc' := 31) (v := (4 : Int32)) C d3_30 A_g rfl rfl ?_
  refine own_icmp_ne (pt := 64) (pf := 34) C d3_31 (by decide) (by decide) rfl (fun _ => ?_) (fun q => absurd q (by decide))
  refine own_iload (pc' := 66) C d3_64 rfl rfl ?_
  refine own_if_le (pt := 108) (pf := 69) C d3_66 (by decide) (by decide) rfl (fun q => absurd (by decide) q) (fun _ => ?_)
  refine own_aload (pc' := 71) C d3_69 rfl rfl rfl ?_
  refine own_iload (pc' := 73) C d3_71 rfl rfl ?_
  refine own_iconst (pc' := 74) (v := (1 : Int32)) C d3_73 own_ki_1 rfl ?_
  refine own_isub (pc' := 75) (v := (0 : Int32)) C d3_74 (by decide) rfl ?_
  refine own_iconst (pc' := 76) (v := (2 : Int32)) C d3_75 own_ki_2 rfl ?_
  refine own_idiv (pc' := 77) (v := (0 : Int32)) C d3_76 (by decide) (by decide) rfl ?_
  refine own_laload (pc' := 78) (v := x0_) (i := 0) C d3_77 A_g (by decide) rfl rfl rfl ?_
  refine own_lloadN (pc' := 79) C d3_78 rfl rfl ?_
  refine own_lcmp_le (pt := 108) (pf := 83) C d3_79 rfl d3_80 (by decide) (by decide) rfl ?_ ?_
  · intro hc79
    refine own_aload (pc' := 110) C d3_108 rfl rfl rfl ?_
    refine own_iload (pc' := 112) C d3_110 rfl rfl ?_
    refine own_lloadN (pc' := 113) C d3_112 rfl rfl ?_
    refine own_lastore (pc' := 114) (i := 1) (ys := [x0_, q, x2_, x3_]) C d3_113 A_g (by decide) rfl (Nat.le_of_ble_eq_true rfl) rfl g_g rfl ?_
    intro h2 W2 A2_
    replace E_a := E_a.wr W2
    replace F_a_heaps := F_a_heaps.other W2 (Or.inl ne_a_g)
    replace F_a_sizes := F_a_sizes.other W2 (Or.inl ne_a_g)
    replace A_hp := A_hp.other W2 ne_hp_g
    replace A_sz := A_sz.other W2 ne_sz_g
    replace E_g := E_g.wr W2
    replace A_g := A2_
    replace Z_ : n0 ≤ _ := Nat.le_trans Z_ (Nat.le_of_eq W2.size.symm)
    replace K_ := K_.wr W2 (Or.inl (List.mem_of_getElem? (i := 1) rfl))
    refine own_vret C d3_114 (by decide) (by decide) ?_
    have l_hc79 : own_lt q x0_ = false := by simp [own_lt, hc79]
    refine ⟨rfl, K_, A_sz, ?_⟩
    simp only [own_p1, l_hc79, if_true, if_false, Bool.false_eq_true]; exact A_g
  · intro hc79
    refine own_aload (pc' := 85) C d3_83 rfl rfl rfl ?_
    refine own_iload (pc' := 87) C d3_85 rfl rfl ?_
    refine own_aload (pc' := 89) C d3_87 rfl rfl rfl ?_
    refine own_iload (pc' := 91) C d3_89 rfl rfl ?_
    refine own_iconst (pc' := 92) (v := (1 : Int32)) C d3_91 own_ki_1 rfl ?_
    refine own_isub (pc' := 93) (v := (0 : Int32)) C d3_92 (by decide) rfl ?_
    refine own_iconst (pc' := 94) (v := (2 : Int32)) C d3_93 own_ki_2 rfl ?_
    refine own_idiv (pc' := 95) (v := (0 : Int32)) C d3_94 (by decide) (by decide) rfl ?_
    refine own_laload (pc' := 96) (v := x0_) (i := 0) C d3_95 A_g (by decide) rfl rfl rfl ?_
    refine own_lastore (pc' := 97) (i := 1) (ys := [x0_, x0_, x2_, x3_]) C d3_96 A_g (by decide) rfl (Nat.le_of_ble_eq_true rfl) rfl g_g rfl ?_
    intro h2 W2 A2_
    replace E_a := E_a.wr W2
    replace F_a_heaps := F_a_heaps.other W2 (Or.inl ne_a_g)
    replace F_a_sizes := F_a_sizes.other W2 (Or.inl ne_a_g)
    replace A_hp := A_hp.other W2 ne_hp_g
    replace A_sz := A_sz.other W2 ne_sz_g
    replace E_g := E_g.wr W2
    replace A_g := A2_
    replace Z_ : n0 ≤ _ := Nat.le_trans Z_ (Nat.le_of_eq W2.size.symm)
    replace K_ := K_.wr W2 (Or.inl (List.mem_of_getElem? (i := 1) rfl))
    refine own_iload (pc' := 99) C d3_97 rfl rfl ?_
    refine own_iconst (pc' := 100) (v := (1 : Int32)) C d3_99 own_ki_1 rfl ?_
    refine own_isub (pc' := 101) (v := (0 : Int32)) C d3_100 (by decide) rfl ?_
    refine own_iconst (pc' := 102) (v := (2 : Int32)) C d3_101 own_ki_2 rfl ?_
    refine own_idiv (pc' := 103) (v := (0 : Int32)) C d3_102 (by decide) (by decide) rfl ?_
    refine own_istore (pc' := 105) (y := (0 : Int32)) (Ls' := #[.val (.ref a), .val (.int (0 : Int32)), .val (.long q), .second, .val (.ref g), .val (.int (0 : Int32))]) C d3_103 rfl rfl rfl ?_
    refine own_goto (pc' := 64) C d3_105 (by decide) (by decide) ?_
    refine own_iload (pc' := 66) C d3_64 rfl rfl ?_
    refine own_if_le (pt := 108) (pf := 69) C d3_66 (by decide) (by decide) rfl (fun _ => ?_) (fun q => absurd q (by decide))
    refine own_aload (pc' := 110) C d3_108 rfl rfl rfl ?_
    refine own_iload (pc' := 112) C d3_110 rfl rfl ?_
    refine own_lloadN (pc' := 113) C d3_112 rfl rfl ?_
    refine own_lastore (pc' := 114) (i := 0) (ys := [q, x0_, x2_, x3_]) C d3_113 A_g (by decide) rfl (Nat.le_of_ble_eq_true rfl) rfl g_g rfl ?_
    intro h3 W3 A3_
    replace E_a := E_a.wr W3
    replace F_a_heaps := F_a_heaps.other W3 (Or.inl ne_a_g)
    replace F_a_sizes := F_a_sizes.other W3 (Or.inl ne_a_g)
    replace A_hp := A_hp.other W3 ne_hp_g
    replace A_sz := A_sz.other W3 ne_sz_g
    replace E_g := E_g.wr W3
    replace A_g := A3_
    replace Z_ : n0 ≤ _ := Nat.le_trans Z_ (Nat.le_of_eq W3.size.symm)
    replace K_ := K_.wr W3 (Or.inl (List.mem_of_getElem? (i := 1) rfl))
    refine own_vret C d3_114 (by decide) (by decide) ?_
    have l_hc79 : own_lt q x0_ = true := by simp [own_lt, hc79]
    refine ⟨rfl, K_, A_sz, ?_⟩
    simp only [own_p1, l_hc79, if_true, if_false, Bool.false_eq_true]; exact A_g

set_option maxRecDepth 65536 in
set_option maxHeartbeats 40000000 in
theorem own_add0_2 (l : Launch) (Z : State) (a0 : Array Value) (hw : ∀ d ∈ tables_1, d.before a0 Z = true) (a : Addr) (q : Int64) (hp sz g : Addr) (x0_ x1_ x2_ x3_ : Int64) (h0 : Heap) (n0 : Nat) (Z_ : n0 ≤ h0.size) (E_a : Exa Z h0 a "com/example/precedence/precedence/LongHeaps") (F_a_heaps : Fld Z h0 a "com/example/precedence/precedence/LongHeaps" "heaps" "[[J" (.ref hp)) (F_a_sizes : Fld Z h0 a "com/example/precedence/precedence/LongHeaps" "sizes" "[I" (.ref sz)) (g_a : n0 ≤ a) (A_hp : AR Z h0 hp [(.ref g), .null]) (A_sz : AI Z h0 sz .int [(2 : Int32), (0 : Int32)]) (g_hp : n0 ≤ hp) (g_sz : n0 ≤ sz) (ne_a_hp : a ≠ hp) (ne_a_sz : a ≠ sz) (ne_hp_sz : hp ≠ sz) (A_g : AJ Z h0 g [x0_, x1_, x2_, x3_]) (E_g : Exa Z h0 g "[J") (g_g : n0 ≤ g) (ne_a_g : a ≠ g) (ne_hp_g : hp ≠ g) (ne_sz_g : sz ≠ g) :
    Met l (⟨"com/example/precedence/precedence/LongHeaps", "add", "(IJ)V"⟩ : MethodName) prog_58_method_3_code 6 none [] ({ frames := 0, cells := 0, slots := 0, locals := 0 } : Room) Z n0 #[(.ref a), (.int (0 : Int32)), (.long q)] h0 (fun v h => v = none ∧ Keep h0 h [sz, g] ∧ AI Z h sz .int [(3 : Int32), (0 : Int32)] ∧ AJ Z h g [(own_p2 own_lt x0_ x1_ q).1, (own_p2 own_lt x0_ x1_ q).2.1, (own_p2 own_lt x0_ x1_ q).2.2, x3_]) := by
  refine own_met pn3 (fun m => ef3 m a (0 : Int32) q) ?_
  intro p e s m below meth c C
  have K_ : Keep h0 h0 [sz, g] := Keep.refl _ _
  refine own_aloadN (pc' := 1) C d3_0 rfl rfl rfl ?_
  refine own_getfield (pc' := 4) C d3_1 (hw _ (List.mem_of_getElem? (i := 11) rfl)) F_a_heaps rfl ?_
  refine own_iloadN (pc' := 5) C d3_4 rfl rfl ?_
  refine own_aaload (pc' := 6) (v := (.ref g)) (i := 0) C d3_5 A_hp (by decide) rfl rfl rfl ?_
  refine own_astore (pc' := 8) (Ls' := #[.val (.ref a), .val (.int (0 : Int32)), .val (.long q), .second, .val (.ref g), .unset]) C d3_6 rfl rfl rfl ?_
  refine own_aloadN (pc' := 9) C d3_8 rfl rfl rfl ?_
  refine own_getfield (pc' := 12) C d3_9 (hw _ (List.mem_of_getElem? (i := 14) rfl)) F_a_sizes rfl ?_
  refine own_iloadN (pc' := 13) C d3_12 rfl rfl ?_
  refine own_dup2 (pc' := 14) C d3_13 rfl rfl rfl ?_
  refine own_iaload (pc' := 15) (v := (2 : Int32)) (i := 0) C d3_14 A_sz (by decide) rfl rfl rfl ?_
  refine own_dupX2 (pc' := 16) C d3_15 rfl rfl rfl rfl ?_
  refine own_iconst (pc' := 17) (v := (1 : Int32)) C d3_16 own_ki_1 rfl ?_
  refine own_iadd (pc' := 18) (v := (3 : Int32)) C d3_17 (by decide) rfl ?_
  refine own_iastore (pc' := 19) (i := 0) (ys := [(3 : Int32), (0 : Int32)]) C d3_18 A_sz (by decide) rfl (Nat.le_of_ble_eq_true rfl) rfl g_sz rfl ?_
  intro h1 W1 A1_
  replace E_a := E_a.wr W1
  replace F_a_heaps := F_a_heaps.other W1 (Or.inl ne_a_sz)
  replace F_a_sizes := F_a_sizes.other W1 (Or.inl ne_a_sz)
  replace A_hp := A_hp.other W1 ne_hp_sz
  replace A_g := A_g.other W1 (Ne.symm ne_sz_g)
  replace E_g := E_g.wr W1
  replace A_sz := A1_
  replace Z_ : n0 ≤ _ := Nat.le_trans Z_ (Nat.le_of_eq W1.size.symm)
  replace K_ := K_.wr W1 (Or.inl (List.mem_of_getElem? (i := 0) rfl))
  refine own_istore (pc' := 21) (y := (2 : Int32)) (Ls' := #[.val (.ref a), .val (.int (0 : Int32)), .val (.long q), .second, .val (.ref g), .val (.int (2 : Int32))]) C d3_19 rfl rfl rfl ?_
  refine own_aload (pc' := 23) C d3_21 rfl rfl rfl ?_
  refine own_ifnull_n (pc' := 26) C d3_23 rfl ?_
  refine own_iload (pc' := 28) C d3_26 rfl rfl ?_
  refine own_aload (pc' := 30) C d3_28 rfl rfl rfl ?_
  refine own_lenJ (pc' := 31) (v := (4 : Int32)) C d3_30 A_g rfl rfl ?_
  refine own_icmp_ne (pt := 64) (pf := 34) C d3_31 (by decide) (by decide) rfl (fun _ => ?_) (fun q => absurd q (by decide))
  refine own_iload (pc' := 66) C d3_64 rfl rfl ?_
  refine own_if_le (pt := 108) (pf := 69) C d3_66 (by decide) (by decide) rfl (fun q => absurd (by decide) q) (fun _ => ?_)
  refine own_aload (pc' := 71) C d3_69 rfl rfl rfl ?_
  refine own_iload (pc' := 73) C d3_71 rfl rfl ?_
  refine own_iconst (pc' := 74) (v := (1 : Int32)) C d3_73 own_ki_1 rfl ?_
  refine own_isub (pc' := 75) (v := (1 : Int32)) C d3_74 (by decide) rfl ?_
  refine own_iconst (pc' := 76) (v := (2 : Int32)) C d3_75 own_ki_2 rfl ?_
  refine own_idiv (pc' := 77) (v := (0 : Int32)) C d3_76 (by decide) (by decide) rfl ?_
  refine own_laload (pc' := 78) (v := x0_) (i := 0) C d3_77 A_g (by decide) rfl rfl rfl ?_
  refine own_lloadN (pc' := 79) C d3_78 rfl rfl ?_
  refine own_lcmp_le (pt := 108) (pf := 83) C d3_79 rfl d3_80 (by decide) (by decide) rfl ?_ ?_
  · intro hc79
    refine own_aload (pc' := 110) C d3_108 rfl rfl rfl ?_
    refine own_iload (pc' := 112) C d3_110 rfl rfl ?_
    refine own_lloadN (pc' := 113) C d3_112 rfl rfl ?_
    refine own_lastore (pc' := 114) (i := 2) (ys := [x0_, x1_, q, x3_]) C d3_113 A_g (by decide) rfl (Nat.le_of_ble_eq_true rfl) rfl g_g rfl ?_
    intro h2 W2 A2_
    replace E_a := E_a.wr W2
    replace F_a_heaps := F_a_heaps.other W2 (Or.inl ne_a_g)
    replace F_a_sizes := F_a_sizes.other W2 (Or.inl ne_a_g)
    replace A_hp := A_hp.other W2 ne_hp_g
    replace A_sz := A_sz.other W2 ne_sz_g
    replace E_g := E_g.wr W2
    replace A_g := A2_
    replace Z_ : n0 ≤ _ := Nat.le_trans Z_ (Nat.le_of_eq W2.size.symm)
    replace K_ := K_.wr W2 (Or.inl (List.mem_of_getElem? (i := 1) rfl))
    refine own_vret C d3_114 (by decide) (by decide) ?_
    have l_hc79 : own_lt q x0_ = false := by simp [own_lt, hc79]
    refine ⟨rfl, K_, A_sz, ?_⟩
    simp only [own_p2, l_hc79, if_true, if_false, Bool.false_eq_true]; exact A_g
  · intro hc79
    refine own_aload (pc' := 85) C d3_83 rfl rfl rfl ?_
    refine own_iload (pc' := 87) C d3_85 rfl rfl ?_
    refine own_aload (pc' := 89) C d3_87 rfl rfl rfl ?_
    refine own_iload (pc' := 91) C d3_89 rfl rfl ?_
    refine own_iconst (pc' := 92) (v := (1 : Int32)) C d3_91 own_ki_1 rfl ?_
    refine own_isub (pc' := 93) (v := (1 : Int32)) C d3_92 (by decide) rfl ?_
    refine own_iconst (pc' := 94) (v := (2 : Int32)) C d3_93 own_ki_2 rfl ?_
    refine own_idiv (pc' := 95) (v := (0 : Int32)) C d3_94 (by decide) (by decide) rfl ?_
    refine own_laload (pc' := 96) (v := x0_) (i := 0) C d3_95 A_g (by decide) rfl rfl rfl ?_
    refine own_lastore (pc' := 97) (i := 2) (ys := [x0_, x1_, x0_, x3_]) C d3_96 A_g (by decide) rfl (Nat.le_of_ble_eq_true rfl) rfl g_g rfl ?_
    intro h2 W2 A2_
    replace E_a := E_a.wr W2
    replace F_a_heaps := F_a_heaps.other W2 (Or.inl ne_a_g)
    replace F_a_sizes := F_a_sizes.other W2 (Or.inl ne_a_g)
    replace A_hp := A_hp.other W2 ne_hp_g
    replace A_sz := A_sz.other W2 ne_sz_g
    replace E_g := E_g.wr W2
    replace A_g := A2_
    replace Z_ : n0 ≤ _ := Nat.le_trans Z_ (Nat.le_of_eq W2.size.symm)
    replace K_ := K_.wr W2 (Or.inl (List.mem_of_getElem? (i := 1) rfl))
    refine own_iload (pc' := 99) C d3_97 rfl rfl ?_
    refine own_iconst (pc' := 100) (v := (1 : Int32)) C d3_99 own_ki_1 rfl ?_
    refine own_isub (pc' := 101) (v := (1 : Int32)) C d3_100 (by decide) rfl ?_
    refine own_iconst (pc' := 102) (v := (2 : Int32)) C d3_101 own_ki_2 rfl ?_
    refine own_idiv (pc' := 103) (v := (0 : Int32)) C d3_102 (by decide) (by decide) rfl ?_
    refine own_istore (pc' := 105) (y := (0 : Int32)) (Ls' := #[.val (.ref a), .val (.int (0 : Int32)), .val (.long q), .second, .val (.ref g), .val (.int (0 : Int32))]) C d3_103 rfl rfl rfl ?_
    refine own_goto (pc' := 64) C d3_105 (by decide) (by decide) ?_
    refine own_iload (pc' := 66) C d3_64 rfl rfl ?_
    refine own_if_le (pt := 108) (pf := 69) C d3_66 (by decide) (by decide) rfl (fun _ => ?_) (fun q => absurd q (by decide))
    refine own_aload (pc' := 110) C d3_108 rfl rfl rfl ?_
    refine own_iload (pc' := 112) C d3_110 rfl rfl ?_
    refine own_lloadN (pc' := 113) C d3_112 rfl rfl ?_
    refine own_lastore (pc' := 114) (i := 0) (ys := [q, x1_, x0_, x3_]) C d3_113 A_g (by decide) rfl (Nat.le_of_ble_eq_true rfl) rfl g_g rfl ?_
    intro h3 W3 A3_
    replace E_a := E_a.wr W3
    replace F_a_heaps := F_a_heaps.other W3 (Or.inl ne_a_g)
    replace F_a_sizes := F_a_sizes.other W3 (Or.inl ne_a_g)
    replace A_hp := A_hp.other W3 ne_hp_g
    replace A_sz := A_sz.other W3 ne_sz_g
    replace E_g := E_g.wr W3
    replace A_g := A3_
    replace Z_ : n0 ≤ _ := Nat.le_trans Z_ (Nat.le_of_eq W3.size.symm)
    replace K_ := K_.wr W3 (Or.inl (List.mem_of_getElem? (i := 1) rfl))
    refine own_vret C d3_114 (by decide) (by decide) ?_
    have l_hc79 : own_lt q x0_ = true := by simp [own_lt, hc79]
    refine ⟨rfl, K_, A_sz, ?_⟩
    simp only [own_p2, l_hc79, if_true, if_false, Bool.false_eq_true]; exact A_g

set_option maxRecDepth 65536 in
set_option maxHeartbeats 40000000 in
theorem own_add0_3 (l : Launch) (Z : State) (a0 : Array Value) (hw : ∀ d ∈ tables_1, d.before a0 Z = true) (a : Addr) (q : Int64) (hp sz g : Addr) (x0_ x1_ x2_ x3_ : Int64) (h0 : Heap) (n0 : Nat) (Z_ : n0 ≤ h0.size) (E_a : Exa Z h0 a "com/example/precedence/precedence/LongHeaps") (F_a_heaps : Fld Z h0 a "com/example/precedence/precedence/LongHeaps" "heaps" "[[J" (.ref hp)) (F_a_sizes : Fld Z h0 a "com/example/precedence/precedence/LongHeaps" "sizes" "[I" (.ref sz)) (g_a : n0 ≤ a) (A_hp : AR Z h0 hp [(.ref g), .null]) (A_sz : AI Z h0 sz .int [(3 : Int32), (0 : Int32)]) (g_hp : n0 ≤ hp) (g_sz : n0 ≤ sz) (ne_a_hp : a ≠ hp) (ne_a_sz : a ≠ sz) (ne_hp_sz : hp ≠ sz) (A_g : AJ Z h0 g [x0_, x1_, x2_, x3_]) (E_g : Exa Z h0 g "[J") (g_g : n0 ≤ g) (ne_a_g : a ≠ g) (ne_hp_g : hp ≠ g) (ne_sz_g : sz ≠ g) :
    Met l (⟨"com/example/precedence/precedence/LongHeaps", "add", "(IJ)V"⟩ : MethodName) prog_58_method_3_code 6 none [] ({ frames := 0, cells := 0, slots := 0, locals := 0 } : Room) Z n0 #[(.ref a), (.int (0 : Int32)), (.long q)] h0 (fun v h => v = none ∧ Keep h0 h [sz, g] ∧ AI Z h sz .int [(4 : Int32), (0 : Int32)] ∧ AJ Z h g [(own_p3 own_lt x0_ x1_ x2_ q).1, (own_p3 own_lt x0_ x1_ x2_ q).2.1, (own_p3 own_lt x0_ x1_ x2_ q).2.2.1, (own_p3 own_lt x0_ x1_ x2_ q).2.2.2]) := by
  refine own_met pn3 (fun m => ef3 m a (0 : Int32) q) ?_
  intro p e s m below meth c C
  have K_ : Keep h0 h0 [sz, g] := Keep.refl _ _
  refine own_aloadN (pc' := 1) C d3_0 rfl rfl rfl ?_
  refine own_getfield (pc' := 4) C d3_1 (hw _ (List.mem_of_getElem? (i := 11) rfl)) F_a_heaps rfl ?_
  refine own_iloadN (pc' := 5) C d3_4 rfl rfl ?_
  refine own_aaload (pc' := 6) (v := (.ref g)) (i := 0) C d3_5 A_hp (by decide) rfl rfl rfl ?_
  refine own_astore (pc' := 8) (Ls' := #[.val (.ref a), .val (.int (0 : Int32)), .val (.long q), .second, .val (.ref g), .unset]) C d3_6 rfl rfl rfl ?_
  refine own_aloadN (pc' := 9) C d3_8 rfl rfl rfl ?_
  refine own_getfield (pc' := 12) C d3_9 (hw _ (List.mem_of_getElem? (i := 14) rfl)) F_a_sizes rfl ?_
  refine own_iloadN (pc' := 13) C d3_12 rfl rfl ?_
  refine own_dup2 (pc' := 14) C d3_13 rfl rfl rfl ?_
  refine own_iaload (pc' := 15) (v := (3 : Int32)) (i := 0) C d3_14 A_sz (by decide) rfl rfl rfl ?_
  refine own_dupX2 (pc' := 16) C d3_15 rfl rfl rfl rfl ?_
  refine own_iconst (pc' := 17) (v := (1 : Int32)) C d3_16 own_ki_1 rfl ?_
  refine own_iadd (pc' := 18) (v := (4 : Int32)) C d3_17 (by decide) rfl ?_
  refine own_iastore (pc' := 19) (i := 0) (ys := [(4 : Int32), (0 : Int32)]) C d3_18 A_sz (by decide) rfl (Nat.le_of_ble_eq_true rfl) rfl g_sz rfl ?_
  intro h1 W1 A1_
  replace E_a := E_a.wr W1
  replace F_a_heaps := F_a_heaps.other W1 (Or.inl ne_a_sz)
  replace F_a_sizes := F_a_sizes.other W1 (Or.inl ne_a_sz)
  replace A_hp := A_hp.other W1 ne_hp_sz
  replace A_g := A_g.other W1 (Ne.symm ne_sz_g)
  replace E_g := E_g.wr W1
  replace A_sz := A1_
  replace Z_ : n0 ≤ _ := Nat.le_trans Z_ (Nat.le_of_eq W1.size.symm)
  replace K_ := K_.wr W1 (Or.inl (List.mem_of_getElem? (i := 0) rfl))
  refine own_istore (pc' := 21) (y := (3 : Int32)) (Ls' := #[.val (.ref a), .val (.int (0 : Int32)), .val (.long q), .second, .val (.ref g), .val (.int (3 : Int32))]) C d3_19 rfl rfl rfl ?_
  refine own_aload (pc' := 23) C d3_21 rfl rfl rfl ?_
  refine own_ifnull_n (pc' := 26) C d3_23 rfl ?_
  refine own_iload (pc' := 28) C d3_26 rfl rfl ?_
  refine own_aload (pc' := 30) C d3_28 rfl rfl rfl ?_
  refine own_lenJ (pc' := 31) (v := (4 : Int32)) C d3_30 A_g rfl rfl ?_
  refine own_icmp_ne (pt := 64) (pf := 34) C d3_31 (by decide) (by decide) rfl (fun _ => ?_) (fun q => absurd q (by decide))
  refine own_iload (pc' := 66) C d3_64 rfl rfl ?_
  refine own_if_le (pt := 108) (pf := 69) C d3_66 (by decide) (by decide) rfl (fun q => absurd (by decide) q) (fun _ => ?_)
  refine own_aload (pc' := 71) C d3_69 rfl rfl rfl ?_
  refine own_iload (pc' := 73) C d3_71 rfl rfl ?_
  refine own_iconst (pc' := 74) (v := (1 : Int32)) C d3_73 own_ki_1 rfl ?_
  refine own_isub (pc' := 75) (v := (2 : Int32)) C d3_74 (by decide) rfl ?_
  refine own_iconst (pc' := 76) (v := (2 : Int32)) C d3_75 own_ki_2 rfl ?_
  refine own_idiv (pc' := 77) (v := (1 : Int32)) C d3_76 (by decide) (by decide) rfl ?_
  refine own_laload (pc' := 78) (v := x1_) (i := 1) C d3_77 A_g (by decide) rfl rfl rfl ?_
  refine own_lloadN (pc' := 79) C d3_78 rfl rfl ?_
  refine own_lcmp_le (pt := 108) (pf := 83) C d3_79 rfl d3_80 (by decide) (by decide) rfl ?_ ?_
  · intro hc79
    refine own_aload (pc' := 110) C d3_108 rfl rfl rfl ?_
    refine own_iload (pc' := 112) C d3_110 rfl rfl ?_
    refine own_lloadN (pc' := 113) C d3_112 rfl rfl ?_
    refine own_lastore (pc' := 114) (i := 3) (ys := [x0_, x1_, x2_, q]) C d3_113 A_g (by decide) rfl (Nat.le_of_ble_eq_true rfl) rfl g_g rfl ?_
    intro h2 W2 A2_
    replace E_a := E_a.wr W2
    replace F_a_heaps := F_a_heaps.other W2 (Or.inl ne_a_g)
    replace F_a_sizes := F_a_sizes.other W2 (Or.inl ne_a_g)
    replace A_hp := A_hp.other W2 ne_hp_g
    replace A_sz := A_sz.other W2 ne_sz_g
    replace E_g := E_g.wr W2
    replace A_g := A2_
    replace Z_ : n0 ≤ _ := Nat.le_trans Z_ (Nat.le_of_eq W2.size.symm)
    replace K_ := K_.wr W2 (Or.inl (List.mem_of_getElem? (i := 1) rfl))
    refine own_vret C d3_114 (by decide) (by decide) ?_
    have l_hc79 : own_lt q x1_ = false := by simp [own_lt, hc79]
    refine ⟨rfl, K_, A_sz, ?_⟩
    simp only [own_p3, l_hc79, if_true, if_false, Bool.false_eq_true]; exact A_g
  · intro hc79
    refine own_aload (pc' := 85) C d3_83 rfl rfl rfl ?_
    refine own_iload (pc' := 87) C d3_85 rfl rfl ?_
    refine own_aload (pc' := 89) C d3_87 rfl rfl rfl ?_
    refine own_iload (pc' := 91) C d3_89 rfl rfl ?_
    refine own_iconst (pc' := 92) (v := (1 : Int32)) C d3_91 own_ki_1 rfl ?_
    refine own_isub (pc' := 93) (v := (2 : Int32)) C d3_92 (by decide) rfl ?_
    refine own_iconst (pc' := 94) (v := (2 : Int32)) C d3_93 own_ki_2 rfl ?_
    refine own_idiv (pc' := 95) (v := (1 : Int32)) C d3_94 (by decide) (by decide) rfl ?_
    refine own_laload (pc' := 96) (v := x1_) (i := 1) C d3_95 A_g (by decide) rfl rfl rfl ?_
    refine own_lastore (pc' := 97) (i := 3) (ys := [x0_, x1_, x2_, x1_]) C d3_96 A_g (by decide) rfl (Nat.le_of_ble_eq_true rfl) rfl g_g rfl ?_
    intro h2 W2 A2_
    replace E_a := E_a.wr W2
    replace F_a_heaps := F_a_heaps.other W2 (Or.inl ne_a_g)
    replace F_a_sizes := F_a_sizes.other W2 (Or.inl ne_a_g)
    replace A_hp := A_hp.other W2 ne_hp_g
    replace A_sz := A_sz.other W2 ne_sz_g
    replace E_g := E_g.wr W2
    replace A_g := A2_
    replace Z_ : n0 ≤ _ := Nat.le_trans Z_ (Nat.le_of_eq W2.size.symm)
    replace K_ := K_.wr W2 (Or.inl (List.mem_of_getElem? (i := 1) rfl))
    refine own_iload (pc' := 99) C d3_97 rfl rfl ?_
    refine own_iconst (pc' := 100) (v := (1 : Int32)) C d3_99 own_ki_1 rfl ?_
    refine own_isub (pc' := 101) (v := (2 : Int32)) C d3_100 (by decide) rfl ?_
    refine own_iconst (pc' := 102) (v := (2 : Int32)) C d3_101 own_ki_2 rfl ?_
    refine own_idiv (pc' := 103) (v := (1 : Int32)) C d3_102 (by decide) (by decide) rfl ?_
    refine own_istore (pc' := 105) (y := (1 : Int32)) (Ls' := #[.val (.ref a), .val (.int (0 : Int32)), .val (.long q), .second, .val (.ref g), .val (.int (1 : Int32))]) C d3_103 rfl rfl rfl ?_
    refine own_goto (pc' := 64) C d3_105 (by decide) (by decide) ?_
    refine own_iload (pc' := 66) C d3_64 rfl rfl ?_
    refine own_if_le (pt := 108) (pf := 69) C d3_66 (by decide) (by decide) rfl (fun q => absurd (by decide) q) (fun _ => ?_)
    refine own_aload (pc' := 71) C d3_69 rfl rfl rfl ?_
    refine own_iload (pc' := 73) C d3_71 rfl rfl ?_
    refine own_iconst (pc' := 74) (v := (1 : Int32)) C d3_73 own_ki_1 rfl ?_
    refine own_isub (pc' := 75) (v := (0 : Int32)) C d3_74 (by decide) rfl ?_
    refine own_iconst (pc' := 76) (v := (2 : Int32)) C d3_75 own_ki_2 rfl ?_
    refine own_idiv (pc' := 77) (v := (0 : Int32)) C d3_76 (by decide) (by decide) rfl ?_
    refine own_laload (pc' := 78) (v := x0_) (i := 0) C d3_77 A_g (by decide) rfl rfl rfl ?_
    refine own_lloadN (pc' := 79) C d3_78 rfl rfl ?_
    refine own_lcmp_le (pt := 108) (pf := 83) C d3_79 rfl d3_80 (by decide) (by decide) rfl ?_ ?_
    · intro hc79_2
      refine own_aload (pc' := 110) C d3_108 rfl rfl rfl ?_
      refine own_iload (pc' := 112) C d3_110 rfl rfl ?_
      refine own_lloadN (pc' := 113) C d3_112 rfl rfl ?_
      refine own_lastore (pc' := 114) (i := 1) (ys := [x0_, q, x2_, x1_]) C d3_113 A_g (by decide) rfl (Nat.le_of_ble_eq_true rfl) rfl g_g rfl ?_
      intro h3 W3 A3_
      replace E_a := E_a.wr W3
      replace F_a_heaps := F_a_heaps.other W3 (Or.inl ne_a_g)
      replace F_a_sizes := F_a_sizes.other W3 (Or.inl ne_a_g)
      replace A_hp := A_hp.other W3 ne_hp_g
      replace A_sz := A_sz.other W3 ne_sz_g
      replace E_g := E_g.wr W3
      replace A_g := A3_
      replace Z_ : n0 ≤ _ := Nat.le_trans Z_ (Nat.le_of_eq W3.size.symm)
      replace K_ := K_.wr W3 (Or.inl (List.mem_of_getElem? (i := 1) rfl))
      refine own_vret C d3_114 (by decide) (by decide) ?_
      have l_hc79 : own_lt q x1_ = true := by simp [own_lt, hc79]
      have l_hc79_2 : own_lt q x0_ = false := by simp [own_lt, hc79_2]
      refine ⟨rfl, K_, A_sz, ?_⟩
      simp only [own_p3, l_hc79, l_hc79_2, if_true, if_false, Bool.false_eq_true]; exact A_g
    · intro hc79_2
      refine own_aload (pc' := 85) C d3_83 rfl rfl rfl ?_
      refine own_iload (pc' := 87) C d3_85 rfl rfl ?_
      refine own_aload (pc' := 89) C d3_87 rfl rfl rfl ?_
      refine own_iload (pc' := 91) C d3_89 rfl rfl ?_
      refine own_iconst (pc' := 92) (v := (1 : Int32)) C d3_91 own_ki_1 rfl ?_
      refine own_isub (pc' := 93) (v := (0 : Int32)) C d3_92 (by decide) rfl ?_
      refine own_iconst (pc' := 94) (v := (2 : Int32)) C d3_93 own_ki_2 rfl ?_
      refine own_idiv (pc' := 95) (v := (0 : Int32)) C d3_94 (by decide) (by decide) rfl ?_
      refine own_laload (pc' := 96) (v := x0_) (i := 0) C d3_95 A_g (by decide) rfl rfl rfl ?_
      refine own_lastore (pc' := 97) (i := 1) (ys := [x0_, x0_, x2_, x1_]) C d3_96 A_g (by decide) rfl (Nat.le_of_ble_eq_true rfl) rfl g_g rfl ?_
      intro h3 W3 A3_
      replace E_a := E_a.wr W3
      replace F_a_heaps := F_a_heaps.other W3 (Or.inl ne_a_g)
      replace F_a_sizes := F_a_sizes.other W3 (Or.inl ne_a_g)
      replace A_hp := A_hp.other W3 ne_hp_g
      replace A_sz := A_sz.other W3 ne_sz_g
      replace E_g := E_g.wr W3
      replace A_g := A3_
      replace Z_ : n0 ≤ _ := Nat.le_trans Z_ (Nat.le_of_eq W3.size.symm)
      replace K_ := K_.wr W3 (Or.inl (List.mem_of_getElem? (i := 1) rfl))
      refine own_iload (pc' := 99) C d3_97 rfl rfl ?_
      refine own_iconst (pc' := 100) (v := (1 : Int32)) C d3_99 own_ki_1 rfl ?_
      refine own_isub (pc' := 101) (v := (0 : Int32)) C d3_100 (by decide) rfl ?_
      refine own_iconst (pc' := 102) (v := (2 : Int32)) C d3_101 own_ki_2 rfl ?_
      refine own_idiv (pc' := 103) (v := (0 : Int32)) C d3_102 (by decide) (by decide) rfl ?_
      refine own_istore (pc' := 105) (y := (0 : Int32)) (Ls' := #[.val (.ref a), .val (.int (0 : Int32)), .val (.long q), .second, .val (.ref g), .val (.int (0 : Int32))]) C d3_103 rfl rfl rfl ?_
      refine own_goto (pc' := 64) C d3_105 (by decide) (by decide) ?_
      refine own_iload (pc' := 66) C d3_64 rfl rfl ?_
      refine own_if_le (pt := 108) (pf := 69) C d3_66 (by decide) (by decide) rfl (fun _ => ?_) (fun q => absurd q (by decide))
      refine own_aload (pc' := 110) C d3_108 rfl rfl rfl ?_
      refine own_iload (pc' := 112) C d3_110 rfl rfl ?_
      refine own_lloadN (pc' := 113) C d3_112 rfl rfl ?_
      refine own_lastore (pc' := 114) (i := 0) (ys := [q, x0_, x2_, x1_]) C d3_113 A_g (by decide) rfl (Nat.le_of_ble_eq_true rfl) rfl g_g rfl ?_
      intro h4 W4 A4_
      replace E_a := E_a.wr W4
      replace F_a_heaps := F_a_heaps.other W4 (Or.inl ne_a_g)
      replace F_a_sizes := F_a_sizes.other W4 (Or.inl ne_a_g)
      replace A_hp := A_hp.other W4 ne_hp_g
      replace A_sz := A_sz.other W4 ne_sz_g
      replace E_g := E_g.wr W4
      replace A_g := A4_
      replace Z_ : n0 ≤ _ := Nat.le_trans Z_ (Nat.le_of_eq W4.size.symm)
      replace K_ := K_.wr W4 (Or.inl (List.mem_of_getElem? (i := 1) rfl))
      refine own_vret C d3_114 (by decide) (by decide) ?_
      have l_hc79 : own_lt q x1_ = true := by simp [own_lt, hc79]
      have l_hc79_2 : own_lt q x0_ = true := by simp [own_lt, hc79_2]
      refine ⟨rfl, K_, A_sz, ?_⟩
      simp only [own_p3, l_hc79, l_hc79_2, if_true, if_false, Bool.false_eq_true]; exact A_g

theorem d3_45 : decode prog_58_method_3_code 45 = .ok (.aload 4, 2) := by decide +kernel
theorem d3_47 : decode prog_58_method_3_code 47 = .ok (.iconst 2, 1) := by decide +kernel
theorem d3_48 : decode prog_58_method_3_code 48 = .ok (.iload 5, 2) := by decide +kernel
theorem d3_50 : decode prog_58_method_3_code 50 = .ok (.imul, 1) := by decide +kernel
theorem d3_51 : decode prog_58_method_3_code 51 = .ok (.invokestatic 19, 3) := by decide +kernel
theorem pd4 : parseMethodDescriptor "([JI)[J" = some ⟨[(.array .long), .int], some (.array .long)⟩ := by decide +kernel
set_option maxRecDepth 65536 in
set_option maxHeartbeats 40000000 in
theorem own_add0_4 (l : Launch) (Z : State) (a0 : Array Value) (hw : ∀ d ∈ tables_1, d.before a0 Z = true) (a : Addr) (q : Int64) (hp sz g : Addr) (x0_ x1_ x2_ x3_ : Int64) (h0 : Heap) (n0 : Nat) (Z_ : n0 ≤ h0.size) (E_a : Exa Z h0 a "com/example/precedence/precedence/LongHeaps") (F_a_heaps : Fld Z h0 a "com/example/precedence/precedence/LongHeaps" "heaps" "[[J" (.ref hp)) (F_a_sizes : Fld Z h0 a "com/example/precedence/precedence/LongHeaps" "sizes" "[I" (.ref sz)) (g_a : n0 ≤ a) (A_hp : AR Z h0 hp [(.ref g), .null]) (A_sz : AI Z h0 sz .int [(4 : Int32), (0 : Int32)]) (g_hp : n0 ≤ hp) (g_sz : n0 ≤ sz) (ne_a_hp : a ≠ hp) (ne_a_sz : a ≠ sz) (ne_hp_sz : hp ≠ sz) (A_g : AJ Z h0 g [x0_, x1_, x2_, x3_]) (E_g : Exa Z h0 g "[J") (g_g : n0 ≤ g) (ne_a_g : a ≠ g) (ne_hp_g : hp ≠ g) (ne_sz_g : sz ≠ g) :
    Met l (⟨"com/example/precedence/precedence/LongHeaps", "add", "(IJ)V"⟩ : MethodName) prog_58_method_3_code 6 none [] ({ frames := 2, cells := 1, slots := 8, locals := 54 } : Room) Z n0 #[(.ref a), (.int (0 : Int32)), (.long q)] h0 (fun v h => v = none ∧ Keep h0 h [hp, sz] ∧ ∃ g' : Addr, h0.size ≤ g' ∧ AR Z h hp [(.ref g'), .null] ∧ AI Z h sz .int [(5 : Int32), (0 : Int32)] ∧ Exa Z h g' "[J" ∧ AJ Z h g' [(own_p4 own_lt x0_ x1_ x2_ x3_ q).1, (own_p4 own_lt x0_ x1_ x2_ x3_ q).2.1, (own_p4 own_lt x0_ x1_ x2_ x3_ q).2.2.1, (own_p4 own_lt x0_ x1_ x2_ x3_ q).2.2.2.1, (own_p4 own_lt x0_ x1_ x2_ x3_ q).2.2.2.2, (0 : Int64), (0 : Int64), (0 : Int64)]) := by
  refine own_met pn3 (fun m => ef3 m a (0 : Int32) q) ?_
  intro p e s m below meth c C
  have K_ : Keep h0 h0 [hp, sz] := Keep.refl _ _
  refine own_aloadN (pc' := 1) C d3_0 rfl rfl rfl ?_
  refine own_getfield (pc' := 4) C d3_1 (hw _ (List.mem_of_getElem? (i := 11) rfl)) F_a_heaps rfl ?_
  refine own_iloadN (pc' := 5) C d3_4 rfl rfl ?_
  refine own_aaload (pc' := 6) (v := (.ref g)) (i := 0) C d3_5 A_hp (by decide) rfl rfl rfl ?_
  refine own_astore (pc' := 8) (Ls' := #[.val (.ref a), .val (.int (0 : Int32)), .val (.long q), .second, .val (.ref g), .unset]) C d3_6 rfl rfl rfl ?_
  refine own_aloadN (pc' := 9) C d3_8 rfl rfl rfl ?_
  refine own_getfield (pc' := 12) C d3_9 (hw _ (List.mem_of_getElem? (i := 14) rfl)) F_a_sizes rfl ?_
  refine own_iloadN (pc' := 13) C d3_12 rfl rfl ?_
  refine own_dup2 (pc' := 14) C d3_13 rfl rfl rfl ?_
  refine own_iaload (pc' := 15) (v := (4 : Int32)) (i := 0) C d3_14 A_sz (by decide) rfl rfl rfl ?_
  refine own_dupX2 (pc' := 16) C d3_15 rfl rfl rfl rfl ?_
  refine own_iconst (pc' := 17) (v := (1 : Int32)) C d3_16 own_ki_1 rfl ?_
  refine own_iadd (pc' := 18) (v := (5 : Int32)) C d3_17 (by decide) rfl ?_
  refine own_iastore (pc' := 19) (i := 0) (ys := [(5 : Int32), (0 : Int32)]) C d3_18 A_sz (by decide) rfl (Nat.le_of_ble_eq_true rfl) rfl g_sz rfl ?_
  intro h1 W1 A1_
  replace E_a := E_a.wr W1
  replace F_a_heaps := F_a_heaps.other W1 (Or.inl ne_a_sz)
  replace F_a_sizes := F_a_sizes.other W1 (Or.inl ne_a_sz)
  replace A_hp := A_hp.other W1 ne_hp_sz
  replace A_g := A_g.other W1 (Ne.symm ne_sz_g)
  replace E_g := E_g.wr W1
  replace A_sz := A1_
  replace Z_ : n0 ≤ _ := Nat.le_trans Z_ (Nat.le_of_eq W1.size.symm)
  replace K_ := K_.wr W1 (Or.inl (List.mem_of_getElem? (i := 1) rfl))
  refine own_istore (pc' := 21) (y := (4 : Int32)) (Ls' := #[.val (.ref a), .val (.int (0 : Int32)), .val (.long q), .second, .val (.ref g), .val (.int (4 : Int32))]) C d3_19 rfl rfl rfl ?_
  refine own_aload (pc' := 23) C d3_21 rfl rfl rfl ?_
  refine own_ifnull_n (pc' := 26) C d3_23 rfl ?_
  refine own_iload (pc' := 28) C d3_26 rfl rfl ?_
  refine own_aload (pc' := 30) C d3_28 rfl rfl rfl ?_
  refine own_lenJ (pc' := 31) (v := (4 : Int32)) C d3_30 A_g rfl rfl ?_
  refine own_icmp_ne (pt := 64) (pf := 34) C d3_31 (by decide) (by decide) rfl (fun q => absurd (by decide) q) (fun _ => ?_)
  refine own_aload (pc' := 36) C d3_34 rfl rfl rfl ?_
  refine own_ifnonnull_y (pt := 45) C d3_36 (by decide) (by decide) ?_
  refine own_aload (pc' := 47) C d3_45 rfl rfl rfl ?_
  refine own_iconst (pc' := 48) (v := (2 : Int32)) C d3_47 own_ki_2 rfl ?_
  refine own_iload (pc' := 50) C d3_48 rfl rfl ?_
  refine own_imul (pc' := 51) (v := (8 : Int32)) C d3_50 (by decide) rfl ?_
  refine own_callS (pc' := 54) (wL := 0) (argsL := [(.ref g), (.int (8 : Int32))]) (rest := []) C (own_copy l Z a0 hw g x0_ x1_ x2_ x3_ h1 n0 Z_ A_g) d3_51 (hw _ (List.mem_of_getElem? (i := 23) rfl)) (hw _ (List.mem_of_getElem? (i := 24) rfl)) (hw _ (List.mem_of_getElem? (i := 25) rfl)) (hw _ (List.mem_of_getElem? (i := 26) rfl)) (by decide) (by decide) (by decide) rfl (lenOf pd4 rfl) rfl rfl (Nat.le_of_eq rfl) (by decide) (by decide) rfl ?_
  rintro _ h2 ⟨o_2, rfl, sz2, K2, A_o_2, E_o_2⟩
  have ne_a_o_2 : a ≠ o_2 := Nat.ne_of_lt (Nat.lt_of_lt_of_le E_a.lt sz2)
  have ne_hp_o_2 : hp ≠ o_2 := Nat.ne_of_lt (Nat.lt_of_lt_of_le A_hp.lt sz2)
  have ne_sz_o_2 : sz ≠ o_2 := Nat.ne_of_lt (Nat.lt_of_lt_of_le A_sz.lt sz2)
  have ne_g_o_2 : g ≠ o_2 := Nat.ne_of_lt (Nat.lt_of_lt_of_le A_g.lt sz2)
  have g_o_2 : n0 ≤ o_2 := Nat.le_trans Z_ sz2
  have sz_o_2 : h0.size ≤ o_2 := Nat.le_trans K_.1 sz2
  replace E_a := E_a.keep K2
  replace F_a_heaps := F_a_heaps.keep K2 nin0
  replace F_a_sizes := F_a_sizes.keep K2 nin0
  replace A_hp := A_hp.keep K2 nin0
  replace A_sz := A_sz.keep K2 nin0
  replace A_g := A_g.keep K2 nin0
  replace E_g := E_g.keep K2
  replace Z_ := Nat.le_trans Z_ K2.1
  replace K_ := K_.trans K2 all0
  show Wp p l e _ s m _ below meth c n0 _ h2 (0 + 1) (0 + 8) (mkF m 54 #[.val (.ref a), .val (.int (0 : Int32)), .val (.long q), .second, .val (.ref g), .val (.int (4 : Int32))] [(.ref o_2)])
  refine own_astore (pc' := 56) (Ls' := #[.val (.ref a), .val (.int (0 : Int32)), .val (.long q), .second, .val (.ref o_2), .val (.int (4 : Int32))]) C d3_54 rfl rfl rfl ?_
  refine own_aloadN (pc' := 57) C d3_56 rfl rfl rfl ?_
  refine own_getfield (pc' := 60) C d3_57 (hw _ (List.mem_of_getElem? (i := 11) rfl)) F_a_heaps rfl ?_
  refine own_iloadN (pc' := 61) C d3_60 rfl rfl ?_
  refine own_aload (pc' := 63) C d3_61 rfl rfl rfl ?_
  refine own_aastore (pc' := 64) (i := 0) (ys := [(.ref o_2), .null]) C d3_63 A_hp E_o_2 (by decide) rfl (Nat.le_of_ble_eq_true rfl) rfl g_hp rfl ?_
  intro h3 W3 A3_
  replace E_a := E_a.wr W3
  replace F_a_heaps := F_a_heaps.other W3 (Or.inl ne_a_hp)
  replace F_a_sizes := F_a_sizes.other W3 (Or.inl ne_a_hp)
  replace A_sz := A_sz.other W3 (Ne.symm ne_hp_sz)
  replace A_g := A_g.other W3 (Ne.symm ne_hp_g)
  replace E_g := E_g.wr W3
  replace A_o_2 := A_o_2.other W3 (Ne.symm ne_hp_o_2)
  replace E_o_2 := E_o_2.wr W3
  replace A_hp := A3_
  replace Z_ : n0 ≤ _ := Nat.le_trans Z_ (Nat.le_of_eq W3.size.symm)
  replace K_ := K_.wr W3 (Or.inl (List.mem_of_getElem? (i := 0) rfl))
  refine own_iload (pc' := 66) C d3_64 rfl rfl ?_
  refine own_if_le (pt := 108) (pf := 69) C d3_66 (by decide) (by decide) rfl (fun q => absurd (by decide) q) (fun _ => ?_)
  refine own_aload (pc' := 71) C d3_69 rfl rfl rfl ?_
  refine own_iload (pc' := 73) C d3_71 rfl rfl ?_
  refine own_iconst (pc' := 74) (v := (1 : Int32)) C d3_73 own_ki_1 rfl ?_
  refine own_isub (pc' := 75) (v := (3 : Int32)) C d3_74 (by decide) rfl ?_
  refine own_iconst (pc' := 76) (v := (2 : Int32)) C d3_75 own_ki_2 rfl ?_
  refine own_idiv (pc' := 77) (v := (1 : Int32)) C d3_76 (by decide) (by decide) rfl ?_
  refine own_laload (pc' := 78) (v := x1_) (i := 1) C d3_77 A_o_2 (by decide) rfl rfl rfl ?_
  refine own_lloadN (pc' := 79) C d3_78 rfl rfl ?_
  refine own_lcmp_le (pt := 108) (pf := 83) C d3_79 rfl d3_80 (by decide) (by decide) rfl ?_ ?_
  · intro hc79
    refine own_aload (pc' := 110) C d3_108 rfl rfl rfl ?_
    refine own_iload (pc' := 112) C d3_110 rfl rfl ?_
    refine own_lloadN (pc' := 113) C d3_112 rfl rfl ?_
    refine own_lastore (pc' := 114) (i := 4) (ys := [x0_, x1_, x2_, x3_, q, (0 : Int64), (0 : Int64), (0 : Int64)]) C d3_113 A_o_2 (by decide) rfl (Nat.le_of_ble_eq_true rfl) rfl g_o_2 rfl ?_
    intro h4 W4 A4_
    replace E_a := E_a.wr W4
    replace F_a_heaps := F_a_heaps.other W4 (Or.inl ne_a_o_2)
    replace F_a_sizes := F_a_sizes.other W4 (Or.inl ne_a_o_2)
    replace A_hp := A_hp.other W4 ne_hp_o_2
    replace A_sz := A_sz.other W4 ne_sz_o_2
    replace A_g := A_g.other W4 ne_g_o_2
    replace E_g := E_g.wr W4
    replace E_o_2 := E_o_2.wr W4
    replace A_o_2 := A4_
    replace Z_ : n0 ≤ _ := Nat.le_trans Z_ (Nat.le_of_eq W4.size.symm)
    replace K_ := K_.wr W4 (Or.inr sz_o_2)
    refine own_vret C d3_114 (by decide) (by decide) ?_
    have l_hc79 : own_lt q x1_ = false := by simp [own_lt, hc79]
    refine ⟨rfl, K_, o_2, sz_o_2, A_hp, A_sz, E_o_2, ?_⟩
    simp only [own_p4, l_hc79, if_true, if_false, Bool.false_eq_true]; exact A_o_2
  · intro hc79
    refine own_aload (pc' := 85) C d3_83 rfl rfl rfl ?_
    refine own_iload (pc' := 87) C d3_85 rfl rfl ?_
    refine own_aload (pc' := 89) C d3_87 rfl rfl rfl ?_
    refine own_iload (pc' := 91) C d3_89 rfl rfl ?_
    refine own_iconst (pc' := 92) (v := (1 : Int32)) C d3_91 own_ki_1 rfl ?_
    refine own_isub (pc' := 93) (v := (3 : Int32)) C d3_92 (by decide) rfl ?_
    refine own_iconst (pc' := 94) (v := (2 : Int32)) C d3_93 own_ki_2 rfl ?_
    refine own_idiv (pc' := 95) (v := (1 : Int32)) C d3_94 (by decide) (by decide) rfl ?_
    refine own_laload (pc' := 96) (v := x1_) (i := 1) C d3_95 A_o_2 (by decide) rfl rfl rfl ?_
    refine own_lastore (pc' := 97) (i := 4) (ys := [x0_, x1_, x2_, x3_, x1_, (0 : Int64), (0 : Int64), (0 : Int64)]) C d3_96 A_o_2 (by decide) rfl (Nat.le_of_ble_eq_true rfl) rfl g_o_2 rfl ?_
    intro h4 W4 A4_
    replace E_a := E_a.wr W4
    replace F_a_heaps := F_a_heaps.other W4 (Or.inl ne_a_o_2)
    replace F_a_sizes := F_a_sizes.other W4 (Or.inl ne_a_o_2)
    replace A_hp := A_hp.other W4 ne_hp_o_2
    replace A_sz := A_sz.other W4 ne_sz_o_2
    replace A_g := A_g.other W4 ne_g_o_2
    replace E_g := E_g.wr W4
    replace E_o_2 := E_o_2.wr W4
    replace A_o_2 := A4_
    replace Z_ : n0 ≤ _ := Nat.le_trans Z_ (Nat.le_of_eq W4.size.symm)
    replace K_ := K_.wr W4 (Or.inr sz_o_2)
    refine own_iload (pc' := 99) C d3_97 rfl rfl ?_
    refine own_iconst (pc' := 100) (v := (1 : Int32)) C d3_99 own_ki_1 rfl ?_
    refine own_isub (pc' := 101) (v := (3 : Int32)) C d3_100 (by decide) rfl ?_
    refine own_iconst (pc' := 102) (v := (2 : Int32)) C d3_101 own_ki_2 rfl ?_
    refine own_idiv (pc' := 103) (v := (1 : Int32)) C d3_102 (by decide) (by decide) rfl ?_
    refine own_istore (pc' := 105) (y := (1 : Int32)) (Ls' := #[.val (.ref a), .val (.int (0 : Int32)), .val (.long q), .second, .val (.ref o_2), .val (.int (1 : Int32))]) C d3_103 rfl rfl rfl ?_
    refine own_goto (pc' := 64) C d3_105 (by decide) (by decide) ?_
    refine own_iload (pc' := 66) C d3_64 rfl rfl ?_
    refine own_if_le (pt := 108) (pf := 69) C d3_66 (by decide) (by decide) rfl (fun q => absurd (by decide) q) (fun _ => ?_)
    refine own_aload (pc' := 71) C d3_69 rfl rfl rfl ?_
    refine own_iload (pc' := 73) C d3_71 rfl rfl ?_
    refine own_iconst (pc' := 74) (v := (1 : Int32)) C d3_73 own_ki_1 rfl ?_
    refine own_isub (pc' := 75) (v := (0 : Int32)) C d3_74 (by decide) rfl ?_
    refine own_iconst (pc' := 76) (v := (2 : Int32)) C d3_75 own_ki_2 rfl ?_
    refine own_idiv (pc' := 77) (v := (0 : Int32)) C d3_76 (by decide) (by decide) rfl ?_
    refine own_laload (pc' := 78) (v := x0_) (i := 0) C d3_77 A_o_2 (by decide) rfl rfl rfl ?_
    refine own_lloadN (pc' := 79) C d3_78 rfl rfl ?_
    refine own_lcmp_le (pt := 108) (pf := 83) C d3_79 rfl d3_80 (by decide) (by decide) rfl ?_ ?_
    · intro hc79_2
      refine own_aload (pc' := 110) C d3_108 rfl rfl rfl ?_
      refine own_iload (pc' := 112) C d3_110 rfl rfl ?_
      refine own_lloadN (pc' := 113) C d3_112 rfl rfl ?_
      refine own_lastore (pc' := 114) (i := 1) (ys := [x0_, q, x2_, x3_, x1_, (0 : Int64), (0 : Int64), (0 : Int64)]) C d3_113 A_o_2 (by decide) rfl (Nat.le_of_ble_eq_true rfl) rfl g_o_2 rfl ?_
      intro h5 W5 A5_
      replace E_a := E_a.wr W5
      replace F_a_heaps := F_a_heaps.other W5 (Or.inl ne_a_o_2)
      replace F_a_sizes := F_a_sizes.other W5 (Or.inl ne_a_o_2)
      replace A_hp := A_hp.other W5 ne_hp_o_2
      replace A_sz := A_sz.other W5 ne_sz_o_2
      replace A_g := A_g.other W5 ne_g_o_2
      replace E_g := E_g.wr W5
      replace E_o_2 := E_o_2.wr W5
      replace A_o_2 := A5_
      replace Z_ : n0 ≤ _ := Nat.le_trans Z_ (Nat.le_of_eq W5.size.symm)
      replace K_ := K_.wr W5 (Or.inr sz_o_2)
      refine own_vret C d3_114 (by decide) (by decide) ?_
      have l_hc79 : own_lt q x1_ = true := by simp [own_lt, hc79]
      have l_hc79_2 : own_lt q x0_ = false := by simp [own_lt, hc79_2]
      refine ⟨rfl, K_, o_2, sz_o_2, A_hp, A_sz, E_o_2, ?_⟩
      simp only [own_p4, l_hc79, l_hc79_2, if_true, if_false, Bool.false_eq_true]; exact A_o_2
    · intro hc79_2
      refine own_aload (pc' := 85) C d3_83 rfl rfl rfl ?_
      refine own_iload (pc' := 87) C d3_85 rfl rfl ?_
      refine own_aload (pc' := 89) C d3_87 rfl rfl rfl ?_
      refine own_iload (pc' := 91) C d3_89 rfl rfl ?_
      refine own_iconst (pc' := 92) (v := (1 : Int32)) C d3_91 own_ki_1 rfl ?_
      refine own_isub (pc' := 93) (v := (0 : Int32)) C d3_92 (by decide) rfl ?_
      refine own_iconst (pc' := 94) (v := (2 : Int32)) C d3_93 own_ki_2 rfl ?_
      refine own_idiv (pc' := 95) (v := (0 : Int32)) C d3_94 (by decide) (by decide) rfl ?_
      refine own_laload (pc' := 96) (v := x0_) (i := 0) C d3_95 A_o_2 (by decide) rfl rfl rfl ?_
      refine own_lastore (pc' := 97) (i := 1) (ys := [x0_, x0_, x2_, x3_, x1_, (0 : Int64), (0 : Int64), (0 : Int64)]) C d3_96 A_o_2 (by decide) rfl (Nat.le_of_ble_eq_true rfl) rfl g_o_2 rfl ?_
      intro h5 W5 A5_
      replace E_a := E_a.wr W5
      replace F_a_heaps := F_a_heaps.other W5 (Or.inl ne_a_o_2)
      replace F_a_sizes := F_a_sizes.other W5 (Or.inl ne_a_o_2)
      replace A_hp := A_hp.other W5 ne_hp_o_2
      replace A_sz := A_sz.other W5 ne_sz_o_2
      replace A_g := A_g.other W5 ne_g_o_2
      replace E_g := E_g.wr W5
      replace E_o_2 := E_o_2.wr W5
      replace A_o_2 := A5_
      replace Z_ : n0 ≤ _ := Nat.le_trans Z_ (Nat.le_of_eq W5.size.symm)
      replace K_ := K_.wr W5 (Or.inr sz_o_2)
      refine own_iload (pc' := 99) C d3_97 rfl rfl ?_
      refine own_iconst (pc' := 100) (v := (1 : Int32)) C d3_99 own_ki_1 rfl ?_
      refine own_isub (pc' := 101) (v := (0 : Int32)) C d3_100 (by decide) rfl ?_
      refine own_iconst (pc' := 102) (v := (2 : Int32)) C d3_101 own_ki_2 rfl ?_
      refine own_idiv (pc' := 103) (v := (0 : Int32)) C d3_102 (by decide) (by decide) rfl ?_
      refine own_istore (pc' := 105) (y := (0 : Int32)) (Ls' := #[.val (.ref a), .val (.int (0 : Int32)), .val (.long q), .second, .val (.ref o_2), .val (.int (0 : Int32))]) C d3_103 rfl rfl rfl ?_
      refine own_goto (pc' := 64) C d3_105 (by decide) (by decide) ?_
      refine own_iload (pc' := 66) C d3_64 rfl rfl ?_
      refine own_if_le (pt := 108) (pf := 69) C d3_66 (by decide) (by decide) rfl (fun _ => ?_) (fun q => absurd q (by decide))
      refine own_aload (pc' := 110) C d3_108 rfl rfl rfl ?_
      refine own_iload (pc' := 112) C d3_110 rfl rfl ?_
      refine own_lloadN (pc' := 113) C d3_112 rfl rfl ?_
      refine own_lastore (pc' := 114) (i := 0) (ys := [q, x0_, x2_, x3_, x1_, (0 : Int64), (0 : Int64), (0 : Int64)]) C d3_113 A_o_2 (by decide) rfl (Nat.le_of_ble_eq_true rfl) rfl g_o_2 rfl ?_
      intro h6 W6 A6_
      replace E_a := E_a.wr W6
      replace F_a_heaps := F_a_heaps.other W6 (Or.inl ne_a_o_2)
      replace F_a_sizes := F_a_sizes.other W6 (Or.inl ne_a_o_2)
      replace A_hp := A_hp.other W6 ne_hp_o_2
      replace A_sz := A_sz.other W6 ne_sz_o_2
      replace A_g := A_g.other W6 ne_g_o_2
      replace E_g := E_g.wr W6
      replace E_o_2 := E_o_2.wr W6
      replace A_o_2 := A6_
      replace Z_ : n0 ≤ _ := Nat.le_trans Z_ (Nat.le_of_eq W6.size.symm)
      replace K_ := K_.wr W6 (Or.inr sz_o_2)
      refine own_vret C d3_114 (by decide) (by decide) ?_
      have l_hc79 : own_lt q x1_ = true := by simp [own_lt, hc79]
      have l_hc79_2 : own_lt q x0_ = true := by simp [own_lt, hc79_2]
      refine ⟨rfl, K_, o_2, sz_o_2, A_hp, A_sz, E_o_2, ?_⟩
      simp only [own_p4, l_hc79, l_hc79_2, if_true, if_false, Bool.false_eq_true]; exact A_o_2

set_option maxRecDepth 65536 in
set_option maxHeartbeats 40000000 in
theorem own_add1_0 (l : Launch) (Z : State) (a0 : Array Value) (hw : ∀ d ∈ tables_1, d.before a0 Z = true) (a : Addr) (q : Int64) (hp sz : Addr) (h0 : Heap) (n0 : Nat) (Z_ : n0 ≤ h0.size) (E_a : Exa Z h0 a "com/example/precedence/precedence/LongHeaps") (F_a_heaps : Fld Z h0 a "com/example/precedence/precedence/LongHeaps" "heaps" "[[J" (.ref hp)) (F_a_sizes : Fld Z h0 a "com/example/precedence/precedence/LongHeaps" "sizes" "[I" (.ref sz)) (g_a : n0 ≤ a) (A_hp : AR Z h0 hp [.null, .null]) (A_sz : AI Z h0 sz .int [(0 : Int32), (0 : Int32)]) (g_hp : n0 ≤ hp) (g_sz : n0 ≤ sz) (ne_a_hp : a ≠ hp) (ne_a_sz : a ≠ sz) (ne_hp_sz : hp ≠ sz) :
    Met l (⟨"com/example/precedence/precedence/LongHeaps", "add", "(IJ)V"⟩ : MethodName) prog_58_method_3_code 6 none [] ({ frames := 0, cells := 1, slots := 4, locals := 0 } : Room) Z n0 #[(.ref a), (.int (1 : Int32)), (.long q)] h0 (fun v h => v = none ∧ Keep h0 h [hp, sz] ∧ ∃ g' : Addr, h0.size ≤ g' ∧ AR Z h hp [.null, (.ref g')] ∧ AI Z h sz .int [(0 : Int32), (1 : Int32)] ∧ Exa Z h g' "[J" ∧ AJ Z h g' [q, (0 : Int64), (0 : Int64), (0 : Int64)]) := by
  refine own_met pn3 (fun m => ef3 m a (1 : Int32) q) ?_
  intro p e s m below meth c C
  have K_ : Keep h0 h0 [hp, sz] := Keep.refl _ _
  refine own_aloadN (pc' := 1) C d3_0 rfl rfl rfl ?_
  refine own_getfield (pc' := 4) C d3_1 (hw _ (List.mem_of_getElem? (i := 11) rfl)) F_a_heaps rfl ?_
  refine own_iloadN (pc' := 5) C d3_4 rfl rfl ?_
  refine own_aaload (pc' := 6) (v := .null) (i := 1) C d3_5 A_hp (by decide) rfl rfl rfl ?_
  refine own_astore (pc' := 8) (Ls' := #[.val (.ref a), .val (.int (1 : Int32)), .val (.long q), .second, .val .null, .unset]) C d3_6 rfl rfl rfl ?_
  refine own_aloadN (pc' := 9) C d3_8 rfl rfl rfl ?_
  refine own_getfield (pc' := 12) C d3_9 (hw _ (List.mem_of_getElem? (i := 14) rfl)) F_a_sizes rfl ?_
  refine own_iloadN (pc' := 13) C d3_12 rfl rfl ?_
  refine own_dup2 (pc' := 14) C d3_13 rfl rfl rfl ?_
  refine own_iaload (pc' := 15) (v := (0 : Int32)) (i := 1) C d3_14 A_sz (by decide) rfl rfl rfl ?_
  refine own_dupX2 (pc' := 16) C d3_15 rfl rfl rfl rfl ?_
  refine own_iconst (pc' := 17) (v := (1 : Int32)) C d3_16 own_ki_1 rfl ?_
  refine own_iadd (pc' := 18) (v := (1 : Int32)) C d3_17 (by decide) rfl ?_
  refine own_iastore (pc' := 19) (i := 1) (ys := [(0 : Int32), (1 : Int32)]) C d3_18 A_sz (by decide) rfl (Nat.le_of_ble_eq_true rfl) rfl g_sz rfl ?_
  intro h1 W1 A1_
  replace E_a := E_a.wr W1
  replace F_a_heaps := F_a_heaps.other W1 (Or.inl ne_a_sz)
  replace F_a_sizes := F_a_sizes.other W1 (Or.inl ne_a_sz)
  replace A_hp := A_hp.other W1 ne_hp_sz
  replace A_sz := A1_
  replace Z_ : n0 ≤ _ := Nat.le_trans Z_ (Nat.le_of_eq W1.size.symm)
  replace K_ := K_.wr W1 (Or.inl (List.mem_of_getElem? (i := 1) rfl))
  refine own_istore (pc' := 21) (y := (0 : Int32)) (Ls' := #[.val (.ref a), .val (.int (1 : Int32)), .val (.long q), .second, .val .null, .val (.int (0 : Int32))]) C d3_19 rfl rfl rfl ?_
  refine own_aload (pc' := 23) C d3_21 rfl rfl rfl ?_
  refine own_ifnull_y (pt := 34) C d3_23 (by decide) (by decide) ?_
  refine own_aload (pc' := 36) C d3_34 rfl rfl rfl ?_
  refine own_ifnonnull_n (pc' := 39) C d3_36 rfl ?_
  refine own_iconst (pc' := 40) (v := (4 : Int32)) C d3_39 own_ki_4 rfl ?_
  refine own_newJE (pc' := 42) (len := 4) (cap := 4) C d3_40 (hw _ (List.mem_of_getElem? (i := 21) rfl)) (by decide) rfl (by decide) (by decide) (by decide) (by decide) rfl ?_
  intro h2 b2 g2 X2 A_b2 E_b2
  have ne_a_b2 : a ≠ b2 := Nat.ne_of_lt (g2 ▸ E_a.lt)
  have ne_hp_b2 : hp ≠ b2 := Nat.ne_of_lt (g2 ▸ A_hp.lt)
  have ne_sz_b2 : sz ≠ b2 := Nat.ne_of_lt (g2 ▸ A_sz.lt)
  replace E_a := E_a.ext X2
  replace F_a_heaps := F_a_heaps.ext X2
  replace F_a_sizes := F_a_sizes.ext X2
  replace A_hp := A_hp.ext X2
  replace A_sz := A_sz.ext X2
  have g_b2 : n0 ≤ b2 := g2 ▸ Z_
  have sz_b2 : h0.size ≤ b2 := g2 ▸ K_.1
  replace K_ := K_.ext X2
  replace Z_ := Nat.le_trans Z_ X2.1
  replace A_b2 : AJ Z h2 b2 [(0 : Int64), (0 : Int64), (0 : Int64), (0 : Int64)] := A_b2
  refine own_goto (pc' := 54) C d3_42 (by decide) (by decide) ?_
  refine own_astore (pc' := 56) (Ls' := #[.val (.ref a), .val (.int (1 : Int32)), .val (.long q), .second, .val (.ref b2), .val (.int (0 : Int32))]) C d3_54 rfl rfl rfl ?_
  refine own_aloadN (pc' := 57) C d3_56 rfl rfl rfl ?_
  refine own_getfield (pc' := 60) C d3_57 (hw _ (List.mem_of_getElem? (i := 11) rfl)) F_a_heaps rfl ?_
  refine own_iloadN (pc' := 61) C d3_60 rfl rfl ?_
  refine own_aload (pc' := 63) C d3_61 rfl rfl rfl ?_
  refine own_aastore (pc' := 64) (i := 1) (ys := [.null, (.ref b2)]) C d3_63 A_hp E_b2 (by decide) rfl (Nat.le_of_ble_eq_true rfl) rfl g_hp rfl ?_
  intro h3 W3 A3_
  replace E_a := E_a.wr W3
  replace F_a_heaps := F_a_heaps.other W3 (Or.inl ne_a_hp)
  replace F_a_sizes := F_a_sizes.other W3 (Or.inl ne_a_hp)
  replace A_sz := A_sz.other W3 (Ne.symm ne_hp_sz)
  replace A_b2 := A_b2.other W3 (Ne.symm ne_hp_b2)
  replace E_b2 := E_b2.wr W3
  replace A_hp := A3_
  replace Z_ : n0 ≤ _ := Nat.le_trans Z_ (Nat.le_of_eq W3.size.symm)
  replace K_ := K_.wr W3 (Or.inl (List.mem_of_getElem? (i := 0) rfl))
  refine own_iload (pc' := 66) C d3_64 rfl rfl ?_
  refine own_if_le (pt := 108) (pf := 69) C d3_66 (by decide) (by decide) rfl (fun _ => ?_) (fun q => absurd q (by decide))
  refine own_aload (pc' := 110) C d3_108 rfl rfl rfl ?_
  refine own_iload (pc' := 112) C d3_110 rfl rfl ?_
  refine own_lloadN (pc' := 113) C d3_112 rfl rfl ?_
  refine own_lastore (pc' := 114) (i := 0) (ys := [q, (0 : Int64), (0 : Int64), (0 : Int64)]) C d3_113 A_b2 (by decide) rfl (Nat.le_of_ble_eq_true rfl) rfl g_b2 rfl ?_
  intro h4 W4 A4_
  replace E_a := E_a.wr W4
  replace F_a_heaps := F_a_heaps.other W4 (Or.inl ne_a_b2)
  replace F_a_sizes := F_a_sizes.other W4 (Or.inl ne_a_b2)
  replace A_hp := A_hp.other W4 ne_hp_b2
  replace A_sz := A_sz.other W4 ne_sz_b2
  replace E_b2 := E_b2.wr W4
  replace A_b2 := A4_
  replace Z_ : n0 ≤ _ := Nat.le_trans Z_ (Nat.le_of_eq W4.size.symm)
  replace K_ := K_.wr W4 (Or.inr sz_b2)
  refine own_vret C d3_114 (by decide) (by decide) ?_
  exact ⟨rfl, K_, b2, sz_b2, A_hp, A_sz, E_b2, A_b2⟩

set_option maxRecDepth 65536 in
set_option maxHeartbeats 40000000 in
theorem own_add1_1 (l : Launch) (Z : State) (a0 : Array Value) (hw : ∀ d ∈ tables_1, d.before a0 Z = true) (a : Addr) (q : Int64) (hp sz g : Addr) (x0_ x1_ x2_ x3_ : Int64) (h0 : Heap) (n0 : Nat) (Z_ : n0 ≤ h0.size) (E_a : Exa Z h0 a "com/example/precedence/precedence/LongHeaps") (F_a_heaps : Fld Z h0 a "com/example/precedence/precedence/LongHeaps" "heaps" "[[J" (.ref hp)) (F_a_sizes : Fld Z h0 a "com/example/precedence/precedence/LongHeaps" "sizes" "[I" (.ref sz)) (g_a : n0 ≤ a) (A_hp : AR Z h0 hp [.null, (.ref g)]) (A_sz : AI Z h0 sz .int [(0 : Int32), (1 : Int32)]) (g_hp : n0 ≤ hp) (g_sz : n0 ≤ sz) (ne_a_hp : a ≠ hp) (ne_a_sz : a ≠ sz) (ne_hp_sz : hp ≠ sz) (A_g : AJ Z h0 g [x0_, x1_, x2_, x3_]) (E_g : Exa Z h0 g "[J") (g_g : n0 ≤ g) (ne_a_g : a ≠ g) (ne_hp_g : hp ≠ g) (ne_sz_g : sz ≠ g) :
    Met l (⟨"com/example/precedence/precedence/LongHeaps", "add", "(IJ)V"⟩ : MethodName) prog_58_method_3_code 6 none [] ({ frames := 0, cells := 0, slots := 0, locals := 0 } : Room) Z n0 #[(.ref a), (.int (1 : Int32)), (.long q)] h0 (fun v h => v = none ∧ Keep h0 h [sz, g] ∧ AI Z h sz .int [(0 : Int32), (2 : Int32)] ∧ AJ Z h g [(own_p1 own_lt x0_ q).1, (own_p1 own_lt x0_ q).2, x2_, x3_]) := by
  refine own_met pn3 (fun m => ef3 m a (1 : Int32) q) ?_
  intro p e s m below meth c C
  have K_ : Keep h0 h0 [sz, g] := Keep.refl _ _
  refine own_aloadN (pc' := 1) C d3_0 rfl rfl rfl ?_
  refine own_getfield (pc' := 4) C d3_1 (hw _ (List.mem_of_getElem? (i := 11) rfl)) F_a_heaps rfl ?_
  refine own_iloadN (pc' := 5) C d3_4 rfl rfl ?_
  refine own_aaload (pc' := 6) (v := (.ref g)) (i := 1) C d3_5 A_hp (by decide) rfl rfl rfl ?_
  refine own_astore (pc' := 8) (Ls' := #[.val (.ref a), .val (.int (1 : Int32)), .val (.long q), .second, .val (.ref g), .unset]) C d3_6 rfl rfl rfl ?_
  refine own_aloadN (pc' := 9) C d3_8 rfl rfl rfl ?_
  refine own_getfield (pc' := 12) C d3_9 (hw _ (List.mem_of_getElem? (i := 14) rfl)) F_a_sizes rfl ?_
  refine own_iloadN (pc' := 13) C d3_12 rfl rfl ?_
  refine own_dup2 (pc' := 14) C d3_13 rfl rfl rfl ?_
  refine own_iaload (pc' := 15) (v := (1 : Int32)) (i := 1) C d3_14 A_sz (by decide) rfl rfl rfl ?_
  refine own_dupX2 (pc' := 16) C d3_15 rfl rfl rfl rfl ?_
  refine own_iconst (pc' := 17) (v := (1 : Int32)) C d3_16 own_ki_1 rfl ?_
  refine own_iadd (pc' := 18) (v := (2 : Int32)) C d3_17 (by decide) rfl ?_
  refine own_iastore (pc' := 19) (i := 1) (ys := [(0 : Int32), (2 : Int32)]) C d3_18 A_sz (by decide) rfl (Nat.le_of_ble_eq_true rfl) rfl g_sz rfl ?_
  intro h1 W1 A1_
  replace E_a := E_a.wr W1
  replace F_a_heaps := F_a_heaps.other W1 (Or.inl ne_a_sz)
  replace F_a_sizes := F_a_sizes.other W1 (Or.inl ne_a_sz)
  replace A_hp := A_hp.other W1 ne_hp_sz
  replace A_g := A_g.other W1 (Ne.symm ne_sz_g)
  replace E_g := E_g.wr W1
  replace A_sz := A1_
  replace Z_ : n0 ≤ _ := Nat.le_trans Z_ (Nat.le_of_eq W1.size.symm)
  replace K_ := K_.wr W1 (Or.inl (List.mem_of_getElem? (i := 0) rfl))
  refine own_istore (pc' := 21) (y := (1 : Int32)) (Ls' := #[.val (.ref a), .val (.int (1 : Int32)), .val (.long q), .second, .val (.ref g), .val (.int (1 : Int32))]) C d3_19 rfl rfl rfl ?_
  refine own_aload (pc' := 23) C d3_21 rfl rfl rfl ?_
  refine own_ifnull_n (pc' := 26) C d3_23 rfl ?_
  refine own_iload (pc' := 28) C d3_26 rfl rfl ?_
  refine own_aload (pc' := 30) C d3_28 rfl rfl rfl ?_
  refine own_lenJ (pc' := 31) (v := (4 : Int32)) C d3_30 A_g rfl rfl ?_
  refine own_icmp_ne (pt := 64) (pf := 34) C d3_31 (by decide) (by decide) rfl (fun _ => ?_) (fun q => absurd q (by decide))
  refine own_iload (pc' := 66) C d3_64 rfl rfl ?_
  refine own_if_le (pt := 108) (pf := 69) C d3_66 (by decide) (by decide) rfl (fun q => absurd (by decide) q) (fun _ => ?_)
  refine own_aload (pc' := 71) C d3_69 rfl rfl rfl ?_
  refine own_iload (pc' := 73) C d3_71 rfl rfl ?_
  refine own_iconst (pc' := 74) (v := (1 : Int32)) C d3_73 own_ki_1 rfl ?_
  refine own_isub (pc' := 75) (v := (0 : Int32)) C d3_74 (by decide) rfl ?_
  refine own_iconst (pc' := 76) (v := (2 : Int32)) C d3_75 own_ki_2 rfl ?_
  refine own_idiv (pc' := 77) (v := (0 : Int32)) C d3_76 (by decide) (by decide) rfl ?_
  refine own_laload (pc' := 78) (v := x0_) (i := 0) C d3_77 A_g (by decide) rfl rfl rfl ?_
  refine own_lloadN (pc' := 79) C d3_78 rfl rfl ?_
  refine own_lcmp_le (pt := 108) (pf := 83) C d3_79 rfl d3_80 (by decide) (by decide) rfl ?_ ?_
  · intro hc79
    refine own_aload (pc' := 110) C d3_108 rfl rfl rfl ?_
    refine own_iload (pc' := 112) C d3_110 rfl rfl ?_
    refine own_lloadN (pc' := 113) C d3_112 rfl rfl ?_
    refine own_lastore (pc' := 114) (i := 1) (ys := [x0_, q, x2_, x3_]) C d3_113 A_g (by decide) rfl (Nat.le_of_ble_eq_true rfl) rfl g_g rfl ?_
    intro h2 W2 A2_
    replace E_a := E_a.wr W2
    replace F_a_heaps := F_a_heaps.other W2 (Or.inl ne_a_g)
    replace F_a_sizes := F_a_sizes.other W2 (Or.inl ne_a_g)
    replace A_hp := A_hp.other W2 ne_hp_g
    replace A_sz := A_sz.other W2 ne_sz_g
    replace E_g := E_g.wr W2
    replace A_g := A2_
    replace Z_ : n0 ≤ _ := Nat.le_trans Z_ (Nat.le_of_eq W2.size.symm)
    replace K_ := K_.wr W2 (Or.inl (List.mem_of_getElem? (i := 1) rfl))
    refine own_vret C d3_114 (by decide) (by decide) ?_
    have l_hc79 : own_lt q x0_ = false := by simp [own_lt, hc79]
    refine ⟨rfl, K_, A_sz, ?_⟩
    simp only [own_p1, l_hc79, if_true, if_false, Bool.false_eq_true]; exact A_g
  · intro hc79
    refine own_aload (pc' := 85) C d3_83 rfl rfl rfl ?_
    refine own_iload (pc' := 87) C d3_85 rfl rfl ?_
    refine own_aload (pc' := 89) C d3_87 rfl rfl rfl ?_
    refine own_iload (pc' := 91) C d3_89 rfl rfl ?_
    refine own_iconst (pc' := 92) (v := (1 : Int32)) C d3_91 own_ki_1 rfl ?_
    refine own_isub (pc' := 93) (v := (0 : Int32)) C d3_92 (by decide) rfl ?_
    refine own_iconst (pc' := 94) (v := (2 : Int32)) C d3_93 own_ki_2 rfl ?_
    refine own_idiv (pc' := 95) (v := (0 : Int32)) C d3_94 (by decide) (by decide) rfl ?_
    refine own_laload (pc' := 96) (v := x0_) (i := 0) C d3_95 A_g (by decide) rfl rfl rfl ?_
    refine own_lastore (pc' := 97) (i := 1) (ys := [x0_, x0_, x2_, x3_]) C d3_96 A_g (by decide) rfl (Nat.le_of_ble_eq_true rfl) rfl g_g rfl ?_
    intro h2 W2 A2_
    replace E_a := E_a.wr W2
    replace F_a_heaps := F_a_heaps.other W2 (Or.inl ne_a_g)
    replace F_a_sizes := F_a_sizes.other W2 (Or.inl ne_a_g)
    replace A_hp := A_hp.other W2 ne_hp_g
    replace A_sz := A_sz.other W2 ne_sz_g
    replace E_g := E_g.wr W2
    replace A_g := A2_
    replace Z_ : n0 ≤ _ := Nat.le_trans Z_ (Nat.le_of_eq W2.size.symm)
    replace K_ := K_.wr W2 (Or.inl (List.mem_of_getElem? (i := 1) rfl))
    refine own_iload (pc' := 99) C d3_97 rfl rfl ?_
    refine own_iconst (pc' := 100) (v := (1 : Int32)) C d3_99 own_ki_1 rfl ?_
    refine own_isub (pc' := 101) (v := (0 : Int32)) C d3_100 (by decide) rfl ?_
    refine own_iconst (pc' := 102) (v := (2 : Int32)) C d3_101 own_ki_2 rfl ?_
    refine own_idiv (pc' := 103) (v := (0 : Int32)) C d3_102 (by decide) (by decide) rfl ?_
    refine own_istore (pc' := 105) (y := (0 : Int32)) (Ls' := #[.val (.ref a), .val (.int (1 : Int32)), .val (.long q), .second, .val (.ref g), .val (.int (0 : Int32))]) C d3_103 rfl rfl rfl ?_
    refine own_goto (pc' := 64) C d3_105 (by decide) (by decide) ?_
    refine own_iload (pc' := 66) C d3_64 rfl rfl ?_
    refine own_if_le (pt := 108) (pf := 69) C d3_66 (by decide) (by decide) rfl (fun _ => ?_) (fun q => absurd q (by decide))
    refine own_aload (pc' := 110) C d3_108 rfl rfl rfl ?_
    refine own_iload (pc' := 112) C d3_110 rfl rfl ?_
    refine own_lloadN (pc' := 113) C d3_112 rfl rfl ?_
    refine own_lastore (pc' := 114) (i := 0) (ys := [q, x0_, x2_, x3_]) C d3_113 A_g (by decide) rfl (Nat.le_of_ble_eq_true rfl) rfl g_g rfl ?_
    intro h3 W3 A3_
    replace E_a := E_a.wr W3
    replace F_a_heaps := F_a_heaps.other W3 (Or.inl ne_a_g)
    replace F_a_sizes := F_a_sizes.other W3 (Or.inl ne_a_g)
    replace A_hp := A_hp.other W3 ne_hp_g
    replace A_sz := A_sz.other W3 ne_sz_g
    replace E_g := E_g.wr W3
    replace A_g := A3_
    replace Z_ : n0 ≤ _ := Nat.le_trans Z_ (Nat.le_of_eq W3.size.symm)
    replace K_ := K_.wr W3 (Or.inl (List.mem_of_getElem? (i := 1) rfl))
    refine own_vret C d3_114 (by decide) (by decide) ?_
    have l_hc79 : own_lt q x0_ = true := by simp [own_lt, hc79]
    refine ⟨rfl, K_, A_sz, ?_⟩
    simp only [own_p1, l_hc79, if_true, if_false, Bool.false_eq_true]; exact A_g

set_option maxRecDepth 65536 in
set_option maxHeartbeats 40000000 in
theorem own_add1_2 (l : Launch) (Z : State) (a0 : Array Value) (hw : ∀ d ∈ tables_1, d.before a0 Z = true) (a : Addr) (q : Int64) (hp sz g : Addr) (x0_ x1_ x2_ x3_ : Int64) (h0 : Heap) (n0 : Nat) (Z_ : n0 ≤ h0.size) (E_a : Exa Z h0 a "com/example/precedence/precedence/LongHeaps") (F_a_heaps : Fld Z h0 a "com/example/precedence/precedence/LongHeaps" "heaps" "[[J" (.ref hp)) (F_a_sizes : Fld Z h0 a "com/example/precedence/precedence/LongHeaps" "sizes" "[I" (.ref sz)) (g_a : n0 ≤ a) (A_hp : AR Z h0 hp [.null, (.ref g)]) (A_sz : AI Z h0 sz .int [(0 : Int32), (2 : Int32)]) (g_hp : n0 ≤ hp) (g_sz : n0 ≤ sz) (ne_a_hp : a ≠ hp) (ne_a_sz : a ≠ sz) (ne_hp_sz : hp ≠ sz) (A_g : AJ Z h0 g [x0_, x1_, x2_, x3_]) (E_g : Exa Z h0 g "[J") (g_g : n0 ≤ g) (ne_a_g : a ≠ g) (ne_hp_g : hp ≠ g) (ne_sz_g : sz ≠ g) :
    Met l (⟨"com/example/precedence/precedence/LongHeaps", "add", "(IJ)V"⟩ : MethodName) prog_58_method_3_code 6 none [] ({ frames := 0, cells := 0, slots := 0, locals := 0 } : Room) Z n0 #[(.ref a), (.int (1 : Int32)), (.long q)] h0 (fun v h => v = none ∧ Keep h0 h [sz, g] ∧ AI Z h sz .int [(0 : Int32), (3 : Int32)] ∧ AJ Z h g [(own_p2 own_lt x0_ x1_ q).1, (own_p2 own_lt x0_ x1_ q).2.1, (own_p2 own_lt x0_ x1_ q).2.2, x3_]) := by
  refine own_met pn3 (fun m => ef3 m a (1 : Int32) q) ?_
  intro p e s m below meth c C
  have K_ : Keep h0 h0 [sz, g] := Keep.refl _ _
  refine own_aloadN (pc' := 1) C d3_0 rfl rfl rfl ?_
  refine own_getfield (pc' := 4) C d3_1 (hw _ (List.mem_of_getElem? (i := 11) rfl)) F_a_heaps rfl ?_
  refine own_iloadN (pc' := 5) C d3_4 rfl rfl ?_
  refine own_aaload (pc' := 6) (v := (.ref g)) (i := 1) C d3_5 A_hp (by decide) rfl rfl rfl ?_
  refine own_astore (pc' := 8) (Ls' := #[.val (.ref a), .val (.int (1 : Int32)), .val (.long q), .second, .val (.ref g), .unset]) C d3_6 rfl rfl rfl ?_
  refine own_aloadN (pc' := 9) C d3_8 rfl rfl rfl ?_
  refine own_getfield (pc' := 12) C d3_9 (hw _ (List.mem_of_getElem? (i := 14) rfl)) F_a_sizes rfl ?_
  refine own_iloadN (pc' := 13) C d3_12 rfl rfl ?_
  refine own_dup2 (pc' := 14) C d3_13 rfl rfl rfl ?_
  refine own_iaload (pc' := 15) (v := (2 : Int32)) (i := 1) C d3_14 A_sz (by decide) rfl rfl rfl ?_
  refine own_dupX2 (pc' := 16) C d3_15 rfl rfl rfl rfl ?_
  refine own_iconst (pc' := 17) (v := (1 : Int32)) C d3_16 own_ki_1 rfl ?_
  refine own_iadd (pc' := 18) (v := (3 : Int32)) C d3_17 (by decide) rfl ?_
  refine own_iastore (pc' := 19) (i := 1) (ys := [(0 : Int32), (3 : Int32)]) C d3_18 A_sz (by decide) rfl (Nat.le_of_ble_eq_true rfl) rfl g_sz rfl ?_
  intro h1 W1 A1_
  replace E_a := E_a.wr W1
  replace F_a_heaps := F_a_heaps.other W1 (Or.inl ne_a_sz)
  replace F_a_sizes := F_a_sizes.other W1 (Or.inl ne_a_sz)
  replace A_hp := A_hp.other W1 ne_hp_sz
  replace A_g := A_g.other W1 (Ne.symm ne_sz_g)
  replace E_g := E_g.wr W1
  replace A_sz := A1_
  replace Z_ : n0 ≤ _ := Nat.le_trans Z_ (Nat.le_of_eq W1.size.symm)
  replace K_ := K_.wr W1 (Or.inl (List.mem_of_getElem? (i := 0) rfl))
  refine own_istore (pc' := 21) (y := (2 : Int32)) (Ls' := #[.val (.ref a), .val (.int (1 : Int32)), .val (.long q), .second, .val (.ref g), .val (.int (2 : Int32))]) C d3_19 rfl rfl rfl ?_
  refine own_aload (pc' := 23) C d3_21 rfl rfl rfl ?_
  refine own_ifnull_n (pc' := 26) C d3_23 rfl ?_
  refine own_iload (pc' := 28) C d3_26 rfl rfl ?_
  refine own_aload (pc' := 30) C d3_28 rfl rfl rfl ?_
  refine own_lenJ (pc' := 31) (v := (4 : Int32)) C d3_30 A_g rfl rfl ?_
  refine own_icmp_ne (pt := 64) (pf := 34) C d3_31 (by decide) (by decide) rfl (fun _ => ?_) (fun q => absurd q (by decide))
  refine own_iload (pc' := 66) C d3_64 rfl rfl ?_
  refine own_if_le (pt := 108) (pf := 69) C d3_66 (by decide) (by decide) rfl (fun q => absurd (by decide) q) (fun _ => ?_)
  refine own_aload (pc' := 71) C d3_69 rfl rfl rfl ?_
  refine own_iload (pc' := 73) C d3_71 rfl rfl ?_
  refine own_iconst (pc' := 74) (v := (1 : Int32)) C d3_73 own_ki_1 rfl ?_
  refine own_isub (pc' := 75) (v := (1 : Int32)) C d3_74 (by decide) rfl ?_
  refine own_iconst (pc' := 76) (v := (2 : Int32)) C d3_75 own_ki_2 rfl ?_
  refine own_idiv (pc' := 77) (v := (0 : Int32)) C d3_76 (by decide) (by decide) rfl ?_
  refine own_laload (pc' := 78) (v := x0_) (i := 0) C d3_77 A_g (by decide) rfl rfl rfl ?_
  refine own_lloadN (pc' := 79) C d3_78 rfl rfl ?_
  refine own_lcmp_le (pt := 108) (pf := 83) C d3_79 rfl d3_80 (by decide) (by decide) rfl ?_ ?_
  · intro hc79
    refine own_aload (pc' := 110) C d3_108 rfl rfl rfl ?_
    refine own_iload (pc' := 112) C d3_110 rfl rfl ?_
    refine own_lloadN (pc' := 113) C d3_112 rfl rfl ?_
    refine own_lastore (pc' := 114) (i := 2) (ys := [x0_, x1_, q, x3_]) C d3_113 A_g (by decide) rfl (Nat.le_of_ble_eq_true rfl) rfl g_g rfl ?_
    intro h2 W2 A2_
    replace E_a := E_a.wr W2
    replace F_a_heaps := F_a_heaps.other W2 (Or.inl ne_a_g)
    replace F_a_sizes := F_a_sizes.other W2 (Or.inl ne_a_g)
    replace A_hp := A_hp.other W2 ne_hp_g
    replace A_sz := A_sz.other W2 ne_sz_g
    replace E_g := E_g.wr W2
    replace A_g := A2_
    replace Z_ : n0 ≤ _ := Nat.le_trans Z_ (Nat.le_of_eq W2.size.symm)
    replace K_ := K_.wr W2 (Or.inl (List.mem_of_getElem? (i := 1) rfl))
    refine own_vret C d3_114 (by decide) (by decide) ?_
    have l_hc79 : own_lt q x0_ = false := by simp [own_lt, hc79]
    refine ⟨rfl, K_, A_sz, ?_⟩
    simp only [own_p2, l_hc79, if_true, if_false, Bool.false_eq_true]; exact A_g
  · intro hc79
    refine own_aload (pc' := 85) C d3_83 rfl rfl rfl ?_
    refine own_iload (pc' := 87) C d3_85 rfl rfl ?_
    refine own_aload (pc' := 89) C d3_87 rfl rfl rfl ?_
    refine own_iload (pc' := 91) C d3_89 rfl rfl ?_
    refine own_iconst (pc' := 92) (v := (1 : Int32)) C d3_91 own_ki_1 rfl ?_
    refine own_isub (pc' := 93) (v := (1 : Int32)) C d3_92 (by decide) rfl ?_
    refine own_iconst (pc' := 94) (v := (2 : Int32)) C d3_93 own_ki_2 rfl ?_
    refine own_idiv (pc' := 95) (v := (0 : Int32)) C d3_94 (by decide) (by decide) rfl ?_
    refine own_laload (pc' := 96) (v := x0_) (i := 0) C d3_95 A_g (by decide) rfl rfl rfl ?_
    refine own_lastore (pc' := 97) (i := 2) (ys := [x0_, x1_, x0_, x3_]) C d3_96 A_g (by decide) rfl (Nat.le_of_ble_eq_true rfl) rfl g_g rfl ?_
    intro h2 W2 A2_
    replace E_a := E_a.wr W2
    replace F_a_heaps := F_a_heaps.other W2 (Or.inl ne_a_g)
    replace F_a_sizes := F_a_sizes.other W2 (Or.inl ne_a_g)
    replace A_hp := A_hp.other W2 ne_hp_g
    replace A_sz := A_sz.other W2 ne_sz_g
    replace E_g := E_g.wr W2
    replace A_g := A2_
    replace Z_ : n0 ≤ _ := Nat.le_trans Z_ (Nat.le_of_eq W2.size.symm)
    replace K_ := K_.wr W2 (Or.inl (List.mem_of_getElem? (i := 1) rfl))
    refine own_iload (pc' := 99) C d3_97 rfl rfl ?_
    refine own_iconst (pc' := 100) (v := (1 : Int32)) C d3_99 own_ki_1 rfl ?_
    refine own_isub (pc' := 101) (v := (1 : Int32)) C d3_100 (by decide) rfl ?_
    refine own_iconst (pc' := 102) (v := (2 : Int32)) C d3_101 own_ki_2 rfl ?_
    refine own_idiv (pc' := 103) (v := (0 : Int32)) C d3_102 (by decide) (by decide) rfl ?_
    refine own_istore (pc' := 105) (y := (0 : Int32)) (Ls' := #[.val (.ref a), .val (.int (1 : Int32)), .val (.long q), .second, .val (.ref g), .val (.int (0 : Int32))]) C d3_103 rfl rfl rfl ?_
    refine own_goto (pc' := 64) C d3_105 (by decide) (by decide) ?_
    refine own_iload (pc' := 66) C d3_64 rfl rfl ?_
    refine own_if_le (pt := 108) (pf := 69) C d3_66 (by decide) (by decide) rfl (fun _ => ?_) (fun q => absurd q (by decide))
    refine own_aload (pc' := 110) C d3_108 rfl rfl rfl ?_
    refine own_iload (pc' := 112) C d3_110 rfl rfl ?_
    refine own_lloadN (pc' := 113) C d3_112 rfl rfl ?_
    refine own_lastore (pc' := 114) (i := 0) (ys := [q, x1_, x0_, x3_]) C d3_113 A_g (by decide) rfl (Nat.le_of_ble_eq_true rfl) rfl g_g rfl ?_
    intro h3 W3 A3_
    replace E_a := E_a.wr W3
    replace F_a_heaps := F_a_heaps.other W3 (Or.inl ne_a_g)
    replace F_a_sizes := F_a_sizes.other W3 (Or.inl ne_a_g)
    replace A_hp := A_hp.other W3 ne_hp_g
    replace A_sz := A_sz.other W3 ne_sz_g
    replace E_g := E_g.wr W3
    replace A_g := A3_
    replace Z_ : n0 ≤ _ := Nat.le_trans Z_ (Nat.le_of_eq W3.size.symm)
    replace K_ := K_.wr W3 (Or.inl (List.mem_of_getElem? (i := 1) rfl))
    refine own_vret C d3_114 (by decide) (by decide) ?_
    have l_hc79 : own_lt q x0_ = true := by simp [own_lt, hc79]
    refine ⟨rfl, K_, A_sz, ?_⟩
    simp only [own_p2, l_hc79, if_true, if_false, Bool.false_eq_true]; exact A_g

set_option maxRecDepth 65536 in
set_option maxHeartbeats 40000000 in
theorem own_add1_3 (l : Launch) (Z : State) (a0 : Array Value) (hw : ∀ d ∈ tables_1, d.before a0 Z = true) (a : Addr) (q : Int64) (hp sz g : Addr) (x0_ x1_ x2_ x3_ : Int64) (h0 : Heap) (n0 : Nat) (Z_ : n0 ≤ h0.size) (E_a : Exa Z h0 a "com/example/precedence/precedence/LongHeaps") (F_a_heaps : Fld Z h0 a "com/example/precedence/precedence/LongHeaps" "heaps" "[[J" (.ref hp)) (F_a_sizes : Fld Z h0 a "com/example/precedence/precedence/LongHeaps" "sizes" "[I" (.ref sz)) (g_a : n0 ≤ a) (A_hp : AR Z h0 hp [.null, (.ref g)]) (A_sz : AI Z h0 sz .int [(0 : Int32), (3 : Int32)]) (g_hp : n0 ≤ hp) (g_sz : n0 ≤ sz) (ne_a_hp : a ≠ hp) (ne_a_sz : a ≠ sz) (ne_hp_sz : hp ≠ sz) (A_g : AJ Z h0 g [x0_, x1_, x2_, x3_]) (E_g : Exa Z h0 g "[J") (g_g : n0 ≤ g) (ne_a_g : a ≠ g) (ne_hp_g : hp ≠ g) (ne_sz_g : sz ≠ g) :
    Met l (⟨"com/example/precedence/precedence/LongHeaps", "add", "(IJ)V"⟩ : MethodName) prog_58_method_3_code 6 none [] ({ frames := 0, cells := 0, slots := 0, locals := 0 } : Room) Z n0 #[(.ref a), (.int (1 : Int32)), (.long q)] h0 (fun v h => v = none ∧ Keep h0 h [sz, g] ∧ AI Z h sz .int [(0 : Int32), (4 : Int32)] ∧ AJ Z h g [(own_p3 own_lt x0_ x1_ x2_ q).1, (own_p3 own_lt x0_ x1_ x2_ q).2.1, (own_p3 own_lt x0_ x1_ x2_ q).2.2.1, (own_p3 own_lt x0_ x1_ x2_ q).2.2.2]) := by
  refine own_met pn3 (fun m => ef3 m a (1 : Int32) q) ?_
  intro p e s m below meth c C
  have K_ : Keep h0 h0 [sz, g] := Keep.refl _ _
  refine own_aloadN (pc' := 1) C d3_0 rfl rfl rfl ?_
  refine own_getfield (pc' := 4) C d3_1 (hw _ (List.mem_of_getElem? (i := 11) rfl)) F_a_heaps rfl ?_
  refine own_iloadN (pc' := 5) C d3_4 rfl rfl ?_
  refine own_aaload (pc' := 6) (v := (.ref g)) (i := 1) C d3_5 A_hp (by decide) rfl rfl rfl ?_
  refine own_astore (pc' := 8) (Ls' := #[.val (.ref a), .val (.int (1 : Int32)), .val (.long q), .second, .val (.ref g), .unset]) C d3_6 rfl rfl rfl ?_
  refine own_aloadN (pc' := 9) C d3_8 rfl rfl rfl ?_
  refine own_getfield (pc' := 12) C d3_9 (hw _ (List.mem_of_getElem? (i := 14) rfl)) F_a_sizes rfl ?_
  refine own_iloadN (pc' := 13) C d3_12 rfl rfl ?_
  refine own_dup2 (pc' := 14) C d3_13 rfl rfl rfl ?_
  refine own_iaload (pc' := 15) (v := (3 : Int32)) (i := 1) C d3_14 A_sz (by decide) rfl rfl rfl ?_
  refine own_dupX2 (pc' := 16) C d3_15 rfl rfl rfl rfl ?_
  refine own_iconst (pc' := 17) (v := (1 : Int32)) C d3_16 own_ki_1 rfl ?_
  refine own_iadd (pc' := 18) (v := (4 : Int32)) C d3_17 (by decide) rfl ?_
  refine own_iastore (pc' := 19) (i := 1) (ys := [(0 : Int32), (4 : Int32)]) C d3_18 A_sz (by decide) rfl (Nat.le_of_ble_eq_true rfl) rfl g_sz rfl ?_
  intro h1 W1 A1_
  replace E_a := E_a.wr W1
  replace F_a_heaps := F_a_heaps.other W1 (Or.inl ne_a_sz)
  replace F_a_sizes := F_a_sizes.other W1 (Or.inl ne_a_sz)
  replace A_hp := A_hp.other W1 ne_hp_sz
  replace A_g := A_g.other W1 (Ne.symm ne_sz_g)
  replace E_g := E_g.wr W1
  replace A_sz := A1_
  replace Z_ : n0 ≤ _ := Nat.le_trans Z_ (Nat.le_of_eq W1.size.symm)
  replace K_ := K_.wr W1 (Or.inl (List.mem_of_getElem? (i := 0) rfl))
  refine own_istore (pc' := 21) (y := (3 : Int32)) (Ls' := #[.val (.ref a), .val (.int (1 : Int32)), .val (.long q), .second, .val (.ref g), .val (.int (3 : Int32))]) C d3_19 rfl rfl rfl ?_
  refine own_aload (pc' := 23) C d3_21 rfl rfl rfl ?_
  refine own_ifnull_n (pc' := 26) C d3_23 rfl ?_
  refine own_iload (pc' := 28) C d3_26 rfl rfl ?_
  refine own_aload (pc' := 30) C d3_28 rfl rfl rfl ?_
  refine own_lenJ (pc' := 31) (v := (4 : Int32)) C d3_30 A_g rfl rfl ?_
  refine own_icmp_ne (pt := 64) (pf := 34) C d3_31 (by decide) (by decide) rfl (fun _ => ?_) (fun q => absurd q (by decide))
  refine own_iload (pc' := 66) C d3_64 rfl rfl ?_
  refine own_if_le (pt := 108) (pf := 69) C d3_66 (by decide) (by decide) rfl (fun q => absurd (by decide) q) (fun _ => ?_)
  refine own_aload (pc' := 71) C d3_69 rfl rfl rfl ?_
  refine own_iload (pc' := 73) C d3_71 rfl rfl ?_
  refine own_iconst (pc' := 74) (v := (1 : Int32)) C d3_73 own_ki_1 rfl ?_
  refine own_isub (pc' := 75) (v := (2 : Int32)) C d3_74 (by decide) rfl ?_
  refine own_iconst (pc' := 76) (v := (2 : Int32)) C d3_75 own_ki_2 rfl ?_
  refine own_idiv (pc' := 77) (v := (1 : Int32)) C d3_76 (by decide) (by decide) rfl ?_
  refine own_laload (pc' := 78) (v := x1_) (i := 1) C d3_77 A_g (by decide) rfl rfl rfl ?_
  refine own_lloadN (pc' := 79) C d3_78 rfl rfl ?_
  refine own_lcmp_le (pt := 108) (pf := 83) C d3_79 rfl d3_80 (by decide) (by decide) rfl ?_ ?_
  · intro hc79
    refine own_aload (pc' := 110) C d3_108 rfl rfl rfl ?_
    refine own_iload (pc' := 112) C d3_110 rfl rfl ?_
    refine own_lloadN (pc' := 113) C d3_112 rfl rfl ?_
    refine own_lastore (pc' := 114) (i := 3) (ys := [x0_, x1_, x2_, q]) C d3_113 A_g (by decide) rfl (Nat.le_of_ble_eq_true rfl) rfl g_g rfl ?_
    intro h2 W2 A2_
    replace E_a := E_a.wr W2
    replace F_a_heaps := F_a_heaps.other W2 (Or.inl ne_a_g)
    replace F_a_sizes := F_a_sizes.other W2 (Or.inl ne_a_g)
    replace A_hp := A_hp.other W2 ne_hp_g
    replace A_sz := A_sz.other W2 ne_sz_g
    replace E_g := E_g.wr W2
    replace A_g := A2_
    replace Z_ : n0 ≤ _ := Nat.le_trans Z_ (Nat.le_of_eq W2.size.symm)
    replace K_ := K_.wr W2 (Or.inl (List.mem_of_getElem? (i := 1) rfl))
    refine own_vret C d3_114 (by decide) (by decide) ?_
    have l_hc79 : own_lt q x1_ = false := by simp [own_lt, hc79]
    refine ⟨rfl, K_, A_sz, ?_⟩
    simp only [own_p3, l_hc79, if_true, if_false, Bool.false_eq_true]; exact A_g
  · intro hc79
    refine own_aload (pc' := 85) C d3_83 rfl rfl rfl ?_
    refine own_iload (pc' := 87) C d3_85 rfl rfl ?_
    refine own_aload (pc' := 89) C d3_87 rfl rfl rfl ?_
    refine own_iload (pc' := 91) C d3_89 rfl rfl ?_
    refine own_iconst (pc' := 92) (v := (1 : Int32)) C d3_91 own_ki_1 rfl ?_
    refine own_isub (pc' := 93) (v := (2 : Int32)) C d3_92 (by decide) rfl ?_
    refine own_iconst (pc' := 94) (v := (2 : Int32)) C d3_93 own_ki_2 rfl ?_
    refine own_idiv (pc' := 95) (v := (1 : Int32)) C d3_94 (by decide) (by decide) rfl ?_
    refine own_laload (pc' := 96) (v := x1_) (i := 1) C d3_95 A_g (by decide) rfl rfl rfl ?_
    refine own_lastore (pc' := 97) (i := 3) (ys := [x0_, x1_, x2_, x1_]) C d3_96 A_g (by decide) rfl (Nat.le_of_ble_eq_true rfl) rfl g_g rfl ?_
    intro h2 W2 A2_
    replace E_a := E_a.wr W2
    replace F_a_heaps := F_a_heaps.other W2 (Or.inl ne_a_g)
    replace F_a_sizes := F_a_sizes.other W2 (Or.inl ne_a_g)
    replace A_hp := A_hp.other W2 ne_hp_g
    replace A_sz := A_sz.other W2 ne_sz_g
    replace E_g := E_g.wr W2
    replace A_g := A2_
    replace Z_ : n0 ≤ _ := Nat.le_trans Z_ (Nat.le_of_eq W2.size.symm)
    replace K_ := K_.wr W2 (Or.inl (List.mem_of_getElem? (i := 1) rfl))
    refine own_iload (pc' := 99) C d3_97 rfl rfl ?_
    refine own_iconst (pc' := 100) (v := (1 : Int32)) C d3_99 own_ki_1 rfl ?_
    refine own_isub (pc' := 101) (v := (2 : Int32)) C d3_100 (by decide) rfl ?_
    refine own_iconst (pc' := 102) (v := (2 : Int32)) C d3_101 own_ki_2 rfl ?_
    refine own_idiv (pc' := 103) (v := (1 : Int32)) C d3_102 (by decide) (by decide) rfl ?_
    refine own_istore (pc' := 105) (y := (1 : Int32)) (Ls' := #[.val (.ref a), .val (.int (1 : Int32)), .val (.long q), .second, .val (.ref g), .val (.int (1 : Int32))]) C d3_103 rfl rfl rfl ?_
    refine own_goto (pc' := 64) C d3_105 (by decide) (by decide) ?_
    refine own_iload (pc' := 66) C d3_64 rfl rfl ?_
    refine own_if_le (pt := 108) (pf := 69) C d3_66 (by decide) (by decide) rfl (fun q => absurd (by decide) q) (fun _ => ?_)
    refine own_aload (pc' := 71) C d3_69 rfl rfl rfl ?_
    refine own_iload (pc' := 73) C d3_71 rfl rfl ?_
    refine own_iconst (pc' := 74) (v := (1 : Int32)) C d3_73 own_ki_1 rfl ?_
    refine own_isub (pc' := 75) (v := (0 : Int32)) C d3_74 (by decide) rfl ?_
    refine own_iconst (pc' := 76) (v := (2 : Int32)) C d3_75 own_ki_2 rfl ?_
    refine own_idiv (pc' := 77) (v := (0 : Int32)) C d3_76 (by decide) (by decide) rfl ?_
    refine own_laload (pc' := 78) (v := x0_) (i := 0) C d3_77 A_g (by decide) rfl rfl rfl ?_
    refine own_lloadN (pc' := 79) C d3_78 rfl rfl ?_
    refine own_lcmp_le (pt := 108) (pf := 83) C d3_79 rfl d3_80 (by decide) (by decide) rfl ?_ ?_
    · intro hc79_2
      refine own_aload (pc' := 110) C d3_108 rfl rfl rfl ?_
      refine own_iload (pc' := 112) C d3_110 rfl rfl ?_
      refine own_lloadN (pc' := 113) C d3_112 rfl rfl ?_
      refine own_lastore (pc' := 114) (i := 1) (ys := [x0_, q, x2_, x1_]) C d3_113 A_g (by decide) rfl (Nat.le_of_ble_eq_true rfl) rfl g_g rfl ?_
      intro h3 W3 A3_
      replace E_a := E_a.wr W3
      replace F_a_heaps := F_a_heaps.other W3 (Or.inl ne_a_g)
      replace F_a_sizes := F_a_sizes.other W3 (Or.inl ne_a_g)
      replace A_hp := A_hp.other W3 ne_hp_g
      replace A_sz := A_sz.other W3 ne_sz_g
      replace E_g := E_g.wr W3
      replace A_g := A3_
      replace Z_ : n0 ≤ _ := Nat.le_trans Z_ (Nat.le_of_eq W3.size.symm)
      replace K_ := K_.wr W3 (Or.inl (List.mem_of_getElem? (i := 1) rfl))
      refine own_vret C d3_114 (by decide) (by decide) ?_
      have l_hc79 : own_lt q x1_ = true := by simp [own_lt, hc79]
      have l_hc79_2 : own_lt q x0_ = false := by simp [own_lt, hc79_2]
      refine ⟨rfl, K_, A_sz, ?_⟩
      simp only [own_p3, l_hc79, l_hc79_2, if_true, if_false, Bool.false_eq_true]; exact A_g
    · intro hc79_2
      refine own_aload (pc' := 85) C d3_83 rfl rfl rfl ?_
      refine own_iload (pc' := 87) C d3_85 rfl rfl ?_
      refine own_aload (pc' := 89) C d3_87 rfl rfl rfl ?_
      refine own_iload (pc' := 91) C d3_89 rfl rfl ?_
      refine own_iconst (pc' := 92) (v := (1 : Int32)) C d3_91 own_ki_1 rfl ?_
      refine own_isub (pc' := 93) (v := (0 : Int32)) C d3_92 (by decide) rfl ?_
      refine own_iconst (pc' := 94) (v := (2 : Int32)) C d3_93 own_ki_2 rfl ?_
      refine own_idiv (pc' := 95) (v := (0 : Int32)) C d3_94 (by decide) (by decide) rfl ?_
      refine own_laload (pc' := 96) (v := x0_) (i := 0) C d3_95 A_g (by decide) rfl rfl rfl ?_
      refine own_lastore (pc' := 97) (i := 1) (ys := [x0_, x0_, x2_, x1_]) C d3_96 A_g (by decide) rfl (Nat.le_of_ble_eq_true rfl) rfl g_g rfl ?_
      intro h3 W3 A3_
      replace E_a := E_a.wr W3
      replace F_a_heaps := F_a_heaps.other W3 (Or.inl ne_a_g)
      replace F_a_sizes := F_a_sizes.other W3 (Or.inl ne_a_g)
      replace A_hp := A_hp.other W3 ne_hp_g
      replace A_sz := A_sz.other W3 ne_sz_g
      replace E_g := E_g.wr W3
      replace A_g := A3_
      replace Z_ : n0 ≤ _ := Nat.le_trans Z_ (Nat.le_of_eq W3.size.symm)
      replace K_ := K_.wr W3 (Or.inl (List.mem_of_getElem? (i := 1) rfl))
      refine own_iload (pc' := 99) C d3_97 rfl rfl ?_
      refine own_iconst (pc' := 100) (v := (1 : Int32)) C d3_99 own_ki_1 rfl ?_
      refine own_isub (pc' := 101) (v := (0 : Int32)) C d3_100 (by decide) rfl ?_
      refine own_iconst (pc' := 102) (v := (2 : Int32)) C d3_101 own_ki_2 rfl ?_
      refine own_idiv (pc' := 103) (v := (0 : Int32)) C d3_102 (by decide) (by decide) rfl ?_
      refine own_istore (pc' := 105) (y := (0 : Int32)) (Ls' := #[.val (.ref a), .val (.int (1 : Int32)), .val (.long q), .second, .val (.ref g), .val (.int (0 : Int32))]) C d3_103 rfl rfl rfl ?_
      refine own_goto (pc' := 64) C d3_105 (by decide) (by decide) ?_
      refine own_iload (pc' := 66) C d3_64 rfl rfl ?_
      refine own_if_le (pt := 108) (pf := 69) C d3_66 (by decide) (by decide) rfl (fun _ => ?_) (fun q => absurd q (by decide))
      refine own_aload (pc' := 110) C d3_108 rfl rfl rfl ?_
      refine own_iload (pc' := 112) C d3_110 rfl rfl ?_
      refine own_lloadN (pc' := 113) C d3_112 rfl rfl ?_
      refine own_lastore (pc' := 114) (i := 0) (ys := [q, x0_, x2_, x1_]) C d3_113 A_g (by decide) rfl (Nat.le_of_ble_eq_true rfl) rfl g_g rfl ?_
      intro h4 W4 A4_
      replace E_a := E_a.wr W4
      replace F_a_heaps := F_a_heaps.other W4 (Or.inl ne_a_g)
      replace F_a_sizes := F_a_sizes.other W4 (Or.inl ne_a_g)
      replace A_hp := A_hp.other W4 ne_hp_g
      replace A_sz := A_sz.other W4 ne_sz_g
      replace E_g := E_g.wr W4
      replace A_g := A4_
      replace Z_ : n0 ≤ _ := Nat.le_trans Z_ (Nat.le_of_eq W4.size.symm)
      replace K_ := K_.wr W4 (Or.inl (List.mem_of_getElem? (i := 1) rfl))
      refine own_vret C d3_114 (by decide) (by decide) ?_
      have l_hc79 : own_lt q x1_ = true := by simp [own_lt, hc79]
      have l_hc79_2 : own_lt q x0_ = true := by simp [own_lt, hc79_2]
      refine ⟨rfl, K_, A_sz, ?_⟩
      simp only [own_p3, l_hc79, l_hc79_2, if_true, if_false, Bool.false_eq_true]; exact A_g

set_option maxRecDepth 65536 in
set_option maxHeartbeats 40000000 in
theorem own_add1_4 (l : Launch) (Z : State) (a0 : Array Value) (hw : ∀ d ∈ tables_1, d.before a0 Z = true) (a : Addr) (q : Int64) (hp sz g : Addr) (x0_ x1_ x2_ x3_ : Int64) (h0 : Heap) (n0 : Nat) (Z_ : n0 ≤ h0.size) (E_a : Exa Z h0 a "com/example/precedence/precedence/LongHeaps") (F_a_heaps : Fld Z h0 a "com/example/precedence/precedence/LongHeaps" "heaps" "[[J" (.ref hp)) (F_a_sizes : Fld Z h0 a "com/example/precedence/precedence/LongHeaps" "sizes" "[I" (.ref sz)) (g_a : n0 ≤ a) (A_hp : AR Z h0 hp [.null, (.ref g)]) (A_sz : AI Z h0 sz .int [(0 : Int32), (4 : Int32)]) (g_hp : n0 ≤ hp) (g_sz : n0 ≤ sz) (ne_a_hp : a ≠ hp) (ne_a_sz : a ≠ sz) (ne_hp_sz : hp ≠ sz) (A_g : AJ Z h0 g [x0_, x1_, x2_, x3_]) (E_g : Exa Z h0 g "[J") (g_g : n0 ≤ g) (ne_a_g : a ≠ g) (ne_hp_g : hp ≠ g) (ne_sz_g : sz ≠ g) :
    Met l (⟨"com/example/precedence/precedence/LongHeaps", "add", "(IJ)V"⟩ : MethodName) prog_58_method_3_code 6 none [] ({ frames := 2, cells := 1, slots := 8, locals := 54 } : Room) Z n0 #[(.ref a), (.int (1 : Int32)), (.long q)] h0 (fun v h => v = none ∧ Keep h0 h [hp, sz] ∧ ∃ g' : Addr, h0.size ≤ g' ∧ AR Z h hp [.null, (.ref g')] ∧ AI Z h sz .int [(0 : Int32), (5 : Int32)] ∧ Exa Z h g' "[J" ∧ AJ Z h g' [(own_p4 own_lt x0_ x1_ x2_ x3_ q).1, (own_p4 own_lt x0_ x1_ x2_ x3_ q).2.1, (own_p4 own_lt x0_ x1_ x2_ x3_ q).2.2.1, (own_p4 own_lt x0_ x1_ x2_ x3_ q).2.2.2.1, (own_p4 own_lt x0_ x1_ x2_ x3_ q).2.2.2.2, (0 : Int64), (0 : Int64), (0 : Int64)]) := by
  refine own_met pn3 (fun m => ef3 m a (1 : Int32) q) ?_
  intro p e s m below meth c C
  have K_ : Keep h0 h0 [hp, sz] := Keep.refl _ _
  refine own_aloadN (pc' := 1) C d3_0 rfl rfl rfl ?_
  refine own_getfield (pc' := 4) C d3_1 (hw _ (List.mem_of_getElem? (i := 11) rfl)) F_a_heaps rfl ?_
  refine own_iloadN (pc' := 5) C d3_4 rfl rfl ?_
  refine own_aaload (pc' := 6) (v := (.ref g)) (i := 1) C d3_5 A_hp (by decide) rfl rfl rfl ?_
  refine own_astore (pc' := 8) (Ls' := #[.val (.ref a), .val (.int (1 : Int32)), .val (.long q), .second, .val (.ref g), .unset]) C d3_6 rfl rfl rfl ?_
  refine own_aloadN (pc' := 9) C d3_8 rfl rfl rfl ?_
  refine own_getfield (pc' := 12) C d3_9 (hw _ (List.mem_of_getElem? (i := 14) rfl)) F_a_sizes rfl ?_
  refine own_iloadN (pc' := 13) C d3_12 rfl rfl ?_
  refine own_dup2 (pc' := 14) C d3_13 rfl rfl rfl ?_
  refine own_iaload (pc' := 15) (v := (4 : Int32)) (i := 1) C d3_14 A_sz (by decide) rfl rfl rfl ?_
  refine own_dupX2 (pc' := 16) C d3_15 rfl rfl rfl rfl ?_
  refine own_iconst (pc' := 17) (v := (1 : Int32)) C d3_16 own_ki_1 rfl ?_
  refine own_iadd (pc' := 18) (v := (5 : Int32)) C d3_17 (by decide) rfl ?_
  refine own_iastore (pc' := 19) (i := 1) (ys := [(0 : Int32), (5 : Int32)]) C d3_18 A_sz (by decide) rfl (Nat.le_of_ble_eq_true rfl) rfl g_sz rfl ?_
  intro h1 W1 A1_
  replace E_a := E_a.wr W1
  replace F_a_heaps := F_a_heaps.other W1 (Or.inl ne_a_sz)
  replace F_a_sizes := F_a_sizes.other W1 (Or.inl ne_a_sz)
  replace A_hp := A_hp.other W1 ne_hp_sz
  replace A_g := A_g.other W1 (Ne.symm ne_sz_g)
  replace E_g := E_g.wr W1
  replace A_sz := A1_
  replace Z_ : n0 ≤ _ := Nat.le_trans Z_ (Nat.le_of_eq W1.size.symm)
  replace K_ := K_.wr W1 (Or.inl (List.mem_of_getElem? (i := 1) rfl))
  refine own_istore (pc' := 21) (y := (4 : Int32)) (Ls' := #[.val (.ref a), .val (.int (1 : Int32)), .val (.long q), .second, .val (.ref g), .val (.int (4 : Int32))]) C d3_19 rfl rfl rfl ?_
  refine own_aload (pc' := 23) C d3_21 rfl rfl rfl ?_
  refine own_ifnull_n (pc' := 26) C d3_23 rfl ?_
  refine own_iload (pc' := 28) C d3_26 rfl rfl ?_
  refine own_aload (pc' := 30) C d3_28 rfl rfl rfl ?_
  refine own_lenJ (pc' := 31) (v := (4 : Int32)) C d3_30 A_g rfl rfl ?_
  refine own_icmp_ne (pt := 64) (pf := 34) C d3_31 (by decide) (by decide) rfl (fun q => absurd (by decide) q) (fun _ => ?_)
  refine own_aload (pc' := 36) C d3_34 rfl rfl rfl ?_
  refine own_ifnonnull_y (pt := 45) C d3_36 (by decide) (by decide) ?_
  refine own_aload (pc' := 47) C d3_45 rfl rfl rfl ?_
  refine own_iconst (pc' := 48) (v := (2 : Int32)) C d3_47 own_ki_2 rfl ?_
  refine own_iload (pc' := 50) C d3_48 rfl rfl ?_
  refine own_imul (pc' := 51) (v := (8 : Int32)) C d3_50 (by decide) rfl ?_
  refine own_callS (pc' := 54) (wL := 0) (argsL := [(.ref g), (.int (8 : Int32))]) (rest := []) C (own_copy l Z a0 hw g x0_ x1_ x2_ x3_ h1 n0 Z_ A_g) d3_51 (hw _ (List.mem_of_getElem? (i := 23) rfl)) (hw _ (List.mem_of_getElem? (i := 24) rfl)) (hw _ (List.mem_of_getElem? (i := 25) rfl)) (hw _ (List.mem_of_getElem? (i := 26) rfl)) (by decide) (by decide) (by decide) rfl (lenOf pd4 rfl) rfl rfl (Nat.le_of_eq rfl) (by decide) (by decide) rfl ?_
  rintro _ h2 ⟨o_2, rfl, sz2, K2, A_o_2, E_o_2⟩
  have ne_a_o_2 : a ≠ o_2 := Nat.ne_of_lt (Nat.lt_of_lt_of_le E_a.lt sz2)
  have ne_hp_o_2 : hp ≠ o_2 := Nat.ne_of_lt (Nat.lt_of_lt_of_le A_hp.lt sz2)
  have ne_sz_o_2 : sz ≠ o_2 := Nat.ne_of_lt (Nat.lt_of_lt_of_le A_sz.lt sz2)
  have ne_g_o_2 : g ≠ o_2 := Nat.ne_of_lt (Nat.lt_of_lt_of_le A_g.lt sz2)
  have g_o_2 : n0 ≤ o_2 := Nat.le_trans Z_ sz2
  have sz_o_2 : h0.size ≤ o_2 := Nat.le_trans K_.1 sz2
  replace E_a := E_a.keep K2
  replace F_a_heaps := F_a_heaps.keep K2 nin0
  replace F_a_sizes := F_a_sizes.keep K2 nin0
  replace A_hp := A_hp.keep K2 nin0
  replace A_sz := A_sz.keep K2 nin0
  replace A_g := A_g.keep K2 nin0
  replace E_g := E_g.keep K2
  replace Z_ := Nat.le_trans Z_ K2.1
  replace K_ := K_.trans K2 all0
  show Wp p l e _ s m _ below meth c n0 _ h2 (0 + 1) (0 + 8) (mkF m 54 #[.val (.ref a), .val (.int (1 : Int32)), .val (.long q), .second, .val (.ref g), .val (.int (4 : Int32))] [(.ref o_2)])
  refine own_astore (pc' := 56) (Ls' := #[.val (.ref a), .val (.int (1 : Int32)), .val (.long q), .second, .val (.ref o_2), .val (.int (4 : Int32))]) C d3_54 rfl rfl rfl ?_
  refine own_aloadN (pc' := 57) C d3_56 rfl rfl rfl ?_
  refine own_getfield (pc' := 60) C d3_57 (hw _ (List.mem_of_getElem? (i := 11) rfl)) F_a_heaps rfl ?_
  refine own_iloadN (pc' := 61) C d3_60 rfl rfl ?_
  refine own_aload (pc' := 63) C d3_61 rfl rfl rfl ?_
  refine own_aastore (pc' := 64) (i := 1) (ys := [.null, (.ref o_2)]) C d3_63 A_hp E_o_2 (by decide) rfl (Nat.le_of_ble_eq_true rfl) rfl g_hp rfl ?_
  intro h3 W3 A3_
  replace E_a := E_a.wr W3
  replace F_a_heaps := F_a_heaps.other W3 (Or.inl ne_a_hp)
  replace F_a_sizes := F_a_sizes.other W3 (Or.inl ne_a_hp)
  replace A_sz := A_sz.other W3 (Ne.symm ne_hp_sz)
  replace A_g := A_g.other W3 (Ne.symm ne_hp_g)
  replace E_g := E_g.wr W3
  replace A_o_2 := A_o_2.other W3 (Ne.symm ne_hp_o_2)
  replace E_o_2 := E_o_2.wr W3
  replace A_hp := A3_
  replace Z_ : n0 ≤ _ := Nat.le_trans Z_ (Nat.le_of_eq W3.size.symm)
  replace K_ := K_.wr W3 (Or.inl (List.mem_of_getElem? (i := 0) rfl))
  refine own_iload (pc' := 66) C d3_64 rfl rfl ?_
  refine own_if_le (pt := 108) (pf := 69) C d3_66 (by decide) (by decide) rfl (fun q => absurd (by decide) q) (fun _ => ?_)
  refine own_aload (pc' := 71) C d3_69 rfl rfl rfl ?_
  refine own_iload (pc' := 73) C d3_71 rfl rfl ?_
  refine own_iconst (pc' := 74) (v := (1 : Int32)) C d3_73 own_ki_1 rfl ?_
  refine own_isub (pc' := 75) (v := (3 : Int32)) C d3_74 (by decide) rfl ?_
  refine own_iconst (pc' := 76) (v := (2 : Int32)) C d3_75 own_ki_2 rfl ?_
  refine own_idiv (pc' := 77) (v := (1 : Int32)) C d3_76 (by decide) (by decide) rfl ?_
  refine own_laload (pc' := 78) (v := x1_) (i := 1) C d3_77 A_o_2 (by decide) rfl rfl rfl ?_
  refine own_lloadN (pc' := 79) C d3_78 rfl rfl ?_
  refine own_lcmp_le (pt := 108) (pf := 83) C d3_79 rfl d3_80 (by decide) (by decide) rfl ?_ ?_
  · intro hc79
    refine own_aload (pc' := 110) C d3_108 rfl rfl rfl ?_
    refine own_iload (pc' := 112) C d3_110 rfl rfl ?_
    refine own_lloadN (pc' := 113) C d3_112 rfl rfl ?_
    refine own_lastore (pc' := 114) (i := 4) (ys := [x0_, x1_, x2_, x3_, q, (0 : Int64), (0 : Int64), (0 : Int64)]) C d3_113 A_o_2 (by decide) rfl (Nat.le_of_ble_eq_true rfl) rfl g_o_2 rfl ?_
    intro h4 W4 A4_
    replace E_a := E_a.wr W4
    replace F_a_heaps := F_a_heaps.other W4 (Or.inl ne_a_o_2)
    replace F_a_sizes := F_a_sizes.other W4 (Or.inl ne_a_o_2)
    replace A_hp := A_hp.other W4 ne_hp_o_2
    replace A_sz := A_sz.other W4 ne_sz_o_2
    replace A_g := A_g.other W4 ne_g_o_2
    replace E_g := E_g.wr W4
    replace E_o_2 := E_o_2.wr W4
    replace A_o_2 := A4_
    replace Z_ : n0 ≤ _ := Nat.le_trans Z_ (Nat.le_of_eq W4.size.symm)
    replace K_ := K_.wr W4 (Or.inr sz_o_2)
    refine own_vret C d3_114 (by decide) (by decide) ?_
    have l_hc79 : own_lt q x1_ = false := by simp [own_lt, hc79]
    refine ⟨rfl, K_, o_2, sz_o_2, A_hp, A_sz, E_o_2, ?_⟩
    simp only [own_p4, l_hc79, if_true, if_false, Bool.false_eq_true]; exact A_o_2
  · intro hc79
    refine own_aload (pc' := 85) C d3_83 rfl rfl rfl ?_
    refine own_iload (pc' := 87) C d3_85 rfl rfl ?_
    refine own_aload (pc' := 89) C d3_87 rfl rfl rfl ?_
    refine own_iload (pc' := 91) C d3_89 rfl rfl ?_
    refine own_iconst (pc' := 92) (v := (1 : Int32)) C d3_91 own_ki_1 rfl ?_
    refine own_isub (pc' := 93) (v := (3 : Int32)) C d3_92 (by decide) rfl ?_
    refine own_iconst (pc' := 94) (v := (2 : Int32)) C d3_93 own_ki_2 rfl ?_
    refine own_idiv (pc' := 95) (v := (1 : Int32)) C d3_94 (by decide) (by decide) rfl ?_
    refine own_laload (pc' := 96) (v := x1_) (i := 1) C d3_95 A_o_2 (by decide) rfl rfl rfl ?_
    refine own_lastore (pc' := 97) (i := 4) (ys := [x0_, x1_, x2_, x3_, x1_, (0 : Int64), (0 : Int64), (0 : Int64)]) C d3_96 A_o_2 (by decide) rfl (Nat.le_of_ble_eq_true rfl) rfl g_o_2 rfl ?_
    intro h4 W4 A4_
    replace E_a := E_a.wr W4
    replace F_a_heaps := F_a_heaps.other W4 (Or.inl ne_a_o_2)
    replace F_a_sizes := F_a_sizes.other W4 (Or.inl ne_a_o_2)
    replace A_hp := A_hp.other W4 ne_hp_o_2
    replace A_sz := A_sz.other W4 ne_sz_o_2
    replace A_g := A_g.other W4 ne_g_o_2
    replace E_g := E_g.wr W4
    replace E_o_2 := E_o_2.wr W4
    replace A_o_2 := A4_
    replace Z_ : n0 ≤ _ := Nat.le_trans Z_ (Nat.le_of_eq W4.size.symm)
    replace K_ := K_.wr W4 (Or.inr sz_o_2)
    refine own_iload (pc' := 99) C d3_97 rfl rfl ?_
    refine own_iconst (pc' := 100) (v := (1 : Int32)) C d3_99 own_ki_1 rfl ?_
    refine own_isub (pc' := 101) (v := (3 : Int32)) C d3_100 (by decide) rfl ?_
    refine own_iconst (pc' := 102) (v := (2 : Int32)) C d3_101 own_ki_2 rfl ?_
    refine own_idiv (pc' := 103) (v := (1 : Int32)) C d3_102 (by decide) (by decide) rfl ?_
    refine own_istore (pc' := 105) (y := (1 : Int32)) (Ls' := #[.val (.ref a), .val (.int (1 : Int32)), .val (.long q), .second, .val (.ref o_2), .val (.int (1 : Int32))]) C d3_103 rfl rfl rfl ?_
    refine own_goto (pc' := 64) C d3_105 (by decide) (by decide) ?_
    refine own_iload (pc' := 66) C d3_64 rfl rfl ?_
    refine own_if_le (pt := 108) (pf := 69) C d3_66 (by decide) (by decide) rfl (fun q => absurd (by decide) q) (fun _ => ?_)
    refine own_aload (pc' := 71) C d3_69 rfl rfl rfl ?_
    refine own_iload (pc' := 73) C d3_71 rfl rfl ?_
    refine own_iconst (pc' := 74) (v := (1 : Int32)) C d3_73 own_ki_1 rfl ?_
    refine own_isub (pc' := 75) (v := (0 : Int32)) C d3_74 (by decide) rfl ?_
    refine own_iconst (pc' := 76) (v := (2 : Int32)) C d3_75 own_ki_2 rfl ?_
    refine own_idiv (pc' := 77) (v := (0 : Int32)) C d3_76 (by decide) (by decide) rfl ?_
    refine own_laload (pc' := 78) (v := x0_) (i := 0) C d3_77 A_o_2 (by decide) rfl rfl rfl ?_
    refine own_lloadN (pc' := 79) C d3_78 rfl rfl ?_
    refine own_lcmp_le (pt := 108) (pf := 83) C d3_79 rfl d3_80 (by decide) (by decide) rfl ?_ ?_
    · intro hc79_2
      refine own_aload (pc' := 110) C d3_108 rfl rfl rfl ?_
      refine own_iload (pc' := 112) C d3_110 rfl rfl ?_
      refine own_lloadN (pc' := 113) C d3_112 rfl rfl ?_
      refine own_lastore (pc' := 114) (i := 1) (ys := [x0_, q, x2_, x3_, x1_, (0 : Int64), (0 : Int64), (0 : Int64)]) C d3_113 A_o_2 (by decide) rfl (Nat.le_of_ble_eq_true rfl) rfl g_o_2 rfl ?_
      intro h5 W5 A5_
      replace E_a := E_a.wr W5
      replace F_a_heaps := F_a_heaps.other W5 (Or.inl ne_a_o_2)
      replace F_a_sizes := F_a_sizes.other W5 (Or.inl ne_a_o_2)
      replace A_hp := A_hp.other W5 ne_hp_o_2
      replace A_sz := A_sz.other W5 ne_sz_o_2
      replace A_g := A_g.other W5 ne_g_o_2
      replace E_g := E_g.wr W5
      replace E_o_2 := E_o_2.wr W5
      replace A_o_2 := A5_
      replace Z_ : n0 ≤ _ := Nat.le_trans Z_ (Nat.le_of_eq W5.size.symm)
      replace K_ := K_.wr W5 (Or.inr sz_o_2)
      refine own_vret C d3_114 (by decide) (by decide) ?_
      have l_hc79 : own_lt q x1_ = true := by simp [own_lt, hc79]
      have l_hc79_2 : own_lt q x0_ = false := by simp [own_lt, hc79_2]
      refine ⟨rfl, K_, o_2, sz_o_2, A_hp, A_sz, E_o_2, ?_⟩
      simp only [own_p4, l_hc79, l_hc79_2, if_true, if_false, Bool.false_eq_true]; exact A_o_2
    · intro hc79_2
      refine own_aload (pc' := 85) C d3_83 rfl rfl rfl ?_
      refine own_iload (pc' := 87) C d3_85 rfl rfl ?_
      refine own_aload (pc' := 89) C d3_87 rfl rfl rfl ?_
      refine own_iload (pc' := 91) C d3_89 rfl rfl ?_
      refine own_iconst (pc' := 92) (v := (1 : Int32)) C d3_91 own_ki_1 rfl ?_
      refine own_isub (pc' := 93) (v := (0 : Int32)) C d3_92 (by decide) rfl ?_
      refine own_iconst (pc' := 94) (v := (2 : Int32)) C d3_93 own_ki_2 rfl ?_
      refine own_idiv (pc' := 95) (v := (0 : Int32)) C d3_94 (by decide) (by decide) rfl ?_
      refine own_laload (pc' := 96) (v := x0_) (i := 0) C d3_95 A_o_2 (by decide) rfl rfl rfl ?_
      refine own_lastore (pc' := 97) (i := 1) (ys := [x0_, x0_, x2_, x3_, x1_, (0 : Int64), (0 : Int64), (0 : Int64)]) C d3_96 A_o_2 (by decide) rfl (Nat.le_of_ble_eq_true rfl) rfl g_o_2 rfl ?_
      intro h5 W5 A5_
      replace E_a := E_a.wr W5
      replace F_a_heaps := F_a_heaps.other W5 (Or.inl ne_a_o_2)
      replace F_a_sizes := F_a_sizes.other W5 (Or.inl ne_a_o_2)
      replace A_hp := A_hp.other W5 ne_hp_o_2
      replace A_sz := A_sz.other W5 ne_sz_o_2
      replace A_g := A_g.other W5 ne_g_o_2
      replace E_g := E_g.wr W5
      replace E_o_2 := E_o_2.wr W5
      replace A_o_2 := A5_
      replace Z_ : n0 ≤ _ := Nat.le_trans Z_ (Nat.le_of_eq W5.size.symm)
      replace K_ := K_.wr W5 (Or.inr sz_o_2)
      refine own_iload (pc' := 99) C d3_97 rfl rfl ?_
      refine own_iconst (pc' := 100) (v := (1 : Int32)) C d3_99 own_ki_1 rfl ?_
      refine own_isub (pc' := 101) (v := (0 : Int32)) C d3_100 (by decide) rfl ?_
      refine own_iconst (pc' := 102) (v := (2 : Int32)) C d3_101 own_ki_2 rfl ?_
      refine own_idiv (pc' := 103) (v := (0 : Int32)) C d3_102 (by decide) (by decide) rfl ?_
      refine own_istore (pc' := 105) (y := (0 : Int32)) (Ls' := #[.val (.ref a), .val (.int (1 : Int32)), .val (.long q), .second, .val (.ref o_2), .val (.int (0 : Int32))]) C d3_103 rfl rfl rfl ?_
      refine own_goto (pc' := 64) C d3_105 (by decide) (by decide) ?_
      refine own_iload (pc' := 66) C d3_64 rfl rfl ?_
      refine own_if_le (pt := 108) (pf := 69) C d3_66 (by decide) (by decide) rfl (fun _ => ?_) (fun q => absurd q (by decide))
      refine own_aload (pc' := 110) C d3_108 rfl rfl rfl ?_
      refine own_iload (pc' := 112) C d3_110 rfl rfl ?_
      refine own_lloadN (pc' := 113) C d3_112 rfl rfl ?_
      refine own_lastore (pc' := 114) (i := 0) (ys := [q, x0_, x2_, x3_, x1_, (0 : Int64), (0 : Int64), (0 : Int64)]) C d3_113 A_o_2 (by decide) rfl (Nat.le_of_ble_eq_true rfl) rfl g_o_2 rfl ?_
      intro h6 W6 A6_
      replace E_a := E_a.wr W6
      replace F_a_heaps := F_a_heaps.other W6 (Or.inl ne_a_o_2)
      replace F_a_sizes := F_a_sizes.other W6 (Or.inl ne_a_o_2)
      replace A_hp := A_hp.other W6 ne_hp_o_2
      replace A_sz := A_sz.other W6 ne_sz_o_2
      replace A_g := A_g.other W6 ne_g_o_2
      replace E_g := E_g.wr W6
      replace E_o_2 := E_o_2.wr W6
      replace A_o_2 := A6_
      replace Z_ : n0 ≤ _ := Nat.le_trans Z_ (Nat.le_of_eq W6.size.symm)
      replace K_ := K_.wr W6 (Or.inr sz_o_2)
      refine own_vret C d3_114 (by decide) (by decide) ?_
      have l_hc79 : own_lt q x1_ = true := by simp [own_lt, hc79]
      have l_hc79_2 : own_lt q x0_ = true := by simp [own_lt, hc79_2]
      refine ⟨rfl, K_, o_2, sz_o_2, A_hp, A_sz, E_o_2, ?_⟩
      simp only [own_p4, l_hc79, l_hc79_2, if_true, if_false, Bool.false_eq_true]; exact A_o_2

theorem d6_0 : decode prog_58_method_5_code 0 = .ok (.aload_n 0, 1) := by decide +kernel
theorem d6_1 : decode prog_58_method_5_code 1 = .ok (.getfield 9, 3) := by decide +kernel
theorem d6_4 : decode prog_58_method_5_code 4 = .ok (.iload_n 1, 1) := by decide +kernel
theorem d6_5 : decode prog_58_method_5_code 5 = .ok (.aaload, 1) := by decide +kernel
theorem d6_6 : decode prog_58_method_5_code 6 = .ok (.astore_n 2, 1) := by decide +kernel
theorem d6_7 : decode prog_58_method_5_code 7 = .ok (.aload_n 2, 1) := by decide +kernel
theorem d6_8 : decode prog_58_method_5_code 8 = .ok (.iconst 0, 1) := by decide +kernel
theorem d6_9 : decode prog_58_method_5_code 9 = .ok (.laload, 1) := by decide +kernel
theorem d6_10 : decode prog_58_method_5_code 10 = .ok (.lstore_n 3, 1) := by decide +kernel
theorem d6_11 : decode prog_58_method_5_code 11 = .ok (.aload_n 0, 1) := by decide +kernel
theorem d6_12 : decode prog_58_method_5_code 12 = .ok (.getfield 15, 3) := by decide +kernel
theorem d6_15 : decode prog_58_method_5_code 15 = .ok (.iload_n 1, 1) := by decide +kernel
theorem d6_16 : decode prog_58_method_5_code 16 = .ok (.dup2, 1) := by decide +kernel
theorem d6_17 : decode prog_58_method_5_code 17 = .ok (.iaload, 1) := by decide +kernel
theorem d6_18 : decode prog_58_method_5_code 18 = .ok (.iconst 1, 1) := by decide +kernel
theorem d6_19 : decode prog_58_method_5_code 19 = .ok (.isub, 1) := by decide +kernel
theorem d6_20 : decode prog_58_method_5_code 20 = .ok (.dup_x2, 1) := by decide +kernel
theorem d6_21 : decode prog_58_method_5_code 21 = .ok (.iastore, 1) := by decide +kernel
theorem d6_22 : decode prog_58_method_5_code 22 = .ok (.istore 5, 2) := by decide +kernel
theorem d6_24 : decode prog_58_method_5_code 24 = .ok (.aload_n 2, 1) := by decide +kernel
theorem d6_25 : decode prog_58_method_5_code 25 = .ok (.iload 5, 2) := by decide +kernel
theorem d6_27 : decode prog_58_method_5_code 27 = .ok (.laload, 1) := by decide +kernel
theorem d6_28 : decode prog_58_method_5_code 28 = .ok (.lstore 6, 2) := by decide +kernel
theorem d6_30 : decode prog_58_method_5_code 30 = .ok (.iconst 0, 1) := by decide +kernel
theorem d6_31 : decode prog_58_method_5_code 31 = .ok (.istore 8, 2) := by decide +kernel
theorem d6_33 : decode prog_58_method_5_code 33 = .ok (.iconst 1, 1) := by decide +kernel
theorem d6_34 : decode prog_58_method_5_code 34 = .ok (.istore 9, 2) := by decide +kernel
theorem d6_36 : decode prog_58_method_5_code 36 = .ok (.iload 9, 2) := by decide +kernel
theorem d6_38 : decode prog_58_method_5_code 38 = .ok (.iload 5, 2) := by decide +kernel
theorem d6_40 : decode prog_58_method_5_code 40 = .ok (.if_icmp .ge 65, 3) := by decide +kernel
theorem d6_105 : decode prog_58_method_5_code 105 = .ok (.aload_n 2, 1) := by decide +kernel
theorem d6_106 : decode prog_58_method_5_code 106 = .ok (.iload 8, 2) := by decide +kernel
theorem d6_108 : decode prog_58_method_5_code 108 = .ok (.lload 6, 2) := by decide +kernel
theorem d6_110 : decode prog_58_method_5_code 110 = .ok (.lastore, 1) := by decide +kernel
theorem d6_111 : decode prog_58_method_5_code 111 = .ok (.lload_n 3, 1) := by decide +kernel
theorem d6_112 : decode prog_58_method_5_code 112 = .ok (.lreturn, 1) := by decide +kernel
theorem pn6 : plainName "com/example/precedence/precedence/LongHeaps" = true := by first | (simp [plainName, overriddenIn]; done) | decide +kernel
theorem ef6 (m : MethodId) (x0 : Addr) (x1 : Int32) : entryFrame m #[(.ref x0), (.int x1)] 10 = mkF m 0 #[.val (.ref x0), .val (.int x1), .unset, .unset, .unset, .unset, .unset, .unset, .unset, .unset] [] := by first | (simp [entryFrame, mkF, argsToLocals, Value.category]; done) | rfl
set_option maxRecDepth 65536 in
set_option maxHeartbeats 40000000 in
theorem own_poll0_0 (l : Launch) (Z : State) (a0 : Array Value) (hw : ∀ d ∈ tables_1, d.before a0 Z = true) (a : Addr) (hp sz g : Addr) (x0_ x1_ x2_ x3_ x4_ x5_ x6_ x7_ : Int64) (h0 : Heap) (n0 : Nat) (Z_ : n0 ≤ h0.size) (E_a : Exa Z h0 a "com/example/precedence/precedence/LongHeaps") (F_a_heaps : Fld Z h0 a "com/example/precedence/precedence/LongHeaps" "heaps" "[[J" (.ref hp)) (F_a_sizes : Fld Z h0 a "com/example/precedence/precedence/LongHeaps" "sizes" "[I" (.ref sz)) (g_a : n0 ≤ a) (A_hp : AR Z h0 hp [(.ref g), .null]) (A_sz : AI Z h0 sz .int [(1 : Int32), (0 : Int32)]) (g_hp : n0 ≤ hp) (g_sz : n0 ≤ sz) (ne_a_hp : a ≠ hp) (ne_a_sz : a ≠ sz) (ne_hp_sz : hp ≠ sz) (A_g : AJ Z h0 g [x0_, x1_, x2_, x3_, x4_, x5_, x6_, x7_]) (E_g : Exa Z h0 g "[J") (g_g : n0 ≤ g) (ne_a_g : a ≠ g) (ne_hp_g : hp ≠ g) (ne_sz_g : sz ≠ g) :
    Met l (⟨"com/example/precedence/precedence/LongHeaps", "poll", "(I)J"⟩ : MethodName) prog_58_method_5_code 10 (some .long) [] ({ frames := 0, cells := 0, slots := 0, locals := 0 } : Room) Z n0 #[(.ref a), (.int (0 : Int32))] h0 (fun v h => v = some (.long x0_) ∧ Keep h0 h [sz, g] ∧ AI Z h sz .int [(0 : Int32), (0 : Int32)] ∧ AJ Z h g [x0_, x1_, x2_, x3_, x4_, x5_, x6_, x7_]) := by
  refine own_met pn6 (fun m => ef6 m a (0 : Int32)) ?_
  intro p e s m below meth c C
  have K_ : Keep h0 h0 [sz, g] := Keep.refl _ _
  refine own_aloadN (pc' := 1) C d6_0 rfl rfl rfl ?_
  refine own_getfield (pc' := 4) C d6_1 (hw _ (List.mem_of_getElem? (i := 11) rfl)) F_a_heaps rfl ?_
  refine own_iloadN (pc' := 5) C d6_4 rfl rfl ?_
  refine own_aaload (pc' := 6) (v := (.ref g)) (i := 0) C d6_5 A_hp (by decide) rfl rfl rfl ?_
  refine own_astoreN (pc' := 7) (Ls' := #[.val (.ref a), .val (.int (0 : Int32)), .val (.ref g), .unset, .unset, .unset, .unset, .unset, .unset, .unset]) C d6_6 rfl rfl rfl ?_
  refine own_aloadN (pc' := 8) C d6_7 rfl rfl rfl ?_
  refine own_iconst (pc' := 9) (v := (0 : Int32)) C d6_8 own_ki_0 rfl ?_
  refine own_laload (pc' := 10) (v := x0_) (i := 0) C d6_9 A_g (by decide) rfl rfl rfl ?_
  refine own_lstoreN (pc' := 11) (y := x0_) (Ls' := #[.val (.ref a), .val (.int (0 : Int32)), .val (.ref g), .val (.long x0_), .second, .unset, .unset, .unset, .unset, .unset]) C d6_10 rfl rfl rfl ?_
  refine own_aloadN (pc' := 12) C d6_11 rfl rfl rfl ?_
  refine own_getfield (pc' := 15) C d6_12 (hw _ (List.mem_of_getElem? (i := 14) rfl)) F_a_sizes rfl ?_
  refine own_iloadN (pc' := 16) C d6_15 rfl rfl ?_
  refine own_dup2 (pc' := 17) C d6_16 rfl rfl rfl ?_
  refine own_iaload (pc' := 18) (v := (1 : Int32)) (i := 0) C d6_17 A_sz (by decide) rfl rfl rfl ?_
  refine own_iconst (pc' := 19) (v := (1 : Int32)) C d6_18 own_ki_1 rfl ?_
  refine own_isub (pc' := 20) (v := (0 : Int32)) C d6_19 (by decide) rfl ?_
  refine own_dupX2 (pc' := 21) C d6_20 rfl rfl rfl rfl ?_
  refine own_iastore (pc' := 22) (i := 0) (ys := [(0 : Int32), (0 : Int32)]) C d6_21 A_sz (by decide) rfl (Nat.le_of_ble_eq_true rfl) rfl g_sz rfl ?_
  intro h1 W1 A1_
  replace E_a := E_a.wr W1
  replace F_a_heaps := F_a_heaps.other W1 (Or.inl ne_a_sz)
  replace F_a_sizes := F_a_sizes.other W1 (Or.inl ne_a_sz)
  replace A_hp := A_hp.other W1 ne_hp_sz
  replace A_g := A_g.other W1 (Ne.symm ne_sz_g)
  replace E_g := E_g.wr W1
  replace A_sz := A1_
  replace Z_ : n0 ≤ _ := Nat.le_trans Z_ (Nat.le_of_eq W1.size.symm)
  replace K_ := K_.wr W1 (Or.inl (List.mem_of_getElem? (i := 0) rfl))
  refine own_istore (pc' := 24) (y := (0 : Int32)) (Ls' := #[.val (.ref a), .val (.int (0 : Int32)), .val (.ref g), .val (.long x0_), .second, .val (.int (0 : Int32)), .unset, .unset, .unset, .unset]) C d6_22 rfl rfl rfl ?_
  refine own_aloadN (pc' := 25) C d6_24 rfl rfl rfl ?_
  refine own_iload (pc' := 27) C d6_25 rfl rfl ?_
  refine own_laload (pc' := 28) (v := x0_) (i := 0) C d6_27 A_g (by decide) rfl rfl rfl ?_
  refine own_lstore (pc' := 30) (y := x0_) (Ls' := #[.val (.ref a), .val (.int (0 : Int32)), .val (.ref g), .val (.long x0_), .second, .val (.int (0 : Int32)), .val (.long x0_), .second, .unset, .unset]) C d6_28 rfl rfl rfl ?_
  refine own_iconst (pc' := 31) (v := (0 : Int32)) C d6_30 own_ki_0 rfl ?_
  refine own_istore (pc' := 33) (y := (0 : Int32)) (Ls' := #[.val (.ref a), .val (.int (0 : Int32)), .val (.ref g), .val (.long x0_), .second, .val (.int (0 : Int32)), .val (.long x0_), .second, .val (.int (0 : Int32)), .unset]) C d6_31 rfl rfl rfl ?_
  refine own_iconst (pc' := 34) (v := (1 : Int32)) C d6_33 own_ki_1 rfl ?_
  refine own_istore (pc' := 36) (y := (1 : Int32)) (Ls' := #[.val (.ref a), .val (.int (0 : Int32)), .val (.ref g), .val (.long x0_), .second, .val (.int (0 : Int32)), .val (.long x0_), .second, .val (.int (0 : Int32)), .val (.int (1 : Int32))]) C d6_34 rfl rfl rfl ?_
  refine own_iload (pc' := 38) C d6_36 rfl rfl ?_
  refine own_iload (pc' := 40) C d6_38 rfl rfl ?_
  refine own_icmp_ge (pt := 105) (pf := 43) C d6_40 (by decide) (by decide) rfl (fun _ => ?_) (fun q => absurd q (by decide))
  refine own_aloadN (pc' := 106) C d6_105 rfl rfl rfl ?_
  refine own_iload (pc' := 108) C d6_106 rfl rfl ?_
  refine own_lload (pc' := 110) C d6_108 rfl rfl ?_
  refine own_lastore (pc' := 111) (i := 0) (ys := [x0_, x1_, x2_, x3_, x4_, x5_, x6_, x7_]) C d6_110 A_g (by decide) rfl (Nat.le_of_ble_eq_true rfl) rfl g_g rfl ?_
  intro h2 W2 A2_
  replace E_a := E_a.wr W2
  replace F_a_heaps := F_a_heaps.other W2 (Or.inl ne_a_g)
  replace F_a_sizes := F_a_sizes.other W2 (Or.inl ne_a_g)
  replace A_hp := A_hp.other W2 ne_hp_g
  replace A_sz := A_sz.other W2 ne_sz_g
  replace E_g := E_g.wr W2
  replace A_g := A2_
  replace Z_ : n0 ≤ _ := Nat.le_trans Z_ (Nat.le_of_eq W2.size.symm)
  replace K_ := K_.wr W2 (Or.inl (List.mem_of_getElem? (i := 1) rfl))
  refine own_lloadN (pc' := 112) C d6_111 rfl rfl ?_
  refine own_lret C d6_112 (by decide) (by decide) ?_
  exact ⟨rfl, K_, A_sz, A_g⟩

set_option maxRecDepth 65536 in
set_option maxHeartbeats 40000000 in
theorem own_poll0_1 (l : Launch) (Z : State) (a0 : Array Value) (hw : ∀ d ∈ tables_1, d.before a0 Z = true) (a : Addr) (hp sz g : Addr) (x0_ x1_ x2_ x3_ x4_ x5_ x6_ x7_ : Int64) (h0 : Heap) (n0 : Nat) (Z_ : n0 ≤ h0.size) (E_a : Exa Z h0 a "com/example/precedence/precedence/LongHeaps") (F_a_heaps : Fld Z h0 a "com/example/precedence/precedence/LongHeaps" "heaps" "[[J" (.ref hp)) (F_a_sizes : Fld Z h0 a "com/example/precedence/precedence/LongHeaps" "sizes" "[I" (.ref sz)) (g_a : n0 ≤ a) (A_hp : AR Z h0 hp [(.ref g), .null]) (A_sz : AI Z h0 sz .int [(2 : Int32), (0 : Int32)]) (g_hp : n0 ≤ hp) (g_sz : n0 ≤ sz) (ne_a_hp : a ≠ hp) (ne_a_sz : a ≠ sz) (ne_hp_sz : hp ≠ sz) (A_g : AJ Z h0 g [x0_, x1_, x2_, x3_, x4_, x5_, x6_, x7_]) (E_g : Exa Z h0 g "[J") (g_g : n0 ≤ g) (ne_a_g : a ≠ g) (ne_hp_g : hp ≠ g) (ne_sz_g : sz ≠ g) :
    Met l (⟨"com/example/precedence/precedence/LongHeaps", "poll", "(I)J"⟩ : MethodName) prog_58_method_5_code 10 (some .long) [] ({ frames := 0, cells := 0, slots := 0, locals := 0 } : Room) Z n0 #[(.ref a), (.int (0 : Int32))] h0 (fun v h => v = some (.long x0_) ∧ Keep h0 h [sz, g] ∧ AI Z h sz .int [(1 : Int32), (0 : Int32)] ∧ AJ Z h g [x1_, x1_, x2_, x3_, x4_, x5_, x6_, x7_]) := by
  refine own_met pn6 (fun m => ef6 m a (0 : Int32)) ?_
  intro p e s m below meth c C
  have K_ : Keep h0 h0 [sz, g] := Keep.refl _ _
  refine own_aloadN (pc' := 1) C d6_0 rfl rfl rfl ?_
  refine own_getfield (pc' := 4) C d6_1 (hw _ (List.mem_of_getElem? (i := 11) rfl)) F_a_heaps rfl ?_
  refine own_iloadN (pc' := 5) C d6_4 rfl rfl ?_
  refine own_aaload (pc' := 6) (v := (.ref g)) (i := 0) C d6_5 A_hp (by decide) rfl rfl rfl ?_
  refine own_astoreN (pc' := 7) (Ls' := #[.val (.ref a), .val (.int (0 : Int32)), .val (.ref g), .unset, .unset, .unset, .unset, .unset, .unset, .unset]) C d6_6 rfl rfl rfl ?_
  refine own_aloadN (pc' := 8) C d6_7 rfl rfl rfl ?_
  refine own_iconst (pc' := 9) (v := (0 : Int32)) C d6_8 own_ki_0 rfl ?_
  refine own_laload (pc' := 10) (v := x0_) (i := 0) C d6_9 A_g (by decide) rfl rfl rfl ?_
  refine own_lstoreN (pc' := 11) (y := x0_) (Ls' := #[.val (.ref a), .val (.int (0 : Int32)), .val (.ref g), .val (.long x0_), .second, .unset, .unset, .unset, .unset, .unset]) C d6_10 rfl rfl rfl ?_
  refine own_aloadN (pc' := 12) C d6_11 rfl rfl rfl ?_
  refine own_getfield (pc' := 15) C d6_12 (hw _ (List.mem_of_getElem? (i := 14) rfl)) F_a_sizes rfl ?_
  refine own_iloadN (pc' := 16) C d6_15 rfl rfl ?_
  refine own_dup2 (pc' := 17) C d6_16 rfl rfl rfl ?_
  refine own_iaload (pc' := 18) (v := (2 : Int32)) (i := 0) C d6_17 A_sz (by decide) rfl rfl rfl ?_
  refine own_iconst (pc' := 19) (v := (1 : Int32)) C d6_18 own_ki_1 rfl ?_
  refine own_isub (pc' := 20) (v := (1 : Int32)) C d6_19 (by decide) rfl ?_
  refine own_dupX2 (pc' := 21) C d6_20 rfl rfl rfl rfl ?_
  refine own_iastore (pc' := 22) (i := 0) (ys := [(1 : Int32), (0 : Int32)]) C d6_21 A_sz (by decide) rfl (Nat.le_of_ble_eq_true rfl) rfl g_sz rfl ?_
  intro h1 W1 A1_
  replace E_a := E_a.wr W1
  replace F_a_heaps := F_a_heaps.other W1 (Or.inl ne_a_sz)
  replace F_a_sizes := F_a_sizes.other W1 (Or.inl ne_a_sz)
  replace A_hp := A_hp.other W1 ne_hp_sz
  replace A_g := A_g.other W1 (Ne.symm ne_sz_g)
  replace E_g := E_g.wr W1
  replace A_sz := A1_
  replace Z_ : n0 ≤ _ := Nat.le_trans Z_ (Nat.le_of_eq W1.size.symm)
  replace K_ := K_.wr W1 (Or.inl (List.mem_of_getElem? (i := 0) rfl))
  refine own_istore (pc' := 24) (y := (1 : Int32)) (Ls' := #[.val (.ref a), .val (.int (0 : Int32)), .val (.ref g), .val (.long x0_), .second, .val (.int (1 : Int32)), .unset, .unset, .unset, .unset]) C d6_22 rfl rfl rfl ?_
  refine own_aloadN (pc' := 25) C d6_24 rfl rfl rfl ?_
  refine own_iload (pc' := 27) C d6_25 rfl rfl ?_
  refine own_laload (pc' := 28) (v := x1_) (i := 1) C d6_27 A_g (by decide) rfl rfl rfl ?_
  refine own_lstore (pc' := 30) (y := x1_) (Ls' := #[.val (.ref a), .val (.int (0 : Int32)), .val (.ref g), .val (.long x0_), .second, .val (.int (1 : Int32)), .val (.long x1_), .second, .unset, .unset]) C d6_28 rfl rfl rfl ?_
  refine own_iconst (pc' := 31) (v := (0 : Int32)) C d6_30 own_ki_0 rfl ?_
  refine own_istore (pc' := 33) (y := (0 : Int32)) (Ls' := #[.val (.ref a), .val (.int (0 : Int32)), .val (.ref g), .val (.long x0_), .second, .val (.int (1 : Int32)), .val (.long x1_), .second, .val (.int (0 : Int32)), .unset]) C d6_31 rfl rfl rfl ?_
  refine own_iconst (pc' := 34) (v := (1 : Int32)) C d6_33 own_ki_1 rfl ?_
  refine own_istore (pc' := 36) (y := (1 : Int32)) (Ls' := #[.val (.ref a), .val (.int (0 : Int32)), .val (.ref g), .val (.long x0_), .second, .val (.int (1 : Int32)), .val (.long x1_), .second, .val (.int (0 : Int32)), .val (.int (1 : Int32))]) C d6_34 rfl rfl rfl ?_
  refine own_iload (pc' := 38) C d6_36 rfl rfl ?_
  refine own_iload (pc' := 40) C d6_38 rfl rfl ?_
  refine own_icmp_ge (pt := 105) (pf := 43) C d6_40 (by decide) (by decide) rfl (fun _ => ?_) (fun q => absurd q (by decide))
  refine own_aloadN (pc' := 106) C d6_105 rfl rfl rfl ?_
  refine own_iload (pc' := 108) C d6_106 rfl rfl ?_
  refine own_lload (pc' := 110) C d6_108 rfl rfl ?_
  refine own_lastore (pc' := 111) (i := 0) (ys := [x1_, x1_, x2_, x3_, x4_, x5_, x6_, x7_]) C d6_110 A_g (by decide) rfl (Nat.le_of_ble_eq_true rfl) rfl g_g rfl ?_
  intro h2 W2 A2_
  replace E_a := E_a.wr W2
  replace F_a_heaps := F_a_heaps.other W2 (Or.inl ne_a_g)
  replace F_a_sizes := F_a_sizes.other W2 (Or.inl ne_a_g)
  replace A_hp := A_hp.other W2 ne_hp_g
  replace A_sz := A_sz.other W2 ne_sz_g
  replace E_g := E_g.wr W2
  replace A_g := A2_
  replace Z_ : n0 ≤ _ := Nat.le_trans Z_ (Nat.le_of_eq W2.size.symm)
  replace K_ := K_.wr W2 (Or.inl (List.mem_of_getElem? (i := 1) rfl))
  refine own_lloadN (pc' := 112) C d6_111 rfl rfl ?_
  refine own_lret C d6_112 (by decide) (by decide) ?_
  exact ⟨rfl, K_, A_sz, A_g⟩

theorem d6_43 : decode prog_58_method_5_code 43 = .ok (.iload 9, 2) := by decide +kernel
theorem d6_45 : decode prog_58_method_5_code 45 = .ok (.iconst 1, 1) := by decide +kernel
theorem d6_46 : decode prog_58_method_5_code 46 = .ok (.iadd, 1) := by decide +kernel
theorem d6_47 : decode prog_58_method_5_code 47 = .ok (.iload 5, 2) := by decide +kernel
theorem d6_49 : decode prog_58_method_5_code 49 = .ok (.if_icmp .ge 20, 3) := by decide +kernel
theorem d6_69 : decode prog_58_method_5_code 69 = .ok (.aload_n 2, 1) := by decide +kernel
theorem d6_70 : decode prog_58_method_5_code 70 = .ok (.iload 9, 2) := by decide +kernel
theorem d6_72 : decode prog_58_method_5_code 72 = .ok (.laload, 1) := by decide +kernel
theorem d6_73 : decode prog_58_method_5_code 73 = .ok (.lload 6, 2) := by decide +kernel
theorem d6_75 : decode prog_58_method_5_code 75 = .ok (.lcmp, 1) := by decide +kernel
theorem d6_76 : decode prog_58_method_5_code 76 = .ok (.ifCond .lt 6, 3) := by decide +kernel
theorem d6_79 : decode prog_58_method_5_code 79 = .ok (.goto 26, 3) := by decide +kernel
theorem d6_82 : decode prog_58_method_5_code 82 = .ok (.aload_n 2, 1) := by decide +kernel
theorem d6_83 : decode prog_58_method_5_code 83 = .ok (.iload 8, 2) := by decide +kernel
theorem d6_85 : decode prog_58_method_5_code 85 = .ok (.aload_n 2, 1) := by decide +kernel
theorem d6_86 : decode prog_58_method_5_code 86 = .ok (.iload 9, 2) := by decide +kernel
theorem d6_88 : decode prog_58_method_5_code 88 = .ok (.laload, 1) := by decide +kernel
theorem d6_89 : decode prog_58_method_5_code 89 = .ok (.lastore, 1) := by decide +kernel
theorem d6_90 : decode prog_58_method_5_code 90 = .ok (.iload 9, 2) := by decide +kernel
theorem d6_92 : decode prog_58_method_5_code 92 = .ok (.istore 8, 2) := by decide +kernel
theorem d6_94 : decode prog_58_method_5_code 94 = .ok (.iconst 2, 1) := by decide +kernel
theorem d6_95 : decode prog_58_method_5_code 95 = .ok (.iload 8, 2) := by decide +kernel
theorem d6_97 : decode prog_58_method_5_code 97 = .ok (.imul, 1) := by decide +kernel
theorem d6_98 : decode prog_58_method_5_code 98 = .ok (.iconst 1, 1) := by decide +kernel
theorem d6_99 : decode prog_58_method_5_code 99 = .ok (.iadd, 1) := by decide +kernel
theorem d6_100 : decode prog_58_method_5_code 100 = .ok (.istore 9, 2) := by decide +kernel
theorem d6_102 : decode prog_58_method_5_code 102 = .ok (.goto (-66), 3) := by decide +kernel
set_option maxRecDepth 65536 in
set_option maxHeartbeats 40000000 in
theorem own_poll0_2 (l : Launch) (Z : State) (a0 : Array Value) (hw : ∀ d ∈ tables_1, d.before a0 Z = true) (a : Addr) (hp sz g : Addr) (x0_ x1_ x2_ x3_ x4_ x5_ x6_ x7_ : Int64) (h0 : Heap) (n0 : Nat) (Z_ : n0 ≤ h0.size) (E_a : Exa Z h0 a "com/example/precedence/precedence/LongHeaps") (F_a_heaps : Fld Z h0 a "com/example/precedence/precedence/LongHeaps" "heaps" "[[J" (.ref hp)) (F_a_sizes : Fld Z h0 a "com/example/precedence/precedence/LongHeaps" "sizes" "[I" (.ref sz)) (g_a : n0 ≤ a) (A_hp : AR Z h0 hp [(.ref g), .null]) (A_sz : AI Z h0 sz .int [(3 : Int32), (0 : Int32)]) (g_hp : n0 ≤ hp) (g_sz : n0 ≤ sz) (ne_a_hp : a ≠ hp) (ne_a_sz : a ≠ sz) (ne_hp_sz : hp ≠ sz) (A_g : AJ Z h0 g [x0_, x1_, x2_, x3_, x4_, x5_, x6_, x7_]) (E_g : Exa Z h0 g "[J") (g_g : n0 ≤ g) (ne_a_g : a ≠ g) (ne_hp_g : hp ≠ g) (ne_sz_g : sz ≠ g) :
    Met l (⟨"com/example/precedence/precedence/LongHeaps", "poll", "(I)J"⟩ : MethodName) prog_58_method_5_code 10 (some .long) [] ({ frames := 0, cells := 0, slots := 0, locals := 0 } : Room) Z n0 #[(.ref a), (.int (0 : Int32))] h0 (fun v h => v = some (.long x0_) ∧ Keep h0 h [sz, g] ∧ AI Z h sz .int [(2 : Int32), (0 : Int32)] ∧ AJ Z h g [(own_q2 own_lt x0_ x1_ x2_).1, (own_q2 own_lt x0_ x1_ x2_).2, x2_, x3_, x4_, x5_, x6_, x7_]) := by
  refine own_met pn6 (fun m => ef6 m a (0 : Int32)) ?_
  intro p e s m below meth c C
  have K_ : Keep h0 h0 [sz, g] := Keep.refl _ _
  refine own_aloadN (pc' := 1) C d6_0 rfl rfl rfl ?_
  refine own_getfield (pc' := 4) C d6_1 (hw _ (List.mem_of_getElem? (i := 11) rfl)) F_a_heaps rfl ?_
  refine own_iloadN (pc' := 5) C d6_4 rfl rfl ?_
  refine own_aaload (pc' := 6) (v := (.ref g)) (i := 0) C d6_5 A_hp (by decide) rfl rfl rfl ?_
  refine own_astoreN (pc' := 7) (Ls' := #[.val (.ref a), .val (.int (0 : Int32)), .val (.ref g), .unset, .unset, .unset, .unset, .unset, .unset, .unset]) C d6_6 rfl rfl rfl ?_
  refine own_aloadN (pc' := 8) C d6_7 rfl rfl rfl ?_
  refine own_iconst (pc' := 9) (v := (0 : Int32)) C d6_8 own_ki_0 rfl ?_
  refine own_laload (pc' := 10) (v := x0_) (i := 0) C d6_9 A_g (by decide) rfl rfl rfl ?_
  refine own_lstoreN (pc' := 11) (y := x0_) (Ls' := #[.val (.ref a), .val (.int (0 : Int32)), .val (.ref g), .val (.long x0_), .second, .unset, .unset, .unset, .unset, .unset]) C d6_10 rfl rfl rfl ?_
  refine own_aloadN (pc' := 12) C d6_11 rfl rfl rfl ?_
  refine own_getfield (pc' := 15) C d6_12 (hw _ (List.mem_of_getElem? (i := 14) rfl)) F_a_sizes rfl ?_
  refine own_iloadN (pc' := 16) C d6_15 rfl rfl ?_
  refine own_dup2 (pc' := 17) C d6_16 rfl rfl rfl ?_
  refine own_iaload (pc' := 18) (v := (3 : Int32)) (i := 0) C d6_17 A_sz (by decide) rfl rfl rfl ?_
  refine own_iconst (pc' := 19) (v := (1 : Int32)) C d6_18 own_ki_1 rfl ?_
  refine own_isub (pc' := 20) (v := (2 : Int32)) C d6_19 (by decide) rfl ?_
  refine own_dupX2 (pc' := 21) C d6_20 rfl rfl rfl rfl ?_
  refine own_iastore (pc' := 22) (i := 0) (ys := [(2 : Int32), (0 : Int32)]) C d6_21 A_sz (by decide) rfl (Nat.le_of_ble_eq_true rfl) rfl g_sz rfl ?_
  intro h1 W1 A1_
  replace E_a := E_a.wr W1
  replace F_a_heaps := F_a_heaps.other W1 (Or.inl ne_a_sz)
  replace F_a_sizes := F_a_sizes.other W1 (Or.inl ne_a_sz)
  replace A_hp := A_hp.other W1 ne_hp_sz
  replace A_g := A_g.other W1 (Ne.symm ne_sz_g)
  replace E_g := E_g.wr W1
  replace A_sz := A1_
  replace Z_ : n0 ≤ _ := Nat.le_trans Z_ (Nat.le_of_eq W1.size.symm)
  replace K_ := K_.wr W1 (Or.inl (List.mem_of_getElem? (i := 0) rfl))
  refine own_istore (pc' := 24) (y := (2 : Int32)) (Ls' := #[.val (.ref a), .val (.int (0 : Int32)), .val (.ref g), .val (.long x0_), .second, .val (.int (2 : Int32)), .unset, .unset, .unset, .unset]) C d6_22 rfl rfl rfl ?_
  refine own_aloadN (pc' := 25) C d6_24 rfl rfl rfl ?_
  refine own_iload (pc' := 27) C d6_25 rfl rfl ?_
  refine own_laload (pc' := 28) (v := x2_) (i := 2) C d6_27 A_g (by decide) rfl rfl rfl ?_
  refine own_lstore (pc' := 30) (y := x2_) (Ls' := #[.val (.ref a), .val (.int (0 : Int32)), .val (.ref g), .val (.long x0_), .second, .val (.int (2 : Int32)), .val (.long x2_), .second, .unset, .unset]) C d6_28 rfl rfl rfl ?_
  refine own_iconst (pc' := 31) (v := (0 : Int32)) C d6_30 own_ki_0 rfl ?_
  refine own_istore (pc' := 33) (y := (0 : Int32)) (Ls' := #[.val (.ref a), .val (.int (0 : Int32)), .val (.ref g), .val (.long x0_), .second, .val (.int (2 : Int32)), .val (.long x2_), .second, .val (.int (0 : Int32)), .unset]) C d6_31 rfl rfl rfl ?_
  refine own_iconst (pc' := 34) (v := (1 : Int32)) C d6_33 own_ki_1 rfl ?_
  refine own_istore (pc' := 36) (y := (1 : Int32)) (Ls' := #[.val (.ref a), .val (.int (0 : Int32)), .val (.ref g), .val (.long x0_), .second, .val (.int (2 : Int32)), .val (.long x2_), .second, .val (.int (0 : Int32)), .val (.int (1 : Int32))]) C d6_34 rfl rfl rfl ?_
  refine own_iload (pc' := 38) C d6_36 rfl rfl ?_
  refine own_iload (pc' := 40) C d6_38 rfl rfl ?_
  refine own_icmp_ge (pt := 105) (pf := 43) C d6_40 (by decide) (by decide) rfl (fun q => absurd (by decide) q) (fun _ => ?_)
  refine own_iload (pc' := 45) C d6_43 rfl rfl ?_
  refine own_iconst (pc' := 46) (v := (1 : Int32)) C d6_45 own_ki_1 rfl ?_
  refine own_iadd (pc' := 47) (v := (2 : Int32)) C d6_46 (by decide) rfl ?_
  refine own_iload (pc' := 49) C d6_47 rfl rfl ?_
  refine own_icmp_ge (pt := 69) (pf := 52) C d6_49 (by decide) (by decide) rfl (fun _ => ?_) (fun q => absurd q (by decide))
  refine own_aloadN (pc' := 70) C d6_69 rfl rfl rfl ?_
  refine own_iload (pc' := 72) C d6_70 rfl rfl ?_
  refine own_laload (pc' := 73) (v := x1_) (i := 1) C d6_72 A_g (by decide) rfl rfl rfl ?_
  refine own_lload (pc' := 75) C d6_73 rfl rfl ?_
  refine own_lcmp_lt (pt := 82) (pf := 79) C d6_75 rfl d6_76 (by decide) (by decide) rfl ?_ ?_
  · intro hc75
    refine own_aloadN (pc' := 83) C d6_82 rfl rfl rfl ?_
    refine own_iload (pc' := 85) C d6_83 rfl rfl ?_
    refine own_aloadN (pc' := 86) C d6_85 rfl rfl rfl ?_
    refine own_iload (pc' := 88) C d6_86 rfl rfl ?_
    refine own_laload (pc' := 89) (v := x1_) (i := 1) C d6_88 A_g (by decide) rfl rfl rfl ?_
    refine own_lastore (pc' := 90) (i := 0) (ys := [x1_, x1_, x2_, x3_, x4_, x5_, x6_, x7_]) C d6_89 A_g (by decide) rfl (Nat.le_of_ble_eq_true rfl) rfl g_g rfl ?_
    intro h2 W2 A2_
    replace E_a := E_a.wr W2
    replace F_a_heaps := F_a_heaps.other W2 (Or.inl ne_a_g)
    replace F_a_sizes := F_a_sizes.other W2 (Or.inl ne_a_g)
    replace A_hp := A_hp.other W2 ne_hp_g
    replace A_sz := A_sz.other W2 ne_sz_g
    replace E_g := E_g.wr W2
    replace A_g := A2_
    replace Z_ : n0 ≤ _ := Nat.le_trans Z_ (Nat.le_of_eq W2.size.symm)
    replace K_ := K_.wr W2 (Or.inl (List.mem_of_getElem? (i := 1) rfl))
    refine own_iload (pc' := 92) C d6_90 rfl rfl ?_
    refine own_istore (pc' := 94) (y := (1 : Int32)) (Ls' := #[.val (.ref a), .val (.int (0 : Int32)), .val (.ref g), .val (.long x0_), .second, .val (.int (2 : Int32)), .val (.long x2_), .second, .val (.int (1 : Int32)), .val (.int (1 : Int32))]) C d6_92 rfl rfl rfl ?_
    refine own_iconst (pc' := 95) (v := (2 : Int32)) C d6_94 own_ki_2 rfl ?_
    refine own_iload (pc' := 97) C d6_95 rfl rfl ?_
    refine own_imul (pc' := 98) (v := (2 : Int32)) C d6_97 (by decide) rfl ?_
    refine own_iconst (pc' := 99) (v := (1 : Int32)) C d6_98 own_ki_1 rfl ?_
    refine own_iadd (pc' := 100) (v := (3 : Int32)) C d6_99 (by decide) rfl ?_
    refine own_istore (pc' := 102) (y := (3 : Int32)) (Ls' := #[.val (.ref a), .val (.int (0 : Int32)), .val (.ref g), .val (.long x0_), .second, .val (.int (2 : Int32)), .val (.long x2_), .second, .val (.int (1 : Int32)), .val (.int (3 : Int32))]) C d6_100 rfl rfl rfl ?_
    refine own_goto (pc' := 36) C d6_102 (by decide) (by decide) ?_
    refine own_iload (pc' := 38) C d6_36 rfl rfl ?_
    refine own_iload (pc' := 40) C d6_38 rfl rfl ?_
    refine own_icmp_ge (pt := 105) (pf := 43) C d6_40 (by decide) (by decide) rfl (fun _ => ?_) (fun q => absurd q (by decide))
    refine own_aloadN (pc' := 106) C d6_105 rfl rfl rfl ?_
    refine own_iload (pc' := 108) C d6_106 rfl rfl ?_
    refine own_lload (pc' := 110) C d6_108 rfl rfl ?_
    refine own_lastore (pc' := 111) (i := 1) (ys := [x1_, x2_, x2_, x3_, x4_, x5_, x6_, x7_]) C d6_110 A_g (by decide) rfl (Nat.le_of_ble_eq_true rfl) rfl g_g rfl ?_
    intro h3 W3 A3_
    replace E_a := E_a.wr W3
    replace F_a_heaps := F_a_heaps.other W3 (Or.inl ne_a_g)
    replace F_a_sizes := F_a_sizes.other W3 (Or.inl ne_a_g)
    replace A_hp := A_hp.other W3 ne_hp_g
    replace A_sz := A_sz.other W3 ne_sz_g
    replace E_g := E_g.wr W3
    replace A_g := A3_
    replace Z_ : n0 ≤ _ := Nat.le_trans Z_ (Nat.le_of_eq W3.size.symm)
    replace K_ := K_.wr W3 (Or.inl (List.mem_of_getElem? (i := 1) rfl))
    refine own_lloadN (pc' := 112) C d6_111 rfl rfl ?_
    refine own_lret C d6_112 (by decide) (by decide) ?_
    have l_hc75 : own_lt x1_ x2_ = true := by simp [own_lt, hc75]
    refine ⟨rfl, K_, A_sz, ?_⟩
    simp only [own_q2, l_hc75, if_true, if_false, Bool.false_eq_true]; exact A_g
  · intro hc75
    refine own_goto (pc' := 105) C d6_79 (by decide) (by decide) ?_
    refine own_aloadN (pc' := 106) C d6_105 rfl rfl rfl ?_
    refine own_iload (pc' := 108) C d6_106 rfl rfl ?_
    refine own_lload (pc' := 110) C d6_108 rfl rfl ?_
    refine own_lastore (pc' := 111) (i := 0) (ys := [x2_, x1_, x2_, x3_, x4_, x5_, x6_, x7_]) C d6_110 A_g (by decide) rfl (Nat.le_of_ble_eq_true rfl) rfl g_g rfl ?_
    intro h2 W2 A2_
    replace E_a := E_a.wr W2
    replace F_a_heaps := F_a_heaps.other W2 (Or.inl ne_a_g)
    replace F_a_sizes := F_a_sizes.other W2 (Or.inl ne_a_g)
    replace A_hp := A_hp.other W2 ne_hp_g
    replace A_sz := A_sz.other W2 ne_sz_g
    replace E_g := E_g.wr W2
    replace A_g := A2_
    replace Z_ : n0 ≤ _ := Nat.le_trans Z_ (Nat.le_of_eq W2.size.symm)
    replace K_ := K_.wr W2 (Or.inl (List.mem_of_getElem? (i := 1) rfl))
    refine own_lloadN (pc' := 112) C d6_111 rfl rfl ?_
    refine own_lret C d6_112 (by decide) (by decide) ?_
    have l_hc75 : own_lt x1_ x2_ = false := by simp [own_lt, hc75]
    refine ⟨rfl, K_, A_sz, ?_⟩
    simp only [own_q2, l_hc75, if_true, if_false, Bool.false_eq_true]; exact A_g

theorem d6_52 : decode prog_58_method_5_code 52 = .ok (.aload_n 2, 1) := by decide +kernel
theorem d6_53 : decode prog_58_method_5_code 53 = .ok (.iload 9, 2) := by decide +kernel
theorem d6_55 : decode prog_58_method_5_code 55 = .ok (.iconst 1, 1) := by decide +kernel
theorem d6_56 : decode prog_58_method_5_code 56 = .ok (.iadd, 1) := by decide +kernel
theorem d6_57 : decode prog_58_method_5_code 57 = .ok (.laload, 1) := by decide +kernel
theorem d6_58 : decode prog_58_method_5_code 58 = .ok (.aload_n 2, 1) := by decide +kernel
theorem d6_59 : decode prog_58_method_5_code 59 = .ok (.iload 9, 2) := by decide +kernel
theorem d6_61 : decode prog_58_method_5_code 61 = .ok (.laload, 1) := by decide +kernel
theorem d6_62 : decode prog_58_method_5_code 62 = .ok (.lcmp, 1) := by decide +kernel
theorem d6_63 : decode prog_58_method_5_code 63 = .ok (.ifCond .ge 6, 3) := by decide +kernel
theorem d6_66 : decode prog_58_method_5_code 66 = .ok (.iinc 9 1, 3) := by decide +kernel
set_option maxRecDepth 65536 in
set_option maxHeartbeats 40000000 in
theorem own_poll0_3 (l : Launch) (Z : State) (a0 : Array Value) (hw : ∀ d ∈ tables_1, d.before a0 Z = true) (a : Addr) (hp sz g : Addr) (x0_ x1_ x2_ x3_ x4_ x5_ x6_ x7_ : Int64) (h0 : Heap) (n0 : Nat) (Z_ : n0 ≤ h0.size) (E_a : Exa Z h0 a "com/example/precedence/precedence/LongHeaps") (F_a_heaps : Fld Z h0 a "com/example/precedence/precedence/LongHeaps" "heaps" "[[J" (.ref hp)) (F_a_sizes : Fld Z h0 a "com/example/precedence/precedence/LongHeaps" "sizes" "[I" (.ref sz)) (g_a : n0 ≤ a) (A_hp : AR Z h0 hp [(.ref g), .null]) (A_sz : AI Z h0 sz .int [(4 : Int32), (0 : Int32)]) (g_hp : n0 ≤ hp) (g_sz : n0 ≤ sz) (ne_a_hp : a ≠ hp) (ne_a_sz : a ≠ sz) (ne_hp_sz : hp ≠ sz) (A_g : AJ Z h0 g [x0_, x1_, x2_, x3_, x4_, x5_, x6_, x7_]) (E_g : Exa Z h0 g "[J") (g_g : n0 ≤ g) (ne_a_g : a ≠ g) (ne_hp_g : hp ≠ g) (ne_sz_g : sz ≠ g) :
    Met l (⟨"com/example/precedence/precedence/LongHeaps", "poll", "(I)J"⟩ : MethodName) prog_58_method_5_code 10 (some .long) [] ({ frames := 0, cells := 0, slots := 0, locals := 0 } : Room) Z n0 #[(.ref a), (.int (0 : Int32))] h0 (fun v h => v = some (.long x0_) ∧ Keep h0 h [sz, g] ∧ AI Z h sz .int [(3 : Int32), (0 : Int32)] ∧ AJ Z h g [(own_q3 own_lt x0_ x1_ x2_ x3_).1, (own_q3 own_lt x0_ x1_ x2_ x3_).2.1, (own_q3 own_lt x0_ x1_ x2_ x3_).2.2, x3_, x4_, x5_, x6_, x7_]) := by
  refine own_met pn6 (fun m => ef6 m a (0 : Int32)) ?_
  intro p e s m below meth c C
  have K_ : Keep h0 h0 [sz, g] := Keep.refl _ _
  refine own_aloadN (pc' := 1) C d6_0 rfl rfl rfl ?_
  refine own_getfield (pc' := 4) C d6_1 (hw _ (List.mem_of_getElem? (i := 11) rfl)) F_a_heaps rfl ?_
  refine own_iloadN (pc' := 5) C d6_4 rfl rfl ?_
  refine own_aaload (pc' := 6) (v := (.ref g)) (i := 0) C d6_5 A_hp (by decide) rfl rfl rfl ?_
  refine own_astoreN (pc' := 7) (Ls' := #[.val (.ref a), .val (.int (0 : Int32)), .val (.ref g), .unset, .unset, .unset, .unset, .unset, .unset, .unset]) C d6_6 rfl rfl rfl ?_
  refine own_aloadN (pc' := 8) C d6_7 rfl rfl rfl ?_
  refine own_iconst (pc' := 9) (v := (0 : Int32)) C d6_8 own_ki_0 rfl ?_
  refine own_laload (pc' := 10) (v := x0_) (i := 0) C d6_9 A_g (by decide) rfl rfl rfl ?_
  refine own_lstoreN (pc' := 11) (y := x0_) (Ls' := #[.val (.ref a), .val (.int (0 : Int32)), .val (.ref g), .val (.long x0_), .second, .unset, .unset, .unset, .unset, .unset]) C d6_10 rfl rfl rfl ?_
  refine own_aloadN (pc' := 12) C d6_11 rfl rfl rfl ?_
  refine own_getfield (pc' := 15) C d6_12 (hw _ (List.mem_of_getElem? (i := 14) rfl)) F_a_sizes rfl ?_
  refine own_iloadN (pc' := 16) C d6_15 rfl rfl ?_
  refine own_dup2 (pc' := 17) C d6_16 rfl rfl rfl ?_
  refine own_iaload (pc' := 18) (v := (4 : Int32)) (i := 0) C d6_17 A_sz (by decide) rfl rfl rfl ?_
  refine own_iconst (pc' := 19) (v := (1 : Int32)) C d6_18 own_ki_1 rfl ?_
  refine own_isub (pc' := 20) (v := (3 : Int32)) C d6_19 (by decide) rfl ?_
  refine own_dupX2 (pc' := 21) C d6_20 rfl rfl rfl rfl ?_
  refine own_iastore (pc' := 22) (i := 0) (ys := [(3 : Int32), (0 : Int32)]) C d6_21 A_sz (by decide) rfl (Nat.le_of_ble_eq_true rfl) rfl g_sz rfl ?_
  intro h1 W1 A1_
  replace E_a := E_a.wr W1
  replace F_a_heaps := F_a_heaps.other W1 (Or.inl ne_a_sz)
  replace F_a_sizes := F_a_sizes.other W1 (Or.inl ne_a_sz)
  replace A_hp := A_hp.other W1 ne_hp_sz
  replace A_g := A_g.other W1 (Ne.symm ne_sz_g)
  replace E_g := E_g.wr W1
  replace A_sz := A1_
  replace Z_ : n0 ≤ _ := Nat.le_trans Z_ (Nat.le_of_eq W1.size.symm)
  replace K_ := K_.wr W1 (Or.inl (List.mem_of_getElem? (i := 0) rfl))
  refine own_istore (pc' := 24) (y := (3 : Int32)) (Ls' := #[.val (.ref a), .val (.int (0 : Int32)), .val (.ref g), .val (.long x0_), .second, .val (.int (3 : Int32)), .unset, .unset, .unset, .unset]) C d6_22 rfl rfl rfl ?_
  refine own_aloadN (pc' := 25) C d6_24 rfl rfl rfl ?_
  refine own_iload (pc' := 27) C d6_25 rfl rfl ?_
  refine own_laload (pc' := 28) (v := x3_) (i := 3) C d6_27 A_g (by decide) rfl rfl rfl ?_
  refine own_lstore (pc' := 30) (y := x3_) (Ls' := #[.val (.ref a), .val (.int (0 : Int32)), .val (.ref g), .val (.long x0_), .second, .val (.int (3 : Int32)), .val (.long x3_), .second, .unset, .unset]) C d6_28 rfl rfl rfl ?_
  refine own_iconst (pc' := 31) (v := (0 : Int32)) C d6_30 own_ki_0 rfl ?_
  refine own_istore (pc' := 33) (y := (0 : Int32)) (Ls' := #[.val (.ref a), .val (.int (0 : Int32)), .val (.ref g), .val (.long x0_), .second, .val (.int (3 : Int32)), .val (.long x3_), .second, .val (.int (0 : Int32)), .unset]) C d6_31 rfl rfl rfl ?_
  refine own_iconst (pc' := 34) (v := (1 : Int32)) C d6_33 own_ki_1 rfl ?_
  refine own_istore (pc' := 36) (y := (1 : Int32)) (Ls' := #[.val (.ref a), .val (.int (0 : Int32)), .val (.ref g), .val (.long x0_), .second, .val (.int (3 : Int32)), .val (.long x3_), .second, .val (.int (0 : Int32)), .val (.int (1 : Int32))]) C d6_34 rfl rfl rfl ?_
  refine own_iload (pc' := 38) C d6_36 rfl rfl ?_
  refine own_iload (pc' := 40) C d6_38 rfl rfl ?_
  refine own_icmp_ge (pt := 105) (pf := 43) C d6_40 (by decide) (by decide) rfl (fun q => absurd (by decide) q) (fun _ => ?_)
  refine own_iload (pc' := 45) C d6_43 rfl rfl ?_
  refine own_iconst (pc' := 46) (v := (1 : Int32)) C d6_45 own_ki_1 rfl ?_
  refine own_iadd (pc' := 47) (v := (2 : Int32)) C d6_46 (by decide) rfl ?_
  refine own_iload (pc' := 49) C d6_47 rfl rfl ?_
  refine own_icmp_ge (pt := 69) (pf := 52) C d6_49 (by decide) (by decide) rfl (fun q => absurd (by decide) q) (fun _ => ?_)
  refine own_aloadN (pc' := 53) C d6_52 rfl rfl rfl ?_
  refine own_iload (pc' := 55) C d6_53 rfl rfl ?_
  refine own_iconst (pc' := 56) (v := (1 : Int32)) C d6_55 own_ki_1 rfl ?_
  refine own_iadd (pc' := 57) (v := (2 : Int32)) C d6_56 (by decide) rfl ?_
  refine own_laload (pc' := 58) (v := x2_) (i := 2) C d6_57 A_g (by decide) rfl rfl rfl ?_
  refine own_aloadN (pc' := 59) C d6_58 rfl rfl rfl ?_
  refine own_iload (pc' := 61) C d6_59 rfl rfl ?_
  refine own_laload (pc' := 62) (v := x1_) (i := 1) C d6_61 A_g (by decide) rfl rfl rfl ?_
  refine own_lcmp_ge (pt := 69) (pf := 66) C d6_62 rfl d6_63 (by decide) (by decide) rfl ?_ ?_
  · intro hc62
    refine own_aloadN (pc' := 70) C d6_69 rfl rfl rfl ?_
    refine own_iload (pc' := 72) C d6_70 rfl rfl ?_
    refine own_laload (pc' := 73) (v := x1_) (i := 1) C d6_72 A_g (by decide) rfl rfl rfl ?_
    refine own_lload (pc' := 75) C d6_73 rfl rfl ?_
    refine own_lcmp_lt (pt := 82) (pf := 79) C d6_75 rfl d6_76 (by decide) (by decide) rfl ?_ ?_
    · intro hc75
      refine own_aloadN (pc' := 83) C d6_82 rfl rfl rfl ?_
      refine own_iload (pc' := 85) C d6_83 rfl rfl ?_
      refine own_aloadN (pc' := 86) C d6_85 rfl rfl rfl ?_
      refine own_iload (pc' := 88) C d6_86 rfl rfl ?_
      refine own_laload (pc' := 89) (v := x1_) (i := 1) C d6_88 A_g (by decide) rfl rfl rfl ?_
      refine own_lastore (pc' := 90) (i := 0) (ys := [x1_, x1_, x2_, x3_, x4_, x5_, x6_, x7_]) C d6_89 A_g (by decide) rfl (Nat.le_of_ble_eq_true rfl) rfl g_g rfl ?_
      intro h2 W2 A2_
      replace E_a := E_a.wr W2
      replace F_a_heaps := F_a_heaps.other W2 (Or.inl ne_a_g)
      replace F_a_sizes := F_a_sizes.other W2 (Or.inl ne_a_g)
      replace A_hp := A_hp.other W2 ne_hp_g
      replace A_sz := A_sz.other W2 ne_sz_g
      replace E_g := E_g.wr W2
      replace A_g := A2_
      replace Z_ : n0 ≤ _ := Nat.le_trans Z_ (Nat.le_of_eq W2.size.symm)
      replace K_ := K_.wr W2 (Or.inl (List.mem_of_getElem? (i := 1) rfl))
      refine own_iload (pc' := 92) C d6_90 rfl rfl ?_
      refine own_istore (pc' := 94) (y := (1 : Int32)) (Ls' := #[.val (.ref a), .val (.int (0 : Int32)), .val (.ref g), .val (.long x0_), .second, .val (.int (3 : Int32)), .val (.long x3_), .second, .val (.int (1 : Int32)), .val (.int (1 : Int32))]) C d6_92 rfl rfl rfl ?_
      refine own_iconst (pc' := 95) (v := (2 : Int32)) C d6_94 own_ki_2 rfl ?_
      refine own_iload (pc' := 97) C d6_95 rfl rfl ?_
      refine own_imul (pc' := 98) (v := (2 : Int32)) C d6_97 (by decide) rfl ?_
      refine own_iconst (pc' := 99) (v := (1 : Int32)) C d6_98 own_ki_1 rfl ?_
      refine own_iadd (pc' := 100) (v := (3 : Int32)) C d6_99 (by decide) rfl ?_
      refine own_istore (pc' := 102) (y := (3 : Int32)) (Ls' := #[.val (.ref a), .val (.int (0 : Int32)), .val (.ref g), .val (.long x0_), .second, .val (.int (3 : Int32)), .val (.long x3_), .second, .val (.int (1 : Int32)), .val (.int (3 : Int32))]) C d6_100 rfl rfl rfl ?_
      refine own_goto (pc' := 36) C d6_102 (by decide) (by decide) ?_
      refine own_iload (pc' := 38) C d6_36 rfl rfl ?_
      refine own_iload (pc' := 40) C d6_38 rfl rfl ?_
      refine own_icmp_ge (pt := 105) (pf := 43) C d6_40 (by decide) (by decide) rfl (fun _ => ?_) (fun q => absurd q (by decide))
      refine own_aloadN (pc' := 106) C d6_105 rfl rfl rfl ?_
      refine own_iload (pc' := 108) C d6_106 rfl rfl ?_
      refine own_lload (pc' := 110) C d6_108 rfl rfl ?_
      refine own_lastore (pc' := 111) (i := 1) (ys := [x1_, x3_, x2_, x3_, x4_, x5_, x6_, x7_]) C d6_110 A_g (by decide) rfl (Nat.le_of_ble_eq_true rfl) rfl g_g rfl ?_
      intro h3 W3 A3_
      replace E_a := E_a.wr W3
      replace F_a_heaps := F_a_heaps.other W3 (Or.inl ne_a_g)
      replace F_a_sizes := F_a_sizes.other W3 (Or.inl ne_a_g)
      replace A_hp := A_hp.other W3 ne_hp_g
      replace A_sz := A_sz.other W3 ne_sz_g
      replace E_g := E_g.wr W3
      replace A_g := A3_
      replace Z_ : n0 ≤ _ := Nat.le_trans Z_ (Nat.le_of_eq W3.size.symm)
      replace K_ := K_.wr W3 (Or.inl (List.mem_of_getElem? (i := 1) rfl))
      refine own_lloadN (pc' := 112) C d6_111 rfl rfl ?_
      refine own_lret C d6_112 (by decide) (by decide) ?_
      have l_hc62 : own_lt x2_ x1_ = false := by simp [own_lt, hc62]
      have l_hc75 : own_lt x1_ x3_ = true := by simp [own_lt, hc75]
      refine ⟨rfl, K_, A_sz, ?_⟩
      simp only [own_q3, l_hc62, l_hc75, if_true, if_false, Bool.false_eq_true]; exact A_g
    · intro hc75
      refine own_goto (pc' := 105) C d6_79 (by decide) (by decide) ?_
      refine own_aloadN (pc' := 106) C d6_105 rfl rfl rfl ?_
      refine own_iload (pc' := 108) C d6_106 rfl rfl ?_
      refine own_lload (pc' := 110) C d6_108 rfl rfl ?_
      refine own_lastore (pc' := 111) (i := 0) (ys := [x3_, x1_, x2_, x3_, x4_, x5_, x6_, x7_]) C d6_110 A_g (by decide) rfl (Nat.le_of_ble_eq_true rfl) rfl g_g rfl ?_
      intro h2 W2 A2_
      replace E_a := E_a.wr W2
      replace F_a_heaps := F_a_heaps.other W2 (Or.inl ne_a_g)
      replace F_a_sizes := F_a_sizes.other W2 (Or.inl ne_a_g)
      replace A_hp := A_hp.other W2 ne_hp_g
      replace A_sz := A_sz.other W2 ne_sz_g
      replace E_g := E_g.wr W2
      replace A_g := A2_
      replace Z_ : n0 ≤ _ := Nat.le_trans Z_ (Nat.le_of_eq W2.size.symm)
      replace K_ := K_.wr W2 (Or.inl (List.mem_of_getElem? (i := 1) rfl))
      refine own_lloadN (pc' := 112) C d6_111 rfl rfl ?_
      refine own_lret C d6_112 (by decide) (by decide) ?_
      have l_hc62 : own_lt x2_ x1_ = false := by simp [own_lt, hc62]
      have l_hc75 : own_lt x1_ x3_ = false := by simp [own_lt, hc75]
      refine ⟨rfl, K_, A_sz, ?_⟩
      simp only [own_q3, l_hc62, l_hc75, if_true, if_false, Bool.false_eq_true]; exact A_g
  · intro hc62
    refine own_iinc (pc' := 69) (v := (2 : Int32)) (Ls' := #[.val (.ref a), .val (.int (0 : Int32)), .val (.ref g), .val (.long x0_), .second, .val (.int (3 : Int32)), .val (.long x3_), .second, .val (.int (0 : Int32)), .val (.int (2 : Int32))]) C d6_66 rfl (by decide) rfl rfl ?_
    refine own_aloadN (pc' := 70) C d6_69 rfl rfl rfl ?_
    refine own_iload (pc' := 72) C d6_70 rfl rfl ?_
    refine own_laload (pc' := 73) (v := x2_) (i := 2) C d6_72 A_g (by decide) rfl rfl rfl ?_
    refine own_lload (pc' := 75) C d6_73 rfl rfl ?_
    refine own_lcmp_lt (pt := 82) (pf := 79) C d6_75 rfl d6_76 (by decide) (by decide) rfl ?_ ?_
    · intro hc75
      refine own_aloadN (pc' := 83) C d6_82 rfl rfl rfl ?_
      refine own_iload (pc' := 85) C d6_83 rfl rfl ?_
      refine own_aloadN (pc' := 86) C d6_85 rfl rfl rfl ?_
      refine own_iload (pc' := 88) C d6_86 rfl rfl ?_
      refine own_laload (pc' := 89) (v := x2_) (i := 2) C d6_88 A_g (by decide) rfl rfl rfl ?_
      refine own_lastore (pc' := 90) (i := 0) (ys := [x2_, x1_, x2_, x3_, x4_, x5_, x6_, x7_]) C d6_89 A_g (by decide) rfl (Nat.le_of_ble_eq_true rfl) rfl g_g rfl ?_
      intro h2 W2 A2_
      replace E_a := E_a.wr W2
      replace F_a_heaps := F_a_heaps.other W2 (Or.inl ne_a_g)
      replace F_a_sizes := F_a_sizes.other W2 (Or.inl ne_a_g)
      replace A_hp := A_hp.other W2 ne_hp_g
      replace A_sz := A_sz.other W2 ne_sz_g
      replace E_g := E_g.wr W2
      replace A_g := A2_
      replace Z_ : n0 ≤ _ := Nat.le_trans Z_ (Nat.le_of_eq W2.size.symm)
      replace K_ := K_.wr W2 (Or.inl (List.mem_of_getElem? (i := 1) rfl))
      refine own_iload (pc' := 92) C d6_90 rfl rfl ?_
      refine own_istore (pc' := 94) (y := (2 : Int32)) (Ls' := #[.val (.ref a), .val (.int (0 : Int32)), .val (.ref g), .val (.long x0_), .second, .val (.int (3 : Int32)), .val (.long x3_), .second, .val (.int (2 : Int32)), .val (.int (2 : Int32))]) C d6_92 rfl rfl rfl ?_
      refine own_iconst (pc' := 95) (v := (2 : Int32)) C d6_94 own_ki_2 rfl ?_
      refine own_iload (pc' := 97) C d6_95 rfl rfl ?_
      refine own_imul (pc' := 98) (v := (4 : Int32)) C d6_97 (by decide) rfl ?_
      refine own_iconst (pc' := 99) (v := (1 : Int32)) C d6_98 own_ki_1 rfl ?_
      refine own_iadd (pc' := 100) (v := (5 : Int32)) C d6_99 (by decide) rfl ?_
      refine own_istore (pc' := 102) (y := (5 : Int32)) (Ls' := #[.val (.ref a), .val (.int (0 : Int32)), .val (.ref g), .val (.long x0_), .second, .val (.int (3 : Int32)), .val (.long x3_), .second, .val (.int (2 : Int32)), .val (.int (5 : Int32))]) C d6_100 rfl rfl rfl ?_
      refine own_goto (pc' := 36) C d6_102 (by decide) (by decide) ?_
      refine own_iload (pc' := 38) C d6_36 rfl rfl ?_
      refine own_iload (pc' := 40) C d6_38 rfl rfl ?_
      refine own_icmp_ge (pt := 105) (pf := 43) C d6_40 (by decide) (by decide) rfl (fun _ => ?_) (fun q => absurd q (by decide))
      refine own_aloadN (pc' := 106) C d6_105 rfl rfl rfl ?_
      refine own_iload (pc' := 108) C d6_106 rfl rfl ?_
      refine own_lload (pc' := 110) C d6_108 rfl rfl ?_
      refine own_lastore (pc' := 111) (i := 2) (ys := [x2_, x1_, x3_, x3_, x4_, x5_, x6_, x7_]) C d6_110 A_g (by decide) rfl (Nat.le_of_ble_eq_true rfl) rfl g_g rfl ?_
      intro h3 W3 A3_
      replace E_a := E_a.wr W3
      replace F_a_heaps := F_a_heaps.other W3 (Or.inl ne_a_g)
      replace F_a_sizes := F_a_sizes.other W3 (Or.inl ne_a_g)
      replace A_hp := A_hp.other W3 ne_hp_g
      replace A_sz := A_sz.other W3 ne_sz_g
      replace E_g := E_g.wr W3
      replace A_g := A3_
      replace Z_ : n0 ≤ _ := Nat.le_trans Z_ (Nat.le_of_eq W3.size.symm)
      replace K_ := K_.wr W3 (Or.inl (List.mem_of_getElem? (i := 1) rfl))
      refine own_lloadN (pc' := 112) C d6_111 rfl rfl ?_
      refine own_lret C d6_112 (by decide) (by decide) ?_
      have l_hc62 : own_lt x2_ x1_ = true := by simp [own_lt, hc62]
      have l_hc75 : own_lt x2_ x3_ = true := by simp [own_lt, hc75]
      refine ⟨rfl, K_, A_sz, ?_⟩
      simp only [own_q3, l_hc62, l_hc75, if_true, if_false, Bool.false_eq_true]; exact A_g
    · intro hc75
      refine own_goto (pc' := 105) C d6_79 (by decide) (by decide) ?_
      refine own_aloadN (pc' := 106) C d6_105 rfl rfl rfl ?_
      refine own_iload (pc' := 108) C d6_106 rfl rfl ?_
      refine own_lload (pc' := 110) C d6_108 rfl rfl ?_
      refine own_lastore (pc' := 111) (i := 0) (ys := [x3_, x1_, x2_, x3_, x4_, x5_, x6_, x7_]) C d6_110 A_g (by decide) rfl (Nat.le_of_ble_eq_true rfl) rfl g_g rfl ?_
      intro h2 W2 A2_
      replace E_a := E_a.wr W2
      replace F_a_heaps := F_a_heaps.other W2 (Or.inl ne_a_g)
      replace F_a_sizes := F_a_sizes.other W2 (Or.inl ne_a_g)
      replace A_hp := A_hp.other W2 ne_hp_g
      replace A_sz := A_sz.other W2 ne_sz_g
      replace E_g := E_g.wr W2
      replace A_g := A2_
      replace Z_ : n0 ≤ _ := Nat.le_trans Z_ (Nat.le_of_eq W2.size.symm)
      replace K_ := K_.wr W2 (Or.inl (List.mem_of_getElem? (i := 1) rfl))
      refine own_lloadN (pc' := 112) C d6_111 rfl rfl ?_
      refine own_lret C d6_112 (by decide) (by decide) ?_
      have l_hc62 : own_lt x2_ x1_ = true := by simp [own_lt, hc62]
      have l_hc75 : own_lt x2_ x3_ = false := by simp [own_lt, hc75]
      refine ⟨rfl, K_, A_sz, ?_⟩
      simp only [own_q3, l_hc62, l_hc75, if_true, if_false, Bool.false_eq_true]; exact A_g

set_option maxRecDepth 65536 in
set_option maxHeartbeats 40000000 in
theorem own_poll0_4 (l : Launch) (Z : State) (a0 : Array Value) (hw : ∀ d ∈ tables_1, d.before a0 Z = true) (a : Addr) (hp sz g : Addr) (x0_ x1_ x2_ x3_ x4_ x5_ x6_ x7_ : Int64) (h0 : Heap) (n0 : Nat) (Z_ : n0 ≤ h0.size) (E_a : Exa Z h0 a "com/example/precedence/precedence/LongHeaps") (F_a_heaps : Fld Z h0 a "com/example/precedence/precedence/LongHeaps" "heaps" "[[J" (.ref hp)) (F_a_sizes : Fld Z h0 a "com/example/precedence/precedence/LongHeaps" "sizes" "[I" (.ref sz)) (g_a : n0 ≤ a) (A_hp : AR Z h0 hp [(.ref g), .null]) (A_sz : AI Z h0 sz .int [(5 : Int32), (0 : Int32)]) (g_hp : n0 ≤ hp) (g_sz : n0 ≤ sz) (ne_a_hp : a ≠ hp) (ne_a_sz : a ≠ sz) (ne_hp_sz : hp ≠ sz) (A_g : AJ Z h0 g [x0_, x1_, x2_, x3_, x4_, x5_, x6_, x7_]) (E_g : Exa Z h0 g "[J") (g_g : n0 ≤ g) (ne_a_g : a ≠ g) (ne_hp_g : hp ≠ g) (ne_sz_g : sz ≠ g) :
    Met l (⟨"com/example/precedence/precedence/LongHeaps", "poll", "(I)J"⟩ : MethodName) prog_58_method_5_code 10 (some .long) [] ({ frames := 0, cells := 0, slots := 0, locals := 0 } : Room) Z n0 #[(.ref a), (.int (0 : Int32))] h0 (fun v h => v = some (.long x0_) ∧ Keep h0 h [sz, g] ∧ AI Z h sz .int [(4 : Int32), (0 : Int32)] ∧ AJ Z h g [(own_q4 own_lt x0_ x1_ x2_ x3_ x4_).1, (own_q4 own_lt x0_ x1_ x2_ x3_ x4_).2.1, (own_q4 own_lt x0_ x1_ x2_ x3_ x4_).2.2.1, (own_q4 own_lt x0_ x1_ x2_ x3_ x4_).2.2.2, x4_, x5_, x6_, x7_]) := by
  refine own_met pn6 (fun m => ef6 m a (0 : Int32)) ?_
  intro p e s m below meth c C
  have K_ : Keep h0 h0 [sz, g] := Keep.refl _ _
  refine own_aloadN (pc' := 1) C d6_0 rfl rfl rfl ?_
  refine own_getfield (pc' := 4) C d6_1 (hw _ (List.mem_of_getElem? (i := 11) rfl)) F_a_heaps rfl ?_
  refine own_iloadN (pc' := 5) C d6_4 rfl rfl ?_
  refine own_aaload (pc' := 6) (v := (.ref g)) (i := 0) C d6_5 A_hp (by decide) rfl rfl rfl ?_
  refine own_astoreN (pc' := 7) (Ls' := #[.val (.ref a), .val (.int (0 : Int32)), .val (.ref g), .unset, .unset, .unset, .unset, .unset, .unset, .unset]) C d6_6 rfl rfl rfl ?_
  refine own_aloadN (pc' := 8) C d6_7 rfl rfl rfl ?_
  refine own_iconst (pc' := 9) (v := (0 : Int32)) C d6_8 own_ki_0 rfl ?_
  refine own_laload (pc' := 10) (v := x0_) (i := 0) C d6_9 A_g (by decide) rfl rfl rfl ?_
  refine own_lstoreN (pc' := 11) (y := x0_) (Ls' := #[.val (.ref a), .val (.int (0 : Int32)), .val (.ref g), .val (.long x0_), .second, .unset, .unset, .unset, .unset, .unset]) C d6_10 rfl rfl rfl ?_
  refine own_aloadN (pc' := 12) C d6_11 rfl rfl rfl ?_
  refine own_getfield (pc' := 15) C d6_12 (hw _ (List.mem_of_getElem? (i := 14) rfl)) F_a_sizes rfl ?_
  refine own_iloadN (pc' := 16) C d6_15 rfl rfl ?_
  refine own_dup2 (pc' := 17) C d6_16 rfl rfl rfl ?_
  refine own_iaload (pc' := 18) (v := (5 : Int32)) (i := 0) C d6_17 A_sz (by decide) rfl rfl rfl ?_
  refine own_iconst (pc' := 19) (v := (1 : Int32)) C d6_18 own_ki_1 rfl ?_
  refine own_isub (pc' := 20) (v := (4 : Int32)) C d6_19 (by decide) rfl ?_
  refine own_dupX2 (pc' := 21) C d6_20 rfl rfl rfl rfl ?_
  refine own_iastore (pc' := 22) (i := 0) (ys := [(4 : Int32), (0 : Int32)]) C d6_21 A_sz (by decide) rfl (Nat.le_of_ble_eq_true rfl) rfl g_sz rfl ?_
  intro h1 W1 A1_
  replace E_a := E_a.wr W1
  replace F_a_heaps := F_a_heaps.other W1 (Or.inl ne_a_sz)
  replace F_a_sizes := F_a_sizes.other W1 (Or.inl ne_a_sz)
  replace A_hp := A_hp.other W1 ne_hp_sz
  replace A_g := A_g.other W1 (Ne.symm ne_sz_g)
  replace E_g := E_g.wr W1
  replace A_sz := A1_
  replace Z_ : n0 ≤ _ := Nat.le_trans Z_ (Nat.le_of_eq W1.size.symm)
  replace K_ := K_.wr W1 (Or.inl (List.mem_of_getElem? (i := 0) rfl))
  refine own_istore (pc' := 24) (y := (4 : Int32)) (Ls' := #[.val (.ref a), .val (.int (0 : Int32)), .val (.ref g), .val (.long x0_), .second, .val (.int (4 : Int32)), .unset, .unset, .unset, .unset]) C d6_22 rfl rfl rfl ?_
  refine own_aloadN (pc' := 25) C d6_24 rfl rfl rfl ?_
  refine own_iload (pc' := 27) C d6_25 rfl rfl ?_
  refine own_laload (pc' := 28) (v := x4_) (i := 4) C d6_27 A_g (by decide) rfl rfl rfl ?_
  refine own_lstore (pc' := 30) (y := x4_) (Ls' := #[.val (.ref a), .val (.int (0 : Int32)), .val (.ref g), .val (.long x0_), .second, .val (.int (4 : Int32)), .val (.long x4_), .second, .unset, .unset]) C d6_28 rfl rfl rfl ?_
  refine own_iconst (pc' := 31) (v := (0 : Int32)) C d6_30 own_ki_0 rfl ?_
  refine own_istore (pc' := 33) (y := (0 : Int32)) (Ls' := #[.val (.ref a), .val (.int (0 : Int32)), .val (.ref g), .val (.long x0_), .second, .val (.int (4 : Int32)), .val (.long x4_), .second, .val (.int (0 : Int32)), .unset]) C d6_31 rfl rfl rfl ?_
  refine own_iconst (pc' := 34) (v := (1 : Int32)) C d6_33 own_ki_1 rfl ?_
  refine own_istore (pc' := 36) (y := (1 : Int32)) (Ls' := #[.val (.ref a), .val (.int (0 : Int32)), .val (.ref g), .val (.long x0_), .second, .val (.int (4 : Int32)), .val (.long x4_), .second, .val (.int (0 : Int32)), .val (.int (1 : Int32))]) C d6_34 rfl rfl rfl ?_
  refine own_iload (pc' := 38) C d6_36 rfl rfl ?_
  refine own_iload (pc' := 40) C d6_38 rfl rfl ?_
  refine own_icmp_ge (pt := 105) (pf := 43) C d6_40 (by decide) (by decide) rfl (fun q => absurd (by decide) q) (fun _ => ?_)
  refine own_iload (pc' := 45) C d6_43 rfl rfl ?_
  refine own_iconst (pc' := 46) (v := (1 : Int32)) C d6_45 own_ki_1 rfl ?_
  refine own_iadd (pc' := 47) (v := (2 : Int32)) C d6_46 (by decide) rfl ?_
  refine own_iload (pc' := 49) C d6_47 rfl rfl ?_
  refine own_icmp_ge (pt := 69) (pf := 52) C d6_49 (by decide) (by decide) rfl (fun q => absurd (by decide) q) (fun _ => ?_)
  refine own_aloadN (pc' := 53) C d6_52 rfl rfl rfl ?_
  refine own_iload (pc' := 55) C d6_53 rfl rfl ?_
  refine own_iconst (pc' := 56) (v := (1 : Int32)) C d6_55 own_ki_1 rfl ?_
  refine own_iadd (pc' := 57) (v := (2 : Int32)) C d6_56 (by decide) rfl ?_
  refine own_laload (pc' := 58) (v := x2_) (i := 2) C d6_57 A_g (by decide) rfl rfl rfl ?_
  refine own_aloadN (pc' := 59) C d6_58 rfl rfl rfl ?_
  refine own_iload (pc' := 61) C d6_59 rfl rfl ?_
  refine own_laload (pc' := 62) (v := x1_) (i := 1) C d6_61 A_g (by decide) rfl rfl rfl ?_
  refine own_lcmp_ge (pt := 69) (pf := 66) C d6_62 rfl d6_63 (by decide) (by decide) rfl ?_ ?_
  · intro hc62
    refine own_aloadN (pc' := 70) C d6_69 rfl rfl rfl ?_
    refine own_iload (pc' := 72) C d6_70 rfl rfl ?_
    refine own_laload (pc' := 73) (v := x1_) (i := 1) C d6_72 A_g (by decide) rfl rfl rfl ?_
    refine own_lload (pc' := 75) C d6_73 rfl rfl ?_
    refine own_lcmp_lt (pt := 82) (pf := 79) C d6_75 rfl d6_76 (by decide) (by decide) rfl ?_ ?_
    · intro hc75
      refine own_aloadN (pc' := 83) C d6_82 rfl rfl rfl ?_
      refine own_iload (pc' := 85) C d6_83 rfl rfl ?_
      refine own_aloadN (pc' := 86) C d6_85 rfl rfl rfl ?_
      refine own_iload (pc' := 88) C d6_86 rfl rfl ?_
      refine own_laload (pc' := 89) (v := x1_) (i := 1) C d6_88 A_g (by decide) rfl rfl rfl ?_
      refine own_lastore (pc' := 90) (i := 0) (ys := [x1_, x1_, x2_, x3_, x4_, x5_, x6_, x7_]) C d6_89 A_g (by decide) rfl (Nat.le_of_ble_eq_true rfl) rfl g_g rfl ?_
      intro h2 W2 A2_
      replace E_a := E_a.wr W2
      replace F_a_heaps := F_a_heaps.other W2 (Or.inl ne_a_g)
      replace F_a_sizes := F_a_sizes.other W2 (Or.inl ne_a_g)
      replace A_hp := A_hp.other W2 ne_hp_g
      replace A_sz := A_sz.other W2 ne_sz_g
      replace E_g := E_g.wr W2
      replace A_g := A2_
      replace Z_ : n0 ≤ _ := Nat.le_trans Z_ (Nat.le_of_eq W2.size.symm)
      replace K_ := K_.wr W2 (Or.inl (List.mem_of_getElem? (i := 1) rfl))
      refine own_iload (pc' := 92) C d6_90 rfl rfl ?_
      refine own_istore (pc' := 94) (y := (1 : Int32)) (Ls' := #[.val (.ref a), .val (.int (0 : Int32)), .val (.ref g), .val (.long x0_), .second, .val (.int (4 : Int32)), .val (.long x4_), .second, .val (.int (1 : Int32)), .val (.int (1 : Int32))]) C d6_92 rfl rfl rfl ?_
      refine own_iconst (pc' := 95) (v := (2 : Int32)) C d6_94 own_ki_2 rfl ?_
      refine own_iload (pc' := 97) C d6_95 rfl rfl ?_
      refine own_imul (pc' := 98) (v := (2 : Int32)) C d6_97 (by decide) rfl ?_
      refine own_iconst (pc' := 99) (v := (1 : Int32)) C d6_98 own_ki_1 rfl ?_
      refine own_iadd (pc' := 100) (v := (3 : Int32)) C d6_99 (by decide) rfl ?_
      refine own_istore (pc' := 102) (y := (3 : Int32)) (Ls' := #[.val (.ref a), .val (.int (0 : Int32)), .val (.ref g), .val (.long x0_), .second, .val (.int (4 : Int32)), .val (.long x4_), .second, .val (.int (1 : Int32)), .val (.int (3 : Int32))]) C d6_100 rfl rfl rfl ?_
      refine own_goto (pc' := 36) C d6_102 (by decide) (by decide) ?_
      refine own_iload (pc' := 38) C d6_36 rfl rfl ?_
      refine own_iload (pc' := 40) C d6_38 rfl rfl ?_
      refine own_icmp_ge (pt := 105) (pf := 43) C d6_40 (by decide) (by decide) rfl (fun q => absurd (by decide) q) (fun _ => ?_)
      refine own_iload (pc' := 45) C d6_43 rfl rfl ?_
      refine own_iconst (pc' := 46) (v := (1 : Int32)) C d6_45 own_ki_1 rfl ?_
      refine own_iadd (pc' := 47) (v := (4 : Int32)) C d6_46 (by decide) rfl ?_
      refine own_iload (pc' := 49) C d6_47 rfl rfl ?_
      refine own_icmp_ge (pt := 69) (pf := 52) C d6_49 (by decide) (by decide) rfl (fun _ => ?_) (fun q => absurd q (by decide))
      refine own_aloadN (pc' := 70) C d6_69 rfl rfl rfl ?_
      refine own_iload (pc' := 72) C d6_70 rfl rfl ?_
      refine own_laload (pc' := 73) (v := x3_) (i := 3) C d6_72 A_g (by decide) rfl rfl rfl ?_
      refine own_lload (pc' := 75) C d6_73 rfl rfl ?_
      refine own_lcmp_lt (pt := 82) (pf := 79) C d6_75 rfl d6_76 (by decide) (by decide) rfl ?_ ?_
      · intro hc75_2
        refine own_aloadN (pc' := 83) C d6_82 rfl rfl rfl ?_
        refine own_iload (pc' := 85) C d6_83 rfl rfl ?_
        refine own_aloadN (pc' := 86) C d6_85 rfl rfl rfl ?_
        refine own_iload (pc' := 88) C d6_86 rfl rfl ?_
        refine own_laload (pc' := 89) (v := x3_) (i := 3) C d6_88 A_g (by decide) rfl rfl rfl ?_
        refine own_lastore (pc' := 90) (i := 1) (ys := [x1_, x3_, x2_, x3_, x4_, x5_, x6_, x7_]) C d6_89 A_g (by decide) rfl (Nat.le_of_ble_eq_true rfl) rfl g_g rfl ?_
        intro h3 W3 A3_
        replace E_a := E_a.wr W3
        replace F_a_heaps := F_a_heaps.other W3 (Or.inl ne_a_g)
        replace F_a_sizes := F_a_sizes.other W3 (Or.inl ne_a_g)
        replace A_hp := A_hp.other W3 ne_hp_g
        replace A_sz := A_sz.other W3 ne_sz_g
        replace E_g := E_g.wr W3
        replace A_g := A3_
        replace Z_ : n0 ≤ _ := Nat.le_trans Z_ (Nat.le_of_eq W3.size.symm)
        replace K_ := K_.wr W3 (Or.inl (List.mem_of_getElem? (i := 1) rfl))
        refine own_iload (pc' := 92) C d6_90 rfl rfl ?_
        refine own_istore (pc' := 94) (y := (3 : Int32)) (Ls' := #[.val (.ref a), .val (.int (0 : Int32)), .val (.ref g), .val (.long x0_), .second, .val (.int (4 : Int32)), .val (.long x4_), .second, .val (.int (3 : Int32)), .val (.int (3 : Int32))]) C d6_92 rfl rfl rfl ?_
        refine own_iconst (pc' := 95) (v := (2 : Int32)) C d6_94 own_ki_2 rfl ?_
        refine own_iload (pc' := 97) C d6_95 rfl rfl ?_
        refine own_imul (pc' := 98) (v := (6 : Int32)) C d6_97 (by decide) rfl ?_
        refine own_iconst (pc' := 99) (v := (1 : Int32)) C d6_98 own_ki_1 rfl ?_
        refine own_iadd (pc' := 100) (v := (7 : Int32)) C d6_99 (by decide) rfl ?_
        refine own_istore (pc' := 102) (y := (7 : Int32)) (Ls' := #[.val (.ref a), .val (.int (0 : Int32)), .val (.ref g), .val (.long x0_), .second, .val (.int (4 : Int32)), .val (.long x4_), .second, .val (.int (3 : Int32)), .val (.int (7 : Int32))]) C d6_100 rfl rfl rfl ?_
        refine own_goto (pc' := 36) C d6_102 (by decide) (by decide) ?_
        refine own_iload (pc' := 38) C d6_36 rfl rfl ?_
        refine own_iload (pc' := 40) C d6_38 rfl rfl ?_
        refine own_icmp_ge (pt := 105) (pf := 43) C d6_40 (by decide) (by decide) rfl (fun _ => ?_) (fun q => absurd q (by decide))
        refine own_aloadN (pc' := 106) C d6_105 rfl rfl rfl ?_
        refine own_iload (pc' := 108) C d6_106 rfl rfl ?_
        refine own_lload (pc' := 110) C d6_108 rfl rfl ?_
        refine own_lastore (pc' := 111) (i := 3) (ys := [x1_, x3_, x2_, x4_, x4_, x5_, x6_, x7_]) C d6_110 A_g (by decide) rfl (Nat.le_of_ble_eq_true rfl) rfl g_g rfl ?_
        intro h4 W4 A4_
        replace E_a := E_a.wr W4
        replace F_a_heaps := F_a_heaps.other W4 (Or.inl ne_a_g)
        replace F_a_sizes := F_a_sizes.other W4 (Or.inl ne_a_g)
        replace A_hp := A_hp.other W4 ne_hp_g
        replace A_sz := A_sz.other W4 ne_sz_g
        replace E_g := E_g.wr W4
        replace A_g := A4_
        replace Z_ : n0 ≤ _ := Nat.le_trans Z_ (Nat.le_of_eq W4.size.symm)
        replace K_ := K_.wr W4 (Or.inl (List.mem_of_getElem? (i := 1) rfl))
        refine own_lloadN (pc' := 112) C d6_111 rfl rfl ?_
        refine own_lret C d6_112 (by decide) (by decide) ?_
        have l_hc62 : own_lt x2_ x1_ = false := by simp [own_lt, hc62]
        have l_hc75 : own_lt x1_ x4_ = true := by simp [own_lt, hc75]
        have l_hc75_2 : own_lt x3_ x4_ = true := by simp [own_lt, hc75_2]
        refine ⟨rfl, K_, A_sz, ?_⟩
        simp only [own_q4, l_hc62, l_hc75, l_hc75_2, if_true, if_false, Bool.false_eq_true]; exact A_g
      · intro hc75_2
        refine own_goto (pc' := 105) C d6_79 (by decide) (by decide) ?_
        refine own_aloadN (pc' := 106) C d6_105 rfl rfl rfl ?_
        refine own_iload (pc' := 108) C d6_106 rfl rfl ?_
        refine own_lload (pc' := 110) C d6_108 rfl rfl ?_
        refine own_lastore (pc' := 111) (i := 1) (ys := [x1_, x4_, x2_, x3_, x4_, x5_, x6_, x7_]) C d6_110 A_g (by decide) rfl (Nat.le_of_ble_eq_true rfl) rfl g_g rfl ?_
        intro h3 W3 A3_
        replace E_a := E_a.wr W3
        replace F_a_heaps := F_a_heaps.other W3 (Or.inl ne_a_g)
        replace F_a_sizes := F_a_sizes.other W3 (Or.inl ne_a_g)
        replace A_hp := A_hp.other W3 ne_hp_g
        replace A_sz := A_sz.other W3 ne_sz_g
        replace E_g := E_g.wr W3
        replace A_g := A3_
        replace Z_ : n0 ≤ _ := Nat.le_trans Z_ (Nat.le_of_eq W3.size.symm)
        replace K_ := K_.wr W3 (Or.inl (List.mem_of_getElem? (i := 1) rfl))
        refine own_lloadN (pc' := 112) C d6_111 rfl rfl ?_
        refine own_lret C d6_112 (by decide) (by decide) ?_
        have l_hc62 : own_lt x2_ x1_ = false := by simp [own_lt, hc62]
        have l_hc75 : own_lt x1_ x4_ = true := by simp [own_lt, hc75]
        have l_hc75_2 : own_lt x3_ x4_ = false := by simp [own_lt, hc75_2]
        refine ⟨rfl, K_, A_sz, ?_⟩
        simp only [own_q4, l_hc62, l_hc75, l_hc75_2, if_true, if_false, Bool.false_eq_true]; exact A_g
    · intro hc75
      refine own_goto (pc' := 105) C d6_79 (by decide) (by decide) ?_
      refine own_aloadN (pc' := 106) C d6_105 rfl rfl rfl ?_
      refine own_iload (pc' := 108) C d6_106 rfl rfl ?_
      refine own_lload (pc' := 110) C d6_108 rfl rfl ?_
      refine own_lastore (pc' := 111) (i := 0) (ys := [x4_, x1_, x2_, x3_, x4_, x5_, x6_, x7_]) C d6_110 A_g (by decide) rfl (Nat.le_of_ble_eq_true rfl) rfl g_g rfl ?_
      intro h2 W2 A2_
      replace E_a := E_a.wr W2
      replace F_a_heaps := F_a_heaps.other W2 (Or.inl ne_a_g)
      replace F_a_sizes := F_a_sizes.other W2 (Or.inl ne_a_g)
      replace A_hp := A_hp.other W2 ne_hp_g
      replace A_sz := A_sz.other W2 ne_sz_g
      replace E_g := E_g.wr W2
      replace A_g := A2_
      replace Z_ : n0 ≤ _ := Nat.le_trans Z_ (Nat.le_of_eq W2.size.symm)
      replace K_ := K_.wr W2 (Or.inl (List.mem_of_getElem? (i := 1) rfl))
      refine own_lloadN (pc' := 112) C d6_111 rfl rfl ?_
      refine own_lret C d6_112 (by decide) (by decide) ?_
      have l_hc62 : own_lt x2_ x1_ = false := by simp [own_lt, hc62]
      have l_hc75 : own_lt x1_ x4_ = false := by simp [own_lt, hc75]
      refine ⟨rfl, K_, A_sz, ?_⟩
      simp only [own_q4, l_hc62, l_hc75, if_true, if_false, Bool.false_eq_true]; exact A_g
  · intro hc62
    refine own_iinc (pc' := 69) (v := (2 : Int32)) (Ls' := #[.val (.ref a), .val (.int (0 : Int32)), .val (.ref g), .val (.long x0_), .second, .val (.int (4 : Int32)), .val (.long x4_), .second, .val (.int (0 : Int32)), .val (.int (2 : Int32))]) C d6_66 rfl (by decide) rfl rfl ?_
    refine own_aloadN (pc' := 70) C d6_69 rfl rfl rfl ?_
    refine own_iload (pc' := 72) C d6_70 rfl rfl ?_
    refine own_laload (pc' := 73) (v := x2_) (i := 2) C d6_72 A_g (by decide) rfl rfl rfl ?_
    refine own_lload (pc' := 75) C d6_73 rfl rfl ?_
    refine own_lcmp_lt (pt := 82) (pf := 79) C d6_75 rfl d6_76 (by decide) (by decide) rfl ?_ ?_
    · intro hc75
      refine own_aloadN (pc' := 83) C d6_82 rfl rfl rfl ?_
      refine own_iload (pc' := 85) C d6_83 rfl rfl ?_
      refine own_aloadN (pc' := 86) C d6_85 rfl rfl rfl ?_
      refine own_iload (pc' := 88) C d6_86 rfl rfl ?_
      refine own_laload (pc' := 89) (v := x2_) (i := 2) C d6_88 A_g (by decide) rfl rfl rfl ?_
      refine own_lastore (pc' := 90) (i := 0) (ys := [x2_, x1_, x2_, x3_, x4_, x5_, x6_, x7_]) C d6_89 A_g (by decide) rfl (Nat.le_of_ble_eq_true rfl) rfl g_g rfl ?_
      intro h2 W2 A2_
      replace E_a := E_a.wr W2
      replace F_a_heaps := F_a_heaps.other W2 (Or.inl ne_a_g)
      replace F_a_sizes := F_a_sizes.other W2 (Or.inl ne_a_g)
      replace A_hp := A_hp.other W2 ne_hp_g
      replace A_sz := A_sz.other W2 ne_sz_g
      replace E_g := E_g.wr W2
      replace A_g := A2_
      replace Z_ : n0 ≤ _ := Nat.le_trans Z_ (Nat.le_of_eq W2.size.symm)
      replace K_ := K_.wr W2 (Or.inl (List.mem_of_getElem? (i := 1) rfl))
      refine own_iload (pc' := 92) C d6_90 rfl rfl ?_
      refine own_istore (pc' := 94) (y := (2 : Int32)) (Ls' := #[.val (.ref a), .val (.int (0 : Int32)), .val (.ref g), .val (.long x0_), .second, .val (.int (4 : Int32)), .val (.long x4_), .second, .val (.int (2 : Int32)), .val (.int (2 : Int32))]) C d6_92 rfl rfl rfl ?_
      refine own_iconst (pc' := 95) (v := (2 : Int32)) C d6_94 own_ki_2 rfl ?_
      refine own_iload (pc' := 97) C d6_95 rfl rfl ?_
      refine own_imul (pc' := 98) (v := (4 : Int32)) C d6_97 (by decide) rfl ?_
      refine own_iconst (pc' := 99) (v := (1 : Int32)) C d6_98 own_ki_1 rfl ?_
      refine own_iadd (pc' := 100) (v := (5 : Int32)) C d6_99 (by decide) rfl ?_
      refine own_istore (pc' := 102) (y := (5 : Int32)) (Ls' := #[.val (.ref a), .val (.int (0 : Int32)), .val (.ref g), .val (.long x0_), .second, .val (.int (4 : Int32)), .val (.long x4_), .second, .val (.int (2 : Int32)), .val (.int (5 : Int32))]) C d6_100 rfl rfl rfl ?_
      refine own_goto (pc' := 36) C d6_102 (by decide) (by decide) ?_
      refine own_iload (pc' := 38) C d6_36 rfl rfl ?_
      refine own_iload (pc' := 40) C d6_38 rfl rfl ?_
      refine own_icmp_ge (pt := 105) (pf := 43) C d6_40 (by decide) (by decide) rfl (fun _ => ?_) (fun q => absurd q (by decide))
      refine own_aloadN (pc' := 106) C d6_105 rfl rfl rfl ?_
      refine own_iload (pc' := 108) C d6_106 rfl rfl ?_
      refine own_lload (pc' := 110) C d6_108 rfl rfl ?_
      refine own_lastore (pc' := 111) (i := 2) (ys := [x2_, x1_, x4_, x3_, x4_, x5_, x6_, x7_]) C d6_110 A_g (by decide) rfl (Nat.le_of_ble_eq_true rfl) rfl g_g rfl ?_
      intro h3 W3 A3_
      replace E_a := E_a.wr W3
      replace F_a_heaps := F_a_heaps.other W3 (Or.inl ne_a_g)
      replace F_a_sizes := F_a_sizes.other W3 (Or.inl ne_a_g)
      replace A_hp := A_hp.other W3 ne_hp_g
      replace A_sz := A_sz.other W3 ne_sz_g
      replace E_g := E_g.wr W3
      replace A_g := A3_
      replace Z_ : n0 ≤ _ := Nat.le_trans Z_ (Nat.le_of_eq W3.size.symm)
      replace K_ := K_.wr W3 (Or.inl (List.mem_of_getElem? (i := 1) rfl))
      refine own_lloadN (pc' := 112) C d6_111 rfl rfl ?_
      refine own_lret C d6_112 (by decide) (by decide) ?_
      have l_hc62 : own_lt x2_ x1_ = true := by simp [own_lt, hc62]
      have l_hc75 : own_lt x2_ x4_ = true := by simp [own_lt, hc75]
      refine ⟨rfl, K_, A_sz, ?_⟩
      simp only [own_q4, l_hc62, l_hc75, if_true, if_false, Bool.false_eq_true]; exact A_g
    · intro hc75
      refine own_goto (pc' := 105) C d6_79 (by decide) (by decide) ?_
      refine own_aloadN (pc' := 106) C d6_105 rfl rfl rfl ?_
      refine own_iload (pc' := 108) C d6_106 rfl rfl ?_
      refine own_lload (pc' := 110) C d6_108 rfl rfl ?_
      refine own_lastore (pc' := 111) (i := 0) (ys := [x4_, x1_, x2_, x3_, x4_, x5_, x6_, x7_]) C d6_110 A_g (by decide) rfl (Nat.le_of_ble_eq_true rfl) rfl g_g rfl ?_
      intro h2 W2 A2_
      replace E_a := E_a.wr W2
      replace F_a_heaps := F_a_heaps.other W2 (Or.inl ne_a_g)
      replace F_a_sizes := F_a_sizes.other W2 (Or.inl ne_a_g)
      replace A_hp := A_hp.other W2 ne_hp_g
      replace A_sz := A_sz.other W2 ne_sz_g
      replace E_g := E_g.wr W2
      replace A_g := A2_
      replace Z_ : n0 ≤ _ := Nat.le_trans Z_ (Nat.le_of_eq W2.size.symm)
      replace K_ := K_.wr W2 (Or.inl (List.mem_of_getElem? (i := 1) rfl))
      refine own_lloadN (pc' := 112) C d6_111 rfl rfl ?_
      refine own_lret C d6_112 (by decide) (by decide) ?_
      have l_hc62 : own_lt x2_ x1_ = true := by simp [own_lt, hc62]
      have l_hc75 : own_lt x2_ x4_ = false := by simp [own_lt, hc75]
      refine ⟨rfl, K_, A_sz, ?_⟩
      simp only [own_q4, l_hc62, l_hc75, if_true, if_false, Bool.false_eq_true]; exact A_g

set_option maxRecDepth 65536 in
set_option maxHeartbeats 40000000 in
theorem own_poll1_0 (l : Launch) (Z : State) (a0 : Array Value) (hw : ∀ d ∈ tables_1, d.before a0 Z = true) (a : Addr) (hp sz g : Addr) (x0_ x1_ x2_ x3_ x4_ x5_ x6_ x7_ : Int64) (h0 : Heap) (n0 : Nat) (Z_ : n0 ≤ h0.size) (E_a : Exa Z h0 a "com/example/precedence/precedence/LongHeaps") (F_a_heaps : Fld Z h0 a "com/example/precedence/precedence/LongHeaps" "heaps" "[[J" (.ref hp)) (F_a_sizes : Fld Z h0 a "com/example/precedence/precedence/LongHeaps" "sizes" "[I" (.ref sz)) (g_a : n0 ≤ a) (A_hp : AR Z h0 hp [.null, (.ref g)]) (A_sz : AI Z h0 sz .int [(0 : Int32), (1 : Int32)]) (g_hp : n0 ≤ hp) (g_sz : n0 ≤ sz) (ne_a_hp : a ≠ hp) (ne_a_sz : a ≠ sz) (ne_hp_sz : hp ≠ sz) (A_g : AJ Z h0 g [x0_, x1_, x2_, x3_, x4_, x5_, x6_, x7_]) (E_g : Exa Z h0 g "[J") (g_g : n0 ≤ g) (ne_a_g : a ≠ g) (ne_hp_g : hp ≠ g) (ne_sz_g : sz ≠ g) :
    Met l (⟨"com/example/precedence/precedence/LongHeaps", "poll", "(I)J"⟩ : MethodName) prog_58_method_5_code 10 (some .long) [] ({ frames := 0, cells := 0, slots := 0, locals := 0 } : Room) Z n0 #[(.ref a), (.int (1 : Int32))] h0 (fun v h => v = some (.long x0_) ∧ Keep h0 h [sz, g] ∧ AI Z h sz .int [(0 : Int32), (0 : Int32)] ∧ AJ Z h g [x0_, x1_, x2_, x3_, x4_, x5_, x6_, x7_]) := by
  refine own_met pn6 (fun m => ef6 m a (1 : Int32)) ?_
  intro p e s m below meth c C
  have K_ : Keep h0 h0 [sz, g] := Keep.refl _ _
  refine own_aloadN (pc' := 1) C d6_0 rfl rfl rfl ?_
  refine own_getfield (pc' := 4) C d6_1 (hw _ (List.mem_of_getElem? (i := 11) rfl)) F_a_heaps rfl ?_
  refine own_iloadN (pc' := 5) C d6_4 rfl rfl ?_
  refine own_aaload (pc' := 6) (v := (.ref g)) (i := 1) C d6_5 A_hp (by decide) rfl rfl rfl ?_
  refine own_astoreN (pc' := 7) (Ls' := #[.val (.ref a), .val (.int (1 : Int32)), .val (.ref g), .unset, .unset, .unset, .unset, .unset, .unset, .unset]) C d6_6 rfl rfl rfl ?_
  refine own_aloadN (pc' := 8) C d6_7 rfl rfl rfl ?_
  refine own_iconst (pc' := 9) (v := (0 : Int32)) C d6_8 own_ki_0 rfl ?_
  refine own_laload (pc' := 10) (v := x0_) (i := 0) C d6_9 A_g (by decide) rfl rfl rfl ?_
  refine own_lstoreN (pc' := 11) (y := x0_) (Ls' := #[.val (.ref a), .val (.int (1 : Int32)), .val (.ref g), .val (.long x0_), .second, .unset, .unset, .unset, .unset, .unset]) C d6_10 rfl rfl rfl ?_
  refine own_aloadN (pc' := 12) C d6_11 rfl rfl rfl ?_
  refine own_getfield (pc' := 15) C d6_12 (hw _ (List.mem_of_getElem? (i := 14) rfl)) F_a_sizes rfl ?_
  refine own_iloadN (pc' := 16) C d6_15 rfl rfl ?_
  refine own_dup2 (pc' := 17) C d6_16 rfl rfl rfl ?_
  refine own_iaload (pc' := 18) (v := (1 : Int32)) (i := 1) C d6_17 A_sz (by decide) rfl rfl rfl ?_
  refine own_iconst (pc' := 19) (v := (1 : Int32)) C d6_18 own_ki_1 rfl ?_
  refine own_isub (pc' := 20) (v := (0 : Int32)) C d6_19 (by decide) rfl ?_
  refine own_dupX2 (pc' := 21) C d6_20 rfl rfl rfl rfl ?_
  refine own_iastore (pc' := 22) (i := 1) (ys := [(0 : Int32), (0 : Int32)]) C d6_21 A_sz (by decide) rfl (Nat.le_of_ble_eq_true rfl) rfl g_sz rfl ?_
  intro h1 W1 A1_
  replace E_a := E_a.wr W1
  replace F_a_heaps := F_a_heaps.other W1 (Or.inl ne_a_sz)
  replace F_a_sizes := F_a_sizes.other W1 (Or.inl ne_a_sz)
  replace A_hp := A_hp.other W1 ne_hp_sz
  replace A_g := A_g.other W1 (Ne.symm ne_sz_g)
  replace E_g := E_g.wr W1
  replace A_sz := A1_
  replace Z_ : n0 ≤ _ := Nat.le_trans Z_ (Nat.le_of_eq W1.size.symm)
  replace K_ := K_.wr W1 (Or.inl (List.mem_of_getElem? (i := 0) rfl))
  refine own_istore (pc' := 24) (y := (0 : Int32)) (Ls' := #[.val (.ref a), .val (.int (1 : Int32)), .val (.ref g), .val (.long x0_), .second, .val (.int (0 : Int32)), .unset, .unset, .unset, .unset]) C d6_22 rfl rfl rfl ?_
  refine own_aloadN (pc' := 25) C d6_24 rfl rfl rfl ?_
  refine own_iload (pc' := 27) C d6_25 rfl rfl ?_
  refine own_laload (pc' := 28) (v := x0_) (i := 0) C d6_27 A_g (by decide) rfl rfl rfl ?_
  refine own_lstore (pc' := 30) (y := x0_) (Ls' := #[.val (.ref a), .val (.int (1 : Int32)), .val (.ref g), .val (.long x0_), .second, .val (.int (0 : Int32)), .val (.long x0_), .second, .unset, .unset]) C d6_28 rfl rfl rfl ?_
  refine own_iconst (pc' := 31) (v := (0 : Int32)) C d6_30 own_ki_0 rfl ?_
  refine own_istore (pc' := 33) (y := (0 : Int32)) (Ls' := #[.val (.ref a), .val (.int (1 : Int32)), .val (.ref g), .val (.long x0_), .second, .val (.int (0 : Int32)), .val (.long x0_), .second, .val (.int (0 : Int32)), .unset]) C d6_31 rfl rfl rfl ?_
  refine own_iconst (pc' := 34) (v := (1 : Int32)) C d6_33 own_ki_1 rfl ?_
  refine own_istore (pc' := 36) (y := (1 : Int32)) (Ls' := #[.val (.ref a), .val (.int (1 : Int32)), .val (.ref g), .val (.long x0_), .second, .val (.int (0 : Int32)), .val (.long x0_), .second, .val (.int (0 : Int32)), .val (.int (1 : Int32))]) C d6_34 rfl rfl rfl ?_
  refine own_iload (pc' := 38) C d6_36 rfl rfl ?_
  refine own_iload (pc' := 40) C d6_38 rfl rfl ?_
  refine own_icmp_ge (pt := 105) (pf := 43) C d6_40 (by decide) (by decide) rfl (fun _ => ?_) (fun q => absurd q (by decide))
  refine own_aloadN (pc' := 106) C d6_105 rfl rfl rfl ?_
  refine own_iload (pc' := 108) C d6_106 rfl rfl ?_
  refine own_lload (pc' := 110) C d6_108 rfl rfl ?_
  refine own_lastore (pc' := 111) (i := 0) (ys := [x0_, x1_, x2_, x3_, x4_, x5_, x6_, x7_]) C d6_110 A_g (by decide) rfl (Nat.le_of_ble_eq_true rfl) rfl g_g rfl ?_
  intro h2 W2 A2_
  replace E_a := E_a.wr W2
  replace F_a_heaps := F_a_heaps.other W2 (Or.inl ne_a_g)
  replace F_a_sizes := F_a_sizes.other W2 (Or.inl ne_a_g)
  replace A_hp := A_hp.other W2 ne_hp_g
  replace A_sz := A_sz.other W2 ne_sz_g
  replace E_g := E_g.wr W2
  replace A_g := A2_
  replace Z_ : n0 ≤ _ := Nat.le_trans Z_ (Nat.le_of_eq W2.size.symm)
  replace K_ := K_.wr W2 (Or.inl (List.mem_of_getElem? (i := 1) rfl))
  refine own_lloadN (pc' := 112) C d6_111 rfl rfl ?_
  refine own_lret C d6_112 (by decide) (by decide) ?_
  exact ⟨rfl, K_, A_sz, A_g⟩

set_option maxRecDepth 65536 in
set_option maxHeartbeats 40000000 in
theorem own_poll1_1 (l : Launch) (Z : State) (a0 : Array Value) (hw : ∀ d ∈ tables_1, d.before a0 Z = true) (a : Addr) (hp sz g : Addr) (x0_ x1_ x2_ x3_ x4_ x5_ x6_ x7_ : Int64) (h0 : Heap) (n0 : Nat) (Z_ : n0 ≤ h0.size) (E_a : Exa Z h0 a "com/example/precedence/precedence/LongHeaps") (F_a_heaps : Fld Z h0 a "com/example/precedence/precedence/LongHeaps" "heaps" "[[J" (.ref hp)) (F_a_sizes : Fld Z h0 a "com/example/precedence/precedence/LongHeaps" "sizes" "[I" (.ref sz)) (g_a : n0 ≤ a) (A_hp : AR Z h0 hp [.null, (.ref g)]) (A_sz : AI Z h0 sz .int [(0 : Int32), (2 : Int32)]) (g_hp : n0 ≤ hp) (g_sz : n0 ≤ sz) (ne_a_hp : a ≠ hp) (ne_a_sz : a ≠ sz) (ne_hp_sz : hp ≠ sz) (A_g : AJ Z h0 g [x0_, x1_, x2_, x3_, x4_, x5_, x6_, x7_]) (E_g : Exa Z h0 g "[J") (g_g : n0 ≤ g) (ne_a_g : a ≠ g) (ne_hp_g : hp ≠ g) (ne_sz_g : sz ≠ g) :
    Met l (⟨"com/example/precedence/precedence/LongHeaps", "poll", "(I)J"⟩ : MethodName) prog_58_method_5_code 10 (some .long) [] ({ frames := 0, cells := 0, slots := 0, locals := 0 } : Room) Z n0 #[(.ref a), (.int (1 : Int32))] h0 (fun v h => v = some (.long x0_) ∧ Keep h0 h [sz, g] ∧ AI Z h sz .int [(0 : Int32), (1 : Int32)] ∧ AJ Z h g [x1_, x1_, x2_, x3_, x4_, x5_, x6_, x7_]) := by
  refine own_met pn6 (fun m => ef6 m a (1 : Int32)) ?_
  intro p e s m below meth c C
  have K_ : Keep h0 h0 [sz, g] := Keep.refl _ _
  refine own_aloadN (pc' := 1) C d6_0 rfl rfl rfl ?_
  refine own_getfield (pc' := 4) C d6_1 (hw _ (List.mem_of_getElem? (i := 11) rfl)) F_a_heaps rfl ?_
  refine own_iloadN (pc' := 5) C d6_4 rfl rfl ?_
  refine own_aaload (pc' := 6) (v := (.ref g)) (i := 1) C d6_5 A_hp (by decide) rfl rfl rfl ?_
  refine own_astoreN (pc' := 7) (Ls' := #[.val (.ref a), .val (.int (1 : Int32)), .val (.ref g), .unset, .unset, .unset, .unset, .unset, .unset, .unset]) C d6_6 rfl rfl rfl ?_
  refine own_aloadN (pc' := 8) C d6_7 rfl rfl rfl ?_
  refine own_iconst (pc' := 9) (v := (0 : Int32)) C d6_8 own_ki_0 rfl ?_
  refine own_laload (pc' := 10) (v := x0_) (i := 0) C d6_9 A_g (by decide) rfl rfl rfl ?_
  refine own_lstoreN (pc' := 11) (y := x0_) (Ls' := #[.val (.ref a), .val (.int (1 : Int32)), .val (.ref g), .val (.long x0_), .second, .unset, .unset, .unset, .unset, .unset]) C d6_10 rfl rfl rfl ?_
  refine own_aloadN (pc' := 12) C d6_11 rfl rfl rfl ?_
  refine own_getfield (pc' := 15) C d6_12 (hw _ (List.mem_of_getElem? (i := 14) rfl)) F_a_sizes rfl ?_
  refine own_iloadN (pc' := 16) C d6_15 rfl rfl ?_
  refine own_dup2 (pc' := 17) C d6_16 rfl rfl rfl ?_
  refine own_iaload (pc' := 18) (v := (2 : Int32)) (i := 1) C d6_17 A_sz (by decide) rfl rfl rfl ?_
  refine own_iconst (pc' := 19) (v := (1 : Int32)) C d6_18 own_ki_1 rfl ?_
  refine own_isub (pc' := 20) (v := (1 : Int32)) C d6_19 (by decide) rfl ?_
  refine own_dupX2 (pc' := 21) C d6_20 rfl rfl rfl rfl ?_
  refine own_iastore (pc' := 22) (i := 1) (ys := [(0 : Int32), (1 : Int32)]) C d6_21 A_sz (by decide) rfl (Nat.le_of_ble_eq_true rfl) rfl g_sz rfl ?_
  intro h1 W1 A1_
  replace E_a := E_a.wr W1
  replace F_a_heaps := F_a_heaps.other W1 (Or.inl ne_a_sz)
  replace F_a_sizes := F_a_sizes.other W1 (Or.inl ne_a_sz)
  replace A_hp := A_hp.other W1 ne_hp_sz
  replace A_g := A_g.other W1 (Ne.symm ne_sz_g)
  replace E_g := E_g.wr W1
  replace A_sz := A1_
  replace Z_ : n0 ≤ _ := Nat.le_trans Z_ (Nat.le_of_eq W1.size.symm)
  replace K_ := K_.wr W1 (Or.inl (List.mem_of_getElem? (i := 0) rfl))
  refine own_istore (pc' := 24) (y := (1 : Int32)) (Ls' := #[.val (.ref a), .val (.int (1 : Int32)), .val (.ref g), .val (.long x0_), .second, .val (.int (1 : Int32)), .unset, .unset, .unset, .unset]) C d6_22 rfl rfl rfl ?_
  refine own_aloadN (pc' := 25) C d6_24 rfl rfl rfl ?_
  refine own_iload (pc' := 27) C d6_25 rfl rfl ?_
  refine own_laload (pc' := 28) (v := x1_) (i := 1) C d6_27 A_g (by decide) rfl rfl rfl ?_
  refine own_lstore (pc' := 30) (y := x1_) (Ls' := #[.val (.ref a), .val (.int (1 : Int32)), .val (.ref g), .val (.long x0_), .second, .val (.int (1 : Int32)), .val (.long x1_), .second, .unset, .unset]) C d6_28 rfl rfl rfl ?_
  refine own_iconst (pc' := 31) (v := (0 : Int32)) C d6_30 own_ki_0 rfl ?_
  refine own_istore (pc' := 33) (y := (0 : Int32)) (Ls' := #[.val (.ref a), .val (.int (1 : Int32)), .val (.ref g), .val (.long x0_), .second, .val (.int (1 : Int32)), .val (.long x1_), .second, .val (.int (0 : Int32)), .unset]) C d6_31 rfl rfl rfl ?_
  refine own_iconst (pc' := 34) (v := (1 : Int32)) C d6_33 own_ki_1 rfl ?_
  refine own_istore (pc' := 36) (y := (1 : Int32)) (Ls' := #[.val (.ref a), .val (.int (1 : Int32)), .val (.ref g), .val (.long x0_), .second, .val (.int (1 : Int32)), .val (.long x1_), .second, .val (.int (0 : Int32)), .val (.int (1 : Int32))]) C d6_34 rfl rfl rfl ?_
  refine own_iload (pc' := 38) C d6_36 rfl rfl ?_
  refine own_iload (pc' := 40) C d6_38 rfl rfl ?_
  refine own_icmp_ge (pt := 105) (pf := 43) C d6_40 (by decide) (by decide) rfl (fun _ => ?_) (fun q => absurd q (by decide))
  refine own_aloadN (pc' := 106) C d6_105 rfl rfl rfl ?_
  refine own_iload (pc' := 108) C d6_106 rfl rfl ?_
  refine own_lload (pc' := 110) C d6_108 rfl rfl ?_
  refine own_lastore (pc' := 111) (i := 0) (ys := [x1_, x1_, x2_, x3_, x4_, x5_, x6_, x7_]) C d6_110 A_g (by decide) rfl (Nat.le_of_ble_eq_true rfl) rfl g_g rfl ?_
  intro h2 W2 A2_
  replace E_a := E_a.wr W2
  replace F_a_heaps := F_a_heaps.other W2 (Or.inl ne_a_g)
  replace F_a_sizes := F_a_sizes.other W2 (Or.inl ne_a_g)
  replace A_hp := A_hp.other W2 ne_hp_g
  replace A_sz := A_sz.other W2 ne_sz_g
  replace E_g := E_g.wr W2
  replace A_g := A2_
  replace Z_ : n0 ≤ _ := Nat.le_trans Z_ (Nat.le_of_eq W2.size.symm)
  replace K_ := K_.wr W2 (Or.inl (List.mem_of_getElem? (i := 1) rfl))
  refine own_lloadN (pc' := 112) C d6_111 rfl rfl ?_
  refine own_lret C d6_112 (by decide) (by decide) ?_
  exact ⟨rfl, K_, A_sz, A_g⟩

set_option maxRecDepth 65536 in
set_option maxHeartbeats 40000000 in
theorem own_poll1_2 (l : Launch) (Z : State) (a0 : Array Value) (hw : ∀ d ∈ tables_1, d.before a0 Z = true) (a : Addr) (hp sz g : Addr) (x0_ x1_ x2_ x3_ x4_ x5_ x6_ x7_ : Int64) (h0 : Heap) (n0 : Nat) (Z_ : n0 ≤ h0.size) (E_a : Exa Z h0 a "com/example/precedence/precedence/LongHeaps") (F_a_heaps : Fld Z h0 a "com/example/precedence/precedence/LongHeaps" "heaps" "[[J" (.ref hp)) (F_a_sizes : Fld Z h0 a "com/example/precedence/precedence/LongHeaps" "sizes" "[I" (.ref sz)) (g_a : n0 ≤ a) (A_hp : AR Z h0 hp [.null, (.ref g)]) (A_sz : AI Z h0 sz .int [(0 : Int32), (3 : Int32)]) (g_hp : n0 ≤ hp) (g_sz : n0 ≤ sz) (ne_a_hp : a ≠ hp) (ne_a_sz : a ≠ sz) (ne_hp_sz : hp ≠ sz) (A_g : AJ Z h0 g [x0_, x1_, x2_, x3_, x4_, x5_, x6_, x7_]) (E_g : Exa Z h0 g "[J") (g_g : n0 ≤ g) (ne_a_g : a ≠ g) (ne_hp_g : hp ≠ g) (ne_sz_g : sz ≠ g) :
    Met l (⟨"com/example/precedence/precedence/LongHeaps", "poll", "(I)J"⟩ : MethodName) prog_58_method_5_code 10 (some .long) [] ({ frames := 0, cells := 0, slots := 0, locals := 0 } : Room) Z n0 #[(.ref a), (.int (1 : Int32))] h0 (fun v h => v = some (.long x0_) ∧ Keep h0 h [sz, g] ∧ AI Z h sz .int [(0 : Int32), (2 : Int32)] ∧ AJ Z h g [(own_q2 own_lt x0_ x1_ x2_).1, (own_q2 own_lt x0_ x1_ x2_).2, x2_, x3_, x4_, x5_, x6_, x7_]) := by
  refine own_met pn6 (fun m => ef6 m a (1 : Int32)) ?_
  intro p e s m below meth c C
  have K_ : Keep h0 h0 [sz, g] := Keep.refl _ _
  refine own_aloadN (pc' := 1) C d6_0 rfl rfl rfl ?_
  refine own_getfield (pc' := 4) C d6_1 (hw _ (List.mem_of_getElem? (i := 11) rfl)) F_a_heaps rfl ?_
  refine own_iloadN (pc' := 5) C d6_4 rfl rfl ?_
  refine own_aaload (pc' := 6) (v := (.ref g)) (i := 1) C d6_5 A_hp (by decide) rfl rfl rfl ?_
  refine own_astoreN (pc' := 7) (Ls' := #[.val (.ref a), .val (.int (1 : Int32)), .val (.ref g), .unset, .unset, .unset, .unset, .unset, .unset, .unset]) C d6_6 rfl rfl rfl ?_
  refine own_aloadN (pc' := 8) C d6_7 rfl rfl rfl ?_
  refine own_iconst (pc' := 9) (v := (0 : Int32)) C d6_8 own_ki_0 rfl ?_
  refine own_laload (pc' := 10) (v := x0_) (i := 0) C d6_9 A_g (by decide) rfl rfl rfl ?_
  refine own_lstoreN (pc' := 11) (y := x0_) (Ls' := #[.val (.ref a), .val (.int (1 : Int32)), .val (.ref g), .val (.long x0_), .second, .unset, .unset, .unset, .unset, .unset]) C d6_10 rfl rfl rfl ?_
  refine own_aloadN (pc' := 12) C d6_11 rfl rfl rfl ?_
  refine own_getfield (pc' := 15) C d6_12 (hw _ (List.mem_of_getElem? (i := 14) rfl)) F_a_sizes rfl ?_
  refine own_iloadN (pc' := 16) C d6_15 rfl rfl ?_
  refine own_dup2 (pc' := 17) C d6_16 rfl rfl rfl ?_
  refine own_iaload (pc' := 18) (v := (3 : Int32)) (i := 1) C d6_17 A_sz (by decide) rfl rfl rfl ?_
  refine own_iconst (pc' := 19) (v := (1 : Int32)) C d6_18 own_ki_1 rfl ?_
  refine own_isub (pc' := 20) (v := (2 : Int32)) C d6_19 (by decide) rfl ?_
  refine own_dupX2 (pc' := 21) C d6_20 rfl rfl rfl rfl ?_
  refine own_iastore (pc' := 22) (i := 1) (ys := [(0 : Int32), (2 : Int32)]) C d6_21 A_sz (by decide) rfl (Nat.le_of_ble_eq_true rfl) rfl g_sz rfl ?_
  intro h1 W1 A1_
  replace E_a := E_a.wr W1
  replace F_a_heaps := F_a_heaps.other W1 (Or.inl ne_a_sz)
  replace F_a_sizes := F_a_sizes.other W1 (Or.inl ne_a_sz)
  replace A_hp := A_hp.other W1 ne_hp_sz
  replace A_g := A_g.other W1 (Ne.symm ne_sz_g)
  replace E_g := E_g.wr W1
  replace A_sz := A1_
  replace Z_ : n0 ≤ _ := Nat.le_trans Z_ (Nat.le_of_eq W1.size.symm)
  replace K_ := K_.wr W1 (Or.inl (List.mem_of_getElem? (i := 0) rfl))
  refine own_istore (pc' := 24) (y := (2 : Int32)) (Ls' := #[.val (.ref a), .val (.int (1 : Int32)), .val (.ref g), .val (.long x0_), .second, .val (.int (2 : Int32)), .unset, .unset, .unset, .unset]) C d6_22 rfl rfl rfl ?_
  refine own_aloadN (pc' := 25) C d6_24 rfl rfl rfl ?_
  refine own_iload (pc' := 27) C d6_25 rfl rfl ?_
  refine own_laload (pc' := 28) (v := x2_) (i := 2) C d6_27 A_g (by decide) rfl rfl rfl ?_
  refine own_lstore (pc' := 30) (y := x2_) (Ls' := #[.val (.ref a), .val (.int (1 : Int32)), .val (.ref g), .val (.long x0_), .second, .val (.int (2 : Int32)), .val (.long x2_), .second, .unset, .unset]) C d6_28 rfl rfl rfl ?_
  refine own_iconst (pc' := 31) (v := (0 : Int32)) C d6_30 own_ki_0 rfl ?_
  refine own_istore (pc' := 33) (y := (0 : Int32)) (Ls' := #[.val (.ref a), .val (.int (1 : Int32)), .val (.ref g), .val (.long x0_), .second, .val (.int (2 : Int32)), .val (.long x2_), .second, .val (.int (0 : Int32)), .unset]) C d6_31 rfl rfl rfl ?_
  refine own_iconst (pc' := 34) (v := (1 : Int32)) C d6_33 own_ki_1 rfl ?_
  refine own_istore (pc' := 36) (y := (1 : Int32)) (Ls' := #[.val (.ref a), .val (.int (1 : Int32)), .val (.ref g), .val (.long x0_), .second, .val (.int (2 : Int32)), .val (.long x2_), .second, .val (.int (0 : Int32)), .val (.int (1 : Int32))]) C d6_34 rfl rfl rfl ?_
  refine own_iload (pc' := 38) C d6_36 rfl rfl ?_
  refine own_iload (pc' := 40) C d6_38 rfl rfl ?_
  refine own_icmp_ge (pt := 105) (pf := 43) C d6_40 (by decide) (by decide) rfl (fun q => absurd (by decide) q) (fun _ => ?_)
  refine own_iload (pc' := 45) C d6_43 rfl rfl ?_
  refine own_iconst (pc' := 46) (v := (1 : Int32)) C d6_45 own_ki_1 rfl ?_
  refine own_iadd (pc' := 47) (v := (2 : Int32)) C d6_46 (by decide) rfl ?_
  refine own_iload (pc' := 49) C d6_47 rfl rfl ?_
  refine own_icmp_ge (pt := 69) (pf := 52) C d6_49 (by decide) (by decide) rfl (fun _ => ?_) (fun q => absurd q (by decide))
  refine own_aloadN (pc' := 70) C d6_69 rfl rfl rfl ?_
  refine own_iload (pc' := 72) C d6_70 rfl rfl ?_
  refine own_laload (pc' := 73) (v := x1_) (i := 1) C d6_72 A_g (by decide) rfl rfl rfl ?_
  refine own_lload (pc' := 75) C d6_73 rfl rfl ?_
  refine own_lcmp_lt (pt := 82) (pf := 79) C d6_75 rfl d6_76 (by decide) (by decide) rfl ?_ ?_
  · intro hc75
    refine own_aloadN (pc' := 83) C d6_82 rfl rfl rfl ?_
    refine own_iload (pc' := 85) C d6_83 rfl rfl ?_
    refine own_aloadN (pc' := 86) C d6_85 rfl rfl rfl ?_
    refine own_iload (pc' := 88) C d6_86 rfl rfl ?_
    refine own_laload (pc' := 89) (v := x1_) (i := 1) C d6_88 A_g (by decide) rfl rfl rfl ?_
    refine own_lastore (pc' := 90) (i := 0) (ys := [x1_, x1_, x2_, x3_, x4_, x5_, x6_, x7_]) C d6_89 A_g (by decide) rfl (Nat.le_of_ble_eq_true rfl) rfl g_g rfl ?_
    intro h2 W2 A2_
    replace E_a := E_a.wr W2
    replace F_a_heaps := F_a_heaps.other W2 (Or.inl ne_a_g)
    replace F_a_sizes := F_a_sizes.other W2 (Or.inl ne_a_g)
    replace A_hp := A_hp.other W2 ne_hp_g
    replace A_sz := A_sz.other W2 ne_sz_g
    replace E_g := E_g.wr W2
    replace A_g := A2_
    replace Z_ : n0 ≤ _ := Nat.le_trans Z_ (Nat.le_of_eq W2.size.symm)
    replace K_ := K_.wr W2 (Or.inl (List.mem_of_getElem? (i := 1) rfl))
    refine own_iload (pc' := 92) C d6_90 rfl rfl ?_
    refine own_istore (pc' := 94) (y := (1 : Int32)) (Ls' := #[.val (.ref a), .val (.int (1 : Int32)), .val (.ref g), .val (.long x0_), .second, .val (.int (2 : Int32)), .val (.long x2_), .second, .val (.int (1 : Int32)), .val (.int (1 : Int32))]) C d6_92 rfl rfl rfl ?_
    refine own_iconst (pc' := 95) (v := (2 : Int32)) C d6_94 own_ki_2 rfl ?_
    refine own_iload (pc' := 97) C d6_95 rfl rfl ?_
    refine own_imul (pc' := 98) (v := (2 : Int32)) C d6_97 (by decide) rfl ?_
    refine own_iconst (pc' := 99) (v := (1 : Int32)) C d6_98 own_ki_1 rfl ?_
    refine own_iadd (pc' := 100) (v := (3 : Int32)) C d6_99 (by decide) rfl ?_
    refine own_istore (pc' := 102) (y := (3 : Int32)) (Ls' := #[.val (.ref a), .val (.int (1 : Int32)), .val (.ref g), .val (.long x0_), .second, .val (.int (2 : Int32)), .val (.long x2_), .second, .val (.int (1 : Int32)), .val (.int (3 : Int32))]) C d6_100 rfl rfl rfl ?_
    refine own_goto (pc' := 36) C d6_102 (by decide) (by decide) ?_
    refine own_iload (pc' := 38) C d6_36 rfl rfl ?_
    refine own_iload (pc' := 40) C d6_38 rfl rfl ?_
    refine own_icmp_ge (pt := 105) (pf := 43) C d6_40 (by decide) (by decide) rfl (fun _ => ?_) (fun q => absurd q (by decide))
    refine own_aloadN (pc' := 106) C d6_105 rfl rfl rfl ?_
    refine own_iload (pc' := 108) C d6_106 rfl rfl ?_
    refine own_lload (pc' := 110) C d6_108 rfl rfl ?_
    refine own_lastore (pc' := 111) (i := 1) (ys := [x1_, x2_, x2_, x3_, x4_, x5_, x6_, x7_]) C d6_110 A_g (by decide) rfl (Nat.le_of_ble_eq_true rfl) rfl g_g rfl ?_
    intro h3 W3 A3_
    replace E_a := E_a.wr W3
    replace F_a_heaps := F_a_heaps.other W3 (Or.inl ne_a_g)
    replace F_a_sizes := F_a_sizes.other W3 (Or.inl ne_a_g)
    replace A_hp := A_hp.other W3 ne_hp_g
    replace A_sz := A_sz.other W3 ne_sz_g
    replace E_g := E_g.wr W3
    replace A_g := A3_
    replace Z_ : n0 ≤ _ := Nat.le_trans Z_ (Nat.le_of_eq W3.size.symm)
    replace K_ := K_.wr W3 (Or.inl (List.mem_of_getElem? (i := 1) rfl))
    refine own_lloadN (pc' := 112) C d6_111 rfl rfl ?_
    refine own_lret C d6_112 (by decide) (by decide) ?_
    have l_hc75 : own_lt x1_ x2_ = true := by simp [own_lt, hc75]
    refine ⟨rfl, K_, A_sz, ?_⟩
    simp only [own_q2, l_hc75, if_true, if_false, Bool.false_eq_true]; exact A_g
  · intro hc75
    refine own_goto (pc' := 105) C d6_79 (by decide) (by decide) ?_
    refine own_aloadN (pc' := 106) C d6_105 rfl rfl rfl ?_
    refine own_iload (pc' := 108) C d6_106 rfl rfl ?_
    refine own_lload (pc' := 110) C d6_108 rfl rfl ?_
    refine own_lastore (pc' := 111) (i := 0) (ys := [x2_, x1_, x2_, x3_, x4_, x5_, x6_, x7_]) C d6_110 A_g (by decide) rfl (Nat.le_of_ble_eq_true rfl) rfl g_g rfl ?_
    intro h2 W2 A2_
    replace E_a := E_a.wr W2
    replace F_a_heaps := F_a_heaps.other W2 (Or.inl ne_a_g)
    replace F_a_sizes := F_a_sizes.other W2 (Or.inl ne_a_g)
    replace A_hp := A_hp.other W2 ne_hp_g
    replace A_sz := A_sz.other W2 ne_sz_g
    replace E_g := E_g.wr W2
    replace A_g := A2_
    replace Z_ : n0 ≤ _ := Nat.le_trans Z_ (Nat.le_of_eq W2.size.symm)
    replace K_ := K_.wr W2 (Or.inl (List.mem_of_getElem? (i := 1) rfl))
    refine own_lloadN (pc' := 112) C d6_111 rfl rfl ?_
    refine own_lret C d6_112 (by decide) (by decide) ?_
    have l_hc75 : own_lt x1_ x2_ = false := by simp [own_lt, hc75]
    refine ⟨rfl, K_, A_sz, ?_⟩
    simp only [own_q2, l_hc75, if_true, if_false, Bool.false_eq_true]; exact A_g

set_option maxRecDepth 65536 in
set_option maxHeartbeats 40000000 in
theorem own_poll1_3 (l : Launch) (Z : State) (a0 : Array Value) (hw : ∀ d ∈ tables_1, d.before a0 Z = true) (a : Addr) (hp sz g : Addr) (x0_ x1_ x2_ x3_ x4_ x5_ x6_ x7_ : Int64) (h0 : Heap) (n0 : Nat) (Z_ : n0 ≤ h0.size) (E_a : Exa Z h0 a "com/example/precedence/precedence/LongHeaps") (F_a_heaps : Fld Z h0 a "com/example/precedence/precedence/LongHeaps" "heaps" "[[J" (.ref hp)) (F_a_sizes : Fld Z h0 a "com/example/precedence/precedence/LongHeaps" "sizes" "[I" (.ref sz)) (g_a : n0 ≤ a) (A_hp : AR Z h0 hp [.null, (.ref g)]) (A_sz : AI Z h0 sz .int [(0 : Int32), (4 : Int32)]) (g_hp : n0 ≤ hp) (g_sz : n0 ≤ sz) (ne_a_hp : a ≠ hp) (ne_a_sz : a ≠ sz) (ne_hp_sz : hp ≠ sz) (A_g : AJ Z h0 g [x0_, x1_, x2_, x3_, x4_, x5_, x6_, x7_]) (E_g : Exa Z h0 g "[J") (g_g : n0 ≤ g) (ne_a_g : a ≠ g) (ne_hp_g : hp ≠ g) (ne_sz_g : sz ≠ g) :
    Met l (⟨"com/example/precedence/precedence/LongHeaps", "poll", "(I)J"⟩ : MethodName) prog_58_method_5_code 10 (some .long) [] ({ frames := 0, cells := 0, slots := 0, locals := 0 } : Room) Z n0 #[(.ref a), (.int (1 : Int32))] h0 (fun v h => v = some (.long x0_) ∧ Keep h0 h [sz, g] ∧ AI Z h sz .int [(0 : Int32), (3 : Int32)] ∧ AJ Z h g [(own_q3 own_lt x0_ x1_ x2_ x3_).1, (own_q3 own_lt x0_ x1_ x2_ x3_).2.1, (own_q3 own_lt x0_ x1_ x2_ x3_).2.2, x3_, x4_, x5_, x6_, x7_]) := by
  refine own_met pn6 (fun m => ef6 m a (1 : Int32)) ?_
  intro p e s m below meth c C
  have K_ : Keep h0 h0 [sz, g] := Keep.refl _ _
  refine own_aloadN (pc' := 1) C d6_0 rfl rfl rfl ?_
  refine own_getfield (pc' := 4) C d6_1 (hw _ (List.mem_of_getElem? (i := 11) rfl)) F_a_heaps rfl ?_
  refine own_iloadN (pc' := 5) C d6_4 rfl rfl ?_
  refine own_aaload (pc' := 6) (v := (.ref g)) (i := 1) C d6_5 A_hp (by decide) rfl rfl rfl ?_
  refine own_astoreN (pc' := 7) (Ls' := #[.val (.ref a), .val (.int (1 : Int32)), .val (.ref g), .unset, .unset, .unset, .unset, .unset, .unset, .unset]) C d6_6 rfl rfl rfl ?_
  refine own_aloadN (pc' := 8) C d6_7 rfl rfl rfl ?_
  refine own_iconst (pc' := 9) (v := (0 : Int32)) C d6_8 own_ki_0 rfl ?_
  refine own_laload (pc' := 10) (v := x0_) (i := 0) C d6_9 A_g (by decide) rfl rfl rfl ?_
  refine own_lstoreN (pc' := 11) (y := x0_) (Ls' := #[.val (.ref a), .val (.int (1 : Int32)), .val (.ref g), .val (.long x0_), .second, .unset, .unset, .unset, .unset, .unset]) C d6_10 rfl rfl rfl ?_
  refine own_aloadN (pc' := 12) C d6_11 rfl rfl rfl ?_
  refine own_getfield (pc' := 15) C d6_12 (hw _ (List.mem_of_getElem? (i := 14) rfl)) F_a_sizes rfl ?_
  refine own_iloadN (pc' := 16) C d6_15 rfl rfl ?_
  refine own_dup2 (pc' := 17) C d6_16 rfl rfl rfl ?_
  refine own_iaload (pc' := 18) (v := (4 : Int32)) (i := 1) C d6_17 A_sz (by decide) rfl rfl rfl ?_
  refine own_iconst (pc' := 19) (v := (1 : Int32)) C d6_18 own_ki_1 rfl ?_
  refine own_isub (pc' := 20) (v := (3 : Int32)) C d6_19 (by decide) rfl ?_
  refine own_dupX2 (pc' := 21) C d6_20 rfl rfl rfl rfl ?_
  refine own_iastore (pc' := 22) (i := 1) (ys := [(0 : Int32), (3 : Int32)]) C d6_21 A_sz (by decide) rfl (Nat.le_of_ble_eq_true rfl) rfl g_sz rfl ?_
  intro h1 W1 A1_
  replace E_a := E_a.wr W1
  replace F_a_heaps := F_a_heaps.other W1 (Or.inl ne_a_sz)
  replace F_a_sizes := F_a_sizes.other W1 (Or.inl ne_a_sz)
  replace A_hp := A_hp.other W1 ne_hp_sz
  replace A_g := A_g.other W1 (Ne.symm ne_sz_g)
  replace E_g := E_g.wr W1
  replace A_sz := A1_
  replace Z_ : n0 ≤ _ := Nat.le_trans Z_ (Nat.le_of_eq W1.size.symm)
  replace K_ := K_.wr W1 (Or.inl (List.mem_of_getElem? (i := 0) rfl))
  refine own_istore (pc' := 24) (y := (3 : Int32)) (Ls' := #[.val (.ref a), .val (.int (1 : Int32)), .val (.ref g), .val (.long x0_), .second, .val (.int (3 : Int32)), .unset, .unset, .unset, .unset]) C d6_22 rfl rfl rfl ?_
  refine own_aloadN (pc' := 25) C d6_24 rfl rfl rfl ?_
  refine own_iload (pc' := 27) C d6_25 rfl rfl ?_
  refine own_laload (pc' := 28) (v := x3_) (i := 3) C d6_27 A_g (by decide) rfl rfl rfl ?_
  refine own_lstore (pc' := 30) (y := x3_) (Ls' := #[.val (.ref a), .val (.int (1 : Int32)), .val (.ref g), .val (.long x0_), .second, .val (.int (3 : Int32)), .val (.long x3_), .second, .unset, .unset]) C d6_28 rfl rfl rfl ?_
  refine own_iconst (pc' := 31) (v := (0 : Int32)) C d6_30 own_ki_0 rfl ?_
  refine own_istore (pc' := 33) (y := (0 : Int32)) (Ls' := #[.val (.ref a), .val (.int (1 : Int32)), .val (.ref g), .val (.long x0_), .second, .val (.int (3 : Int32)), .val (.long x3_), .second, .val (.int (0 : Int32)), .unset]) C d6_31 rfl rfl rfl ?_
  refine own_iconst (pc' := 34) (v := (1 : Int32)) C d6_33 own_ki_1 rfl ?_
  refine own_istore (pc' := 36) (y := (1 : Int32)) (Ls' := #[.val (.ref a), .val (.int (1 : Int32)), .val (.ref g), .val (.long x0_), .second, .val (.int (3 : Int32)), .val (.long x3_), .second, .val (.int (0 : Int32)), .val (.int (1 : Int32))]) C d6_34 rfl rfl rfl ?_
  refine own_iload (pc' := 38) C d6_36 rfl rfl ?_
  refine own_iload (pc' := 40) C d6_38 rfl rfl ?_
  refine own_icmp_ge (pt := 105) (pf := 43) C d6_40 (by decide) (by decide) rfl (fun q => absurd (by decide) q) (fun _ => ?_)
  refine own_iload (pc' := 45) C d6_43 rfl rfl ?_
  refine own_iconst (pc' := 46) (v := (1 : Int32)) C d6_45 own_ki_1 rfl ?_
  refine own_iadd (pc' := 47) (v := (2 : Int32)) C d6_46 (by decide) rfl ?_
  refine own_iload (pc' := 49) C d6_47 rfl rfl ?_
  refine own_icmp_ge (pt := 69) (pf := 52) C d6_49 (by decide) (by decide) rfl (fun q => absurd (by decide) q) (fun _ => ?_)
  refine own_aloadN (pc' := 53) C d6_52 rfl rfl rfl ?_
  refine own_iload (pc' := 55) C d6_53 rfl rfl ?_
  refine own_iconst (pc' := 56) (v := (1 : Int32)) C d6_55 own_ki_1 rfl ?_
  refine own_iadd (pc' := 57) (v := (2 : Int32)) C d6_56 (by decide) rfl ?_
  refine own_laload (pc' := 58) (v := x2_) (i := 2) C d6_57 A_g (by decide) rfl rfl rfl ?_
  refine own_aloadN (pc' := 59) C d6_58 rfl rfl rfl ?_
  refine own_iload (pc' := 61) C d6_59 rfl rfl ?_
  refine own_laload (pc' := 62) (v := x1_) (i := 1) C d6_61 A_g (by decide) rfl rfl rfl ?_
  refine own_lcmp_ge (pt := 69) (pf := 66) C d6_62 rfl d6_63 (by decide) (by decide) rfl ?_ ?_
  · intro hc62
    refine own_aloadN (pc' := 70) C d6_69 rfl rfl rfl ?_
    refine own_iload (pc' := 72) C d6_70 rfl rfl ?_
    refine own_laload (pc' := 73) (v := x1_) (i := 1) C d6_72 A_g (by decide) rfl rfl rfl ?_
    refine own_lload (pc' := 75) C d6_73 rfl rfl ?_
    refine own_lcmp_lt (pt := 82) (pf := 79) C d6_75 rfl d6_76 (by decide) (by decide) rfl ?_ ?_
    · intro hc75
      refine own_aloadN (pc' := 83) C d6_82 rfl rfl rfl ?_
      refine own_iload (pc' := 85) C d6_83 rfl rfl ?_
      refine own_aloadN (pc' := 86) C d6_85 rfl rfl rfl ?_
      refine own_iload (pc' := 88) C d6_86 rfl rfl ?_
      refine own_laload (pc' := 89) (v := x1_) (i := 1) C d6_88 A_g (by decide) rfl rfl rfl ?_
      refine own_lastore (pc' := 90) (i := 0) (ys := [x1_, x1_, x2_, x3_, x4_, x5_, x6_, x7_]) C d6_89 A_g (by decide) rfl (Nat.le_of_ble_eq_true rfl) rfl g_g rfl ?_
      intro h2 W2 A2_
      replace E_a := E_a.wr W2
      replace F_a_heaps := F_a_heaps.other W2 (Or.inl ne_a_g)
      replace F_a_sizes := F_a_sizes.other W2 (Or.inl ne_a_g)
      replace A_hp := A_hp.other W2 ne_hp_g
      replace A_sz := A_sz.other W2 ne_sz_g
      replace E_g := E_g.wr W2
      replace A_g := A2_
      replace Z_ : n0 ≤ _ := Nat.le_trans Z_ (Nat.le_of_eq W2.size.symm)
      replace K_ := K_.wr W2 (Or.inl (List.mem_of_getElem? (i := 1) rfl))
      refine own_iload (pc' := 92) C d6_90 rfl rfl ?_
      refine own_istore (pc' := 94) (y := (1 : Int32)) (Ls' := #[.val (.ref a), .val (.int (1 : Int32)), .val (.ref g), .val (.long x0_), .second, .val (.int (3 : Int32)), .val (.long x3_), .second, .val (.int (1 : Int32)), .val (.int (1 : Int32))]) C d6_92 rfl rfl rfl ?_
      refine own_iconst (pc' := 95) (v := (2 : Int32)) C d6_94 own_ki_2 rfl ?_
      refine own_iload (pc' := 97) C d6_95 rfl rfl ?_
      refine own_imul (pc' := 98) (v := (2 : Int32)) C d6_97 (by decide) rfl ?_
      refine own_iconst (pc' := 99) (v := (1 : Int32)) C d6_98 own_ki_1 rfl ?_
      refine own_iadd (pc' := 100) (v := (3 : Int32)) C d6_99 (by decide) rfl ?_
      refine own_istore (pc' := 102) (y := (3 : Int32)) (Ls' := #[.val (.ref a), .val (.int (1 : Int32)), .val (.ref g), .val (.long x0_), .second, .val (.int (3 : Int32)), .val (.long x3_), .second, .val (.int (1 : Int32)), .val (.int (3 : Int32))]) C d6_100 rfl rfl rfl ?_
      refine own_goto (pc' := 36) C d6_102 (by decide) (by decide) ?_
      refine own_iload (pc' := 38) C d6_36 rfl rfl ?_
      refine own_iload (pc' := 40) C d6_38 rfl rfl ?_
      refine own_icmp_ge (pt := 105) (pf := 43) C d6_40 (by decide) (by decide) rfl (fun _ => ?_) (fun q => absurd q (by decide))
      refine own_aloadN (pc' := 106) C d6_105 rfl rfl rfl ?_
      refine own_iload (pc' := 108) C d6_106 rfl rfl ?_
      refine own_lload (pc' := 110) C d6_108 rfl rfl ?_
      refine own_lastore (pc' := 111) (i := 1) (ys := [x1_, x3_, x2_, x3_, x4_, x5_, x6_, x7_]) C d6_110 A_g (by decide) rfl (Nat.le_of_ble_eq_true rfl) rfl g_g rfl ?_
      intro h3 W3 A3_
      replace E_a := E_a.wr W3
      replace F_a_heaps := F_a_heaps.other W3 (Or.inl ne_a_g)
      replace F_a_sizes := F_a_sizes.other W3 (Or.inl ne_a_g)
      replace A_hp := A_hp.other W3 ne_hp_g
      replace A_sz := A_sz.other W3 ne_sz_g
      replace E_g := E_g.wr W3
      replace A_g := A3_
      replace Z_ : n0 ≤ _ := Nat.le_trans Z_ (Nat.le_of_eq W3.size.symm)
      replace K_ := K_.wr W3 (Or.inl (List.mem_of_getElem? (i := 1) rfl))
      refine own_lloadN (pc' := 112) C d6_111 rfl rfl ?_
      refine own_lret C d6_112 (by decide) (by decide) ?_
      have l_hc62 : own_lt x2_ x1_ = false := by simp [own_lt, hc62]
      have l_hc75 : own_lt x1_ x3_ = true := by simp [own_lt, hc75]
      refine ⟨rfl, K_, A_sz, ?_⟩
      simp only [own_q3, l_hc62, l_hc75, if_true, if_false, Bool.false_eq_true]; exact A_g
    · intro hc75
      refine own_goto (pc' := 105) C d6_79 (by decide) (by decide) ?_
      refine own_aloadN (pc' := 106) C d6_105 rfl rfl rfl ?_
      refine own_iload (pc' := 108) C d6_106 rfl rfl ?_
      refine own_lload (pc' := 110) C d6_108 rfl rfl ?_
      refine own_lastore (pc' := 111) (i := 0) (ys := [x3_, x1_, x2_, x3_, x4_, x5_, x6_, x7_]) C d6_110 A_g (by decide) rfl (Nat.le_of_ble_eq_true rfl) rfl g_g rfl ?_
      intro h2 W2 A2_
      replace E_a := E_a.wr W2
      replace F_a_heaps := F_a_heaps.other W2 (Or.inl ne_a_g)
      replace F_a_sizes := F_a_sizes.other W2 (Or.inl ne_a_g)
      replace A_hp := A_hp.other W2 ne_hp_g
      replace A_sz := A_sz.other W2 ne_sz_g
      replace E_g := E_g.wr W2
      replace A_g := A2_
      replace Z_ : n0 ≤ _ := Nat.le_trans Z_ (Nat.le_of_eq W2.size.symm)
      replace K_ := K_.wr W2 (Or.inl (List.mem_of_getElem? (i := 1) rfl))
      refine own_lloadN (pc' := 112) C d6_111 rfl rfl ?_
      refine own_lret C d6_112 (by decide) (by decide) ?_
      have l_hc62 : own_lt x2_ x1_ = false := by simp [own_lt, hc62]
      have l_hc75 : own_lt x1_ x3_ = false := by simp [own_lt, hc75]
      refine ⟨rfl, K_, A_sz, ?_⟩
      simp only [own_q3, l_hc62, l_hc75, if_true, if_false, Bool.false_eq_true]; exact A_g
  · intro hc62
    refine own_iinc (pc' := 69) (v := (2 : Int32)) (Ls' := #[.val (.ref a), .val (.int (1 : Int32)), .val (.ref g), .val (.long x0_), .second, .val (.int (3 : Int32)), .val (.long x3_), .second, .val (.int (0 : Int32)), .val (.int (2 : Int32))]) C d6_66 rfl (by decide) rfl rfl ?_
    refine own_aloadN (pc' := 70) C d6_69 rfl rfl rfl ?_
    refine own_iload (pc' := 72) C d6_70 rfl rfl ?_
    refine own_laload (pc' := 73) (v := x2_) (i := 2) C d6_72 A_g (by decide) rfl rfl rfl ?_
    refine own_lload (pc' := 75) C d6_73 rfl rfl ?_
    refine own_lcmp_lt (pt := 82) (pf := 79) C d6_75 rfl d6_76 (by decide) (by decide) rfl ?_ ?_
    · intro hc75
      refine own_aloadN (pc' := 83) C d6_82 rfl rfl rfl ?_
      refine own_iload (pc' := 85) C d6_83 rfl rfl ?_
      refine own_aloadN (pc' := 86) C d6_85 rfl rfl rfl ?_
      refine own_iload (pc' := 88) C d6_86 rfl rfl ?_
      refine own_laload (pc' := 89) (v := x2_) (i := 2) C d6_88 A_g (by decide) rfl rfl rfl ?_
      refine own_lastore (pc' := 90) (i := 0) (ys := [x2_, x1_, x2_, x3_, x4_, x5_, x6_, x7_]) C d6_89 A_g (by decide) rfl (Nat.le_of_ble_eq_true rfl) rfl g_g rfl ?_
      intro h2 W2 A2_
      replace E_a := E_a.wr W2
      replace F_a_heaps := F_a_heaps.other W2 (Or.inl ne_a_g)
      replace F_a_sizes := F_a_sizes.other W2 (Or.inl ne_a_g)
      replace A_hp := A_hp.other W2 ne_hp_g
      replace A_sz := A_sz.other W2 ne_sz_g
      replace E_g := E_g.wr W2
      replace A_g := A2_
      replace Z_ : n0 ≤ _ := Nat.le_trans Z_ (Nat.le_of_eq W2.size.symm)
      replace K_ := K_.wr W2 (Or.inl (List.mem_of_getElem? (i := 1) rfl))
      refine own_iload (pc' := 92) C d6_90 rfl rfl ?_
      refine own_istore (pc' := 94) (y := (2 : Int32)) (Ls' := #[.val (.ref a), .val (.int (1 : Int32)), .val (.ref g), .val (.long x0_), .second, .val (.int (3 : Int32)), .val (.long x3_), .second, .val (.int (2 : Int32)), .val (.int (2 : Int32))]) C d6_92 rfl rfl rfl ?_
      refine own_iconst (pc' := 95) (v := (2 : Int32)) C d6_94 own_ki_2 rfl ?_
      refine own_iload (pc' := 97) C d6_95 rfl rfl ?_
      refine own_imul (pc' := 98) (v := (4 : Int32)) C d6_97 (by decide) rfl ?_
      refine own_iconst (pc' := 99) (v := (1 : Int32)) C d6_98 own_ki_1 rfl ?_
      refine own_iadd (pc' := 100) (v := (5 : Int32)) C d6_99 (by decide) rfl ?_
      refine own_istore (pc' := 102) (y := (5 : Int32)) (Ls' := #[.val (.ref a), .val (.int (1 : Int32)), .val (.ref g), .val (.long x0_), .second, .val (.int (3 : Int32)), .val (.long x3_), .second, .val (.int (2 : Int32)), .val (.int (5 : Int32))]) C d6_100 rfl rfl rfl ?_
      refine own_goto (pc' := 36) C d6_102 (by decide) (by decide) ?_
      refine own_iload (pc' := 38) C d6_36 rfl rfl ?_
      refine own_iload (pc' := 40) C d6_38 rfl rfl ?_
      refine own_icmp_ge (pt := 105) (pf := 43) C d6_40 (by decide) (by decide) rfl (fun _ => ?_) (fun q => absurd q (by decide))
      refine own_aloadN (pc' := 106) C d6_105 rfl rfl rfl ?_
      refine own_iload (pc' := 108) C d6_106 rfl rfl ?_
      refine own_lload (pc' := 110) C d6_108 rfl rfl ?_
      refine own_lastore (pc' := 111) (i := 2) (ys := [x2_, x1_, x3_, x3_, x4_, x5_, x6_, x7_]) C d6_110 A_g (by decide) rfl (Nat.le_of_ble_eq_true rfl) rfl g_g rfl ?_
      intro h3 W3 A3_
      replace E_a := E_a.wr W3
      replace F_a_heaps := F_a_heaps.other W3 (Or.inl ne_a_g)
      replace F_a_sizes := F_a_sizes.other W3 (Or.inl ne_a_g)
      replace A_hp := A_hp.other W3 ne_hp_g
      replace A_sz := A_sz.other W3 ne_sz_g
      replace E_g := E_g.wr W3
      replace A_g := A3_
      replace Z_ : n0 ≤ _ := Nat.le_trans Z_ (Nat.le_of_eq W3.size.symm)
      replace K_ := K_.wr W3 (Or.inl (List.mem_of_getElem? (i := 1) rfl))
      refine own_lloadN (pc' := 112) C d6_111 rfl rfl ?_
      refine own_lret C d6_112 (by decide) (by decide) ?_
      have l_hc62 : own_lt x2_ x1_ = true := by simp [own_lt, hc62]
      have l_hc75 : own_lt x2_ x3_ = true := by simp [own_lt, hc75]
      refine ⟨rfl, K_, A_sz, ?_⟩
      simp only [own_q3, l_hc62, l_hc75, if_true, if_false, Bool.false_eq_true]; exact A_g
    · intro hc75
      refine own_goto (pc' := 105) C d6_79 (by decide) (by decide) ?_
      refine own_aloadN (pc' := 106) C d6_105 rfl rfl rfl ?_
      refine own_iload (pc' := 108) C d6_106 rfl rfl ?_
      refine own_lload (pc' := 110) C d6_108 rfl rfl ?_
      refine own_lastore (pc' := 111) (i := 0) (ys := [x3_, x1_, x2_, x3_, x4_, x5_, x6_, x7_]) C d6_110 A_g (by decide) rfl (Nat.le_of_ble_eq_true rfl) rfl g_g rfl ?_
      intro h2 W2 A2_
      replace E_a := E_a.wr W2
      replace F_a_heaps := F_a_heaps.other W2 (Or.inl ne_a_g)
      replace F_a_sizes := F_a_sizes.other W2 (Or.inl ne_a_g)
      replace A_hp := A_hp.other W2 ne_hp_g
      replace A_sz := A_sz.other W2 ne_sz_g
      replace E_g := E_g.wr W2
      replace A_g := A2_
      replace Z_ : n0 ≤ _ := Nat.le_trans Z_ (Nat.le_of_eq W2.size.symm)
      replace K_ := K_.wr W2 (Or.inl (List.mem_of_getElem? (i := 1) rfl))
      refine own_lloadN (pc' := 112) C d6_111 rfl rfl ?_
      refine own_lret C d6_112 (by decide) (by decide) ?_
      have l_hc62 : own_lt x2_ x1_ = true := by simp [own_lt, hc62]
      have l_hc75 : own_lt x2_ x3_ = false := by simp [own_lt, hc75]
      refine ⟨rfl, K_, A_sz, ?_⟩
      simp only [own_q3, l_hc62, l_hc75, if_true, if_false, Bool.false_eq_true]; exact A_g

set_option maxRecDepth 65536 in
set_option maxHeartbeats 40000000 in
theorem own_poll1_4 (l : Launch) (Z : State) (a0 : Array Value) (hw : ∀ d ∈ tables_1, d.before a0 Z = true) (a : Addr) (hp sz g : Addr) (x0_ x1_ x2_ x3_ x4_ x5_ x6_ x7_ : Int64) (h0 : Heap) (n0 : Nat) (Z_ : n0 ≤ h0.size) (E_a : Exa Z h0 a "com/example/precedence/precedence/LongHeaps") (F_a_heaps : Fld Z h0 a "com/example/precedence/precedence/LongHeaps" "heaps" "[[J" (.ref hp)) (F_a_sizes : Fld Z h0 a "com/example/precedence/precedence/LongHeaps" "sizes" "[I" (.ref sz)) (g_a : n0 ≤ a) (A_hp : AR Z h0 hp [.null, (.ref g)]) (A_sz : AI Z h0 sz .int [(0 : Int32), (5 : Int32)]) (g_hp : n0 ≤ hp) (g_sz : n0 ≤ sz) (ne_a_hp : a ≠ hp) (ne_a_sz : a ≠ sz) (ne_hp_sz : hp ≠ sz) (A_g : AJ Z h0 g [x0_, x1_, x2_, x3_, x4_, x5_, x6_, x7_]) (E_g : Exa Z h0 g "[J") (g_g : n0 ≤ g) (ne_a_g : a ≠ g) (ne_hp_g : hp ≠ g) (ne_sz_g : sz ≠ g) :
    Met l (⟨"com/example/precedence/precedence/LongHeaps", "poll", "(I)J"⟩ : MethodName) prog_58_method_5_code 10 (some .long) [] ({ frames := 0, cells := 0, slots := 0, locals := 0 } : Room) Z n0 #[(.ref a), (.int (1 : Int32))] h0 (fun v h => v = some (.long x0_) ∧ Keep h0 h [sz, g] ∧ AI Z h sz .int [(0 : Int32), (4 : Int32)] ∧ AJ Z h g [(own_q4 own_lt x0_ x1_ x2_ x3_ x4_).1, (own_q4 own_lt x0_ x1_ x2_ x3_ x4_).2.1, (own_q4 own_lt x0_ x1_ x2_ x3_ x4_).2.2.1, (own_q4 own_lt x0_ x1_ x2_ x3_ x4_).2.2.2, x4_, x5_, x6_, x7_]) := by
  refine own_met pn6 (fun m => ef6 m a (1 : Int32)) ?_
  intro p e s m below meth c C
  have K_ : Keep h0 h0 [sz, g] := Keep.refl _ _
  refine own_aloadN (pc' := 1) C d6_0 rfl rfl rfl ?_
  refine own_getfield (pc' := 4) C d6_1 (hw _ (List.mem_of_getElem? (i := 11) rfl)) F_a_heaps rfl ?_
  refine own_iloadN (pc' := 5) C d6_4 rfl rfl ?_
  refine own_aaload (pc' := 6) (v := (.ref g)) (i := 1) C d6_5 A_hp (by decide) rfl rfl rfl ?_
  refine own_astoreN (pc' := 7) (Ls' := #[.val (.ref a), .val (.int (1 : Int32)), .val (.ref g), .unset, .unset, .unset, .unset, .unset, .unset, .unset]) C d6_6 rfl rfl rfl ?_
  refine own_aloadN (pc' := 8) C d6_7 rfl rfl rfl ?_
  refine own_iconst (pc' := 9) (v := (0 : Int32)) C d6_8 own_ki_0 rfl ?_
  refine own_laload (pc' := 10) (v := x0_) (i := 0) C d6_9 A_g (by decide) rfl rfl rfl ?_
  refine own_lstoreN (pc' := 11) (y := x0_) (Ls' := #[.val (.ref a), .val (.int (1 : Int32)), .val (.ref g), .val (.long x0_), .second, .unset, .unset, .unset, .unset, .unset]) C d6_10 rfl rfl rfl ?_
  refine own_aloadN (pc' := 12) C d6_11 rfl rfl rfl ?_
  refine own_getfield (pc' := 15) C d6_12 (hw _ (List.mem_of_getElem? (i := 14) rfl)) F_a_sizes rfl ?_
  refine own_iloadN (pc' := 16) C d6_15 rfl rfl ?_
  refine own_dup2 (pc' := 17) C d6_16 rfl rfl rfl ?_
  refine own_iaload (pc' := 18) (v := (5 : Int32)) (i := 1) C d6_17 A_sz (by decide) rfl rfl rfl ?_
  refine own_iconst (pc' := 19) (v := (1 : Int32)) C d6_18 own_ki_1 rfl ?_
  refine own_isub (pc' := 20) (v := (4 : Int32)) C d6_19 (by decide) rfl ?_
  refine own_dupX2 (pc' := 21) C d6_20 rfl rfl rfl rfl ?_
  refine own_iastore (pc' := 22) (i := 1) (ys := [(0 : Int32), (4 : Int32)]) C d6_21 A_sz (by decide) rfl (Nat.le_of_ble_eq_true rfl) rfl g_sz rfl ?_
  intro h1 W1 A1_
  replace E_a := E_a.wr W1
  replace F_a_heaps := F_a_heaps.other W1 (Or.inl ne_a_sz)
  replace F_a_sizes := F_a_sizes.other W1 (Or.inl ne_a_sz)
  replace A_hp := A_hp.other W1 ne_hp_sz
  replace A_g := A_g.other W1 (Ne.symm ne_sz_g)
  replace E_g := E_g.wr W1
  replace A_sz := A1_
  replace Z_ : n0 ≤ _ := Nat.le_trans Z_ (Nat.le_of_eq W1.size.symm)
  replace K_ := K_.wr W1 (Or.inl (List.mem_of_getElem? (i := 0) rfl))
  refine own_istore (pc' := 24) (y := (4 : Int32)) (Ls' := #[.val (.ref a), .val (.int (1 : Int32)), .val (.ref g), .val (.long x0_), .second, .val (.int (4 : Int32)), .unset, .unset, .unset, .unset]) C d6_22 rfl rfl rfl ?_
  refine own_aloadN (pc' := 25) C d6_24 rfl rfl rfl ?_
  refine own_iload (pc' := 27) C d6_25 rfl rfl ?_
  refine own_laload (pc' := 28) (v := x4_) (i := 4) C d6_27 A_g (by decide) rfl rfl rfl ?_
  refine own_lstore (pc' := 30) (y := x4_) (Ls' := #[.val (.ref a), .val (.int (1 : Int32)), .val (.ref g), .val (.long x0_), .second, .val (.int (4 : Int32)), .val (.long x4_), .second, .unset, .unset]) C d6_28 rfl rfl rfl ?_
  refine own_iconst (pc' := 31) (v := (0 : Int32)) C d6_30 own_ki_0 rfl ?_
  refine own_istore (pc' := 33) (y := (0 : Int32)) (Ls' := #[.val (.ref a), .val (.int (1 : Int32)), .val (.ref g), .val (.long x0_), .second, .val (.int (4 : Int32)), .val (.long x4_), .second, .val (.int (0 : Int32)), .unset]) C d6_31 rfl rfl rfl ?_
  refine own_iconst (pc' := 34) (v := (1 : Int32)) C d6_33 own_ki_1 rfl ?_
  refine own_istore (pc' := 36) (y := (1 : Int32)) (Ls' := #[.val (.ref a), .val (.int (1 : Int32)), .val (.ref g), .val (.long x0_), .second, .val (.int (4 : Int32)), .val (.long x4_), .second, .val (.int (0 : Int32)), .val (.int (1 : Int32))]) C d6_34 rfl rfl rfl ?_
  refine own_iload (pc' := 38) C d6_36 rfl rfl ?_
  refine own_iload (pc' := 40) C d6_38 rfl rfl ?_
  refine own_icmp_ge (pt := 105) (pf := 43) C d6_40 (by decide) (by decide) rfl (fun q => absurd (by decide) q) (fun _ => ?_)
  refine own_iload (pc' := 45) C d6_43 rfl rfl ?_
  refine own_iconst (pc' := 46) (v := (1 : Int32)) C d6_45 own_ki_1 rfl ?_
  refine own_iadd (pc' := 47) (v := (2 : Int32)) C d6_46 (by decide) rfl ?_
  refine own_iload (pc' := 49) C d6_47 rfl rfl ?_
  refine own_icmp_ge (pt := 69) (pf := 52) C d6_49 (by decide) (by decide) rfl (fun q => absurd (by decide) q) (fun _ => ?_)
  refine own_aloadN (pc' := 53) C d6_52 rfl rfl rfl ?_
  refine own_iload (pc' := 55) C d6_53 rfl rfl ?_
  refine own_iconst (pc' := 56) (v := (1 : Int32)) C d6_55 own_ki_1 rfl ?_
  refine own_iadd (pc' := 57) (v := (2 : Int32)) C d6_56 (by decide) rfl ?_
  refine own_laload (pc' := 58) (v := x2_) (i := 2) C d6_57 A_g (by decide) rfl rfl rfl ?_
  refine own_aloadN (pc' := 59) C d6_58 rfl rfl rfl ?_
  refine own_iload (pc' := 61) C d6_59 rfl rfl ?_
  refine own_laload (pc' := 62) (v := x1_) (i := 1) C d6_61 A_g (by decide) rfl rfl rfl ?_
  refine own_lcmp_ge (pt := 69) (pf := 66) C d6_62 rfl d6_63 (by decide) (by decide) rfl ?_ ?_
  · intro hc62
    refine own_aloadN (pc' := 70) C d6_69 rfl rfl rfl ?_
    refine own_iload (pc' := 72) C d6_70 rfl rfl ?_
    refine own_laload (pc' := 73) (v := x1_) (i := 1) C d6_72 A_g (by decide) rfl rfl rfl ?_
    refine own_lload (pc' := 75) C d6_73 rfl rfl ?_
    refine own_lcmp_lt (pt := 82) (pf := 79) C d6_75 rfl d6_76 (by decide) (by decide) rfl ?_ ?_
    · intro hc75
      refine own_aloadN (pc' := 83) C d6_82 rfl rfl rfl ?_
      refine own_iload (pc' := 85) C d6_83 rfl rfl ?_
      refine own_aloadN (pc' := 86) C d6_85 rfl rfl rfl ?_
      refine own_iload (pc' := 88) C d6_86 rfl rfl ?_
      refine own_laload (pc' := 89) (v := x1_) (i := 1) C d6_88 A_g (by decide) rfl rfl rfl ?_
      refine own_lastore (pc' := 90) (i := 0) (ys := [x1_, x1_, x2_, x3_, x4_, x5_, x6_, x7_]) C d6_89 A_g (by decide) rfl (Nat.le_of_ble_eq_true rfl) rfl g_g rfl ?_
      intro h2 W2 A2_
      replace E_a := E_a.wr W2
      replace F_a_heaps := F_a_heaps.other W2 (Or.inl ne_a_g)
      replace F_a_sizes := F_a_sizes.other W2 (Or.inl ne_a_g)
      replace A_hp := A_hp.other W2 ne_hp_g
      replace A_sz := A_sz.other W2 ne_sz_g
      replace E_g := E_g.wr W2
      replace A_g := A2_
      replace Z_ : n0 ≤ _ := Nat.le_trans Z_ (Nat.le_of_eq W2.size.symm)
      replace K_ := K_.wr W2 (Or.inl (List.mem_of_getElem? (i := 1) rfl))
      refine own_iload (pc' := 92) C d6_90 rfl rfl ?_
      refine own_istore (pc' := 94) (y := (1 : Int32)) (Ls' := #[.val (.ref a), .val (.int (1 : Int32)), .val (.ref g), .val (.long x0_), .second, .val (.int (4 : Int32)), .val (.long x4_), .second, .val (.int (1 : Int32)), .val (.int (1 : Int32))]) C d6_92 rfl rfl rfl ?_
      refine own_iconst (pc' := 95) (v := (2 : Int32)) C d6_94 own_ki_2 rfl ?_
      refine own_iload (pc' := 97) C d6_95 rfl rfl ?_
      refine own_imul (pc' := 98) (v := (2 : Int32)) C d6_97 (by decide) rfl ?_
      refine own_iconst (pc' := 99) (v := (1 : Int32)) C d6_98 own_ki_1 rfl ?_
      refine own_iadd (pc' := 100) (v := (3 : Int32)) C d6_99 (by decide) rfl ?_
      refine own_istore (pc' := 102) (y := (3 : Int32)) (Ls' := #[.val (.ref a), .val (.int (1 : Int32)), .val (.ref g), .val (.long x0_), .second, .val (.int (4 : Int32)), .val (.long x4_), .second, .val (.int (1 : Int32)), .val (.int (3 : Int32))]) C d6_100 rfl rfl rfl ?_
      refine own_goto (pc' := 36) C d6_102 (by decide) (by decide) ?_
      refine own_iload (pc' := 38) C d6_36 rfl rfl ?_
      refine own_iload (pc' := 40) C d6_38 rfl rfl ?_
      refine own_icmp_ge (pt := 105) (pf := 43) C d6_40 (by decide) (by decide) rfl (fun q => absurd (by decide) q) (fun _ => ?_)
      refine own_iload (pc' := 45) C d6_43 rfl rfl ?_
      refine own_iconst (pc' := 46) (v := (1 : Int32)) C d6_45 own_ki_1 rfl ?_
      refine own_iadd (pc' := 47) (v := (4 : Int32)) C d6_46 (by decide) rfl ?_
      refine own_iload (pc' := 49) C d6_47 rfl rfl ?_
      refine own_icmp_ge (pt := 69) (pf := 52) C d6_49 (by decide) (by decide) rfl (fun _ => ?_) (fun q => absurd q (by decide))
      refine own_aloadN (pc' := 70) C d6_69 rfl rfl rfl ?_
      refine own_iload (pc' := 72) C d6_70 rfl rfl ?_
      refine own_laload (pc' := 73) (v := x3_) (i := 3) C d6_72 A_g (by decide) rfl rfl rfl ?_
      refine own_lload (pc' := 75) C d6_73 rfl rfl ?_
      refine own_lcmp_lt (pt := 82) (pf := 79) C d6_75 rfl d6_76 (by decide) (by decide) rfl ?_ ?_
      · intro hc75_2
        refine own_aloadN (pc' := 83) C d6_82 rfl rfl rfl ?_
        refine own_iload (pc' := 85) C d6_83 rfl rfl ?_
        refine own_aloadN (pc' := 86) C d6_85 rfl rfl rfl ?_
        refine own_iload (pc' := 88) C d6_86 rfl rfl ?_
        refine own_laload (pc' := 89) (v := x3_) (i := 3) C d6_88 A_g (by decide) rfl rfl rfl ?_
        refine own_lastore (pc' := 90) (i := 1) (ys := [x1_, x3_, x2_, x3_, x4_, x5_, x6_, x7_]) C d6_89 A_g (by decide) rfl (Nat.le_of_ble_eq_true rfl) rfl g_g rfl ?_
        intro h3 W3 A3_
        replace E_a := E_a.wr W3
        replace F_a_heaps := F_a_heaps.other W3 (Or.inl ne_a_g)
        replace F_a_sizes := F_a_sizes.other W3 (Or.inl ne_a_g)
        replace A_hp := A_hp.other W3 ne_hp_g
        replace A_sz := A_sz.other W3 ne_sz_g
        replace E_g := E_g.wr W3
        replace A_g := A3_
        replace Z_ : n0 ≤ _ := Nat.le_trans Z_ (Nat.le_of_eq W3.size.symm)
        replace K_ := K_.wr W3 (Or.inl (List.mem_of_getElem? (i := 1) rfl))
        refine own_iload (pc' := 92) C d6_90 rfl rfl ?_
        refine own_istore (pc' := 94) (y := (3 : Int32)) (Ls' := #[.val (.ref a), .val (.int (1 : Int32)), .val (.ref g), .val (.long x0_), .second, .val (.int (4 : Int32)), .val (.long x4_), .second, .val (.int (3 : Int32)), .val (.int (3 : Int32))]) C d6_92 rfl rfl rfl ?_
        refine own_iconst (pc' := 95) (v := (2 : Int32)) C d6_94 own_ki_2 rfl ?_
        refine own_iload (pc' := 97) C d6_95 rfl rfl ?_
        refine own_imul (pc' := 98) (v := (6 : Int32)) C d6_97 (by decide) rfl ?_
        refine own_iconst (pc' := 99) (v := (1 : Int32)) C d6_98 own_ki_1 rfl ?_
        refine own_iadd (pc' := 100) (v := (7 : Int32)) C d6_99 (by decide) rfl ?_
        refine own_istore (pc' := 102) (y := (7 : Int32)) (Ls' := #[.val (.ref a), .val (.int (1 : Int32)), .val (.ref g), .val (.long x0_), .second, .val (.int (4 : Int32)), .val (.long x4_), .second, .val (.int (3 : Int32)), .val (.int (7 : Int32))]) C d6_100 rfl rfl rfl ?_
        refine own_goto (pc' := 36) C d6_102 (by decide) (by decide) ?_
        refine own_iload (pc' := 38) C d6_36 rfl rfl ?_
        refine own_iload (pc' := 40) C d6_38 rfl rfl ?_
        refine own_icmp_ge (pt := 105) (pf := 43) C d6_40 (by decide) (by decide) rfl (fun _ => ?_) (fun q => absurd q (by decide))
        refine own_aloadN (pc' := 106) C d6_105 rfl rfl rfl ?_
        refine own_iload (pc' := 108) C d6_106 rfl rfl ?_
        refine own_lload (pc' := 110) C d6_108 rfl rfl ?_
        refine own_lastore (pc' := 111) (i := 3) (ys := [x1_, x3_, x2_, x4_, x4_, x5_, x6_, x7_]) C d6_110 A_g (by decide) rfl (Nat.le_of_ble_eq_true rfl) rfl g_g rfl ?_
        intro h4 W4 A4_
        replace E_a := E_a.wr W4
        replace F_a_heaps := F_a_heaps.other W4 (Or.inl ne_a_g)
        replace F_a_sizes := F_a_sizes.other W4 (Or.inl ne_a_g)
        replace A_hp := A_hp.other W4 ne_hp_g
        replace A_sz := A_sz.other W4 ne_sz_g
        replace E_g := E_g.wr W4
        replace A_g := A4_
        replace Z_ : n0 ≤ _ := Nat.le_trans Z_ (Nat.le_of_eq W4.size.symm)
        replace K_ := K_.wr W4 (Or.inl (List.mem_of_getElem? (i := 1) rfl))
        refine own_lloadN (pc' := 112) C d6_111 rfl rfl ?_
        refine own_lret C d6_112 (by decide) (by decide) ?_
        have l_hc62 : own_lt x2_ x1_ = false := by simp [own_lt, hc62]
        have l_hc75 : own_lt x1_ x4_ = true := by simp [own_lt, hc75]
        have l_hc75_2 : own_lt x3_ x4_ = true := by simp [own_lt, hc75_2]
        refine ⟨rfl, K_, A_sz, ?_⟩
        simp only [own_q4, l_hc62, l_hc75, l_hc75_2, if_true, if_false, Bool.false_eq_true]; exact A_g
      · intro hc75_2
        refine own_goto (pc' := 105) C d6_79 (by decide) (by decide) ?_
        refine own_aloadN (pc' := 106) C d6_105 rfl rfl rfl ?_
        refine own_iload (pc' := 108) C d6_106 rfl rfl ?_
        refine own_lload (pc' := 110) C d6_108 rfl rfl ?_
        refine own_lastore (pc' := 111) (i := 1) (ys := [x1_, x4_, x2_, x3_, x4_, x5_, x6_, x7_]) C d6_110 A_g (by decide) rfl (Nat.le_of_ble_eq_true rfl) rfl g_g rfl ?_
        intro h3 W3 A3_
        replace E_a := E_a.wr W3
        replace F_a_heaps := F_a_heaps.other W3 (Or.inl ne_a_g)
        replace F_a_sizes := F_a_sizes.other W3 (Or.inl ne_a_g)
        replace A_hp := A_hp.other W3 ne_hp_g
        replace A_sz := A_sz.other W3 ne_sz_g
        replace E_g := E_g.wr W3
        replace A_g := A3_
        replace Z_ : n0 ≤ _ := Nat.le_trans Z_ (Nat.le_of_eq W3.size.symm)
        replace K_ := K_.wr W3 (Or.inl (List.mem_of_getElem? (i := 1) rfl))
        refine own_lloadN (pc' := 112) C d6_111 rfl rfl ?_
        refine own_lret C d6_112 (by decide) (by decide) ?_
        have l_hc62 : own_lt x2_ x1_ = false := by simp [own_lt, hc62]
        have l_hc75 : own_lt x1_ x4_ = true := by simp [own_lt, hc75]
        have l_hc75_2 : own_lt x3_ x4_ = false := by simp [own_lt, hc75_2]
        refine ⟨rfl, K_, A_sz, ?_⟩
        simp only [own_q4, l_hc62, l_hc75, l_hc75_2, if_true, if_false, Bool.false_eq_true]; exact A_g
    · intro hc75
      refine own_goto (pc' := 105) C d6_79 (by decide) (by decide) ?_
      refine own_aloadN (pc' := 106) C d6_105 rfl rfl rfl ?_
      refine own_iload (pc' := 108) C d6_106 rfl rfl ?_
      refine own_lload (pc' := 110) C d6_108 rfl rfl ?_
      refine own_lastore (pc' := 111) (i := 0) (ys := [x4_, x1_, x2_, x3_, x4_, x5_, x6_, x7_]) C d6_110 A_g (by decide) rfl (Nat.le_of_ble_eq_true rfl) rfl g_g rfl ?_
      intro h2 W2 A2_
      replace E_a := E_a.wr W2
      replace F_a_heaps := F_a_heaps.other W2 (Or.inl ne_a_g)
      replace F_a_sizes := F_a_sizes.other W2 (Or.inl ne_a_g)
      replace A_hp := A_hp.other W2 ne_hp_g
      replace A_sz := A_sz.other W2 ne_sz_g
      replace E_g := E_g.wr W2
      replace A_g := A2_
      replace Z_ : n0 ≤ _ := Nat.le_trans Z_ (Nat.le_of_eq W2.size.symm)
      replace K_ := K_.wr W2 (Or.inl (List.mem_of_getElem? (i := 1) rfl))
      refine own_lloadN (pc' := 112) C d6_111 rfl rfl ?_
      refine own_lret C d6_112 (by decide) (by decide) ?_
      have l_hc62 : own_lt x2_ x1_ = false := by simp [own_lt, hc62]
      have l_hc75 : own_lt x1_ x4_ = false := by simp [own_lt, hc75]
      refine ⟨rfl, K_, A_sz, ?_⟩
      simp only [own_q4, l_hc62, l_hc75, if_true, if_false, Bool.false_eq_true]; exact A_g
  · intro hc62
    refine own_iinc (pc' := 69) (v := (2 : Int32)) (Ls' := #[.val (.ref a), .val (.int (1 : Int32)), .val (.ref g), .val (.long x0_), .second, .val (.int (4 : Int32)), .val (.long x4_), .second, .val (.int (0 : Int32)), .val (.int (2 : Int32))]) C d6_66 rfl (by decide) rfl rfl ?_
    refine own_aloadN (pc' := 70) C d6_69 rfl rfl rfl ?_
    refine own_iload (pc' := 72) C d6_70 rfl rfl ?_
    refine own_laload (pc' := 73) (v := x2_) (i := 2) C d6_72 A_g (by decide) rfl rfl rfl ?_
    refine own_lload (pc' := 75) C d6_73 rfl rfl ?_
    refine own_lcmp_lt (pt := 82) (pf := 79) C d6_75 rfl d6_76 (by decide) (by decide) rfl ?_ ?_
    · intro hc75
      refine own_aloadN (pc' := 83) C d6_82 rfl rfl rfl ?_
      refine own_iload (pc' := 85) C d6_83 rfl rfl ?_
      refine own_aloadN (pc' := 86) C d6_85 rfl rfl rfl ?_
      refine own_iload (pc' := 88) C d6_86 rfl rfl ?_
      refine own_laload (pc' := 89) (v := x2_) (i := 2) C d6_88 A_g (by decide) rfl rfl rfl ?_
      refine own_lastore (pc' := 90) (i := 0) (ys := [x2_, x1_, x2_, x3_, x4_, x5_, x6_, x7_]) C d6_89 A_g (by decide) rfl (Nat.le_of_ble_eq_true rfl) rfl g_g rfl ?_
      intro h2 W2 A2_
      replace E_a := E_a.wr W2
      replace F_a_heaps := F_a_heaps.other W2 (Or.inl ne_a_g)
      replace F_a_sizes := F_a_sizes.other W2 (Or.inl ne_a_g)
      replace A_hp := A_hp.other W2 ne_hp_g
      replace A_sz := A_sz.other W2 ne_sz_g
      replace E_g := E_g.wr W2
      replace A_g := A2_
      replace Z_ : n0 ≤ _ := Nat.le_trans Z_ (Nat.le_of_eq W2.size.symm)
      replace K_ := K_.wr W2 (Or.inl (List.mem_of_getElem? (i := 1) rfl))
      refine own_iload (pc' := 92) C d6_90 rfl rfl ?_
      refine own_istore (pc' := 94) (y := (2 : Int32)) (Ls' := #[.val (.ref a), .val (.int (1 : Int32)), .val (.ref g), .val (.long x0_), .second, .val (.int (4 : Int32)), .val (.long x4_), .second, .val (.int (2 : Int32)), .val (.int (2 : Int32))]) C d6_92 rfl rfl rfl ?_
      refine own_iconst (pc' := 95) (v := (2 : Int32)) C d6_94 own_ki_2 rfl ?_
      refine own_iload (pc' := 97) C d6_95 rfl rfl ?_
      refine own_imul (pc' := 98) (v := (4 : Int32)) C d6_97 (by decide) rfl ?_
      refine own_iconst (pc' := 99) (v := (1 : Int32)) C d6_98 own_ki_1 rfl ?_
      refine own_iadd (pc' := 100) (v := (5 : Int32)) C d6_99 (by decide) rfl ?_
      refine own_istore (pc' := 102) (y := (5 : Int32)) (Ls' := #[.val (.ref a), .val (.int (1 : Int32)), .val (.ref g), .val (.long x0_), .second, .val (.int (4 : Int32)), .val (.long x4_), .second, .val (.int (2 : Int32)), .val (.int (5 : Int32))]) C d6_100 rfl rfl rfl ?_
      refine own_goto (pc' := 36) C d6_102 (by decide) (by decide) ?_
      refine own_iload (pc' := 38) C d6_36 rfl rfl ?_
      refine own_iload (pc' := 40) C d6_38 rfl rfl ?_
      refine own_icmp_ge (pt := 105) (pf := 43) C d6_40 (by decide) (by decide) rfl (fun _ => ?_) (fun q => absurd q (by decide))
      refine own_aloadN (pc' := 106) C d6_105 rfl rfl rfl ?_
      refine own_iload (pc' := 108) C d6_106 rfl rfl ?_
      refine own_lload (pc' := 110) C d6_108 rfl rfl ?_
      refine own_lastore (pc' := 111) (i := 2) (ys := [x2_, x1_, x4_, x3_, x4_, x5_, x6_, x7_]) C d6_110 A_g (by decide) rfl (Nat.le_of_ble_eq_true rfl) rfl g_g rfl ?_
      intro h3 W3 A3_
      replace E_a := E_a.wr W3
      replace F_a_heaps := F_a_heaps.other W3 (Or.inl ne_a_g)
      replace F_a_sizes := F_a_sizes.other W3 (Or.inl ne_a_g)
      replace A_hp := A_hp.other W3 ne_hp_g
      replace A_sz := A_sz.other W3 ne_sz_g
      replace E_g := E_g.wr W3
      replace A_g := A3_
      replace Z_ : n0 ≤ _ := Nat.le_trans Z_ (Nat.le_of_eq W3.size.symm)
      replace K_ := K_.wr W3 (Or.inl (List.mem_of_getElem? (i := 1) rfl))
      refine own_lloadN (pc' := 112) C d6_111 rfl rfl ?_
      refine own_lret C d6_112 (by decide) (by decide) ?_
      have l_hc62 : own_lt x2_ x1_ = true := by simp [own_lt, hc62]
      have l_hc75 : own_lt x2_ x4_ = true := by simp [own_lt, hc75]
      refine ⟨rfl, K_, A_sz, ?_⟩
      simp only [own_q4, l_hc62, l_hc75, if_true, if_false, Bool.false_eq_true]; exact A_g
    · intro hc75
      refine own_goto (pc' := 105) C d6_79 (by decide) (by decide) ?_
      refine own_aloadN (pc' := 106) C d6_105 rfl rfl rfl ?_
      refine own_iload (pc' := 108) C d6_106 rfl rfl ?_
      refine own_lload (pc' := 110) C d6_108 rfl rfl ?_
      refine own_lastore (pc' := 111) (i := 0) (ys := [x4_, x1_, x2_, x3_, x4_, x5_, x6_, x7_]) C d6_110 A_g (by decide) rfl (Nat.le_of_ble_eq_true rfl) rfl g_g rfl ?_
      intro h2 W2 A2_
      replace E_a := E_a.wr W2
      replace F_a_heaps := F_a_heaps.other W2 (Or.inl ne_a_g)
      replace F_a_sizes := F_a_sizes.other W2 (Or.inl ne_a_g)
      replace A_hp := A_hp.other W2 ne_hp_g
      replace A_sz := A_sz.other W2 ne_sz_g
      replace E_g := E_g.wr W2
      replace A_g := A2_
      replace Z_ : n0 ≤ _ := Nat.le_trans Z_ (Nat.le_of_eq W2.size.symm)
      replace K_ := K_.wr W2 (Or.inl (List.mem_of_getElem? (i := 1) rfl))
      refine own_lloadN (pc' := 112) C d6_111 rfl rfl ?_
      refine own_lret C d6_112 (by decide) (by decide) ?_
      have l_hc62 : own_lt x2_ x1_ = true := by simp [own_lt, hc62]
      have l_hc75 : own_lt x2_ x4_ = false := by simp [own_lt, hc75]
      refine ⟨rfl, K_, A_sz, ?_⟩
      simp only [own_q4, l_hc62, l_hc75, if_true, if_false, Bool.false_eq_true]; exact A_g

def own_ct (c : Int32) (x v : Int64) : Int32 := if x = v then c + 1 else c
def own_cnt (v x0 x1 x2 x3 x4 : Int64) : Int32 := own_ct (own_ct (own_ct (own_ct (if x0 = v then 1 else 0) x1 v) x2 v) x3 v) x4 v

theorem d7_0 : decode method_3_code 0 = .ok (.iconst 0, 1) := by decide +kernel
theorem d7_1 : decode method_3_code 1 = .ok (.istore 12, 2) := by decide +kernel
theorem d7_3 : decode method_3_code 3 = .ok (.lload_n 2, 1) := by decide +kernel
theorem d7_4 : decode method_3_code 4 = .ok (.lload_n 0, 1) := by decide +kernel
theorem d7_5 : decode method_3_code 5 = .ok (.lcmp, 1) := by decide +kernel
theorem d7_6 : decode method_3_code 6 = .ok (.ifCond .ne 6, 3) := by decide +kernel
theorem d7_9 : decode method_3_code 9 = .ok (.iinc 12 1, 3) := by decide +kernel
theorem d7_12 : decode method_3_code 12 = .ok (.lload 4, 2) := by decide +kernel
theorem d7_14 : decode method_3_code 14 = .ok (.lload_n 0, 1) := by decide +kernel
theorem d7_15 : decode method_3_code 15 = .ok (.lcmp, 1) := by decide +kernel
theorem d7_16 : decode method_3_code 16 = .ok (.ifCond .ne 6, 3) := by decide +kernel
theorem d7_19 : decode method_3_code 19 = .ok (.iinc 12 1, 3) := by decide +kernel
theorem d7_22 : decode method_3_code 22 = .ok (.lload 6, 2) := by decide +kernel
theorem d7_24 : decode method_3_code 24 = .ok (.lload_n 0, 1) := by decide +kernel
theorem d7_25 : decode method_3_code 25 = .ok (.lcmp, 1) := by decide +kernel
theorem d7_26 : decode method_3_code 26 = .ok (.ifCond .ne 6, 3) := by decide +kernel
theorem d7_29 : decode method_3_code 29 = .ok (.iinc 12 1, 3) := by decide +kernel
theorem d7_32 : decode method_3_code 32 = .ok (.lload 8, 2) := by decide +kernel
theorem d7_34 : decode method_3_code 34 = .ok (.lload_n 0, 1) := by decide +kernel
theorem d7_35 : decode method_3_code 35 = .ok (.lcmp, 1) := by decide +kernel
theorem d7_36 : decode method_3_code 36 = .ok (.ifCond .ne 6, 3) := by decide +kernel
theorem d7_39 : decode method_3_code 39 = .ok (.iinc 12 1, 3) := by decide +kernel
theorem d7_42 : decode method_3_code 42 = .ok (.lload 10, 2) := by decide +kernel
theorem d7_44 : decode method_3_code 44 = .ok (.lload_n 0, 1) := by decide +kernel
theorem d7_45 : decode method_3_code 45 = .ok (.lcmp, 1) := by decide +kernel
theorem d7_46 : decode method_3_code 46 = .ok (.ifCond .ne 6, 3) := by decide +kernel
theorem d7_49 : decode method_3_code 49 = .ok (.iinc 12 1, 3) := by decide +kernel
theorem d7_52 : decode method_3_code 52 = .ok (.iload 12, 2) := by decide +kernel
theorem d7_54 : decode method_3_code 54 = .ok (.ireturn, 1) := by decide +kernel
theorem pn7 : plainName "com/example/precedence/precedence/LongHeapsPollPinLaw" = true := by first | (simp [plainName, overriddenIn]; done) | decide +kernel
theorem ef7 (m : MethodId) (x0 : Int64) (x1 : Int64) (x2 : Int64) (x3 : Int64) (x4 : Int64) (x5 : Int64) : entryFrame m #[(.long x0), (.long x1), (.long x2), (.long x3), (.long x4), (.long x5)] 13 = mkF m 0 #[.val (.long x0), .second, .val (.long x1), .second, .val (.long x2), .second, .val (.long x3), .second, .val (.long x4), .second, .val (.long x5), .second, .unset] [] := by first | (simp [entryFrame, mkF, argsToLocals, Value.category]; done) | rfl
set_option maxRecDepth 65536 in
set_option maxHeartbeats 40000000 in
theorem own_count (l : Launch) (Z : State) (a0 : Array Value) (hw : ∀ d ∈ tables_1, d.before a0 Z = true) (u : Int64) (x0_ : Int64) (x1_ : Int64) (x2_ : Int64) (x3_ : Int64) (x4_ : Int64)  (h0 : Heap) (n0 : Nat) (Z_ : n0 ≤ h0.size)  :
    Met l (⟨"com/example/precedence/precedence/LongHeapsPollPinLaw", "count5", "(JJJJJJ)I"⟩ : MethodName) method_3_code 13 (some .int) [] ({ frames := 0, cells := 0, slots := 0, locals := 0 } : Room) Z n0 #[(.long u), (.long x0_), (.long x1_), (.long x2_), (.long x3_), (.long x4_)] h0 (fun v h => v = some (.int (own_cnt u x0_ x1_ x2_ x3_ x4_)) ∧ h0 = h) := by
  refine own_met pn7 (fun m => ef7 m u x0_ x1_ x2_ x3_ x4_) ?_
  intro p e s m below meth c C
  refine own_iconst (pc' := 1) (v := (0 : Int32)) C d7_0 own_ki_0 rfl ?_
  refine own_istore (pc' := 3) (y := (0 : Int32)) (Ls' := #[.val (.long u), .second, .val (.long x0_), .second, .val (.long x1_), .second, .val (.long x2_), .second, .val (.long x3_), .second, .val (.long x4_), .second, .val (.int (0 : Int32))]) C d7_1 rfl rfl rfl ?_
  refine own_lloadN (pc' := 4) C d7_3 rfl rfl ?_
  refine own_lloadN (pc' := 5) C d7_4 rfl rfl ?_
  obtain ⟨v12_12, hv12_12⟩ : ∃ z : Int32, z = (if x0_ = u then (1 : Int32) else (0 : Int32)) := ⟨_, rfl⟩
  have hzv12_12 : v12_12 = 0 ∨ v12_12 = 1 := by rw [hv12_12]; repeat (first | exact Or.inl rfl | exact Or.inr rfl | split)
  refine own_seq (g' := mkF m 12 #[.val (.long u), .second, .val (.long x0_), .second, .val (.long x1_), .second, .val (.long x2_), .second, .val (.long x3_), .second, .val (.long x4_), .second, .val (.int v12_12)] []) (fun J12 => ?_) ?_
  · refine own_lcmp_ne (pt := 12) (pf := 9) C d7_5 rfl d7_6 (by decide) (by decide) rfl ?_ ?_
    · intro hc5
      exact own_cast (by simp only [hv12_12, if_neg hc5]) (J12)
    · intro hc5
      refine own_iinc (pc' := 12) (v := (1 : Int32)) (Ls' := #[.val (.long u), .second, .val (.long x0_), .second, .val (.long x1_), .second, .val (.long x2_), .second, .val (.long x3_), .second, .val (.long x4_), .second, .val (.int (1 : Int32))]) C d7_9 rfl (by decide) rfl rfl ?_
      exact own_cast (by simp only [hv12_12, if_pos hc5]) (J12)
  refine own_lload (pc' := 14) C d7_12 rfl rfl ?_
  refine own_lloadN (pc' := 15) C d7_14 rfl rfl ?_
  obtain ⟨v12_22, hv12_22⟩ : ∃ z : Int32, z = (if x1_ = u then (v12_12 + (1 : Int32)) else v12_12) := ⟨_, rfl⟩
  refine own_seq (g' := mkF m 22 #[.val (.long u), .second, .val (.long x0_), .second, .val (.long x1_), .second, .val (.long x2_), .second, .val (.long x3_), .second, .val (.long x4_), .second, .val (.int v12_22)] []) (fun J22 => ?_) ?_
  · refine own_lcmp_ne (pt := 22) (pf := 19) C d7_15 rfl d7_16 (by decide) (by decide) rfl ?_ ?_
    · intro hc15
      exact own_cast (by simp only [hv12_22, if_neg hc15]) (J22)
    · intro hc15
      refine own_iinc (pc' := 22) (v := (v12_12 + (1 : Int32))) (Ls' := #[.val (.long u), .second, .val (.long x0_), .second, .val (.long x1_), .second, .val (.long x2_), .second, .val (.long x3_), .second, .val (.long x4_), .second, .val (.int (v12_12 + (1 : Int32)))]) C d7_19 rfl rfl rfl rfl ?_
      exact own_cast (by simp only [hv12_22, if_pos hc15]) (J22)
  refine own_lload (pc' := 24) C d7_22 rfl rfl ?_
  refine own_lloadN (pc' := 25) C d7_24 rfl rfl ?_
  obtain ⟨v12_32, hv12_32⟩ : ∃ z : Int32, z = (if x2_ = u then (v12_22 + (1 : Int32)) else v12_22) := ⟨_, rfl⟩
  refine own_seq (g' := mkF m 32 #[.val (.long u), .second, .val (.long x0_), .second, .val (.long x1_), .second, .val (.long x2_), .second, .val (.long x3_), .second, .val (.long x4_), .second, .val (.int v12_32)] []) (fun J32 => ?_) ?_
  · refine own_lcmp_ne (pt := 32) (pf := 29) C d7_25 rfl d7_26 (by decide) (by decide) rfl ?_ ?_
    · intro hc25
      exact own_cast (by simp only [hv12_32, if_neg hc25]) (J32)
    · intro hc25
      refine own_iinc (pc' := 32) (v := (v12_22 + (1 : Int32))) (Ls' := #[.val (.long u), .second, .val (.long x0_), .second, .val (.long x1_), .second, .val (.long x2_), .second, .val (.long x3_), .second, .val (.long x4_), .second, .val (.int (v12_22 + (1 : Int32)))]) C d7_29 rfl rfl rfl rfl ?_
      exact own_cast (by simp only [hv12_32, if_pos hc25]) (J32)
  refine own_lload (pc' := 34) C d7_32 rfl rfl ?_
  refine own_lloadN (pc' := 35) C d7_34 rfl rfl ?_
  obtain ⟨v12_42, hv12_42⟩ : ∃ z : Int32, z = (if x3_ = u then (v12_32 + (1 : Int32)) else v12_32) := ⟨_, rfl⟩
  refine own_seq (g' := mkF m 42 #[.val (.long u), .second, .val (.long x0_), .second, .val (.long x1_), .second, .val (.long x2_), .second, .val (.long x3_), .second, .val (.long x4_), .second, .val (.int v12_42)] []) (fun J42 => ?_) ?_
  · refine own_lcmp_ne (pt := 42) (pf := 39) C d7_35 rfl d7_36 (by decide) (by decide) rfl ?_ ?_
    · intro hc35
      exact own_cast (by simp only [hv12_42, if_neg hc35]) (J42)
    · intro hc35
      refine own_iinc (pc' := 42) (v := (v12_32 + (1 : Int32))) (Ls' := #[.val (.long u), .second, .val (.long x0_), .second, .val (.long x1_), .second, .val (.long x2_), .second, .val (.long x3_), .second, .val (.long x4_), .second, .val (.int (v12_32 + (1 : Int32)))]) C d7_39 rfl rfl rfl rfl ?_
      exact own_cast (by simp only [hv12_42, if_pos hc35]) (J42)
  refine own_lload (pc' := 44) C d7_42 rfl rfl ?_
  refine own_lloadN (pc' := 45) C d7_44 rfl rfl ?_
  obtain ⟨v12_52, hv12_52⟩ : ∃ z : Int32, z = (if x4_ = u then (v12_42 + (1 : Int32)) else v12_42) := ⟨_, rfl⟩
  refine own_seq (g' := mkF m 52 #[.val (.long u), .second, .val (.long x0_), .second, .val (.long x1_), .second, .val (.long x2_), .second, .val (.long x3_), .second, .val (.long x4_), .second, .val (.int v12_52)] []) (fun J52 => ?_) ?_
  · refine own_lcmp_ne (pt := 52) (pf := 49) C d7_45 rfl d7_46 (by decide) (by decide) rfl ?_ ?_
    · intro hc45
      exact own_cast (by simp only [hv12_52, if_neg hc45]) (J52)
    · intro hc45
      refine own_iinc (pc' := 52) (v := (v12_42 + (1 : Int32))) (Ls' := #[.val (.long u), .second, .val (.long x0_), .second, .val (.long x1_), .second, .val (.long x2_), .second, .val (.long x3_), .second, .val (.long x4_), .second, .val (.int (v12_42 + (1 : Int32)))]) C d7_49 rfl rfl rfl rfl ?_
      exact own_cast (by simp only [hv12_52, if_pos hc45]) (J52)
  refine own_iload (pc' := 54) C d7_52 rfl rfl ?_
  refine own_iret C d7_54 (by decide) (by decide) ?_
  exact ⟨by simp only [own_cnt, own_ct, ← hv12_12, ← hv12_22, ← hv12_32, ← hv12_42, ← hv12_52], rfl⟩

section OwnNat
variable {α β : Type} (f : β → α) (lt : α → α → Bool)
theorem own_p1N (x v : β) : own_p1 lt (f x) (f v) = (f (own_p1 (fun i j => lt (f i) (f j)) x v).1, f (own_p1 (fun i j => lt (f i) (f j)) x v).2) := by simp only [own_p1]; split <;> rfl
theorem own_p2N (x y v : β) : own_p2 lt (f x) (f y) (f v) = (f (own_p2 (fun i j => lt (f i) (f j)) x y v).1, f (own_p2 (fun i j => lt (f i) (f j)) x y v).2.1, f (own_p2 (fun i j => lt (f i) (f j)) x y v).2.2) := by simp only [own_p2]; split <;> rfl
theorem own_p3N (x y z v : β) : own_p3 lt (f x) (f y) (f z) (f v) = (f (own_p3 (fun i j => lt (f i) (f j)) x y z v).1, f (own_p3 (fun i j => lt (f i) (f j)) x y z v).2.1, f (own_p3 (fun i j => lt (f i) (f j)) x y z v).2.2.1, f (own_p3 (fun i j => lt (f i) (f j)) x y z v).2.2.2) := by simp only [own_p3]; split <;> (try split) <;> rfl
theorem own_p4N (x y z u v : β) : own_p4 lt (f x) (f y) (f z) (f u) (f v) = (f (own_p4 (fun i j => lt (f i) (f j)) x y z u v).1, f (own_p4 (fun i j => lt (f i) (f j)) x y z u v).2.1, f (own_p4 (fun i j => lt (f i) (f j)) x y z u v).2.2.1, f (own_p4 (fun i j => lt (f i) (f j)) x y z u v).2.2.2.1, f (own_p4 (fun i j => lt (f i) (f j)) x y z u v).2.2.2.2) := by simp only [own_p4]; split <;> (try split) <;> rfl
theorem own_q4N (x y z u v : β) : own_q4 lt (f x) (f y) (f z) (f u) (f v) = (f (own_q4 (fun i j => lt (f i) (f j)) x y z u v).1, f (own_q4 (fun i j => lt (f i) (f j)) x y z u v).2.1, f (own_q4 (fun i j => lt (f i) (f j)) x y z u v).2.2.1, f (own_q4 (fun i j => lt (f i) (f j)) x y z u v).2.2.2) := by simp only [own_q4]; split <;> split <;> (try split) <;> rfl
theorem own_q3N (x y z u : β) : own_q3 lt (f x) (f y) (f z) (f u) = (f (own_q3 (fun i j => lt (f i) (f j)) x y z u).1, f (own_q3 (fun i j => lt (f i) (f j)) x y z u).2.1, f (own_q3 (fun i j => lt (f i) (f j)) x y z u).2.2) := by simp only [own_q3]; split <;> split <;> rfl
theorem own_q2N (x y z : β) : own_q2 lt (f x) (f y) (f z) = (f (own_q2 (fun i j => lt (f i) (f j)) x y z).1, f (own_q2 (fun i j => lt (f i) (f j)) x y z).2) := by simp only [own_q2]; split <;> rfl
theorem own_csN (x y : β) : own_cs lt (f x) (f y) = (f (own_cs (fun i j => lt (f i) (f j)) x y).1, f (own_cs (fun i j => lt (f i) (f j)) x y).2) := by simp only [own_cs]; split <;> rfl
end OwnNat
def own_vec {α : Type} (a b c d e : α) : Nat → α | 0 => a | 1 => b | 2 => c | 3 => d | _ => e
theorem own_vecs {α : Type} (P : α → α → Nat → Nat → Prop) (a b c d e : α) (g : Fin 5 → α) (hg : g 0 = a ∧ g 1 = b ∧ g 2 = c ∧ g 3 = d ∧ g 4 = e) (x0 x1 x2 x3 x4 : Nat) (r : Fin 5 → Nat) (hr : r 0 = x0 ∧ r 1 = x1 ∧ r 2 = x2 ∧ r 3 = x3 ∧ r 4 = x4) (h : ∀ i j, P (g i) (g j) (r i) (r j)) (i j : Nat) : P (own_vec a b c d e i) (own_vec a b c d e j) (own_vec x0 x1 x2 x3 x4 i) (own_vec x0 x1 x2 x3 x4 j) := by
  obtain ⟨rfl, rfl, rfl, rfl, rfl⟩ := hg
  obtain ⟨rfl, rfl, rfl, rfl, rfl⟩ := hr
  have key : ∀ i : Nat, ∃ k : Fin 5, own_vec (g 0) (g 1) (g 2) (g 3) (g 4) i = g k ∧ own_vec (r 0) (r 1) (r 2) (r 3) (r 4) i = r k := fun i => by
    match i with
    | 0 => exact ⟨0, rfl, rfl⟩
    | 1 => exact ⟨1, rfl, rfl⟩
    | 2 => exact ⟨2, rfl, rfl⟩
    | 3 => exact ⟨3, rfl, rfl⟩
    | n + 4 => exact ⟨4, rfl, rfl⟩
  obtain ⟨k, e1, e2⟩ := key i
  obtain ⟨q, e3, e4⟩ := key j
  rw [e1, e2, e3, e4]
  exact h k q
def own_run {α : Type} (lt : α → α → Bool) (a0 a1 a2 a3 a4 : α) : α × α × α × α × α :=
  let t1 := own_p1 lt a0 a1
  let t2 := own_p2 lt t1.1 t1.2 a2
  let t3 := own_p3 lt t2.1 t2.2.1 t2.2.2 a3
  let t4 := own_p4 lt t3.1 t3.2.1 t3.2.2.1 t3.2.2.2 a4
  let u4 := own_q4 lt t4.1 t4.2.1 t4.2.2.1 t4.2.2.2.1 t4.2.2.2.2
  let u3 := own_q3 lt u4.1 u4.2.1 u4.2.2.1 u4.2.2.2
  let u2 := own_q2 lt u3.1 u3.2.1 u3.2.2
  (t4.1, u4.1, u3.1, u2.1, u2.2)
def own_has (k a b c d e : Nat) : Bool := Nat.beq k a || Nat.beq k b || Nat.beq k c || Nat.beq k d || Nat.beq k e
def own_chk (r : Nat → Nat) : Bool :=
  let x := own_run (fun i j => Nat.blt (r i) (r j)) 0 1 2 3 4
  !(Nat.blt (r x.2.1) (r x.1)) && !(Nat.blt (r x.2.2.1) (r x.2.1)) && !(Nat.blt (r x.2.2.2.1) (r x.2.2.1)) && !(Nat.blt (r x.2.2.2.2) (r x.2.2.2.1)) && List.isPerm [x.1, x.2.1, x.2.2.1, x.2.2.2.1, x.2.2.2.2] [0, 1, 2, 3, 4]
set_option maxRecDepth 65536 in
theorem own_chk_all : ∀ a b c d e : Fin 5, own_chk (own_vec a.val b.val c.val d.val e.val) = true := by decide +kernel
theorem own_runN {α β : Type} (f : β → α) (lt : α → α → Bool) (a0 a1 a2 a3 a4 : β) : own_run lt (f a0) (f a1) (f a2) (f a3) (f a4) = (f (own_run (fun i j => lt (f i) (f j)) a0 a1 a2 a3 a4).1, f (own_run (fun i j => lt (f i) (f j)) a0 a1 a2 a3 a4).2.1, f (own_run (fun i j => lt (f i) (f j)) a0 a1 a2 a3 a4).2.2.1, f (own_run (fun i j => lt (f i) (f j)) a0 a1 a2 a3 a4).2.2.2.1, f (own_run (fun i j => lt (f i) (f j)) a0 a1 a2 a3 a4).2.2.2.2) := by
  simp only [own_run, own_p1N f lt, own_p2N f lt, own_p3N f lt, own_p4N f lt, own_q4N f lt, own_q3N f lt, own_q2N f lt]
theorem own_cntE (v x0 x1 x2 x3 x4 : Int64) : own_cnt v x0 x1 x2 x3 x4 = Int32.ofNat (List.countP (fun x => decide (x = v)) [x0, x1, x2, x3, x4]) := by
  simp only [own_cnt, own_ct, List.countP_cons, List.countP_nil, decide_eq_true_eq]
  by_cases h0 : x0 = v <;> by_cases h1 : x1 = v <;> by_cases h2 : x2 = v <;> by_cases h3 : x3 = v <;> by_cases h4 : x4 = v <;> simp only [h0, h1, h2, h3, h4, if_true, if_false] <;> decide
theorem own_two {x z : Int32} (h : z = x &&& 1) : z = 0 ∨ z = 1 := by
  have h1 := c_and x 1 (by decide)
  rw [← h] at h1
  have k0 : (1 : Int32).toInt = 1 := rfl
  have k : z.toInt = 0 ∨ z.toInt = 1 := by omega
  exact k.imp (fun k => Int32.toInt_inj.mp k) (fun k => Int32.toInt_inj.mp k)
theorem own_main {a0 a1 a2 a3 a4 : Int64} {t1 t2 t3 t4 u4 u3 u2} (h1 : t1 = own_p1 own_lt a0 a1) (h2 : t2 = own_p2 own_lt t1.1 t1.2 a2) (h3 : t3 = own_p3 own_lt t2.1 t2.2.1 t2.2.2 a3) (h4 : t4 = own_p4 own_lt t3.1 t3.2.1 t3.2.2.1 t3.2.2.2 a4)
    (g4 : u4 = own_q4 own_lt t4.1 t4.2.1 t4.2.2.1 t4.2.2.2.1 t4.2.2.2.2) (g3 : u3 = own_q3 own_lt u4.1 u4.2.1 u4.2.2.1 u4.2.2.2) (g2 : u2 = own_q2 own_lt u3.1 u3.2.1 u3.2.2) :
    ¬ u4.1 < t4.1 ∧ ¬ u3.1 < u4.1 ∧ ¬ u2.1 < u3.1 ∧ ¬ u2.2 < u2.1 ∧ ∀ v, own_cnt v a0 a1 a2 a3 a4 = own_cnt v t4.1 u4.1 u3.1 u2.1 u2.2 := by
  obtain ⟨r, hr⟩ := own_rank (fun i : Fin 5 => (own_vec a0 a1 a2 a3 a4 i.val).toInt)
  have hv := own_vecs (fun a b i j => own_lt a b = Nat.blt i j) a0 a1 a2 a3 a4 (fun i => own_vec a0 a1 a2 a3 a4 i.val) ⟨rfl, rfl, rfl, rfl, rfl⟩ (r 0).val (r 1).val (r 2).val (r 3).val (r 4).val (fun i => (r i).val) ⟨rfl, rfl, rfl, rfl, rfl⟩ (fun i j => by
    rw [own_lt, Bool.eq_iff_iff, decide_eq_true_iff, Nat.blt_eq, Int64.lt_iff_toInt_lt]; exact hr i j)
  have e : (fun i j => own_lt (own_vec a0 a1 a2 a3 a4 i) (own_vec a0 a1 a2 a3 a4 j)) = (fun i j => Nat.blt (own_vec (r 0).val (r 1).val (r 2).val (r 3).val (r 4).val i) (own_vec (r 0).val (r 1).val (r 2).val (r 3).val (r 4).val j)) := by
    funext i j; exact hv i j
  have n := own_runN (own_vec a0 a1 a2 a3 a4) own_lt 0 1 2 3 4
  rw [e] at n
  have n' : own_run own_lt a0 a1 a2 a3 a4 = _ := n
  have w : own_run own_lt a0 a1 a2 a3 a4 = (t4.1, u4.1, u3.1, u2.1, u2.2) := by simp only [own_run, ← h1, ← h2, ← h3, ← h4, ← g4, ← g3, ← g2]
  rw [n'] at w
  simp only [Prod.mk.injEq] at w
  obtain ⟨w0, w1, w2, w3, w4⟩ := w
  have c := own_chk_all (r 0) (r 1) (r 2) (r 3) (r 4)
  simp only [own_chk, Bool.and_eq_true, Bool.not_eq_true'] at c
  obtain ⟨⟨⟨⟨c1, c2⟩, c3⟩, c4⟩, c5⟩ := c
  have nlt : ∀ i j : Nat, Nat.blt (own_vec (r 0).val (r 1).val (r 2).val (r 3).val (r 4).val i) (own_vec (r 0).val (r 1).val (r 2).val (r 3).val (r 4).val j) = false → ¬ own_vec a0 a1 a2 a3 a4 i < own_vec a0 a1 a2 a3 a4 j := fun i j h q => by
    have z := hv i j
    rw [h, own_lt] at z
    exact (of_decide_eq_false z) q
  rw [← w0, ← w1, ← w2, ← w3, ← w4]
  refine ⟨nlt _ _ c1, nlt _ _ c2, nlt _ _ c3, nlt _ _ c4, fun v => ?_⟩
  rw [own_cntE, own_cntE]
  have pm := (List.isPerm_iff.mp c5).map (own_vec a0 a1 a2 a3 a4)
  have cc := pm.countP_eq (fun x => decide (x = v))
  have cc' : List.countP (fun x => decide (x = v)) [own_vec a0 a1 a2 a3 a4 _, own_vec a0 a1 a2 a3 a4 _, own_vec a0 a1 a2 a3 a4 _, own_vec a0 a1 a2 a3 a4 _, own_vec a0 a1 a2 a3 a4 _] = List.countP (fun x => decide (x = v)) [a0, a1, a2, a3, a4] := cc
  rw [cc']

theorem pn0 : plainName "com/example/precedence/precedence/LongHeapsPollPinLaw" = true := by first | (simp [plainName, overriddenIn]; done) | decide +kernel
theorem ef0 (m : MethodId) (x0 : Int64) (x1 : Int64) (x2 : Int64) (x3 : Int64) (x4 : Int64) (x5 : Int32) : entryFrame m #[(.long x0), (.long x1), (.long x2), (.long x3), (.long x4), (.int x5)] maxLocals = mkF m 0 #[.val (.long x0), .second, .val (.long x1), .second, .val (.long x2), .second, .val (.long x3), .second, .val (.long x4), .second, .val (.int x5), .unset, .unset, .unset, .unset, .unset, .unset, .unset, .unset, .unset, .unset, .unset, .unset, .unset, .unset] [] := by first | (simp [entryFrame, mkF, argsToLocals, Value.category, maxLocals]; done) | rfl
theorem pd1 : parseMethodDescriptor "(I)V" = some ⟨[.int], none⟩ := by decide +kernel
theorem pd3 : parseMethodDescriptor "(IJ)V" = some ⟨[.int, .long], none⟩ := by decide +kernel
theorem pd6 : parseMethodDescriptor "(I)J" = some ⟨[.int], some .long⟩ := by decide +kernel
theorem pd7 : parseMethodDescriptor "(JJJJJJ)I" = some ⟨[.long, .long, .long, .long, .long, .long], some .int⟩ := by decide +kernel
set_option maxRecDepth 65536 in
set_option maxHeartbeats 40000000 in
theorem own_law (l : Launch) (Z : State) (a0 : Array Value) (hw : ∀ d ∈ tables_1, d.before a0 Z = true) (ws : List Jvm.Cond) (p0 : Int64) (p1 : Int64) (p2 : Int64) (p3 : Int64) (p4 : Int64) (p5 : Int32)  (h0 : Heap) (n0 : Nat) (Z_ : n0 ≤ h0.size)  :
    Met l x code maxLocals ret ws room_1 Z n0 #[(.long p0), (.long p1), (.long p2), (.long p3), (.long p4), (.int p5)] h0 (fun v h => v = some (.int 1)) := by
  refine own_met pn0 (fun m => ef0 m p0 p1 p2 p3 p4 p5) ?_
  intro p e s m below meth c C0
  have C : Cx p s m meth c Z code 25 (some .boolean) "com/example/precedence/precedence/LongHeapsPollPinLaw" "law" := C0
  refine own_iload (pc' := 2) C at_0 rfl rfl ?_
  refine own_iconst (pc' := 3) (v := (1 : Int32)) C at_2 own_ki_1 rfl ?_
  refine own_iand (pc' := 4) C at_3 rfl rfl ?_
  obtain ⟨v11_4, hv11_4⟩ : ∃ z : Int32, z = (p5 &&& (1 : Int32)) := ⟨_, rfl⟩
  refine own_istore (pc' := 6) (y := v11_4) (Ls' := #[.val (.long p0), .second, .val (.long p1), .second, .val (.long p2), .second, .val (.long p3), .second, .val (.long p4), .second, .val (.int p5), .val (.int v11_4), .unset, .unset, .unset, .unset, .unset, .unset, .unset, .unset, .unset, .unset, .unset, .unset, .unset]) C at_4 hv11_4.symm rfl rfl ?_
  rcases own_two hv11_4 with q | q
  · subst q
    refine own_new (pc' := 9) C at_6 (hw _ (List.mem_of_getElem? (i := 0) rfl)) (hw _ (List.mem_of_getElem? (i := 1) rfl)) (hw _ (List.mem_of_getElem? (i := 2) rfl)) (by decide) (by decide) rfl ?_
    intro h1 b1 g1 X1 E_b1 D1
    have g_b1 : n0 ≤ b1 := g1 ▸ Z_
    replace Z_ := Nat.le_trans Z_ X1.1
    have F_b1_heaps : Fld Z h1 b1 "com/example/precedence/precedence/LongHeaps" "heaps" "[[J" .null := D1 (Or.inr (hw _ (List.mem_of_getElem? (i := 12) rfl))) (ty := (.array (.array .long))) (by decide)
    have F_b1_sizes : Fld Z h1 b1 "com/example/precedence/precedence/LongHeaps" "sizes" "[I" .null := D1 (Or.inr (hw _ (List.mem_of_getElem? (i := 15) rfl))) (ty := (.array .int)) (by decide)
    refine own_dup (pc' := 10) C at_9 rfl rfl ?_
    refine own_iconst (pc' := 11) (v := (2 : Int32)) C at_10 own_ki_2 rfl ?_
    refine own_callI (pc' := 14) (wL := 1) (a := b1) (argsL := [(.int (2 : Int32))]) (rest := [(.ref b1)]) C (own_newH l Z a0 hw b1 h1 n0 Z_ E_b1 F_b1_heaps F_b1_sizes g_b1) at_11 (hw _ (List.mem_of_getElem? (i := 3) rfl)) (hw _ (List.mem_of_getElem? (i := 4) rfl)) (hw _ (List.mem_of_getElem? (i := 2) rfl)) (hw _ (List.mem_of_getElem? (i := 5) rfl)) (by decide) (by decide) (by decide) rfl (lenOf pd1 rfl) rfl rfl (Nat.le_of_eq rfl) (by decide) (by decide) rfl ?_
    rintro _ h2 ⟨rfl, K2, hp_2, sx_2, szh2, szs2, nehs2, F2_heaps, F2_sizes, A2_h, A2_s⟩
    have ne_b1_hp_2 : b1 ≠ hp_2 := Nat.ne_of_lt (Nat.lt_of_lt_of_le E_b1.lt szh2)
    have g_hp_2 : n0 ≤ hp_2 := Nat.le_trans Z_ szh2
    have ne_b1_sx_2 : b1 ≠ sx_2 := Nat.ne_of_lt (Nat.lt_of_lt_of_le E_b1.lt szs2)
    have g_sx_2 : n0 ≤ sx_2 := Nat.le_trans Z_ szs2
    replace E_b1 := E_b1.keep K2
    replace Z_ := Nat.le_trans Z_ K2.1
    replace F_b1_heaps := F2_heaps
    replace F_b1_sizes := F2_sizes
    show Wp p l e _ s m _ below meth c n0 _ h2 ((0 + 1) + 2) ((0 + 2) + 4) (mkF m 14 #[.val (.long p0), .second, .val (.long p1), .second, .val (.long p2), .second, .val (.long p3), .second, .val (.long p4), .second, .val (.int p5), .val (.int (0 : Int32)), .unset, .unset, .unset, .unset, .unset, .unset, .unset, .unset, .unset, .unset, .unset, .unset, .unset] [(.ref b1)])
    refine own_astore (pc' := 16) (Ls' := #[.val (.long p0), .second, .val (.long p1), .second, .val (.long p2), .second, .val (.long p3), .second, .val (.long p4), .second, .val (.int p5), .val (.int (0 : Int32)), .val (.ref b1), .unset, .unset, .unset, .unset, .unset, .unset, .unset, .unset, .unset, .unset, .unset, .unset]) C at_14 rfl rfl rfl ?_
    refine own_aload (pc' := 18) C at_16 rfl rfl rfl ?_
    refine own_iload (pc' := 20) C at_18 rfl rfl ?_
    refine own_lloadN (pc' := 21) C at_20 rfl rfl ?_
    refine own_callV (pc' := 24) (wL := 0) (a := b1) (argsL := [(.int (0 : Int32)), (.long p0)]) (rest := []) C (own_add0_0 l Z a0 hw b1 p0 hp_2 sx_2 h2 n0 Z_ E_b1 F_b1_heaps F_b1_sizes g_b1 A2_h A2_s g_hp_2 g_sx_2 ne_b1_hp_2 ne_b1_sx_2 nehs2) E_b1 at_21 (hw _ (List.mem_of_getElem? (i := 16) rfl)) (hw _ (List.mem_of_getElem? (i := 17) rfl)) (hw _ (List.mem_of_getElem? (i := 19) rfl)) (hw _ (List.mem_of_getElem? (i := 18) rfl)) (hw _ (List.mem_of_getElem? (i := 2) rfl)) (hw _ (List.mem_of_getElem? (i := 20) rfl)) (by decide) (by decide) (by decide) rfl (lenOf pd3 rfl) rfl rfl (Nat.le_of_eq rfl) (by decide) (by decide) rfl ?_
    rintro _ h3 ⟨rfl, K3, gg_3, szg3, H3_, S3_, E_gg_3, A_gg_3⟩
    have ne_b1_gg_3 : b1 ≠ gg_3 := Nat.ne_of_lt (Nat.lt_of_lt_of_le E_b1.lt szg3)
    have ne_hp_2_gg_3 : hp_2 ≠ gg_3 := Nat.ne_of_lt (Nat.lt_of_lt_of_le A2_h.lt szg3)
    have ne_sx_2_gg_3 : sx_2 ≠ gg_3 := Nat.ne_of_lt (Nat.lt_of_lt_of_le A2_s.lt szg3)
    have g_gg_3 : n0 ≤ gg_3 := Nat.le_trans Z_ szg3
    replace E_b1 := E_b1.keep K3
    replace F_b1_heaps := F_b1_heaps.keep K3 (ninS ne_b1_hp_2 (ninS ne_b1_sx_2 nin0))
    replace F_b1_sizes := F_b1_sizes.keep K3 (ninS ne_b1_hp_2 (ninS ne_b1_sx_2 nin0))
    replace Z_ := Nat.le_trans Z_ K3.1
    replace A2_s := S3_
    replace A2_h := H3_
    show Wp p l e _ s m _ below meth c n0 _ h3 (((0 + 1) + 2) + 1) (((0 + 2) + 4) + 4) (mkF m 24 #[.val (.long p0), .second, .val (.long p1), .second, .val (.long p2), .second, .val (.long p3), .second, .val (.long p4), .second, .val (.int p5), .val (.int (0 : Int32)), .val (.ref b1), .unset, .unset, .unset, .unset, .unset, .unset, .unset, .unset, .unset, .unset, .unset, .unset] [])
    refine own_aload (pc' := 26) C at_24 rfl rfl rfl ?_
    refine own_iload (pc' := 28) C at_26 rfl rfl ?_
    refine own_lloadN (pc' := 29) C at_28 rfl rfl ?_
    refine own_callV (pc' := 32) (wL := 0) (a := b1) (argsL := [(.int (0 : Int32)), (.long p1)]) (rest := []) C (own_add0_1 l Z a0 hw b1 p1 hp_2 sx_2 gg_3 p0 (0 : Int64) (0 : Int64) (0 : Int64) h3 n0 Z_ E_b1 F_b1_heaps F_b1_sizes g_b1 A2_h A2_s g_hp_2 g_sx_2 ne_b1_hp_2 ne_b1_sx_2 nehs2 A_gg_3 E_gg_3 g_gg_3 ne_b1_gg_3 ne_hp_2_gg_3 ne_sx_2_gg_3) E_b1 at_29 (hw _ (List.mem_of_getElem? (i := 16) rfl)) (hw _ (List.mem_of_getElem? (i := 17) rfl)) (hw _ (List.mem_of_getElem? (i := 19) rfl)) (hw _ (List.mem_of_getElem? (i := 18) rfl)) (hw _ (List.mem_of_getElem? (i := 2) rfl)) (hw _ (List.mem_of_getElem? (i := 20) rfl)) (by decide) (by decide) (by decide) rfl (lenOf pd3 rfl) rfl rfl (Nat.le_of_eq rfl) (by decide) (by decide) rfl ?_
    rintro _ h4 ⟨rfl, K4, S4_, G4_⟩
    replace E_b1 := E_b1.keep K4
    replace F_b1_heaps := F_b1_heaps.keep K4 (ninS ne_b1_sx_2 (ninS ne_b1_gg_3 nin0))
    replace F_b1_sizes := F_b1_sizes.keep K4 (ninS ne_b1_sx_2 (ninS ne_b1_gg_3 nin0))
    replace A2_h := A2_h.keep K4 (ninS nehs2 (ninS ne_hp_2_gg_3 nin0))
    replace E_gg_3 := E_gg_3.keep K4
    replace Z_ := Nat.le_trans Z_ K4.1
    replace A2_s := S4_
    replace A_gg_3 := G4_
    obtain ⟨T1, hT1⟩ : ∃ z, z = own_p1 own_lt p0 p1 := ⟨_, rfl⟩
    rw [← hT1] at A_gg_3
    show Wp p l e _ s m _ below meth c n0 _ h4 (((0 + 1) + 2) + 1) (((0 + 2) + 4) + 4) (mkF m 32 #[.val (.long p0), .second, .val (.long p1), .second, .val (.long p2), .second, .val (.long p3), .second, .val (.long p4), .second, .val (.int p5), .val (.int (0 : Int32)), .val (.ref b1), .unset, .unset, .unset, .unset, .unset, .unset, .unset, .unset, .unset, .unset, .unset, .unset] [])
    refine own_aload (pc' := 34) C at_32 rfl rfl rfl ?_
    refine own_iload (pc' := 36) C at_34 rfl rfl ?_
    refine own_lload (pc' := 38) C at_36 rfl rfl ?_
    refine own_callV (pc' := 41) (wL := 0) (a := b1) (argsL := [(.int (0 : Int32)), (.long p2)]) (rest := []) C (own_add0_2 l Z a0 hw b1 p2 hp_2 sx_2 gg_3 T1.1 T1.2 (0 : Int64) (0 : Int64) h4 n0 Z_ E_b1 F_b1_heaps F_b1_sizes g_b1 A2_h A2_s g_hp_2 g_sx_2 ne_b1_hp_2 ne_b1_sx_2 nehs2 A_gg_3 E_gg_3 g_gg_3 ne_b1_gg_3 ne_hp_2_gg_3 ne_sx_2_gg_3) E_b1 at_38 (hw _ (List.mem_of_getElem? (i := 16) rfl)) (hw _ (List.mem_of_getElem? (i := 17) rfl)) (hw _ (List.mem_of_getElem? (i := 19) rfl)) (hw _ (List.mem_of_getElem? (i := 18) rfl)) (hw _ (List.mem_of_getElem? (i := 2) rfl)) (hw _ (List.mem_of_getElem? (i := 20) rfl)) (by decide) (by decide) (by decide) rfl (lenOf pd3 rfl) rfl rfl (Nat.le_of_eq rfl) (by decide) (by decide) rfl ?_
    rintro _ h5 ⟨rfl, K5, S5_, G5_⟩
    replace E_b1 := E_b1.keep K5
    replace F_b1_heaps := F_b1_heaps.keep K5 (ninS ne_b1_sx_2 (ninS ne_b1_gg_3 nin0))
    replace F_b1_sizes := F_b1_sizes.keep K5 (ninS ne_b1_sx_2 (ninS ne_b1_gg_3 nin0))
    replace A2_h := A2_h.keep K5 (ninS nehs2 (ninS ne_hp_2_gg_3 nin0))
    replace E_gg_3 := E_gg_3.keep K5
    replace Z_ := Nat.le_trans Z_ K5.1
    replace A2_s := S5_
    replace A_gg_3 := G5_
    obtain ⟨T2, hT2⟩ : ∃ z, z = own_p2 own_lt T1.1 T1.2 p2 := ⟨_, rfl⟩
    rw [← hT2] at A_gg_3
    show Wp p l e _ s m _ below meth c n0 _ h5 (((0 + 1) + 2) + 1) (((0 + 2) + 4) + 4) (mkF m 41 #[.val (.long p0), .second, .val (.long p1), .second, .val (.long p2), .second, .val (.long p3), .second, .val (.long p4), .second, .val (.int p5), .val (.int (0 : Int32)), .val (.ref b1), .unset, .unset, .unset, .unset, .unset, .unset, .unset, .unset, .unset, .unset, .unset, .unset] [])
    refine own_aload (pc' := 43) C at_41 rfl rfl rfl ?_
    refine own_iload (pc' := 45) C at_43 rfl rfl ?_
    refine own_lload (pc' := 47) C at_45 rfl rfl ?_
    refine own_callV (pc' := 50) (wL := 0) (a := b1) (argsL := [(.int (0 : Int32)), (.long p3)]) (rest := []) C (own_add0_3 l Z a0 hw b1 p3 hp_2 sx_2 gg_3 T2.1 T2.2.1 T2.2.2 (0 : Int64) h5 n0 Z_ E_b1 F_b1_heaps F_b1_sizes g_b1 A2_h A2_s g_hp_2 g_sx_2 ne_b1_hp_2 ne_b1_sx_2 nehs2 A_gg_3 E_gg_3 g_gg_3 ne_b1_gg_3 ne_hp_2_gg_3 ne_sx_2_gg_3) E_b1 at_47 (hw _ (List.mem_of_getElem? (i := 16) rfl)) (hw _ (List.mem_of_getElem? (i := 17) rfl)) (hw _ (List.mem_of_getElem? (i := 19) rfl)) (hw _ (List.mem_of_getElem? (i := 18) rfl)) (hw _ (List.mem_of_getElem? (i := 2) rfl)) (hw _ (List.mem_of_getElem? (i := 20) rfl)) (by decide) (by decide) (by decide) rfl (lenOf pd3 rfl) rfl rfl (Nat.le_of_eq rfl) (by decide) (by decide) rfl ?_
    rintro _ h6 ⟨rfl, K6, S6_, G6_⟩
    replace E_b1 := E_b1.keep K6
    replace F_b1_heaps := F_b1_heaps.keep K6 (ninS ne_b1_sx_2 (ninS ne_b1_gg_3 nin0))
    replace F_b1_sizes := F_b1_sizes.keep K6 (ninS ne_b1_sx_2 (ninS ne_b1_gg_3 nin0))
    replace A2_h := A2_h.keep K6 (ninS nehs2 (ninS ne_hp_2_gg_3 nin0))
    replace E_gg_3 := E_gg_3.keep K6
    replace Z_ := Nat.le_trans Z_ K6.1
    replace A2_s := S6_
    replace A_gg_3 := G6_
    obtain ⟨T3, hT3⟩ : ∃ z, z = own_p3 own_lt T2.1 T2.2.1 T2.2.2 p3 := ⟨_, rfl⟩
    rw [← hT3] at A_gg_3
    show Wp p l e _ s m _ below meth c n0 _ h6 (((0 + 1) + 2) + 1) (((0 + 2) + 4) + 4) (mkF m 50 #[.val (.long p0), .second, .val (.long p1), .second, .val (.long p2), .second, .val (.long p3), .second, .val (.long p4), .second, .val (.int p5), .val (.int (0 : Int32)), .val (.ref b1), .unset, .unset, .unset, .unset, .unset, .unset, .unset, .unset, .unset, .unset, .unset, .unset] [])
    refine own_aload (pc' := 52) C at_50 rfl rfl rfl ?_
    refine own_iload (pc' := 54) C at_52 rfl rfl ?_
    refine own_lload (pc' := 56) C at_54 rfl rfl ?_
    refine own_callV (pc' := 59) (wL := 0) (a := b1) (argsL := [(.int (0 : Int32)), (.long p4)]) (rest := []) C (own_add0_4 l Z a0 hw b1 p4 hp_2 sx_2 gg_3 T3.1 T3.2.1 T3.2.2.1 T3.2.2.2 h6 n0 Z_ E_b1 F_b1_heaps F_b1_sizes g_b1 A2_h A2_s g_hp_2 g_sx_2 ne_b1_hp_2 ne_b1_sx_2 nehs2 A_gg_3 E_gg_3 g_gg_3 ne_b1_gg_3 ne_hp_2_gg_3 ne_sx_2_gg_3) E_b1 at_56 (hw _ (List.mem_of_getElem? (i := 16) rfl)) (hw _ (List.mem_of_getElem? (i := 17) rfl)) (hw _ (List.mem_of_getElem? (i := 19) rfl)) (hw _ (List.mem_of_getElem? (i := 18) rfl)) (hw _ (List.mem_of_getElem? (i := 2) rfl)) (hw _ (List.mem_of_getElem? (i := 20) rfl)) (by decide) (by decide) (by decide) rfl (lenOf pd3 rfl) rfl rfl (Nat.le_of_eq rfl) (by decide) (by decide) rfl ?_
    rintro _ h7 ⟨rfl, K7, gg_7, szg7, H7_, S7_, E_gg_7, A_gg_7⟩
    have ne_b1_gg_7 : b1 ≠ gg_7 := Nat.ne_of_lt (Nat.lt_of_lt_of_le E_b1.lt szg7)
    have ne_hp_2_gg_7 : hp_2 ≠ gg_7 := Nat.ne_of_lt (Nat.lt_of_lt_of_le A2_h.lt szg7)
    have ne_sx_2_gg_7 : sx_2 ≠ gg_7 := Nat.ne_of_lt (Nat.lt_of_lt_of_le A2_s.lt szg7)
    have g_gg_7 : n0 ≤ gg_7 := Nat.le_trans Z_ szg7
    replace E_b1 := E_b1.keep K7
    replace F_b1_heaps := F_b1_heaps.keep K7 (ninS ne_b1_hp_2 (ninS ne_b1_sx_2 nin0))
    replace F_b1_sizes := F_b1_sizes.keep K7 (ninS ne_b1_hp_2 (ninS ne_b1_sx_2 nin0))
    replace Z_ := Nat.le_trans Z_ K7.1
    replace A2_s := S7_
    replace A2_h := H7_
    obtain ⟨T4, hT4⟩ : ∃ z, z = own_p4 own_lt T3.1 T3.2.1 T3.2.2.1 T3.2.2.2 p4 := ⟨_, rfl⟩
    rw [← hT4] at A_gg_7
    show Wp p l e _ s m _ below meth c n0 _ h7 ((((0 + 1) + 2) + 1) + 1) ((((0 + 2) + 4) + 4) + 8) (mkF m 59 #[.val (.long p0), .second, .val (.long p1), .second, .val (.long p2), .second, .val (.long p3), .second, .val (.long p4), .second, .val (.int p5), .val (.int (0 : Int32)), .val (.ref b1), .unset, .unset, .unset, .unset, .unset, .unset, .unset, .unset, .unset, .unset, .unset, .unset] [])
    refine own_aload (pc' := 61) C at_59 rfl rfl rfl ?_
    refine own_iload (pc' := 63) C at_61 rfl rfl ?_
    refine own_callV (pc' := 66) (wL := 0) (a := b1) (argsL := [(.int (0 : Int32))]) (rest := []) C (own_poll0_4 l Z a0 hw b1 hp_2 sx_2 gg_7 T4.1 T4.2.1 T4.2.2.1 T4.2.2.2.1 T4.2.2.2.2 (0 : Int64) (0 : Int64) (0 : Int64) h7 n0 Z_ E_b1 F_b1_heaps F_b1_sizes g_b1 A2_h A2_s g_hp_2 g_sx_2 ne_b1_hp_2 ne_b1_sx_2 nehs2 A_gg_7 E_gg_7 g_gg_7 ne_b1_gg_7 ne_hp_2_gg_7 ne_sx_2_gg_7) E_b1 at_63 (hw _ (List.mem_of_getElem? (i := 35) rfl)) (hw _ (List.mem_of_getElem? (i := 36) rfl)) (hw _ (List.mem_of_getElem? (i := 38) rfl)) (hw _ (List.mem_of_getElem? (i := 37) rfl)) (hw _ (List.mem_of_getElem? (i := 2) rfl)) (hw _ (List.mem_of_getElem? (i := 39) rfl)) (by decide) (by decide) (by decide) rfl (lenOf pd6 rfl) rfl rfl (Nat.le_of_eq rfl) (by decide) (by decide) rfl ?_
    rintro _ h8 ⟨rfl, K8, S8_, G8_⟩
    replace E_b1 := E_b1.keep K8
    replace F_b1_heaps := F_b1_heaps.keep K8 (ninS ne_b1_sx_2 (ninS ne_b1_gg_7 nin0))
    replace F_b1_sizes := F_b1_sizes.keep K8 (ninS ne_b1_sx_2 (ninS ne_b1_gg_7 nin0))
    replace A2_h := A2_h.keep K8 (ninS nehs2 (ninS ne_hp_2_gg_7 nin0))
    replace E_gg_7 := E_gg_7.keep K8
    replace Z_ := Nat.le_trans Z_ K8.1
    replace A2_s := S8_
    replace A_gg_7 := G8_
    obtain ⟨U4, hU4⟩ : ∃ z, z = own_q4 own_lt T4.1 T4.2.1 T4.2.2.1 T4.2.2.2.1 T4.2.2.2.2 := ⟨_, rfl⟩
    rw [← hU4] at A_gg_7
    show Wp p l e _ s m _ below meth c n0 _ h8 ((((0 + 1) + 2) + 1) + 1) ((((0 + 2) + 4) + 4) + 8) (mkF m 66 #[.val (.long p0), .second, .val (.long p1), .second, .val (.long p2), .second, .val (.long p3), .second, .val (.long p4), .second, .val (.int p5), .val (.int (0 : Int32)), .val (.ref b1), .unset, .unset, .unset, .unset, .unset, .unset, .unset, .unset, .unset, .unset, .unset, .unset] [(.long T4.1)])
    refine own_lstore (pc' := 68) (y := T4.1) (Ls' := #[.val (.long p0), .second, .val (.long p1), .second, .val (.long p2), .second, .val (.long p3), .second, .val (.long p4), .second, .val (.int p5), .val (.int (0 : Int32)), .val (.ref b1), .val (.long T4.1), .second, .unset, .unset, .unset, .unset, .unset, .unset, .unset, .unset, .unset, .unset]) C at_66 rfl rfl rfl ?_
    refine own_aload (pc' := 70) C at_68 rfl rfl rfl ?_
    refine own_iload (pc' := 72) C at_70 rfl rfl ?_
    refine own_callV (pc' := 75) (wL := 0) (a := b1) (argsL := [(.int (0 : Int32))]) (rest := []) C (own_poll0_3 l Z a0 hw b1 hp_2 sx_2 gg_7 U4.1 U4.2.1 U4.2.2.1 U4.2.2.2 T4.2.2.2.2 (0 : Int64) (0 : Int64) (0 : Int64) h8 n0 Z_ E_b1 F_b1_heaps F_b1_sizes g_b1 A2_h A2_s g_hp_2 g_sx_2 ne_b1_hp_2 ne_b1_sx_2 nehs2 A_gg_7 E_gg_7 g_gg_7 ne_b1_gg_7 ne_hp_2_gg_7 ne_sx_2_gg_7) E_b1 at_72 (hw _ (List.mem_of_getElem? (i := 35) rfl)) (hw _ (List.mem_of_getElem? (i := 36) rfl)) (hw _ (List.mem_of_getElem? (i := 38) rfl)) (hw _ (List.mem_of_getElem? (i := 37) rfl)) (hw _ (List.mem_of_getElem? (i := 2) rfl)) (hw _ (List.mem_of_getElem? (i := 39) rfl)) (by decide) (by decide) (by decide) rfl (lenOf pd6 rfl) rfl rfl (Nat.le_of_eq rfl) (by decide) (by decide) rfl ?_
    rintro _ h9 ⟨rfl, K9, S9_, G9_⟩
    replace E_b1 := E_b1.keep K9
    replace F_b1_heaps := F_b1_heaps.keep K9 (ninS ne_b1_sx_2 (ninS ne_b1_gg_7 nin0))
    replace F_b1_sizes := F_b1_sizes.keep K9 (ninS ne_b1_sx_2 (ninS ne_b1_gg_7 nin0))
    replace A2_h := A2_h.keep K9 (ninS nehs2 (ninS ne_hp_2_gg_7 nin0))
    replace E_gg_7 := E_gg_7.keep K9
    replace Z_ := Nat.le_trans Z_ K9.1
    replace A2_s := S9_
    replace A_gg_7 := G9_
    obtain ⟨U3, hU3⟩ : ∃ z, z = own_q3 own_lt U4.1 U4.2.1 U4.2.2.1 U4.2.2.2 := ⟨_, rfl⟩
    rw [← hU3] at A_gg_7
    show Wp p l e _ s m _ below meth c n0 _ h9 ((((0 + 1) + 2) + 1) + 1) ((((0 + 2) + 4) + 4) + 8) (mkF m 75 #[.val (.long p0), .second, .val (.long p1), .second, .val (.long p2), .second, .val (.long p3), .second, .val (.long p4), .second, .val (.int p5), .val (.int (0 : Int32)), .val (.ref b1), .val (.long T4.1), .second, .unset, .unset, .unset, .unset, .unset, .unset, .unset, .unset, .unset, .unset] [(.long U4.1)])
    refine own_lstore (pc' := 77) (y := U4.1) (Ls' := #[.val (.long p0), .second, .val (.long p1), .second, .val (.long p2), .second, .val (.long p3), .second, .val (.long p4), .second, .val (.int p5), .val (.int (0 : Int32)), .val (.ref b1), .val (.long T4.1), .second, .val (.long U4.1), .second, .unset, .unset, .unset, .unset, .unset, .unset, .unset, .unset]) C at_75 rfl rfl rfl ?_
    refine own_aload (pc' := 79) C at_77 rfl rfl rfl ?_
    refine own_iload (pc' := 81) C at_79 rfl rfl ?_
    refine own_callV (pc' := 84) (wL := 0) (a := b1) (argsL := [(.int (0 : Int32))]) (rest := []) C (own_poll0_2 l Z a0 hw b1 hp_2 sx_2 gg_7 U3.1 U3.2.1 U3.2.2 U4.2.2.2 T4.2.2.2.2 (0 : Int64) (0 : Int64) (0 : Int64) h9 n0 Z_ E_b1 F_b1_heaps F_b1_sizes g_b1 A2_h A2_s g_hp_2 g_sx_2 ne_b1_hp_2 ne_b1_sx_2 nehs2 A_gg_7 E_gg_7 g_gg_7 ne_b1_gg_7 ne_hp_2_gg_7 ne_sx_2_gg_7) E_b1 at_81 (hw _ (List.mem_of_getElem? (i := 35) rfl)) (hw _ (List.mem_of_getElem? (i := 36) rfl)) (hw _ (List.mem_of_getElem? (i := 38) rfl)) (hw _ (List.mem_of_getElem? (i := 37) rfl)) (hw _ (List.mem_of_getElem? (i := 2) rfl)) (hw _ (List.mem_of_getElem? (i := 39) rfl)) (by decide) (by decide) (by decide) rfl (lenOf pd6 rfl) rfl rfl (Nat.le_of_eq rfl) (by decide) (by decide) rfl ?_
    rintro _ h10 ⟨rfl, K10, S10_, G10_⟩
    replace E_b1 := E_b1.keep K10
    replace F_b1_heaps := F_b1_heaps.keep K10 (ninS ne_b1_sx_2 (ninS ne_b1_gg_7 nin0))
    replace F_b1_sizes := F_b1_sizes.keep K10 (ninS ne_b1_sx_2 (ninS ne_b1_gg_7 nin0))
    replace A2_h := A2_h.keep K10 (ninS nehs2 (ninS ne_hp_2_gg_7 nin0))
    replace E_gg_7 := E_gg_7.keep K10
    replace Z_ := Nat.le_trans Z_ K10.1
    replace A2_s := S10_
    replace A_gg_7 := G10_
    obtain ⟨U2, hU2⟩ : ∃ z, z = own_q2 own_lt U3.1 U3.2.1 U3.2.2 := ⟨_, rfl⟩
    rw [← hU2] at A_gg_7
    show Wp p l e _ s m _ below meth c n0 _ h10 ((((0 + 1) + 2) + 1) + 1) ((((0 + 2) + 4) + 4) + 8) (mkF m 84 #[.val (.long p0), .second, .val (.long p1), .second, .val (.long p2), .second, .val (.long p3), .second, .val (.long p4), .second, .val (.int p5), .val (.int (0 : Int32)), .val (.ref b1), .val (.long T4.1), .second, .val (.long U4.1), .second, .unset, .unset, .unset, .unset, .unset, .unset, .unset, .unset] [(.long U3.1)])
    refine own_lstore (pc' := 86) (y := U3.1) (Ls' := #[.val (.long p0), .second, .val (.long p1), .second, .val (.long p2), .second, .val (.long p3), .second, .val (.long p4), .second, .val (.int p5), .val (.int (0 : Int32)), .val (.ref b1), .val (.long T4.1), .second, .val (.long U4.1), .second, .val (.long U3.1), .second, .unset, .unset, .unset, .unset, .unset, .unset]) C at_84 rfl rfl rfl ?_
    refine own_aload (pc' := 88) C at_86 rfl rfl rfl ?_
    refine own_iload (pc' := 90) C at_88 rfl rfl ?_
    refine own_callV (pc' := 93) (wL := 0) (a := b1) (argsL := [(.int (0 : Int32))]) (rest := []) C (own_poll0_1 l Z a0 hw b1 hp_2 sx_2 gg_7 U2.1 U2.2 U3.2.2 U4.2.2.2 T4.2.2.2.2 (0 : Int64) (0 : Int64) (0 : Int64) h10 n0 Z_ E_b1 F_b1_heaps F_b1_sizes g_b1 A2_h A2_s g_hp_2 g_sx_2 ne_b1_hp_2 ne_b1_sx_2 nehs2 A_gg_7 E_gg_7 g_gg_7 ne_b1_gg_7 ne_hp_2_gg_7 ne_sx_2_gg_7) E_b1 at_90 (hw _ (List.mem_of_getElem? (i := 35) rfl)) (hw _ (List.mem_of_getElem? (i := 36) rfl)) (hw _ (List.mem_of_getElem? (i := 38) rfl)) (hw _ (List.mem_of_getElem? (i := 37) rfl)) (hw _ (List.mem_of_getElem? (i := 2) rfl)) (hw _ (List.mem_of_getElem? (i := 39) rfl)) (by decide) (by decide) (by decide) rfl (lenOf pd6 rfl) rfl rfl (Nat.le_of_eq rfl) (by decide) (by decide) rfl ?_
    rintro _ h11 ⟨rfl, K11, S11_, G11_⟩
    replace E_b1 := E_b1.keep K11
    replace F_b1_heaps := F_b1_heaps.keep K11 (ninS ne_b1_sx_2 (ninS ne_b1_gg_7 nin0))
    replace F_b1_sizes := F_b1_sizes.keep K11 (ninS ne_b1_sx_2 (ninS ne_b1_gg_7 nin0))
    replace A2_h := A2_h.keep K11 (ninS nehs2 (ninS ne_hp_2_gg_7 nin0))
    replace E_gg_7 := E_gg_7.keep K11
    replace Z_ := Nat.le_trans Z_ K11.1
    replace A2_s := S11_
    replace A_gg_7 := G11_
    show Wp p l e _ s m _ below meth c n0 _ h11 ((((0 + 1) + 2) + 1) + 1) ((((0 + 2) + 4) + 4) + 8) (mkF m 93 #[.val (.long p0), .second, .val (.long p1), .second, .val (.long p2), .second, .val (.long p3), .second, .val (.long p4), .second, .val (.int p5), .val (.int (0 : Int32)), .val (.ref b1), .val (.long T4.1), .second, .val (.long U4.1), .second, .val (.long U3.1), .second, .unset, .unset, .unset, .unset, .unset, .unset] [(.long U2.1)])
    refine own_lstore (pc' := 95) (y := U2.1) (Ls' := #[.val (.long p0), .second, .val (.long p1), .second, .val (.long p2), .second, .val (.long p3), .second, .val (.long p4), .second, .val (.int p5), .val (.int (0 : Int32)), .val (.ref b1), .val (.long T4.1), .second, .val (.long U4.1), .second, .val (.long U3.1), .second, .val (.long U2.1), .second, .unset, .unset, .unset, .unset]) C at_93 rfl rfl rfl ?_
    refine own_aload (pc' := 97) C at_95 rfl rfl rfl ?_
    refine own_iload (pc' := 99) C at_97 rfl rfl ?_
    refine own_callV (pc' := 102) (wL := 0) (a := b1) (argsL := [(.int (0 : Int32))]) (rest := []) C (own_poll0_0 l Z a0 hw b1 hp_2 sx_2 gg_7 U2.2 U2.2 U3.2.2 U4.2.2.2 T4.2.2.2.2 (0 : Int64) (0 : Int64) (0 : Int64) h11 n0 Z_ E_b1 F_b1_heaps F_b1_sizes g_b1 A2_h A2_s g_hp_2 g_sx_2 ne_b1_hp_2 ne_b1_sx_2 nehs2 A_gg_7 E_gg_7 g_gg_7 ne_b1_gg_7 ne_hp_2_gg_7 ne_sx_2_gg_7) E_b1 at_99 (hw _ (List.mem_of_getElem? (i := 35) rfl)) (hw _ (List.mem_of_getElem? (i := 36) rfl)) (hw _ (List.mem_of_getElem? (i := 38) rfl)) (hw _ (List.mem_of_getElem? (i := 37) rfl)) (hw _ (List.mem_of_getElem? (i := 2) rfl)) (hw _ (List.mem_of_getElem? (i := 39) rfl)) (by decide) (by decide) (by decide) rfl (lenOf pd6 rfl) rfl rfl (Nat.le_of_eq rfl) (by decide) (by decide) rfl ?_
    rintro _ h12 ⟨rfl, K12, S12_, G12_⟩
    replace E_b1 := E_b1.keep K12
    replace F_b1_heaps := F_b1_heaps.keep K12 (ninS ne_b1_sx_2 (ninS ne_b1_gg_7 nin0))
    replace F_b1_sizes := F_b1_sizes.keep K12 (ninS ne_b1_sx_2 (ninS ne_b1_gg_7 nin0))
    replace A2_h := A2_h.keep K12 (ninS nehs2 (ninS ne_hp_2_gg_7 nin0))
    replace E_gg_7 := E_gg_7.keep K12
    replace Z_ := Nat.le_trans Z_ K12.1
    replace A2_s := S12_
    replace A_gg_7 := G12_
    show Wp p l e _ s m _ below meth c n0 _ h12 ((((0 + 1) + 2) + 1) + 1) ((((0 + 2) + 4) + 4) + 8) (mkF m 102 #[.val (.long p0), .second, .val (.long p1), .second, .val (.long p2), .second, .val (.long p3), .second, .val (.long p4), .second, .val (.int p5), .val (.int (0 : Int32)), .val (.ref b1), .val (.long T4.1), .second, .val (.long U4.1), .second, .val (.long U3.1), .second, .val (.long U2.1), .second, .unset, .unset, .unset, .unset] [(.long U2.2)])
    refine own_lstore (pc' := 104) (y := U2.2) (Ls' := #[.val (.long p0), .second, .val (.long p1), .second, .val (.long p2), .second, .val (.long p3), .second, .val (.long p4), .second, .val (.int p5), .val (.int (0 : Int32)), .val (.ref b1), .val (.long T4.1), .second, .val (.long U4.1), .second, .val (.long U3.1), .second, .val (.long U2.1), .second, .val (.long U2.2), .second, .unset, .unset]) C at_102 rfl rfl rfl ?_
    refine own_lload (pc' := 106) C at_104 rfl rfl ?_
    refine own_lload (pc' := 108) C at_106 rfl rfl ?_
    refine own_lcmp_gt (pt := 140) (pf := 112) C at_108 rfl at_109 (by decide) (by decide) rfl (fun q => absurd q (own_main hT1 hT2 hT3 hT4 hU4 hU3 hU2).1) (fun _ => ?_)
    refine own_lload (pc' := 114) C at_112 rfl rfl ?_
    refine own_lload (pc' := 116) C at_114 rfl rfl ?_
    refine own_lcmp_gt (pt := 140) (pf := 120) C at_116 rfl at_117 (by decide) (by decide) rfl (fun q => absurd q (own_main hT1 hT2 hT3 hT4 hU4 hU3 hU2).2.1) (fun _ => ?_)
    refine own_lload (pc' := 122) C at_120 rfl rfl ?_
    refine own_lload (pc' := 124) C at_122 rfl rfl ?_
    refine own_lcmp_gt (pt := 140) (pf := 128) C at_124 rfl at_125 (by decide) (by decide) rfl (fun q => absurd q (own_main hT1 hT2 hT3 hT4 hU4 hU3 hU2).2.2.1) (fun _ => ?_)
    refine own_lload (pc' := 130) C at_128 rfl rfl ?_
    refine own_lload (pc' := 132) C at_130 rfl rfl ?_
    refine own_lcmp_gt (pt := 140) (pf := 136) C at_132 rfl at_133 (by decide) (by decide) rfl (fun q => absurd q (own_main hT1 hT2 hT3 hT4 hU4 hU3 hU2).2.2.2.1) (fun _ => ?_)
    refine own_iconst (pc' := 137) (v := (1 : Int32)) C at_136 own_ki_1 rfl ?_
    refine own_goto (pc' := 141) C at_137 (by decide) (by decide) ?_
    refine own_istore (pc' := 143) (y := (1 : Int32)) (Ls' := #[.val (.long p0), .second, .val (.long p1), .second, .val (.long p2), .second, .val (.long p3), .second, .val (.long p4), .second, .val (.int p5), .val (.int (0 : Int32)), .val (.ref b1), .val (.long T4.1), .second, .val (.long U4.1), .second, .val (.long U3.1), .second, .val (.long U2.1), .second, .val (.long U2.2), .second, .val (.int (1 : Int32)), .unset]) C at_141 rfl rfl rfl ?_
    refine own_lloadN (pc' := 144) C at_143 rfl rfl ?_
    refine own_lloadN (pc' := 145) C at_144 rfl rfl ?_
    refine own_lloadN (pc' := 146) C at_145 rfl rfl ?_
    refine own_lload (pc' := 148) C at_146 rfl rfl ?_
    refine own_lload (pc' := 150) C at_148 rfl rfl ?_
    refine own_lload (pc' := 152) C at_150 rfl rfl ?_
    refine own_callS (pc' := 155) (wL := 0) (argsL := [(.long p0), (.long p0), (.long p1), (.long p2), (.long p3), (.long p4)]) (rest := []) C (own_count l Z a0 hw p0 p0 p1 p2 p3 p4 h12 n0 Z_) at_152 (hw _ (List.mem_of_getElem? (i := 40) rfl)) (hw _ (List.mem_of_getElem? (i := 41) rfl)) (hw _ (List.mem_of_getElem? (i := 42) rfl)) (hw _ (List.mem_of_getElem? (i := 43) rfl)) (by decide) (by decide) (by decide) rfl (lenOf pd7 rfl) rfl rfl (Nat.le_of_eq rfl) (by decide) (by decide) rfl ?_
    rintro _ _ ⟨rfl, rfl⟩
    show Wp p l e _ s m _ below meth c n0 _ h12 ((((0 + 1) + 2) + 1) + 1) ((((0 + 2) + 4) + 4) + 8) (mkF m 155 #[.val (.long p0), .second, .val (.long p1), .second, .val (.long p2), .second, .val (.long p3), .second, .val (.long p4), .second, .val (.int p5), .val (.int (0 : Int32)), .val (.ref b1), .val (.long T4.1), .second, .val (.long U4.1), .second, .val (.long U3.1), .second, .val (.long U2.1), .second, .val (.long U2.2), .second, .val (.int (1 : Int32)), .unset] [(.int (own_cnt p0 p0 p1 p2 p3 p4))])
    refine own_lloadN (pc' := 156) C at_155 rfl rfl ?_
    refine own_lload (pc' := 158) C at_156 rfl rfl ?_
    refine own_lload (pc' := 160) C at_158 rfl rfl ?_
    refine own_lload (pc' := 162) C at_160 rfl rfl ?_
    refine own_lload (pc' := 164) C at_162 rfl rfl ?_
    refine own_lload (pc' := 166) C at_164 rfl rfl ?_
    refine own_callS (pc' := 169) (wL := 1) (argsL := [(.long p0), (.long T4.1), (.long U4.1), (.long U3.1), (.long U2.1), (.long U2.2)]) (rest := [(.int (own_cnt p0 p0 p1 p2 p3 p4))]) C (own_count l Z a0 hw p0 T4.1 U4.1 U3.1 U2.1 U2.2 h12 n0 Z_) at_166 (hw _ (List.mem_of_getElem? (i := 40) rfl)) (hw _ (List.mem_of_getElem? (i := 41) rfl)) (hw _ (List.mem_of_getElem? (i := 42) rfl)) (hw _ (List.mem_of_getElem? (i := 43) rfl)) (by decide) (by decide) (by decide) rfl (lenOf pd7 rfl) rfl rfl (Nat.le_of_eq rfl) (by decide) (by decide) rfl ?_
    rintro _ _ ⟨rfl, rfl⟩
    show Wp p l e _ s m _ below meth c n0 _ h12 ((((0 + 1) + 2) + 1) + 1) ((((0 + 2) + 4) + 4) + 8) (mkF m 169 #[.val (.long p0), .second, .val (.long p1), .second, .val (.long p2), .second, .val (.long p3), .second, .val (.long p4), .second, .val (.int p5), .val (.int (0 : Int32)), .val (.ref b1), .val (.long T4.1), .second, .val (.long U4.1), .second, .val (.long U3.1), .second, .val (.long U2.1), .second, .val (.long U2.2), .second, .val (.int (1 : Int32)), .unset] [(.int (own_cnt p0 T4.1 U4.1 U3.1 U2.1 U2.2)), (.int (own_cnt p0 p0 p1 p2 p3 p4))])
    refine own_icmp_ne (pt := 298) (pf := 172) C at_169 (by decide) (by decide) rfl (fun q => absurd ((own_main hT1 hT2 hT3 hT4 hU4 hU3 hU2).2.2.2.2 _) q) (fun _ => ?_)
    refine own_lloadN (pc' := 173) C at_172 rfl rfl ?_
    refine own_lloadN (pc' := 174) C at_173 rfl rfl ?_
    refine own_lloadN (pc' := 175) C at_174 rfl rfl ?_
    refine own_lload (pc' := 177) C at_175 rfl rfl ?_
    refine own_lload (pc' := 179) C at_177 rfl rfl ?_
    refine own_lload (pc' := 181) C at_179 rfl rfl ?_
    refine own_callS (pc' := 184) (wL := 0) (argsL := [(.long p1), (.long p0), (.long p1), (.long p2), (.long p3), (.long p4)]) (rest := []) C (own_count l Z a0 hw p1 p0 p1 p2 p3 p4 h12 n0 Z_) at_181 (hw _ (List.mem_of_getElem? (i := 40) rfl)) (hw _ (List.mem_of_getElem? (i := 41) rfl)) (hw _ (List.mem_of_getElem? (i := 42) rfl)) (hw _ (List.mem_of_getElem? (i := 43) rfl)) (by decide) (by decide) (by decide) rfl (lenOf pd7 rfl) rfl rfl (Nat.le_of_eq rfl) (by decide) (by decide) rfl ?_
    rintro _ _ ⟨rfl, rfl⟩
    show Wp p l e _ s m _ below meth c n0 _ h12 ((((0 + 1) + 2) + 1) + 1) ((((0 + 2) + 4) + 4) + 8) (mkF m 184 #[.val (.long p0), .second, .val (.long p1), .second, .val (.long p2), .second, .val (.long p3), .second, .val (.long p4), .second, .val (.int p5), .val (.int (0 : Int32)), .val (.ref b1), .val (.long T4.1), .second, .val (.long U4.1), .second, .val (.long U3.1), .second, .val (.long U2.1), .second, .val (.long U2.2), .second, .val (.int (1 : Int32)), .unset] [(.int (own_cnt p1 p0 p1 p2 p3 p4))])
    refine own_lloadN (pc' := 185) C at_184 rfl rfl ?_
    refine own_lload (pc' := 187) C at_185 rfl rfl ?_
    refine own_lload (pc' := 189) C at_187 rfl rfl ?_
    refine own_lload (pc' := 191) C at_189 rfl rfl ?_
    refine own_lload (pc' := 193) C at_191 rfl rfl ?_
    refine own_lload (pc' := 195) C at_193 rfl rfl ?_
    refine own_callS (pc' := 198) (wL := 1) (argsL := [(.long p1), (.long T4.1), (.long U4.1), (.long U3.1), (.long U2.1), (.long U2.2)]) (rest := [(.int (own_cnt p1 p0 p1 p2 p3 p4))]) C (own_count l Z a0 hw p1 T4.1 U4.1 U3.1 U2.1 U2.2 h12 n0 Z_) at_195 (hw _ (List.mem_of_getElem? (i := 40) rfl)) (hw _ (List.mem_of_getElem? (i := 41) rfl)) (hw _ (List.mem_of_getElem? (i := 42) rfl)) (hw _ (List.mem_of_getElem? (i := 43) rfl)) (by decide) (by decide) (by decide) rfl (lenOf pd7 rfl) rfl rfl (Nat.le_of_eq rfl) (by decide) (by decide) rfl ?_
    rintro _ _ ⟨rfl, rfl⟩
    show Wp p l e _ s m _ below meth c n0 _ h12 ((((0 + 1) + 2) + 1) + 1) ((((0 + 2) + 4) + 4) + 8) (mkF m 198 #[.val (.long p0), .second, .val (.long p1), .second, .val (.long p2), .second, .val (.long p3), .second, .val (.long p4), .second, .val (.int p5), .val (.int (0 : Int32)), .val (.ref b1), .val (.long T4.1), .second, .val (.long U4.1), .second, .val (.long U3.1), .second, .val (.long U2.1), .second, .val (.long U2.2), .second, .val (.int (1 : Int32)), .unset] [(.int (own_cnt p1 T4.1 U4.1 U3.1 U2.1 U2.2)), (.int (own_cnt p1 p0 p1 p2 p3 p4))])
    refine own_icmp_ne (pt := 298) (pf := 201) C at_198 (by decide) (by decide) rfl (fun q => absurd ((own_main hT1 hT2 hT3 hT4 hU4 hU3 hU2).2.2.2.2 _) q) (fun _ => ?_)
    refine own_lload (pc' := 203) C at_201 rfl rfl ?_
    refine own_lloadN (pc' := 204) C at_203 rfl rfl ?_
    refine own_lloadN (pc' := 205) C at_204 rfl rfl ?_
    refine own_lload (pc' := 207) C at_205 rfl rfl ?_
    refine own_lload (pc' := 209) C at_207 rfl rfl ?_
    refine own_lload (pc' := 211) C at_209 rfl rfl ?_
    refine own_callS (pc' := 214) (wL := 0) (argsL := [(.long p2), (.long p0), (.long p1), (.long p2), (.long p3), (.long p4)]) (rest := []) C (own_count l Z a0 hw p2 p0 p1 p2 p3 p4 h12 n0 Z_) at_211 (hw _ (List.mem_of_getElem? (i := 40) rfl)) (hw _ (List.mem_of_getElem? (i := 41) rfl)) (hw _ (List.mem_of_getElem? (i := 42) rfl)) (hw _ (List.mem_of_getElem? (i := 43) rfl)) (by decide) (by decide) (by decide) rfl (lenOf pd7 rfl) rfl rfl (Nat.le_of_eq rfl) (by decide) (by decide) rfl ?_
    rintro _ _ ⟨rfl, rfl⟩
    show Wp p l e _ s m _ below meth c n0 _ h12 ((((0 + 1) + 2) + 1) + 1) ((((0 + 2) + 4) + 4) + 8) (mkF m 214 #[.val (.long p0), .second, .val (.long p1), .second, .val (.long p2), .second, .val (.long p3), .second, .val (.long p4), .second, .val (.int p5), .val (.int (0 : Int32)), .val (.ref b1), .val (.long T4.1), .second, .val (.long U4.1), .second, .val (.long U3.1), .second, .val (.long U2.1), .second, .val (.long U2.2), .second, .val (.int (1 : Int32)), .unset] [(.int (own_cnt p2 p0 p1 p2 p3 p4))])
    refine own_lload (pc' := 216) C at_214 rfl rfl ?_
    refine own_lload (pc' := 218) C at_216 rfl rfl ?_
    refine own_lload (pc' := 220) C at_218 rfl rfl ?_
    refine own_lload (pc' := 222) C at_220 rfl rfl ?_
    refine own_lload (pc' := 224) C at_222 rfl rfl ?_
    refine own_lload (pc' := 226) C at_224 rfl rfl ?_
    refine own_callS (pc' := 229) (wL := 1) (argsL := [(.long p2), (.long T4.1), (.long U4.1), (.long U3.1), (.long U2.1), (.long U2.2)]) (rest := [(.int (own_cnt p2 p0 p1 p2 p3 p4))]) C (own_count l Z a0 hw p2 T4.1 U4.1 U3.1 U2.1 U2.2 h12 n0 Z_) at_226 (hw _ (List.mem_of_getElem? (i := 40) rfl)) (hw _ (List.mem_of_getElem? (i := 41) rfl)) (hw _ (List.mem_of_getElem? (i := 42) rfl)) (hw _ (List.mem_of_getElem? (i := 43) rfl)) (by decide) (by decide) (by decide) rfl (lenOf pd7 rfl) rfl rfl (Nat.le_of_eq rfl) (by decide) (by decide) rfl ?_
    rintro _ _ ⟨rfl, rfl⟩
    show Wp p l e _ s m _ below meth c n0 _ h12 ((((0 + 1) + 2) + 1) + 1) ((((0 + 2) + 4) + 4) + 8) (mkF m 229 #[.val (.long p0), .second, .val (.long p1), .second, .val (.long p2), .second, .val (.long p3), .second, .val (.long p4), .second, .val (.int p5), .val (.int (0 : Int32)), .val (.ref b1), .val (.long T4.1), .second, .val (.long U4.1), .second, .val (.long U3.1), .second, .val (.long U2.1), .second, .val (.long U2.2), .second, .val (.int (1 : Int32)), .unset] [(.int (own_cnt p2 T4.1 U4.1 U3.1 U2.1 U2.2)), (.int (own_cnt p2 p0 p1 p2 p3 p4))])
    refine own_icmp_ne (pt := 298) (pf := 232) C at_229 (by decide) (by decide) rfl (fun q => absurd ((own_main hT1 hT2 hT3 hT4 hU4 hU3 hU2).2.2.2.2 _) q) (fun _ => ?_)
    refine own_lload (pc' := 234) C at_232 rfl rfl ?_
    refine own_lloadN (pc' := 235) C at_234 rfl rfl ?_
    refine own_lloadN (pc' := 236) C at_235 rfl rfl ?_
    refine own_lload (pc' := 238) C at_236 rfl rfl ?_
    refine own_lload (pc' := 240) C at_238 rfl rfl ?_
    refine own_lload (pc' := 242) C at_240 rfl rfl ?_
    refine own_callS (pc' := 245) (wL := 0) (argsL := [(.long p3), (.long p0), (.long p1), (.long p2), (.long p3), (.long p4)]) (rest := []) C (own_count l Z a0 hw p3 p0 p1 p2 p3 p4 h12 n0 Z_) at_242 (hw _ (List.mem_of_getElem? (i := 40) rfl)) (hw _ (List.mem_of_getElem? (i := 41) rfl)) (hw _ (List.mem_of_getElem? (i := 42) rfl)) (hw _ (List.mem_of_getElem? (i := 43) rfl)) (by decide) (by decide) (by decide) rfl (lenOf pd7 rfl) rfl rfl (Nat.le_of_eq rfl) (by decide) (by decide) rfl ?_
    rintro _ _ ⟨rfl, rfl⟩
    show Wp p l e _ s m _ below meth c n0 _ h12 ((((0 + 1) + 2) + 1) + 1) ((((0 + 2) + 4) + 4) + 8) (mkF m 245 #[.val (.long p0), .second, .val (.long p1), .second, .val (.long p2), .second, .val (.long p3), .second, .val (.long p4), .second, .val (.int p5), .val (.int (0 : Int32)), .val (.ref b1), .val (.long T4.1), .second, .val (.long U4.1), .second, .val (.long U3.1), .second, .val (.long U2.1), .second, .val (.long U2.2), .second, .val (.int (1 : Int32)), .unset] [(.int (own_cnt p3 p0 p1 p2 p3 p4))])
    refine own_lload (pc' := 247) C at_245 rfl rfl ?_
    refine own_lload (pc' := 249) C at_247 rfl rfl ?_
    refine own_lload (pc' := 251) C at_249 rfl rfl ?_
    refine own_lload (pc' := 253) C at_251 rfl rfl ?_
    refine own_lload (pc' := 255) C at_253 rfl rfl ?_
    refine own_lload (pc' := 257) C at_255 rfl rfl ?_
    refine own_callS (pc' := 260) (wL := 1) (argsL := [(.long p3), (.long T4.1), (.long U4.1), (.long U3.1), (.long U2.1), (.long U2.2)]) (rest := [(.int (own_cnt p3 p0 p1 p2 p3 p4))]) C (own_count l Z a0 hw p3 T4.1 U4.1 U3.1 U2.1 U2.2 h12 n0 Z_) at_257 (hw _ (List.mem_of_getElem? (i := 40) rfl)) (hw _ (List.mem_of_getElem? (i := 41) rfl)) (hw _ (List.mem_of_getElem? (i := 42) rfl)) (hw _ (List.mem_of_getElem? (i := 43) rfl)) (by decide) (by decide) (by decide) rfl (lenOf pd7 rfl) rfl rfl (Nat.le_of_eq rfl) (by decide) (by decide) rfl ?_
    rintro _ _ ⟨rfl, rfl⟩
    show Wp p l e _ s m _ below meth c n0 _ h12 ((((0 + 1) + 2) + 1) + 1) ((((0 + 2) + 4) + 4) + 8) (mkF m 260 #[.val (.long p0), .second, .val (.long p1), .second, .val (.long p2), .second, .val (.long p3), .second, .val (.long p4), .second, .val (.int p5), .val (.int (0 : Int32)), .val (.ref b1), .val (.long T4.1), .second, .val (.long U4.1), .second, .val (.long U3.1), .second, .val (.long U2.1), .second, .val (.long U2.2), .second, .val (.int (1 : Int32)), .unset] [(.int (own_cnt p3 T4.1 U4.1 U3.1 U2.1 U2.2)), (.int (own_cnt p3 p0 p1 p2 p3 p4))])
    refine own_icmp_ne (pt := 298) (pf := 263) C at_260 (by decide) (by decide) rfl (fun q => absurd ((own_main hT1 hT2 hT3 hT4 hU4 hU3 hU2).2.2.2.2 _) q) (fun _ => ?_)
    refine own_lload (pc' := 265) C at_263 rfl rfl ?_
    refine own_lloadN (pc' := 266) C at_265 rfl rfl ?_
    refine own_lloadN (pc' := 267) C at_266 rfl rfl ?_
    refine own_lload (pc' := 269) C at_267 rfl rfl ?_
    refine own_lload (pc' := 271) C at_269 rfl rfl ?_
    refine own_lload (pc' := 273) C at_271 rfl rfl ?_
    refine own_callS (pc' := 276) (wL := 0) (argsL := [(.long p4), (.long p0), (.long p1), (.long p2), (.long p3), (.long p4)]) (rest := []) C (own_count l Z a0 hw p4 p0 p1 p2 p3 p4 h12 n0 Z_) at_273 (hw _ (List.mem_of_getElem? (i := 40) rfl)) (hw _ (List.mem_of_getElem? (i := 41) rfl)) (hw _ (List.mem_of_getElem? (i := 42) rfl)) (hw _ (List.mem_of_getElem? (i := 43) rfl)) (by decide) (by decide) (by decide) rfl (lenOf pd7 rfl) rfl rfl (Nat.le_of_eq rfl) (by decide) (by decide) rfl ?_
    rintro _ _ ⟨rfl, rfl⟩
    show Wp p l e _ s m _ below meth c n0 _ h12 ((((0 + 1) + 2) + 1) + 1) ((((0 + 2) + 4) + 4) + 8) (mkF m 276 #[.val (.long p0), .second, .val (.long p1), .second, .val (.long p2), .second, .val (.long p3), .second, .val (.long p4), .second, .val (.int p5), .val (.int (0 : Int32)), .val (.ref b1), .val (.long T4.1), .second, .val (.long U4.1), .second, .val (.long U3.1), .second, .val (.long U2.1), .second, .val (.long U2.2), .second, .val (.int (1 : Int32)), .unset] [(.int (own_cnt p4 p0 p1 p2 p3 p4))])
    refine own_lload (pc' := 278) C at_276 rfl rfl ?_
    refine own_lload (pc' := 280) C at_278 rfl rfl ?_
    refine own_lload (pc' := 282) C at_280 rfl rfl ?_
    refine own_lload (pc' := 284) C at_282 rfl rfl ?_
    refine own_lload (pc' := 286) C at_284 rfl rfl ?_
    refine own_lload (pc' := 288) C at_286 rfl rfl ?_
    refine own_callS (pc' := 291) (wL := 1) (argsL := [(.long p4), (.long T4.1), (.long U4.1), (.long U3.1), (.long U2.1), (.long U2.2)]) (rest := [(.int (own_cnt p4 p0 p1 p2 p3 p4))]) C (own_count l Z a0 hw p4 T4.1 U4.1 U3.1 U2.1 U2.2 h12 n0 Z_) at_288 (hw _ (List.mem_of_getElem? (i := 40) rfl)) (hw _ (List.mem_of_getElem? (i := 41) rfl)) (hw _ (List.mem_of_getElem? (i := 42) rfl)) (hw _ (List.mem_of_getElem? (i := 43) rfl)) (by decide) (by decide) (by decide) rfl (lenOf pd7 rfl) rfl rfl (Nat.le_of_eq rfl) (by decide) (by decide) rfl ?_
    rintro _ _ ⟨rfl, rfl⟩
    show Wp p l e _ s m _ below meth c n0 _ h12 ((((0 + 1) + 2) + 1) + 1) ((((0 + 2) + 4) + 4) + 8) (mkF m 291 #[.val (.long p0), .second, .val (.long p1), .second, .val (.long p2), .second, .val (.long p3), .second, .val (.long p4), .second, .val (.int p5), .val (.int (0 : Int32)), .val (.ref b1), .val (.long T4.1), .second, .val (.long U4.1), .second, .val (.long U3.1), .second, .val (.long U2.1), .second, .val (.long U2.2), .second, .val (.int (1 : Int32)), .unset] [(.int (own_cnt p4 T4.1 U4.1 U3.1 U2.1 U2.2)), (.int (own_cnt p4 p0 p1 p2 p3 p4))])
    refine own_icmp_ne (pt := 298) (pf := 294) C at_291 (by decide) (by decide) rfl (fun q => absurd ((own_main hT1 hT2 hT3 hT4 hU4 hU3 hU2).2.2.2.2 _) q) (fun _ => ?_)
    refine own_iconst (pc' := 295) (v := (1 : Int32)) C at_294 own_ki_1 rfl ?_
    refine own_goto (pc' := 299) C at_295 (by decide) (by decide) ?_
    refine own_istore (pc' := 301) (y := (1 : Int32)) (Ls' := #[.val (.long p0), .second, .val (.long p1), .second, .val (.long p2), .second, .val (.long p3), .second, .val (.long p4), .second, .val (.int p5), .val (.int (0 : Int32)), .val (.ref b1), .val (.long T4.1), .second, .val (.long U4.1), .second, .val (.long U3.1), .second, .val (.long U2.1), .second, .val (.long U2.2), .second, .val (.int (1 : Int32)), .val (.int (1 : Int32))]) C at_299 rfl rfl rfl ?_
    refine own_iload (pc' := 303) C at_301 rfl rfl ?_
    refine own_if_eq (pt := 315) (pf := 306) C at_303 (by decide) (by decide) rfl (fun q => absurd q (by decide)) (fun _ => ?_)
    refine own_iload (pc' := 308) C at_306 rfl rfl ?_
    refine own_if_eq (pt := 315) (pf := 311) C at_308 (by decide) (by decide) rfl (fun q => absurd q (by decide)) (fun _ => ?_)
    refine own_iconst (pc' := 312) (v := (1 : Int32)) C at_311 own_ki_1 rfl ?_
    refine own_goto (pc' := 316) C at_312 (by decide) (by decide) ?_
    refine own_zret C at_316 (by decide) (by decide) (Or.inr rfl) ?_
    exact rfl
  · subst q
    refine own_new (pc' := 9) C at_6 (hw _ (List.mem_of_getElem? (i := 0) rfl)) (hw _ (List.mem_of_getElem? (i := 1) rfl)) (hw _ (List.mem_of_getElem? (i := 2) rfl)) (by decide) (by decide) rfl ?_
    intro h1 b1 g1 X1 E_b1 D1
    have g_b1 : n0 ≤ b1 := g1 ▸ Z_
    replace Z_ := Nat.le_trans Z_ X1.1
    have F_b1_heaps : Fld Z h1 b1 "com/example/precedence/precedence/LongHeaps" "heaps" "[[J" .null := D1 (Or.inr (hw _ (List.mem_of_getElem? (i := 12) rfl))) (ty := (.array (.array .long))) (by decide)
    have F_b1_sizes : Fld Z h1 b1 "com/example/precedence/precedence/LongHeaps" "sizes" "[I" .null := D1 (Or.inr (hw _ (List.mem_of_getElem? (i := 15) rfl))) (ty := (.array .int)) (by decide)
    refine own_dup (pc' := 10) C at_9 rfl rfl ?_
    refine own_iconst (pc' := 11) (v := (2 : Int32)) C at_10 own_ki_2 rfl ?_
    refine own_callI (pc' := 14) (wL := 1) (a := b1) (argsL := [(.int (2 : Int32))]) (rest := [(.ref b1)]) C (own_newH l Z a0 hw b1 h1 n0 Z_ E_b1 F_b1_heaps F_b1_sizes g_b1) at_11 (hw _ (List.mem_of_getElem? (i := 3) rfl)) (hw _ (List.mem_of_getElem? (i := 4) rfl)) (hw _ (List.mem_of_getElem? (i := 2) rfl)) (hw _ (List.mem_of_getElem? (i := 5) rfl)) (by decide) (by decide) (by decide) rfl (lenOf pd1 rfl) rfl rfl (Nat.le_of_eq rfl) (by decide) (by decide) rfl ?_
    rintro _ h2 ⟨rfl, K2, hp_2, sx_2, szh2, szs2, nehs2, F2_heaps, F2_sizes, A2_h, A2_s⟩
    have ne_b1_hp_2 : b1 ≠ hp_2 := Nat.ne_of_lt (Nat.lt_of_lt_of_le E_b1.lt szh2)
    have g_hp_2 : n0 ≤ hp_2 := Nat.le_trans Z_ szh2
    have ne_b1_sx_2 : b1 ≠ sx_2 := Nat.ne_of_lt (Nat.lt_of_lt_of_le E_b1.lt szs2)
    have g_sx_2 : n0 ≤ sx_2 := Nat.le_trans Z_ szs2
    replace E_b1 := E_b1.keep K2
    replace Z_ := Nat.le_trans Z_ K2.1
    replace F_b1_heaps := F2_heaps
    replace F_b1_sizes := F2_sizes
    show Wp p l e _ s m _ below meth c n0 _ h2 ((0 + 1) + 2) ((0 + 2) + 4) (mkF m 14 #[.val (.long p0), .second, .val (.long p1), .second, .val (.long p2), .second, .val (.long p3), .second, .val (.long p4), .second, .val (.int p5), .val (.int (1 : Int32)), .unset, .unset, .unset, .unset, .unset, .unset, .unset, .unset, .unset, .unset, .unset, .unset, .unset] [(.ref b1)])
    refine own_astore (pc' := 16) (Ls' := #[.val (.long p0), .second, .val (.long p1), .second, .val (.long p2), .second, .val (.long p3), .second, .val (.long p4), .second, .val (.int p5), .val (.int (1 : Int32)), .val (.ref b1), .unset, .unset, .unset, .unset, .unset, .unset, .unset, .unset, .unset, .unset, .unset, .unset]) C at_14 rfl rfl rfl ?_
    refine own_aload (pc' := 18) C at_16 rfl rfl rfl ?_
    refine own_iload (pc' := 20) C at_18 rfl rfl ?_
    refine own_lloadN (pc' := 21) C at_20 rfl rfl ?_
    refine own_callV (pc' := 24) (wL := 0) (a := b1) (argsL := [(.int (1 : Int32)), (.long p0)]) (rest := []) C (own_add1_0 l Z a0 hw b1 p0 hp_2 sx_2 h2 n0 Z_ E_b1 F_b1_heaps F_b1_sizes g_b1 A2_h A2_s g_hp_2 g_sx_2 ne_b1_hp_2 ne_b1_sx_2 nehs2) E_b1 at_21 (hw _ (List.mem_of_getElem? (i := 16) rfl)) (hw _ (List.mem_of_getElem? (i := 17) rfl)) (hw _ (List.mem_of_getElem? (i := 19) rfl)) (hw _ (List.mem_of_getElem? (i := 18) rfl)) (hw _ (List.mem_of_getElem? (i := 2) rfl)) (hw _ (List.mem_of_getElem? (i := 20) rfl)) (by decide) (by decide) (by decide) rfl (lenOf pd3 rfl) rfl rfl (Nat.le_of_eq rfl) (by decide) (by decide) rfl ?_
    rintro _ h3 ⟨rfl, K3, gg_3, szg3, H3_, S3_, E_gg_3, A_gg_3⟩
    have ne_b1_gg_3 : b1 ≠ gg_3 := Nat.ne_of_lt (Nat.lt_of_lt_of_le E_b1.lt szg3)
    have ne_hp_2_gg_3 : hp_2 ≠ gg_3 := Nat.ne_of_lt (Nat.lt_of_lt_of_le A2_h.lt szg3)
    have ne_sx_2_gg_3 : sx_2 ≠ gg_3 := Nat.ne_of_lt (Nat.lt_of_lt_of_le A2_s.lt szg3)
    have g_gg_3 : n0 ≤ gg_3 := Nat.le_trans Z_ szg3
    replace E_b1 := E_b1.keep K3
    replace F_b1_heaps := F_b1_heaps.keep K3 (ninS ne_b1_hp_2 (ninS ne_b1_sx_2 nin0))
    replace F_b1_sizes := F_b1_sizes.keep K3 (ninS ne_b1_hp_2 (ninS ne_b1_sx_2 nin0))
    replace Z_ := Nat.le_trans Z_ K3.1
    replace A2_s := S3_
    replace A2_h := H3_
    show Wp p l e _ s m _ below meth c n0 _ h3 (((0 + 1) + 2) + 1) (((0 + 2) + 4) + 4) (mkF m 24 #[.val (.long p0), .second, .val (.long p1), .second, .val (.long p2), .second, .val (.long p3), .second, .val (.long p4), .second, .val (.int p5), .val (.int (1 : Int32)), .val (.ref b1), .unset, .unset, .unset, .unset, .unset, .unset, .unset, .unset, .unset, .unset, .unset, .unset] [])
    refine own_aload (pc' := 26) C at_24 rfl rfl rfl ?_
    refine own_iload (pc' := 28) C at_26 rfl rfl ?_
    refine own_lloadN (pc' := 29) C at_28 rfl rfl ?_
    refine own_callV (pc' := 32) (wL := 0) (a := b1) (argsL := [(.int (1 : Int32)), (.long p1)]) (rest := []) C (own_add1_1 l Z a0 hw b1 p1 hp_2 sx_2 gg_3 p0 (0 : Int64) (0 : Int64) (0 : Int64) h3 n0 Z_ E_b1 F_b1_heaps F_b1_sizes g_b1 A2_h A2_s g_hp_2 g_sx_2 ne_b1_hp_2 ne_b1_sx_2 nehs2 A_gg_3 E_gg_3 g_gg_3 ne_b1_gg_3 ne_hp_2_gg_3 ne_sx_2_gg_3) E_b1 at_29 (hw _ (List.mem_of_getElem? (i := 16) rfl)) (hw _ (List.mem_of_getElem? (i := 17) rfl)) (hw _ (List.mem_of_getElem? (i := 19) rfl)) (hw _ (List.mem_of_getElem? (i := 18) rfl)) (hw _ (List.mem_of_getElem? (i := 2) rfl)) (hw _ (List.mem_of_getElem? (i := 20) rfl)) (by decide) (by decide) (by decide) rfl (lenOf pd3 rfl) rfl rfl (Nat.le_of_eq rfl) (by decide) (by decide) rfl ?_
    rintro _ h4 ⟨rfl, K4, S4_, G4_⟩
    replace E_b1 := E_b1.keep K4
    replace F_b1_heaps := F_b1_heaps.keep K4 (ninS ne_b1_sx_2 (ninS ne_b1_gg_3 nin0))
    replace F_b1_sizes := F_b1_sizes.keep K4 (ninS ne_b1_sx_2 (ninS ne_b1_gg_3 nin0))
    replace A2_h := A2_h.keep K4 (ninS nehs2 (ninS ne_hp_2_gg_3 nin0))
    replace E_gg_3 := E_gg_3.keep K4
    replace Z_ := Nat.le_trans Z_ K4.1
    replace A2_s := S4_
    replace A_gg_3 := G4_
    obtain ⟨T1, hT1⟩ : ∃ z, z = own_p1 own_lt p0 p1 := ⟨_, rfl⟩
    rw [← hT1] at A_gg_3
    show Wp p l e _ s m _ below meth c n0 _ h4 (((0 + 1) + 2) + 1) (((0 + 2) + 4) + 4) (mkF m 32 #[.val (.long p0), .second, .val (.long p1), .second, .val (.long p2), .second, .val (.long p3), .second, .val (.long p4), .second, .val (.int p5), .val (.int (1 : Int32)), .val (.ref b1), .unset, .unset, .unset, .unset, .unset, .unset, .unset, .unset, .unset, .unset, .unset, .unset] [])
    refine own_aload (pc' := 34) C at_32 rfl rfl rfl ?_
    refine own_iload (pc' := 36) C at_34 rfl rfl ?_
    refine own_lload (pc' := 38) C at_36 rfl rfl ?_
    refine own_callV (pc' := 41) (wL := 0) (a := b1) (argsL := [(.int (1 : Int32)), (.long p2)]) (rest := []) C (own_add1_2 l Z a0 hw b1 p2 hp_2 sx_2 gg_3 T1.1 T1.2 (0 : Int64) (0 : Int64) h4 n0 Z_ E_b1 F_b1_heaps F_b1_sizes g_b1 A2_h A2_s g_hp_2 g_sx_2 ne_b1_hp_2 ne_b1_sx_2 nehs2 A_gg_3 E_gg_3 g_gg_3 ne_b1_gg_3 ne_hp_2_gg_3 ne_sx_2_gg_3) E_b1 at_38 (hw _ (List.mem_of_getElem? (i := 16) rfl)) (hw _ (List.mem_of_getElem? (i := 17) rfl)) (hw _ (List.mem_of_getElem? (i := 19) rfl)) (hw _ (List.mem_of_getElem? (i := 18) rfl)) (hw _ (List.mem_of_getElem? (i := 2) rfl)) (hw _ (List.mem_of_getElem? (i := 20) rfl)) (by decide) (by decide) (by decide) rfl (lenOf pd3 rfl) rfl rfl (Nat.le_of_eq rfl) (by decide) (by decide) rfl ?_
    rintro _ h5 ⟨rfl, K5, S5_, G5_⟩
    replace E_b1 := E_b1.keep K5
    replace F_b1_heaps := F_b1_heaps.keep K5 (ninS ne_b1_sx_2 (ninS ne_b1_gg_3 nin0))
    replace F_b1_sizes := F_b1_sizes.keep K5 (ninS ne_b1_sx_2 (ninS ne_b1_gg_3 nin0))
    replace A2_h := A2_h.keep K5 (ninS nehs2 (ninS ne_hp_2_gg_3 nin0))
    replace E_gg_3 := E_gg_3.keep K5
    replace Z_ := Nat.le_trans Z_ K5.1
    replace A2_s := S5_
    replace A_gg_3 := G5_
    obtain ⟨T2, hT2⟩ : ∃ z, z = own_p2 own_lt T1.1 T1.2 p2 := ⟨_, rfl⟩
    rw [← hT2] at A_gg_3
    show Wp p l e _ s m _ below meth c n0 _ h5 (((0 + 1) + 2) + 1) (((0 + 2) + 4) + 4) (mkF m 41 #[.val (.long p0), .second, .val (.long p1), .second, .val (.long p2), .second, .val (.long p3), .second, .val (.long p4), .second, .val (.int p5), .val (.int (1 : Int32)), .val (.ref b1), .unset, .unset, .unset, .unset, .unset, .unset, .unset, .unset, .unset, .unset, .unset, .unset] [])
    refine own_aload (pc' := 43) C at_41 rfl rfl rfl ?_
    refine own_iload (pc' := 45) C at_43 rfl rfl ?_
    refine own_lload (pc' := 47) C at_45 rfl rfl ?_
    refine own_callV (pc' := 50) (wL := 0) (a := b1) (argsL := [(.int (1 : Int32)), (.long p3)]) (rest := []) C (own_add1_3 l Z a0 hw b1 p3 hp_2 sx_2 gg_3 T2.1 T2.2.1 T2.2.2 (0 : Int64) h5 n0 Z_ E_b1 F_b1_heaps F_b1_sizes g_b1 A2_h A2_s g_hp_2 g_sx_2 ne_b1_hp_2 ne_b1_sx_2 nehs2 A_gg_3 E_gg_3 g_gg_3 ne_b1_gg_3 ne_hp_2_gg_3 ne_sx_2_gg_3) E_b1 at_47 (hw _ (List.mem_of_getElem? (i := 16) rfl)) (hw _ (List.mem_of_getElem? (i := 17) rfl)) (hw _ (List.mem_of_getElem? (i := 19) rfl)) (hw _ (List.mem_of_getElem? (i := 18) rfl)) (hw _ (List.mem_of_getElem? (i := 2) rfl)) (hw _ (List.mem_of_getElem? (i := 20) rfl)) (by decide) (by decide) (by decide) rfl (lenOf pd3 rfl) rfl rfl (Nat.le_of_eq rfl) (by decide) (by decide) rfl ?_
    rintro _ h6 ⟨rfl, K6, S6_, G6_⟩
    replace E_b1 := E_b1.keep K6
    replace F_b1_heaps := F_b1_heaps.keep K6 (ninS ne_b1_sx_2 (ninS ne_b1_gg_3 nin0))
    replace F_b1_sizes := F_b1_sizes.keep K6 (ninS ne_b1_sx_2 (ninS ne_b1_gg_3 nin0))
    replace A2_h := A2_h.keep K6 (ninS nehs2 (ninS ne_hp_2_gg_3 nin0))
    replace E_gg_3 := E_gg_3.keep K6
    replace Z_ := Nat.le_trans Z_ K6.1
    replace A2_s := S6_
    replace A_gg_3 := G6_
    obtain ⟨T3, hT3⟩ : ∃ z, z = own_p3 own_lt T2.1 T2.2.1 T2.2.2 p3 := ⟨_, rfl⟩
    rw [← hT3] at A_gg_3
    show Wp p l e _ s m _ below meth c n0 _ h6 (((0 + 1) + 2) + 1) (((0 + 2) + 4) + 4) (mkF m 50 #[.val (.long p0), .second, .val (.long p1), .second, .val (.long p2), .second, .val (.long p3), .second, .val (.long p4), .second, .val (.int p5), .val (.int (1 : Int32)), .val (.ref b1), .unset, .unset, .unset, .unset, .unset, .unset, .unset, .unset, .unset, .unset, .unset, .unset] [])
    refine own_aload (pc' := 52) C at_50 rfl rfl rfl ?_
    refine own_iload (pc' := 54) C at_52 rfl rfl ?_
    refine own_lload (pc' := 56) C at_54 rfl rfl ?_
    refine own_callV (pc' := 59) (wL := 0) (a := b1) (argsL := [(.int (1 : Int32)), (.long p4)]) (rest := []) C (own_add1_4 l Z a0 hw b1 p4 hp_2 sx_2 gg_3 T3.1 T3.2.1 T3.2.2.1 T3.2.2.2 h6 n0 Z_ E_b1 F_b1_heaps F_b1_sizes g_b1 A2_h A2_s g_hp_2 g_sx_2 ne_b1_hp_2 ne_b1_sx_2 nehs2 A_gg_3 E_gg_3 g_gg_3 ne_b1_gg_3 ne_hp_2_gg_3 ne_sx_2_gg_3) E_b1 at_56 (hw _ (List.mem_of_getElem? (i := 16) rfl)) (hw _ (List.mem_of_getElem? (i := 17) rfl)) (hw _ (List.mem_of_getElem? (i := 19) rfl)) (hw _ (List.mem_of_getElem? (i := 18) rfl)) (hw _ (List.mem_of_getElem? (i := 2) rfl)) (hw _ (List.mem_of_getElem? (i := 20) rfl)) (by decide) (by decide) (by decide) rfl (lenOf pd3 rfl) rfl rfl (Nat.le_of_eq rfl) (by decide) (by decide) rfl ?_
    rintro _ h7 ⟨rfl, K7, gg_7, szg7, H7_, S7_, E_gg_7, A_gg_7⟩
    have ne_b1_gg_7 : b1 ≠ gg_7 := Nat.ne_of_lt (Nat.lt_of_lt_of_le E_b1.lt szg7)
    have ne_hp_2_gg_7 : hp_2 ≠ gg_7 := Nat.ne_of_lt (Nat.lt_of_lt_of_le A2_h.lt szg7)
    have ne_sx_2_gg_7 : sx_2 ≠ gg_7 := Nat.ne_of_lt (Nat.lt_of_lt_of_le A2_s.lt szg7)
    have g_gg_7 : n0 ≤ gg_7 := Nat.le_trans Z_ szg7
    replace E_b1 := E_b1.keep K7
    replace F_b1_heaps := F_b1_heaps.keep K7 (ninS ne_b1_hp_2 (ninS ne_b1_sx_2 nin0))
    replace F_b1_sizes := F_b1_sizes.keep K7 (ninS ne_b1_hp_2 (ninS ne_b1_sx_2 nin0))
    replace Z_ := Nat.le_trans Z_ K7.1
    replace A2_s := S7_
    replace A2_h := H7_
    obtain ⟨T4, hT4⟩ : ∃ z, z = own_p4 own_lt T3.1 T3.2.1 T3.2.2.1 T3.2.2.2 p4 := ⟨_, rfl⟩
    rw [← hT4] at A_gg_7
    show Wp p l e _ s m _ below meth c n0 _ h7 ((((0 + 1) + 2) + 1) + 1) ((((0 + 2) + 4) + 4) + 8) (mkF m 59 #[.val (.long p0), .second, .val (.long p1), .second, .val (.long p2), .second, .val (.long p3), .second, .val (.long p4), .second, .val (.int p5), .val (.int (1 : Int32)), .val (.ref b1), .unset, .unset, .unset, .unset, .unset, .unset, .unset, .unset, .unset, .unset, .unset, .unset] [])
    refine own_aload (pc' := 61) C at_59 rfl rfl rfl ?_
    refine own_iload (pc' := 63) C at_61 rfl rfl ?_
    refine own_callV (pc' := 66) (wL := 0) (a := b1) (argsL := [(.int (1 : Int32))]) (rest := []) C (own_poll1_4 l Z a0 hw b1 hp_2 sx_2 gg_7 T4.1 T4.2.1 T4.2.2.1 T4.2.2.2.1 T4.2.2.2.2 (0 : Int64) (0 : Int64) (0 : Int64) h7 n0 Z_ E_b1 F_b1_heaps F_b1_sizes g_b1 A2_h A2_s g_hp_2 g_sx_2 ne_b1_hp_2 ne_b1_sx_2 nehs2 A_gg_7 E_gg_7 g_gg_7 ne_b1_gg_7 ne_hp_2_gg_7 ne_sx_2_gg_7) E_b1 at_63 (hw _ (List.mem_of_getElem? (i := 35) rfl)) (hw _ (List.mem_of_getElem? (i := 36) rfl)) (hw _ (List.mem_of_getElem? (i := 38) rfl)) (hw _ (List.mem_of_getElem? (i := 37) rfl)) (hw _ (List.mem_of_getElem? (i := 2) rfl)) (hw _ (List.mem_of_getElem? (i := 39) rfl)) (by decide) (by decide) (by decide) rfl (lenOf pd6 rfl) rfl rfl (Nat.le_of_eq rfl) (by decide) (by decide) rfl ?_
    rintro _ h8 ⟨rfl, K8, S8_, G8_⟩
    replace E_b1 := E_b1.keep K8
    replace F_b1_heaps := F_b1_heaps.keep K8 (ninS ne_b1_sx_2 (ninS ne_b1_gg_7 nin0))
    replace F_b1_sizes := F_b1_sizes.keep K8 (ninS ne_b1_sx_2 (ninS ne_b1_gg_7 nin0))
    replace A2_h := A2_h.keep K8 (ninS nehs2 (ninS ne_hp_2_gg_7 nin0))
    replace E_gg_7 := E_gg_7.keep K8
    replace Z_ := Nat.le_trans Z_ K8.1
    replace A2_s := S8_
    replace A_gg_7 := G8_
    obtain ⟨U4, hU4⟩ : ∃ z, z = own_q4 own_lt T4.1 T4.2.1 T4.2.2.1 T4.2.2.2.1 T4.2.2.2.2 := ⟨_, rfl⟩
    rw [← hU4] at A_gg_7
    show Wp p l e _ s m _ below meth c n0 _ h8 ((((0 + 1) + 2) + 1) + 1) ((((0 + 2) + 4) + 4) + 8) (mkF m 66 #[.val (.long p0), .second, .val (.long p1), .second, .val (.long p2), .second, .val (.long p3), .second, .val (.long p4), .second, .val (.int p5), .val (.int (1 : Int32)), .val (.ref b1), .unset, .unset, .unset, .unset, .unset, .unset, .unset, .unset, .unset, .unset, .unset, .unset] [(.long T4.1)])
    refine own_lstore (pc' := 68) (y := T4.1) (Ls' := #[.val (.long p0), .second, .val (.long p1), .second, .val (.long p2), .second, .val (.long p3), .second, .val (.long p4), .second, .val (.int p5), .val (.int (1 : Int32)), .val (.ref b1), .val (.long T4.1), .second, .unset, .unset, .unset, .unset, .unset, .unset, .unset, .unset, .unset, .unset]) C at_66 rfl rfl rfl ?_
    refine own_aload (pc' := 70) C at_68 rfl rfl rfl ?_
    refine own_iload (pc' := 72) C at_70 rfl rfl ?_
    refine own_callV (pc' := 75) (wL := 0) (a := b1) (argsL := [(.int (1 : Int32))]) (rest := []) C (own_poll1_3 l Z a0 hw b1 hp_2 sx_2 gg_7 U4.1 U4.2.1 U4.2.2.1 U4.2.2.2 T4.2.2.2.2 (0 : Int64) (0 : Int64) (0 : Int64) h8 n0 Z_ E_b1 F_b1_heaps F_b1_sizes g_b1 A2_h A2_s g_hp_2 g_sx_2 ne_b1_hp_2 ne_b1_sx_2 nehs2 A_gg_7 E_gg_7 g_gg_7 ne_b1_gg_7 ne_hp_2_gg_7 ne_sx_2_gg_7) E_b1 at_72 (hw _ (List.mem_of_getElem? (i := 35) rfl)) (hw _ (List.mem_of_getElem? (i := 36) rfl)) (hw _ (List.mem_of_getElem? (i := 38) rfl)) (hw _ (List.mem_of_getElem? (i := 37) rfl)) (hw _ (List.mem_of_getElem? (i := 2) rfl)) (hw _ (List.mem_of_getElem? (i := 39) rfl)) (by decide) (by decide) (by decide) rfl (lenOf pd6 rfl) rfl rfl (Nat.le_of_eq rfl) (by decide) (by decide) rfl ?_
    rintro _ h9 ⟨rfl, K9, S9_, G9_⟩
    replace E_b1 := E_b1.keep K9
    replace F_b1_heaps := F_b1_heaps.keep K9 (ninS ne_b1_sx_2 (ninS ne_b1_gg_7 nin0))
    replace F_b1_sizes := F_b1_sizes.keep K9 (ninS ne_b1_sx_2 (ninS ne_b1_gg_7 nin0))
    replace A2_h := A2_h.keep K9 (ninS nehs2 (ninS ne_hp_2_gg_7 nin0))
    replace E_gg_7 := E_gg_7.keep K9
    replace Z_ := Nat.le_trans Z_ K9.1
    replace A2_s := S9_
    replace A_gg_7 := G9_
    obtain ⟨U3, hU3⟩ : ∃ z, z = own_q3 own_lt U4.1 U4.2.1 U4.2.2.1 U4.2.2.2 := ⟨_, rfl⟩
    rw [← hU3] at A_gg_7
    show Wp p l e _ s m _ below meth c n0 _ h9 ((((0 + 1) + 2) + 1) + 1) ((((0 + 2) + 4) + 4) + 8) (mkF m 75 #[.val (.long p0), .second, .val (.long p1), .second, .val (.long p2), .second, .val (.long p3), .second, .val (.long p4), .second, .val (.int p5), .val (.int (1 : Int32)), .val (.ref b1), .val (.long T4.1), .second, .unset, .unset, .unset, .unset, .unset, .unset, .unset, .unset, .unset, .unset] [(.long U4.1)])
    refine own_lstore (pc' := 77) (y := U4.1) (Ls' := #[.val (.long p0), .second, .val (.long p1), .second, .val (.long p2), .second, .val (.long p3), .second, .val (.long p4), .second, .val (.int p5), .val (.int (1 : Int32)), .val (.ref b1), .val (.long T4.1), .second, .val (.long U4.1), .second, .unset, .unset, .unset, .unset, .unset, .unset, .unset, .unset]) C at_75 rfl rfl rfl ?_
    refine own_aload (pc' := 79) C at_77 rfl rfl rfl ?_
    refine own_iload (pc' := 81) C at_79 rfl rfl ?_
    refine own_callV (pc' := 84) (wL := 0) (a := b1) (argsL := [(.int (1 : Int32))]) (rest := []) C (own_poll1_2 l Z a0 hw b1 hp_2 sx_2 gg_7 U3.1 U3.2.1 U3.2.2 U4.2.2.2 T4.2.2.2.2 (0 : Int64) (0 : Int64) (0 : Int64) h9 n0 Z_ E_b1 F_b1_heaps F_b1_sizes g_b1 A2_h A2_s g_hp_2 g_sx_2 ne_b1_hp_2 ne_b1_sx_2 nehs2 A_gg_7 E_gg_7 g_gg_7 ne_b1_gg_7 ne_hp_2_gg_7 ne_sx_2_gg_7) E_b1 at_81 (hw _ (List.mem_of_getElem? (i := 35) rfl)) (hw _ (List.mem_of_getElem? (i := 36) rfl)) (hw _ (List.mem_of_getElem? (i := 38) rfl)) (hw _ (List.mem_of_getElem? (i := 37) rfl)) (hw _ (List.mem_of_getElem? (i := 2) rfl)) (hw _ (List.mem_of_getElem? (i := 39) rfl)) (by decide) (by decide) (by decide) rfl (lenOf pd6 rfl) rfl rfl (Nat.le_of_eq rfl) (by decide) (by decide) rfl ?_
    rintro _ h10 ⟨rfl, K10, S10_, G10_⟩
    replace E_b1 := E_b1.keep K10
    replace F_b1_heaps := F_b1_heaps.keep K10 (ninS ne_b1_sx_2 (ninS ne_b1_gg_7 nin0))
    replace F_b1_sizes := F_b1_sizes.keep K10 (ninS ne_b1_sx_2 (ninS ne_b1_gg_7 nin0))
    replace A2_h := A2_h.keep K10 (ninS nehs2 (ninS ne_hp_2_gg_7 nin0))
    replace E_gg_7 := E_gg_7.keep K10
    replace Z_ := Nat.le_trans Z_ K10.1
    replace A2_s := S10_
    replace A_gg_7 := G10_
    obtain ⟨U2, hU2⟩ : ∃ z, z = own_q2 own_lt U3.1 U3.2.1 U3.2.2 := ⟨_, rfl⟩
    rw [← hU2] at A_gg_7
    show Wp p l e _ s m _ below meth c n0 _ h10 ((((0 + 1) + 2) + 1) + 1) ((((0 + 2) + 4) + 4) + 8) (mkF m 84 #[.val (.long p0), .second, .val (.long p1), .second, .val (.long p2), .second, .val (.long p3), .second, .val (.long p4), .second, .val (.int p5), .val (.int (1 : Int32)), .val (.ref b1), .val (.long T4.1), .second, .val (.long U4.1), .second, .unset, .unset, .unset, .unset, .unset, .unset, .unset, .unset] [(.long U3.1)])
    refine own_lstore (pc' := 86) (y := U3.1) (Ls' := #[.val (.long p0), .second, .val (.long p1), .second, .val (.long p2), .second, .val (.long p3), .second, .val (.long p4), .second, .val (.int p5), .val (.int (1 : Int32)), .val (.ref b1), .val (.long T4.1), .second, .val (.long U4.1), .second, .val (.long U3.1), .second, .unset, .unset, .unset, .unset, .unset, .unset]) C at_84 rfl rfl rfl ?_
    refine own_aload (pc' := 88) C at_86 rfl rfl rfl ?_
    refine own_iload (pc' := 90) C at_88 rfl rfl ?_
    refine own_callV (pc' := 93) (wL := 0) (a := b1) (argsL := [(.int (1 : Int32))]) (rest := []) C (own_poll1_1 l Z a0 hw b1 hp_2 sx_2 gg_7 U2.1 U2.2 U3.2.2 U4.2.2.2 T4.2.2.2.2 (0 : Int64) (0 : Int64) (0 : Int64) h10 n0 Z_ E_b1 F_b1_heaps F_b1_sizes g_b1 A2_h A2_s g_hp_2 g_sx_2 ne_b1_hp_2 ne_b1_sx_2 nehs2 A_gg_7 E_gg_7 g_gg_7 ne_b1_gg_7 ne_hp_2_gg_7 ne_sx_2_gg_7) E_b1 at_90 (hw _ (List.mem_of_getElem? (i := 35) rfl)) (hw _ (List.mem_of_getElem? (i := 36) rfl)) (hw _ (List.mem_of_getElem? (i := 38) rfl)) (hw _ (List.mem_of_getElem? (i := 37) rfl)) (hw _ (List.mem_of_getElem? (i := 2) rfl)) (hw _ (List.mem_of_getElem? (i := 39) rfl)) (by decide) (by decide) (by decide) rfl (lenOf pd6 rfl) rfl rfl (Nat.le_of_eq rfl) (by decide) (by decide) rfl ?_
    rintro _ h11 ⟨rfl, K11, S11_, G11_⟩
    replace E_b1 := E_b1.keep K11
    replace F_b1_heaps := F_b1_heaps.keep K11 (ninS ne_b1_sx_2 (ninS ne_b1_gg_7 nin0))
    replace F_b1_sizes := F_b1_sizes.keep K11 (ninS ne_b1_sx_2 (ninS ne_b1_gg_7 nin0))
    replace A2_h := A2_h.keep K11 (ninS nehs2 (ninS ne_hp_2_gg_7 nin0))
    replace E_gg_7 := E_gg_7.keep K11
    replace Z_ := Nat.le_trans Z_ K11.1
    replace A2_s := S11_
    replace A_gg_7 := G11_
    show Wp p l e _ s m _ below meth c n0 _ h11 ((((0 + 1) + 2) + 1) + 1) ((((0 + 2) + 4) + 4) + 8) (mkF m 93 #[.val (.long p0), .second, .val (.long p1), .second, .val (.long p2), .second, .val (.long p3), .second, .val (.long p4), .second, .val (.int p5), .val (.int (1 : Int32)), .val (.ref b1), .val (.long T4.1), .second, .val (.long U4.1), .second, .val (.long U3.1), .second, .unset, .unset, .unset, .unset, .unset, .unset] [(.long U2.1)])
    refine own_lstore (pc' := 95) (y := U2.1) (Ls' := #[.val (.long p0), .second, .val (.long p1), .second, .val (.long p2), .second, .val (.long p3), .second, .val (.long p4), .second, .val (.int p5), .val (.int (1 : Int32)), .val (.ref b1), .val (.long T4.1), .second, .val (.long U4.1), .second, .val (.long U3.1), .second, .val (.long U2.1), .second, .unset, .unset, .unset, .unset]) C at_93 rfl rfl rfl ?_
    refine own_aload (pc' := 97) C at_95 rfl rfl rfl ?_
    refine own_iload (pc' := 99) C at_97 rfl rfl ?_
    refine own_callV (pc' := 102) (wL := 0) (a := b1) (argsL := [(.int (1 : Int32))]) (rest := []) C (own_poll1_0 l Z a0 hw b1 hp_2 sx_2 gg_7 U2.2 U2.2 U3.2.2 U4.2.2.2 T4.2.2.2.2 (0 : Int64) (0 : Int64) (0 : Int64) h11 n0 Z_ E_b1 F_b1_heaps F_b1_sizes g_b1 A2_h A2_s g_hp_2 g_sx_2 ne_b1_hp_2 ne_b1_sx_2 nehs2 A_gg_7 E_gg_7 g_gg_7 ne_b1_gg_7 ne_hp_2_gg_7 ne_sx_2_gg_7) E_b1 at_99 (hw _ (List.mem_of_getElem? (i := 35) rfl)) (hw _ (List.mem_of_getElem? (i := 36) rfl)) (hw _ (List.mem_of_getElem? (i := 38) rfl)) (hw _ (List.mem_of_getElem? (i := 37) rfl)) (hw _ (List.mem_of_getElem? (i := 2) rfl)) (hw _ (List.mem_of_getElem? (i := 39) rfl)) (by decide) (by decide) (by decide) rfl (lenOf pd6 rfl) rfl rfl (Nat.le_of_eq rfl) (by decide) (by decide) rfl ?_
    rintro _ h12 ⟨rfl, K12, S12_, G12_⟩
    replace E_b1 := E_b1.keep K12
    replace F_b1_heaps := F_b1_heaps.keep K12 (ninS ne_b1_sx_2 (ninS ne_b1_gg_7 nin0))
    replace F_b1_sizes := F_b1_sizes.keep K12 (ninS ne_b1_sx_2 (ninS ne_b1_gg_7 nin0))
    replace A2_h := A2_h.keep K12 (ninS nehs2 (ninS ne_hp_2_gg_7 nin0))
    replace E_gg_7 := E_gg_7.keep K12
    replace Z_ := Nat.le_trans Z_ K12.1
    replace A2_s := S12_
    replace A_gg_7 := G12_
    show Wp p l e _ s m _ below meth c n0 _ h12 ((((0 + 1) + 2) + 1) + 1) ((((0 + 2) + 4) + 4) + 8) (mkF m 102 #[.val (.long p0), .second, .val (.long p1), .second, .val (.long p2), .second, .val (.long p3), .second, .val (.long p4), .second, .val (.int p5), .val (.int (1 : Int32)), .val (.ref b1), .val (.long T4.1), .second, .val (.long U4.1), .second, .val (.long U3.1), .second, .val (.long U2.1), .second, .unset, .unset, .unset, .unset] [(.long U2.2)])
    refine own_lstore (pc' := 104) (y := U2.2) (Ls' := #[.val (.long p0), .second, .val (.long p1), .second, .val (.long p2), .second, .val (.long p3), .second, .val (.long p4), .second, .val (.int p5), .val (.int (1 : Int32)), .val (.ref b1), .val (.long T4.1), .second, .val (.long U4.1), .second, .val (.long U3.1), .second, .val (.long U2.1), .second, .val (.long U2.2), .second, .unset, .unset]) C at_102 rfl rfl rfl ?_
    refine own_lload (pc' := 106) C at_104 rfl rfl ?_
    refine own_lload (pc' := 108) C at_106 rfl rfl ?_
    refine own_lcmp_gt (pt := 140) (pf := 112) C at_108 rfl at_109 (by decide) (by decide) rfl (fun q => absurd q (own_main hT1 hT2 hT3 hT4 hU4 hU3 hU2).1) (fun _ => ?_)
    refine own_lload (pc' := 114) C at_112 rfl rfl ?_
    refine own_lload (pc' := 116) C at_114 rfl rfl ?_
    refine own_lcmp_gt (pt := 140) (pf := 120) C at_116 rfl at_117 (by decide) (by decide) rfl (fun q => absurd q (own_main hT1 hT2 hT3 hT4 hU4 hU3 hU2).2.1) (fun _ => ?_)
    refine own_lload (pc' := 122) C at_120 rfl rfl ?_
    refine own_lload (pc' := 124) C at_122 rfl rfl ?_
    refine own_lcmp_gt (pt := 140) (pf := 128) C at_124 rfl at_125 (by decide) (by decide) rfl (fun q => absurd q (own_main hT1 hT2 hT3 hT4 hU4 hU3 hU2).2.2.1) (fun _ => ?_)
    refine own_lload (pc' := 130) C at_128 rfl rfl ?_
    refine own_lload (pc' := 132) C at_130 rfl rfl ?_
    refine own_lcmp_gt (pt := 140) (pf := 136) C at_132 rfl at_133 (by decide) (by decide) rfl (fun q => absurd q (own_main hT1 hT2 hT3 hT4 hU4 hU3 hU2).2.2.2.1) (fun _ => ?_)
    refine own_iconst (pc' := 137) (v := (1 : Int32)) C at_136 own_ki_1 rfl ?_
    refine own_goto (pc' := 141) C at_137 (by decide) (by decide) ?_
    refine own_istore (pc' := 143) (y := (1 : Int32)) (Ls' := #[.val (.long p0), .second, .val (.long p1), .second, .val (.long p2), .second, .val (.long p3), .second, .val (.long p4), .second, .val (.int p5), .val (.int (1 : Int32)), .val (.ref b1), .val (.long T4.1), .second, .val (.long U4.1), .second, .val (.long U3.1), .second, .val (.long U2.1), .second, .val (.long U2.2), .second, .val (.int (1 : Int32)), .unset]) C at_141 rfl rfl rfl ?_
    refine own_lloadN (pc' := 144) C at_143 rfl rfl ?_
    refine own_lloadN (pc' := 145) C at_144 rfl rfl ?_
    refine own_lloadN (pc' := 146) C at_145 rfl rfl ?_
    refine own_lload (pc' := 148) C at_146 rfl rfl ?_
    refine own_lload (pc' := 150) C at_148 rfl rfl ?_
    refine own_lload (pc' := 152) C at_150 rfl rfl ?_
    refine own_callS (pc' := 155) (wL := 0) (argsL := [(.long p0), (.long p0), (.long p1), (.long p2), (.long p3), (.long p4)]) (rest := []) C (own_count l Z a0 hw p0 p0 p1 p2 p3 p4 h12 n0 Z_) at_152 (hw _ (List.mem_of_getElem? (i := 40) rfl)) (hw _ (List.mem_of_getElem? (i := 41) rfl)) (hw _ (List.mem_of_getElem? (i := 42) rfl)) (hw _ (List.mem_of_getElem? (i := 43) rfl)) (by decide) (by decide) (by decide) rfl (lenOf pd7 rfl) rfl rfl (Nat.le_of_eq rfl) (by decide) (by decide) rfl ?_
    rintro _ _ ⟨rfl, rfl⟩
    show Wp p l e _ s m _ below meth c n0 _ h12 ((((0 + 1) + 2) + 1) + 1) ((((0 + 2) + 4) + 4) + 8) (mkF m 155 #[.val (.long p0), .second, .val (.long p1), .second, .val (.long p2), .second, .val (.long p3), .second, .val (.long p4), .second, .val (.int p5), .val (.int (1 : Int32)), .val (.ref b1), .val (.long T4.1), .second, .val (.long U4.1), .second, .val (.long U3.1), .second, .val (.long U2.1), .second, .val (.long U2.2), .second, .val (.int (1 : Int32)), .unset] [(.int (own_cnt p0 p0 p1 p2 p3 p4))])
    refine own_lloadN (pc' := 156) C at_155 rfl rfl ?_
    refine own_lload (pc' := 158) C at_156 rfl rfl ?_
    refine own_lload (pc' := 160) C at_158 rfl rfl ?_
    refine own_lload (pc' := 162) C at_160 rfl rfl ?_
    refine own_lload (pc' := 164) C at_162 rfl rfl ?_
    refine own_lload (pc' := 166) C at_164 rfl rfl ?_
    refine own_callS (pc' := 169) (wL := 1) (argsL := [(.long p0), (.long T4.1), (.long U4.1), (.long U3.1), (.long U2.1), (.long U2.2)]) (rest := [(.int (own_cnt p0 p0 p1 p2 p3 p4))]) C (own_count l Z a0 hw p0 T4.1 U4.1 U3.1 U2.1 U2.2 h12 n0 Z_) at_166 (hw _ (List.mem_of_getElem? (i := 40) rfl)) (hw _ (List.mem_of_getElem? (i := 41) rfl)) (hw _ (List.mem_of_getElem? (i := 42) rfl)) (hw _ (List.mem_of_getElem? (i := 43) rfl)) (by decide) (by decide) (by decide) rfl (lenOf pd7 rfl) rfl rfl (Nat.le_of_eq rfl) (by decide) (by decide) rfl ?_
    rintro _ _ ⟨rfl, rfl⟩
    show Wp p l e _ s m _ below meth c n0 _ h12 ((((0 + 1) + 2) + 1) + 1) ((((0 + 2) + 4) + 4) + 8) (mkF m 169 #[.val (.long p0), .second, .val (.long p1), .second, .val (.long p2), .second, .val (.long p3), .second, .val (.long p4), .second, .val (.int p5), .val (.int (1 : Int32)), .val (.ref b1), .val (.long T4.1), .second, .val (.long U4.1), .second, .val (.long U3.1), .second, .val (.long U2.1), .second, .val (.long U2.2), .second, .val (.int (1 : Int32)), .unset] [(.int (own_cnt p0 T4.1 U4.1 U3.1 U2.1 U2.2)), (.int (own_cnt p0 p0 p1 p2 p3 p4))])
    refine own_icmp_ne (pt := 298) (pf := 172) C at_169 (by decide) (by decide) rfl (fun q => absurd ((own_main hT1 hT2 hT3 hT4 hU4 hU3 hU2).2.2.2.2 _) q) (fun _ => ?_)
    refine own_lloadN (pc' := 173) C at_172 rfl rfl ?_
    refine own_lloadN (pc' := 174) C at_173 rfl rfl ?_
    refine own_lloadN (pc' := 175) C at_174 rfl rfl ?_
    refine own_lload (pc' := 177) C at_175 rfl rfl ?_
    refine own_lload (pc' := 179) C at_177 rfl rfl ?_
    refine own_lload (pc' := 181) C at_179 rfl rfl ?_
    refine own_callS (pc' := 184) (wL := 0) (argsL := [(.long p1), (.long p0), (.long p1), (.long p2), (.long p3), (.long p4)]) (rest := []) C (own_count l Z a0 hw p1 p0 p1 p2 p3 p4 h12 n0 Z_) at_181 (hw _ (List.mem_of_getElem? (i := 40) rfl)) (hw _ (List.mem_of_getElem? (i := 41) rfl)) (hw _ (List.mem_of_getElem? (i := 42) rfl)) (hw _ (List.mem_of_getElem? (i := 43) rfl)) (by decide) (by decide) (by decide) rfl (lenOf pd7 rfl) rfl rfl (Nat.le_of_eq rfl) (by decide) (by decide) rfl ?_
    rintro _ _ ⟨rfl, rfl⟩
    show Wp p l e _ s m _ below meth c n0 _ h12 ((((0 + 1) + 2) + 1) + 1) ((((0 + 2) + 4) + 4) + 8) (mkF m 184 #[.val (.long p0), .second, .val (.long p1), .second, .val (.long p2), .second, .val (.long p3), .second, .val (.long p4), .second, .val (.int p5), .val (.int (1 : Int32)), .val (.ref b1), .val (.long T4.1), .second, .val (.long U4.1), .second, .val (.long U3.1), .second, .val (.long U2.1), .second, .val (.long U2.2), .second, .val (.int (1 : Int32)), .unset] [(.int (own_cnt p1 p0 p1 p2 p3 p4))])
    refine own_lloadN (pc' := 185) C at_184 rfl rfl ?_
    refine own_lload (pc' := 187) C at_185 rfl rfl ?_
    refine own_lload (pc' := 189) C at_187 rfl rfl ?_
    refine own_lload (pc' := 191) C at_189 rfl rfl ?_
    refine own_lload (pc' := 193) C at_191 rfl rfl ?_
    refine own_lload (pc' := 195) C at_193 rfl rfl ?_
    refine own_callS (pc' := 198) (wL := 1) (argsL := [(.long p1), (.long T4.1), (.long U4.1), (.long U3.1), (.long U2.1), (.long U2.2)]) (rest := [(.int (own_cnt p1 p0 p1 p2 p3 p4))]) C (own_count l Z a0 hw p1 T4.1 U4.1 U3.1 U2.1 U2.2 h12 n0 Z_) at_195 (hw _ (List.mem_of_getElem? (i := 40) rfl)) (hw _ (List.mem_of_getElem? (i := 41) rfl)) (hw _ (List.mem_of_getElem? (i := 42) rfl)) (hw _ (List.mem_of_getElem? (i := 43) rfl)) (by decide) (by decide) (by decide) rfl (lenOf pd7 rfl) rfl rfl (Nat.le_of_eq rfl) (by decide) (by decide) rfl ?_
    rintro _ _ ⟨rfl, rfl⟩
    show Wp p l e _ s m _ below meth c n0 _ h12 ((((0 + 1) + 2) + 1) + 1) ((((0 + 2) + 4) + 4) + 8) (mkF m 198 #[.val (.long p0), .second, .val (.long p1), .second, .val (.long p2), .second, .val (.long p3), .second, .val (.long p4), .second, .val (.int p5), .val (.int (1 : Int32)), .val (.ref b1), .val (.long T4.1), .second, .val (.long U4.1), .second, .val (.long U3.1), .second, .val (.long U2.1), .second, .val (.long U2.2), .second, .val (.int (1 : Int32)), .unset] [(.int (own_cnt p1 T4.1 U4.1 U3.1 U2.1 U2.2)), (.int (own_cnt p1 p0 p1 p2 p3 p4))])
    refine own_icmp_ne (pt := 298) (pf := 201) C at_198 (by decide) (by decide) rfl (fun q => absurd ((own_main hT1 hT2 hT3 hT4 hU4 hU3 hU2).2.2.2.2 _) q) (fun _ => ?_)
    refine own_lload (pc' := 203) C at_201 rfl rfl ?_
    refine own_lloadN (pc' := 204) C at_203 rfl rfl ?_
    refine own_lloadN (pc' := 205) C at_204 rfl rfl ?_
    refine own_lload (pc' := 207) C at_205 rfl rfl ?_
    refine own_lload (pc' := 209) C at_207 rfl rfl ?_
    refine own_lload (pc' := 211) C at_209 rfl rfl ?_
    refine own_callS (pc' := 214) (wL := 0) (argsL := [(.long p2), (.long p0), (.long p1), (.long p2), (.long p3), (.long p4)]) (rest := []) C (own_count l Z a0 hw p2 p0 p1 p2 p3 p4 h12 n0 Z_) at_211 (hw _ (List.mem_of_getElem? (i := 40) rfl)) (hw _ (List.mem_of_getElem? (i := 41) rfl)) (hw _ (List.mem_of_getElem? (i := 42) rfl)) (hw _ (List.mem_of_getElem? (i := 43) rfl)) (by decide) (by decide) (by decide) rfl (lenOf pd7 rfl) rfl rfl (Nat.le_of_eq rfl) (by decide) (by decide) rfl ?_
    rintro _ _ ⟨rfl, rfl⟩
    show Wp p l e _ s m _ below meth c n0 _ h12 ((((0 + 1) + 2) + 1) + 1) ((((0 + 2) + 4) + 4) + 8) (mkF m 214 #[.val (.long p0), .second, .val (.long p1), .second, .val (.long p2), .second, .val (.long p3), .second, .val (.long p4), .second, .val (.int p5), .val (.int (1 : Int32)), .val (.ref b1), .val (.long T4.1), .second, .val (.long U4.1), .second, .val (.long U3.1), .second, .val (.long U2.1), .second, .val (.long U2.2), .second, .val (.int (1 : Int32)), .unset] [(.int (own_cnt p2 p0 p1 p2 p3 p4))])
    refine own_lload (pc' := 216) C at_214 rfl rfl ?_
    refine own_lload (pc' := 218) C at_216 rfl rfl ?_
    refine own_lload (pc' := 220) C at_218 rfl rfl ?_
    refine own_lload (pc' := 222) C at_220 rfl rfl ?_
    refine own_lload (pc' := 224) C at_222 rfl rfl ?_
    refine own_lload (pc' := 226) C at_224 rfl rfl ?_
    refine own_callS (pc' := 229) (wL := 1) (argsL := [(.long p2), (.long T4.1), (.long U4.1), (.long U3.1), (.long U2.1), (.long U2.2)]) (rest := [(.int (own_cnt p2 p0 p1 p2 p3 p4))]) C (own_count l Z a0 hw p2 T4.1 U4.1 U3.1 U2.1 U2.2 h12 n0 Z_) at_226 (hw _ (List.mem_of_getElem? (i := 40) rfl)) (hw _ (List.mem_of_getElem? (i := 41) rfl)) (hw _ (List.mem_of_getElem? (i := 42) rfl)) (hw _ (List.mem_of_getElem? (i := 43) rfl)) (by decide) (by decide) (by decide) rfl (lenOf pd7 rfl) rfl rfl (Nat.le_of_eq rfl) (by decide) (by decide) rfl ?_
    rintro _ _ ⟨rfl, rfl⟩
    show Wp p l e _ s m _ below meth c n0 _ h12 ((((0 + 1) + 2) + 1) + 1) ((((0 + 2) + 4) + 4) + 8) (mkF m 229 #[.val (.long p0), .second, .val (.long p1), .second, .val (.long p2), .second, .val (.long p3), .second, .val (.long p4), .second, .val (.int p5), .val (.int (1 : Int32)), .val (.ref b1), .val (.long T4.1), .second, .val (.long U4.1), .second, .val (.long U3.1), .second, .val (.long U2.1), .second, .val (.long U2.2), .second, .val (.int (1 : Int32)), .unset] [(.int (own_cnt p2 T4.1 U4.1 U3.1 U2.1 U2.2)), (.int (own_cnt p2 p0 p1 p2 p3 p4))])
    refine own_icmp_ne (pt := 298) (pf := 232) C at_229 (by decide) (by decide) rfl (fun q => absurd ((own_main hT1 hT2 hT3 hT4 hU4 hU3 hU2).2.2.2.2 _) q) (fun _ => ?_)
    refine own_lload (pc' := 234) C at_232 rfl rfl ?_
    refine own_lloadN (pc' := 235) C at_234 rfl rfl ?_
    refine own_lloadN (pc' := 236) C at_235 rfl rfl ?_
    refine own_lload (pc' := 238) C at_236 rfl rfl ?_
    refine own_lload (pc' := 240) C at_238 rfl rfl ?_
    refine own_lload (pc' := 242) C at_240 rfl rfl ?_
    refine own_callS (pc' := 245) (wL := 0) (argsL := [(.long p3), (.long p0), (.long p1), (.long p2), (.long p3), (.long p4)]) (rest := []) C (own_count l Z a0 hw p3 p0 p1 p2 p3 p4 h12 n0 Z_) at_242 (hw _ (List.mem_of_getElem? (i := 40) rfl)) (hw _ (List.mem_of_getElem? (i := 41) rfl)) (hw _ (List.mem_of_getElem? (i := 42) rfl)) (hw _ (List.mem_of_getElem? (i := 43) rfl)) (by decide) (by decide) (by decide) rfl (lenOf pd7 rfl) rfl rfl (Nat.le_of_eq rfl) (by decide) (by decide) rfl ?_
    rintro _ _ ⟨rfl, rfl⟩
    show Wp p l e _ s m _ below meth c n0 _ h12 ((((0 + 1) + 2) + 1) + 1) ((((0 + 2) + 4) + 4) + 8) (mkF m 245 #[.val (.long p0), .second, .val (.long p1), .second, .val (.long p2), .second, .val (.long p3), .second, .val (.long p4), .second, .val (.int p5), .val (.int (1 : Int32)), .val (.ref b1), .val (.long T4.1), .second, .val (.long U4.1), .second, .val (.long U3.1), .second, .val (.long U2.1), .second, .val (.long U2.2), .second, .val (.int (1 : Int32)), .unset] [(.int (own_cnt p3 p0 p1 p2 p3 p4))])
    refine own_lload (pc' := 247) C at_245 rfl rfl ?_
    refine own_lload (pc' := 249) C at_247 rfl rfl ?_
    refine own_lload (pc' := 251) C at_249 rfl rfl ?_
    refine own_lload (pc' := 253) C at_251 rfl rfl ?_
    refine own_lload (pc' := 255) C at_253 rfl rfl ?_
    refine own_lload (pc' := 257) C at_255 rfl rfl ?_
    refine own_callS (pc' := 260) (wL := 1) (argsL := [(.long p3), (.long T4.1), (.long U4.1), (.long U3.1), (.long U2.1), (.long U2.2)]) (rest := [(.int (own_cnt p3 p0 p1 p2 p3 p4))]) C (own_count l Z a0 hw p3 T4.1 U4.1 U3.1 U2.1 U2.2 h12 n0 Z_) at_257 (hw _ (List.mem_of_getElem? (i := 40) rfl)) (hw _ (List.mem_of_getElem? (i := 41) rfl)) (hw _ (List.mem_of_getElem? (i := 42) rfl)) (hw _ (List.mem_of_getElem? (i := 43) rfl)) (by decide) (by decide) (by decide) rfl (lenOf pd7 rfl) rfl rfl (Nat.le_of_eq rfl) (by decide) (by decide) rfl ?_
    rintro _ _ ⟨rfl, rfl⟩
    show Wp p l e _ s m _ below meth c n0 _ h12 ((((0 + 1) + 2) + 1) + 1) ((((0 + 2) + 4) + 4) + 8) (mkF m 260 #[.val (.long p0), .second, .val (.long p1), .second, .val (.long p2), .second, .val (.long p3), .second, .val (.long p4), .second, .val (.int p5), .val (.int (1 : Int32)), .val (.ref b1), .val (.long T4.1), .second, .val (.long U4.1), .second, .val (.long U3.1), .second, .val (.long U2.1), .second, .val (.long U2.2), .second, .val (.int (1 : Int32)), .unset] [(.int (own_cnt p3 T4.1 U4.1 U3.1 U2.1 U2.2)), (.int (own_cnt p3 p0 p1 p2 p3 p4))])
    refine own_icmp_ne (pt := 298) (pf := 263) C at_260 (by decide) (by decide) rfl (fun q => absurd ((own_main hT1 hT2 hT3 hT4 hU4 hU3 hU2).2.2.2.2 _) q) (fun _ => ?_)
    refine own_lload (pc' := 265) C at_263 rfl rfl ?_
    refine own_lloadN (pc' := 266) C at_265 rfl rfl ?_
    refine own_lloadN (pc' := 267) C at_266 rfl rfl ?_
    refine own_lload (pc' := 269) C at_267 rfl rfl ?_
    refine own_lload (pc' := 271) C at_269 rfl rfl ?_
    refine own_lload (pc' := 273) C at_271 rfl rfl ?_
    refine own_callS (pc' := 276) (wL := 0) (argsL := [(.long p4), (.long p0), (.long p1), (.long p2), (.long p3), (.long p4)]) (rest := []) C (own_count l Z a0 hw p4 p0 p1 p2 p3 p4 h12 n0 Z_) at_273 (hw _ (List.mem_of_getElem? (i := 40) rfl)) (hw _ (List.mem_of_getElem? (i := 41) rfl)) (hw _ (List.mem_of_getElem? (i := 42) rfl)) (hw _ (List.mem_of_getElem? (i := 43) rfl)) (by decide) (by decide) (by decide) rfl (lenOf pd7 rfl) rfl rfl (Nat.le_of_eq rfl) (by decide) (by decide) rfl ?_
    rintro _ _ ⟨rfl, rfl⟩
    show Wp p l e _ s m _ below meth c n0 _ h12 ((((0 + 1) + 2) + 1) + 1) ((((0 + 2) + 4) + 4) + 8) (mkF m 276 #[.val (.long p0), .second, .val (.long p1), .second, .val (.long p2), .second, .val (.long p3), .second, .val (.long p4), .second, .val (.int p5), .val (.int (1 : Int32)), .val (.ref b1), .val (.long T4.1), .second, .val (.long U4.1), .second, .val (.long U3.1), .second, .val (.long U2.1), .second, .val (.long U2.2), .second, .val (.int (1 : Int32)), .unset] [(.int (own_cnt p4 p0 p1 p2 p3 p4))])
    refine own_lload (pc' := 278) C at_276 rfl rfl ?_
    refine own_lload (pc' := 280) C at_278 rfl rfl ?_
    refine own_lload (pc' := 282) C at_280 rfl rfl ?_
    refine own_lload (pc' := 284) C at_282 rfl rfl ?_
    refine own_lload (pc' := 286) C at_284 rfl rfl ?_
    refine own_lload (pc' := 288) C at_286 rfl rfl ?_
    refine own_callS (pc' := 291) (wL := 1) (argsL := [(.long p4), (.long T4.1), (.long U4.1), (.long U3.1), (.long U2.1), (.long U2.2)]) (rest := [(.int (own_cnt p4 p0 p1 p2 p3 p4))]) C (own_count l Z a0 hw p4 T4.1 U4.1 U3.1 U2.1 U2.2 h12 n0 Z_) at_288 (hw _ (List.mem_of_getElem? (i := 40) rfl)) (hw _ (List.mem_of_getElem? (i := 41) rfl)) (hw _ (List.mem_of_getElem? (i := 42) rfl)) (hw _ (List.mem_of_getElem? (i := 43) rfl)) (by decide) (by decide) (by decide) rfl (lenOf pd7 rfl) rfl rfl (Nat.le_of_eq rfl) (by decide) (by decide) rfl ?_
    rintro _ _ ⟨rfl, rfl⟩
    show Wp p l e _ s m _ below meth c n0 _ h12 ((((0 + 1) + 2) + 1) + 1) ((((0 + 2) + 4) + 4) + 8) (mkF m 291 #[.val (.long p0), .second, .val (.long p1), .second, .val (.long p2), .second, .val (.long p3), .second, .val (.long p4), .second, .val (.int p5), .val (.int (1 : Int32)), .val (.ref b1), .val (.long T4.1), .second, .val (.long U4.1), .second, .val (.long U3.1), .second, .val (.long U2.1), .second, .val (.long U2.2), .second, .val (.int (1 : Int32)), .unset] [(.int (own_cnt p4 T4.1 U4.1 U3.1 U2.1 U2.2)), (.int (own_cnt p4 p0 p1 p2 p3 p4))])
    refine own_icmp_ne (pt := 298) (pf := 294) C at_291 (by decide) (by decide) rfl (fun q => absurd ((own_main hT1 hT2 hT3 hT4 hU4 hU3 hU2).2.2.2.2 _) q) (fun _ => ?_)
    refine own_iconst (pc' := 295) (v := (1 : Int32)) C at_294 own_ki_1 rfl ?_
    refine own_goto (pc' := 299) C at_295 (by decide) (by decide) ?_
    refine own_istore (pc' := 301) (y := (1 : Int32)) (Ls' := #[.val (.long p0), .second, .val (.long p1), .second, .val (.long p2), .second, .val (.long p3), .second, .val (.long p4), .second, .val (.int p5), .val (.int (1 : Int32)), .val (.ref b1), .val (.long T4.1), .second, .val (.long U4.1), .second, .val (.long U3.1), .second, .val (.long U2.1), .second, .val (.long U2.2), .second, .val (.int (1 : Int32)), .val (.int (1 : Int32))]) C at_299 rfl rfl rfl ?_
    refine own_iload (pc' := 303) C at_301 rfl rfl ?_
    refine own_if_eq (pt := 315) (pf := 306) C at_303 (by decide) (by decide) rfl (fun q => absurd q (by decide)) (fun _ => ?_)
    refine own_iload (pc' := 308) C at_306 rfl rfl ?_
    refine own_if_eq (pt := 315) (pf := 311) C at_308 (by decide) (by decide) rfl (fun q => absurd q (by decide)) (fun _ => ?_)
    refine own_iconst (pc' := 312) (v := (1 : Int32)) C at_311 own_ki_1 rfl ?_
    refine own_goto (pc' := 316) C at_312 (by decide) (by decide) ?_
    refine own_zret C at_316 (by decide) (by decide) (Or.inr rfl) ?_
    exact rfl
set_option maxRecDepth 65536 in
set_option maxHeartbeats 40000000 in
theorem comes_1 {Post : Tables → Env → Array Value → State → Outcome → State → Prop} (hpost : ∀ tb e args s v u, (limb_1_1.after args s (.returned v) u = true ∧ limb_1_2.after args s (.returned v) u = true ∧ True) → FrameEnd s (.returned v) u (Jvm.fieldLocs frame_1_writes args s ++ Jvm.arrayLocs frame_1_arrays args s ++ Jvm.staticLocs frame_1_statics s) 24 128 → Post tb e args s (.returned v) u) :
    ArmFor flags0 classFile x code maxLocals ret World_1 tables_1 room_1 Calls_1 rest_1 Pre_1 Post := by
  intro l hfl _ _ p e ha hc hk s m args below hf hA hF happ hP
  obtain ⟨hcalls, hrest, hpre⟩ := hP
  obtain ⟨-, -, -, hnamed, -, -, -, hat⟩ := (Spec.applies_iff hf).mp happ
  obtain ⟨hg, hn⟩ := and_e (Cond.before_iff.mp (show (Jvm.Cond.and given_1 narrow_1).before args s = true from hpre))
  obtain ⟨hcount, q0⟩ := and_e hg
  obtain ⟨r0, q1⟩ := and_e q0
  obtain ⟨r1, q2⟩ := and_e q1
  obtain ⟨r2, q3⟩ := and_e q2
  obtain ⟨r3, q4⟩ := and_e q3
  obtain ⟨r4, q5⟩ := and_e q4
  obtain ⟨w0, w1, w2, w3, w4, w5, rfl⟩ : ∃ w0 w1 w2 w3 w4 w5 : Value, args = #[w0, w1, w2, w3, w4, w5] := by
    have hs : args.size = 6 := by simpa [Cond.value, given_1] using hcount
    obtain ⟨L⟩ := args
    match L, hs with
    | [w0, w1, w2, w3, w4, w5], _ => exact ⟨w0, w1, w2, w3, w4, w5, rfl⟩
  have hw := fun d (hd : d ∈ tables_1) => atoms_spec (ws := Jvm.Cond.code x code maxLocals ret :: tables_1) hat d (List.mem_cons_of_mem _ hd)
  obtain ⟨i0, e0⟩ := isL_v r0
  obtain rfl : w0 = (.long i0) := Option.some.inj e0
  obtain ⟨i1, e1⟩ := isL_v r1
  obtain rfl : w1 = (.long i1) := Option.some.inj e1
  obtain ⟨i2, e2⟩ := isL_v r2
  obtain rfl : w2 = (.long i2) := Option.some.inj e2
  obtain ⟨i3, e3⟩ := isL_v r3
  obtain rfl : w3 = (.long i3) := Option.some.inj e3
  obtain ⟨i4, e4⟩ := isL_v r4
  obtain rfl : w4 = (.long i4) := Option.some.inj e4
  obtain ⟨i5, e5⟩ := is_v q5
  obtain rfl : w5 = (.int i5) := Option.some.inj e5
  obtain ⟨n, o, h1, h2, h3, _, L, rfl, ⟨rfl, N⟩, hq⟩ := own_law l s _ hw tables_1 i0 i1 i2 i3 i4 i5  s.heap s.heap.size (Nat.le_refl _)  p e ha hc hk s m _ below hf ((Spec.applies_iff_loose hf).mp happ).1 ⟨rfl, State.Warmed39.refl s, rfl⟩ trivial
  refine ⟨n, _, h1, h2, h3, hpost _ _ _ _ _ _ ⟨Cond.after_iff.mpr rfl, Cond.after_iff.mpr (eq_i res_at (Term.int_eval (1)) rfl), trivial⟩ ⟨hq.1, hq.2.1, (hq.2.2.sift fun y hy => Or.inr (N y hy)).mono (by decide) (by decide)⟩⟩
theorem main_1_1 : Claimed_1_1 := comes_1 fun _ _ _ _ _ _ h hF => ⟨h.1, hF⟩
theorem main_1_2 : Claimed_1_2 := comes_1 fun _ _ _ _ _ _ h hF => ⟨h.2.1, hF⟩
end Jvm.Pilot.@@N@@
namespace Jvm.Pilot.@@N@@
open Jvm Jvm.ClassFile Sem Op Lib Jvm.Free Jvm.Stand Jvm.Pilot.@@N@@.Jvm.D
/-! MADE BY PROGRAM (witnessworld.py) out of the Statement's table words and the real class files: 14 classes; the members and pool entries that the words name. The judged class is class 1, her method 1. -/
namespace start1
open Jvm.ClassFile
def u (s : String) : CpInfo := .utf8 (stringToUtf16 s)
/-- a pool by its gaps: so many unusable entries, then the entry; so many at the end -/
def gap : Nat → List CpInfo → List CpInfo
  | 0, r => r
  | n + 1, r => .unusable :: gap n r
def poolList (es : List (Nat × CpInfo)) (last : Nat) : List CpInfo := es.foldr (fun e r => gap e.1 (e.2 :: r)) (gap last [])
def pool (es : List (Nat × CpInfo)) (last : Nat) : Array CpInfo := ⟨poolList es last⟩
def fileOf (pool : Array CpInfo) (this : Nat) (attrs : Array Attribute := #[]) (ms : Array MethodInfo := #[]) (fl : Nat := 33) (sup : Nat := 0) (ifs : Array Nat := #[]) (fds : Array FieldInfo := #[]) : ClassFile where
  minorVersion := 0
  majorVersion := 65
  constantPool := pool
  accessFlags := fl
  thisClass := this
  superClass := sup
  interfaces := ifs
  fields := fds
  methods := ms
  attributes := attrs
def plain (name : String) (sup : Option ClassId) : Class where
  name := name
  kind := .ordinary
  loader := none
  accessFlags := 33
  super := sup
  interfaces := #[]
  cf := none
  fields := #[]
  methods := #[]
  instanceTypes := #[]
  staticTypes := #[]
  resolved := #[]
  callSites := []
  init := .initialized
  statics := none
  mirror := none

def pool0 : Array CpInfo := pool [(5, u "<init>"), (0, u "()V"), (1, .class_ 10), (1, u "java/lang/Object")] 113

def k0c0 : Code := { maxStack := 0, maxLocals := 1, code := object_method_1_code, exceptionTable := #[], attributes := #[] }
def k0m0 : Method := { name := "<init>", desc := "()V", sig := { parameters := [], returnType := none }, accessFlags := 1, code := some k0c0 }
/-- java/lang/Object -/
def k0 : Class := { plain "java/lang/Object" none with
  accessFlags := 33
  interfaces := #[]
  cf := some (fileOf pool0 8 #[] #[{ accessFlags := 1, nameIndex := 5, descriptorIndex := 6, attributes := #[] }] 33 0 #[] #[])
  fields := #[]
  methods := #[k0m0]
  instanceTypes := #[]
  staticTypes := #[]
  resolved := Array.replicate 124 none
  statics := none }

def pool1 : Array CpInfo := pool [(2, .class_ 4), (1, u "java/lang/Object"), (0, u "<init>"), (0, u "()V"), (0, .class_ 8), (0, u "com/example/precedence/precedence/LongHeaps"), (0, .methodref 7 10), (0, .nameAndType 5 11), (0, u "(I)V"), (0, .methodref 7 13), (0, .nameAndType 14 15), (0, u "add"), (0, u "(IJ)V"), (0, .methodref 7 17), (0, .nameAndType 18 19), (0, u "poll"), (0, u "(I)J"), (0, .methodref 21 22), (0, .class_ 23), (0, .nameAndType 24 25), (0, u "com/example/precedence/precedence/LongHeapsPollPinLaw"), (0, u "count5"), (0, u "(JJJJJJ)I"), (2, u "law"), (0, u "(JJJJJI)Z")] 3

def k1m0 : Method := { name := "<init>", desc := "()V", sig := { parameters := [], returnType := none }, accessFlags := 1, code := none }
def k1c1 : Code := { maxStack := 13, maxLocals := 25, code := code, exceptionTable := #[], attributes := #[] }
def k1m1 : Method := { name := "law", desc := "(JJJJJI)Z", sig := { parameters := [.long, .long, .long, .long, .long, .int], returnType := some .boolean }, accessFlags := 9, code := some k1c1 }
def k1c2 : Code := { maxStack := 4, maxLocals := 13, code := method_3_code, exceptionTable := #[], attributes := #[] }
def k1m2 : Method := { name := "count5", desc := "(JJJJJJ)I", sig := { parameters := [.long, .long, .long, .long, .long, .long], returnType := some .int }, accessFlags := 10, code := some k1c2 }
/-- com/example/precedence/precedence/LongHeapsPollPinLaw -/
def k1 : Class := { plain "com/example/precedence/precedence/LongHeapsPollPinLaw" (some 0) with
  accessFlags := 49
  interfaces := #[]
  cf := some (fileOf pool1 21 #[] #[{ accessFlags := 1, nameIndex := 5, descriptorIndex := 6, attributes := #[] }, { accessFlags := 9, nameIndex := 28, descriptorIndex := 29, attributes := #[] }, { accessFlags := 10, nameIndex := 24, descriptorIndex := 25, attributes := #[] }] 49 2 #[] #[])
  fields := #[]
  methods := #[k1m0, k1m1, k1m2]
  instanceTypes := #[]
  staticTypes := #[]
  resolved := Array.replicate 33 none
  statics := none }

def pool2 : Array CpInfo := pool [(1, .methodref 2 3), (0, .class_ 4), (0, .nameAndType 5 6), (0, u "java/lang/Object"), (0, u "<init>"), (0, u "()V"), (0, .class_ 8), (0, u "[J"), (0, .fieldref 10 11), (0, .class_ 12), (0, .nameAndType 13 14), (0, u "com/example/precedence/precedence/LongHeaps"), (0, u "heaps"), (0, u "[[J"), (0, .fieldref 10 16), (0, .nameAndType 17 18), (0, u "sizes"), (0, u "[I"), (0, .methodref 20 21), (0, .class_ 22), (0, .nameAndType 23 24), (0, u "java/util/Arrays"), (0, u "copyOf"), (0, u "([JI)[J"), (0, u "(I)V"), (5, u "add"), (0, u "(IJ)V"), (1, u "(I)J"), (0, u "poll")] 2

def k2c0 : Code := { maxStack := 2, maxLocals := 2, code := prog_58_method_1_code, exceptionTable := #[], attributes := #[] }
def k2m0 : Method := { name := "<init>", desc := "(I)V", sig := { parameters := [.int], returnType := none }, accessFlags := 0, code := some k2c0 }
def k2c1 : Code := { maxStack := 5, maxLocals := 6, code := prog_58_method_3_code, exceptionTable := #[], attributes := #[] }
def k2m1 : Method := { name := "add", desc := "(IJ)V", sig := { parameters := [.int, .long], returnType := none }, accessFlags := 0, code := some k2c1 }
def k2c2 : Code := { maxStack := 4, maxLocals := 10, code := prog_58_method_5_code, exceptionTable := #[], attributes := #[] }
def k2m2 : Method := { name := "poll", desc := "(I)J", sig := { parameters := [.int], returnType := some .long }, accessFlags := 0, code := some k2c2 }
/-- com/example/precedence/precedence/LongHeaps -/
def k2 : Class := { plain "com/example/precedence/precedence/LongHeaps" (some 0) with
  accessFlags := 48
  interfaces := #[]
  cf := some (fileOf pool2 10 #[] #[{ accessFlags := 0, nameIndex := 5, descriptorIndex := 25, attributes := #[] }, { accessFlags := 0, nameIndex := 31, descriptorIndex := 32, attributes := #[] }, { accessFlags := 0, nameIndex := 35, descriptorIndex := 34, attributes := #[] }] 48 2 #[] #[{ accessFlags := 18, nameIndex := 13, descriptorIndex := 14, attributes := #[] }, { accessFlags := 18, nameIndex := 17, descriptorIndex := 18, attributes := #[] }])
  fields := #[{ name := "heaps", type := (.array (.array .long)), accessFlags := 18, slot := 0, constantValue := 0 }, { name := "sizes", type := (.array .int), accessFlags := 18, slot := 1, constantValue := 0 }]
  methods := #[k2m0, k2m1, k2m2]
  instanceTypes := #[(.array (.array .long)), (.array .int)]
  staticTypes := #[]
  resolved := Array.replicate 38 none
  statics := none }

def pool3 : Array CpInfo := pool [(2, .class_ 4), (1, u "java/lang/Object"), (0, u "<init>"), (0, u "()V"), (7, .class_ 16), (1, u "java/util/Arrays"), (57, .class_ 76), (1, u "java/util/Arrays$NaturalOrder"), (36, .class_ 115), (1, u "java/util/Arrays$LegacyMergeSort"), (1, u "Z"), (32, .methodref 151 152), (0, .class_ 153), (0, .nameAndType 154 155), (0, u "java/lang/System"), (0, u "arraycopy"), (0, u "(Ljava/lang/Object;ILjava/lang/Object;II)V"), (146, u "copyOf"), (1, .methodref 305 306), (0, .class_ 307), (0, .nameAndType 308 309), (0, u "java/lang/Math"), (0, u "min"), (0, u "(II)I"), (65, .class_ 376), (0, u "java/util/Arrays$ArrayList"), (68, u "$assertionsDisabled"), (269, u "MIN_ARRAY_SORT_GRAN"), (0, u "I"), (2, u "INSERTIONSORT_THRESHOLD"), (152, u "([JI)[J"), (102, .class_ 976), (0, u "java/util/Arrays$ArrayItr")] 52

def k3m0 : Method := { name := "<init>", desc := "()V", sig := { parameters := [], returnType := none }, accessFlags := 2, code := none }
def k3c1 : Code := { maxStack := 6, maxLocals := 3, code := jdk_65_method_124_code, exceptionTable := #[], attributes := #[] }
def k3m1 : Method := { name := "copyOf", desc := "([JI)[J", sig := { parameters := [(.array .long), .int], returnType := some (.array .long) }, accessFlags := 9, code := some k3c1 }
/-- java/util/Arrays -/
def k3 : Class := { plain "java/util/Arrays" (some 0) with
  accessFlags := 49
  interfaces := #[]
  cf := some (fileOf pool3 14 #[.nestMembers #[975, 375, 113, 74]] #[{ accessFlags := 2, nameIndex := 5, descriptorIndex := 6, attributes := #[] }, { accessFlags := 9, nameIndex := 302, descriptorIndex := 872, attributes := #[] }] 49 2 #[] #[{ accessFlags := 26, nameIndex := 715, descriptorIndex := 716, attributes := #[] }, { accessFlags := 26, nameIndex := 719, descriptorIndex := 716, attributes := #[] }, { accessFlags := 4120, nameIndex := 445, descriptorIndex := 117, attributes := #[] }])
  fields := #[{ name := "MIN_ARRAY_SORT_GRAN", type := .int, accessFlags := 26, slot := 0, constantValue := 0 }, { name := "INSERTIONSORT_THRESHOLD", type := .int, accessFlags := 26, slot := 1, constantValue := 0 }, { name := "$assertionsDisabled", type := .boolean, accessFlags := 4120, slot := 2, constantValue := 0 }]
  methods := #[k3m0, k3m1]
  instanceTypes := #[]
  staticTypes := #[.int, .int, .boolean]
  resolved := Array.replicate 1029 none
  statics := none }

def pool4 : Array CpInfo := pool [(1, .class_ 2), (0, u "java/lang/Math"), (1, .class_ 6), (1, u "java/lang/Object"), (0, u "<init>"), (0, u "()V"), (89, .class_ 100), (1, u "java/lang/Math$RandomNumberGeneratorHolder"), (71, u "negativeZeroFloatBits"), (0, u "J"), (2, u "negativeZeroDoubleBits"), (24, u "min"), (43, u "$assertionsDisabled"), (0, u "Z"), (88, u "(II)I"), (2, u "twoToTheDoubleScaleDown"), (0, u "D"), (4, u "twoToTheDoubleScaleUp"), (9, u "E"), (3, u "PI"), (2, u "TAU"), (2, u "DEGREES_TO_RADIANS"), (0, u "RADIANS_TO_DEGREES")] 94

def k4m0 : Method := { name := "<init>", desc := "()V", sig := { parameters := [], returnType := none }, accessFlags := 2, code := none }
def k4c1 : Code := { maxStack := 2, maxLocals := 2, code := jdk_29_method_69_code, exceptionTable := #[], attributes := #[] }
def k4m1 : Method := { name := "min", desc := "(II)I", sig := { parameters := [.int, .int], returnType := some .int }, accessFlags := 9, code := some k4c1 }
/-- java/lang/Math -/
def k4 : Class := { plain "java/lang/Math" (some 0) with
  accessFlags := 49
  interfaces := #[]
  cf := some (fileOf pool4 1 #[.nestMembers #[98]] #[{ accessFlags := 2, nameIndex := 7, descriptorIndex := 8, attributes := #[] }, { accessFlags := 9, nameIndex := 201, descriptorIndex := 335, attributes := #[] }] 49 4 #[] #[{ accessFlags := 25, nameIndex := 354, descriptorIndex := 339, attributes := #[] }, { accessFlags := 25, nameIndex := 358, descriptorIndex := 339, attributes := #[] }, { accessFlags := 25, nameIndex := 361, descriptorIndex := 339, attributes := #[] }, { accessFlags := 26, nameIndex := 364, descriptorIndex := 339, attributes := #[] }, { accessFlags := 26, nameIndex := 365, descriptorIndex := 339, attributes := #[] }, { accessFlags := 26, nameIndex := 172, descriptorIndex := 173, attributes := #[] }, { accessFlags := 26, nameIndex := 176, descriptorIndex := 173, attributes := #[] }, { accessFlags := 8, nameIndex := 344, descriptorIndex := 339, attributes := #[] }, { accessFlags := 8, nameIndex := 338, descriptorIndex := 339, attributes := #[] }, { accessFlags := 4120, nameIndex := 245, descriptorIndex := 246, attributes := #[] }])
  fields := #[{ name := "E", type := .double, accessFlags := 25, slot := 0, constantValue := 0 }, { name := "PI", type := .double, accessFlags := 25, slot := 1, constantValue := 0 }, { name := "TAU", type := .double, accessFlags := 25, slot := 2, constantValue := 0 }, { name := "DEGREES_TO_RADIANS", type := .double, accessFlags := 26, slot := 3, constantValue := 0 }, { name := "RADIANS_TO_DEGREES", type := .double, accessFlags := 26, slot := 4, constantValue := 0 }, { name := "negativeZeroFloatBits", type := .long, accessFlags := 26, slot := 5, constantValue := 0 }, { name := "negativeZeroDoubleBits", type := .long, accessFlags := 26, slot := 6, constantValue := 0 }, { name := "twoToTheDoubleScaleUp", type := .double, accessFlags := 8, slot := 7, constantValue := 0 }, { name := "twoToTheDoubleScaleDown", type := .double, accessFlags := 8, slot := 8, constantValue := 0 }, { name := "$assertionsDisabled", type := .boolean, accessFlags := 4120, slot := 9, constantValue := 0 }]
  methods := #[k4m0, k4m1]
  instanceTypes := #[]
  staticTypes := #[.double, .double, .double, .double, .double, .long, .long, .double, .double, .boolean]
  resolved := Array.replicate 460 none
  statics := none }

def pool5 : Array CpInfo := pool [(2, .class_ 4), (1, u "java/lang/Object"), (0, u "<init>"), (0, u "()V"), (1, .class_ 10), (1, u "java/lang/System"), (0, u "allowSecurityManager"), (0, u "I"), (16, u "cons"), (0, u "Ljava/io/Console;"), (77, .class_ 110), (1, u "java/lang/System$CallersHolder"), (43, u "initialErrStream"), (0, u "Ljava/io/PrintStream;"), (19, u "security"), (0, u "Ljava/lang/SecurityManager;"), (31, .class_ 209), (0, u "java/lang/System$1"), (7, u "props"), (0, u "Ljava/util/Properties;"), (2, u "lineSeparator"), (0, u "Ljava/lang/String;"), (96, .class_ 321), (1, u "java/lang/System$LoggerFinder"), (5, .class_ 328), (0, u "java/lang/System$Logger"), (67, u "err"), (2, u "out"), (91, u "notSupportedJnuEncoding"), (15, u "in"), (17, u "initialIn"), (0, u "Ljava/io/InputStream;"), (35, u "bootLayer"), (0, u "Ljava/lang/ModuleLayer;"), (99, .class_ 664), (0, u "java/lang/System$2"), (9, u "NEVER"), (2, u "MAYBE"), (49, u "arraycopy"), (0, u "(Ljava/lang/Object;ILjava/lang/Object;II)V"), (72, .class_ 802), (0, u "java/lang/System$Logger$Level")] 31

def k5m0 : Method := { name := "<init>", desc := "()V", sig := { parameters := [], returnType := none }, accessFlags := 2, code := none }
def k5m1 : Method := { name := "arraycopy", desc := "(Ljava/lang/Object;ILjava/lang/Object;II)V", sig := { parameters := [(.object "java/lang/Object"), .int, (.object "java/lang/Object"), .int, .int], returnType := none }, accessFlags := 265, code := none }
/-- java/lang/System -/
def k5 : Class := { plain "java/lang/System" (some 0) with
  accessFlags := 49
  interfaces := #[]
  cf := some (fileOf pool5 8 #[.nestMembers #[319, 327, 801, 108, 663, 208]] #[{ accessFlags := 2, nameIndex := 5, descriptorIndex := 6, attributes := #[] }, { accessFlags := 265, nameIndex := 727, descriptorIndex := 728, attributes := #[] }] 49 2 #[] #[{ accessFlags := 25, nameIndex := 507, descriptorIndex := 526, attributes := #[] }, { accessFlags := 25, nameIndex := 399, descriptorIndex := 155, attributes := #[] }, { accessFlags := 25, nameIndex := 396, descriptorIndex := 155, attributes := #[] }, { accessFlags := 10, nameIndex := 525, descriptorIndex := 526, attributes := #[] }, { accessFlags := 26, nameIndex := 674, descriptorIndex := 12, attributes := #[] }, { accessFlags := 26, nameIndex := 677, descriptorIndex := 12, attributes := #[] }, { accessFlags := 10, nameIndex := 11, descriptorIndex := 12, attributes := #[] }, { accessFlags := 74, nameIndex := 175, descriptorIndex := 176, attributes := #[] }, { accessFlags := 10, nameIndex := 491, descriptorIndex := 222, attributes := #[] }, { accessFlags := 74, nameIndex := 29, descriptorIndex := 30, attributes := #[] }, { accessFlags := 74, nameIndex := 154, descriptorIndex := 155, attributes := #[] }, { accessFlags := 10, nameIndex := 217, descriptorIndex := 218, attributes := #[] }, { accessFlags := 10, nameIndex := 221, descriptorIndex := 222, attributes := #[] }, { accessFlags := 8, nameIndex := 562, descriptorIndex := 563, attributes := #[] }])
  fields := #[{ name := "in", type := (.object "java/io/InputStream"), accessFlags := 25, slot := 0, constantValue := 0 }, { name := "out", type := (.object "java/io/PrintStream"), accessFlags := 25, slot := 1, constantValue := 0 }, { name := "err", type := (.object "java/io/PrintStream"), accessFlags := 25, slot := 2, constantValue := 0 }, { name := "initialIn", type := (.object "java/io/InputStream"), accessFlags := 10, slot := 3, constantValue := 0 }, { name := "NEVER", type := .int, accessFlags := 26, slot := 4, constantValue := 0 }, { name := "MAYBE", type := .int, accessFlags := 26, slot := 5, constantValue := 0 }, { name := "allowSecurityManager", type := .int, accessFlags := 10, slot := 6, constantValue := 0 }, { name := "security", type := (.object "java/lang/SecurityManager"), accessFlags := 74, slot := 7, constantValue := 0 }, { name := "notSupportedJnuEncoding", type := (.object "java/lang/String"), accessFlags := 10, slot := 8, constantValue := 0 }, { name := "cons", type := (.object "java/io/Console"), accessFlags := 74, slot := 9, constantValue := 0 }, { name := "initialErrStream", type := (.object "java/io/PrintStream"), accessFlags := 74, slot := 10, constantValue := 0 }, { name := "props", type := (.object "java/util/Properties"), accessFlags := 10, slot := 11, constantValue := 0 }, { name := "lineSeparator", type := (.object "java/lang/String"), accessFlags := 10, slot := 12, constantValue := 0 }, { name := "bootLayer", type := (.object "java/lang/ModuleLayer"), accessFlags := 8, slot := 13, constantValue := 0 }]
  methods := #[k5m0, k5m1]
  instanceTypes := #[]
  staticTypes := #[(.object "java/io/InputStream"), (.object "java/io/PrintStream"), (.object "java/io/PrintStream"), (.object "java/io/InputStream"), .int, .int, .int, (.object "java/lang/SecurityManager"), (.object "java/lang/String"), (.object "java/io/Console"), (.object "java/io/PrintStream"), (.object "java/util/Properties"), (.object "java/lang/String"), (.object "java/lang/ModuleLayer")]
  resolved := Array.replicate 834 none
  statics := none }

def pool6 : Array CpInfo := pool [(1, u "java/lang/Cloneable"), (0, .class_ 1), (0, u "java/lang/Object"), (0, .class_ 3)] 3

/-- java/lang/Cloneable -/
def k6 : Class := { plain "java/lang/Cloneable" (some 0) with
  accessFlags := 1537
  interfaces := #[]
  cf := some (fileOf pool6 2 #[] #[] 1537 4 #[] #[])
  fields := #[]
  methods := #[]
  instanceTypes := #[]
  staticTypes := #[]
  resolved := Array.replicate 8 none
  statics := none }

def pool7 : Array CpInfo := pool [(1, u "java/io/Serializable"), (0, .class_ 1), (0, u "java/lang/Object"), (0, .class_ 3)] 3

/-- java/io/Serializable -/
def k7 : Class := { plain "java/io/Serializable" (some 0) with
  accessFlags := 1537
  interfaces := #[]
  cf := some (fileOf pool7 2 #[] #[] 1537 4 #[] #[])
  fields := #[]
  methods := #[]
  instanceTypes := #[]
  staticTypes := #[]
  resolved := Array.replicate 8 none
  statics := none }

/-- the primitive byte -/
def k8 : Class := { plain "byte" none with kind := .primitive 'B', accessFlags := 0x411 }
/-- [B -/
def k9 : Class := { plain "[B" (some 0) with kind := .array 8 .byte, interfaces := #[6, 7], accessFlags := 1041 }

/-- the primitive int -/
def k10 : Class := { plain "int" none with kind := .primitive 'I', accessFlags := 0x411 }
/-- [I -/
def k11 : Class := { plain "[I" (some 0) with kind := .array 10 .int, interfaces := #[6, 7], accessFlags := 1041 }

/-- the primitive long -/
def k12 : Class := { plain "long" none with kind := .primitive 'J', accessFlags := 0x411 }
/-- [J -/
def k13 : Class := { plain "[J" (some 0) with kind := .array 12 .long, interfaces := #[6, 7], accessFlags := 1041 }

/-- [[J -/
def k14 : Class := { plain "[[J" (some 0) with kind := .array 13 (.array .long), interfaces := #[6, 7], accessFlags := 1041 }
def heap : Heap := #[]
def classes : Array Class := #[k0, k1, k2, k3, k4, k5, k6, k7, k8, k9, k10, k11, k12, k13, k14]
def interned : List (Array UInt16 × Addr) := []
def slotsUsed : Nat := 0
def theMethod : MethodId := ⟨1, 1⟩
def args0 : Array Value := #[.long 5, .long 5, .long 5, .long 5, .long 5, .int 9]
def aboutOver (below : List Frame) : State where
  vm := { classes := classes, interned := interned.toArray }
  heap := heap
  slotsUsed := slotsUsed
  threads := #[{ frames := .invoking theMethod args0 :: below }]
def below0 : List Frame := [.native { method := ⟨0, 0⟩, args := #[] }]
def about1 : State := aboutOver below0
def p0 : Program := .bare "" "" ""
def e0 : Env := launch0.env 0 0 0
theorem w_frames : about1.frames = Frame.invoking theMethod args0 :: below0 := rfl
set_option maxRecDepth 65536 in
theorem w_args : argsFit about1.vm theMethod args0 = true := by decide +kernel
set_option maxRecDepth 65536 in
theorem w_heap : heapFits about1 = true := by decide +kernel
set_option maxRecDepth 65536 in
theorem w_runnable : about1.curStatus? = some .runnable := by decide +kernel
set_option maxRecDepth 65536 in
theorem w_alone : about1.alone = true := by decide +kernel
set_option maxRecDepth 65536 in
theorem w_named : about1.methodNamed? x = some theMethod := by decide +kernel
set_option maxRecDepth 65536 in
theorem w_hears : about1.hears theMethod below0 = true := by decide +kernel
set_option maxRecDepth 65536 in
theorem w_ripe : about1.ripe theMethod args0 below0 = true := by decide +kernel
theorem w_running : about1.status = .running := rfl
set_option maxRecDepth 65536 in
theorem w_room : about1.hasRoom e0.platform room_1 = true :=
  launch0.hasRoom_least _ room_1 (by decide +kernel) (by decide +kernel) (by decide +kernel) (by decide +kernel) (by decide +kernel) (by decide +kernel)
theorem allAtoms_all (ts : List Jvm.Cond) (a : Array Jvm.Value) (st : Jvm.State) : (allAtoms ts).before a st = ts.all (fun c => c.before a st) := by
  induction ts with
  | nil => rfl
  | cons c t ih =>
    show (Jvm.Cond.and c (allAtoms t)).before a st = _
    rw [Jvm.Cond.before_and, ih, List.all_cons]
def words1 : List Jvm.Cond := Jvm.Cond.code x code maxLocals ret :: tables_1
/-- a 'code' word, met by the world's own term for the bytes: nothing is compared byte by byte -/
theorem code_word {y : MethodName} {bytes : ByteArray} {mx : Nat} {rt : Option FieldType} {a : Array Value} {s : State} {m : MethodId} {meth : Method} {c : Code} (h1 : s.methodNamed? y = some m) (h2 : s.vm.method? m = some meth) (h3 : meth.code = some c) (h4 : c.code = bytes)
    (h5 : (c.maxLocals == mx && c.exceptionTable.isEmpty && decide (c.maxStack ≤ mostOperands) && decide (meth.sig.returnType = rt) && !meth.locks && decide (parseMethodDescriptor y.desc = some meth.sig)) = true) : (Jvm.Cond.code y bytes mx rt).before a s = true := by
  simp only [Bool.and_eq_true, beq_iff_eq, Bool.not_eq_true', decide_eq_true_eq] at h5
  obtain ⟨⟨⟨⟨⟨g1, g2⟩, g3⟩, g4⟩, g5⟩, g6⟩ := h5
  simp [Cond.before, Cond.holds, Cond.value, h1, h2, h3, h4, g1, g2, g3, g4, g5, g6]
def isCode : Jvm.Cond → Bool
  | .code _ _ _ _ => true
  | _ => false
theorem all_split {L : List Jvm.Cond} {P : Jvm.Cond → Bool} (h1 : L.all (fun c => isCode c || P c) = true) (h2 : ∀ c ∈ L.filter isCode, P c = true) : L.all P = true := by
  refine List.all_eq_true.mpr fun c hc => ?_
  have h := List.all_eq_true.mp h1 c hc
  rcases Bool.eq_false_or_eq_true (isCode c) with hi | hi
  · exact h2 c (List.mem_filter.mpr ⟨hc, hi⟩)
  · simpa [hi] using h
set_option maxRecDepth 65536 in
theorem w_c0 : (Jvm.Cond.code x code maxLocals ret).before args0 about1 = true := code_word (m := ⟨1, 1⟩) (meth := k1m1) (c := k1c1) (by decide +kernel) rfl rfl rfl (by decide +kernel)
set_option maxRecDepth 65536 in
theorem w_c1 : (Jvm.Cond.code ({ cls := "com/example/precedence/precedence/LongHeaps", name := "<init>", desc := "(I)V" } : Jvm.MethodName) prog_58_method_1_code (2 : Nat) (Option.none : Option Jvm.ClassFile.FieldType)).before args0 about1 = true := code_word (m := ⟨2, 0⟩) (meth := k2m0) (c := k2c0) (by decide +kernel) rfl rfl rfl (by decide +kernel)
set_option maxRecDepth 65536 in
theorem w_c2 : (Jvm.Cond.code ({ cls := "java/lang/Object", name := "<init>", desc := "()V" } : Jvm.MethodName) object_method_1_code (1 : Nat) (Option.none : Option Jvm.ClassFile.FieldType)).before args0 about1 = true := code_word (m := ⟨0, 0⟩) (meth := k0m0) (c := k0c0) (by decide +kernel) rfl rfl rfl (by decide +kernel)
set_option maxRecDepth 65536 in
theorem w_c3 : (Jvm.Cond.code ({ cls := "com/example/precedence/precedence/LongHeaps", name := "add", desc := "(IJ)V" } : Jvm.MethodName) prog_58_method_3_code (6 : Nat) (Option.none : Option Jvm.ClassFile.FieldType)).before args0 about1 = true := code_word (m := ⟨2, 1⟩) (meth := k2m1) (c := k2c1) (by decide +kernel) rfl rfl rfl (by decide +kernel)
set_option maxRecDepth 65536 in
theorem w_c4 : (Jvm.Cond.code ({ cls := "java/util/Arrays", name := "copyOf", desc := "([JI)[J" } : Jvm.MethodName) jdk_65_method_124_code (3 : Nat) (Option.some (Jvm.ClassFile.FieldType.array Jvm.ClassFile.FieldType.long))).before args0 about1 = true := code_word (m := ⟨3, 1⟩) (meth := k3m1) (c := k3c1) (by decide +kernel) rfl rfl rfl (by decide +kernel)
set_option maxRecDepth 65536 in
theorem w_c5 : (Jvm.Cond.code ({ cls := "java/lang/Math", name := "min", desc := "(II)I" } : Jvm.MethodName) jdk_29_method_69_code (2 : Nat) (Option.some Jvm.ClassFile.FieldType.int)).before args0 about1 = true := code_word (m := ⟨4, 1⟩) (meth := k4m1) (c := k4c1) (by decide +kernel) rfl rfl rfl (by decide +kernel)
set_option maxRecDepth 65536 in
theorem w_c6 : (Jvm.Cond.code ({ cls := "com/example/precedence/precedence/LongHeaps", name := "poll", desc := "(I)J" } : Jvm.MethodName) prog_58_method_5_code (10 : Nat) (Option.some Jvm.ClassFile.FieldType.long)).before args0 about1 = true := code_word (m := ⟨2, 2⟩) (meth := k2m2) (c := k2c2) (by decide +kernel) rfl rfl rfl (by decide +kernel)
set_option maxRecDepth 65536 in
theorem w_c7 : (Jvm.Cond.code ({ cls := "com/example/precedence/precedence/LongHeapsPollPinLaw", name := "count5", desc := "(JJJJJJ)I" } : Jvm.MethodName) method_3_code (13 : Nat) (Option.some Jvm.ClassFile.FieldType.int)).before args0 about1 = true := code_word (m := ⟨1, 2⟩) (meth := k1m2) (c := k1c2) (by decide +kernel) rfl rfl rfl (by decide +kernel)
def codes1 : List Jvm.Cond := [Jvm.Cond.code x code maxLocals ret, Jvm.Cond.code ({ cls := "com/example/precedence/precedence/LongHeaps", name := "<init>", desc := "(I)V" } : Jvm.MethodName) prog_58_method_1_code (2 : Nat) (Option.none : Option Jvm.ClassFile.FieldType), Jvm.Cond.code ({ cls := "java/lang/Object", name := "<init>", desc := "()V" } : Jvm.MethodName) object_method_1_code (1 : Nat) (Option.none : Option Jvm.ClassFile.FieldType), Jvm.Cond.code ({ cls := "com/example/precedence/precedence/LongHeaps", name := "add", desc := "(IJ)V" } : Jvm.MethodName) prog_58_method_3_code (6 : Nat) (Option.none : Option Jvm.ClassFile.FieldType), Jvm.Cond.code ({ cls := "java/util/Arrays", name := "copyOf", desc := "([JI)[J" } : Jvm.MethodName) jdk_65_method_124_code (3 : Nat) (Option.some (Jvm.ClassFile.FieldType.array Jvm.ClassFile.FieldType.long)), Jvm.Cond.code ({ cls := "java/lang/Math", name := "min", desc := "(II)I" } : Jvm.MethodName) jdk_29_method_69_code (2 : Nat) (Option.some Jvm.ClassFile.FieldType.int), Jvm.Cond.code ({ cls := "com/example/precedence/precedence/LongHeaps", name := "poll", desc := "(I)J" } : Jvm.MethodName) prog_58_method_5_code (10 : Nat) (Option.some Jvm.ClassFile.FieldType.long), Jvm.Cond.code ({ cls := "com/example/precedence/precedence/LongHeapsPollPinLaw", name := "count5", desc := "(JJJJJJ)I" } : Jvm.MethodName) method_3_code (13 : Nat) (Option.some Jvm.ClassFile.FieldType.int)]
set_option maxRecDepth 65536 in
theorem codes_eq : words1.filter isCode = codes1 := rfl
theorem w_codes : ∀ c ∈ words1.filter isCode, c.before args0 about1 = true := by
  rw [codes_eq]
  intro c hc
  simp only [codes1, List.mem_cons, List.not_mem_nil, or_false] at hc
  rcases hc with rfl | rfl | rfl | rfl | rfl | rfl | rfl | rfl
  · exact w_c0
  · exact w_c1
  · exact w_c2
  · exact w_c3
  · exact w_c4
  · exact w_c5
  · exact w_c6
  · exact w_c7
set_option maxRecDepth 65536 in
theorem w_t1 : (words1.take 24).all (fun c => isCode c || c.before args0 about1) = true := by decide +kernel
set_option maxRecDepth 65536 in
theorem w_t2 : (words1.drop 24).all (fun c => isCode c || c.before args0 about1) = true := by decide +kernel
theorem w_tables : (allAtoms (Jvm.Cond.code x code maxLocals ret :: tables_1)).before args0 about1 = true := by
  rw [allAtoms_all]
  show words1.all (fun c => c.before args0 about1) = true
  refine all_split ?_ w_codes
  rw [← List.take_append_drop 24 words1, List.all_append, w_t1, w_t2]
  rfl
set_option maxRecDepth 65536 in
theorem w_case : (Jvm.Cond.and given_1 narrow_1).before args0 about1 = true := by decide +kernel
theorem w_applies : (headSpec (Jvm.Cond.code x code maxLocals ret :: tables_1) room_1).applies x e0.platform about1 = true :=
  (Spec.applies_iff w_frames).mpr ⟨w_running, w_runnable, w_alone, w_named, w_hears, w_ripe, w_room, w_tables⟩
theorem atStart : AtStart classFile x code maxLocals ret World_1 tables_1 room_1 Calls_1 rest_1 Pre_1 launch0 p0 e0 about1 theMethod args0 below0 :=
  ⟨lists_1, trivial, launch0.admits_env _ _ _, launch0.least_env, fairChoices_fair.cas, fairChoices_fair.clock, w_frames, w_args, w_heap, w_applies, trivial, trivial, w_case⟩
end start1
theorem witness_1 : WitnessClaimed_1 := ⟨start1.p0, start1.e0, start1.about1, start1.theMethod, start1.args0, start1.below0, start1.atStart⟩
end Jvm.Pilot.@@N@@
