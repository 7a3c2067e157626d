import JvmDerived
import JvmDerived.Pilot.@@N@@Statement
import JvmDerived.Pilot.@@N@@Code
set_option linter.unusedVariables false
set_option linter.unusedSimpArgs false
namespace Jvm.RoadKit
open Sem ClassFile Op Lib Jvm.Stand Jvm.Free Jvm.LawKit
section New
variable {p : Program} {l : Launch} {e : Env} {R : Room} {s : State} {m : MethodId} {args : Array Value} {below : List Frame} {meth : Method} {c : Code} {T : State} {locs : List Loc} {cells slots : Nat}
theorem retI (X : Stand p l e R s m args below meth c T locs cells slots) (hx : p.tables.exec = Jvm.exec) {pc : Nat} {Ls : Array Slot} {z : Int32} {rest : List Value} (hret : meth.sig.returnType = some .int) (hd : decode c.code pc = .ok (.ireturn, 1)) {fs : List Frame}
    (hl : ∀ (f : JFrame) (acts : List Action), f.method = m → f.locked = none → f.entered = [] → (doReturn e (T.setTop f) acts (some (.int z))).1 = T.setFrames fs) : Steps p.tables e below (T.setTop (mkF m pc Ls (.int z :: rest))) (T.setFrames fs) := by
  have hm' : T.vm.method? m = some meth := X.method'
  have hn : narrow .int (.int z) = .int z := rfl
  show Steps p.tables e below (T.setTop { method := m, pc := pc, locals := Ls, stack := _ :: rest, locked := none }) _
  jvm_step X.here [X.here.top, hx, hd, hm', hret, hn]
  first | (intro acts; rw [hl _ acts rfl rfl rfl]) | rw [hl _ _ rfl rfl rfl]
  exact Steps.refl _
end New
end Jvm.RoadKit
namespace Jvm.Pilot.@@N@@
open Jvm Jvm.ClassFile Sem Op Lib Jvm.Free Jvm.Stand Jvm.LawKit Jvm.RoadKit Bundle Jvm.Pilot.@@N@@.Jvm.D
section OwnKit
variable {p : Program} {l : Launch} {e : Env} {R : Room} {s : State} {m : MethodId} {args : Array Value} {below : List Frame} {meth : Method} {c : Code} {Z : State} {a0 : Array Value} {cd : ByteArray} {ml : Nat} {ret : Option FieldType} {own nm : String} {n0 : Nat} {Q : Option Value → Heap → Prop} {h : Heap} {k n : Nat}
/-- what stands fast while one body runs -/
def Cx (p : Program) (s : State) (m : MethodId) (meth : Method) (c : Code) (Z : State) (cd : ByteArray) (ml : Nat) (ret : Option FieldType) (own nm : String) : Prop :=
  p.tables.exec = Jvm.exec ∧ Z.Warmed39 s.vm ∧ c.code = cd ∧ c.maxLocals = ml ∧ s.vm.findClass own = some m.cls ∧ meth.sig.returnType = ret ∧ meth.locks = false ∧ meth.name = nm
/-- from this frame, over this heap, the body returns and Q holds -/
def Wp (p : Program) (l : Launch) (e : Env) (R : Room) (s : State) (m : MethodId) (args : Array Value) (below : List Frame) (meth : Method) (c : Code) (n0 : Nat) (Q : Option Value → Heap → Prop) (h : Heap) (k n : Nat) (g : JFrame) : Prop :=
  ∀ (T : State) (locs : List Loc), Stand p l e R s m args below meth c T locs k n → T.heap = h → Fr n0 locs →
    ∃ s₂ o, Steps p.tables e below (T.setTop g) s₂ ∧ s₂.status = .running ∧ Ended s₂ below o ∧ ∃ v L, o = .returned v ∧ (Q v s₂.heap ∧ Fr n0 L) ∧ FrameEnd s o s₂ L R.cells R.slots
/-- a callee's contract: called with these arguments over this heap it returns, and Q holds -/
def Met (l : Launch) (y : MethodName) (bytes : ByteArray) (mL : Nat) (rt : Option FieldType) (ws : List Jvm.Cond) (rm : Room) (Z : State) (n0 : Nat) (as : Array Value) (h : Heap) (Q : Option Value → Heap → Prop) : Prop :=
  MetFree l y (head1 (Jvm.Cond.code y bytes mL rt :: ws) rm) (fun a U => a = as ∧ Z.Warmed39 U.vm ∧ U.heap = h) (fun _ _ _ _ _ => True) (fun _ U o U' => ∃ v L, o = .returned v ∧ (Q v U'.heap ∧ Fr n0 L) ∧ FrameEnd U o U' L rm.cells rm.slots)
theorem own_met {y : MethodName} {bytes : ByteArray} {mL : Nat} {rt : Option FieldType} {ws : List Jvm.Cond} {rm : Room} {as : Array Value} {Ls : Array Slot} (hpn : plainName y.cls = true) (hef : ∀ m, entryFrame m as mL = mkF m 0 Ls [])
    (H : ∀ p e s m below meth c, Cx p s m meth c Z bytes mL rt y.cls y.name → Wp p l e rm s m as below meth c n0 Q h 0 0 (mkF m 0 Ls [])) : Met l y bytes mL rt ws rm Z n0 as h Q := by
  refine MetFree.of_bodySF (plainFor_of_name hpn) hisR ?_
  intro p e s m args below meth c s₁ Bd hml0 hP hK
  obtain ⟨rfl, hZ, hh⟩ := hP
  have hown : s.vm.findClass y.cls = some m.cls := findClass_of_methodNamed Bd.named
  have hnm := (name_of_methodNamed Bd.named Bd.method).1
  have X0 : Stand p l e rm s m args below meth c s₁ [] 0 0 := Stand.of_body Bd
  have e0 : s₁.heap = h := by rw [← hh, Bd.state]; rfl
  obtain ⟨s₂, o, st, r⟩ := H p e s m below meth c ⟨Bd.exec, hZ, Bd.bytes, hml0, hown, Bd.returns, Bd.notSynchronized, hnm⟩ s₁ [] X0 e0 (Fr.nil n0)
  exact ⟨s₂, o, castTop (hef m) st, r⟩
/-! single steps -/
theorem own_lift {g g' : JFrame} (H : ∀ T, At T m c below → ∀ t, Steps p.tables e below (T.setTop g') t → Steps p.tables e below (T.setTop g) t) (W : Wp p l e R s m args below meth c n0 Q h k n g') : Wp p l e R s m args below meth c n0 Q h k n g := fun T locs X eT N => by
  obtain ⟨s₂, o, st, r⟩ := W T locs X eT N
  exact ⟨s₂, o, H T X.here _ st, r⟩
theorem own_liftX {g g' : JFrame} (H : ∀ T locs, Stand p l e R s m args below meth c T locs k n → T.heap = h → ∀ t, Steps p.tables e below (T.setTop g') t → Steps p.tables e below (T.setTop g) t) (W : Wp p l e R s m args below meth c n0 Q h k n g') : Wp p l e R s m args below meth c n0 Q h k n g := fun T locs X eT N => by
  obtain ⟨s₂, o, st, r⟩ := W T locs X eT N
  exact ⟨s₂, o, H T locs X eT _ st, r⟩
theorem own_cast {g g' : JFrame} (q : g = g') (W : Wp p l e R s m args below meth c n0 Q h k n g') : Wp p l e R s m args below meth c n0 Q h k n g := q ▸ W
theorem own_seq {g g' : JFrame} (t : Wp p l e R s m args below meth c n0 Q h k n g' → Wp p l e R s m args below meth c n0 Q h k n g) (w : Wp p l e R s m args below meth c n0 Q h k n g') : Wp p l e R s m args below meth c n0 Q h k n g := t w
theorem own_seq1 {g : JFrame} {F : Slot → JFrame} (t : (∀ u, RoadKit.One u → Wp p l e R s m args below meth c n0 Q h k n (F u)) → Wp p l e R s m args below meth c n0 Q h k n g) (w : ∀ u, RoadKit.One u → Wp p l e R s m args below meth c n0 Q h k n (F u)) : Wp p l e R s m args below meth c n0 Q h k n g := t w
theorem own_seq2 {g : JFrame} {F : Slot → Slot → JFrame} (t : (∀ u, RoadKit.One u → ∀ v, RoadKit.One v → Wp p l e R s m args below meth c n0 Q h k n (F u v)) → Wp p l e R s m args below meth c n0 Q h k n g) (w : ∀ u, RoadKit.One u → ∀ v, RoadKit.One v → Wp p l e R s m args below meth c n0 Q h k n (F u v)) : Wp p l e R s m args below meth c n0 Q h k n g := t w
theorem own_seqH {g g' : JFrame} {P : Heap → Prop} {k' n' : Nat} (t : (∀ h', P h' → Wp p l e R s m args below meth c n0 Q h' k' n' g') → Wp p l e R s m args below meth c n0 Q h k n g) (w : ∀ h', P h' → Wp p l e R s m args below meth c n0 Q h' k' n' g') : Wp p l e R s m args below meth c n0 Q h k n g := t w
variable {pc pc' : Nat} {Ls Ls' : Array Slot} {st : List Value}
theorem own_iload (C : Cx p s m meth c Z cd ml ret own nm) {i : Nat} {v : Int32} (hd : decode cd pc = .ok (.iload i, 2)) (hl : Ls[i]? = some (.val (.int v))) (hp : pc + 2 = pc') (W : Wp p l e R s m args below meth c n0 Q h k n (mkF m pc' Ls (.int v :: st))) : Wp p l e R s m args below meth c n0 Q h k n (mkF m pc Ls st) := by
  subst hp; exact own_lift (fun T A t q => XS.iload A C.1 rfl (hb C.2.2.1 hd) hl q) W
theorem own_iloadN (C : Cx p s m meth c Z cd ml ret own nm) {i : Fin 4} {v : Int32} (hd : decode cd pc = .ok (.iload_n i, 1)) (hl : Ls[i.val]? = some (.val (.int v))) (hp : pc + 1 = pc') (W : Wp p l e R s m args below meth c n0 Q h k n (mkF m pc' Ls (.int v :: st))) : Wp p l e R s m args below meth c n0 Q h k n (mkF m pc Ls st) := by
  subst hp; exact own_lift (fun T A t q => XS.iloadN A C.1 rfl (hb C.2.2.1 hd) hl q) W
theorem own_lload (C : Cx p s m meth c Z cd ml ret own nm) {i : Nat} {v : Int64} (hd : decode cd pc = .ok (.lload i, 2)) (hl : Ls[i]? = some (.val (.long v))) (hp : pc + 2 = pc') (W : Wp p l e R s m args below meth c n0 Q h k n (mkF m pc' Ls (.long v :: st))) : Wp p l e R s m args below meth c n0 Q h k n (mkF m pc Ls st) := by
  subst hp; exact own_lift (fun T A t q => XS.lload A C.1 rfl (hb C.2.2.1 hd) hl q) W
theorem own_lloadN (C : Cx p s m meth c Z cd ml ret own nm) {i : Fin 4} {v : Int64} (hd : decode cd pc = .ok (.lload_n i, 1)) (hl : Ls[i.val]? = some (.val (.long v))) (hp : pc + 1 = pc') (W : Wp p l e R s m args below meth c n0 Q h k n (mkF m pc' Ls (.long v :: st))) : Wp p l e R s m args below meth c n0 Q h k n (mkF m pc Ls st) := by
  subst hp; exact own_lift (fun T A t q => XS.lloadN A C.1 rfl (hb C.2.2.1 hd) hl q) W
theorem own_aload (C : Cx p s m meth c Z cd ml ret own nm) {i : Nat} {v : Value} (hd : decode cd pc = .ok (.aload i, 2)) (hl : Ls[i]? = some (.val v)) (hv : v.isRef = true) (hp : pc + 2 = pc') (W : Wp p l e R s m args below meth c n0 Q h k n (mkF m pc' Ls (v :: st))) : Wp p l e R s m args below meth c n0 Q h k n (mkF m pc Ls st) := by
  subst hp; exact own_lift (fun T A t q => XS.aload A C.1 rfl (hb C.2.2.1 hd) hl hv q) W
theorem own_aloadN (C : Cx p s m meth c Z cd ml ret own nm) {i : Fin 4} {v : Value} (hd : decode cd pc = .ok (.aload_n i, 1)) (hl : Ls[i.val]? = some (.val v)) (hv : v.isRef = true) (hp : pc + 1 = pc') (W : Wp p l e R s m args below meth c n0 Q h k n (mkF m pc' Ls (v :: st))) : Wp p l e R s m args below meth c n0 Q h k n (mkF m pc Ls st) := by
  subst hp; exact own_lift (fun T A t q => XS.aloadN A C.1 rfl (hb C.2.2.1 hd) hl hv q) W
theorem own_istore (C : Cx p s m meth c Z cd ml ret own nm) {i : Nat} {x y : Int32} (hd : decode cd pc = .ok (.istore i, 2)) (hy : x = y) (hl : storeLocals Ls i (.int y) = some Ls') (hp : pc + 2 = pc') (W : Wp p l e R s m args below meth c n0 Q h k n (mkF m pc' Ls' st)) : Wp p l e R s m args below meth c n0 Q h k n (mkF m pc Ls (.int x :: st)) := by
  subst hp hy; exact own_lift (fun T A t q => XS.istore A C.1 rfl (hb C.2.2.1 hd) rfl hl q) W
theorem own_istoreN (C : Cx p s m meth c Z cd ml ret own nm) {i : Fin 4} {x y : Int32} (hd : decode cd pc = .ok (.istore_n i, 1)) (hy : x = y) (hl : storeLocals Ls i.val (.int y) = some Ls') (hp : pc + 1 = pc') (W : Wp p l e R s m args below meth c n0 Q h k n (mkF m pc' Ls' st)) : Wp p l e R s m args below meth c n0 Q h k n (mkF m pc Ls (.int x :: st)) := by
  subst hp hy; exact own_lift (fun T A t q => XS.istoreN A C.1 rfl (hb C.2.2.1 hd) rfl hl q) W
theorem own_lstore (C : Cx p s m meth c Z cd ml ret own nm) {i : Nat} {x y : Int64} (hd : decode cd pc = .ok (.lstore i, 2)) (hy : x = y) (hl : storeLocals Ls i (.long y) = some Ls') (hp : pc + 2 = pc') (W : Wp p l e R s m args below meth c n0 Q h k n (mkF m pc' Ls' st)) : Wp p l e R s m args below meth c n0 Q h k n (mkF m pc Ls (.long x :: st)) := by
  subst hp hy; exact own_lift (fun T A t q => XS.lstore A C.1 rfl (hb C.2.2.1 hd) rfl hl q) W
theorem own_lstoreN (C : Cx p s m meth c Z cd ml ret own nm) {i : Fin 4} {x y : Int64} (hd : decode cd pc = .ok (.lstore_n i, 1)) (hy : x = y) (hl : storeLocals Ls i.val (.long y) = some Ls') (hp : pc + 1 = pc') (W : Wp p l e R s m args below meth c n0 Q h k n (mkF m pc' Ls' st)) : Wp p l e R s m args below meth c n0 Q h k n (mkF m pc Ls (.long x :: st)) := by
  subst hp hy; exact own_lift (fun T A t q => XS.lstoreN A C.1 rfl (hb C.2.2.1 hd) rfl hl q) W
theorem own_astore (C : Cx p s m meth c Z cd ml ret own nm) {i : Nat} {x : Value} (hd : decode cd pc = .ok (.astore i, 2)) (hv : x.isRef = true) (hl : storeLocals Ls i x = some Ls') (hp : pc + 2 = pc') (W : Wp p l e R s m args below meth c n0 Q h k n (mkF m pc' Ls' st)) : Wp p l e R s m args below meth c n0 Q h k n (mkF m pc Ls (x :: st)) := by
  subst hp; exact own_lift (fun T A t q => XS.astore A C.1 rfl (hb C.2.2.1 hd) rfl hv hl q) W
theorem own_astoreN (C : Cx p s m meth c Z cd ml ret own nm) {i : Fin 4} {x : Value} (hd : decode cd pc = .ok (.astore_n i, 1)) (hv : x.isRef = true) (hl : storeLocals Ls i.val x = some Ls') (hp : pc + 1 = pc') (W : Wp p l e R s m args below meth c n0 Q h k n (mkF m pc' Ls' st)) : Wp p l e R s m args below meth c n0 Q h k n (mkF m pc Ls (x :: st)) := by
  subst hp; exact own_lift (fun T A t q => XS.astoreN A C.1 rfl (hb C.2.2.1 hd) rfl hv hl q) W
theorem own_iconst (C : Cx p s m meth c Z cd ml ret own nm) {i : Int} {v : Int32} (hd : decode cd pc = .ok (.iconst i, 1)) (hv : Int32.ofInt i = v) (hp : pc + 1 = pc') (W : Wp p l e R s m args below meth c n0 Q h k n (mkF m pc' Ls (.int v :: st))) : Wp p l e R s m args below meth c n0 Q h k n (mkF m pc Ls st) := by
  subst hp hv; exact own_lift (fun T A t q => XS.iconst A C.1 rfl (hb C.2.2.1 hd) q) W
theorem own_bipush (C : Cx p s m meth c Z cd ml ret own nm) {i : Int} {v : Int32} (hd : decode cd pc = .ok (.bipush i, 2)) (hv : (Int8.ofInt i).toInt32 = v) (hp : pc + 2 = pc') (W : Wp p l e R s m args below meth c n0 Q h k n (mkF m pc' Ls (.int v :: st))) : Wp p l e R s m args below meth c n0 Q h k n (mkF m pc Ls st) := by
  subst hp hv; exact own_lift (fun T A t q => XS.bipush A C.1 rfl (hb C.2.2.1 hd) q) W
theorem own_sipush (C : Cx p s m meth c Z cd ml ret own nm) {i : Int} {v : Int32} (hd : decode cd pc = .ok (.sipush i, 3)) (hv : (Int16.ofInt i).toInt32 = v) (hp : pc + 3 = pc') (W : Wp p l e R s m args below meth c n0 Q h k n (mkF m pc' Ls (.int v :: st))) : Wp p l e R s m args below meth c n0 Q h k n (mkF m pc Ls st) := by
  subst hp hv; exact own_lift (fun T A t q => XS.sipush A C.1 rfl (hb C.2.2.1 hd) q) W
theorem own_lconst (C : Cx p s m meth c Z cd ml ret own nm) {i : Fin 2} {v : Int64} (hd : decode cd pc = .ok (.lconst i, 1)) (hv : Int64.ofNat i.val = v) (hp : pc + 1 = pc') (W : Wp p l e R s m args below meth c n0 Q h k n (mkF m pc' Ls (.long v :: st))) : Wp p l e R s m args below meth c n0 Q h k n (mkF m pc Ls st) := by
  subst hp hv; exact own_lift (fun T A t q => XS.lconst A C.1 rfl (hb C.2.2.1 hd) q) W
theorem own_null (C : Cx p s m meth c Z cd ml ret own nm) (hd : decode cd pc = .ok (.aconst_null, 1)) (hp : pc + 1 = pc') (W : Wp p l e R s m args below meth c n0 Q h k n (mkF m pc' Ls (.null :: st))) : Wp p l e R s m args below meth c n0 Q h k n (mkF m pc Ls st) := by
  subst hp; exact own_lift (fun T A t q => XS.aconstNull A C.1 rfl (hb C.2.2.1 hd) q) W
/-! returns -/
theorem own_vret (C : Cx p s m meth c Z cd ml none own nm) (hd : decode cd pc = .ok (.return_, 1)) (hk : k ≤ R.cells) (hn : n ≤ R.slots) (hq : Q none h) : Wp p l e R s m args below meth c n0 Q h k n (mkF m pc Ls []) := fun T locs X eT N => by
  obtain ⟨hx, hZ, hby, hml, hown, hret, hlk, hnm⟩ := C
  obtain ⟨fs, hr, hrun, hended, hW, hsame⟩ := X.leave (v := none) (fun _ => rfl) hlk
  exact ⟨_, _, X.returnOut hx hret (hb hby hd) hr, hrun, hended, _, _, rfl, ⟨by rw [show (T.setFrames fs).heap = T.heap from rfl, eT]; exact hq, N⟩, ⟨_, rfl⟩, hW, hsame.mono hk hn⟩
theorem own_iret {z : Int32} (C : Cx p s m meth c Z cd ml (some .int) own nm) (hd : decode cd pc = .ok (.ireturn, 1)) (hk : k ≤ R.cells) (hn : n ≤ R.slots) (hq : Q (some (.int z)) h) : Wp p l e R s m args below meth c n0 Q h k n (mkF m pc Ls (.int z :: st)) := fun T locs X eT N => by
  obtain ⟨hx, hZ, hby, hml, hown, hret, hlk, hnm⟩ := C
  obtain ⟨fs, hr, hrun, hended, hW, hsame⟩ := X.leave (v := some (.int z)) (fun q => by rw [hret] at q; cases q) hlk
  exact ⟨_, _, retI X hx hret (hb hby hd) hr, hrun, hended, _, _, rfl, ⟨by rw [show (T.setFrames fs).heap = T.heap from rfl, eT]; exact hq, N⟩, ⟨_, rfl⟩, hW, hsame.mono hk hn⟩
theorem own_nret {z : Int32} {t : FieldType} (C : Cx p s m meth c Z cd ml (some t) own nm) (ht : t = .boolean ∨ t = .byte ∨ t = .char ∨ t = .short) (hd : decode cd pc = .ok (.ireturn, 1)) (hk : k ≤ R.cells) (hn : n ≤ R.slots) (hq : Q (some (.int (nar t z))) h) : Wp p l e R s m args below meth c n0 Q h k n (mkF m pc Ls (.int z :: st)) := fun T locs X eT N => by
  obtain ⟨hx, hZ, hby, hml, hown, hret, hlk, hnm⟩ := C
  obtain ⟨fs, hr, hrun, hended, hW, hsame⟩ := X.leave (v := some (.int (nar t z))) (fun q => by rw [hret] at q; cases q) hlk
  exact ⟨_, _, retN X hx hret ht (hb hby hd) hr, hrun, hended, _, _, rfl, ⟨by rw [show (T.setFrames fs).heap = T.heap from rfl, eT]; exact hq, N⟩, ⟨_, rfl⟩, hW, hsame.mono hk hn⟩
theorem own_zret {z : Int32} (C : Cx p s m meth c Z cd ml (some .boolean) own nm) (hd : decode cd pc = .ok (.ireturn, 1)) (hk : k ≤ R.cells) (hn : n ≤ R.slots) (hz : z = 0 ∨ z = 1) (hq : Q (some (.int z)) h) : Wp p l e R s m args below meth c n0 Q h k n (mkF m pc Ls (.int z :: st)) :=
  own_nret C (Or.inl rfl) hd hk hn (by rcases hz with rfl | rfl <;> exact hq)
theorem own_lret {z : Int64} (C : Cx p s m meth c Z cd ml (some .long) own nm) (hd : decode cd pc = .ok (.lreturn, 1)) (hk : k ≤ R.cells) (hn : n ≤ R.slots) (hq : Q (some (.long z)) h) : Wp p l e R s m args below meth c n0 Q h k n (mkF m pc Ls [.long z]) := fun T locs X eT N => by
  obtain ⟨hx, hZ, hby, hml, hown, hret, hlk, hnm⟩ := C
  obtain ⟨fs, hr, hrun, hended, hW, hsame⟩ := X.leave (v := some (.long z)) (fun q => by rw [hret] at q; cases q) hlk
  exact ⟨_, _, X.lreturnOut hx hret (hb hby hd) hr, hrun, hended, _, _, rfl, ⟨by rw [show (T.setFrames fs).heap = T.heap from rfl, eT]; exact hq, N⟩, ⟨_, rfl⟩, hW, hsame.mono hk hn⟩
theorem own_aret {z : Value} {t : FieldType} (C : Cx p s m meth c Z cd ml (some t) own nm) (hv : z.isRef = true) (ht : t.isReference = true) (hd : decode cd pc = .ok (.areturn, 1)) (hk : k ≤ R.cells) (hn : n ≤ R.slots) (hq : Q (some z) h) : Wp p l e R s m args below meth c n0 Q h k n (mkF m pc Ls (z :: st)) := fun T locs X eT N => by
  obtain ⟨hx, hZ, hby, hml, hown, hret, hlk, hnm⟩ := C
  obtain ⟨fs, hr, hrun, hended, hW, hsame⟩ := X.leave (v := some z) (fun q => by rw [hret] at q; cases q) hlk
  have hd' := hb hby hd
  refine ⟨_, _, ?_, hrun, hended, _, _, rfl, ⟨by rw [show (T.setFrames fs).heap = T.heap from rfl, eT]; exact hq, N⟩, ⟨_, rfl⟩, hW, hsame.mono hk hn⟩
  jvm_step X.here [X.here.top, hx, hd', X.method', hret, hv, ht]
  first | (intro acts; rw [hr _ acts rfl rfl rfl]) | rw [hr _ _ rfl rfl rfl]
  exact Steps.refl _
theorem own_iadd (C : Cx p s m meth c Z cd ml ret own nm) {x y v : Int32} (hd : decode cd pc = .ok (.iadd, 1)) (hv : x + y = v) (hp : pc + 1 = pc') (W : Wp p l e R s m args below meth c n0 Q h k n (mkF m pc' Ls (.int v :: st))) : Wp p l e R s m args below meth c n0 Q h k n (mkF m pc Ls (.int y :: .int x :: st)) := by
  subst hp hv; exact own_lift (fun T A t q => XS.iadd A C.1 rfl (hb C.2.2.1 hd) rfl q) W
theorem own_isub (C : Cx p s m meth c Z cd ml ret own nm) {x y v : Int32} (hd : decode cd pc = .ok (.isub, 1)) (hv : x - y = v) (hp : pc + 1 = pc') (W : Wp p l e R s m args below meth c n0 Q h k n (mkF m pc' Ls (.int v :: st))) : Wp p l e R s m args below meth c n0 Q h k n (mkF m pc Ls (.int y :: .int x :: st)) := by
  subst hp hv; exact own_lift (fun T A t q => XS.isub A C.1 rfl (hb C.2.2.1 hd) rfl q) W
theorem own_imul (C : Cx p s m meth c Z cd ml ret own nm) {x y v : Int32} (hd : decode cd pc = .ok (.imul, 1)) (hv : x * y = v) (hp : pc + 1 = pc') (W : Wp p l e R s m args below meth c n0 Q h k n (mkF m pc' Ls (.int v :: st))) : Wp p l e R s m args below meth c n0 Q h k n (mkF m pc Ls (.int y :: .int x :: st)) := by
  subst hp hv; exact own_lift (fun T A t q => XS.imul A C.1 rfl (hb C.2.2.1 hd) rfl q) W
theorem own_iand (C : Cx p s m meth c Z cd ml ret own nm) {x y v : Int32} (hd : decode cd pc = .ok (.iand, 1)) (hv : x &&& y = v) (hp : pc + 1 = pc') (W : Wp p l e R s m args below meth c n0 Q h k n (mkF m pc' Ls (.int v :: st))) : Wp p l e R s m args below meth c n0 Q h k n (mkF m pc Ls (.int y :: .int x :: st)) := by
  subst hp hv; exact own_lift (fun T A t q => XS.iand A C.1 rfl (hb C.2.2.1 hd) rfl q) W
theorem own_ior (C : Cx p s m meth c Z cd ml ret own nm) {x y v : Int32} (hd : decode cd pc = .ok (.ior, 1)) (hv : x ||| y = v) (hp : pc + 1 = pc') (W : Wp p l e R s m args below meth c n0 Q h k n (mkF m pc' Ls (.int v :: st))) : Wp p l e R s m args below meth c n0 Q h k n (mkF m pc Ls (.int y :: .int x :: st)) := by
  subst hp hv; exact own_lift (fun T A t q => XS.ior A C.1 rfl (hb C.2.2.1 hd) rfl q) W
theorem own_ixor (C : Cx p s m meth c Z cd ml ret own nm) {x y v : Int32} (hd : decode cd pc = .ok (.ixor, 1)) (hv : x ^^^ y = v) (hp : pc + 1 = pc') (W : Wp p l e R s m args below meth c n0 Q h k n (mkF m pc' Ls (.int v :: st))) : Wp p l e R s m args below meth c n0 Q h k n (mkF m pc Ls (.int y :: .int x :: st)) := by
  subst hp hv; exact own_lift (fun T A t q => XS.ixor A C.1 rfl (hb C.2.2.1 hd) rfl q) W
theorem own_ishl (C : Cx p s m meth c Z cd ml ret own nm) {x y v : Int32} (hd : decode cd pc = .ok (.ishl, 1)) (hv : x <<< (y &&& 31) = v) (hp : pc + 1 = pc') (W : Wp p l e R s m args below meth c n0 Q h k n (mkF m pc' Ls (.int v :: st))) : Wp p l e R s m args below meth c n0 Q h k n (mkF m pc Ls (.int y :: .int x :: st)) := by
  subst hp hv; exact own_lift (fun T A t q => XS.ishl A C.1 rfl (hb C.2.2.1 hd) rfl q) W
theorem own_ishr (C : Cx p s m meth c Z cd ml ret own nm) {x y v : Int32} (hd : decode cd pc = .ok (.ishr, 1)) (hv : x >>> (y &&& 31) = v) (hp : pc + 1 = pc') (W : Wp p l e R s m args below meth c n0 Q h k n (mkF m pc' Ls (.int v :: st))) : Wp p l e R s m args below meth c n0 Q h k n (mkF m pc Ls (.int y :: .int x :: st)) := by
  subst hp hv; exact own_lift (fun T A t q => XS.ishr A C.1 rfl (hb C.2.2.1 hd) rfl q) W
theorem own_iushr (C : Cx p s m meth c Z cd ml ret own nm) {x y v : Int32} (hd : decode cd pc = .ok (.iushr, 1)) (hv : (x.toUInt32 >>> (y &&& 31).toUInt32).toInt32 = v) (hp : pc + 1 = pc') (W : Wp p l e R s m args below meth c n0 Q h k n (mkF m pc' Ls (.int v :: st))) : Wp p l e R s m args below meth c n0 Q h k n (mkF m pc Ls (.int y :: .int x :: st)) := by
  subst hp hv; exact own_lift (fun T A t q => XS.iushr A C.1 rfl (hb C.2.2.1 hd) rfl q) W
theorem own_idiv (C : Cx p s m meth c Z cd ml ret own nm) {x y v : Int32} (hd : decode cd pc = .ok (.idiv, 1)) (hy : y ≠ 0) (hv : x / y = v) (hp : pc + 1 = pc') (W : Wp p l e R s m args below meth c n0 Q h k n (mkF m pc' Ls (.int v :: st))) : Wp p l e R s m args below meth c n0 Q h k n (mkF m pc Ls (.int y :: .int x :: st)) := by
  subst hp hv; exact own_lift (fun T A t q => XS.idiv A C.1 rfl (hb C.2.2.1 hd) rfl hy q) W
theorem own_ladd (C : Cx p s m meth c Z cd ml ret own nm) {x y v : Int64} (hd : decode cd pc = .ok (.ladd, 1)) (hv : x + y = v) (hp : pc + 1 = pc') (W : Wp p l e R s m args below meth c n0 Q h k n (mkF m pc' Ls (.long v :: st))) : Wp p l e R s m args below meth c n0 Q h k n (mkF m pc Ls (.long y :: .long x :: st)) := by
  subst hp hv; exact own_lift (fun T A t q => XS.ladd A C.1 rfl (hb C.2.2.1 hd) rfl q) W
theorem own_lsub (C : Cx p s m meth c Z cd ml ret own nm) {x y v : Int64} (hd : decode cd pc = .ok (.lsub, 1)) (hv : x - y = v) (hp : pc + 1 = pc') (W : Wp p l e R s m args below meth c n0 Q h k n (mkF m pc' Ls (.long v :: st))) : Wp p l e R s m args below meth c n0 Q h k n (mkF m pc Ls (.long y :: .long x :: st)) := by
  subst hp hv; exact own_lift (fun T A t q => XS.lsub A C.1 rfl (hb C.2.2.1 hd) rfl q) W
theorem own_lmul (C : Cx p s m meth c Z cd ml ret own nm) {x y v : Int64} (hd : decode cd pc = .ok (.lmul, 1)) (hv : x * y = v) (hp : pc + 1 = pc') (W : Wp p l e R s m args below meth c n0 Q h k n (mkF m pc' Ls (.long v :: st))) : Wp p l e R s m args below meth c n0 Q h k n (mkF m pc Ls (.long y :: .long x :: st)) := by
  subst hp hv; exact own_lift (fun T A t q => XS.lmul A C.1 rfl (hb C.2.2.1 hd) rfl q) W
theorem own_land (C : Cx p s m meth c Z cd ml ret own nm) {x y v : Int64} (hd : decode cd pc = .ok (.land, 1)) (hv : x &&& y = v) (hp : pc + 1 = pc') (W : Wp p l e R s m args below meth c n0 Q h k n (mkF m pc' Ls (.long v :: st))) : Wp p l e R s m args below meth c n0 Q h k n (mkF m pc Ls (.long y :: .long x :: st)) := by
  subst hp hv; exact own_lift (fun T A t q => XS.land A C.1 rfl (hb C.2.2.1 hd) rfl q) W
theorem own_lor (C : Cx p s m meth c Z cd ml ret own nm) {x y v : Int64} (hd : decode cd pc = .ok (.lor, 1)) (hv : x ||| y = v) (hp : pc + 1 = pc') (W : Wp p l e R s m args below meth c n0 Q h k n (mkF m pc' Ls (.long v :: st))) : Wp p l e R s m args below meth c n0 Q h k n (mkF m pc Ls (.long y :: .long x :: st)) := by
  subst hp hv; exact own_lift (fun T A t q => XS.lor A C.1 rfl (hb C.2.2.1 hd) rfl q) W
theorem own_lxor (C : Cx p s m meth c Z cd ml ret own nm) {x y v : Int64} (hd : decode cd pc = .ok (.lxor, 1)) (hv : x ^^^ y = v) (hp : pc + 1 = pc') (W : Wp p l e R s m args below meth c n0 Q h k n (mkF m pc' Ls (.long v :: st))) : Wp p l e R s m args below meth c n0 Q h k n (mkF m pc Ls (.long y :: .long x :: st)) := by
  subst hp hv; exact own_lift (fun T A t q => XS.lxor A C.1 rfl (hb C.2.2.1 hd) rfl q) W
theorem own_ldiv (C : Cx p s m meth c Z cd ml ret own nm) {x y v : Int64} (hd : decode cd pc = .ok (.ldiv, 1)) (hy : y ≠ 0) (hv : x / y = v) (hp : pc + 1 = pc') (W : Wp p l e R s m args below meth c n0 Q h k n (mkF m pc' Ls (.long v :: st))) : Wp p l e R s m args below meth c n0 Q h k n (mkF m pc Ls (.long y :: .long x :: st)) := by
  subst hp hv; exact own_lift (fun T A t q => XS.ldiv A C.1 rfl (hb C.2.2.1 hd) rfl hy q) W
theorem own_irem (C : Cx p s m meth c Z cd ml ret own nm) {x y v : Int32} (hd : decode cd pc = .ok (.irem, 1)) (hy : y ≠ 0) (hv : x % y = v) (hp : pc + 1 = pc') (W : Wp p l e R s m args below meth c n0 Q h k n (mkF m pc' Ls (.int v :: st))) : Wp p l e R s m args below meth c n0 Q h k n (mkF m pc Ls (.int y :: .int x :: st)) := by
  subst hp hv; exact own_liftX (fun T locs X eT t q => iremM X C.1 rfl (hb C.2.2.1 hd) rfl hy q) W
theorem own_lrem (C : Cx p s m meth c Z cd ml ret own nm) {x y v : Int64} (hd : decode cd pc = .ok (.lrem, 1)) (hy : y ≠ 0) (hv : x % y = v) (hp : pc + 1 = pc') (W : Wp p l e R s m args below meth c n0 Q h k n (mkF m pc' Ls (.long v :: st))) : Wp p l e R s m args below meth c n0 Q h k n (mkF m pc Ls (.long y :: .long x :: st)) := by
  subst hp; rw [← lrem_mod] at hv; subst hv; exact own_lift (fun T A t q => XS.lrem A C.1 rfl (hb C.2.2.1 hd) rfl hy q) W
theorem own_lshl (C : Cx p s m meth c Z cd ml ret own nm) {x v : Int64} {y : Int32} (hd : decode cd pc = .ok (.lshl, 1)) (hv : x <<< (y &&& 0x3f).toInt64 = v) (hp : pc + 1 = pc') (W : Wp p l e R s m args below meth c n0 Q h k n (mkF m pc' Ls (.long v :: st))) : Wp p l e R s m args below meth c n0 Q h k n (mkF m pc Ls (.int y :: .long x :: st)) := by
  subst hp hv; exact own_lift (fun T A t q => XS.lshl A C.1 rfl (hb C.2.2.1 hd) rfl q) W
theorem own_lshr (C : Cx p s m meth c Z cd ml ret own nm) {x v : Int64} {y : Int32} (hd : decode cd pc = .ok (.lshr, 1)) (hv : x >>> (y &&& 0x3f).toInt64 = v) (hp : pc + 1 = pc') (W : Wp p l e R s m args below meth c n0 Q h k n (mkF m pc' Ls (.long v :: st))) : Wp p l e R s m args below meth c n0 Q h k n (mkF m pc Ls (.int y :: .long x :: st)) := by
  subst hp hv; exact own_lift (fun T A t q => XS.lshr A C.1 rfl (hb C.2.2.1 hd) rfl q) W
theorem own_lushr (C : Cx p s m meth c Z cd ml ret own nm) {x v : Int64} {y : Int32} (hd : decode cd pc = .ok (.lushr, 1)) (hv : (x.toUInt64 >>> (y &&& 0x3f).toInt64.toUInt64).toInt64 = v) (hp : pc + 1 = pc') (W : Wp p l e R s m args below meth c n0 Q h k n (mkF m pc' Ls (.long v :: st))) : Wp p l e R s m args below meth c n0 Q h k n (mkF m pc Ls (.int y :: .long x :: st)) := by
  subst hp hv; exact own_lift (fun T A t q => XS.lushr A C.1 rfl (hb C.2.2.1 hd) rfl q) W
theorem own_ineg (C : Cx p s m meth c Z cd ml ret own nm) {x : Int32} {v : Int32} (hd : decode cd pc = .ok (.ineg, 1)) (hv : -x = v) (hp : pc + 1 = pc') (W : Wp p l e R s m args below meth c n0 Q h k n (mkF m pc' Ls (.int v :: st))) : Wp p l e R s m args below meth c n0 Q h k n (mkF m pc Ls (.int x :: st)) := by
  subst hp hv; exact own_lift (fun T A t q => XS.ineg A C.1 rfl (hb C.2.2.1 hd) rfl q) W
theorem own_lneg (C : Cx p s m meth c Z cd ml ret own nm) {x : Int64} {v : Int64} (hd : decode cd pc = .ok (.lneg, 1)) (hv : -x = v) (hp : pc + 1 = pc') (W : Wp p l e R s m args below meth c n0 Q h k n (mkF m pc' Ls (.long v :: st))) : Wp p l e R s m args below meth c n0 Q h k n (mkF m pc Ls (.long x :: st)) := by
  subst hp hv; exact own_lift (fun T A t q => XS.lneg A C.1 rfl (hb C.2.2.1 hd) rfl q) W
theorem own_i2l (C : Cx p s m meth c Z cd ml ret own nm) {x : Int32} {v : Int64} (hd : decode cd pc = .ok (.i2l, 1)) (hv : x.toInt64 = v) (hp : pc + 1 = pc') (W : Wp p l e R s m args below meth c n0 Q h k n (mkF m pc' Ls (.long v :: st))) : Wp p l e R s m args below meth c n0 Q h k n (mkF m pc Ls (.int x :: st)) := by
  subst hp hv; exact own_lift (fun T A t q => XS.i2l A C.1 rfl (hb C.2.2.1 hd) rfl q) W
theorem own_l2i (C : Cx p s m meth c Z cd ml ret own nm) {x : Int64} {v : Int32} (hd : decode cd pc = .ok (.l2i, 1)) (hv : x.toInt32 = v) (hp : pc + 1 = pc') (W : Wp p l e R s m args below meth c n0 Q h k n (mkF m pc' Ls (.int v :: st))) : Wp p l e R s m args below meth c n0 Q h k n (mkF m pc Ls (.long x :: st)) := by
  subst hp hv; exact own_lift (fun T A t q => XS.l2i A C.1 rfl (hb C.2.2.1 hd) rfl q) W
theorem own_i2b (C : Cx p s m meth c Z cd ml ret own nm) {x : Int32} {v : Int32} (hd : decode cd pc = .ok (.i2b, 1)) (hv : x.toInt8.toInt32 = v) (hp : pc + 1 = pc') (W : Wp p l e R s m args below meth c n0 Q h k n (mkF m pc' Ls (.int v :: st))) : Wp p l e R s m args below meth c n0 Q h k n (mkF m pc Ls (.int x :: st)) := by
  subst hp hv; exact own_lift (fun T A t q => XS.i2b A C.1 rfl (hb C.2.2.1 hd) rfl q) W
theorem own_i2s (C : Cx p s m meth c Z cd ml ret own nm) {x : Int32} {v : Int32} (hd : decode cd pc = .ok (.i2s, 1)) (hv : x.toInt16.toInt32 = v) (hp : pc + 1 = pc') (W : Wp p l e R s m args below meth c n0 Q h k n (mkF m pc' Ls (.int v :: st))) : Wp p l e R s m args below meth c n0 Q h k n (mkF m pc Ls (.int x :: st)) := by
  subst hp hv; exact own_lift (fun T A t q => XS.i2s A C.1 rfl (hb C.2.2.1 hd) rfl q) W
theorem own_i2c (C : Cx p s m meth c Z cd ml ret own nm) {x : Int32} {v : Int32} (hd : decode cd pc = .ok (.i2c, 1)) (hv : x.toUInt32.toUInt16.toUInt32.toInt32 = v) (hp : pc + 1 = pc') (W : Wp p l e R s m args below meth c n0 Q h k n (mkF m pc' Ls (.int v :: st))) : Wp p l e R s m args below meth c n0 Q h k n (mkF m pc Ls (.int x :: st)) := by
  subst hp hv; exact own_lift (fun T A t q => XS.i2c A C.1 rfl (hb C.2.2.1 hd) rfl q) W
theorem own_lcmp (C : Cx p s m meth c Z cd ml ret own nm) {x y : Int64} (hd : decode cd pc = .ok (.lcmp, 1)) (hp : pc + 1 = pc') (W : Wp p l e R s m args below meth c n0 Q h k n (mkF m pc' Ls (.int (lcmpW x y) :: st))) : Wp p l e R s m args below meth c n0 Q h k n (mkF m pc Ls (.long y :: .long x :: st)) := by
  subst hp; exact own_lift (fun T A t q => XS.lcmp A C.1 rfl (hb C.2.2.1 hd) rfl q) W
theorem own_dup (C : Cx p s m meth c Z cd ml ret own nm) {x : Value} (hd : decode cd pc = .ok (.dup, 1)) (hc : x.category = 1) (hp : pc + 1 = pc') (W : Wp p l e R s m args below meth c n0 Q h k n (mkF m pc' Ls (x :: x :: st))) : Wp p l e R s m args below meth c n0 Q h k n (mkF m pc Ls (x :: st)) := by
  subst hp; exact own_lift (fun T A t q => XS.dup A C.1 rfl (hb C.2.2.1 hd) rfl hc q) W
theorem own_pop (C : Cx p s m meth c Z cd ml ret own nm) {x : Value} (hd : decode cd pc = .ok (.pop, 1)) (hc : x.category = 1) (hp : pc + 1 = pc') (W : Wp p l e R s m args below meth c n0 Q h k n (mkF m pc' Ls st)) : Wp p l e R s m args below meth c n0 Q h k n (mkF m pc Ls (x :: st)) := by
  subst hp; exact own_lift (fun T A t q => XS.pop A C.1 rfl (hb C.2.2.1 hd) rfl hc q) W
theorem own_dupX1 (C : Cx p s m meth c Z cd ml ret own nm) {x y : Value} (hd : decode cd pc = .ok (.dup_x1, 1)) (hc : x.category = 1) (hc' : y.category = 1) (hp : pc + 1 = pc') (W : Wp p l e R s m args below meth c n0 Q h k n (mkF m pc' Ls (x :: y :: x :: st))) : Wp p l e R s m args below meth c n0 Q h k n (mkF m pc Ls (x :: y :: st)) := by
  subst hp; exact own_lift (fun T A t q => XS.dupX1 A C.1 rfl (hb C.2.2.1 hd) rfl hc hc' q) W
theorem own_dup2 (C : Cx p s m meth c Z cd ml ret own nm) {x y : Value} (hd : decode cd pc = .ok (.dup2, 1)) (hc : x.category = 1) (hc' : y.category = 1) (hp : pc + 1 = pc') (W : Wp p l e R s m args below meth c n0 Q h k n (mkF m pc' Ls (x :: y :: x :: y :: st))) : Wp p l e R s m args below meth c n0 Q h k n (mkF m pc Ls (x :: y :: st)) := by
  subst hp; exact own_lift (fun T A t q => Jvm.Free.XT.dup2 A C.1 rfl (hb C.2.2.1 hd) rfl hc hc' q) W
theorem own_iinc (C : Cx p s m meth c Z cd ml ret own nm) {i : Nat} {d : Int} {x v : Int32} (hd : decode cd pc = .ok (.iinc i d, 3)) (hl : Ls[i]? = some (.val (.int x))) (hv : x + Int32.ofInt d = v) (hl' : storeLocals Ls i (.int v) = some Ls') (hp : pc + 3 = pc') (W : Wp p l e R s m args below meth c n0 Q h k n (mkF m pc' Ls' st)) : Wp p l e R s m args below meth c n0 Q h k n (mkF m pc Ls st) := by
  subst hp hv; exact own_lift (fun T A t q => XS.iinc A C.1 rfl (hb C.2.2.1 hd) hl hl' q) W
theorem own_goto (C : Cx p s m meth c Z cd ml ret own nm) {o : Int} (hd : decode cd pc = .ok (.goto o, 3)) (ho : 0 ≤ (pc : Int) + o) (hp : ((pc : Int) + o).toNat = pc') (W : Wp p l e R s m args below meth c n0 Q h k n (mkF m pc' Ls st)) : Wp p l e R s m args below meth c n0 Q h k n (mkF m pc Ls st) :=
  own_lift (fun T A t q => XS.goto A C.1 rfl (pc0 := pc) (pc' := pc') rfl (hb C.2.2.1 hd) ho hp q) W
theorem own_icmp_lt (C : Cx p s m meth c Z cd ml ret own nm) {o : Int} {x y : Int32} {pt pf : Nat} (hd : decode cd pc = .ok (.if_icmp .lt o, 3)) (ho : 0 ≤ (pc : Int) + o) (hp : ((pc : Int) + o).toNat = pt) (hf : pc + 3 = pf) (WT : x < y → Wp p l e R s m args below meth c n0 Q h k n (mkF m pt Ls st)) (WF : ¬ x < y → Wp p l e R s m args below meth c n0 Q h k n (mkF m pf Ls st)) : Wp p l e R s m args below meth c n0 Q h k n (mkF m pc Ls (.int y :: .int x :: st)) := by
  subst hf
  by_cases g : x < y
  · exact own_lift (fun T A t q => XS.icmpYes A C.1 rfl (pc0 := pc) (pc' := pt) rfl (hb C.2.2.1 hd) rfl (tlt g).1 ho hp q) (WT g)
  · exact own_lift (fun T A t q => XS.icmpNo A C.1 rfl (hb C.2.2.1 hd) rfl (flt g).1 q) (WF g)
theorem own_if_lt (C : Cx p s m meth c Z cd ml ret own nm) {o : Int} {x : Int32} {pt pf : Nat} (hd : decode cd pc = .ok (.ifCond .lt o, 3)) (ho : 0 ≤ (pc : Int) + o) (hp : ((pc : Int) + o).toNat = pt) (hf : pc + 3 = pf) (WT : x < 0 → Wp p l e R s m args below meth c n0 Q h k n (mkF m pt Ls st)) (WF : ¬ x < 0 → Wp p l e R s m args below meth c n0 Q h k n (mkF m pf Ls st)) : Wp p l e R s m args below meth c n0 Q h k n (mkF m pc Ls (.int x :: st)) := by
  subst hf
  by_cases g : x < 0
  · exact own_lift (fun T A t q => XS.ifYes A C.1 rfl (pc0 := pc) (pc' := pt) rfl (hb C.2.2.1 hd) rfl ((if0 _ _).trans (tlt g).1) ho hp q) (WT g)
  · exact own_lift (fun T A t q => XS.ifNo A C.1 rfl (hb C.2.2.1 hd) rfl ((if0 _ _).trans (flt g).1) q) (WF g)
theorem own_lcmp_lt (C : Cx p s m meth c Z cd ml ret own nm) {o : Int} {x y : Int64} {p1 pt pf : Nat} (hd0 : decode cd pc = .ok (.lcmp, 1)) (h1 : pc + 1 = p1) (hd : decode cd p1 = .ok (.ifCond .lt o, 3)) (ho : 0 ≤ (p1 : Int) + o) (hp : ((p1 : Int) + o).toNat = pt) (hf : p1 + 3 = pf) (WT : x < y → Wp p l e R s m args below meth c n0 Q h k n (mkF m pt Ls st)) (WF : ¬ x < y → Wp p l e R s m args below meth c n0 Q h k n (mkF m pf Ls st)) : Wp p l e R s m args below meth c n0 Q h k n (mkF m pc Ls (.long y :: .long x :: st)) :=
  own_lcmp C hd0 h1 (own_if_lt C hd ho hp hf (fun g => WT ((lw_lt x y).mp g)) (fun g => WF (fun q => g ((lw_lt x y).mpr q))))
theorem own_icmp_ge (C : Cx p s m meth c Z cd ml ret own nm) {o : Int} {x y : Int32} {pt pf : Nat} (hd : decode cd pc = .ok (.if_icmp .ge o, 3)) (ho : 0 ≤ (pc : Int) + o) (hp : ((pc : Int) + o).toNat = pt) (hf : pc + 3 = pf) (WT : ¬ x < y → Wp p l e R s m args below meth c n0 Q h k n (mkF m pt Ls st)) (WF : x < y → Wp p l e R s m args below meth c n0 Q h k n (mkF m pf Ls st)) : Wp p l e R s m args below meth c n0 Q h k n (mkF m pc Ls (.int y :: .int x :: st)) := by
  subst hf
  by_cases g : x < y
  · exact own_lift (fun T A t q => XS.icmpNo A C.1 rfl (hb C.2.2.1 hd) rfl (tlt g).2.1 q) (WF g)
  · exact own_lift (fun T A t q => XS.icmpYes A C.1 rfl (pc0 := pc) (pc' := pt) rfl (hb C.2.2.1 hd) rfl (flt g).2.1 ho hp q) (WT g)
theorem own_if_ge (C : Cx p s m meth c Z cd ml ret own nm) {o : Int} {x : Int32} {pt pf : Nat} (hd : decode cd pc = .ok (.ifCond .ge o, 3)) (ho : 0 ≤ (pc : Int) + o) (hp : ((pc : Int) + o).toNat = pt) (hf : pc + 3 = pf) (WT : ¬ x < 0 → Wp p l e R s m args below meth c n0 Q h k n (mkF m pt Ls st)) (WF : x < 0 → Wp p l e R s m args below meth c n0 Q h k n (mkF m pf Ls st)) : Wp p l e R s m args below meth c n0 Q h k n (mkF m pc Ls (.int x :: st)) := by
  subst hf
  by_cases g : x < 0
  · exact own_lift (fun T A t q => XS.ifNo A C.1 rfl (hb C.2.2.1 hd) rfl ((if0 _ _).trans (tlt g).2.1) q) (WF g)
  · exact own_lift (fun T A t q => XS.ifYes A C.1 rfl (pc0 := pc) (pc' := pt) rfl (hb C.2.2.1 hd) rfl ((if0 _ _).trans (flt g).2.1) ho hp q) (WT g)
theorem own_lcmp_ge (C : Cx p s m meth c Z cd ml ret own nm) {o : Int} {x y : Int64} {p1 pt pf : Nat} (hd0 : decode cd pc = .ok (.lcmp, 1)) (h1 : pc + 1 = p1) (hd : decode cd p1 = .ok (.ifCond .ge o, 3)) (ho : 0 ≤ (p1 : Int) + o) (hp : ((p1 : Int) + o).toNat = pt) (hf : p1 + 3 = pf) (WT : ¬ x < y → Wp p l e R s m args below meth c n0 Q h k n (mkF m pt Ls st)) (WF : x < y → Wp p l e R s m args below meth c n0 Q h k n (mkF m pf Ls st)) : Wp p l e R s m args below meth c n0 Q h k n (mkF m pc Ls (.long y :: .long x :: st)) :=
  own_lcmp C hd0 h1 (own_if_ge C hd ho hp hf (fun g => WT (fun q => g ((lw_lt x y).mpr q))) (fun g => WF ((lw_lt x y).mp g)))
theorem own_icmp_gt (C : Cx p s m meth c Z cd ml ret own nm) {o : Int} {x y : Int32} {pt pf : Nat} (hd : decode cd pc = .ok (.if_icmp .gt o, 3)) (ho : 0 ≤ (pc : Int) + o) (hp : ((pc : Int) + o).toNat = pt) (hf : pc + 3 = pf) (WT : y < x → Wp p l e R s m args below meth c n0 Q h k n (mkF m pt Ls st)) (WF : ¬ y < x → Wp p l e R s m args below meth c n0 Q h k n (mkF m pf Ls st)) : Wp p l e R s m args below meth c n0 Q h k n (mkF m pc Ls (.int y :: .int x :: st)) := by
  subst hf
  by_cases g : y < x
  · exact own_lift (fun T A t q => XS.icmpYes A C.1 rfl (pc0 := pc) (pc' := pt) rfl (hb C.2.2.1 hd) rfl (tlt g).2.2.1 ho hp q) (WT g)
  · exact own_lift (fun T A t q => XS.icmpNo A C.1 rfl (hb C.2.2.1 hd) rfl (flt g).2.2.1 q) (WF g)
theorem own_if_gt (C : Cx p s m meth c Z cd ml ret own nm) {o : Int} {x : Int32} {pt pf : Nat} (hd : decode cd pc = .ok (.ifCond .gt o, 3)) (ho : 0 ≤ (pc : Int) + o) (hp : ((pc : Int) + o).toNat = pt) (hf : pc + 3 = pf) (WT : 0 < x → Wp p l e R s m args below meth c n0 Q h k n (mkF m pt Ls st)) (WF : ¬ 0 < x → Wp p l e R s m args below meth c n0 Q h k n (mkF m pf Ls st)) : Wp p l e R s m args below meth c n0 Q h k n (mkF m pc Ls (.int x :: st)) := by
  subst hf
  by_cases g : 0 < x
  · exact own_lift (fun T A t q => XS.ifYes A C.1 rfl (pc0 := pc) (pc' := pt) rfl (hb C.2.2.1 hd) rfl ((if0 _ _).trans (tlt g).2.2.1) ho hp q) (WT g)
  · exact own_lift (fun T A t q => XS.ifNo A C.1 rfl (hb C.2.2.1 hd) rfl ((if0 _ _).trans (flt g).2.2.1) q) (WF g)
theorem own_lcmp_gt (C : Cx p s m meth c Z cd ml ret own nm) {o : Int} {x y : Int64} {p1 pt pf : Nat} (hd0 : decode cd pc = .ok (.lcmp, 1)) (h1 : pc + 1 = p1) (hd : decode cd p1 = .ok (.ifCond .gt o, 3)) (ho : 0 ≤ (p1 : Int) + o) (hp : ((p1 : Int) + o).toNat = pt) (hf : p1 + 3 = pf) (WT : y < x → Wp p l e R s m args below meth c n0 Q h k n (mkF m pt Ls st)) (WF : ¬ y < x → Wp p l e R s m args below meth c n0 Q h k n (mkF m pf Ls st)) : Wp p l e R s m args below meth c n0 Q h k n (mkF m pc Ls (.long y :: .long x :: st)) :=
  own_lcmp C hd0 h1 (own_if_gt C hd ho hp hf (fun g => WT ((lw_gt x y).mp g)) (fun g => WF (fun q => g ((lw_gt x y).mpr q))))
theorem own_icmp_le (C : Cx p s m meth c Z cd ml ret own nm) {o : Int} {x y : Int32} {pt pf : Nat} (hd : decode cd pc = .ok (.if_icmp .le o, 3)) (ho : 0 ≤ (pc : Int) + o) (hp : ((pc : Int) + o).toNat = pt) (hf : pc + 3 = pf) (WT : ¬ y < x → Wp p l e R s m args below meth c n0 Q h k n (mkF m pt Ls st)) (WF : y < x → Wp p l e R s m args below meth c n0 Q h k n (mkF m pf Ls st)) : Wp p l e R s m args below meth c n0 Q h k n (mkF m pc Ls (.int y :: .int x :: st)) := by
  subst hf
  by_cases g : y < x
  · exact own_lift (fun T A t q => XS.icmpNo A C.1 rfl (hb C.2.2.1 hd) rfl (tlt g).2.2.2 q) (WF g)
  · exact own_lift (fun T A t q => XS.icmpYes A C.1 rfl (pc0 := pc) (pc' := pt) rfl (hb C.2.2.1 hd) rfl (flt g).2.2.2 ho hp q) (WT g)
theorem own_if_le (C : Cx p s m meth c Z cd ml ret own nm) {o : Int} {x : Int32} {pt pf : Nat} (hd : decode cd pc = .ok (.ifCond .le o, 3)) (ho : 0 ≤ (pc : Int) + o) (hp : ((pc : Int) + o).toNat = pt) (hf : pc + 3 = pf) (WT : ¬ 0 < x → Wp p l e R s m args below meth c n0 Q h k n (mkF m pt Ls st)) (WF : 0 < x → Wp p l e R s m args below meth c n0 Q h k n (mkF m pf Ls st)) : Wp p l e R s m args below meth c n0 Q h k n (mkF m pc Ls (.int x :: st)) := by
  subst hf
  by_cases g : 0 < x
  · exact own_lift (fun T A t q => XS.ifNo A C.1 rfl (hb C.2.2.1 hd) rfl ((if0 _ _).trans (tlt g).2.2.2) q) (WF g)
  · exact own_lift (fun T A t q => XS.ifYes A C.1 rfl (pc0 := pc) (pc' := pt) rfl (hb C.2.2.1 hd) rfl ((if0 _ _).trans (flt g).2.2.2) ho hp q) (WT g)
theorem own_lcmp_le (C : Cx p s m meth c Z cd ml ret own nm) {o : Int} {x y : Int64} {p1 pt pf : Nat} (hd0 : decode cd pc = .ok (.lcmp, 1)) (h1 : pc + 1 = p1) (hd : decode cd p1 = .ok (.ifCond .le o, 3)) (ho : 0 ≤ (p1 : Int) + o) (hp : ((p1 : Int) + o).toNat = pt) (hf : p1 + 3 = pf) (WT : ¬ y < x → Wp p l e R s m args below meth c n0 Q h k n (mkF m pt Ls st)) (WF : y < x → Wp p l e R s m args below meth c n0 Q h k n (mkF m pf Ls st)) : Wp p l e R s m args below meth c n0 Q h k n (mkF m pc Ls (.long y :: .long x :: st)) :=
  own_lcmp C hd0 h1 (own_if_le C hd ho hp hf (fun g => WT (fun q => g ((lw_gt x y).mpr q))) (fun g => WF ((lw_gt x y).mp g)))
theorem own_icmp_eq (C : Cx p s m meth c Z cd ml ret own nm) {o : Int} {x y : Int32} {pt pf : Nat} (hd : decode cd pc = .ok (.if_icmp .eq o, 3)) (ho : 0 ≤ (pc : Int) + o) (hp : ((pc : Int) + o).toNat = pt) (hf : pc + 3 = pf) (WT : x = y → Wp p l e R s m args below meth c n0 Q h k n (mkF m pt Ls st)) (WF : ¬ x = y → Wp p l e R s m args below meth c n0 Q h k n (mkF m pf Ls st)) : Wp p l e R s m args below meth c n0 Q h k n (mkF m pc Ls (.int y :: .int x :: st)) := by
  subst hf
  by_cases g : x = y
  · exact own_lift (fun T A t q => XS.icmpYes A C.1 rfl (pc0 := pc) (pc' := pt) rfl (hb C.2.2.1 hd) rfl (teq g).1 ho hp q) (WT g)
  · exact own_lift (fun T A t q => XS.icmpNo A C.1 rfl (hb C.2.2.1 hd) rfl (feq g).1 q) (WF g)
theorem own_if_eq (C : Cx p s m meth c Z cd ml ret own nm) {o : Int} {x : Int32} {pt pf : Nat} (hd : decode cd pc = .ok (.ifCond .eq o, 3)) (ho : 0 ≤ (pc : Int) + o) (hp : ((pc : Int) + o).toNat = pt) (hf : pc + 3 = pf) (WT : x = 0 → Wp p l e R s m args below meth c n0 Q h k n (mkF m pt Ls st)) (WF : ¬ x = 0 → Wp p l e R s m args below meth c n0 Q h k n (mkF m pf Ls st)) : Wp p l e R s m args below meth c n0 Q h k n (mkF m pc Ls (.int x :: st)) := by
  subst hf
  by_cases g : x = 0
  · exact own_lift (fun T A t q => XS.ifYes A C.1 rfl (pc0 := pc) (pc' := pt) rfl (hb C.2.2.1 hd) rfl ((if0 _ _).trans (teq g).1) ho hp q) (WT g)
  · exact own_lift (fun T A t q => XS.ifNo A C.1 rfl (hb C.2.2.1 hd) rfl ((if0 _ _).trans (feq g).1) q) (WF g)
theorem own_lcmp_eq (C : Cx p s m meth c Z cd ml ret own nm) {o : Int} {x y : Int64} {p1 pt pf : Nat} (hd0 : decode cd pc = .ok (.lcmp, 1)) (h1 : pc + 1 = p1) (hd : decode cd p1 = .ok (.ifCond .eq o, 3)) (ho : 0 ≤ (p1 : Int) + o) (hp : ((p1 : Int) + o).toNat = pt) (hf : p1 + 3 = pf) (WT : x = y → Wp p l e R s m args below meth c n0 Q h k n (mkF m pt Ls st)) (WF : ¬ x = y → Wp p l e R s m args below meth c n0 Q h k n (mkF m pf Ls st)) : Wp p l e R s m args below meth c n0 Q h k n (mkF m pc Ls (.long y :: .long x :: st)) :=
  own_lcmp C hd0 h1 (own_if_eq C hd ho hp hf (fun g => WT ((lw_eq x y).mp g)) (fun g => WF (fun q => g ((lw_eq x y).mpr q))))
theorem own_icmp_ne (C : Cx p s m meth c Z cd ml ret own nm) {o : Int} {x y : Int32} {pt pf : Nat} (hd : decode cd pc = .ok (.if_icmp .ne o, 3)) (ho : 0 ≤ (pc : Int) + o) (hp : ((pc : Int) + o).toNat = pt) (hf : pc + 3 = pf) (WT : ¬ x = y → Wp p l e R s m args below meth c n0 Q h k n (mkF m pt Ls st)) (WF : x = y → Wp p l e R s m args below meth c n0 Q h k n (mkF m pf Ls st)) : Wp p l e R s m args below meth c n0 Q h k n (mkF m pc Ls (.int y :: .int x :: st)) := by
  subst hf
  by_cases g : x = y
  · exact own_lift (fun T A t q => XS.icmpNo A C.1 rfl (hb C.2.2.1 hd) rfl (teq g).2 q) (WF g)
  · exact own_lift (fun T A t q => XS.icmpYes A C.1 rfl (pc0 := pc) (pc' := pt) rfl (hb C.2.2.1 hd) rfl (feq g).2 ho hp q) (WT g)
theorem own_if_ne (C : Cx p s m meth c Z cd ml ret own nm) {o : Int} {x : Int32} {pt pf : Nat} (hd : decode cd pc = .ok (.ifCond .ne o, 3)) (ho : 0 ≤ (pc : Int) + o) (hp : ((pc : Int) + o).toNat = pt) (hf : pc + 3 = pf) (WT : ¬ x = 0 → Wp p l e R s m args below meth c n0 Q h k n (mkF m pt Ls st)) (WF : x = 0 → Wp p l e R s m args below meth c n0 Q h k n (mkF m pf Ls st)) : Wp p l e R s m args below meth c n0 Q h k n (mkF m pc Ls (.int x :: st)) := by
  subst hf
  by_cases g : x = 0
  · exact own_lift (fun T A t q => XS.ifNo A C.1 rfl (hb C.2.2.1 hd) rfl ((if0 _ _).trans (teq g).2) q) (WF g)
  · exact own_lift (fun T A t q => XS.ifYes A C.1 rfl (pc0 := pc) (pc' := pt) rfl (hb C.2.2.1 hd) rfl ((if0 _ _).trans (feq g).2) ho hp q) (WT g)
theorem own_lcmp_ne (C : Cx p s m meth c Z cd ml ret own nm) {o : Int} {x y : Int64} {p1 pt pf : Nat} (hd0 : decode cd pc = .ok (.lcmp, 1)) (h1 : pc + 1 = p1) (hd : decode cd p1 = .ok (.ifCond .ne o, 3)) (ho : 0 ≤ (p1 : Int) + o) (hp : ((p1 : Int) + o).toNat = pt) (hf : p1 + 3 = pf) (WT : ¬ x = y → Wp p l e R s m args below meth c n0 Q h k n (mkF m pt Ls st)) (WF : x = y → Wp p l e R s m args below meth c n0 Q h k n (mkF m pf Ls st)) : Wp p l e R s m args below meth c n0 Q h k n (mkF m pc Ls (.long y :: .long x :: st)) :=
  own_lcmp C hd0 h1 (own_if_ne C hd ho hp hf (fun g => WT (fun q => g ((lw_eq x y).mpr q))) (fun g => WF ((lw_eq x y).mp g)))
theorem own_acmp_eq (C : Cx p s m meth c Z cd ml ret own nm) {o : Int} {a b : Addr} {pt pf : Nat} (hd : decode cd pc = .ok (.if_acmp .eq o, 3)) (ho : 0 ≤ (pc : Int) + o) (hp : ((pc : Int) + o).toNat = pt) (hf : pc + 3 = pf) (WT : a = b → Wp p l e R s m args below meth c n0 Q h k n (mkF m pt Ls st)) (WF : ¬ a = b → Wp p l e R s m args below meth c n0 Q h k n (mkF m pf Ls st)) : Wp p l e R s m args below meth c n0 Q h k n (mkF m pc Ls (.ref b :: .ref a :: st)) := by
  subst hf
  by_cases g : a = b
  · exact own_lift (fun T A t q => XS.acmpYes A C.1 rfl (pc0 := pc) (pc' := pt) rfl (hb C.2.2.1 hd) rfl (by simp [if_acmp.holds, g]) ho hp q) (WT g)
  · exact own_lift (fun T A t q => XS.acmpNo A C.1 rfl (hb C.2.2.1 hd) rfl (by simp [if_acmp.holds, g]) q) (WF g)
theorem own_acmp_ne (C : Cx p s m meth c Z cd ml ret own nm) {o : Int} {a b : Addr} {pt pf : Nat} (hd : decode cd pc = .ok (.if_acmp .ne o, 3)) (ho : 0 ≤ (pc : Int) + o) (hp : ((pc : Int) + o).toNat = pt) (hf : pc + 3 = pf) (WT : ¬ a = b → Wp p l e R s m args below meth c n0 Q h k n (mkF m pt Ls st)) (WF : a = b → Wp p l e R s m args below meth c n0 Q h k n (mkF m pf Ls st)) : Wp p l e R s m args below meth c n0 Q h k n (mkF m pc Ls (.ref b :: .ref a :: st)) := by
  subst hf
  by_cases g : a = b
  · exact own_lift (fun T A t q => XS.acmpNo A C.1 rfl (hb C.2.2.1 hd) rfl (by simp [if_acmp.holds, g]) q) (WF g)
  · exact own_lift (fun T A t q => XS.acmpYes A C.1 rfl (pc0 := pc) (pc' := pt) rfl (hb C.2.2.1 hd) rfl (by simp [if_acmp.holds, g]) ho hp q) (WT g)
theorem own_ifnull_y (C : Cx p s m meth c Z cd ml ret own nm) {o : Int} {pt : Nat} (hd : decode cd pc = .ok (.ifnull o, 3)) (ho : 0 ≤ (pc : Int) + o) (hp : ((pc : Int) + o).toNat = pt) (W : Wp p l e R s m args below meth c n0 Q h k n (mkF m pt Ls st)) : Wp p l e R s m args below meth c n0 Q h k n (mkF m pc Ls (.null :: st)) :=
  own_lift (fun T A t q => XS.ifnullYes A C.1 rfl (pc0 := pc) (pc' := pt) rfl (hb C.2.2.1 hd) rfl ho hp q) W
theorem own_ifnull_n (C : Cx p s m meth c Z cd ml ret own nm) {o : Int} {a : Addr} (hd : decode cd pc = .ok (.ifnull o, 3)) (hp : pc + 3 = pc') (W : Wp p l e R s m args below meth c n0 Q h k n (mkF m pc' Ls st)) : Wp p l e R s m args below meth c n0 Q h k n (mkF m pc Ls (.ref a :: st)) := by
  subst hp; exact own_lift (fun T A t q => XS.ifnullNo A C.1 rfl (hb C.2.2.1 hd) rfl q) W
theorem own_ifnonnull_y (C : Cx p s m meth c Z cd ml ret own nm) {o : Int} {a : Addr} {pt : Nat} (hd : decode cd pc = .ok (.ifnonnull o, 3)) (ho : 0 ≤ (pc : Int) + o) (hp : ((pc : Int) + o).toNat = pt) (W : Wp p l e R s m args below meth c n0 Q h k n (mkF m pt Ls st)) : Wp p l e R s m args below meth c n0 Q h k n (mkF m pc Ls (.ref a :: st)) :=
  own_lift (fun T A t q => XS.ifnonnullYes A C.1 rfl (pc0 := pc) (pc' := pt) rfl (hb C.2.2.1 hd) rfl ho hp q) W
theorem own_ifnonnull_n (C : Cx p s m meth c Z cd ml ret own nm) {o : Int} (hd : decode cd pc = .ok (.ifnonnull o, 3)) (hp : pc + 3 = pc') (W : Wp p l e R s m args below meth c n0 Q h k n (mkF m pc' Ls st)) : Wp p l e R s m args below meth c n0 Q h k n (mkF m pc Ls (.null :: st)) := by
  subst hp; exact own_lift (fun T A t q => XS.ifnonnullNo A C.1 rfl (hb C.2.2.1 hd) rfl q) W
theorem own_ldc (C : Cx p s m meth c Z cd ml ret own nm) {i : Nat} {v : Int32} (hd : decode cd pc = .ok (.ldc i, 2)) (w : (Jvm.Cond.constant own i v).before a0 Z = true) (hp : pc + 2 = pc') (W : Wp p l e R s m args below meth c n0 Q h k n (mkF m pc' Ls (.int v :: st))) : Wp p l e R s m args below meth c n0 Q h k n (mkF m pc Ls st) := by
  subst hp; exact own_liftX (fun T locs X eT t q => X.ldcInt C.1 C.2.2.2.2.1 (mvT C.2.1 w) (g := mkF m pc Ls st) rfl (hb C.2.2.1 hd) t q) W
theorem own_ldcw (C : Cx p s m meth c Z cd ml ret own nm) {i : Nat} {v : Int32} (hd : decode cd pc = .ok (.ldc_w i, 3)) (w : (Jvm.Cond.constant own i v).before a0 Z = true) (hp : pc + 3 = pc') (W : Wp p l e R s m args below meth c n0 Q h k n (mkF m pc' Ls (.int v :: st))) : Wp p l e R s m args below meth c n0 Q h k n (mkF m pc Ls st) := by
  subst hp; exact own_liftX (fun T locs X eT t q => X.ldcwInt C.1 C.2.2.2.2.1 (mvT C.2.1 w) (g := mkF m pc Ls st) rfl (hb C.2.2.1 hd) t q) W
theorem own_ldc2 (C : Cx p s m meth c Z cd ml ret own nm) {i : Nat} {v : Int64} (hd : decode cd pc = .ok (.ldc2_w i, 3)) (w : (Jvm.Cond.constantLong own i v).before a0 Z = true) (hp : pc + 3 = pc') (W : Wp p l e R s m args below meth c n0 Q h k n (mkF m pc' Ls (.long v :: st))) : Wp p l e R s m args below meth c n0 Q h k n (mkF m pc Ls st) := by
  subst hp; exact own_liftX (fun T locs X eT t q => X.ldc2Long C.1 C.2.2.2.2.1 (mvT C.2.1 w) (g := mkF m pc Ls st) rfl (hb C.2.2.1 hd) t q) W
/-! objects -/
theorem own_getfield (C : Cx p s m meth c Z cd ml ret own nm) {i : Nat} {O f d : String} {a : Addr} {v : Value} (hd : decode cd pc = .ok (.getfield i, 3)) (w : (Jvm.Cond.fieldLink own i O f d).before a0 Z = true) (F : Fld Z h a O f d v) (hp : pc + 3 = pc') (W : Wp p l e R s m args below meth c n0 Q h k n (mkF m pc' Ls (v :: st))) : Wp p l e R s m args below meth c n0 Q h k n (mkF m pc Ls (.ref a :: st)) := fun T locs X eT N => by
  subst hp
  obtain ⟨T', X', e', st'⟩ := getF X C.1 C.2.1 C.2.2.2.2.1 (host := "") (Or.inl w) Via.refl eT F (g := mkF m pc Ls (.ref a :: st)) rfl rfl (hb C.2.2.1 hd)
  obtain ⟨s₂, o, q, r⟩ := W T' locs X' e' N
  exact ⟨s₂, o, st' _ q, r⟩
theorem own_getstatic (C : Cx p s m meth c Z cd ml ret own nm) {i : Nat} {O f d : String} {v : Value} (hd : decode cd pc = .ok (.getstatic i, 3)) (w : (Jvm.Cond.fieldLink own i O f d).before a0 Z = true) (F : Sta Z h O f d v) (hp : pc + 3 = pc') (W : Wp p l e R s m args below meth c n0 Q h k n (mkF m pc' Ls (v :: st))) : Wp p l e R s m args below meth c n0 Q h k n (mkF m pc Ls st) := fun T locs X eT N => by
  subst hp
  obtain ⟨T', X', e', st'⟩ := getS2 X C.1 C.2.1 C.2.2.2.2.1 (host := "") (Or.inl w) Via.refl eT F (g := mkF m pc Ls st) rfl (hb C.2.2.1 hd)
  obtain ⟨s₂, o, q, r⟩ := W T' locs X' e' N
  exact ⟨s₂, o, st' _ q, r⟩
theorem own_putfield (C : Cx p s m meth c Z cd ml ret own nm) {i kk : Nat} {O f d K : String} {ty : FieldType} {a : Addr} {v old : Value} (hd : decode cd pc = .ok (.putfield i, 3)) (w : (Jvm.Cond.fieldLink own i O f d).before a0 Z = true) (F : Fld Z h a O f d old) (E : Exa Z h a K) (L : (Jvm.Cond.lays K O f d).before a0 Z = true ∨ ((Jvm.Cond.laysFinal K O f d).before a0 Z = true ∧ own = O ∧ nm = "<init>")) (wi : (Jvm.Cond.instantiable K kk).before a0 Z = true)
    (hty : parseFieldDescriptor d = some ty) (hn : narrow ty v = v) (hf : fits ty v = true) (ha : n0 ≤ a) (hp : pc + 3 = pc') (W : ∀ h', Wr h h' a (RoadKit.slotOf Z O f d) v → Fld Z h' a O f d v → Wp p l e R s m args below meth c n0 Q h' k n (mkF m pc' Ls st)) : Wp p l e R s m args below meth c n0 Q h k n (mkF m pc Ls (v :: .ref a :: st)) := fun T locs X eT N => by
  subst hp
  obtain ⟨T', h', X', e', Wr', st'⟩ := putF X C.1 C.2.1 C.2.2.2.2.1 (host := "") (Or.inl w) Via.refl eT F E (L.imp id fun q => ⟨q.1, q.2.1, C.2.2.2.2.2.2.2.trans q.2.2⟩) wi hty hn hf (g := mkF m pc Ls (v :: .ref a :: st)) rfl rfl (hb C.2.2.1 hd)
  obtain ⟨s₂, o, q, r⟩ := W h' Wr' (F.same Wr') T' _ X' e' (Fr.snoc X' N ha)
  exact ⟨s₂, o, st' _ q, r⟩
theorem own_new (C : Cx p s m meth c Z cd ml ret own nm) {i nn : Nat} {K : String} (hd : decode cd pc = .ok (.new i, 3)) (w : (Jvm.Cond.classLink own i K).before a0 Z = true) (wi : (Jvm.Cond.instantiable K nn).before a0 Z = true) (wz : (Jvm.Cond.initialized K).before a0 Z = true) (hc : k + 1 ≤ R.cells) (hl : n + nn ≤ R.slots) (hp : pc + 3 = pc')
    (W : ∀ h' a, a = h.size → Ext h h' → Exa Z h' a K → (∀ {O f d : String} {ty : FieldType}, Laid Z a0 K O f d → parseFieldDescriptor d = some ty → Fld Z h' a O f d (defaultValue ty)) → Wp p l e R s m args below meth c n0 Q h' (k + 1) (n + nn) (mkF m pc' Ls (.ref a :: st))) : Wp p l e R s m args below meth c n0 Q h k n (mkF m pc Ls st) := fun T locs X eT N => by
  subst hp
  obtain ⟨T', h', X', e', E', A', D', -, st'⟩ := newO X C.1 C.2.1 C.2.2.2.2.1 w wi wz eT (g := mkF m pc Ls st) rfl (hb C.2.2.1 hd) hc hl
  obtain ⟨s₂, o, q, r⟩ := W h' h.size rfl E' A' D' T' _ X' e' N
  exact ⟨s₂, o, st' _ q, r⟩
/-- java.lang.Object's own constructor -/
theorem own_initO (C : Cx p s m meth c Z cd ml ret own nm) {i : Nat} {wL : Nat} (hd : decode cd pc = .ok (.invokespecial i, 3)) (w1 : (Jvm.Cond.methodLink own i Lib.objectInit).before a0 Z = true) (w2 : (Jvm.Cond.instanceMethod Lib.objectInit).before a0 Z = true) (w3 : (Jvm.Cond.code Lib.objectInit ⟨#[0xb1]⟩ 1 none).before a0 Z = true)
    {a : Addr} (hsz : Ls.size = ml) (hf : 1 ≤ R.frames) (hW : 0 + (st.map fun v => v.category).sum ≤ wL) (hl : wL + 12 ≤ R.locals) (hp : pc + 3 = pc') (W : Wp p l e R s m args below meth c n0 Q h k n (mkF m pc' Ls st)) : Wp p l e R s m args below meth c n0 Q h k n (mkF m pc Ls (.ref a :: st)) := fun T locs X eT N => by
  subst hp
  obtain ⟨T', X', e', st'⟩ := initO X C.1 C.2.1 C.2.2.2.2.1 w1 w2 w3 eT (g := mkF m pc Ls (.ref a :: st)) rfl (by rw [C.2.2.2.1]; exact hsz) rfl (hb C.2.2.1 hd) hf (W := wL) hW hl
  obtain ⟨s₂, o, q, r⟩ := W T' locs X' e' N
  exact ⟨s₂, o, st' _ q, r⟩
/-! arrays: of ints (of any narrow kind), of longs -/
def AI (Z : State) (h : Heap) (a : Addr) (ty : FieldType) (xs : List Int32) : Prop := ∃ cl : Cell, Arr Z h a cl ty ∧ cl.slots = (xs.map Value.int).toArray ∧ xs.length < 2 ^ 31
def AJ (Z : State) (h : Heap) (a : Addr) (xs : List Int64) : Prop := ∃ cl : Cell, Arr Z h a cl .long ∧ cl.slots = (xs.map Value.long).toArray ∧ xs.length < 2 ^ 31
theorem AI.lt {a : Addr} {ty : FieldType} {xs : List Int32} (A : AI Z h a ty xs) : a < h.size := by obtain ⟨cl, A, -⟩ := A; exact A.lt
theorem AJ.lt {a : Addr} {xs : List Int64} (A : AJ Z h a xs) : a < h.size := by obtain ⟨cl, A, -⟩ := A; exact A.lt
theorem AI.ext {h' : Heap} {a : Addr} {ty : FieldType} {xs : List Int32} (A : AI Z h a ty xs) (E : Ext h h') : AI Z h' a ty xs := by obtain ⟨cl, A, r⟩ := A; exact ⟨cl, A.ext E, r⟩
theorem AJ.ext {h' : Heap} {a : Addr} {xs : List Int64} (A : AJ Z h a xs) (E : Ext h h') : AJ Z h' a xs := by obtain ⟨cl, A, r⟩ := A; exact ⟨cl, A.ext E, r⟩
theorem AI.other {h' : Heap} {a b : Addr} {sl : Nat} {v : Value} {ty : FieldType} {xs : List Int32} (A : AI Z h a ty xs) (W : Wr h h' b sl v) (q : a ≠ b) : AI Z h' a ty xs := by obtain ⟨cl, A, r⟩ := A; exact ⟨cl, A.other W q, r⟩
theorem AJ.other {h' : Heap} {a b : Addr} {sl : Nat} {v : Value} {xs : List Int64} (A : AJ Z h a xs) (W : Wr h h' b sl v) (q : a ≠ b) : AJ Z h' a xs := by obtain ⟨cl, A, r⟩ := A; exact ⟨cl, A.other W q, r⟩
theorem AI.keep {h' : Heap} {a : Addr} {ws : List Addr} {ty : FieldType} {xs : List Int32} (A : AI Z h a ty xs) (K : Keep h h' ws) (q : a ∉ ws) : AI Z h' a ty xs := by obtain ⟨cl, A, r⟩ := A; exact ⟨cl, ⟨K.2.1 a cl A.1 q, A.2⟩, r⟩
theorem AJ.keep {h' : Heap} {a : Addr} {ws : List Addr} {xs : List Int64} (A : AJ Z h a xs) (K : Keep h h' ws) (q : a ∉ ws) : AJ Z h' a xs := by obtain ⟨cl, A, r⟩ := A; exact ⟨cl, ⟨K.2.1 a cl A.1 q, A.2⟩, r⟩
theorem AI.same {h' : Heap} {a : Addr} {i : Nat} {x : Int32} {ty : FieldType} {xs : List Int32} (A : AI Z h a ty xs) (W : Wr h h' a i (.int x)) : AI Z h' a ty (xs.set i x) := by
  obtain ⟨cl, A, r1, r2⟩ := A
  exact ⟨_, A.same W, by simp [Cell.setSlot, r1, List.map_set], by simpa using r2⟩
theorem AJ.same {h' : Heap} {a : Addr} {i : Nat} {x : Int64} {xs : List Int64} (A : AJ Z h a xs) (W : Wr h h' a i (.long x)) : AJ Z h' a (xs.set i x) := by
  obtain ⟨cl, A, r1, r2⟩ := A
  exact ⟨_, A.same W, by simp [Cell.setSlot, r1, List.map_set], by simpa using r2⟩
theorem own_iaload (C : Cx p s m meth c Z cd ml ret own nm) {a : Addr} {j v : Int32} {i : Nat} {xs : List Int32} (hd : decode cd pc = .ok (.iaload, 1)) (A : AI Z h a .int xs) (hj : ¬ j < 0) (hi : j.toNatClampNeg = i) (hv : xs[i]? = some v) (hp : pc + 1 = pc') (W : Wp p l e R s m args below meth c n0 Q h k n (mkF m pc' Ls (.int v :: st))) : Wp p l e R s m args below meth c n0 Q h k n (mkF m pc Ls (.int j :: .ref a :: st)) := by
  subst hp hi
  obtain ⟨cl, A, r1, r2⟩ := A
  have hlt := (List.getElem?_eq_some_iff.mp hv).1
  exact own_liftX (fun T locs X eT t q => X.iaload C.1 (j := j) (v := .int v) (by rw [eT]; exact A.1) (State.isArrayOf_alike C.2.1.alike A.2.1) A.2.2 (fun z => z.elim hj fun y => by rw [r1] at y; simp at y; omega) (by rw [r1]; simp [hv]) (g := mkF m pc Ls (.int j :: .ref a :: st)) rfl rfl (hb C.2.2.1 hd) t q) W
theorem own_baload (C : Cx p s m meth c Z cd ml ret own nm) {a : Addr} {j v : Int32} {i : Nat} {xs : List Int32} (hd : decode cd pc = .ok (.baload, 1)) (A : AI Z h a .byte xs) (hj : ¬ j < 0) (hi : j.toNatClampNeg = i) (hv : xs[i]? = some v) (hp : pc + 1 = pc') (W : Wp p l e R s m args below meth c n0 Q h k n (mkF m pc' Ls (.int v :: st))) : Wp p l e R s m args below meth c n0 Q h k n (mkF m pc Ls (.int j :: .ref a :: st)) := by
  subst hp hi
  obtain ⟨cl, A, r1, r2⟩ := A
  have hlt := (List.getElem?_eq_some_iff.mp hv).1
  exact own_liftX (fun T locs X eT t q => X.baloadBytes C.1 (j := j) (v := .int v) (by rw [eT]; exact A.1) (State.isArrayOf_alike C.2.1.alike A.2.1) A.2.2 (fun z => z.elim hj fun y => by rw [r1] at y; simp at y; omega) (by rw [r1]; simp [hv]) (g := mkF m pc Ls (.int j :: .ref a :: st)) rfl rfl (hb C.2.2.1 hd) t q) W
theorem own_laload (C : Cx p s m meth c Z cd ml ret own nm) {a : Addr} {j : Int32} {v : Int64} {i : Nat} {xs : List Int64} (hd : decode cd pc = .ok (.laload, 1)) (A : AJ Z h a xs) (hj : ¬ j < 0) (hi : j.toNatClampNeg = i) (hv : xs[i]? = some v) (hp : pc + 1 = pc') (W : Wp p l e R s m args below meth c n0 Q h k n (mkF m pc' Ls (.long v :: st))) : Wp p l e R s m args below meth c n0 Q h k n (mkF m pc Ls (.int j :: .ref a :: st)) := by
  subst hp hi
  obtain ⟨cl, A, r1, r2⟩ := A
  have hlt := (List.getElem?_eq_some_iff.mp hv).1
  exact own_liftX (fun T locs X eT t q => X.laload C.1 (j := j) (v := .long v) (by rw [eT]; exact A.1) (State.isArrayOf_alike C.2.1.alike A.2.1) A.2.2 (fun z => z.elim hj fun y => by rw [r1] at y; simp at y; omega) (by rw [r1]; simp [hv]) (g := mkF m pc Ls (.int j :: .ref a :: st)) rfl rfl (hb C.2.2.1 hd) t q) W
theorem own_lenI (C : Cx p s m meth c Z cd ml ret own nm) {a : Addr} {v : Int32} {ty : FieldType} {xs : List Int32} (hd : decode cd pc = .ok (.arraylength, 1)) (A : AI Z h a ty xs) (hv : xs.length.toInt32 = v) (hp : pc + 1 = pc') (W : Wp p l e R s m args below meth c n0 Q h k n (mkF m pc' Ls (.int v :: st))) : Wp p l e R s m args below meth c n0 Q h k n (mkF m pc Ls (.ref a :: st)) := by
  subst hp hv
  obtain ⟨cl, A, r1, r2⟩ := A
  have e1 : cl.slots.size = xs.length := by rw [r1]; simp
  exact own_liftX (fun T locs X eT t q => X.arraylength C.1 (by rw [eT]; exact A.1) (State.isArrayOf_alike C.2.1.alike A.2.1) (g := mkF m pc Ls (.ref a :: st)) rfl rfl (hb C.2.2.1 hd) t (by rw [e1]; exact q)) W
theorem own_lenJ (C : Cx p s m meth c Z cd ml ret own nm) {a : Addr} {v : Int32} {xs : List Int64} (hd : decode cd pc = .ok (.arraylength, 1)) (A : AJ Z h a xs) (hv : xs.length.toInt32 = v) (hp : pc + 1 = pc') (W : Wp p l e R s m args below meth c n0 Q h k n (mkF m pc' Ls (.int v :: st))) : Wp p l e R s m args below meth c n0 Q h k n (mkF m pc Ls (.ref a :: st)) := by
  subst hp hv
  obtain ⟨cl, A, r1, r2⟩ := A
  have e1 : cl.slots.size = xs.length := by rw [r1]; simp
  exact own_liftX (fun T locs X eT t q => X.arraylength C.1 (by rw [eT]; exact A.1) (State.isArrayOf_alike C.2.1.alike A.2.1) (g := mkF m pc Ls (.ref a :: st)) rfl rfl (hb C.2.2.1 hd) t (by rw [e1]; exact q)) W
theorem own_iastore (C : Cx p s m meth c Z cd ml ret own nm) {a : Addr} {j x : Int32} {i : Nat} {xs ys : List Int32} (hd : decode cd pc = .ok (.iastore, 1)) (A : AI Z h a .int xs) (hj : ¬ j < 0) (hi : j.toNatClampNeg = i) (hlt : i < xs.length) (hys : xs.set i x = ys) (ha : n0 ≤ a) (hp : pc + 1 = pc') (W : ∀ h', Wr h h' a i (.int x) → AI Z h' a .int ys → Wp p l e R s m args below meth c n0 Q h' k n (mkF m pc' Ls st)) : Wp p l e R s m args below meth c n0 Q h k n (mkF m pc Ls (.int x :: .int j :: .ref a :: st)) := fun T locs X eT N => by
  subst hp hi hys
  have A' := A
  obtain ⟨cl, A, r1, r2⟩ := A
  obtain ⟨T', h', X', e', Wr', st'⟩ := stI X C.1 C.2.1 eT A (j := j) (x := x) (fun z => z.elim hj fun y => by rw [r1] at y; simp at y; omega) (g := mkF m pc Ls (.int x :: .int j :: .ref a :: st)) rfl rfl (hb C.2.2.1 hd)
  obtain ⟨s₂, o, q, r⟩ := W h' Wr' (A'.same Wr') T' _ X' e' (Fr.snoc X' N ha)
  exact ⟨s₂, o, st' _ q, r⟩
theorem own_lastore (C : Cx p s m meth c Z cd ml ret own nm) {a : Addr} {j : Int32} {x : Int64} {i : Nat} {xs ys : List Int64} (hd : decode cd pc = .ok (.lastore, 1)) (A : AJ Z h a xs) (hj : ¬ j < 0) (hi : j.toNatClampNeg = i) (hlt : i < xs.length) (hys : xs.set i x = ys) (ha : n0 ≤ a) (hp : pc + 1 = pc') (W : ∀ h', Wr h h' a i (.long x) → AJ Z h' a ys → Wp p l e R s m args below meth c n0 Q h' k n (mkF m pc' Ls st)) : Wp p l e R s m args below meth c n0 Q h k n (mkF m pc Ls (.long x :: .int j :: .ref a :: st)) := fun T locs X eT N => by
  subst hp hi hys
  have A' := A
  obtain ⟨cl, A, r1, r2⟩ := A
  obtain ⟨T', h', X', e', Wr', st'⟩ := stJ X C.1 C.2.1 eT A (j := j) (x := x) (fun z => z.elim hj fun y => by rw [r1] at y; simp at y; omega) (g := mkF m pc Ls (.long x :: .int j :: .ref a :: st)) rfl rfl (hb C.2.2.1 hd)
  obtain ⟨s₂, o, q, r⟩ := W h' Wr' (A'.same Wr') T' _ X' e' (Fr.snoc X' N ha)
  exact ⟨s₂, o, st' _ q, r⟩
theorem own_bastore (C : Cx p s m meth c Z cd ml ret own nm) {a : Addr} {j x : Int32} {i : Nat} {xs ys : List Int32} (hd : decode cd pc = .ok (.bastore, 1)) (A : AI Z h a .byte xs) (hj : ¬ j < 0) (hi : j.toNatClampNeg = i) (hlt : i < xs.length) (hys : xs.set i (nar .byte x) = ys) (ha : n0 ≤ a) (hp : pc + 1 = pc') (W : ∀ h', Wr h h' a i (.int (nar .byte x)) → AI Z h' a .byte ys → Wp p l e R s m args below meth c n0 Q h' k n (mkF m pc' Ls st)) : Wp p l e R s m args below meth c n0 Q h k n (mkF m pc Ls (.int x :: .int j :: .ref a :: st)) := fun T locs X eT N => by
  subst hp hi hys
  have A' := A
  obtain ⟨cl, A, r1, r2⟩ := A
  obtain ⟨T', h', X', e', Wr', st'⟩ := stB X C.1 C.2.1 eT A (j := j) (x := x) (fun z => z.elim hj fun y => by rw [r1] at y; simp at y; omega) (g := mkF m pc Ls (.int x :: .int j :: .ref a :: st)) rfl rfl (hb C.2.2.1 hd)
  obtain ⟨s₂, o, q, r⟩ := W h' Wr' (A'.same Wr') T' _ X' e' (Fr.snoc X' N ha)
  exact ⟨s₂, o, st' _ q, r⟩
theorem own_newI (C : Cx p s m meth c Z cd ml ret own nm) {aty : ArrayType} {ty : FieldType} {z : Int32} {len cap : Nat} (hd : decode cd pc = .ok (.newarray aty, 2)) (hty : newarray.typeOf aty = ty) (hdv : defaultValue ty = .int 0) (w : (Jvm.Cond.arrayClass ty).before a0 Z = true) (hz : ¬ z < 0) (hlen : z.toNatClampNeg = len) (hcap : len ≤ cap) (hb8 : cap * 8 ≤ 536870912) (hc : k + 1 ≤ R.cells) (hl : n + cap ≤ R.slots) (hp : pc + 2 = pc')
    (W : ∀ h' a, a = h.size → Ext h h' → AI Z h' a ty (List.replicate len 0) → Wp p l e R s m args below meth c n0 Q h' (k + 1) (n + cap) (mkF m pc' Ls (.ref a :: st))) : Wp p l e R s m args below meth c n0 Q h k n (mkF m pc Ls (.int z :: st)) := fun T locs X eT N => by
  subst hp hlen hty
  obtain ⟨T', h', cA, X', e', E', A', st'⟩ := newP X C.1 C.2.1 w eT (g := mkF m pc Ls (.int z :: st)) rfl (hb C.2.2.1 hd) rfl hz hcap hb8 hc hl
  obtain ⟨s₂, o, q, r⟩ := W h' h.size rfl E' ⟨_, A', by simp [newA, hdv], by simp; exact (back32 hz).2⟩ T' _ X' e' N
  exact ⟨s₂, o, st' _ q, r⟩
theorem own_newJ (C : Cx p s m meth c Z cd ml ret own nm) {z : Int32} {len cap : Nat} (hd : decode cd pc = .ok (.newarray .long, 2)) (w : (Jvm.Cond.arrayClass .long).before a0 Z = true) (hz : ¬ z < 0) (hlen : z.toNatClampNeg = len) (hcap : len ≤ cap) (hb8 : cap * 8 ≤ 536870912) (hc : k + 1 ≤ R.cells) (hl : n + cap ≤ R.slots) (hp : pc + 2 = pc')
    (W : ∀ h' a, a = h.size → Ext h h' → AJ Z h' a (List.replicate len 0) → Wp p l e R s m args below meth c n0 Q h' (k + 1) (n + cap) (mkF m pc' Ls (.ref a :: st))) : Wp p l e R s m args below meth c n0 Q h k n (mkF m pc Ls (.int z :: st)) := fun T locs X eT N => by
  subst hp hlen
  obtain ⟨T', h', cA, X', e', E', A', st'⟩ := newP X C.1 C.2.1 (aty := .long) w eT (g := mkF m pc Ls (.int z :: st)) rfl (hb C.2.2.1 hd) rfl hz hcap hb8 hc hl
  obtain ⟨s₂, o, q, r⟩ := W h' h.size rfl E' ⟨_, A', by simp [newA, newarray.typeOf, defaultValue], by simp; exact (back32 hz).2⟩ T' _ X' e' N
  exact ⟨s₂, o, st' _ q, r⟩
/-! calls -/
theorem own_callS (C : Cx p s m meth c Z cd ml ret own nm) {i : Nat} {y : MethodName} {bytes : ByteArray} {mL wL : Nat} {rt : Option FieldType} {rm : Room} {as : Array Value} {Qc : Option Value → Heap → Prop} {argsL rest : List Value}
    (M : Met l y bytes mL rt [] rm Z n0 as h Qc)
    (hd : decode cd pc = .ok (.invokestatic i, 3)) (w1 : (Jvm.Cond.methodLink own i y).before a0 Z = true) (w2 : (Jvm.Cond.static y).before a0 Z = true) (w3 : (Jvm.Cond.initialized y.cls).before a0 Z = true) (w4 : (Jvm.Cond.code y bytes mL rt).before a0 Z = true)
    (hy : y.cls ≠ "java/lang/invoke/MethodHandle" ∧ y.cls ≠ "java/lang/invoke/VarHandle") (hfr : rm.frames + 1 ≤ R.frames) (hlo : wL + (mL + 11) + rm.locals ≤ R.locals) (hsz : Ls.size = ml) (hlen : ∀ sig, parseMethodDescriptor y.desc = some sig → argsL.length = sig.parameters.length)
    (hst : st = argsL.reverse ++ rest) (has : argsL.toArray = as) (hW : 0 + (rest.map fun v => v.category).sum ≤ wL) (hc : k + rm.cells ≤ R.cells) (hs : n + rm.slots ≤ R.slots) (hp : pc + 3 = pc')
    (W : ∀ v h', Qc v h' → Wp p l e R s m args below meth c n0 Q h' (k + rm.cells) (n + rm.slots) (mkF m pc' Ls (v.toList ++ rest))) : Wp p l e R s m args below meth c n0 Q h k n (mkF m pc Ls st) := fun T locs X eT N => by
  subst hp has
  obtain ⟨_, _, ⟨T', L', k', n'⟩, -, X', ⟨Lc, hQ, l1, y1, z1⟩, st'⟩ := Jvm.LawKit.callS X C.1 (y := y) C.2.2.2.2.1 (mvT C.2.1 w1) (mvT C.2.1 w2) (mvT C.2.1 w3) (mvT C.2.1 w4) hy (backOf (W := wL) (Q := fun v h L => Qc v h ∧ Fr n0 L) M C.2.1 w4 w3 hfr hlo) (g := mkF m pc Ls st) rfl (by rw [C.2.2.2.1]; exact hsz) (argsL := argsL) (rest := rest) hlen hst hW (hb C.2.2.1 hd) (fun _ _ => ⟨rfl, eT, hc, hs⟩)
  dsimp only [Pt.U, Pt.locs, Pt.cells, Pt.slots] at X' l1 y1 z1 st' hQ
  subst l1 y1 z1
  obtain ⟨s₂, o, q, r⟩ := W _ _ hQ.1 T' _ X' rfl (Fr.app N hQ.2)
  exact ⟨s₂, o, st' _ q, r⟩
theorem own_callI (C : Cx p s m meth c Z cd ml ret own nm) {i : Nat} {K : String} {dsc : String} {bytes : ByteArray} {mL wL : Nat} {rm : Room} {as : Array Value} {Qc : Option Value → Heap → Prop} {argsL rest : List Value} {a : Addr}
    (M : Met l ⟨K, "<init>", dsc⟩ bytes mL none [] rm Z n0 as h Qc)
    (hd : decode cd pc = .ok (.invokespecial i, 3)) (w1 : (Jvm.Cond.methodLink own i ⟨K, "<init>", dsc⟩).before a0 Z = true) (w2 : (Jvm.Cond.instanceMethod ⟨K, "<init>", dsc⟩).before a0 Z = true) (w3 : (Jvm.Cond.initialized K).before a0 Z = true) (w4 : (Jvm.Cond.code ⟨K, "<init>", dsc⟩ bytes mL none).before a0 Z = true)
    (hy : K ≠ "java/lang/invoke/MethodHandle" ∧ K ≠ "java/lang/invoke/VarHandle") (hfr : rm.frames + 1 ≤ R.frames) (hlo : wL + (mL + 11) + rm.locals ≤ R.locals) (hsz : Ls.size = ml) (hlen : ∀ sig, parseMethodDescriptor dsc = some sig → argsL.length = sig.parameters.length)
    (hst : st = argsL.reverse ++ .ref a :: rest) (has : (Value.ref a :: argsL).toArray = as) (hW : 0 + (rest.map fun v => v.category).sum ≤ wL) (hc : k + rm.cells ≤ R.cells) (hs : n + rm.slots ≤ R.slots) (hp : pc + 3 = pc')
    (W : ∀ v h', Qc v h' → Wp p l e R s m args below meth c n0 Q h' (k + rm.cells) (n + rm.slots) (mkF m pc' Ls (v.toList ++ rest))) : Wp p l e R s m args below meth c n0 Q h k n (mkF m pc Ls st) := fun T locs X eT N => by
  subst hp has
  obtain ⟨_, _, ⟨T', L', k', n'⟩, -, X', ⟨Lc, hQ, l1, y1, z1⟩, st'⟩ := X.specialBack C.1 (y := ⟨K, "<init>", dsc⟩) rfl C.2.2.2.2.1 (mvT C.2.1 w1) (mvT C.2.1 w2) (mvT C.2.1 w4) hy (backOf (W := wL) (Q := fun v h L => Qc v h ∧ Fr n0 L) M C.2.1 w4 w3 hfr hlo) (g := mkF m pc Ls st) rfl (by rw [C.2.2.2.1]; exact hsz) (Steps.refl _) (a := a) (argsL := argsL) (rest := rest) hlen hst hW (hb C.2.2.1 hd) (fun _ _ => ⟨rfl, eT, hc, hs⟩)
  dsimp only [Pt.U, Pt.locs, Pt.cells, Pt.slots] at X' l1 y1 z1 st' hQ
  subst l1 y1 z1
  obtain ⟨s₂, o, q, r⟩ := W _ _ hQ.1 T' _ X' rfl (Fr.app N hQ.2)
  exact ⟨s₂, o, st'.trans q, r⟩
theorem own_callV (C : Cx p s m meth c Z cd ml ret own nm) {i : Nat} {y : MethodName} {bytes : ByteArray} {mL wL : Nat} {rt : Option FieldType} {rm : Room} {as : Array Value} {Qc : Option Value → Heap → Prop} {argsL rest : List Value} {a : Addr}
    (M : Met l y bytes mL rt [] rm Z n0 as h Qc) (E : Exa Z h a y.cls)
    (hd : decode cd pc = .ok (.invokevirtual i, 3)) (w1 : (Jvm.Cond.methodLink own i y).before a0 Z = true) (w2 : (Jvm.Cond.declares y).before a0 Z = true) (w5 : (Jvm.Cond.selects y.cls y y).before a0 Z = true) (w6 : (Jvm.Cond.instanceMethod y).before a0 Z = true) (w3 : (Jvm.Cond.initialized y.cls).before a0 Z = true) (w4 : (Jvm.Cond.code y bytes mL rt).before a0 Z = true)
    (hy : y.cls ≠ "java/lang/invoke/MethodHandle" ∧ y.cls ≠ "java/lang/invoke/VarHandle") (hfr : rm.frames + 1 ≤ R.frames) (hlo : wL + (mL + 11) + rm.locals ≤ R.locals) (hsz : Ls.size = ml) (hlen : ∀ sig, parseMethodDescriptor y.desc = some sig → argsL.length = sig.parameters.length)
    (hst : st = argsL.reverse ++ .ref a :: rest) (has : (Value.ref a :: argsL).toArray = as) (hW : 0 + (rest.map fun v => v.category).sum ≤ wL) (hc : k + rm.cells ≤ R.cells) (hs : n + rm.slots ≤ R.slots) (hp : pc + 3 = pc')
    (W : ∀ v h', Qc v h' → Wp p l e R s m args below meth c n0 Q h' (k + rm.cells) (n + rm.slots) (mkF m pc' Ls (v.toList ++ rest))) : Wp p l e R s m args below meth c n0 Q h k n (mkF m pc Ls st) := fun T locs X eT N => by
  subst hp has
  obtain ⟨cq, kq, qa, qb, qc⟩ := isOf C.2.1 eT E
  obtain ⟨_, _, ⟨T', L', k', n'⟩, -, X', ⟨Lc, hQ, l1, y1, z1⟩, st'⟩ := X.virtualBack C.1 (y := y) (z := y) C.2.2.2.2.1 (mvT C.2.1 w1) (mvT C.2.1 w2) (notFace_of_selects (args := #[]) (mvT C.2.1 w5)) (mvT C.2.1 w5) (mvT C.2.1 w6) hy (backOf (W := wL) (Q := fun v h L => Qc v h ∧ Fr n0 L) M C.2.1 w4 w3 hfr hlo) qa qc (g := mkF m pc Ls st) rfl (by rw [C.2.2.2.1]; exact hsz) (Steps.refl _) (argsL := argsL) (rest := rest) hlen hst hW (hb C.2.2.1 hd) (fun _ _ => ⟨rfl, eT, hc, hs⟩)
  dsimp only [Pt.U, Pt.locs, Pt.cells, Pt.slots] at X' l1 y1 z1 st' hQ
  subst l1 y1 z1
  obtain ⟨s₂, o, q, r⟩ := W _ _ hQ.1 T' _ X' rfl (Fr.app N hQ.2)
  exact ⟨s₂, o, st'.trans q, r⟩
theorem own_callP (C : Cx p s m meth c Z cd ml ret own nm) {i : Nat} {y : MethodName} {bytes : ByteArray} {mL wL : Nat} {rt : Option FieldType} {rm : Room} {as : Array Value} {Qc : Option Value → Heap → Prop} {argsL rest : List Value} {a : Addr}
    (M : Met l y bytes mL rt [] rm Z n0 as h Qc) (E : Exa Z h a y.cls)
    (hd : decode cd pc = .ok (.invokevirtual i, 3)) (w1 : (Jvm.Cond.methodLink own i y).before a0 Z = true) (w2 : (Jvm.Cond.privateMethod y).before a0 Z = true) (w5 : (Jvm.Cond.selects y.cls y y).before a0 Z = true) (w6 : (Jvm.Cond.instanceMethod y).before a0 Z = true) (w3 : (Jvm.Cond.initialized y.cls).before a0 Z = true) (w4 : (Jvm.Cond.code y bytes mL rt).before a0 Z = true)
    (hy : y.cls ≠ "java/lang/invoke/MethodHandle" ∧ y.cls ≠ "java/lang/invoke/VarHandle") (hfr : rm.frames + 1 ≤ R.frames) (hlo : wL + (mL + 11) + rm.locals ≤ R.locals) (hsz : Ls.size = ml) (hlen : ∀ sig, parseMethodDescriptor y.desc = some sig → argsL.length = sig.parameters.length)
    (hst : st = argsL.reverse ++ .ref a :: rest) (has : (Value.ref a :: argsL).toArray = as) (hW : 0 + (rest.map fun v => v.category).sum ≤ wL) (hc : k + rm.cells ≤ R.cells) (hs : n + rm.slots ≤ R.slots) (hp : pc + 3 = pc')
    (W : ∀ v h', Qc v h' → Wp p l e R s m args below meth c n0 Q h' (k + rm.cells) (n + rm.slots) (mkF m pc' Ls (v.toList ++ rest))) : Wp p l e R s m args below meth c n0 Q h k n (mkF m pc Ls st) := fun T locs X eT N => by
  subst hp has
  obtain ⟨cq, q1, q2⟩ := E.cell
  obtain ⟨_, _, ⟨T', L', k', n'⟩, -, X', ⟨Lc, hQ, l1, y1, z1⟩, st'⟩ := X.privateBack C.1 (y := y) C.2.2.2.2.1 (mvT C.2.1 w1) (mvT C.2.1 w6) (mvT C.2.1 w5) (Cond.privateMethod_at (mvP C.2.1 w2 (args := #[]))) (mvT C.2.1 w4) hy (backOf (W := wL) (Q := fun v h L => Qc v h ∧ Fr n0 L) M C.2.1 w4 w3 hfr hlo) (g := mkF m pc Ls st) rfl (by rw [C.2.2.2.1]; exact hsz) (Steps.refl _) (a := a) (by rw [eT]; exact q1) q2 (argsL := argsL) (rest := rest) hlen hst hW (hb C.2.2.1 hd) (fun _ _ => ⟨rfl, eT, hc, hs⟩)
  dsimp only [Pt.U, Pt.locs, Pt.cells, Pt.slots] at X' l1 y1 z1 st' hQ
  subst l1 y1 z1
  obtain ⟨s₂, o, q, r⟩ := W _ _ hQ.1 T' _ X' rfl (Fr.app N hQ.2)
  exact ⟨s₂, o, st'.trans q, r⟩
end OwnKit
def own_f1 (g : Int64) (i : Int32) (og : Int64) (oi : Int32) : Int32 := (if og < g then (1 : Int32) else (if g = og then (if i < oi then (1 : Int32) else (0 : Int32)) else (0 : Int32)))
theorem own_f1_z (g : Int64) (i : Int32) (og : Int64) (oi : Int32) : own_f1 g i og oi = 0 ∨ own_f1 g i og oi = 1 := by
  simp only [own_f1]; repeat (first | exact Or.inl rfl | exact Or.inr rfl | split)
theorem d1_0 : decode prog_9_method_2_code 0 = .ok (.lload_n 0, 1) := by decide +kernel
theorem d1_1 : decode prog_9_method_2_code 1 = .ok (.lload_n 3, 1) := by decide +kernel
theorem d1_2 : decode prog_9_method_2_code 2 = .ok (.lcmp, 1) := by decide +kernel
theorem d1_3 : decode prog_9_method_2_code 3 = .ok (.ifCond .gt 15, 3) := by decide +kernel
theorem d1_6 : decode prog_9_method_2_code 6 = .ok (.lload_n 0, 1) := by decide +kernel
theorem d1_7 : decode prog_9_method_2_code 7 = .ok (.lload_n 3, 1) := by decide +kernel
theorem d1_8 : decode prog_9_method_2_code 8 = .ok (.lcmp, 1) := by decide +kernel
theorem d1_9 : decode prog_9_method_2_code 9 = .ok (.ifCond .ne 13, 3) := by decide +kernel
theorem d1_12 : decode prog_9_method_2_code 12 = .ok (.iload_n 2, 1) := by decide +kernel
theorem d1_13 : decode prog_9_method_2_code 13 = .ok (.iload 5, 2) := by decide +kernel
theorem d1_15 : decode prog_9_method_2_code 15 = .ok (.if_icmp .ge 7, 3) := by decide +kernel
theorem d1_18 : decode prog_9_method_2_code 18 = .ok (.iconst 1, 1) := by decide +kernel
theorem d1_19 : decode prog_9_method_2_code 19 = .ok (.goto 4, 3) := by decide +kernel
theorem d1_22 : decode prog_9_method_2_code 22 = .ok (.iconst 0, 1) := by decide +kernel
theorem d1_23 : decode prog_9_method_2_code 23 = .ok (.ireturn, 1) := by decide +kernel
theorem pn1 : plainName "com/example/cachewright/cachewright/placement/CandidateHeap" = true := by first | (simp [plainName, overriddenIn]; done) | decide +kernel
theorem ef1 (m : MethodId) (x0 : Int64) (x1 : Int32) (x2 : Int64) (x3 : Int32) : entryFrame m #[(.long x0), (.int x1), (.long x2), (.int x3)] 6 = mkF m 0 #[.val (.long x0), .second, .val (.int x1), .val (.long x2), .second, .val (.int x3)] [] := by first | (simp [entryFrame, mkF, argsToLocals, Value.category]; done) | rfl
theorem own_ki_1 : Int32.ofInt (1) = (1 : Int32) := by decide
theorem own_ki_0 : Int32.ofInt (0) = (0 : Int32) := by decide
set_option maxRecDepth 65536 in
set_option maxHeartbeats 40000000 in
theorem own_m1 (l : Launch) (Z : State) (a0 : Array Value) (hw : ∀ d ∈ tables_1, d.before a0 Z = true) (g : Int64) (i : Int32) (og : Int64) (oi : Int32)  (h0 : Heap) (n0 : Nat) (Z_ : n0 ≤ h0.size)  :
    Met l (⟨"com/example/cachewright/cachewright/placement/CandidateHeap", "ahead", "(JIJI)Z"⟩ : MethodName) prog_9_method_2_code 6 (some .boolean) [] ({ frames := 0, cells := 0, slots := 0, locals := 0 } : Room) Z n0 #[(.long g), (.int i), (.long og), (.int oi)] h0 (fun v h => v = some (.int (own_f1 g i og oi)) ∧ h0 = h) := by
  refine own_met pn1 (fun m => ef1 m g i og oi) ?_
  intro p e s m below meth c C
  refine own_lloadN (pc' := 1) C d1_0 rfl rfl ?_
  refine own_lloadN (pc' := 2) C d1_1 rfl rfl ?_
  obtain ⟨vs_23, hvs_23⟩ : ∃ z : Int32, z = (if og < g then (1 : Int32) else (if g = og then (if i < oi then (1 : Int32) else (0 : Int32)) else (0 : Int32))) := ⟨_, rfl⟩
  have hzvs_23 : vs_23 = 0 ∨ vs_23 = 1 := by rw [hvs_23]; repeat (first | exact Or.inl rfl | exact Or.inr rfl | split)
  refine own_seq (g' := mkF m 23 #[.val (.long g), .second, .val (.int i), .val (.long og), .second, .val (.int oi)] [(.int vs_23)]) (fun J23 => ?_) ?_
  · refine own_lcmp_gt (pt := 18) (pf := 6) C d1_2 rfl d1_3 (by decide) (by decide) rfl ?_ ?_
    · intro hc2
      refine own_iconst (pc' := 19) (v := (1 : Int32)) C d1_18 own_ki_1 rfl ?_
      refine own_goto (pc' := 23) C d1_19 (by decide) (by decide) ?_
      exact own_cast (by simp only [hvs_23, if_pos hc2]) (J23)
    · intro hc2
      refine own_lloadN (pc' := 7) C d1_6 rfl rfl ?_
      refine own_lloadN (pc' := 8) C d1_7 rfl rfl ?_
      refine own_lcmp_ne (pt := 22) (pf := 12) C d1_8 rfl d1_9 (by decide) (by decide) rfl ?_ ?_
      · intro hc8
        refine own_iconst (pc' := 23) (v := (0 : Int32)) C d1_22 own_ki_0 rfl ?_
        exact own_cast (by simp only [hvs_23, if_neg hc2, if_neg hc8]) (J23)
      · intro hc8
        refine own_iloadN (pc' := 13) C d1_12 rfl rfl ?_
        refine own_iload (pc' := 15) C d1_13 rfl rfl ?_
        refine own_icmp_ge (pt := 22) (pf := 18) C d1_15 (by decide) (by decide) rfl ?_ ?_
        · intro hc15
          refine own_iconst (pc' := 23) (v := (0 : Int32)) C d1_22 own_ki_0 rfl ?_
          exact own_cast (by simp only [hvs_23, if_neg hc2, if_pos hc8, if_neg hc15]) (J23)
        · intro hc15
          refine own_iconst (pc' := 19) (v := (1 : Int32)) C d1_18 own_ki_1 rfl ?_
          refine own_goto (pc' := 23) C d1_19 (by decide) (by decide) ?_
          exact own_cast (by simp only [hvs_23, if_neg hc2, if_pos hc8, if_pos hc15]) (J23)
  refine own_zret C d1_23 (by decide) (by decide) hzvs_23 ?_
  exact ⟨by simp only [own_f1, hvs_23], rfl⟩

def own_f2 (g : Int64) (i : Int32) (og : Int64) (oi : Int32) : Int32 := (if og < g then (1 : Int32) else (if g < og then (0 : Int32) else (if i < oi then (1 : Int32) else (0 : Int32))))
theorem own_f2_z (g : Int64) (i : Int32) (og : Int64) (oi : Int32) : own_f2 g i og oi = 0 ∨ own_f2 g i og oi = 1 := by
  simp only [own_f2]; repeat (first | exact Or.inl rfl | exact Or.inr rfl | split)
theorem d2_0 : decode method_2_code 0 = .ok (.lload_n 0, 1) := by decide +kernel
theorem d2_1 : decode method_2_code 1 = .ok (.lload_n 3, 1) := by decide +kernel
theorem d2_2 : decode method_2_code 2 = .ok (.lcmp, 1) := by decide +kernel
theorem d2_3 : decode method_2_code 3 = .ok (.ifCond .le 5, 3) := by decide +kernel
theorem d2_6 : decode method_2_code 6 = .ok (.iconst 1, 1) := by decide +kernel
theorem d2_7 : decode method_2_code 7 = .ok (.ireturn, 1) := by decide +kernel
theorem d2_8 : decode method_2_code 8 = .ok (.lload_n 0, 1) := by decide +kernel
theorem d2_9 : decode method_2_code 9 = .ok (.lload_n 3, 1) := by decide +kernel
theorem d2_10 : decode method_2_code 10 = .ok (.lcmp, 1) := by decide +kernel
theorem d2_11 : decode method_2_code 11 = .ok (.ifCond .ge 5, 3) := by decide +kernel
theorem d2_14 : decode method_2_code 14 = .ok (.iconst 0, 1) := by decide +kernel
theorem d2_15 : decode method_2_code 15 = .ok (.ireturn, 1) := by decide +kernel
theorem d2_16 : decode method_2_code 16 = .ok (.iload_n 2, 1) := by decide +kernel
theorem d2_17 : decode method_2_code 17 = .ok (.iload 5, 2) := by decide +kernel
theorem d2_19 : decode method_2_code 19 = .ok (.if_icmp .ge 7, 3) := by decide +kernel
theorem d2_22 : decode method_2_code 22 = .ok (.iconst 1, 1) := by decide +kernel
theorem d2_23 : decode method_2_code 23 = .ok (.goto 4, 3) := by decide +kernel
theorem d2_26 : decode method_2_code 26 = .ok (.iconst 0, 1) := by decide +kernel
theorem d2_27 : decode method_2_code 27 = .ok (.ireturn, 1) := by decide +kernel
theorem pn2 : plainName "com/example/cachewright/cachewright/placement/CandidateHeapAheadPinLaw" = true := by first | (simp [plainName, overriddenIn]; done) | decide +kernel
theorem ef2 (m : MethodId) (x0 : Int64) (x1 : Int32) (x2 : Int64) (x3 : Int32) : entryFrame m #[(.long x0), (.int x1), (.long x2), (.int x3)] 6 = mkF m 0 #[.val (.long x0), .second, .val (.int x1), .val (.long x2), .second, .val (.int x3)] [] := by first | (simp [entryFrame, mkF, argsToLocals, Value.category]; done) | rfl
set_option maxRecDepth 65536 in
set_option maxHeartbeats 40000000 in
theorem own_m2 (l : Launch) (Z : State) (a0 : Array Value) (hw : ∀ d ∈ tables_1, d.before a0 Z = true) (g : Int64) (i : Int32) (og : Int64) (oi : Int32)  (h0 : Heap) (n0 : Nat) (Z_ : n0 ≤ h0.size)  :
    Met l (⟨"com/example/cachewright/cachewright/placement/CandidateHeapAheadPinLaw", "expected", "(JIJI)Z"⟩ : MethodName) method_2_code 6 (some .boolean) [] ({ frames := 0, cells := 0, slots := 0, locals := 0 } : Room) Z n0 #[(.long g), (.int i), (.long og), (.int oi)] h0 (fun v h => v = some (.int (own_f2 g i og oi)) ∧ h0 = h) := by
  refine own_met pn2 (fun m => ef2 m g i og oi) ?_
  intro p e s m below meth c C
  refine own_lloadN (pc' := 1) C d2_0 rfl rfl ?_
  refine own_lloadN (pc' := 2) C d2_1 rfl rfl ?_
  refine own_lcmp_le (pt := 8) (pf := 6) C d2_2 rfl d2_3 (by decide) (by decide) rfl ?_ ?_
  · intro hc2
    refine own_lloadN (pc' := 9) C d2_8 rfl rfl ?_
    refine own_lloadN (pc' := 10) C d2_9 rfl rfl ?_
    refine own_lcmp_ge (pt := 16) (pf := 14) C d2_10 rfl d2_11 (by decide) (by decide) rfl ?_ ?_
    · intro hc10
      refine own_iloadN (pc' := 17) C d2_16 rfl rfl ?_
      refine own_iload (pc' := 19) C d2_17 rfl rfl ?_
      obtain ⟨vs_27, hvs_27⟩ : ∃ z : Int32, z = (if i < oi then (1 : Int32) else (0 : Int32)) := ⟨_, rfl⟩
      have hzvs_27 : vs_27 = 0 ∨ vs_27 = 1 := by rw [hvs_27]; repeat (first | exact Or.inl rfl | exact Or.inr rfl | split)
      refine own_seq (g' := mkF m 27 #[.val (.long g), .second, .val (.int i), .val (.long og), .second, .val (.int oi)] [(.int vs_27)]) (fun J27 => ?_) ?_
      · refine own_icmp_ge (pt := 26) (pf := 22) C d2_19 (by decide) (by decide) rfl ?_ ?_
        · intro hc19
          refine own_iconst (pc' := 27) (v := (0 : Int32)) C d2_26 own_ki_0 rfl ?_
          exact own_cast (by simp only [hvs_27, if_neg hc19]) (J27)
        · intro hc19
          refine own_iconst (pc' := 23) (v := (1 : Int32)) C d2_22 own_ki_1 rfl ?_
          refine own_goto (pc' := 27) C d2_23 (by decide) (by decide) ?_
          exact own_cast (by simp only [hvs_27, if_pos hc19]) (J27)
      refine own_zret C d2_27 (by decide) (by decide) hzvs_27 ?_
      exact ⟨by simp only [own_f2, if_neg hc2, if_neg hc10, hvs_27], rfl⟩
    · intro hc10
      refine own_iconst (pc' := 15) (v := (0 : Int32)) C d2_14 own_ki_0 rfl ?_
      refine own_zret C d2_15 (by decide) (by decide) (Or.inl rfl) ?_
      exact ⟨by simp only [own_f2, if_neg hc2, if_pos hc10], rfl⟩
  · intro hc2
    refine own_iconst (pc' := 7) (v := (1 : Int32)) C d2_6 own_ki_1 rfl ?_
    refine own_zret C d2_7 (by decide) (by decide) (Or.inr rfl) ?_
    exact ⟨by simp only [own_f2, if_pos hc2], rfl⟩

theorem own_same (g : Int64) (i : Int32) (og : Int64) (oi : Int32) : own_f1 g i og oi = own_f2 g i og oi := by
  simp only [own_f1, own_f2, Int64.lt_iff_toInt_lt, Int32.lt_iff_toInt_lt, ← Int64.toInt_inj]; repeat' split
  all_goals first | rfl | omega
theorem own_irr (g : Int64) (i : Int32) : own_f1 g i g i = 0 := by
  simp only [own_f1, Int64.lt_iff_toInt_lt, Int32.lt_iff_toInt_lt, ← Int64.toInt_inj]; repeat' split
  all_goals first | rfl | omega
theorem own_tot (g : Int64) (i : Int32) (og : Int64) (oi : Int32) (h : ¬ (g = og ∧ i = oi)) : ¬ own_f1 g i og oi = own_f1 og oi g i := by
  have h' : ¬ (g.toInt = og.toInt ∧ i.toInt = oi.toInt) := fun q => h ⟨Int64.toInt_inj.mp q.1, Int32.toInt_inj.mp q.2⟩
  simp only [own_f1, Int64.lt_iff_toInt_lt, Int32.lt_iff_toInt_lt, ← Int64.toInt_inj]; repeat' split
  all_goals first | decide | (exfalso; omega)
theorem own_trans (g : Int64) (i : Int32) (g2 : Int64) (i2 : Int32) (g3 : Int64) (i3 : Int32) (h1 : ¬ own_f1 g i g2 i2 = 0) (h2 : ¬ own_f1 g2 i2 g3 i3 = 0) : ¬ own_f1 g i g3 i3 = 0 := by
  simp only [own_f1, Int64.lt_iff_toInt_lt, Int32.lt_iff_toInt_lt, ← Int64.toInt_inj] at *
  revert h1 h2
  repeat' split
  all_goals first | (intro _ _; decide) | (intro h1 h2; exact absurd rfl h1) | (intro h1 h2; exact absurd rfl h2) | (exfalso; omega)

theorem pn0 : plainName "com/example/cachewright/cachewright/placement/CandidateHeapAheadPinLaw" = true := by first | (simp [plainName, overriddenIn]; done) | decide +kernel
theorem ef0 (m : MethodId) (x0 : Int64) (x1 : Int32) (x2 : Int64) (x3 : Int32) (x4 : Int64) (x5 : Int32) : entryFrame m #[(.long x0), (.int x1), (.long x2), (.int x3), (.long x4), (.int x5)] maxLocals = mkF m 0 #[.val (.long x0), .second, .val (.int x1), .val (.long x2), .second, .val (.int x3), .val (.long x4), .second, .val (.int x5), .unset, .unset, .unset, .unset, .unset, .unset, .unset, .unset, .unset, .unset, .unset, .unset, .unset] [] := by first | (simp [entryFrame, mkF, argsToLocals, Value.category, maxLocals]; done) | rfl
theorem pd1 : parseMethodDescriptor "(JIJI)Z" = some ⟨[.long, .int, .long, .int], some .boolean⟩ := by decide +kernel
theorem pd2 : parseMethodDescriptor "(JIJI)Z" = some ⟨[.long, .int, .long, .int], some .boolean⟩ := by decide +kernel
theorem own_ki_2 : Int32.ofInt (2) = (2 : Int32) := by decide
theorem own_ki_4 : Int32.ofInt (4) = (4 : Int32) := by decide
set_option maxRecDepth 65536 in
set_option maxHeartbeats 40000000 in
theorem own_law (l : Launch) (Z : State) (a0 : Array Value) (hw : ∀ d ∈ tables_1, d.before a0 Z = true) (ws : List Jvm.Cond) (p0 : Int64) (p1 : Int32) (p2 : Int64) (p3 : Int32) (p4 : Int64) (p5 : Int32)  (h0 : Heap) (n0 : Nat) (Z_ : n0 ≤ h0.size)  :
    Met l x code maxLocals ret ws room_1 Z n0 #[(.long p0), (.int p1), (.long p2), (.int p3), (.long p4), (.int p5)] h0 (fun v h => v = some (.int 1)) := by
  refine own_met pn0 (fun m => ef0 m p0 p1 p2 p3 p4 p5) ?_
  intro p e s m below meth c C0
  have C : Cx p s m meth c Z code 22 (some .boolean) "com/example/cachewright/cachewright/placement/CandidateHeapAheadPinLaw" "law" := C0
  refine own_iload (pc' := 2) C at_0 rfl rfl ?_
  refine own_iconst (pc' := 3) (v := (1 : Int32)) C at_2 own_ki_1 rfl ?_
  refine own_iand (pc' := 4) C at_3 rfl rfl ?_
  obtain ⟨vs_12, hvs_12⟩ : ∃ z : Int32, z = (if (p5 &&& (1 : Int32)) = 0 then (0 : Int32) else (1 : Int32)) := ⟨_, rfl⟩
  have hzvs_12 : vs_12 = 0 ∨ vs_12 = 1 := by rw [hvs_12]; repeat (first | exact Or.inl rfl | exact Or.inr rfl | split)
  refine own_seq (g' := mkF m 12 #[.val (.long p0), .second, .val (.int p1), .val (.long p2), .second, .val (.int p3), .val (.long p4), .second, .val (.int p5), .unset, .unset, .unset, .unset, .unset, .unset, .unset, .unset, .unset, .unset, .unset, .unset, .unset] [(.int vs_12)]) (fun J12 => ?_) ?_
  · refine own_if_eq (pt := 11) (pf := 7) C at_4 (by decide) (by decide) rfl ?_ ?_
    · intro hc4
      refine own_iconst (pc' := 12) (v := (0 : Int32)) C at_11 own_ki_0 rfl ?_
      exact own_cast (by simp only [hvs_12, if_pos hc4]) (J12)
    · intro hc4
      refine own_iconst (pc' := 8) (v := (1 : Int32)) C at_7 own_ki_1 rfl ?_
      refine own_goto (pc' := 12) C at_8 (by decide) (by decide) ?_
      exact own_cast (by simp only [hvs_12, if_neg hc4]) (J12)
  refine own_istore (pc' := 14) (y := vs_12) (Ls' := #[.val (.long p0), .second, .val (.int p1), .val (.long p2), .second, .val (.int p3), .val (.long p4), .second, .val (.int p5), .val (.int vs_12), .unset, .unset, .unset, .unset, .unset, .unset, .unset, .unset, .unset, .unset, .unset, .unset]) C at_12 rfl rfl rfl ?_
  refine own_iload (pc' := 16) C at_14 rfl rfl ?_
  refine own_iconst (pc' := 17) (v := (2 : Int32)) C at_16 own_ki_2 rfl ?_
  refine own_iand (pc' := 18) C at_17 rfl rfl ?_
  obtain ⟨vs_26, hvs_26⟩ : ∃ z : Int32, z = (if (p5 &&& (2 : Int32)) = 0 then (0 : Int32) else (1 : Int32)) := ⟨_, rfl⟩
  have hzvs_26 : vs_26 = 0 ∨ vs_26 = 1 := by rw [hvs_26]; repeat (first | exact Or.inl rfl | exact Or.inr rfl | split)
  refine own_seq (g' := mkF m 26 #[.val (.long p0), .second, .val (.int p1), .val (.long p2), .second, .val (.int p3), .val (.long p4), .second, .val (.int p5), .val (.int vs_12), .unset, .unset, .unset, .unset, .unset, .unset, .unset, .unset, .unset, .unset, .unset, .unset] [(.int vs_26)]) (fun J26 => ?_) ?_
  · refine own_if_eq (pt := 25) (pf := 21) C at_18 (by decide) (by decide) rfl ?_ ?_
    · intro hc18
      refine own_iconst (pc' := 26) (v := (0 : Int32)) C at_25 own_ki_0 rfl ?_
      exact own_cast (by simp only [hvs_26, if_pos hc18]) (J26)
    · intro hc18
      refine own_iconst (pc' := 22) (v := (1 : Int32)) C at_21 own_ki_1 rfl ?_
      refine own_goto (pc' := 26) C at_22 (by decide) (by decide) ?_
      exact own_cast (by simp only [hvs_26, if_neg hc18]) (J26)
  refine own_istore (pc' := 28) (y := vs_26) (Ls' := #[.val (.long p0), .second, .val (.int p1), .val (.long p2), .second, .val (.int p3), .val (.long p4), .second, .val (.int p5), .val (.int vs_12), .val (.int vs_26), .unset, .unset, .unset, .unset, .unset, .unset, .unset, .unset, .unset, .unset, .unset]) C at_26 rfl rfl rfl ?_
  refine own_iload (pc' := 30) C at_28 rfl rfl ?_
  refine own_iconst (pc' := 31) (v := (4 : Int32)) C at_30 own_ki_4 rfl ?_
  refine own_iand (pc' := 32) C at_31 rfl rfl ?_
  obtain ⟨vs_40, hvs_40⟩ : ∃ z : Int32, z = (if (p5 &&& (4 : Int32)) = 0 then (0 : Int32) else (1 : Int32)) := ⟨_, rfl⟩
  have hzvs_40 : vs_40 = 0 ∨ vs_40 = 1 := by rw [hvs_40]; repeat (first | exact Or.inl rfl | exact Or.inr rfl | split)
  refine own_seq (g' := mkF m 40 #[.val (.long p0), .second, .val (.int p1), .val (.long p2), .second, .val (.int p3), .val (.long p4), .second, .val (.int p5), .val (.int vs_12), .val (.int vs_26), .unset, .unset, .unset, .unset, .unset, .unset, .unset, .unset, .unset, .unset, .unset] [(.int vs_40)]) (fun J40 => ?_) ?_
  · refine own_if_eq (pt := 39) (pf := 35) C at_32 (by decide) (by decide) rfl ?_ ?_
    · intro hc32
      refine own_iconst (pc' := 40) (v := (0 : Int32)) C at_39 own_ki_0 rfl ?_
      exact own_cast (by simp only [hvs_40, if_pos hc32]) (J40)
    · intro hc32
      refine own_iconst (pc' := 36) (v := (1 : Int32)) C at_35 own_ki_1 rfl ?_
      refine own_goto (pc' := 40) C at_36 (by decide) (by decide) ?_
      exact own_cast (by simp only [hvs_40, if_neg hc32]) (J40)
  refine own_istore (pc' := 42) (y := vs_40) (Ls' := #[.val (.long p0), .second, .val (.int p1), .val (.long p2), .second, .val (.int p3), .val (.long p4), .second, .val (.int p5), .val (.int vs_12), .val (.int vs_26), .val (.int vs_40), .unset, .unset, .unset, .unset, .unset, .unset, .unset, .unset, .unset, .unset]) C at_40 rfl rfl rfl ?_
  refine own_iload (pc' := 44) C at_42 rfl rfl ?_
  obtain ⟨vs_52, hvs_52⟩ : ∃ z : Int64, z = (if vs_12 = 0 then p2 else p0) := ⟨_, rfl⟩
  refine own_seq (g' := mkF m 52 #[.val (.long p0), .second, .val (.int p1), .val (.long p2), .second, .val (.int p3), .val (.long p4), .second, .val (.int p5), .val (.int vs_12), .val (.int vs_26), .val (.int vs_40), .unset, .unset, .unset, .unset, .unset, .unset, .unset, .unset, .unset, .unset] [(.long vs_52)]) (fun J52 => ?_) ?_
  · refine own_if_eq (pt := 51) (pf := 47) C at_44 (by decide) (by decide) rfl ?_ ?_
    · intro hc44
      refine own_lloadN (pc' := 52) C at_51 rfl rfl ?_
      exact own_cast (by simp only [hvs_52, if_pos hc44]) (J52)
    · intro hc44
      refine own_lloadN (pc' := 48) C at_47 rfl rfl ?_
      refine own_goto (pc' := 52) C at_48 (by decide) (by decide) ?_
      exact own_cast (by simp only [hvs_52, if_neg hc44]) (J52)
  refine own_lstore (pc' := 54) (y := vs_52) (Ls' := #[.val (.long p0), .second, .val (.int p1), .val (.long p2), .second, .val (.int p3), .val (.long p4), .second, .val (.int p5), .val (.int vs_12), .val (.int vs_26), .val (.int vs_40), .val (.long vs_52), .second, .unset, .unset, .unset, .unset, .unset, .unset, .unset, .unset]) C at_52 rfl rfl rfl ?_
  refine own_iload (pc' := 56) C at_54 rfl rfl ?_
  obtain ⟨vs_65, hvs_65⟩ : ∃ z : Int32, z = (if vs_40 = 0 then p3 else p1) := ⟨_, rfl⟩
  refine own_seq (g' := mkF m 65 #[.val (.long p0), .second, .val (.int p1), .val (.long p2), .second, .val (.int p3), .val (.long p4), .second, .val (.int p5), .val (.int vs_12), .val (.int vs_26), .val (.int vs_40), .val (.long vs_52), .second, .unset, .unset, .unset, .unset, .unset, .unset, .unset, .unset] [(.int vs_65)]) (fun J65 => ?_) ?_
  · refine own_if_eq (pt := 63) (pf := 59) C at_56 (by decide) (by decide) rfl ?_ ?_
    · intro hc56
      refine own_iload (pc' := 65) C at_63 rfl rfl ?_
      exact own_cast (by simp only [hvs_65, if_pos hc56]) (J65)
    · intro hc56
      refine own_iloadN (pc' := 60) C at_59 rfl rfl ?_
      refine own_goto (pc' := 65) C at_60 (by decide) (by decide) ?_
      exact own_cast (by simp only [hvs_65, if_neg hc56]) (J65)
  refine own_istore (pc' := 67) (y := vs_65) (Ls' := #[.val (.long p0), .second, .val (.int p1), .val (.long p2), .second, .val (.int p3), .val (.long p4), .second, .val (.int p5), .val (.int vs_12), .val (.int vs_26), .val (.int vs_40), .val (.long vs_52), .second, .val (.int vs_65), .unset, .unset, .unset, .unset, .unset, .unset, .unset]) C at_65 rfl rfl rfl ?_
  refine own_iload (pc' := 69) C at_67 rfl rfl ?_
  obtain ⟨vs_79, hvs_79⟩ : ∃ z : Int64, z = (if vs_26 = 0 then p4 else vs_52) := ⟨_, rfl⟩
  refine own_seq (g' := mkF m 79 #[.val (.long p0), .second, .val (.int p1), .val (.long p2), .second, .val (.int p3), .val (.long p4), .second, .val (.int p5), .val (.int vs_12), .val (.int vs_26), .val (.int vs_40), .val (.long vs_52), .second, .val (.int vs_65), .unset, .unset, .unset, .unset, .unset, .unset, .unset] [(.long vs_79)]) (fun J79 => ?_) ?_
  · refine own_if_eq (pt := 77) (pf := 72) C at_69 (by decide) (by decide) rfl ?_ ?_
    · intro hc69
      refine own_lload (pc' := 79) C at_77 rfl rfl ?_
      exact own_cast (by simp only [hvs_79, if_pos hc69]) (J79)
    · intro hc69
      refine own_lload (pc' := 74) C at_72 rfl rfl ?_
      refine own_goto (pc' := 79) C at_74 (by decide) (by decide) ?_
      exact own_cast (by simp only [hvs_79, if_neg hc69]) (J79)
  refine own_lstore (pc' := 81) (y := vs_79) (Ls' := #[.val (.long p0), .second, .val (.int p1), .val (.long p2), .second, .val (.int p3), .val (.long p4), .second, .val (.int p5), .val (.int vs_12), .val (.int vs_26), .val (.int vs_40), .val (.long vs_52), .second, .val (.int vs_65), .val (.long vs_79), .second, .unset, .unset, .unset, .unset, .unset]) C at_79 rfl rfl rfl ?_
  refine own_lloadN (pc' := 82) C at_81 rfl rfl ?_
  refine own_iloadN (pc' := 83) C at_82 rfl rfl ?_
  refine own_lloadN (pc' := 84) C at_83 rfl rfl ?_
  refine own_iloadN (pc' := 85) C at_84 rfl rfl ?_
  refine own_callS (pc' := 88) (wL := 0) (argsL := [(.long p0), (.int p1), (.long p0), (.int p1)]) (rest := []) C (own_m1 l Z a0 hw p0 p1 p0 p1 h0 n0 Z_) at_85 (hw _ (List.mem_of_getElem? (i := 0) rfl)) (hw _ (List.mem_of_getElem? (i := 1) rfl)) (hw _ (List.mem_of_getElem? (i := 2) rfl)) (hw _ (List.mem_of_getElem? (i := 3) rfl)) (by decide) (by decide) (by decide) rfl (lenOf pd1 rfl) rfl rfl (Nat.le_of_eq rfl) (by decide) (by decide) rfl ?_
  rintro _ _ ⟨rfl, rfl⟩
  show Wp p l e _ s m _ below meth c n0 _ h0 0 0 (mkF m 88 #[.val (.long p0), .second, .val (.int p1), .val (.long p2), .second, .val (.int p3), .val (.long p4), .second, .val (.int p5), .val (.int vs_12), .val (.int vs_26), .val (.int vs_40), .val (.long vs_52), .second, .val (.int vs_65), .val (.long vs_79), .second, .unset, .unset, .unset, .unset, .unset] [(.int (own_f1 p0 p1 p0 p1))])
  obtain ⟨v17_88, hv17_88⟩ : ∃ z : Int32, z = (own_f1 p0 p1 p0 p1) := ⟨_, rfl⟩
  refine own_istore (pc' := 90) (y := v17_88) (Ls' := #[.val (.long p0), .second, .val (.int p1), .val (.long p2), .second, .val (.int p3), .val (.long p4), .second, .val (.int p5), .val (.int vs_12), .val (.int vs_26), .val (.int vs_40), .val (.long vs_52), .second, .val (.int vs_65), .val (.long vs_79), .second, .val (.int v17_88), .unset, .unset, .unset, .unset]) C at_88 hv17_88.symm rfl rfl ?_
  refine own_lloadN (pc' := 91) C at_90 rfl rfl ?_
  refine own_iloadN (pc' := 92) C at_91 rfl rfl ?_
  refine own_lload (pc' := 94) C at_92 rfl rfl ?_
  refine own_iload (pc' := 96) C at_94 rfl rfl ?_
  refine own_callS (pc' := 99) (wL := 0) (argsL := [(.long p0), (.int p1), (.long vs_52), (.int vs_65)]) (rest := []) C (own_m1 l Z a0 hw p0 p1 vs_52 vs_65 h0 n0 Z_) at_96 (hw _ (List.mem_of_getElem? (i := 0) rfl)) (hw _ (List.mem_of_getElem? (i := 1) rfl)) (hw _ (List.mem_of_getElem? (i := 2) rfl)) (hw _ (List.mem_of_getElem? (i := 3) rfl)) (by decide) (by decide) (by decide) rfl (lenOf pd1 rfl) rfl rfl (Nat.le_of_eq rfl) (by decide) (by decide) rfl ?_
  rintro _ _ ⟨rfl, rfl⟩
  show Wp p l e _ s m _ below meth c n0 _ h0 0 0 (mkF m 99 #[.val (.long p0), .second, .val (.int p1), .val (.long p2), .second, .val (.int p3), .val (.long p4), .second, .val (.int p5), .val (.int vs_12), .val (.int vs_26), .val (.int vs_40), .val (.long vs_52), .second, .val (.int vs_65), .val (.long vs_79), .second, .val (.int v17_88), .unset, .unset, .unset, .unset] [(.int (own_f1 p0 p1 vs_52 vs_65))])
  obtain ⟨v18_99, hv18_99⟩ : ∃ z : Int32, z = (own_f1 p0 p1 vs_52 vs_65) := ⟨_, rfl⟩
  refine own_istore (pc' := 101) (y := v18_99) (Ls' := #[.val (.long p0), .second, .val (.int p1), .val (.long p2), .second, .val (.int p3), .val (.long p4), .second, .val (.int p5), .val (.int vs_12), .val (.int vs_26), .val (.int vs_40), .val (.long vs_52), .second, .val (.int vs_65), .val (.long vs_79), .second, .val (.int v17_88), .val (.int v18_99), .unset, .unset, .unset]) C at_99 hv18_99.symm rfl rfl ?_
  refine own_lload (pc' := 103) C at_101 rfl rfl ?_
  refine own_iload (pc' := 105) C at_103 rfl rfl ?_
  refine own_lloadN (pc' := 106) C at_105 rfl rfl ?_
  refine own_iloadN (pc' := 107) C at_106 rfl rfl ?_
  refine own_callS (pc' := 110) (wL := 0) (argsL := [(.long vs_52), (.int vs_65), (.long p0), (.int p1)]) (rest := []) C (own_m1 l Z a0 hw vs_52 vs_65 p0 p1 h0 n0 Z_) at_107 (hw _ (List.mem_of_getElem? (i := 0) rfl)) (hw _ (List.mem_of_getElem? (i := 1) rfl)) (hw _ (List.mem_of_getElem? (i := 2) rfl)) (hw _ (List.mem_of_getElem? (i := 3) rfl)) (by decide) (by decide) (by decide) rfl (lenOf pd1 rfl) rfl rfl (Nat.le_of_eq rfl) (by decide) (by decide) rfl ?_
  rintro _ _ ⟨rfl, rfl⟩
  show Wp p l e _ s m _ below meth c n0 _ h0 0 0 (mkF m 110 #[.val (.long p0), .second, .val (.int p1), .val (.long p2), .second, .val (.int p3), .val (.long p4), .second, .val (.int p5), .val (.int vs_12), .val (.int vs_26), .val (.int vs_40), .val (.long vs_52), .second, .val (.int vs_65), .val (.long vs_79), .second, .val (.int v17_88), .val (.int v18_99), .unset, .unset, .unset] [(.int (own_f1 vs_52 vs_65 p0 p1))])
  obtain ⟨v19_110, hv19_110⟩ : ∃ z : Int32, z = (own_f1 vs_52 vs_65 p0 p1) := ⟨_, rfl⟩
  refine own_istore (pc' := 112) (y := v19_110) (Ls' := #[.val (.long p0), .second, .val (.int p1), .val (.long p2), .second, .val (.int p3), .val (.long p4), .second, .val (.int p5), .val (.int vs_12), .val (.int vs_26), .val (.int vs_40), .val (.long vs_52), .second, .val (.int vs_65), .val (.long vs_79), .second, .val (.int v17_88), .val (.int v18_99), .val (.int v19_110), .unset, .unset]) C at_110 hv19_110.symm rfl rfl ?_
  refine own_lload (pc' := 114) C at_112 rfl rfl ?_
  refine own_iload (pc' := 116) C at_114 rfl rfl ?_
  refine own_lload (pc' := 118) C at_116 rfl rfl ?_
  refine own_iload (pc' := 120) C at_118 rfl rfl ?_
  refine own_callS (pc' := 123) (wL := 0) (argsL := [(.long vs_52), (.int vs_65), (.long vs_79), (.int p5)]) (rest := []) C (own_m1 l Z a0 hw vs_52 vs_65 vs_79 p5 h0 n0 Z_) at_120 (hw _ (List.mem_of_getElem? (i := 0) rfl)) (hw _ (List.mem_of_getElem? (i := 1) rfl)) (hw _ (List.mem_of_getElem? (i := 2) rfl)) (hw _ (List.mem_of_getElem? (i := 3) rfl)) (by decide) (by decide) (by decide) rfl (lenOf pd1 rfl) rfl rfl (Nat.le_of_eq rfl) (by decide) (by decide) rfl ?_
  rintro _ _ ⟨rfl, rfl⟩
  show Wp p l e _ s m _ below meth c n0 _ h0 0 0 (mkF m 123 #[.val (.long p0), .second, .val (.int p1), .val (.long p2), .second, .val (.int p3), .val (.long p4), .second, .val (.int p5), .val (.int vs_12), .val (.int vs_26), .val (.int vs_40), .val (.long vs_52), .second, .val (.int vs_65), .val (.long vs_79), .second, .val (.int v17_88), .val (.int v18_99), .val (.int v19_110), .unset, .unset] [(.int (own_f1 vs_52 vs_65 vs_79 p5))])
  obtain ⟨v20_123, hv20_123⟩ : ∃ z : Int32, z = (own_f1 vs_52 vs_65 vs_79 p5) := ⟨_, rfl⟩
  refine own_istore (pc' := 125) (y := v20_123) (Ls' := #[.val (.long p0), .second, .val (.int p1), .val (.long p2), .second, .val (.int p3), .val (.long p4), .second, .val (.int p5), .val (.int vs_12), .val (.int vs_26), .val (.int vs_40), .val (.long vs_52), .second, .val (.int vs_65), .val (.long vs_79), .second, .val (.int v17_88), .val (.int v18_99), .val (.int v19_110), .val (.int v20_123), .unset]) C at_123 hv20_123.symm rfl rfl ?_
  refine own_lloadN (pc' := 126) C at_125 rfl rfl ?_
  refine own_iloadN (pc' := 127) C at_126 rfl rfl ?_
  refine own_lload (pc' := 129) C at_127 rfl rfl ?_
  refine own_iload (pc' := 131) C at_129 rfl rfl ?_
  refine own_callS (pc' := 134) (wL := 0) (argsL := [(.long p0), (.int p1), (.long vs_79), (.int p5)]) (rest := []) C (own_m1 l Z a0 hw p0 p1 vs_79 p5 h0 n0 Z_) at_131 (hw _ (List.mem_of_getElem? (i := 0) rfl)) (hw _ (List.mem_of_getElem? (i := 1) rfl)) (hw _ (List.mem_of_getElem? (i := 2) rfl)) (hw _ (List.mem_of_getElem? (i := 3) rfl)) (by decide) (by decide) (by decide) rfl (lenOf pd1 rfl) rfl rfl (Nat.le_of_eq rfl) (by decide) (by decide) rfl ?_
  rintro _ _ ⟨rfl, rfl⟩
  show Wp p l e _ s m _ below meth c n0 _ h0 0 0 (mkF m 134 #[.val (.long p0), .second, .val (.int p1), .val (.long p2), .second, .val (.int p3), .val (.long p4), .second, .val (.int p5), .val (.int vs_12), .val (.int vs_26), .val (.int vs_40), .val (.long vs_52), .second, .val (.int vs_65), .val (.long vs_79), .second, .val (.int v17_88), .val (.int v18_99), .val (.int v19_110), .val (.int v20_123), .unset] [(.int (own_f1 p0 p1 vs_79 p5))])
  obtain ⟨v21_134, hv21_134⟩ : ∃ z : Int32, z = (own_f1 p0 p1 vs_79 p5) := ⟨_, rfl⟩
  refine own_istore (pc' := 136) (y := v21_134) (Ls' := #[.val (.long p0), .second, .val (.int p1), .val (.long p2), .second, .val (.int p3), .val (.long p4), .second, .val (.int p5), .val (.int vs_12), .val (.int vs_26), .val (.int vs_40), .val (.long vs_52), .second, .val (.int vs_65), .val (.long vs_79), .second, .val (.int v17_88), .val (.int v18_99), .val (.int v19_110), .val (.int v20_123), .val (.int v21_134)]) C at_134 hv21_134.symm rfl rfl ?_
  refine own_iload (pc' := 138) C at_136 rfl rfl ?_
  refine own_if_eq (pt := 143) (pf := 141) C at_138 (by decide) (by decide) rfl (fun _ => ?_) (fun q => absurd (hv17_88.trans (own_irr _ _)) q)
  refine own_iload (pc' := 145) C at_143 rfl rfl ?_
  refine own_lloadN (pc' := 146) C at_145 rfl rfl ?_
  refine own_iloadN (pc' := 147) C at_146 rfl rfl ?_
  refine own_lload (pc' := 149) C at_147 rfl rfl ?_
  refine own_iload (pc' := 151) C at_149 rfl rfl ?_
  refine own_callS (pc' := 154) (wL := 1) (argsL := [(.long p0), (.int p1), (.long vs_52), (.int vs_65)]) (rest := [(.int v18_99)]) C (own_m2 l Z a0 hw p0 p1 vs_52 vs_65 h0 n0 Z_) at_151 (hw _ (List.mem_of_getElem? (i := 4) rfl)) (hw _ (List.mem_of_getElem? (i := 5) rfl)) (hw _ (List.mem_of_getElem? (i := 6) rfl)) (hw _ (List.mem_of_getElem? (i := 7) rfl)) (by decide) (by decide) (by decide) rfl (lenOf pd2 rfl) rfl rfl (Nat.le_of_eq rfl) (by decide) (by decide) rfl ?_
  rintro _ _ ⟨rfl, rfl⟩
  show Wp p l e _ s m _ below meth c n0 _ h0 0 0 (mkF m 154 #[.val (.long p0), .second, .val (.int p1), .val (.long p2), .second, .val (.int p3), .val (.long p4), .second, .val (.int p5), .val (.int vs_12), .val (.int vs_26), .val (.int vs_40), .val (.long vs_52), .second, .val (.int vs_65), .val (.long vs_79), .second, .val (.int v17_88), .val (.int v18_99), .val (.int v19_110), .val (.int v20_123), .val (.int v21_134)] [(.int (own_f2 p0 p1 vs_52 vs_65)), (.int v18_99)])
  refine own_icmp_eq (pt := 159) (pf := 157) C at_154 (by decide) (by decide) rfl (fun _ => ?_) (fun q => absurd (hv18_99.trans (own_same _ _ _ _)) q)
  refine own_iload (pc' := 161) C at_159 rfl rfl ?_
  refine own_lload (pc' := 163) C at_161 rfl rfl ?_
  refine own_iload (pc' := 165) C at_163 rfl rfl ?_
  refine own_lload (pc' := 167) C at_165 rfl rfl ?_
  refine own_iload (pc' := 169) C at_167 rfl rfl ?_
  refine own_callS (pc' := 172) (wL := 1) (argsL := [(.long vs_52), (.int vs_65), (.long vs_79), (.int p5)]) (rest := [(.int v20_123)]) C (own_m2 l Z a0 hw vs_52 vs_65 vs_79 p5 h0 n0 Z_) at_169 (hw _ (List.mem_of_getElem? (i := 4) rfl)) (hw _ (List.mem_of_getElem? (i := 5) rfl)) (hw _ (List.mem_of_getElem? (i := 6) rfl)) (hw _ (List.mem_of_getElem? (i := 7) rfl)) (by decide) (by decide) (by decide) rfl (lenOf pd2 rfl) rfl rfl (Nat.le_of_eq rfl) (by decide) (by decide) rfl ?_
  rintro _ _ ⟨rfl, rfl⟩
  show Wp p l e _ s m _ below meth c n0 _ h0 0 0 (mkF m 172 #[.val (.long p0), .second, .val (.int p1), .val (.long p2), .second, .val (.int p3), .val (.long p4), .second, .val (.int p5), .val (.int vs_12), .val (.int vs_26), .val (.int vs_40), .val (.long vs_52), .second, .val (.int vs_65), .val (.long vs_79), .second, .val (.int v17_88), .val (.int v18_99), .val (.int v19_110), .val (.int v20_123), .val (.int v21_134)] [(.int (own_f2 vs_52 vs_65 vs_79 p5)), (.int v20_123)])
  refine own_icmp_eq (pt := 177) (pf := 175) C at_172 (by decide) (by decide) rfl (fun _ => ?_) (fun q => absurd (hv20_123.trans (own_same _ _ _ _)) q)
  refine own_lloadN (pc' := 178) C at_177 rfl rfl ?_
  refine own_lload (pc' := 180) C at_178 rfl rfl ?_
  refine own_lcmp_ne (pt := 202) (pf := 184) C at_180 rfl at_181 (by decide) (by decide) rfl ?_ ?_
  · intro hc180
    refine own_iload (pc' := 204) C at_202 rfl rfl ?_
    refine own_iload (pc' := 206) C at_204 rfl rfl ?_
    refine own_icmp_ne (pt := 211) (pf := 209) C at_206 (by decide) (by decide) rfl (fun _ => ?_) (fun q => absurd q (by rw [hv18_99, hv19_110]; exact own_tot _ _ _ _ (by intro q; simp_all)))
    refine own_iload (pc' := 213) C at_211 rfl rfl ?_
    refine own_if_eq (pt := 228) (pf := 216) C at_213 (by decide) (by decide) rfl ?_ ?_
    · intro hc213
      refine own_iconst (pc' := 229) (v := (1 : Int32)) C at_228 own_ki_1 rfl ?_
      refine own_zret C at_229 (by decide) (by decide) (Or.inr rfl) ?_
      exact rfl
    · intro hc213
      refine own_iload (pc' := 218) C at_216 rfl rfl ?_
      refine own_if_eq (pt := 228) (pf := 221) C at_218 (by decide) (by decide) rfl ?_ ?_
      · intro hc218
        refine own_iconst (pc' := 229) (v := (1 : Int32)) C at_228 own_ki_1 rfl ?_
        refine own_zret C at_229 (by decide) (by decide) (Or.inr rfl) ?_
        exact rfl
      · intro hc218
        refine own_iload (pc' := 223) C at_221 rfl rfl ?_
        refine own_if_ne (pt := 228) (pf := 226) C at_223 (by decide) (by decide) rfl (fun _ => ?_) (fun q => absurd q (by rw [hv21_134]; exact own_trans _ _ _ _ _ _ (by rw [← hv18_99]; assumption) (by rw [← hv20_123]; assumption)))
        refine own_iconst (pc' := 229) (v := (1 : Int32)) C at_228 own_ki_1 rfl ?_
        refine own_zret C at_229 (by decide) (by decide) (Or.inr rfl) ?_
        exact rfl
  · intro hc180
    refine own_iloadN (pc' := 185) C at_184 rfl rfl ?_
    refine own_iload (pc' := 187) C at_185 rfl rfl ?_
    refine own_icmp_ne (pt := 202) (pf := 190) C at_187 (by decide) (by decide) rfl ?_ ?_
    · intro hc187
      refine own_iload (pc' := 204) C at_202 rfl rfl ?_
      refine own_iload (pc' := 206) C at_204 rfl rfl ?_
      refine own_icmp_ne (pt := 211) (pf := 209) C at_206 (by decide) (by decide) rfl (fun _ => ?_) (fun q => absurd q (by rw [hv18_99, hv19_110]; exact own_tot _ _ _ _ (by intro q; simp_all)))
      refine own_iload (pc' := 213) C at_211 rfl rfl ?_
      refine own_if_eq (pt := 228) (pf := 216) C at_213 (by decide) (by decide) rfl ?_ ?_
      · intro hc213
        refine own_iconst (pc' := 229) (v := (1 : Int32)) C at_228 own_ki_1 rfl ?_
        refine own_zret C at_229 (by decide) (by decide) (Or.inr rfl) ?_
        exact rfl
      · intro hc213
        refine own_iload (pc' := 218) C at_216 rfl rfl ?_
        refine own_if_eq (pt := 228) (pf := 221) C at_218 (by decide) (by decide) rfl ?_ ?_
        · intro hc218
          refine own_iconst (pc' := 229) (v := (1 : Int32)) C at_228 own_ki_1 rfl ?_
          refine own_zret C at_229 (by decide) (by decide) (Or.inr rfl) ?_
          exact rfl
        · intro hc218
          refine own_iload (pc' := 223) C at_221 rfl rfl ?_
          refine own_if_ne (pt := 228) (pf := 226) C at_223 (by decide) (by decide) rfl (fun _ => ?_) (fun q => absurd q (by rw [hv21_134]; exact own_trans _ _ _ _ _ _ (by rw [← hv18_99]; assumption) (by rw [← hv20_123]; assumption)))
          refine own_iconst (pc' := 229) (v := (1 : Int32)) C at_228 own_ki_1 rfl ?_
          refine own_zret C at_229 (by decide) (by decide) (Or.inr rfl) ?_
          exact rfl
    · intro hc187
      refine own_iload (pc' := 192) C at_190 rfl rfl ?_
      refine own_if_ne (pt := 200) (pf := 195) C at_192 (by decide) (by decide) rfl (fun q => absurd (by rw [hv18_99, ← hc180, ← hc187]; exact own_irr _ _) q) (fun _ => ?_)
      refine own_iload (pc' := 197) C at_195 rfl rfl ?_
      refine own_if_eq (pt := 211) (pf := 200) C at_197 (by decide) (by decide) rfl (fun _ => ?_) (fun q => absurd (by rw [hv19_110, ← hc180, ← hc187]; exact own_irr _ _) q)
      refine own_iload (pc' := 213) C at_211 rfl rfl ?_
      refine own_if_eq (pt := 228) (pf := 216) C at_213 (by decide) (by decide) rfl ?_ ?_
      · intro hc213
        refine own_iconst (pc' := 229) (v := (1 : Int32)) C at_228 own_ki_1 rfl ?_
        refine own_zret C at_229 (by decide) (by decide) (Or.inr rfl) ?_
        exact rfl
      · intro hc213
        refine own_iload (pc' := 218) C at_216 rfl rfl ?_
        refine own_if_eq (pt := 228) (pf := 221) C at_218 (by decide) (by decide) rfl ?_ ?_
        · intro hc218
          refine own_iconst (pc' := 229) (v := (1 : Int32)) C at_228 own_ki_1 rfl ?_
          refine own_zret C at_229 (by decide) (by decide) (Or.inr rfl) ?_
          exact rfl
        · intro hc218
          refine own_iload (pc' := 223) C at_221 rfl rfl ?_
          refine own_if_ne (pt := 228) (pf := 226) C at_223 (by decide) (by decide) rfl (fun _ => ?_) (fun q => absurd q (by rw [hv21_134]; exact own_trans _ _ _ _ _ _ (by rw [← hv18_99]; assumption) (by rw [← hv20_123]; assumption)))
          refine own_iconst (pc' := 229) (v := (1 : Int32)) C at_228 own_ki_1 rfl ?_
          refine own_zret C at_229 (by decide) (by decide) (Or.inr rfl) ?_
          exact rfl
set_option maxRecDepth 65536 in
set_option maxHeartbeats 40000000 in
theorem comes_1 {Post : Tables → Env → Array Value → State → Outcome → State → Prop} (hpost : ∀ tb e args s v u, (limb_1_1.after args s (.returned v) u = true ∧ limb_1_2.after args s (.returned v) u = true ∧ True) → FrameEnd s (.returned v) u (Jvm.fieldLocs frame_1_writes args s ++ Jvm.arrayLocs frame_1_arrays args s ++ Jvm.staticLocs frame_1_statics s) 0 0 → Post tb e args s (.returned v) u) :
    ArmFor flags0 classFile x code maxLocals ret World_1 tables_1 room_1 Calls_1 rest_1 Pre_1 Post := by
  intro l hfl _ _ p e ha hc hk s m args below hf hA hF happ hP
  obtain ⟨hcalls, hrest, hpre⟩ := hP
  obtain ⟨-, -, -, hnamed, -, -, -, hat⟩ := (Spec.applies_iff hf).mp happ
  obtain ⟨hg, hn⟩ := and_e (Cond.before_iff.mp (show (Jvm.Cond.and given_1 narrow_1).before args s = true from hpre))
  obtain ⟨hcount, q0⟩ := and_e hg
  obtain ⟨r0, q1⟩ := and_e q0
  obtain ⟨r1, q2⟩ := and_e q1
  obtain ⟨r2, q3⟩ := and_e q2
  obtain ⟨r3, q4⟩ := and_e q3
  obtain ⟨r4, q5⟩ := and_e q4
  obtain ⟨w0, w1, w2, w3, w4, w5, rfl⟩ : ∃ w0 w1 w2 w3 w4 w5 : Value, args = #[w0, w1, w2, w3, w4, w5] := by
    have hs : args.size = 6 := by simpa [Cond.value, given_1] using hcount
    obtain ⟨L⟩ := args
    match L, hs with
    | [w0, w1, w2, w3, w4, w5], _ => exact ⟨w0, w1, w2, w3, w4, w5, rfl⟩
  have hw := fun d (hd : d ∈ tables_1) => atoms_spec (ws := Jvm.Cond.code x code maxLocals ret :: tables_1) hat d (List.mem_cons_of_mem _ hd)
  obtain ⟨i0, e0⟩ := isL_v r0
  obtain rfl : w0 = (.long i0) := Option.some.inj e0
  obtain ⟨i1, e1⟩ := is_v r1
  obtain rfl : w1 = (.int i1) := Option.some.inj e1
  obtain ⟨i2, e2⟩ := isL_v r2
  obtain rfl : w2 = (.long i2) := Option.some.inj e2
  obtain ⟨i3, e3⟩ := is_v r3
  obtain rfl : w3 = (.int i3) := Option.some.inj e3
  obtain ⟨i4, e4⟩ := isL_v r4
  obtain rfl : w4 = (.long i4) := Option.some.inj e4
  obtain ⟨i5, e5⟩ := is_v q5
  obtain rfl : w5 = (.int i5) := Option.some.inj e5
  obtain ⟨n, o, h1, h2, h3, _, L, rfl, ⟨rfl, N⟩, hq⟩ := own_law l s _ hw tables_1 i0 i1 i2 i3 i4 i5  s.heap s.heap.size (Nat.le_refl _)  p e ha hc hk s m _ below hf ((Spec.applies_iff_loose hf).mp happ).1 ⟨rfl, State.Warmed39.refl s, rfl⟩ trivial
  refine ⟨n, _, h1, h2, h3, hpost _ _ _ _ _ _ ⟨Cond.after_iff.mpr rfl, Cond.after_iff.mpr (eq_i res_at (Term.int_eval (1)) rfl), trivial⟩ ⟨hq.1, hq.2.1, (hq.2.2.sift fun y hy => Or.inr (N y hy)).mono (by decide) (by decide)⟩⟩
theorem main_1_1 : Claimed_1_1 := comes_1 fun _ _ _ _ _ _ h hF => ⟨h.1, hF⟩
theorem main_1_2 : Claimed_1_2 := comes_1 fun _ _ _ _ _ _ h hF => ⟨h.2.1, hF⟩
end Jvm.Pilot.@@N@@
namespace Jvm.Pilot.@@N@@
open Jvm Jvm.ClassFile Sem Op Lib Jvm.Free Jvm.Stand Jvm.Pilot.@@N@@.Jvm.D
/-! MADE BY PROGRAM (witnessworld.py) out of the Statement's table words and the real class files: 9 classes; the members and pool entries that the words name. The judged class is class 1, her method 2. -/
namespace start1
open Jvm.ClassFile
def u (s : String) : CpInfo := .utf8 (stringToUtf16 s)
/-- a pool by its gaps: so many unusable entries, then the entry; so many at the end -/
def gap : Nat → List CpInfo → List CpInfo
  | 0, r => r
  | n + 1, r => .unusable :: gap n r
def poolList (es : List (Nat × CpInfo)) (last : Nat) : List CpInfo := es.foldr (fun e r => gap e.1 (e.2 :: r)) (gap last [])
def pool (es : List (Nat × CpInfo)) (last : Nat) : Array CpInfo := ⟨poolList es last⟩
def fileOf (pool : Array CpInfo) (this : Nat) (attrs : Array Attribute := #[]) (ms : Array MethodInfo := #[]) (fl : Nat := 33) (sup : Nat := 0) (ifs : Array Nat := #[]) (fds : Array FieldInfo := #[]) : ClassFile where
  minorVersion := 0
  majorVersion := 65
  constantPool := pool
  accessFlags := fl
  thisClass := this
  superClass := sup
  interfaces := ifs
  fields := fds
  methods := ms
  attributes := attrs
def plain (name : String) (sup : Option ClassId) : Class where
  name := name
  kind := .ordinary
  loader := none
  accessFlags := 33
  super := sup
  interfaces := #[]
  cf := none
  fields := #[]
  methods := #[]
  instanceTypes := #[]
  staticTypes := #[]
  resolved := #[]
  callSites := []
  init := .initialized
  statics := none
  mirror := none

def pool0 : Array CpInfo := pool [(5, u "<init>"), (0, u "()V"), (1, .class_ 10), (1, u "java/lang/Object")] 113

def k0m0 : Method := { name := "<init>", desc := "()V", sig := { parameters := [], returnType := none }, accessFlags := 1, code := none }
/-- java/lang/Object -/
def k0 : Class := { plain "java/lang/Object" none with
  accessFlags := 33
  interfaces := #[]
  cf := some (fileOf pool0 8 #[] #[{ accessFlags := 1, nameIndex := 5, descriptorIndex := 6, attributes := #[] }] 33 0 #[] #[])
  fields := #[]
  methods := #[k0m0]
  instanceTypes := #[]
  staticTypes := #[]
  resolved := Array.replicate 124 none
  statics := none }

def pool1 : Array CpInfo := pool [(2, .class_ 4), (1, u "java/lang/Object"), (0, u "<init>"), (0, u "()V"), (0, .methodref 8 9), (0, .class_ 10), (0, .nameAndType 11 12), (0, u "com/example/cachewright/cachewright/placement/CandidateHeap"), (0, u "ahead"), (0, u "(JIJI)Z"), (0, .methodref 14 15), (0, .class_ 16), (0, .nameAndType 17 12), (0, u "com/example/cachewright/cachewright/placement/CandidateHeapAheadPinLaw"), (0, u "expected"), (3, u "law"), (0, u "(JIJIJI)Z")] 2

def k1m0 : Method := { name := "<init>", desc := "()V", sig := { parameters := [], returnType := none }, accessFlags := 1, code := none }
def k1c1 : Code := { maxStack := 4, maxLocals := 6, code := method_2_code, exceptionTable := #[], attributes := #[] }
def k1m1 : Method := { name := "expected", desc := "(JIJI)Z", sig := { parameters := [.long, .int, .long, .int], returnType := some .boolean }, accessFlags := 10, code := some k1c1 }
def k1c2 : Code := { maxStack := 7, maxLocals := 22, code := code, exceptionTable := #[], attributes := #[] }
def k1m2 : Method := { name := "law", desc := "(JIJIJI)Z", sig := { parameters := [.long, .int, .long, .int, .long, .int], returnType := some .boolean }, accessFlags := 9, code := some k1c2 }
/-- com/example/cachewright/cachewright/placement/CandidateHeapAheadPinLaw -/
def k1 : Class := { plain "com/example/cachewright/cachewright/placement/CandidateHeapAheadPinLaw" (some 0) with
  accessFlags := 49
  interfaces := #[]
  cf := some (fileOf pool1 14 #[] #[{ accessFlags := 1, nameIndex := 5, descriptorIndex := 6, attributes := #[] }, { accessFlags := 10, nameIndex := 17, descriptorIndex := 12, attributes := #[] }, { accessFlags := 9, nameIndex := 21, descriptorIndex := 22, attributes := #[] }] 49 2 #[] #[])
  fields := #[]
  methods := #[k1m0, k1m1, k1m2]
  instanceTypes := #[]
  staticTypes := #[]
  resolved := Array.replicate 25 none
  statics := none }

def pool2 : Array CpInfo := pool [(2, .class_ 4), (1, u "java/lang/Object"), (0, u "<init>"), (0, u "()V"), (1, .class_ 10), (1, u "com/example/cachewright/cachewright/placement/CandidateHeap"), (0, u "gains"), (0, u "[J"), (2, u "ids"), (0, u "[I"), (2, u "size"), (0, u "I"), (11, u "ahead"), (0, u "(JIJI)Z")] 14

def k2m0 : Method := { name := "<init>", desc := "()V", sig := { parameters := [], returnType := none }, accessFlags := 0, code := none }
def k2c1 : Code := { maxStack := 4, maxLocals := 6, code := prog_9_method_2_code, exceptionTable := #[], attributes := #[] }
def k2m1 : Method := { name := "ahead", desc := "(JIJI)Z", sig := { parameters := [.long, .int, .long, .int], returnType := some .boolean }, accessFlags := 8, code := some k2c1 }
/-- com/example/cachewright/cachewright/placement/CandidateHeap -/
def k2 : Class := { plain "com/example/cachewright/cachewright/placement/CandidateHeap" (some 0) with
  accessFlags := 48
  interfaces := #[]
  cf := some (fileOf pool2 8 #[] #[{ accessFlags := 0, nameIndex := 5, descriptorIndex := 6, attributes := #[] }, { accessFlags := 8, nameIndex := 32, descriptorIndex := 33, attributes := #[] }] 48 2 #[] #[{ accessFlags := 2, nameIndex := 11, descriptorIndex := 12, attributes := #[] }, { accessFlags := 2, nameIndex := 15, descriptorIndex := 16, attributes := #[] }, { accessFlags := 2, nameIndex := 19, descriptorIndex := 20, attributes := #[] }])
  fields := #[{ name := "gains", type := (.array .long), accessFlags := 2, slot := 0, constantValue := 0 }, { name := "ids", type := (.array .int), accessFlags := 2, slot := 1, constantValue := 0 }, { name := "size", type := .int, accessFlags := 2, slot := 2, constantValue := 0 }]
  methods := #[k2m0, k2m1]
  instanceTypes := #[(.array .long), (.array .int), .int]
  staticTypes := #[]
  resolved := Array.replicate 48 none
  statics := none }

def pool3 : Array CpInfo := pool [(1, u "java/lang/Cloneable"), (0, .class_ 1), (0, u "java/lang/Object"), (0, .class_ 3)] 3

/-- java/lang/Cloneable -/
def k3 : Class := { plain "java/lang/Cloneable" (some 0) with
  accessFlags := 1537
  interfaces := #[]
  cf := some (fileOf pool3 2 #[] #[] 1537 4 #[] #[])
  fields := #[]
  methods := #[]
  instanceTypes := #[]
  staticTypes := #[]
  resolved := Array.replicate 8 none
  statics := none }

def pool4 : Array CpInfo := pool [(1, u "java/io/Serializable"), (0, .class_ 1), (0, u "java/lang/Object"), (0, .class_ 3)] 3

/-- java/io/Serializable -/
def k4 : Class := { plain "java/io/Serializable" (some 0) with
  accessFlags := 1537
  interfaces := #[]
  cf := some (fileOf pool4 2 #[] #[] 1537 4 #[] #[])
  fields := #[]
  methods := #[]
  instanceTypes := #[]
  staticTypes := #[]
  resolved := Array.replicate 8 none
  statics := none }

/-- the primitive byte -/
def k5 : Class := { plain "byte" none with kind := .primitive 'B', accessFlags := 0x411 }
/-- [B -/
def k6 : Class := { plain "[B" (some 0) with kind := .array 5 .byte, interfaces := #[3, 4], accessFlags := 1041 }

/-- the primitive int -/
def k7 : Class := { plain "int" none with kind := .primitive 'I', accessFlags := 0x411 }
/-- [I -/
def k8 : Class := { plain "[I" (some 0) with kind := .array 7 .int, interfaces := #[3, 4], accessFlags := 1041 }

def heap : Heap := #[]
def classes : Array Class := #[k0, k1, k2, k3, k4, k5, k6, k7, k8]
def interned : List (Array UInt16 × Addr) := []
def slotsUsed : Nat := 0
def theMethod : MethodId := ⟨1, 2⟩
def args0 : Array Value := #[.long 5, .int 7, .long 5, .int 3, .long 2, .int 1]
def aboutOver (below : List Frame) : State where
  vm := { classes := classes, interned := interned.toArray }
  heap := heap
  slotsUsed := slotsUsed
  threads := #[{ frames := .invoking theMethod args0 :: below }]
def below0 : List Frame := [.native { method := ⟨0, 0⟩, args := #[] }]
def about1 : State := aboutOver below0
def p0 : Program := .bare "" "" ""
def e0 : Env := launch0.env 0 0 0
theorem w_frames : about1.frames = Frame.invoking theMethod args0 :: below0 := rfl
set_option maxRecDepth 65536 in
theorem w_args : argsFit about1.vm theMethod args0 = true := by decide +kernel
set_option maxRecDepth 65536 in
theorem w_heap : heapFits about1 = true := by decide +kernel
set_option maxRecDepth 65536 in
theorem w_runnable : about1.curStatus? = some .runnable := by decide +kernel
set_option maxRecDepth 65536 in
theorem w_alone : about1.alone = true := by decide +kernel
set_option maxRecDepth 65536 in
theorem w_named : about1.methodNamed? x = some theMethod := by decide +kernel
set_option maxRecDepth 65536 in
theorem w_hears : about1.hears theMethod below0 = true := by decide +kernel
set_option maxRecDepth 65536 in
theorem w_ripe : about1.ripe theMethod args0 below0 = true := by decide +kernel
theorem w_running : about1.status = .running := rfl
set_option maxRecDepth 65536 in
theorem w_room : about1.hasRoom e0.platform room_1 = true :=
  launch0.hasRoom_least _ room_1 (by decide +kernel) (by decide +kernel) (by decide +kernel) (by decide +kernel) (by decide +kernel) (by decide +kernel)
theorem allAtoms_all (ts : List Jvm.Cond) (a : Array Jvm.Value) (st : Jvm.State) : (allAtoms ts).before a st = ts.all (fun c => c.before a st) := by
  induction ts with
  | nil => rfl
  | cons c t ih =>
    show (Jvm.Cond.and c (allAtoms t)).before a st = _
    rw [Jvm.Cond.before_and, ih, List.all_cons]
def words1 : List Jvm.Cond := Jvm.Cond.code x code maxLocals ret :: tables_1
/-- a 'code' word, met by the world's own term for the bytes: nothing is compared byte by byte -/
theorem code_word {y : MethodName} {bytes : ByteArray} {mx : Nat} {rt : Option FieldType} {a : Array Value} {s : State} {m : MethodId} {meth : Method} {c : Code} (h1 : s.methodNamed? y = some m) (h2 : s.vm.method? m = some meth) (h3 : meth.code = some c) (h4 : c.code = bytes)
    (h5 : (c.maxLocals == mx && c.exceptionTable.isEmpty && decide (c.maxStack ≤ mostOperands) && decide (meth.sig.returnType = rt) && !meth.locks && decide (parseMethodDescriptor y.desc = some meth.sig)) = true) : (Jvm.Cond.code y bytes mx rt).before a s = true := by
  simp only [Bool.and_eq_true, beq_iff_eq, Bool.not_eq_true', decide_eq_true_eq] at h5
  obtain ⟨⟨⟨⟨⟨g1, g2⟩, g3⟩, g4⟩, g5⟩, g6⟩ := h5
  simp [Cond.before, Cond.holds, Cond.value, h1, h2, h3, h4, g1, g2, g3, g4, g5, g6]
def isCode : Jvm.Cond → Bool
  | .code _ _ _ _ => true
  | _ => false
theorem all_split {L : List Jvm.Cond} {P : Jvm.Cond → Bool} (h1 : L.all (fun c => isCode c || P c) = true) (h2 : ∀ c ∈ L.filter isCode, P c = true) : L.all P = true := by
  refine List.all_eq_true.mpr fun c hc => ?_
  have h := List.all_eq_true.mp h1 c hc
  rcases Bool.eq_false_or_eq_true (isCode c) with hi | hi
  · exact h2 c (List.mem_filter.mpr ⟨hc, hi⟩)
  · simpa [hi] using h
set_option maxRecDepth 65536 in
theorem w_c0 : (Jvm.Cond.code x code maxLocals ret).before args0 about1 = true := code_word (m := ⟨1, 2⟩) (meth := k1m2) (c := k1c2) (by decide +kernel) rfl rfl rfl (by decide +kernel)
set_option maxRecDepth 65536 in
theorem w_c1 : (Jvm.Cond.code ({ cls := "com/example/cachewright/cachewright/placement/CandidateHeap", name := "ahead", desc := "(JIJI)Z" } : Jvm.MethodName) prog_9_method_2_code (6 : Nat) (Option.some Jvm.ClassFile.FieldType.boolean)).before args0 about1 = true := code_word (m := ⟨2, 1⟩) (meth := k2m1) (c := k2c1) (by decide +kernel) rfl rfl rfl (by decide +kernel)
set_option maxRecDepth 65536 in
theorem w_c2 : (Jvm.Cond.code ({ cls := "com/example/cachewright/cachewright/placement/CandidateHeapAheadPinLaw", name := "expected", desc := "(JIJI)Z" } : Jvm.MethodName) method_2_code (6 : Nat) (Option.some Jvm.ClassFile.FieldType.boolean)).before args0 about1 = true := code_word (m := ⟨1, 1⟩) (meth := k1m1) (c := k1c1) (by decide +kernel) rfl rfl rfl (by decide +kernel)
def codes1 : List Jvm.Cond := [Jvm.Cond.code x code maxLocals ret, Jvm.Cond.code ({ cls := "com/example/cachewright/cachewright/placement/CandidateHeap", name := "ahead", desc := "(JIJI)Z" } : Jvm.MethodName) prog_9_method_2_code (6 : Nat) (Option.some Jvm.ClassFile.FieldType.boolean), Jvm.Cond.code ({ cls := "com/example/cachewright/cachewright/placement/CandidateHeapAheadPinLaw", name := "expected", desc := "(JIJI)Z" } : Jvm.MethodName) method_2_code (6 : Nat) (Option.some Jvm.ClassFile.FieldType.boolean)]
set_option maxRecDepth 65536 in
theorem codes_eq : words1.filter isCode = codes1 := rfl
theorem w_codes : ∀ c ∈ words1.filter isCode, c.before args0 about1 = true := by
  rw [codes_eq]
  intro c hc
  simp only [codes1, List.mem_cons, List.not_mem_nil, or_false] at hc
  rcases hc with rfl | rfl | rfl
  · exact w_c0
  · exact w_c1
  · exact w_c2
set_option maxRecDepth 65536 in
theorem w_t1 : words1.all (fun c => isCode c || c.before args0 about1) = true := by decide +kernel
theorem w_tables : (allAtoms (Jvm.Cond.code x code maxLocals ret :: tables_1)).before args0 about1 = true := by
  rw [allAtoms_all]
  show words1.all (fun c => c.before args0 about1) = true
  refine all_split ?_ w_codes
  rw [w_t1]
set_option maxRecDepth 65536 in
theorem w_case : (Jvm.Cond.and given_1 narrow_1).before args0 about1 = true := by decide +kernel
theorem w_applies : (headSpec (Jvm.Cond.code x code maxLocals ret :: tables_1) room_1).applies x e0.platform about1 = true :=
  (Spec.applies_iff w_frames).mpr ⟨w_running, w_runnable, w_alone, w_named, w_hears, w_ripe, w_room, w_tables⟩
theorem atStart : AtStart classFile x code maxLocals ret World_1 tables_1 room_1 Calls_1 rest_1 Pre_1 launch0 p0 e0 about1 theMethod args0 below0 :=
  ⟨lists_1, trivial, launch0.admits_env _ _ _, launch0.least_env, fairChoices_fair.cas, fairChoices_fair.clock, w_frames, w_args, w_heap, w_applies, trivial, trivial, w_case⟩
end start1
theorem witness_1 : WitnessClaimed_1 := ⟨start1.p0, start1.e0, start1.about1, start1.theMethod, start1.args0, start1.below0, start1.atStart⟩
end Jvm.Pilot.@@N@@
