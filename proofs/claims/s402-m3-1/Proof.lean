import JvmDerived
import JvmDerived.Pilot.@@N@@Statement
import JvmDerived.Pilot.@@N@@Code
set_option linter.unusedVariables false
set_option linter.unusedSimpArgs false
namespace Jvm.Own
open Jvm Jvm.ClassFile Sem Op Lib Jvm.Free Jvm.Stand Jvm.LawKit Jvm.RoadKit
/-! MY LAYER: a goal 'Wk' over the library's Stand (from any state that stands here with the heap h, the walk comes to its end and Q holds), one rule a step; W: may the walk intern (wide frame). -/
def Bs (W : Bool) (s : State) (vm0 : Vm) (sz : Nat) : Prop := match W with
  | false => vm0 = s.vm
  | true => ∃ k0, s.Since vm0 k0 ∧ k0 ≤ sz
def En (W : Bool) (s : State) (o : Outcome) (t : State) (L : List Loc) (k n : Nat) : Prop := match W with
  | false => FrameEnd s o t L k n
  | true => ReturnedEndW s o t L k n
def Cx (Z : State) (p : Program) (s : State) (m : MethodId) (meth : Method) (c : Code) (y : MethodName) (bytes : ByteArray) (maxL : Nat) (ret : Option FieldType) : Prop :=
  p.tables.exec = Jvm.exec ∧ c.code = bytes ∧ c.maxLocals = maxL ∧ Z.Warmed39 s.vm ∧ s.vm.findClass y.cls = some m.cls ∧ meth.name = y.name ∧ meth.sig.returnType = ret ∧ meth.locks = false
def Wk (W : Bool) (p : Program) (l : Launch) (e : Env) (R : Room) (s : State) (m : MethodId) (args : Array Value) (below : List Frame) (meth : Method) (c : Code) (n0 : Nat) (Q : Option Value → Heap → Prop) (h : Heap) (k n : Nat) (g : JFrame) : Prop :=
  ∀ T L vm0, Stand p l e R (s.setVm vm0) m args below meth c T L k n → Bs W s vm0 h.size → T.heap = h → Fr n0 L →
    ∃ s₂ o, Steps p.tables e below (T.setTop g) s₂ ∧ s₂.status = .running ∧ Ended s₂ below o ∧ ∃ v L, o = .returned v ∧ (Q v s₂.heap ∧ Fr n0 L) ∧ En W s o s₂ L R.cells R.slots
def Met (W : Bool) (l : Launch) (Z : State) (n0 : Nat) (y : MethodName) (bytes : ByteArray) (maxL : Nat) (ret : Option FieldType) (rm : Room) (as : Array Value) (h : Heap) (Q : Option Value → Heap → Prop) : Prop :=
  ∀ ws, MetFree l y (head1 (Cond.code y bytes maxL ret :: ws) rm) (fun a U => a = as ∧ Z.Warmed39 U.vm ∧ U.heap = h) (fun _ _ _ _ _ => True)
    (fun _ U o U' => ∃ v L, o = .returned v ∧ (Q v U'.heap ∧ Fr n0 L) ∧ En W U o U' L rm.cells rm.slots)
theorem Bs.start (W : Bool) (s : State) (sz : Nat) : Bs W s s.vm sz := by
  cases W
  · rfl
  · exact ⟨0, (State.WarmedH.refl s).since 0, Nat.zero_le _⟩
theorem Bs.mono {W : Bool} {s : State} {vm0 : Vm} {a b : Nat} (B : Bs W s vm0 a) (q : a ≤ b) : Bs W s vm0 b := by
  cases W
  · exact B
  · obtain ⟨k0, h1, h2⟩ := B; exact ⟨k0, h1, Nat.le_trans h2 q⟩
theorem Bs.warm {W : Bool} {s : State} {vm0 : Vm} {a : Nat} (B : Bs W s vm0 a) : s.Warmed39 vm0 := by
  cases W
  · cases (B : vm0 = s.vm); exact State.Warmed39.refl s
  · obtain ⟨k0, h1, h2⟩ := B; exact h1.1
section Cxs
variable {W : Bool} {Z : State} {p : Program} {s : State} {m : MethodId} {meth : Method} {c : Code} {y : MethodName} {bytes : ByteArray} {maxL : Nat} {ret : Option FieldType}
theorem Cx.hx (C : Cx Z p s m meth c y bytes maxL ret) : p.tables.exec = Jvm.exec := C.1
theorem Cx.hby (C : Cx Z p s m meth c y bytes maxL ret) : c.code = bytes := C.2.1
theorem Cx.hml (C : Cx Z p s m meth c y bytes maxL ret) : c.maxLocals = maxL := C.2.2.1
theorem Cx.hZ (C : Cx Z p s m meth c y bytes maxL ret) : Z.Warmed39 s.vm := C.2.2.2.1
theorem Cx.hown (C : Cx Z p s m meth c y bytes maxL ret) : s.vm.findClass y.cls = some m.cls := C.2.2.2.2.1
theorem Cx.hnm (C : Cx Z p s m meth c y bytes maxL ret) : meth.name = y.name := C.2.2.2.2.2.1
theorem Cx.hret (C : Cx Z p s m meth c y bytes maxL ret) : meth.sig.returnType = ret := C.2.2.2.2.2.2.1
theorem Cx.hlk (C : Cx Z p s m meth c y bytes maxL ret) : meth.locks = false := C.2.2.2.2.2.2.2
theorem Cx.wZ (C : Cx Z p s m meth c y bytes maxL ret) {vm0 : Vm} {a : Nat} (B : Bs W s vm0 a) : Z.Warmed39 (s.setVm vm0).vm := State.Warmed39.trans (t := s) C.hZ B.warm
theorem Cx.wo (C : Cx Z p s m meth c y bytes maxL ret) {vm0 : Vm} {a : Nat} (B : Bs W s vm0 a) : (s.setVm vm0).vm.findClass y.cls = some m.cls := by
  show vm0.findClass y.cls = _
  rw [B.warm.alike.findClass]; exact C.hown
end Cxs
theorem Met.of {W : Bool} {l : Launch} {Z : State} {n0 : Nat} {y : MethodName} {bytes : ByteArray} {maxL : Nat} {ret : Option FieldType} {rm : Room} {as : Array Value} {h : Heap} {Q : Option Value → Heap → Prop}
    (hpn : plainName y.cls = true) (Ls : Array Slot) (hef : ∀ m, entryFrame m as maxL = mkF m 0 Ls [])
    (H : ∀ p e s m below meth c, Cx Z p s m meth c y bytes maxL ret → Wk W p l e rm s m as below meth c n0 Q h 0 0 (mkF m 0 Ls [])) : Met W l Z n0 y bytes maxL ret rm as h Q := by
  intro ws
  refine MetFree.of_bodySF (plainFor_of_name hpn) hisR ?_
  intro p e s m args below meth c s₁ Bd hml0 hP hK
  obtain ⟨ha, hZ, hh⟩ := hP
  have hown := findClass_of_methodNamed Bd.named
  have hnm := (name_of_methodNamed Bd.named Bd.method).1
  have e0 : s₁.heap = h := by rw [← hh, Bd.state]; rfl
  have X0 : Stand p l e rm s m args below meth c s₁ [] 0 0 := Stand.of_body Bd
  rw [ha] at X0 ⊢
  obtain ⟨s₂, o, h1, h2⟩ := H p e s m below meth c ⟨Bd.exec, Bd.bytes, hml0, hZ, hown, hnm, Bd.returns, Bd.notSynchronized⟩ s₁ [] s.vm X0 (Bs.start W s _) e0 (Fr.nil n0)
  exact ⟨s₂, o, castTop (hef m) h1, h2⟩
section Rules
variable {W : Bool} {Z : State} {p : Program} {l : Launch} {e : Env} {R : Room} {s : State} {m : MethodId} {args : Array Value} {below : List Frame} {meth : Method} {c : Code} {y : MethodName} {bytes : ByteArray} {maxL : Nat} {ret : Option FieldType} {n0 : Nat} {Q : Option Value → Heap → Prop} {h : Heap} {k n : Nat} {g g' : JFrame} {a0 : Array Value}
theorem Wk.more {k' n' : Nat} (q1 : k ≤ k') (q2 : n ≤ n') (H : Wk W p l e R s m args below meth c n0 Q h k' n' g) : Wk W p l e R s m args below meth c n0 Q h k n g :=
  fun T L vm0 X B eT N => H T L vm0 (X.more q1 q2) B eT N
theorem Wk.st (f : ∀ {T : State} {L : List Loc} {vm0 : Vm}, Stand p l e R (s.setVm vm0) m args below meth c T L k n → ∀ t, Steps p.tables e below (T.setTop g') t → Steps p.tables e below (T.setTop g) t)
    (H : Wk W p l e R s m args below meth c n0 Q h k n g') : Wk W p l e R s m args below meth c n0 Q h k n g := by
  intro T L vm0 X B eT N
  obtain ⟨s₂, o, h1, h2⟩ := H T L vm0 X B eT N
  exact ⟨s₂, o, f X _ h1, h2⟩
/-- a step that needs the tables (as they stand at vm0) and the heap, and leaves the heap -/
theorem Wk.stZ (C : Cx Z p s m meth c y bytes maxL ret) (f : ∀ {T : State} {L : List Loc} {vm0 : Vm}, Stand p l e R (s.setVm vm0) m args below meth c T L k n → Z.Warmed39 (s.setVm vm0).vm → (s.setVm vm0).vm.findClass y.cls = some m.cls → T.heap = h → ∃ T', Stand p l e R (s.setVm vm0) m args below meth c T' L k n ∧ T'.heap = h ∧ ∀ t, Steps p.tables e below (T'.setTop g') t → Steps p.tables e below (T.setTop g) t)
    (H : Wk W p l e R s m args below meth c n0 Q h k n g') : Wk W p l e R s m args below meth c n0 Q h k n g := by
  intro T L vm0 X B eT N
  obtain ⟨T', X', e', st⟩ := f X (C.wZ B) (C.wo B) eT
  obtain ⟨s₂, o, h1, h2⟩ := H T' L vm0 X' B e' N
  exact ⟨s₂, o, st _ h1, h2⟩
/-- a step that writes one place of a new cell -/
theorem Wk.stW (C : Cx Z p s m meth c y bytes maxL ret) {a : Addr} {sl : Nat} {v : Value} (ge : n0 ≤ a) (f : ∀ {T : State} {L : List Loc} {vm0 : Vm}, Stand p l e R (s.setVm vm0) m args below meth c T L k n → Z.Warmed39 (s.setVm vm0).vm → (s.setVm vm0).vm.findClass y.cls = some m.cls → T.heap = h → ∃ T' h', Stand p l e R (s.setVm vm0) m args below meth c T' (L ++ [⟨a, sl⟩]) k n ∧ T'.heap = h' ∧ Wr h h' a sl v ∧ ∀ t, Steps p.tables e below (T'.setTop g') t → Steps p.tables e below (T.setTop g) t)
    (H : ∀ h', Wr h h' a sl v → Wk W p l e R s m args below meth c n0 Q h' k n g') : Wk W p l e R s m args below meth c n0 Q h k n g := by
  intro T L vm0 X B eT N
  obtain ⟨T', h', X', e', Wh, st⟩ := f X (C.wZ B) (C.wo B) eT
  obtain ⟨s₂, o, h1, h2⟩ := H h' Wh T' _ vm0 X' (B.mono (Nat.le_of_eq Wh.size.symm)) e' (Fr.snoc X' N ge)
  exact ⟨s₂, o, st _ h1, h2⟩
theorem Wk.ldcI (C : Cx Z p s m meth c y bytes maxL ret) {index : Nat} {v : Int32} (w : (Cond.constant y.cls index v).before a0 Z = true) {pc : Nat} {Ls : Array Slot} {st : List Value} (hd : decode bytes pc = .ok (.ldc index, 2))
    (H : Wk W p l e R s m args below meth c n0 Q h k n (mkF m (pc + 2) Ls (.int v :: st))) : Wk W p l e R s m args below meth c n0 Q h k n (mkF m pc Ls st) :=
  Wk.stZ C (fun X hZ ho eT => ⟨_, X, eT, fun t q => X.ldcI C.hx ho (mvT hZ w) rfl (hb C.hby hd) q⟩) H
theorem Wk.ldc2J (C : Cx Z p s m meth c y bytes maxL ret) {index : Nat} {v : Int64} (w : (Cond.constantLong y.cls index v).before a0 Z = true) {pc : Nat} {Ls : Array Slot} {st : List Value} (hd : decode bytes pc = .ok (.ldc2_w index, 3))
    (H : Wk W p l e R s m args below meth c n0 Q h k n (mkF m (pc + 3) Ls (.long v :: st))) : Wk W p l e R s m args below meth c n0 Q h k n (mkF m pc Ls st) :=
  Wk.stZ C (fun X hZ ho eT => ⟨_, X, eT, fun t q => X.ldc2J C.hx ho (mvT hZ w) rfl (hb C.hby hd) q⟩) H
theorem Wk.getS (C : Cx Z p s m meth c y bytes maxL ret) {O nm d : String} {index : Nat} (w : (Cond.fieldLink y.cls index O nm d).before a0 Z = true) {v : Value} (F : Sta Z h O nm d v) {pc : Nat} {Ls : Array Slot} {st : List Value} (hd : decode bytes pc = .ok (.getstatic index, 3))
    (H : Wk W p l e R s m args below meth c n0 Q h k n (mkF m (pc + 3) Ls (v :: st))) : Wk W p l e R s m args below meth c n0 Q h k n (mkF m pc Ls st) :=
  Wk.stZ C (fun X hZ ho eT => Jvm.RoadKit.getS (host := "") X C.hx hZ ho w Via.refl eT F (g := mkF m pc Ls st) rfl (hb C.hby hd)) H
theorem Wk.getF (C : Cx Z p s m meth c y bytes maxL ret) {R0 O nm d : String} {index : Nat} (w : (Cond.fieldLink y.cls index R0 nm d).before a0 Z = true) (via : Via Z R0 O nm d) {a : Addr} {v : Value} (F : Fld Z h a O nm d v) {pc : Nat} {Ls : Array Slot} {st : List Value} (hd : decode bytes pc = .ok (.getfield index, 3))
    (H : Wk W p l e R s m args below meth c n0 Q h k n (mkF m (pc + 3) Ls (v :: st))) : Wk W p l e R s m args below meth c n0 Q h k n (mkF m pc Ls (.ref a :: st)) :=
  Wk.stZ C (fun X hZ ho eT => Jvm.RoadKit.getF (host := "") X C.hx hZ ho (Or.inl w) via eT F (g := mkF m pc Ls (.ref a :: st)) rfl rfl (hb C.hby hd)) H
theorem Wk.putF (C : Cx Z p s m meth c y bytes maxL ret) {R0 O nm d K : String} {index kk : Nat} {ty : FieldType} (w : (Cond.fieldLink y.cls index R0 nm d).before a0 Z = true) (via : Via Z R0 O nm d) {a : Addr} {v v' old : Value} (F : Fld Z h a O nm d old) (E : Exa Z h a K)
    (L : (Cond.lays K O nm d).before a0 Z = true ∨ ((Cond.laysFinal K O nm d).before a0 Z = true ∧ y.cls = O ∧ y.name = "<init>")) (wi : (Cond.instantiable K kk).before a0 Z = true) (hty : parseFieldDescriptor d = some ty) (hn : narrow ty v = v') (hf : fits ty v' = true) (ge : n0 ≤ a)
    {pc : Nat} {Ls : Array Slot} {st : List Value} (hd : decode bytes pc = .ok (.putfield index, 3))
    (H : ∀ h', Wr h h' a (Jvm.RoadKit.slotOf Z O nm d) v' → Wk W p l e R s m args below meth c n0 Q h' k n (mkF m (pc + 3) Ls st)) : Wk W p l e R s m args below meth c n0 Q h k n (mkF m pc Ls (v :: .ref a :: st)) :=
  Wk.stW C ge (fun X hZ ho eT => Jvm.RoadKit.putFN X C.hx hZ ho w via eT F E (L.imp id fun q => ⟨q.1, q.2.1, C.hnm.trans q.2.2⟩) wi hty hn hf (g := mkF m pc Ls (v :: .ref a :: st)) rfl rfl (hb C.hby hd)) H
theorem Wk.newO (C : Cx Z p s m meth c y bytes maxL ret) {K : String} {index sz : Nat} (w : (Cond.classLink y.cls index K).before a0 Z = true) (wi : (Cond.instantiable K sz).before a0 Z = true) (wz : (Cond.initialized K).before a0 Z = true) {pc : Nat} {Ls : Array Slot} {st : List Value} (hd : decode bytes pc = .ok (.new index, 3)) (hc : k + 1 ≤ R.cells) (hl : n + sz ≤ R.slots)
    (H : ∀ h' a, a = h.size → Ext h h' → Exa Z h' a K → (∀ {O nm d : String} {ty : FieldType}, Laid Z a0 K O nm d → parseFieldDescriptor d = some ty → Fld Z h' a O nm d (defaultValue ty)) → Wk W p l e R s m args below meth c n0 Q h' (k + 1) (n + sz) (mkF m (pc + 3) Ls (.ref a :: st))) :
    Wk W p l e R s m args below meth c n0 Q h k n (mkF m pc Ls st) := by
  intro T L vm0 X B eT N
  obtain ⟨T', h', X', e', E, A, D, -, st⟩ := Jvm.RoadKit.newO X C.hx (C.wZ B) (C.wo B) w wi wz eT (g := mkF m pc Ls st) rfl (hb C.hby hd) hc hl
  obtain ⟨s₂, o, h1, h2⟩ := H h' _ rfl E A D T' L vm0 X' (B.mono E.1) e' N
  exact ⟨s₂, o, st _ h1, h2⟩
theorem Wk.newP (C : Cx Z p s m meth c y bytes maxL ret) {aty : ArrayType} (w : (Cond.arrayClass (newarray.typeOf aty)).before a0 Z = true) {z : Int32} (hz : ¬ z < 0) {cap : Nat} (hcap : z.toNatClampNeg ≤ cap) (hbig : cap * 8 ≤ 536870912) {pc : Nat} {Ls : Array Slot} {st : List Value} (hd : decode bytes pc = .ok (.newarray aty, 2)) (hc : k + 1 ≤ R.cells) (hl : n + cap ≤ R.slots)
    (H : ∀ h' a cA, a = h.size → Ext h h' → Arr Z h' a (newA cA (newarray.typeOf aty) z) (newarray.typeOf aty) → Wk W p l e R s m args below meth c n0 Q h' (k + 1) (n + cap) (mkF m (pc + 2) Ls (.ref a :: st))) :
    Wk W p l e R s m args below meth c n0 Q h k n (mkF m pc Ls (.int z :: st)) := by
  intro T L vm0 X B eT N
  obtain ⟨T', h', cA, X', e', E, A, st⟩ := Jvm.RoadKit.newP X C.hx (C.wZ B) w eT (g := mkF m pc Ls (.int z :: st)) rfl (hb C.hby hd) rfl hz hcap hbig hc hl
  obtain ⟨s₂, o, h1, h2⟩ := H h' _ cA rfl E A T' L vm0 X' (B.mono E.1) e' N
  exact ⟨s₂, o, st _ h1, h2⟩
theorem Wk.newR (C : Cx Z p s m meth c y bytes maxL ret) {K : String} {index : Nat} (w1 : (Cond.classLink y.cls index K).before a0 Z = true) (w2 : (Cond.arrayOver (.object K)).before a0 Z = true) {z : Int32} (hz : ¬ z < 0) {cap : Nat} (hcap : z.toNatClampNeg ≤ cap) (hbig : cap * 8 ≤ 536870912) {pc : Nat} {Ls : Array Slot} {st : List Value} (hd : decode bytes pc = .ok (.anewarray index, 3)) (hc : k + 1 ≤ R.cells) (hl : n + cap ≤ R.slots)
    (H : ∀ h' a cA, a = h.size → Ext h h' → Arr Z h' a (newA cA (.object K) z) (.object K) → Ovr Z cA K → Wk W p l e R s m args below meth c n0 Q h' (k + 1) (n + cap) (mkF m (pc + 3) Ls (.ref a :: st))) :
    Wk W p l e R s m args below meth c n0 Q h k n (mkF m pc Ls (.int z :: st)) := by
  intro T L vm0 X B eT N
  obtain ⟨T', h', cA, X', e', E, A, O, st⟩ := Jvm.RoadKit.newR X C.hx (C.wZ B) (C.wo B) w1 w2 eT (g := mkF m pc Ls (.int z :: st)) rfl (hb C.hby hd) rfl hz hcap hbig hc hl
  obtain ⟨s₂, o, h1, h2⟩ := H h' _ cA rfl E A O T' L vm0 X' (B.mono E.1) e' N
  exact ⟨s₂, o, st _ h1, h2⟩
theorem Wk.stI (C : Cx Z p s m meth c y bytes maxL ret) {a : Addr} {cl : Cell} (A : Arr Z h a cl .int) {j x : Int32} (hj : ¬ (j < 0 ∨ cl.slots.size ≤ j.toNatClampNeg)) (ge : n0 ≤ a) {pc : Nat} {Ls : Array Slot} {st : List Value} (hd : decode bytes pc = .ok (.iastore, 1))
    (H : ∀ h', Wr h h' a j.toNatClampNeg (.int x) → Wk W p l e R s m args below meth c n0 Q h' k n (mkF m (pc + 1) Ls st)) : Wk W p l e R s m args below meth c n0 Q h k n (mkF m pc Ls (.int x :: .int j :: .ref a :: st)) :=
  Wk.stW C ge (fun X hZ ho eT => Jvm.RoadKit.stI X C.hx hZ eT A hj (g := mkF m pc Ls (.int x :: .int j :: .ref a :: st)) rfl rfl (hb C.hby hd)) H
theorem Wk.stJ (C : Cx Z p s m meth c y bytes maxL ret) {a : Addr} {cl : Cell} (A : Arr Z h a cl .long) {j : Int32} {x : Int64} (hj : ¬ (j < 0 ∨ cl.slots.size ≤ j.toNatClampNeg)) (ge : n0 ≤ a) {pc : Nat} {Ls : Array Slot} {st : List Value} (hd : decode bytes pc = .ok (.lastore, 1))
    (H : ∀ h', Wr h h' a j.toNatClampNeg (.long x) → Wk W p l e R s m args below meth c n0 Q h' k n (mkF m (pc + 1) Ls st)) : Wk W p l e R s m args below meth c n0 Q h k n (mkF m pc Ls (.long x :: .int j :: .ref a :: st)) :=
  Wk.stW C ge (fun X hZ ho eT => Jvm.RoadKit.stJ X C.hx hZ eT A hj (g := mkF m pc Ls (.long x :: .int j :: .ref a :: st)) rfl rfl (hb C.hby hd)) H
theorem Wk.stR (C : Cx Z p s m meth c y bytes maxL ret) {a : Addr} {cl : Cell} {ty : FieldType} (A : Arr Z h a cl ty) {j : Int32} {v : Value} (hj : ¬ (j < 0 ∨ cl.slots.size ≤ j.toNatClampNeg)) (hty : ty.isReference = true) (F : Sto Z h a v) (ge : n0 ≤ a) {pc : Nat} {Ls : Array Slot} {st : List Value} (hd : decode bytes pc = .ok (.aastore, 1))
    (H : ∀ h', Wr h h' a j.toNatClampNeg v → Wk W p l e R s m args below meth c n0 Q h' k n (mkF m (pc + 1) Ls st)) : Wk W p l e R s m args below meth c n0 Q h k n (mkF m pc Ls (v :: .int j :: .ref a :: st)) :=
  Wk.stW C ge (fun X hZ ho eT => Jvm.RoadKit.stR X C.hx hZ eT A hj hty F (g := mkF m pc Ls (v :: .int j :: .ref a :: st)) rfl rfl (hb C.hby hd)) H
theorem Wk.len (C : Cx Z p s m meth c y bytes maxL ret) {a : Addr} {cl : Cell} {ty : FieldType} (A : Arr Z h a cl ty) {pc : Nat} {Ls : Array Slot} {st : List Value} (hd : decode bytes pc = .ok (.arraylength, 1))
    (H : Wk W p l e R s m args below meth c n0 Q h k n (mkF m (pc + 1) Ls (.int cl.slots.size.toInt32 :: st))) : Wk W p l e R s m args below meth c n0 Q h k n (mkF m pc Ls (.ref a :: st)) :=
  Wk.stZ C (fun X hZ ho eT => ⟨_, X, eT, X.arraylength C.hx (by rw [eT]; exact A.1) (State.isArrayOf_alike hZ.alike A.2.1) (g := mkF m pc Ls (.ref a :: st)) rfl rfl (hb C.hby hd)⟩) H
theorem Wk.ldI (C : Cx Z p s m meth c y bytes maxL ret) {a : Addr} {cl : Cell} (A : Arr Z h a cl .int) {j : Int32} {v : Value} (hj : ¬ (j < 0 ∨ cl.slots.size ≤ j.toNatClampNeg)) (hv : cl.slots[j.toNatClampNeg]? = some v) {pc : Nat} {Ls : Array Slot} {st : List Value} (hd : decode bytes pc = .ok (.iaload, 1))
    (H : Wk W p l e R s m args below meth c n0 Q h k n (mkF m (pc + 1) Ls (v :: st))) : Wk W p l e R s m args below meth c n0 Q h k n (mkF m pc Ls (.int j :: .ref a :: st)) :=
  Wk.stZ C (fun X hZ ho eT => ⟨_, X, eT, X.iaload C.hx (by rw [eT]; exact A.1) (State.isArrayOf_alike hZ.alike A.2.1) A.2.2 hj hv (g := mkF m pc Ls (.int j :: .ref a :: st)) rfl rfl (hb C.hby hd)⟩) H
theorem Wk.ldJ (C : Cx Z p s m meth c y bytes maxL ret) {a : Addr} {cl : Cell} (A : Arr Z h a cl .long) {j : Int32} {v : Value} (hj : ¬ (j < 0 ∨ cl.slots.size ≤ j.toNatClampNeg)) (hv : cl.slots[j.toNatClampNeg]? = some v) {pc : Nat} {Ls : Array Slot} {st : List Value} (hd : decode bytes pc = .ok (.laload, 1))
    (H : Wk W p l e R s m args below meth c n0 Q h k n (mkF m (pc + 1) Ls (v :: st))) : Wk W p l e R s m args below meth c n0 Q h k n (mkF m pc Ls (.int j :: .ref a :: st)) :=
  Wk.stZ C (fun X hZ ho eT => ⟨_, X, eT, X.laload C.hx (by rw [eT]; exact A.1) (State.isArrayOf_alike hZ.alike A.2.1) A.2.2 hj hv (g := mkF m pc Ls (.int j :: .ref a :: st)) rfl rfl (hb C.hby hd)⟩) H
theorem Wk.ldR (C : Cx Z p s m meth c y bytes maxL ret) {a : Addr} {cl : Cell} {ty : FieldType} (A : Arr Z h a cl ty) (hty : ty.isReference = true) {j : Int32} {v : Value} (hj : ¬ (j < 0 ∨ cl.slots.size ≤ j.toNatClampNeg)) (hv : cl.slots[j.toNatClampNeg]? = some v) {pc : Nat} {Ls : Array Slot} {st : List Value} (hd : decode bytes pc = .ok (.aaload, 1))
    (H : Wk W p l e R s m args below meth c n0 Q h k n (mkF m (pc + 1) Ls (v :: st))) : Wk W p l e R s m args below meth c n0 Q h k n (mkF m pc Ls (.int j :: .ref a :: st)) :=
  Wk.stZ C (fun X hZ ho eT => ⟨_, X, eT, X.aaload C.hx (by rw [eT]; exact A.1) (State.isArrayOf_alike hZ.alike A.2.1) hty A.2.2 hj hv (g := mkF m pc Ls (.int j :: .ref a :: st)) rfl rfl (hb C.hby hd)⟩) H
theorem Wk.ldZ (C : Cx Z p s m meth c y bytes maxL ret) {a : Addr} {cl : Cell} (A : Arr Z h a cl .boolean) {j : Int32} {v : Value} (hj : ¬ (j < 0 ∨ cl.slots.size ≤ j.toNatClampNeg)) (hv : cl.slots[j.toNatClampNeg]? = some v) {pc : Nat} {Ls : Array Slot} {st : List Value} (hd : decode bytes pc = .ok (.baload, 1))
    (H : Wk W p l e R s m args below meth c n0 Q h k n (mkF m (pc + 1) Ls (v :: st))) : Wk W p l e R s m args below meth c n0 Q h k n (mkF m pc Ls (.int j :: .ref a :: st)) :=
  Wk.stZ C (fun X hZ ho eT => ⟨_, X, eT, X.baloadBooleans C.hx (by rw [eT]; exact A.1) (State.isArrayOf_alike hZ.alike A.2.1) A.2.2 hj hv (g := mkF m pc Ls (.int j :: .ref a :: st)) rfl rfl (hb C.hby hd)⟩) H
theorem Wk.stZb (C : Cx Z p s m meth c y bytes maxL ret) {a : Addr} {cl : Cell} (A : Arr Z h a cl .boolean) {j x : Int32} (hj : ¬ (j < 0 ∨ cl.slots.size ≤ j.toNatClampNeg)) (ge : n0 ≤ a) {pc : Nat} {Ls : Array Slot} {st : List Value} (hd : decode bytes pc = .ok (.bastore, 1))
    (H : ∀ h', Wr h h' a j.toNatClampNeg (.int (nar .boolean x)) → Wk W p l e R s m args below meth c n0 Q h' k n (mkF m (pc + 1) Ls st)) : Wk W p l e R s m args below meth c n0 Q h k n (mkF m pc Ls (.int x :: .int j :: .ref a :: st)) :=
  Wk.stW C ge (fun X hZ ho eT => Jvm.RoadKit.stZ X C.hx hZ eT A hj (g := mkF m pc Ls (.int x :: .int j :: .ref a :: st)) rfl rfl (hb C.hby hd)) H
theorem Wk.stB (C : Cx Z p s m meth c y bytes maxL ret) {a : Addr} {cl : Cell} (A : Arr Z h a cl .byte) {j x : Int32} (hj : ¬ (j < 0 ∨ cl.slots.size ≤ j.toNatClampNeg)) (ge : n0 ≤ a) {pc : Nat} {Ls : Array Slot} {st : List Value} (hd : decode bytes pc = .ok (.bastore, 1))
    (H : ∀ h', Wr h h' a j.toNatClampNeg (.int (nar .byte x)) → Wk W p l e R s m args below meth c n0 Q h' k n (mkF m (pc + 1) Ls st)) : Wk W p l e R s m args below meth c n0 Q h k n (mkF m pc Ls (.int x :: .int j :: .ref a :: st)) :=
  Wk.stW C ge (fun X hZ ho eT => Jvm.RoadKit.stB X C.hx hZ eT A hj (g := mkF m pc Ls (.int x :: .int j :: .ref a :: st)) rfl rfl (hb C.hby hd)) H
theorem Wk.stC (C : Cx Z p s m meth c y bytes maxL ret) {a : Addr} {cl : Cell} (A : Arr Z h a cl .char) {j x : Int32} (hj : ¬ (j < 0 ∨ cl.slots.size ≤ j.toNatClampNeg)) (ge : n0 ≤ a) {pc : Nat} {Ls : Array Slot} {st : List Value} (hd : decode bytes pc = .ok (.castore, 1))
    (H : ∀ h', Wr h h' a j.toNatClampNeg (.int (nar .char x)) → Wk W p l e R s m args below meth c n0 Q h' k n (mkF m (pc + 1) Ls st)) : Wk W p l e R s m args below meth c n0 Q h k n (mkF m pc Ls (.int x :: .int j :: .ref a :: st)) :=
  Wk.stW C ge (fun X hZ ho eT => Jvm.RoadKit.stC X C.hx hZ eT A hj (g := mkF m pc Ls (.int x :: .int j :: .ref a :: st)) rfl rfl (hb C.hby hd)) H
theorem Wk.initO (C : Cx Z p s m meth c y bytes maxL ret) {index : Nat} (w1 : (Cond.methodLink y.cls index Lib.objectInit).before a0 Z = true) (w2 : (Cond.instanceMethod Lib.objectInit).before a0 Z = true) (w3 : (Cond.code Lib.objectInit ⟨#[0xb1]⟩ 1 none).before a0 Z = true) {a : Addr} {w : Nat} {pc : Nat} {Ls : Array Slot} {st : List Value} (hls : Ls.size = maxL) (hd : decode bytes pc = .ok (.invokespecial index, 3)) (hf : 1 ≤ R.frames) (hw : (st.map fun v => v.category).sum ≤ w) (hl : w + 12 ≤ R.locals)
    (H : Wk W p l e R s m args below meth c n0 Q h k n (mkF m (pc + 3) Ls st)) : Wk W p l e R s m args below meth c n0 Q h k n (mkF m pc Ls (.ref a :: st)) :=
  Wk.stZ C (fun X hZ ho eT => Jvm.RoadKit.initO X C.hx hZ ho w1 w2 w3 eT (g := mkF m pc Ls (.ref a :: st)) rfl (hls.trans C.hml.symm) rfl (hb C.hby hd) hf (W := w) (by show 2 * 0 + _ ≤ _; omega) hl) H
theorem Wk.retV (C : Cx Z p s m meth c y bytes maxL ret) {pc : Nat} {Ls : Array Slot} {w : Value} {t : FieldType} {i : Instr} {rest : List Value} (ht : ret = some t) (hn : narrow t w = w)
    (hi : (i = .ireturn ∧ (t = .int ∨ t = .boolean ∨ t = .byte ∨ t = .char ∨ t = .short) ∧ ∃ z, w = .int z) ∨ (i = .lreturn ∧ t = .long ∧ ∃ z, w = .long z) ∨ (i = .dreturn ∧ t = .double ∧ ∃ z, w = .double z) ∨ (i = .freturn ∧ t = .float ∧ ∃ z, w = .float z) ∨ (i = .areturn ∧ t.isReference = true ∧ w.isRef = true))
    (hd : decode bytes pc = .ok (i, 1)) (hk : k ≤ R.cells) (hs : n ≤ R.slots) (hq : Q (some w) h) : Wk W p l e R s m args below meth c n0 Q h k n (mkF m pc Ls (w :: rest)) := by
  intro T L vm0 X B eT N
  have hlk := C.hlk
  have hv : meth.sig.returnType = none → (some w : Option Value) = none := fun h => by rw [C.hret, ht] at h; cases h
  cases W
  · cases (B : vm0 = s.vm)
    obtain ⟨fs, hr, hrun, hended, hW, hsame⟩ := Stand.leave (s := s) X (v := some w) hv hlk
    refine ⟨_, _, retOut X C.hx (C.hret.trans ht) hn hi (hb C.hby hd) hr, hrun, hended, _, L, rfl, ⟨?_, N⟩, ⟨_, rfl⟩, hW, hsame.mono hk hs⟩
    show Q (some w) T.heap
    rw [eT]; exact hq
  · obtain ⟨k0, hS, hk0⟩ := (B : ∃ k0, s.Since vm0 k0 ∧ k0 ≤ h.size)
    obtain ⟨fs, hr, hrun, hended, hE⟩ := X.leaveW hS (by rw [eT]; exact hk0) (v := some w) hv hlk
    refine ⟨_, _, retOut X C.hx (C.hret.trans ht) hn hi (hb C.hby hd) hr, hrun, hended, _, L, rfl, ⟨?_, N⟩, hE.1, hE.2.1, hE.2.2.1, hE.2.2.2.mono hk hs⟩
    show Q (some w) T.heap
    rw [eT]; exact hq
theorem Wk.retN0 (C : Cx Z p s m meth c y bytes maxL ret) {pc : Nat} {Ls : Array Slot} (ht : ret = none) (hd : decode bytes pc = .ok (.return_, 1)) (hk : k ≤ R.cells) (hs : n ≤ R.slots) (hq : Q none h) : Wk W p l e R s m args below meth c n0 Q h k n (mkF m pc Ls []) := by
  intro T L vm0 X B eT N
  have hlk := C.hlk
  have hv : meth.sig.returnType = none → (none : Option Value) = none := fun _ => rfl
  cases W
  · cases (B : vm0 = s.vm)
    obtain ⟨fs, hr, hrun, hended, hW, hsame⟩ := Stand.leave (s := s) X (v := none) hv hlk
    refine ⟨_, _, X.returnOut C.hx (C.hret.trans ht) (hb C.hby hd) hr, hrun, hended, _, L, rfl, ⟨?_, N⟩, ⟨_, rfl⟩, hW, hsame.mono hk hs⟩
    show Q none T.heap
    rw [eT]; exact hq
  · obtain ⟨k0, hS, hk0⟩ := (B : ∃ k0, s.Since vm0 k0 ∧ k0 ≤ h.size)
    obtain ⟨fs, hr, hrun, hended, hE⟩ := X.leaveW hS (by rw [eT]; exact hk0) (v := none) hv hlk
    refine ⟨_, _, X.returnOut C.hx (C.hret.trans ht) (hb C.hby hd) hr, hrun, hended, _, L, rfl, ⟨?_, N⟩, hE.1, hE.2.1, hE.2.2.1, hE.2.2.2.mono hk hs⟩
    show Q none T.heap
    rw [eT]; exact hq
/-- the three calls, by the callee's contract -/
theorem Wk.callS (C : Cx Z p s m meth c y bytes maxL ret) {z : MethodName} {index : Nat} {bz : ByteArray} {mz : Nat} {rz : Option FieldType} {rm : Room} {asL : List Value} {Qz : Option Value → Heap → Prop}
    (w1 : (Cond.methodLink y.cls index z).before a0 Z = true) (w2 : (Cond.static z).before a0 Z = true) (w3 : (Cond.initialized z.cls).before a0 Z = true) (w4 : (Cond.code z bz mz rz).before a0 Z = true)
    (hz : z.cls ≠ "java/lang/invoke/MethodHandle" ∧ z.cls ≠ "java/lang/invoke/VarHandle") (M : Met W l Z n0 z bz mz rz rm asL.toArray h Qz) {w : Nat} (hf : rm.frames + 1 ≤ R.frames) (hl : w + (mz + 11) + rm.locals ≤ R.locals)
    {ps : List FieldType} {r : Option FieldType} (hlen : parseMethodDescriptor z.desc = some ⟨ps, r⟩) (hps : asL.length = ps.length) {pc : Nat} {Ls : Array Slot} {st rest : List Value} (hls : Ls.size = maxL) (hst : st = asL.reverse ++ rest) (hw : (rest.map fun v => v.category).sum ≤ w)
    (hc : k + rm.cells ≤ R.cells) (hs : n + rm.slots ≤ R.slots) (hd : decode bytes pc = .ok (.invokestatic index, 3))
    (H : ∀ v h', Qz v h' → Wk W p l e R s m args below meth c n0 Q h' (k + rm.cells) (n + rm.slots) (mkF m (pc + 3) Ls (v.toList ++ rest))) : Wk W p l e R s m args below meth c n0 Q h k n (mkF m pc Ls st) := by
  intro T L vm0 X B eT N
  subst hst
  have hZ := C.wZ B
  have ho := C.wo B
  have hw' : 2 * (mkF m pc Ls (asL.reverse ++ rest)).monitorRoom + (rest.map fun v => v.category).sum ≤ w := by show 2 * 0 + _ ≤ _; omega
  cases W
  · obtain ⟨v, vm₁, ⟨T', L', k', n'⟩, -, X', ⟨Lc, hQ, l1, y1, z1⟩, st⟩ := Jvm.LawKit.callS X C.hx ho (mvT hZ w1) (mvT hZ w2) (mvT hZ w3) (mvT hZ w4) hz (backOf (W := w) (Q := fun v h L => Qz v h ∧ Fr n0 L) (M []) hZ w4 w3 hf hl) (g := mkF m pc Ls (asL.reverse ++ rest)) rfl (hls.trans C.hml.symm) (argsL := asL) (rest := rest) (lenOf hlen hps) rfl hw' (hb C.hby hd) (fun _ _ => ⟨rfl, eT, hc, hs⟩)
    dsimp only [Pt.U, Pt.locs, Pt.cells, Pt.slots] at X' l1 y1 z1 st hQ
    subst l1 y1 z1
    obtain ⟨s₂, o, h1, h2⟩ := H v T'.heap hQ.1 T' _ vm0 X' (B : vm0 = s.vm) rfl (N.app hQ.2)
    exact ⟨s₂, o, st _ h1, h2⟩
  · obtain ⟨v, vm₁, ⟨T', L', k', n'⟩, -, X', hS', hgr, ⟨Lc, hQ, l1, y1, z1⟩, st⟩ := callSS X C.hx ho (mvT hZ w1) (mvT hZ w2) (mvT hZ w3) (mvT hZ w4) hz (backOfS (W := w) (Q := fun v h L => Qz v h ∧ Fr n0 L) (M []) hZ w4 w3 hf hl) (g := mkF m pc Ls (asL.reverse ++ rest)) rfl (hls.trans C.hml.symm) (argsL := asL) (rest := rest) (lenOf hlen hps) rfl hw' (hb C.hby hd) (fun _ _ => ⟨rfl, eT, hc, hs⟩)
    dsimp only [Pt.U, Pt.locs, Pt.cells, Pt.slots] at X' hS' hgr l1 y1 z1 st hQ
    subst l1 y1 z1
    obtain ⟨k0, hS, hk0⟩ := (B : ∃ k0, s.Since vm0 k0 ∧ k0 ≤ h.size)
    obtain ⟨s₂, o, h1, h2⟩ := H v T'.heap hQ.1 T' _ T'.vm X' ⟨_, foldS hS (by rw [eT]; exact hk0) hS' hgr, Nat.le_refl _⟩ rfl (N.app hQ.2)
    exact ⟨s₂, o, st.trans h1, h2⟩
theorem Wk.callI (C : Cx Z p s m meth c y bytes maxL ret) {z : MethodName} {index : Nat} {bz : ByteArray} {mz : Nat} {rm : Room} {a : Addr} {asL : List Value} {Qz : Option Value → Heap → Prop} (hz1 : z.name = "<init>")
    (w1 : (Cond.methodLink y.cls index z).before a0 Z = true) (w2 : (Cond.instanceMethod z).before a0 Z = true) (w3 : (Cond.initialized z.cls).before a0 Z = true) (w4 : (Cond.code z bz mz none).before a0 Z = true)
    (hz : z.cls ≠ "java/lang/invoke/MethodHandle" ∧ z.cls ≠ "java/lang/invoke/VarHandle") (M : Met W l Z n0 z bz mz none rm (.ref a :: asL).toArray h Qz) {w : Nat} (hf : rm.frames + 1 ≤ R.frames) (hl : w + (mz + 11) + rm.locals ≤ R.locals)
    {ps : List FieldType} {r : Option FieldType} (hlen : parseMethodDescriptor z.desc = some ⟨ps, r⟩) (hps : asL.length = ps.length) {pc : Nat} {Ls : Array Slot} {st rest : List Value} (hls : Ls.size = maxL) (hst : st = asL.reverse ++ .ref a :: rest) (hw : (rest.map fun v => v.category).sum ≤ w)
    (hc : k + rm.cells ≤ R.cells) (hs : n + rm.slots ≤ R.slots) (hd : decode bytes pc = .ok (.invokespecial index, 3))
    (H : ∀ v h', Qz v h' → Wk W p l e R s m args below meth c n0 Q h' (k + rm.cells) (n + rm.slots) (mkF m (pc + 3) Ls (v.toList ++ rest))) : Wk W p l e R s m args below meth c n0 Q h k n (mkF m pc Ls st) := by
  intro T L vm0 X B eT N
  subst hst
  have hZ := C.wZ B
  have ho := C.wo B
  have hw' : 2 * (mkF m pc Ls (asL.reverse ++ .ref a :: rest)).monitorRoom + (rest.map fun v => v.category).sum ≤ w := by show 2 * 0 + _ ≤ _; omega
  cases W
  · obtain ⟨v, vm₁, ⟨T', L', k', n'⟩, -, X', ⟨Lc, hQ, l1, y1, z1⟩, st⟩ := X.specialBack C.hx hz1 ho (mvT hZ w1) (mvT hZ w2) (mvT hZ w4) hz (backOf (W := w) (Q := fun v h L => Qz v h ∧ Fr n0 L) (M []) hZ w4 w3 hf hl) (g := mkF m pc Ls (asL.reverse ++ .ref a :: rest)) rfl (hls.trans C.hml.symm) (Steps.refl _) (a := a) (argsL := asL) (rest := rest) (lenOf hlen hps) rfl hw' (hb C.hby hd) (fun _ _ => ⟨rfl, eT, hc, hs⟩)
    dsimp only [Pt.U, Pt.locs, Pt.cells, Pt.slots] at X' l1 y1 z1 st hQ
    subst l1 y1 z1
    obtain ⟨s₂, o, h1, h2⟩ := H v T'.heap hQ.1 T' _ vm0 X' (B : vm0 = s.vm) rfl (N.app hQ.2)
    exact ⟨s₂, o, st.trans h1, h2⟩
  · obtain ⟨v, vm₁, ⟨T', L', k', n'⟩, -, X', hS', hgr, ⟨Lc, hQ, l1, y1, z1⟩, st⟩ := X.specialBackS C.hx hz1 ho (mvT hZ w1) (mvT hZ w2) (mvT hZ w4) hz (backOfS (W := w) (Q := fun v h L => Qz v h ∧ Fr n0 L) (M []) hZ w4 w3 hf hl) (g := mkF m pc Ls (asL.reverse ++ .ref a :: rest)) rfl (hls.trans C.hml.symm) (Steps.refl _) (a := a) (argsL := asL) (rest := rest) (lenOf hlen hps) rfl hw' (hb C.hby hd) (fun _ _ => ⟨rfl, eT, hc, hs⟩)
    dsimp only [Pt.U, Pt.locs, Pt.cells, Pt.slots] at X' hS' hgr l1 y1 z1 st hQ
    subst l1 y1 z1
    obtain ⟨k0, hS, hk0⟩ := (B : ∃ k0, s.Since vm0 k0 ∧ k0 ≤ h.size)
    obtain ⟨s₂, o, h1, h2⟩ := H v T'.heap hQ.1 T' _ T'.vm X' ⟨_, foldS hS (by rw [eT]; exact hk0) hS' hgr, Nat.le_refl _⟩ rfl (N.app hQ.2)
    exact ⟨s₂, o, st.trans h1, h2⟩
theorem Wk.callV (C : Cx Z p s m meth c y bytes maxL ret) {x z : MethodName} {K : String} {index : Nat} {bz : ByteArray} {mz : Nat} {rz : Option FieldType} {rm : Room} {a : Addr} {asL : List Value} {Qz : Option Value → Heap → Prop}
    (w1 : (Cond.methodLink y.cls index x).before a0 Z = true) (w2 : (Cond.declares x).before a0 Z = true) (w5 : (Cond.selects K x z).before a0 Z = true) (w6 : (Cond.instanceMethod z).before a0 Z = true) (w3 : (Cond.initialized z.cls).before a0 Z = true) (w4 : (Cond.code z bz mz rz).before a0 Z = true)
    (hz : x.cls ≠ "java/lang/invoke/MethodHandle" ∧ x.cls ≠ "java/lang/invoke/VarHandle") (hnf : ∀ s' : State, Z.Warmed39 s'.vm → NotFace s' x) (E : Exa Z h a K) (M : Met W l Z n0 z bz mz rz rm (.ref a :: asL).toArray h Qz) {w : Nat} (hf : rm.frames + 1 ≤ R.frames) (hl : w + (mz + 11) + rm.locals ≤ R.locals)
    {ps : List FieldType} {r : Option FieldType} (hlen : parseMethodDescriptor x.desc = some ⟨ps, r⟩) (hps : asL.length = ps.length) {pc : Nat} {Ls : Array Slot} {st rest : List Value} (hls : Ls.size = maxL) (hst : st = asL.reverse ++ .ref a :: rest) (hw : (rest.map fun v => v.category).sum ≤ w)
    (hc : k + rm.cells ≤ R.cells) (hs : n + rm.slots ≤ R.slots) (hd : decode bytes pc = .ok (.invokevirtual index, 3))
    (H : ∀ v h', Qz v h' → Wk W p l e R s m args below meth c n0 Q h' (k + rm.cells) (n + rm.slots) (mkF m (pc + 3) Ls (v.toList ++ rest))) : Wk W p l e R s m args below meth c n0 Q h k n (mkF m pc Ls st) := by
  intro T L vm0 X B eT N
  subst hst
  have hZ := C.wZ B
  have ho := C.wo B
  have hw' : 2 * (mkF m pc Ls (asL.reverse ++ .ref a :: rest)).monitorRoom + (rest.map fun v => v.category).sum ≤ w := by show 2 * 0 + _ ≤ _; omega
  obtain ⟨cq, kq, qa, qb, qc⟩ := isOf hZ eT E
  cases W
  · obtain ⟨v, vm₁, ⟨T', L', k', n'⟩, -, X', ⟨Lc, hQ, l1, y1, z1⟩, st⟩ := X.virtualBack C.hx (y := x) (z := z) ho (mvT hZ w1) (mvT hZ w2) (hnf _ hZ) (mvT hZ w5) (mvT hZ w6) hz (backOf (W := w) (Q := fun v h L => Qz v h ∧ Fr n0 L) (M []) hZ w4 w3 hf hl) qa qc (g := mkF m pc Ls (asL.reverse ++ .ref a :: rest)) rfl (hls.trans C.hml.symm) (Steps.refl _) (argsL := asL) (rest := rest) (lenOf hlen hps) rfl hw' (hb C.hby hd) (fun _ _ => ⟨rfl, eT, hc, hs⟩)
    dsimp only [Pt.U, Pt.locs, Pt.cells, Pt.slots] at X' l1 y1 z1 st hQ
    subst l1 y1 z1
    obtain ⟨s₂, o, h1, h2⟩ := H v T'.heap hQ.1 T' _ vm0 X' (B : vm0 = s.vm) rfl (N.app hQ.2)
    exact ⟨s₂, o, st.trans h1, h2⟩
  · obtain ⟨v, vm₁, ⟨T', L', k', n'⟩, -, X', hS', hgr, ⟨Lc, hQ, l1, y1, z1⟩, st⟩ := X.virtualBackS C.hx (y := x) (z := z) ho (mvT hZ w1) (mvT hZ w2) (hnf _ hZ) (mvT hZ w5) (mvT hZ w6) hz (backOfS (W := w) (Q := fun v h L => Qz v h ∧ Fr n0 L) (M []) hZ w4 w3 hf hl) qa qc (g := mkF m pc Ls (asL.reverse ++ .ref a :: rest)) rfl (hls.trans C.hml.symm) (Steps.refl _) (argsL := asL) (rest := rest) (lenOf hlen hps) rfl hw' (hb C.hby hd) (fun _ _ => ⟨rfl, eT, hc, hs⟩)
    dsimp only [Pt.U, Pt.locs, Pt.cells, Pt.slots] at X' hS' hgr l1 y1 z1 st hQ
    subst l1 y1 z1
    obtain ⟨k0, hS, hk0⟩ := (B : ∃ k0, s.Since vm0 k0 ∧ k0 ≤ h.size)
    obtain ⟨s₂, o, h1, h2⟩ := H v T'.heap hQ.1 T' _ T'.vm X' ⟨_, foldS hS (by rw [eT]; exact hk0) hS' hgr, Nat.le_refl _⟩ rfl (N.app hQ.2)
    exact ⟨s₂, o, st.trans h1, h2⟩
theorem Wk.callU (C : Cx Z p s m meth c y bytes maxL ret) {x z : MethodName} {K owner : String} {index : Nat} {bz : ByteArray} {mz : Nat} {rz : Option FieldType} {rm : Room} {a : Addr} {asL : List Value} {Qz : Option Value → Heap → Prop}
    (w1 : (Cond.methodLink y.cls index x).before a0 Z = true) (w7 : (Cond.sameMethod x.cls owner x.name x.desc).before a0 Z = true) (w2 : (Cond.declares ⟨owner, x.name, x.desc⟩).before a0 Z = true) (w5 : (Cond.selects K x z).before a0 Z = true) (w6 : (Cond.instanceMethod z).before a0 Z = true) (w3 : (Cond.initialized z.cls).before a0 Z = true) (w4 : (Cond.code z bz mz rz).before a0 Z = true)
    (hz : owner ≠ "java/lang/invoke/MethodHandle" ∧ owner ≠ "java/lang/invoke/VarHandle") (E : Exa Z h a K) (M : Met W l Z n0 z bz mz rz rm (.ref a :: asL).toArray h Qz) {w : Nat} (hf : rm.frames + 1 ≤ R.frames) (hl : w + (mz + 11) + rm.locals ≤ R.locals)
    {ps : List FieldType} {r : Option FieldType} (hlen : parseMethodDescriptor x.desc = some ⟨ps, r⟩) (hps : asL.length = ps.length) {pc : Nat} {Ls : Array Slot} {st rest : List Value} (hls : Ls.size = maxL) (hst : st = asL.reverse ++ .ref a :: rest) (hw : (rest.map fun v => v.category).sum ≤ w)
    (hc : k + rm.cells ≤ R.cells) (hs : n + rm.slots ≤ R.slots) (hd : decode bytes pc = .ok (.invokevirtual index, 3))
    (H : ∀ v h', Qz v h' → Wk W p l e R s m args below meth c n0 Q h' (k + rm.cells) (n + rm.slots) (mkF m (pc + 3) Ls (v.toList ++ rest))) : Wk W p l e R s m args below meth c n0 Q h k n (mkF m pc Ls st) := by
  intro T L vm0 X B eT N
  subst hst
  have hZ := C.wZ B
  have ho := C.wo B
  have hw' : 2 * (mkF m pc Ls (asL.reverse ++ .ref a :: rest)).monitorRoom + (rest.map fun v => v.category).sum ≤ w := by show 2 * 0 + _ ≤ _; omega
  obtain ⟨cq, kq, qa, qb, qc⟩ := isOf hZ eT E
  cases W
  · obtain ⟨v, vm₁, ⟨T', L', k', n'⟩, -, X', ⟨Lc, hQ, l1, y1, z1⟩, st⟩ := X.virtualBackUp C.hx (x := x) (y := z) ho (mvT hZ w1) (mvT hZ w7) (mvT hZ w2) hz (mvT hZ w5) (mvT hZ w6) (backOf (W := w) (Q := fun v h L => Qz v h ∧ Fr n0 L) (M []) hZ w4 w3 hf hl) qa qc (g := mkF m pc Ls (asL.reverse ++ .ref a :: rest)) rfl (hls.trans C.hml.symm) (Steps.refl _) (argsL := asL) (rest := rest) (lenOf hlen hps) rfl hw' (hb C.hby hd) (fun _ _ => ⟨rfl, eT, hc, hs⟩)
    dsimp only [Pt.U, Pt.locs, Pt.cells, Pt.slots] at X' l1 y1 z1 st hQ
    subst l1 y1 z1
    obtain ⟨s₂, o, h1, h2⟩ := H v T'.heap hQ.1 T' _ vm0 X' (B : vm0 = s.vm) rfl (N.app hQ.2)
    exact ⟨s₂, o, st.trans h1, h2⟩
  · obtain ⟨v, vm₁, ⟨T', L', k', n'⟩, -, X', hS', hgr, ⟨Lc, hQ, l1, y1, z1⟩, st⟩ := X.virtualBackUpS C.hx (x := x) (y := z) ho (mvT hZ w1) (mvT hZ w7) (mvT hZ w2) hz (mvT hZ w5) (mvT hZ w6) (backOfS (W := w) (Q := fun v h L => Qz v h ∧ Fr n0 L) (M []) hZ w4 w3 hf hl) qa qc (g := mkF m pc Ls (asL.reverse ++ .ref a :: rest)) rfl (hls.trans C.hml.symm) (Steps.refl _) (argsL := asL) (rest := rest) (lenOf hlen hps) rfl hw' (hb C.hby hd) (fun _ _ => ⟨rfl, eT, hc, hs⟩)
    dsimp only [Pt.U, Pt.locs, Pt.cells, Pt.slots] at X' hS' hgr l1 y1 z1 st hQ
    subst l1 y1 z1
    obtain ⟨k0, hS, hk0⟩ := (B : ∃ k0, s.Since vm0 k0 ∧ k0 ≤ h.size)
    obtain ⟨s₂, o, h1, h2⟩ := H v T'.heap hQ.1 T' _ T'.vm X' ⟨_, foldS hS (by rw [eT]; exact hk0) hS' hgr, Nat.le_refl _⟩ rfl (N.app hQ.2)
    exact ⟨s₂, o, st.trans h1, h2⟩
theorem Wk.ldcS (C : Cx Z p s m meth c y bytes maxL ret) {index : Nat} {text : String} (w : (Cond.stringLink y.cls index text).before a0 Z = true) (wS : ∀ d ∈ Bundle.stringAtoms, d.before a0 Z = true) {N : Nat} (hn : 4 * text.toList.length ≤ N) (hbig : N ≤ 536870912) {pc : Nat} {Ls : Array Slot} {st : List Value} (hd : decode bytes pc = .ok (.ldc index, 2)) (hc : k + 2 ≤ R.cells) (hl : n + (N + 4) ≤ R.slots)
    (H : ∀ h' a, Ext h h' → Wk true p l e R s m args below meth c n0 Q h' (k + 2) (n + (N + 4)) (mkF m (pc + 2) Ls (.ref a :: st))) : Wk true p l e R s m args below meth c n0 Q h k n (mkF m pc Ls st) := by
  intro T L vm0 X B eT N'
  have hZ := C.wZ B
  have ho := C.wo B
  obtain ⟨k0, hS, hk0⟩ := (B : ∃ k0, s.Since vm0 k0 ∧ k0 ≤ h.size)
  obtain ⟨a, T', h', k1, X', e', E, hS', hk1, -, -, st⟩ := Jvm.RoadKit.ldcS X C.hx hZ ho w wS eT hS hk0 (g := mkF m pc Ls st) rfl (hb C.hby hd) hn hbig hc hl
  obtain ⟨s₂, o, h1, h2⟩ := H h' a E T' L T'.vm X' ⟨k1, hS', hk1⟩ e' N'
  exact ⟨s₂, o, st _ h1, h2⟩
end Rules
theorem ext_trans {h h' h'' : Heap} (E : Ext h h') (E' : Ext h' h'') : Ext h h'' := ⟨Nat.le_trans E.1 E'.1, fun a c q => E'.2 a c (E.2 a c q)⟩
theorem ext_refl (h : Heap) : Ext h h := ⟨Nat.le_refl _, fun _ _ q => q⟩
end Jvm.Own
namespace Jvm.Own
open Jvm Jvm.ClassFile Sem Op Lib Jvm.Free Jvm.Stand Jvm.LawKit Jvm.RoadKit
/-! statics that hold objects, told apart by a field -/
theorem stat_exa {args : Array Value} {s : State} {C n d K : String} (wi : (Cond.initialized C).before args s = true) (wl : (Cond.laysStatic C n d).before args s = true) (hx : (Cond.exactly (Term.static C n d) K).value args s none s [] = some true) :
    ∃ a, (Term.static C n d).eval args s none [] s = some (.ref a) ∧ Sta s s.heap C n d (.ref a) ∧ Exa s s.heap a K := by
  obtain ⟨a, ev⟩ := exa_v hx
  exact ⟨a, ev, Sta.start ev (Or.inr ⟨wi, wl⟩), Exa.start ev hx⟩
theorem fld_int {args : Array Value} {s : State} {t : Term} {a : Addr} {O f d : String} {i : Int32} (ev : t.eval args s none [] s = some (.ref a)) (hq : (Cond.eq (Term.field t O f d) (Term.int i)).value args s none s [] = some true) : Fld s s.heap a O f d (.int i) := by
  refine Fld.start ?_
  obtain ⟨x, y, h1, h2, k1, k2⟩ := cmp_v (Or.inl hq)
  cases (show some (Value.int i) = some y from h2)
  obtain ⟨z, rfl⟩ := k2
  have q := gotT (show (Cond.eq (Term.field t O f d) (Term.int i)).value args s none s [] = some (decide (z = i)) by simp [Cond.value, h1, h2]) hq
  subst q
  rw [fld_at ev] at h1; exact h1
theorem fld_uniq {Z : State} {h : Heap} {a : Addr} {O f d : String} {v w : Value} (F : Fld Z h a O f d v) (G : Fld Z h a O f d w) : v = w := by
  obtain ⟨c1, cf, k, i, fd, h1, h2, -, -, -, -, h7⟩ := F
  obtain ⟨c2, cf', k', i', fd', g1, g2, -, -, -, -, g7⟩ := G
  cases h1.symm.trans g1
  cases h2.symm.trans g2
  exact Option.some.inj (h7.symm.trans g7)
theorem ne_fld {Z : State} {h : Heap} {a b : Addr} {O f d : String} {v w : Value} (F : Fld Z h a O f d v) (G : Fld Z h b O f d w) (q : v ≠ w) : a ≠ b := fun e => by
  subst e; exact q (fld_uniq F G)
theorem mod_range (p k : Int32) (d : Int) (hd : k.toInt = d) (h0 : 0 < d) : 0 ≤ ((p &&& 2147483647) % k).toInt ∧ ((p &&& 2147483647) % k).toInt < d := by
  have h1 := (c_andS p 2147483647).2.2 (by decide)
  have h2 := (c_irem (p &&& 2147483647) k d hd).1 h1
  rw [h2]
  exact ⟨Int.emod_nonneg _ (by omega), Int.emod_lt_of_pos _ h0⟩
theorem mod6 (p : Int32) : (p &&& 2147483647) % 6 = 0 ∨ (p &&& 2147483647) % 6 = 1 ∨ (p &&& 2147483647) % 6 = 2 ∨ (p &&& 2147483647) % 6 = 3 ∨ (p &&& 2147483647) % 6 = 4 ∨ (p &&& 2147483647) % 6 = 5 := by
  have h := mod_range p 6 6 (by decide) (by decide)
  generalize (p &&& 2147483647) % 6 = r at h ⊢
  have q : r.toInt = 0 ∨ r.toInt = 1 ∨ r.toInt = 2 ∨ r.toInt = 3 ∨ r.toInt = 4 ∨ r.toInt = 5 := by omega
  rcases q with q | q | q | q | q | q
  · exact Or.inl (Int32.toInt_inj.mp q)
  · exact Or.inr (Or.inl (Int32.toInt_inj.mp q))
  · exact Or.inr (Or.inr (Or.inl (Int32.toInt_inj.mp q)))
  · exact Or.inr (Or.inr (Or.inr (Or.inl (Int32.toInt_inj.mp q))))
  · exact Or.inr (Or.inr (Or.inr (Or.inr (Or.inl (Int32.toInt_inj.mp q)))))
  · exact Or.inr (Or.inr (Or.inr (Or.inr (Or.inr (Int32.toInt_inj.mp q)))))
theorem mod3 (p : Int32) : (p &&& 2147483647) % 3 = 0 ∨ (p &&& 2147483647) % 3 = 1 ∨ (p &&& 2147483647) % 3 = 2 := by
  have h := mod_range p 3 3 (by decide) (by decide)
  generalize (p &&& 2147483647) % 3 = r at h ⊢
  have q : r.toInt = 0 ∨ r.toInt = 1 ∨ r.toInt = 2 := by omega
  rcases q with q | q | q
  · exact Or.inl (Int32.toInt_inj.mp q)
  · exact Or.inr (Or.inl (Int32.toInt_inj.mp q))
  · exact Or.inr (Or.inr (Int32.toInt_inj.mp q))
end Jvm.Own
namespace Jvm.Own
open Jvm Jvm.ClassFile Sem Op Lib Jvm.Free Jvm.Stand Jvm.LawKit Jvm.RoadKit
/-! an array by what it holds at each place -/
def up {α : Type} (f : Nat → α) (i : Nat) (v : α) : Nat → α := fun k => if k = i then v else f k
theorem up_eq {α : Type} {f : Nat → α} {i k : Nat} {v : α} (q : k = i) : up f i v k = v := by simp [up, q]
theorem up_ne {α : Type} {f : Nat → α} {i k : Nat} {v : α} (q : k ≠ i) : up f i v k = f k := by simp [up, q]
def Fa (Z : State) (h : Heap) (a : Addr) (ty : FieldType) (n : Nat) (f : Nat → Value) : Prop :=
  ∃ c : Cell, Arr Z h a c ty ∧ c.slots.size = n ∧ n < 2 ^ 31 ∧ ∀ i, i < n → c.slots[i]? = some (f i)
/-- .. of objects of the class K -/
def FaO (Z : State) (h : Heap) (a : Addr) (K : String) (n : Nat) (f : Nat → Value) : Prop :=
  ∃ c : Cell, Arr Z h a c (.object K) ∧ Ovr Z c.cls K ∧ c.slots.size = n ∧ n < 2 ^ 31 ∧ ∀ i, i < n → c.slots[i]? = some (f i)
/-- .. of arrays, whose class is named K -/
def FaA (Z : State) (h : Heap) (a : Addr) (ty : FieldType) (K : String) (n : Nat) (f : Nat → Value) : Prop :=
  ∃ c : Cell, Arr Z h a c (.array ty) ∧ OvrA Z c.cls ty K ∧ c.slots.size = n ∧ n < 2 ^ 31 ∧ ∀ i, i < n → c.slots[i]? = some (f i)
section Facts
variable {Z : State} {h h' : Heap} {a b : Addr} {ty : FieldType} {K : String} {n : Nat} {f g : Nat → Value} {sl : Nat} {v : Value} {ws : List Addr}
theorem inb {c : Cell} {j : Int32} (S : c.slots.size = n) (h0 : ¬ j < 0) (hi : j.toNatClampNeg < n) : ¬ (j < 0 ∨ c.slots.size ≤ j.toNatClampNeg) := by
  rintro (q | q)
  · exact h0 q
  · omega
theorem set_at {c : Cell} (S : c.slots.size = n) (H : ∀ i, i < n → c.slots[i]? = some (f i)) (hs : sl < n) : ∀ i, i < n → (c.setSlot sl v).slots[i]? = some (up f sl v i) := fun i hi => by
  by_cases q : i = sl
  · subst q; rw [up_eq rfl]; simp [Cell.setSlot, S, hi]
  · rw [up_ne q, ← H i hi]; exact Array.getElem?_setIfInBounds_ne (Ne.symm q)
theorem new_at {cA : ClassId} {z : Int32} : ∀ i, i < z.toNatClampNeg → (newA cA ty z).slots[i]? = some (defaultValue ty) := fun i hi => by simp [newA, hi]
theorem clamp_lt (z : Int32) : z.toNatClampNeg < 2 ^ 31 := by
  have := Int32.toInt_lt z; simp only [Int32.toNatClampNeg]; omega
theorem Fa.lt (F : Fa Z h a ty n f) : a < h.size := by obtain ⟨c, A, -⟩ := F; exact A.lt
theorem Fa.ext (F : Fa Z h a ty n f) (E : Ext h h') : Fa Z h' a ty n f := by obtain ⟨c, A, r⟩ := F; exact ⟨c, A.ext E, r⟩
theorem Fa.other (F : Fa Z h b ty n f) (W : Wr h h' a sl v) (q : b ≠ a) : Fa Z h' b ty n f := by obtain ⟨c, A, r⟩ := F; exact ⟨c, A.other W q, r⟩
theorem Fa.keep (F : Fa Z h a ty n f) (K : Keep h h' ws) (q : a ∉ ws) : Fa Z h' a ty n f := by obtain ⟨c, A, r⟩ := F; exact ⟨c, ⟨K.2.1 a c A.1 q, A.2⟩, r⟩
theorem Fa.set (F : Fa Z h a ty n f) (W : Wr h h' a sl v) (hs : sl < n) : Fa Z h' a ty n (up f sl v) := by
  obtain ⟨c, A, S, N, H⟩ := F; exact ⟨_, A.same W, (sz_set _ _ _).trans S, N, set_at S H hs⟩
theorem Fa.new {cA : ClassId} {z : Int32} (A : Arr Z h a (newA cA ty z) ty) : Fa Z h a ty z.toNatClampNeg (fun _ => defaultValue ty) := ⟨_, A, sz_new _ _ _, clamp_lt z, new_at⟩
theorem Fa.congr (F : Fa Z h a ty n f) (q : ∀ i, i < n → f i = g i) : Fa Z h a ty n g := by obtain ⟨c, A, S, N, H⟩ := F; exact ⟨c, A, S, N, fun i hi => (H i hi).trans (congrArg some (q i hi))⟩
theorem FaO.lt (F : FaO Z h a K n f) : a < h.size := by obtain ⟨c, A, -⟩ := F; exact A.lt
theorem FaO.ext (F : FaO Z h a K n f) (E : Ext h h') : FaO Z h' a K n f := by obtain ⟨c, A, r⟩ := F; exact ⟨c, A.ext E, r⟩
theorem FaO.other (F : FaO Z h b K n f) (W : Wr h h' a sl v) (q : b ≠ a) : FaO Z h' b K n f := by obtain ⟨c, A, r⟩ := F; exact ⟨c, A.other W q, r⟩
theorem FaO.set (F : FaO Z h a K n f) (W : Wr h h' a sl v) (hs : sl < n) : FaO Z h' a K n (up f sl v) := by
  obtain ⟨c, A, O, S, N, H⟩ := F; exact ⟨_, A.same W, O, (sz_set _ _ _).trans S, N, set_at S H hs⟩
theorem FaO.new {cA : ClassId} {z : Int32} (A : Arr Z h a (newA cA (.object K) z) (.object K)) (O : Ovr Z cA K) : FaO Z h a K z.toNatClampNeg (fun _ => .null) := ⟨_, A, O, sz_new _ _ _, clamp_lt z, new_at⟩
theorem FaO.sto (F : FaO Z h a K n f) {y : Addr} (E : Exa Z h y K) : Sto Z h a (.ref y) := by obtain ⟨c, A, O, -⟩ := F; exact Sto.of A O (Ins.self E)
theorem FaA.lt (F : FaA Z h a ty K n f) : a < h.size := by obtain ⟨c, A, -⟩ := F; exact A.lt
theorem FaA.ext (F : FaA Z h a ty K n f) (E : Ext h h') : FaA Z h' a ty K n f := by obtain ⟨c, A, r⟩ := F; exact ⟨c, A.ext E, r⟩
theorem FaA.other (F : FaA Z h b ty K n f) (W : Wr h h' a sl v) (q : b ≠ a) : FaA Z h' b ty K n f := by obtain ⟨c, A, r⟩ := F; exact ⟨c, A.other W q, r⟩
theorem FaA.keep (F : FaA Z h a ty K n f) (Kp : Keep h h' ws) (q : a ∉ ws) : FaA Z h' a ty K n f := by obtain ⟨c, A, r⟩ := F; exact ⟨c, ⟨Kp.2.1 a c A.1 q, A.2⟩, r⟩
theorem FaA.set (F : FaA Z h a ty K n f) (W : Wr h h' a sl v) (hs : sl < n) : FaA Z h' a ty K n (up f sl v) := by
  obtain ⟨c, A, O, S, N, H⟩ := F; exact ⟨_, A.same W, O, (sz_set _ _ _).trans S, N, set_at S H hs⟩
theorem FaA.new {cA : ClassId} {z : Int32} (A : Arr Z h a (newA cA (.array ty) z) (.array ty)) (O : OvrA Z cA ty K) : FaA Z h a ty K z.toNatClampNeg (fun _ => .null) := ⟨_, A, O, sz_new _ _ _, clamp_lt z, new_at⟩
end Facts
section Rules
variable {W : Bool} {Z : State} {p : Program} {l : Launch} {e : Env} {R : Room} {s : State} {m : MethodId} {args : Array Value} {below : List Frame} {meth : Method} {c : Code} {y : MethodName} {bytes : ByteArray} {maxL : Nat} {ret : Option FieldType} {n0 : Nat} {Q : Option Value → Heap → Prop} {h : Heap} {k n : Nat} {a0 : Array Value}
variable {a : Addr} {ty : FieldType} {K : String} {N : Nat} {f : Nat → Value} {j : Int32} {v : Value} {pc : Nat} {Ls : Array Slot} {st : List Value}
theorem Wk.fLen (C : Cx Z p s m meth c y bytes maxL ret) (F : Fa Z h a ty N f) {z : Int32} (hz : N.toInt32 = z) (hd : decode bytes pc = .ok (.arraylength, 1))
    (H : Wk W p l e R s m args below meth c n0 Q h k n (mkF m (pc + 1) Ls (.int z :: st))) : Wk W p l e R s m args below meth c n0 Q h k n (mkF m pc Ls (.ref a :: st)) := by
  obtain ⟨cl, A, S, -⟩ := F; exact Wk.len C A hd (by rw [S, hz]; exact H)
theorem Wk.fLenA (C : Cx Z p s m meth c y bytes maxL ret) (F : FaA Z h a ty K N f) {z : Int32} (hz : N.toInt32 = z) (hd : decode bytes pc = .ok (.arraylength, 1))
    (H : Wk W p l e R s m args below meth c n0 Q h k n (mkF m (pc + 1) Ls (.int z :: st))) : Wk W p l e R s m args below meth c n0 Q h k n (mkF m pc Ls (.ref a :: st)) := by
  obtain ⟨cl, A, -, S, -⟩ := F; exact Wk.len C A hd (by rw [S, hz]; exact H)
theorem Wk.fLdI (C : Cx Z p s m meth c y bytes maxL ret) (F : Fa Z h a .int N f) {i : Nat} (hj : j.toNatClampNeg = i) (h0 : ¬ j < 0) (hi : i < N) (hv : f i = v) (hd : decode bytes pc = .ok (.iaload, 1))
    (H : Wk W p l e R s m args below meth c n0 Q h k n (mkF m (pc + 1) Ls (v :: st))) : Wk W p l e R s m args below meth c n0 Q h k n (mkF m pc Ls (.int j :: .ref a :: st)) := by
  subst hj
  obtain ⟨cl, A, S, -, Hs⟩ := F; exact Wk.ldI C A (inb S h0 hi) (hv ▸ Hs _ hi) hd H
theorem Wk.fLdJ (C : Cx Z p s m meth c y bytes maxL ret) (F : Fa Z h a .long N f) {i : Nat} (hj : j.toNatClampNeg = i) (h0 : ¬ j < 0) (hi : i < N) (hv : f i = v) (hd : decode bytes pc = .ok (.laload, 1))
    (H : Wk W p l e R s m args below meth c n0 Q h k n (mkF m (pc + 1) Ls (v :: st))) : Wk W p l e R s m args below meth c n0 Q h k n (mkF m pc Ls (.int j :: .ref a :: st)) := by
  subst hj
  obtain ⟨cl, A, S, -, Hs⟩ := F; exact Wk.ldJ C A (inb S h0 hi) (hv ▸ Hs _ hi) hd H
theorem Wk.fLdZ (C : Cx Z p s m meth c y bytes maxL ret) (F : Fa Z h a .boolean N f) {i : Nat} (hj : j.toNatClampNeg = i) (h0 : ¬ j < 0) (hi : i < N) (hv : f i = v) (hd : decode bytes pc = .ok (.baload, 1))
    (H : Wk W p l e R s m args below meth c n0 Q h k n (mkF m (pc + 1) Ls (v :: st))) : Wk W p l e R s m args below meth c n0 Q h k n (mkF m pc Ls (.int j :: .ref a :: st)) := by
  subst hj
  obtain ⟨cl, A, S, -, Hs⟩ := F; exact Wk.ldZ C A (inb S h0 hi) (hv ▸ Hs _ hi) hd H
theorem Wk.fLdO (C : Cx Z p s m meth c y bytes maxL ret) (F : FaO Z h a K N f) {i : Nat} (hj : j.toNatClampNeg = i) (h0 : ¬ j < 0) (hi : i < N) (hv : f i = v) (hd : decode bytes pc = .ok (.aaload, 1))
    (H : Wk W p l e R s m args below meth c n0 Q h k n (mkF m (pc + 1) Ls (v :: st))) : Wk W p l e R s m args below meth c n0 Q h k n (mkF m pc Ls (.int j :: .ref a :: st)) := by
  subst hj
  obtain ⟨cl, A, -, S, -, Hs⟩ := F; exact Wk.ldR C A rfl (inb S h0 hi) (hv ▸ Hs _ hi) hd H
theorem Wk.fLdA (C : Cx Z p s m meth c y bytes maxL ret) (F : FaA Z h a ty K N f) {i : Nat} (hj : j.toNatClampNeg = i) (h0 : ¬ j < 0) (hi : i < N) (hv : f i = v) (hd : decode bytes pc = .ok (.aaload, 1))
    (H : Wk W p l e R s m args below meth c n0 Q h k n (mkF m (pc + 1) Ls (v :: st))) : Wk W p l e R s m args below meth c n0 Q h k n (mkF m pc Ls (.int j :: .ref a :: st)) := by
  subst hj
  obtain ⟨cl, A, -, S, -, Hs⟩ := F; exact Wk.ldR C A rfl (inb S h0 hi) (hv ▸ Hs _ hi) hd H
theorem Wk.fStI (C : Cx Z p s m meth c y bytes maxL ret) (F : Fa Z h a .int N f) {x : Int32} {i : Nat} (hj : j.toNatClampNeg = i) (h0 : ¬ j < 0) (hi : i < N) (ge : n0 ≤ a) (hd : decode bytes pc = .ok (.iastore, 1))
    (H : ∀ h', Wr h h' a i (.int x) → Fa Z h' a .int N (up f i (.int x)) → Wk W p l e R s m args below meth c n0 Q h' k n (mkF m (pc + 1) Ls st)) : Wk W p l e R s m args below meth c n0 Q h k n (mkF m pc Ls (.int x :: .int j :: .ref a :: st)) := by
  subst hj
  obtain ⟨cl, A, S, r⟩ := id F; exact Wk.stI C A (inb S h0 hi) ge hd fun h' Wh => H h' Wh (F.set Wh hi)
theorem Wk.fStJ (C : Cx Z p s m meth c y bytes maxL ret) (F : Fa Z h a .long N f) {x : Int64} {i : Nat} (hj : j.toNatClampNeg = i) (h0 : ¬ j < 0) (hi : i < N) (ge : n0 ≤ a) (hd : decode bytes pc = .ok (.lastore, 1))
    (H : ∀ h', Wr h h' a i (.long x) → Fa Z h' a .long N (up f i (.long x)) → Wk W p l e R s m args below meth c n0 Q h' k n (mkF m (pc + 1) Ls st)) : Wk W p l e R s m args below meth c n0 Q h k n (mkF m pc Ls (.long x :: .int j :: .ref a :: st)) := by
  subst hj
  obtain ⟨cl, A, S, r⟩ := id F; exact Wk.stJ C A (inb S h0 hi) ge hd fun h' Wh => H h' Wh (F.set Wh hi)
theorem Wk.fStZ (C : Cx Z p s m meth c y bytes maxL ret) (F : Fa Z h a .boolean N f) {x x' : Int32} (hx : nar .boolean x = x') {i : Nat} (hj : j.toNatClampNeg = i) (h0 : ¬ j < 0) (hi : i < N) (ge : n0 ≤ a) (hd : decode bytes pc = .ok (.bastore, 1))
    (H : ∀ h', Wr h h' a i (.int x') → Fa Z h' a .boolean N (up f i (.int x')) → Wk W p l e R s m args below meth c n0 Q h' k n (mkF m (pc + 1) Ls st)) : Wk W p l e R s m args below meth c n0 Q h k n (mkF m pc Ls (.int x :: .int j :: .ref a :: st)) := by
  subst hx
  subst hj
  obtain ⟨cl, A, S, r⟩ := id F; exact Wk.stZb C A (inb S h0 hi) ge hd fun h' Wh => H h' Wh (F.set Wh hi)
theorem Wk.fStB (C : Cx Z p s m meth c y bytes maxL ret) (F : Fa Z h a .byte N f) {x x' : Int32} (hx : nar .byte x = x') {i : Nat} (hj : j.toNatClampNeg = i) (h0 : ¬ j < 0) (hi : i < N) (ge : n0 ≤ a) (hd : decode bytes pc = .ok (.bastore, 1))
    (H : ∀ h', Wr h h' a i (.int x') → Fa Z h' a .byte N (up f i (.int x')) → Wk W p l e R s m args below meth c n0 Q h' k n (mkF m (pc + 1) Ls st)) : Wk W p l e R s m args below meth c n0 Q h k n (mkF m pc Ls (.int x :: .int j :: .ref a :: st)) := by
  subst hx
  subst hj
  obtain ⟨cl, A, S, r⟩ := id F; exact Wk.stB C A (inb S h0 hi) ge hd fun h' Wh => H h' Wh (F.set Wh hi)
theorem Wk.fStC (C : Cx Z p s m meth c y bytes maxL ret) (F : Fa Z h a .char N f) {x x' : Int32} (hx : nar .char x = x') {i : Nat} (hj : j.toNatClampNeg = i) (h0 : ¬ j < 0) (hi : i < N) (ge : n0 ≤ a) (hd : decode bytes pc = .ok (.castore, 1))
    (H : ∀ h', Wr h h' a i (.int x') → Fa Z h' a .char N (up f i (.int x')) → Wk W p l e R s m args below meth c n0 Q h' k n (mkF m (pc + 1) Ls st)) : Wk W p l e R s m args below meth c n0 Q h k n (mkF m pc Ls (.int x :: .int j :: .ref a :: st)) := by
  subst hx
  subst hj
  obtain ⟨cl, A, S, r⟩ := id F; exact Wk.stC C A (inb S h0 hi) ge hd fun h' Wh => H h' Wh (F.set Wh hi)
theorem Wk.fStO (C : Cx Z p s m meth c y bytes maxL ret) (F : FaO Z h a K N f) {i : Nat} (hj : j.toNatClampNeg = i) (h0 : ¬ j < 0) (hi : i < N) (So : Sto Z h a v) (ge : n0 ≤ a) (hd : decode bytes pc = .ok (.aastore, 1))
    (H : ∀ h', Wr h h' a i v → FaO Z h' a K N (up f i v) → Wk W p l e R s m args below meth c n0 Q h' k n (mkF m (pc + 1) Ls st)) : Wk W p l e R s m args below meth c n0 Q h k n (mkF m pc Ls (v :: .int j :: .ref a :: st)) := by
  subst hj
  obtain ⟨cl, A, O, S, r⟩ := id F; exact Wk.stR C A (inb S h0 hi) rfl So ge hd fun h' Wh => H h' Wh (F.set Wh hi)
theorem Wk.fStA (C : Cx Z p s m meth c y bytes maxL ret) (F : FaA Z h a ty K N f) {i : Nat} (hj : j.toNatClampNeg = i) (h0 : ¬ j < 0) (hi : i < N) (So : Sto Z h a v) (ge : n0 ≤ a) (hd : decode bytes pc = .ok (.aastore, 1))
    (H : ∀ h', Wr h h' a i v → FaA Z h' a ty K N (up f i v) → Wk W p l e R s m args below meth c n0 Q h' k n (mkF m (pc + 1) Ls st)) : Wk W p l e R s m args below meth c n0 Q h k n (mkF m pc Ls (v :: .int j :: .ref a :: st)) := by
  subst hj
  obtain ⟨cl, A, O, S, r⟩ := id F; exact Wk.stR C A (inb S h0 hi) rfl So ge hd fun h' Wh => H h' Wh (F.set Wh hi)
theorem Wk.fNewP (C : Cx Z p s m meth c y bytes maxL ret) {aty : ArrayType} (w : (Cond.arrayClass (newarray.typeOf aty)).before a0 Z = true) {z : Int32} {dv : Value} {ad : String} (hty : newarray.typeOf aty = ty) (hdv : defaultValue ty = dv) (hN : z.toNatClampNeg = N) (had : "[" ++ (newarray.typeOf aty).toString = ad) (hz : ¬ z < 0) {cap : Nat} (hcap : N ≤ cap) (hbig : cap * 8 ≤ 536870912) (hd : decode bytes pc = .ok (.newarray aty, 2)) (hc : k + 1 ≤ R.cells) (hl : n + cap ≤ R.slots)
    (H : ∀ h' a, a = h.size → Ext h h' → Exa Z h' a ad → Fa Z h' a ty N (fun _ => dv) → Wk W p l e R s m args below meth c n0 Q h' (k + 1) (n + cap) (mkF m (pc + 2) Ls (.ref a :: st))) :
    Wk W p l e R s m args below meth c n0 Q h k n (mkF m pc Ls (.int z :: st)) := by
  intro T L vm0 X B eT Nn
  subst hty hdv hN
  obtain ⟨T', h', cA, X', e', E, A, Ex, st⟩ := Jvm.RoadKit.newPE X C.hx (C.wZ B) w eT (g := mkF m pc Ls (.int z :: st)) rfl (hb C.hby hd) rfl hz hcap hbig hc hl had
  obtain ⟨s₂, o, h1, h2⟩ := H h' _ rfl E Ex (Fa.new A) T' L vm0 X' (B.mono E.1) e' Nn
  exact ⟨s₂, o, st _ h1, h2⟩
theorem Wk.fNewA (C : Cx Z p s m meth c y bytes maxL ret) {index : Nat} {z : Int32} {ad : String} (hK : (FieldType.array ty).toString = K) (w1 : (Cond.classLink y.cls index K).before a0 Z = true) (w2 : (Cond.arrayOver (.array ty)).before a0 Z = true) (hN : z.toNatClampNeg = N) (had : "[" ++ K = ad) (hz : ¬ z < 0) {cap : Nat} (hcap : N ≤ cap) (hbig : cap * 8 ≤ 536870912) (hd : decode bytes pc = .ok (.anewarray index, 3)) (hc : k + 1 ≤ R.cells) (hl : n + cap ≤ R.slots)
    (H : ∀ h' a, a = h.size → Ext h h' → Exa Z h' a ad → FaA Z h' a ty K N (fun _ => .null) → Wk W p l e R s m args below meth c n0 Q h' (k + 1) (n + cap) (mkF m (pc + 3) Ls (.ref a :: st))) :
    Wk W p l e R s m args below meth c n0 Q h k n (mkF m pc Ls (.int z :: st)) := by
  intro T L vm0 X B eT Nn
  subst hN
  obtain ⟨T', h', cA, X', e', E, A, Ex, O, st⟩ := Jvm.RoadKit.newRA X C.hx (C.wZ B) (C.wo B) hK w1 w2 eT (g := mkF m pc Ls (.int z :: st)) rfl (hb C.hby hd) rfl hz hcap hbig hc hl had
  obtain ⟨s₂, o, h1, h2⟩ := H h' _ rfl E Ex (FaA.new A O) T' L vm0 X' (B.mono E.1) e' Nn
  exact ⟨s₂, o, st _ h1, h2⟩
theorem Wk.fNewO (C : Cx Z p s m meth c y bytes maxL ret) {index : Nat} {z : Int32} (w1 : (Cond.classLink y.cls index K).before a0 Z = true) (w2 : (Cond.arrayOver (.object K)).before a0 Z = true) (hN : z.toNatClampNeg = N) (hz : ¬ z < 0) {cap : Nat} (hcap : N ≤ cap) (hbig : cap * 8 ≤ 536870912) (hd : decode bytes pc = .ok (.anewarray index, 3)) (hc : k + 1 ≤ R.cells) (hl : n + cap ≤ R.slots)
    (H : ∀ h' a, a = h.size → Ext h h' → FaO Z h' a K N (fun _ => .null) → Wk W p l e R s m args below meth c n0 Q h' (k + 1) (n + cap) (mkF m (pc + 3) Ls (.ref a :: st))) :
    Wk W p l e R s m args below meth c n0 Q h k n (mkF m pc Ls (.int z :: st)) := by
  subst hN
  exact Wk.newR C w1 w2 hz hcap hbig hd hc hl fun h' a cA g E A O => H h' a g E (FaO.new A O)
theorem FaA.sto {f : Nat → Value} (F : FaA Z h a ty K N f) {b : Addr} (E : Exa Z h b K) : Sto Z h a (.ref b) := by obtain ⟨c, A, O, -⟩ := F; exact Sto.ofVA A rfl O (Ins.self E)
end Rules
end Jvm.Own
namespace Jvm.Own
theorem nm0 {a : Nat} : a ∉ ([] : List Nat) := by simp
theorem nmS {a b : Nat} {ws : List Nat} (h : a ≠ b) (t : a ∉ ws) : a ∉ b :: ws := by simp [h, t]
theorem nv0 {P : Nat → Prop} : ∀ x ∈ ([] : List Nat), P x := fun _ q => nomatch q
theorem nvS {P : Nat → Prop} {b : Nat} {ws : List Nat} (h : P b) (t : ∀ x ∈ ws, P x) : ∀ x ∈ b :: ws, P x := fun x q => (List.mem_cons.mp q).elim (fun e => e ▸ h) (t x)
end Jvm.Own
namespace Jvm.Own
open Jvm Jvm.ClassFile Sem Op Lib Jvm.Free Jvm.Stand Jvm.LawKit Jvm.RoadKit
theorem dupX2 {tb : Tables} [Ours tb] {e : Env} {below : List Frame} {T target : State} {m : MethodId} {c : Code} {g : JFrame} (h : At T m c below) (hx : tb.exec = Jvm.exec) (hg : g.method = m) {x y z : Value} {rest : List Value} (hd : decode c.code g.pc = .ok (.dup_x2, 1)) (hs : g.stack = x :: y :: z :: rest) (hc : x.category = 1) (hc2 : y.category = 1) (hc3 : z.category = 1)
    (hr : Steps tb e below (T.setTop { g with pc := g.pc + 1, stack := x :: y :: z :: x :: rest }) target) : Steps tb e below (T.setTop g) target := by
  subst hg
  jvm_step h [h.top, hx, hd, hs, hc, hc2, hc3, dup_x2.wp_sem]
  exact hr
end Jvm.Own
namespace Jvm.Pilot.@@N@@
open Jvm Jvm.ClassFile Sem Op Lib Jvm.Free Jvm.Stand Jvm.LawKit Jvm.RoadKit Bundle Jvm.Own Jvm.Pilot.@@N@@.Jvm.D
theorem pn_0 : plainName "com/example/understory/understory/RootedTree" = true := by first | (simp [plainName, overriddenIn]; done) | decide +kernel
theorem pn_1 : plainName "com/example/understory/understory/RootedTreeParentStatesPinLaw" = true := by first | (simp [plainName, overriddenIn]; done) | decide +kernel
theorem pd_0 : parseMethodDescriptor "([I[I[I)V" = some ⟨[(.array .int), (.array .int), (.array .int)], none⟩ := by decide +kernel
theorem pd_1 : parseMethodDescriptor "([I)[[I" = some ⟨[(.array .int)], some (.array (.array .int))⟩ := by decide +kernel
theorem pd_2 : parseMethodDescriptor "(I)I" = some ⟨[.int], some .int⟩ := by decide +kernel
theorem d3_0 : decode prog_21_method_2_code 0 = .ok (.aload_n 0, 1) := by decide +kernel
theorem d3_1 : decode prog_21_method_2_code 1 = .ok (.arraylength, 1) := by decide +kernel
theorem d3_2 : decode prog_21_method_2_code 2 = .ok (.istore_n 1, 1) := by decide +kernel
theorem d3_3 : decode prog_21_method_2_code 3 = .ok (.iload_n 1, 1) := by decide +kernel
theorem d3_4 : decode prog_21_method_2_code 4 = .ok (.newarray .int, 2) := by decide +kernel
theorem d3_6 : decode prog_21_method_2_code 6 = .ok (.astore_n 2, 1) := by decide +kernel
theorem d3_7 : decode prog_21_method_2_code 7 = .ok (.iconst 0, 1) := by decide +kernel
theorem d3_8 : decode prog_21_method_2_code 8 = .ok (.istore_n 3, 1) := by decide +kernel
theorem d3_9 : decode prog_21_method_2_code 9 = .ok (.iload_n 3, 1) := by decide +kernel
theorem d3_10 : decode prog_21_method_2_code 10 = .ok (.iload_n 1, 1) := by decide +kernel
theorem d3_11 : decode prog_21_method_2_code 11 = .ok (.if_icmp .ge 24, 3) := by decide +kernel
theorem d3_14 : decode prog_21_method_2_code 14 = .ok (.aload_n 0, 1) := by decide +kernel
theorem d3_15 : decode prog_21_method_2_code 15 = .ok (.iload_n 3, 1) := by decide +kernel
theorem d3_16 : decode prog_21_method_2_code 16 = .ok (.iaload, 1) := by decide +kernel
theorem d3_17 : decode prog_21_method_2_code 17 = .ok (.ifCond .lt 12, 3) := by decide +kernel
theorem d3_20 : decode prog_21_method_2_code 20 = .ok (.aload_n 2, 1) := by decide +kernel
theorem d3_21 : decode prog_21_method_2_code 21 = .ok (.aload_n 0, 1) := by decide +kernel
theorem d3_22 : decode prog_21_method_2_code 22 = .ok (.iload_n 3, 1) := by decide +kernel
theorem d3_23 : decode prog_21_method_2_code 23 = .ok (.iaload, 1) := by decide +kernel
theorem d3_24 : decode prog_21_method_2_code 24 = .ok (.dup2, 1) := by decide +kernel
theorem d3_25 : decode prog_21_method_2_code 25 = .ok (.iaload, 1) := by decide +kernel
theorem d3_26 : decode prog_21_method_2_code 26 = .ok (.iconst 1, 1) := by decide +kernel
theorem d3_27 : decode prog_21_method_2_code 27 = .ok (.iadd, 1) := by decide +kernel
theorem d3_28 : decode prog_21_method_2_code 28 = .ok (.iastore, 1) := by decide +kernel
theorem d3_29 : decode prog_21_method_2_code 29 = .ok (.iinc 3 1, 3) := by decide +kernel
theorem d3_32 : decode prog_21_method_2_code 32 = .ok (.goto (-23), 3) := by decide +kernel
theorem d3_35 : decode prog_21_method_2_code 35 = .ok (.iload_n 1, 1) := by decide +kernel
theorem d3_36 : decode prog_21_method_2_code 36 = .ok (.anewarray 30, 3) := by decide +kernel
theorem d3_39 : decode prog_21_method_2_code 39 = .ok (.astore_n 3, 1) := by decide +kernel
theorem d3_40 : decode prog_21_method_2_code 40 = .ok (.iconst 0, 1) := by decide +kernel
theorem d3_41 : decode prog_21_method_2_code 41 = .ok (.istore 4, 2) := by decide +kernel
theorem d3_43 : decode prog_21_method_2_code 43 = .ok (.iload 4, 2) := by decide +kernel
theorem d3_45 : decode prog_21_method_2_code 45 = .ok (.iload_n 1, 1) := by decide +kernel
theorem d3_46 : decode prog_21_method_2_code 46 = .ok (.if_icmp .ge 19, 3) := by decide +kernel
theorem d3_49 : decode prog_21_method_2_code 49 = .ok (.aload_n 3, 1) := by decide +kernel
theorem d3_50 : decode prog_21_method_2_code 50 = .ok (.iload 4, 2) := by decide +kernel
theorem d3_52 : decode prog_21_method_2_code 52 = .ok (.aload_n 2, 1) := by decide +kernel
theorem d3_53 : decode prog_21_method_2_code 53 = .ok (.iload 4, 2) := by decide +kernel
theorem d3_55 : decode prog_21_method_2_code 55 = .ok (.iaload, 1) := by decide +kernel
theorem d3_56 : decode prog_21_method_2_code 56 = .ok (.newarray .int, 2) := by decide +kernel
theorem d3_58 : decode prog_21_method_2_code 58 = .ok (.aastore, 1) := by decide +kernel
theorem d3_59 : decode prog_21_method_2_code 59 = .ok (.iinc 4 1, 3) := by decide +kernel
theorem d3_62 : decode prog_21_method_2_code 62 = .ok (.goto (-19), 3) := by decide +kernel
theorem d3_65 : decode prog_21_method_2_code 65 = .ok (.iload_n 1, 1) := by decide +kernel
theorem d3_66 : decode prog_21_method_2_code 66 = .ok (.newarray .int, 2) := by decide +kernel
theorem d3_68 : decode prog_21_method_2_code 68 = .ok (.astore 4, 2) := by decide +kernel
theorem d3_70 : decode prog_21_method_2_code 70 = .ok (.iconst 0, 1) := by decide +kernel
theorem d3_71 : decode prog_21_method_2_code 71 = .ok (.istore 5, 2) := by decide +kernel
theorem d3_73 : decode prog_21_method_2_code 73 = .ok (.iload 5, 2) := by decide +kernel
theorem d3_75 : decode prog_21_method_2_code 75 = .ok (.iload_n 1, 1) := by decide +kernel
theorem d3_76 : decode prog_21_method_2_code 76 = .ok (.if_icmp .ge 37, 3) := by decide +kernel
theorem d3_79 : decode prog_21_method_2_code 79 = .ok (.aload_n 0, 1) := by decide +kernel
theorem d3_80 : decode prog_21_method_2_code 80 = .ok (.iload 5, 2) := by decide +kernel
theorem d3_82 : decode prog_21_method_2_code 82 = .ok (.iaload, 1) := by decide +kernel
theorem d3_83 : decode prog_21_method_2_code 83 = .ok (.ifCond .lt 24, 3) := by decide +kernel
theorem d3_86 : decode prog_21_method_2_code 86 = .ok (.aload_n 3, 1) := by decide +kernel
theorem d3_87 : decode prog_21_method_2_code 87 = .ok (.aload_n 0, 1) := by decide +kernel
theorem d3_88 : decode prog_21_method_2_code 88 = .ok (.iload 5, 2) := by decide +kernel
theorem d3_90 : decode prog_21_method_2_code 90 = .ok (.iaload, 1) := by decide +kernel
theorem d3_91 : decode prog_21_method_2_code 91 = .ok (.aaload, 1) := by decide +kernel
theorem d3_92 : decode prog_21_method_2_code 92 = .ok (.aload 4, 2) := by decide +kernel
theorem d3_94 : decode prog_21_method_2_code 94 = .ok (.aload_n 0, 1) := by decide +kernel
theorem d3_95 : decode prog_21_method_2_code 95 = .ok (.iload 5, 2) := by decide +kernel
theorem d3_97 : decode prog_21_method_2_code 97 = .ok (.iaload, 1) := by decide +kernel
theorem d3_98 : decode prog_21_method_2_code 98 = .ok (.dup2, 1) := by decide +kernel
theorem d3_99 : decode prog_21_method_2_code 99 = .ok (.iaload, 1) := by decide +kernel
theorem d3_100 : decode prog_21_method_2_code 100 = .ok (.dup_x2, 1) := by decide +kernel
theorem d3_101 : decode prog_21_method_2_code 101 = .ok (.iconst 1, 1) := by decide +kernel
theorem d3_102 : decode prog_21_method_2_code 102 = .ok (.iadd, 1) := by decide +kernel
theorem d3_103 : decode prog_21_method_2_code 103 = .ok (.iastore, 1) := by decide +kernel
theorem d3_104 : decode prog_21_method_2_code 104 = .ok (.iload 5, 2) := by decide +kernel
theorem d3_106 : decode prog_21_method_2_code 106 = .ok (.iastore, 1) := by decide +kernel
theorem d3_107 : decode prog_21_method_2_code 107 = .ok (.iinc 5 1, 3) := by decide +kernel
theorem d3_110 : decode prog_21_method_2_code 110 = .ok (.goto (-37), 3) := by decide +kernel
theorem d3_113 : decode prog_21_method_2_code 113 = .ok (.aload_n 3, 1) := by decide +kernel
theorem d3_114 : decode prog_21_method_2_code 114 = .ok (.areturn, 1) := by decide +kernel
set_option maxRecDepth 65536 in
set_option maxHeartbeats 40000000 in
theorem own_3_0 (l : Launch) (Z : State) (a0 : Array Value) (hw : ∀ d ∈ tables_1, d.before a0 Z = true) (n0 : Nat) (h0 : Heap) (hsz : n0 ≤ h0.size) (o0 : Addr) (P0 : Exa Z h0 o0 "[I") (P1 : Fa Z h0 o0 .int 3 (up (up (up (fun _ => (.int (0 : Int32))) 0 (.int (-1 : Int32))) 1 (.int (0 : Int32))) 2 (.int (0 : Int32)))) (G_o0 : n0 ≤ o0) :
    Met false l Z n0 (⟨"com/example/understory/understory/RootedTree", "childrenOf", "([I)[[I"⟩ : MethodName) prog_21_method_2_code 6 (some (.array (.array .int))) ({ frames := 0, cells := 6, slots := 11, locals := 0 } : Room) #[(.ref o0)] h0 (fun v h => ∃ b34 : Addr, ∃ b51 : Addr, ∃ b84 : Addr, ∃ b122 : Addr, v = some (.ref b34) ∧ Keep h0 h [] ∧ h0.size ≤ b34 ∧ h0.size ≤ b51 ∧ h0.size ≤ b84 ∧ h0.size ≤ b122 ∧ b34 ≠ b51 ∧ b34 ≠ b84 ∧ b34 ≠ b122 ∧ b51 ≠ b84 ∧ b51 ≠ b122 ∧ b84 ≠ b122 ∧ Exa Z h b34 "[[I" ∧ Exa Z h b51 "[I" ∧ Exa Z h b84 "[I" ∧ Fa Z h b84 .int 0 (fun _ => (.int (0 : Int32))) ∧ Exa Z h b122 "[I" ∧ Fa Z h b122 .int 0 (fun _ => (.int (0 : Int32))) ∧ FaA Z h b34 .int "[I" 3 (up (up (up (fun _ => .null) 0 (.ref b51)) 1 (.ref b84)) 2 (.ref b122)) ∧ Fa Z h b51 .int 2 (up (up (fun _ => (.int (0 : Int32))) 0 (.int (1 : Int32))) 1 (.int (2 : Int32)))) := by
  refine Met.of pn_0 #[.val (.ref o0), .unset, .unset, .unset, .unset, .unset] (fun m => by first | (simp [entryFrame, mkF, argsToLocals, Value.category]; done) | rfl) ?_
  intro p e s m below meth c C
  refine Wk.st (g' := (mkF m 1 #[.val (.ref o0), .unset, .unset, .unset, .unset, .unset] [(.ref o0)])) (fun X t q => XS.aloadN X.here C.hx rfl (hb C.hby d3_0) rfl rfl q) ?_
  refine Wk.fLen C P1 (z := (3 : Int32)) (by decide) d3_1 ?_
  show Wk _ p l e _ s m _ below meth c n0 _ h0 0 0 (mkF m 2 #[.val (.ref o0), .unset, .unset, .unset, .unset, .unset] [(.int (3 : Int32))])
  refine Wk.st (g' := (mkF m 3 #[.val (.ref o0), .val (.int (3 : Int32)), .unset, .unset, .unset, .unset] [])) (fun X t q => XS.istoreN X.here C.hx rfl (hb C.hby d3_2) rfl (l' := #[.val (.ref o0), .val (.int (3 : Int32)), .unset, .unset, .unset, .unset]) rfl q) ?_
  refine Wk.st (g' := (mkF m 4 #[.val (.ref o0), .val (.int (3 : Int32)), .unset, .unset, .unset, .unset] [(.int (3 : Int32))])) (fun X t q => XS.iloadN X.here C.hx rfl (hb C.hby d3_3) rfl q) ?_
  refine Wk.fNewP C (hw _ (List.mem_of_getElem? (i := 0) rfl)) (ty := .int) (dv := (.int (0 : Int32))) (N := 3) (ad := "[I") rfl rfl (by decide) (by decide) (by decide) (cap := 3) (by decide) (by decide) d3_4 (by decide) (by decide) ?_
  intro h1 b2 g3 E4 A5 F6
  have ne7 : o0 ≠ b2 := Nat.ne_of_lt (Nat.lt_of_lt_of_le P0.lt (Nat.le_of_eq g3.symm))
  have ge8 : n0 ≤ b2 := Nat.le_trans hsz (Nat.le_of_eq g3.symm)
  have gz9 : h0.size ≤ b2 := Nat.le_trans (Nat.le_refl h0.size) (Nat.le_of_eq g3.symm)
  have F10 : Exa Z h1 o0 "[I" := P0.ext E4
  have F11 : Fa Z h1 o0 .int 3 (up (up (up (fun _ => (.int (0 : Int32))) 0 (.int (-1 : Int32))) 1 (.int (0 : Int32))) 2 (.int (0 : Int32))) := P1.ext E4
  have sz12 : n0 ≤ h1.size := Nat.le_trans hsz E4.1
  have sy13 : h0.size ≤ h1.size := Nat.le_trans (Nat.le_refl h0.size) E4.1
  have K14 := (Keep.refl h0 []).ext E4
  show Wk _ p l e _ s m _ below meth c n0 _ h1 1 3 (mkF m 6 #[.val (.ref o0), .val (.int (3 : Int32)), .unset, .unset, .unset, .unset] [(.ref b2)])
  refine Wk.st (g' := (mkF m 7 #[.val (.ref o0), .val (.int (3 : Int32)), .val (.ref b2), .unset, .unset, .unset] [])) (fun X t q => XS.astoreN X.here C.hx rfl (hb C.hby d3_6) rfl rfl (l' := #[.val (.ref o0), .val (.int (3 : Int32)), .val (.ref b2), .unset, .unset, .unset]) rfl q) ?_
  refine Wk.st (g' := (mkF m 8 #[.val (.ref o0), .val (.int (3 : Int32)), .val (.ref b2), .unset, .unset, .unset] [(.int (0 : Int32))])) (fun X t q => XS.iconst X.here C.hx rfl (hb C.hby d3_7) q) ?_
  refine Wk.st (g' := (mkF m 9 #[.val (.ref o0), .val (.int (3 : Int32)), .val (.ref b2), .val (.int (0 : Int32)), .unset, .unset] [])) (fun X t q => XS.istoreN X.here C.hx rfl (hb C.hby d3_8) rfl (l' := #[.val (.ref o0), .val (.int (3 : Int32)), .val (.ref b2), .val (.int (0 : Int32)), .unset, .unset]) rfl q) ?_
  refine Wk.st (g' := (mkF m 10 #[.val (.ref o0), .val (.int (3 : Int32)), .val (.ref b2), .val (.int (0 : Int32)), .unset, .unset] [(.int (0 : Int32))])) (fun X t q => XS.iloadN X.here C.hx rfl (hb C.hby d3_9) rfl q) ?_
  refine Wk.st (g' := (mkF m 11 #[.val (.ref o0), .val (.int (3 : Int32)), .val (.ref b2), .val (.int (0 : Int32)), .unset, .unset] [(.int (3 : Int32)), (.int (0 : Int32))])) (fun X t q => XS.iloadN X.here C.hx rfl (hb C.hby d3_10) rfl q) ?_
  refine Wk.st (g' := (mkF m 14 #[.val (.ref o0), .val (.int (3 : Int32)), .val (.ref b2), .val (.int (0 : Int32)), .unset, .unset] [])) (fun X t q => XS.icmpNo X.here C.hx rfl (hb C.hby d3_11) rfl (XT.ii_ge_f (by decide)) q) ?_
  refine Wk.st (g' := (mkF m 15 #[.val (.ref o0), .val (.int (3 : Int32)), .val (.ref b2), .val (.int (0 : Int32)), .unset, .unset] [(.ref o0)])) (fun X t q => XS.aloadN X.here C.hx rfl (hb C.hby d3_14) rfl rfl q) ?_
  refine Wk.st (g' := (mkF m 16 #[.val (.ref o0), .val (.int (3 : Int32)), .val (.ref b2), .val (.int (0 : Int32)), .unset, .unset] [(.int (0 : Int32)), (.ref o0)])) (fun X t q => XS.iloadN X.here C.hx rfl (hb C.hby d3_15) rfl q) ?_
  refine Wk.fLdI C F11 (i := 0) (by decide) (by decide) (by decide) (v := (.int (-1 : Int32))) (by simp [up]) d3_16 ?_
  show Wk _ p l e _ s m _ below meth c n0 _ h1 1 3 (mkF m 17 #[.val (.ref o0), .val (.int (3 : Int32)), .val (.ref b2), .val (.int (0 : Int32)), .unset, .unset] [(.int (-1 : Int32))])
  refine Wk.st (g' := (mkF m 29 #[.val (.ref o0), .val (.int (3 : Int32)), .val (.ref b2), .val (.int (0 : Int32)), .unset, .unset] [])) (fun X t q => XS.ifYes X.here C.hx rfl (pc0 := 17) (pc' := 29) rfl (hb C.hby d3_17) rfl (XT.i0_lt_t (by decide)) (by decide) (by decide) q) ?_
  refine Wk.st (g' := (mkF m 32 #[.val (.ref o0), .val (.int (3 : Int32)), .val (.ref b2), .val (.int (1 : Int32)), .unset, .unset] [])) (fun X t q => XS.iinc X.here C.hx rfl (hb C.hby d3_29) rfl (l' := #[.val (.ref o0), .val (.int (3 : Int32)), .val (.ref b2), .val (.int (1 : Int32)), .unset, .unset]) rfl q) ?_
  refine Wk.st (g' := (mkF m 9 #[.val (.ref o0), .val (.int (3 : Int32)), .val (.ref b2), .val (.int (1 : Int32)), .unset, .unset] [])) (fun X t q => XS.goto X.here C.hx rfl (pc0 := 32) (pc' := 9) rfl (hb C.hby d3_32) (by decide) (by decide) q) ?_
  refine Wk.st (g' := (mkF m 10 #[.val (.ref o0), .val (.int (3 : Int32)), .val (.ref b2), .val (.int (1 : Int32)), .unset, .unset] [(.int (1 : Int32))])) (fun X t q => XS.iloadN X.here C.hx rfl (hb C.hby d3_9) rfl q) ?_
  refine Wk.st (g' := (mkF m 11 #[.val (.ref o0), .val (.int (3 : Int32)), .val (.ref b2), .val (.int (1 : Int32)), .unset, .unset] [(.int (3 : Int32)), (.int (1 : Int32))])) (fun X t q => XS.iloadN X.here C.hx rfl (hb C.hby d3_10) rfl q) ?_
  refine Wk.st (g' := (mkF m 14 #[.val (.ref o0), .val (.int (3 : Int32)), .val (.ref b2), .val (.int (1 : Int32)), .unset, .unset] [])) (fun X t q => XS.icmpNo X.here C.hx rfl (hb C.hby d3_11) rfl (XT.ii_ge_f (by decide)) q) ?_
  refine Wk.st (g' := (mkF m 15 #[.val (.ref o0), .val (.int (3 : Int32)), .val (.ref b2), .val (.int (1 : Int32)), .unset, .unset] [(.ref o0)])) (fun X t q => XS.aloadN X.here C.hx rfl (hb C.hby d3_14) rfl rfl q) ?_
  refine Wk.st (g' := (mkF m 16 #[.val (.ref o0), .val (.int (3 : Int32)), .val (.ref b2), .val (.int (1 : Int32)), .unset, .unset] [(.int (1 : Int32)), (.ref o0)])) (fun X t q => XS.iloadN X.here C.hx rfl (hb C.hby d3_15) rfl q) ?_
  refine Wk.fLdI C F11 (i := 1) (by decide) (by decide) (by decide) (v := (.int (0 : Int32))) (by simp [up]) d3_16 ?_
  show Wk _ p l e _ s m _ below meth c n0 _ h1 1 3 (mkF m 17 #[.val (.ref o0), .val (.int (3 : Int32)), .val (.ref b2), .val (.int (1 : Int32)), .unset, .unset] [(.int (0 : Int32))])
  refine Wk.st (g' := (mkF m 20 #[.val (.ref o0), .val (.int (3 : Int32)), .val (.ref b2), .val (.int (1 : Int32)), .unset, .unset] [])) (fun X t q => XS.ifNo X.here C.hx rfl (hb C.hby d3_17) rfl (XT.i0_lt_f (by decide)) q) ?_
  refine Wk.st (g' := (mkF m 21 #[.val (.ref o0), .val (.int (3 : Int32)), .val (.ref b2), .val (.int (1 : Int32)), .unset, .unset] [(.ref b2)])) (fun X t q => XS.aloadN X.here C.hx rfl (hb C.hby d3_20) rfl rfl q) ?_
  refine Wk.st (g' := (mkF m 22 #[.val (.ref o0), .val (.int (3 : Int32)), .val (.ref b2), .val (.int (1 : Int32)), .unset, .unset] [(.ref o0), (.ref b2)])) (fun X t q => XS.aloadN X.here C.hx rfl (hb C.hby d3_21) rfl rfl q) ?_
  refine Wk.st (g' := (mkF m 23 #[.val (.ref o0), .val (.int (3 : Int32)), .val (.ref b2), .val (.int (1 : Int32)), .unset, .unset] [(.int (1 : Int32)), (.ref o0), (.ref b2)])) (fun X t q => XS.iloadN X.here C.hx rfl (hb C.hby d3_22) rfl q) ?_
  refine Wk.fLdI C F11 (i := 1) (by decide) (by decide) (by decide) (v := (.int (0 : Int32))) (by simp [up]) d3_23 ?_
  show Wk _ p l e _ s m _ below meth c n0 _ h1 1 3 (mkF m 24 #[.val (.ref o0), .val (.int (3 : Int32)), .val (.ref b2), .val (.int (1 : Int32)), .unset, .unset] [(.int (0 : Int32)), (.ref b2)])
  refine Wk.st (g' := (mkF m 25 #[.val (.ref o0), .val (.int (3 : Int32)), .val (.ref b2), .val (.int (1 : Int32)), .unset, .unset] [(.int (0 : Int32)), (.ref b2), (.int (0 : Int32)), (.ref b2)])) (fun X t q => XT.dup2 X.here C.hx rfl (hb C.hby d3_24) rfl rfl rfl q) ?_
  refine Wk.fLdI C F6 (i := 0) (by decide) (by decide) (by decide) (v := (.int (0 : Int32))) rfl d3_25 ?_
  show Wk _ p l e _ s m _ below meth c n0 _ h1 1 3 (mkF m 26 #[.val (.ref o0), .val (.int (3 : Int32)), .val (.ref b2), .val (.int (1 : Int32)), .unset, .unset] [(.int (0 : Int32)), (.int (0 : Int32)), (.ref b2)])
  refine Wk.st (g' := (mkF m 27 #[.val (.ref o0), .val (.int (3 : Int32)), .val (.ref b2), .val (.int (1 : Int32)), .unset, .unset] [(.int (1 : Int32)), (.int (0 : Int32)), (.int (0 : Int32)), (.ref b2)])) (fun X t q => XS.iconst X.here C.hx rfl (hb C.hby d3_26) q) ?_
  refine Wk.st (g' := (mkF m 28 #[.val (.ref o0), .val (.int (3 : Int32)), .val (.ref b2), .val (.int (1 : Int32)), .unset, .unset] [(.int (1 : Int32)), (.int (0 : Int32)), (.ref b2)])) (fun X t q => XS.iadd X.here C.hx rfl (hb C.hby d3_27) rfl q) ?_
  refine Wk.fStI C F6 (i := 0) (by decide) (by decide) (by decide) ge8 d3_28 ?_
  intro h15 W16 F17
  have F18 : Exa Z h15 o0 "[I" := F10.wr W16
  have F19 : Fa Z h15 o0 .int 3 (up (up (up (fun _ => (.int (0 : Int32))) 0 (.int (-1 : Int32))) 1 (.int (0 : Int32))) 2 (.int (0 : Int32))) := F11.other W16 ne7
  have F20 : Exa Z h15 b2 "[I" := A5.wr W16
  have sz21 : n0 ≤ h15.size := Nat.le_trans sz12 (Nat.le_of_eq W16.size.symm)
  have sy22 : h0.size ≤ h15.size := Nat.le_trans sy13 (Nat.le_of_eq W16.size.symm)
  have K23 := K14.wr W16 (Or.inr gz9)
  show Wk _ p l e _ s m _ below meth c n0 _ h15 1 3 (mkF m 29 #[.val (.ref o0), .val (.int (3 : Int32)), .val (.ref b2), .val (.int (1 : Int32)), .unset, .unset] [])
  refine Wk.st (g' := (mkF m 32 #[.val (.ref o0), .val (.int (3 : Int32)), .val (.ref b2), .val (.int (2 : Int32)), .unset, .unset] [])) (fun X t q => XS.iinc X.here C.hx rfl (hb C.hby d3_29) rfl (l' := #[.val (.ref o0), .val (.int (3 : Int32)), .val (.ref b2), .val (.int (2 : Int32)), .unset, .unset]) rfl q) ?_
  refine Wk.st (g' := (mkF m 9 #[.val (.ref o0), .val (.int (3 : Int32)), .val (.ref b2), .val (.int (2 : Int32)), .unset, .unset] [])) (fun X t q => XS.goto X.here C.hx rfl (pc0 := 32) (pc' := 9) rfl (hb C.hby d3_32) (by decide) (by decide) q) ?_
  refine Wk.st (g' := (mkF m 10 #[.val (.ref o0), .val (.int (3 : Int32)), .val (.ref b2), .val (.int (2 : Int32)), .unset, .unset] [(.int (2 : Int32))])) (fun X t q => XS.iloadN X.here C.hx rfl (hb C.hby d3_9) rfl q) ?_
  refine Wk.st (g' := (mkF m 11 #[.val (.ref o0), .val (.int (3 : Int32)), .val (.ref b2), .val (.int (2 : Int32)), .unset, .unset] [(.int (3 : Int32)), (.int (2 : Int32))])) (fun X t q => XS.iloadN X.here C.hx rfl (hb C.hby d3_10) rfl q) ?_
  refine Wk.st (g' := (mkF m 14 #[.val (.ref o0), .val (.int (3 : Int32)), .val (.ref b2), .val (.int (2 : Int32)), .unset, .unset] [])) (fun X t q => XS.icmpNo X.here C.hx rfl (hb C.hby d3_11) rfl (XT.ii_ge_f (by decide)) q) ?_
  refine Wk.st (g' := (mkF m 15 #[.val (.ref o0), .val (.int (3 : Int32)), .val (.ref b2), .val (.int (2 : Int32)), .unset, .unset] [(.ref o0)])) (fun X t q => XS.aloadN X.here C.hx rfl (hb C.hby d3_14) rfl rfl q) ?_
  refine Wk.st (g' := (mkF m 16 #[.val (.ref o0), .val (.int (3 : Int32)), .val (.ref b2), .val (.int (2 : Int32)), .unset, .unset] [(.int (2 : Int32)), (.ref o0)])) (fun X t q => XS.iloadN X.here C.hx rfl (hb C.hby d3_15) rfl q) ?_
  refine Wk.fLdI C F19 (i := 2) (by decide) (by decide) (by decide) (v := (.int (0 : Int32))) (by simp [up]) d3_16 ?_
  show Wk _ p l e _ s m _ below meth c n0 _ h15 1 3 (mkF m 17 #[.val (.ref o0), .val (.int (3 : Int32)), .val (.ref b2), .val (.int (2 : Int32)), .unset, .unset] [(.int (0 : Int32))])
  refine Wk.st (g' := (mkF m 20 #[.val (.ref o0), .val (.int (3 : Int32)), .val (.ref b2), .val (.int (2 : Int32)), .unset, .unset] [])) (fun X t q => XS.ifNo X.here C.hx rfl (hb C.hby d3_17) rfl (XT.i0_lt_f (by decide)) q) ?_
  refine Wk.st (g' := (mkF m 21 #[.val (.ref o0), .val (.int (3 : Int32)), .val (.ref b2), .val (.int (2 : Int32)), .unset, .unset] [(.ref b2)])) (fun X t q => XS.aloadN X.here C.hx rfl (hb C.hby d3_20) rfl rfl q) ?_
  refine Wk.st (g' := (mkF m 22 #[.val (.ref o0), .val (.int (3 : Int32)), .val (.ref b2), .val (.int (2 : Int32)), .unset, .unset] [(.ref o0), (.ref b2)])) (fun X t q => XS.aloadN X.here C.hx rfl (hb C.hby d3_21) rfl rfl q) ?_
  refine Wk.st (g' := (mkF m 23 #[.val (.ref o0), .val (.int (3 : Int32)), .val (.ref b2), .val (.int (2 : Int32)), .unset, .unset] [(.int (2 : Int32)), (.ref o0), (.ref b2)])) (fun X t q => XS.iloadN X.here C.hx rfl (hb C.hby d3_22) rfl q) ?_
  refine Wk.fLdI C F19 (i := 2) (by decide) (by decide) (by decide) (v := (.int (0 : Int32))) (by simp [up]) d3_23 ?_
  show Wk _ p l e _ s m _ below meth c n0 _ h15 1 3 (mkF m 24 #[.val (.ref o0), .val (.int (3 : Int32)), .val (.ref b2), .val (.int (2 : Int32)), .unset, .unset] [(.int (0 : Int32)), (.ref b2)])
  refine Wk.st (g' := (mkF m 25 #[.val (.ref o0), .val (.int (3 : Int32)), .val (.ref b2), .val (.int (2 : Int32)), .unset, .unset] [(.int (0 : Int32)), (.ref b2), (.int (0 : Int32)), (.ref b2)])) (fun X t q => XT.dup2 X.here C.hx rfl (hb C.hby d3_24) rfl rfl rfl q) ?_
  refine Wk.fLdI C F17 (i := 0) (by decide) (by decide) (by decide) (v := (.int (1 : Int32))) (by simp [up]) d3_25 ?_
  show Wk _ p l e _ s m _ below meth c n0 _ h15 1 3 (mkF m 26 #[.val (.ref o0), .val (.int (3 : Int32)), .val (.ref b2), .val (.int (2 : Int32)), .unset, .unset] [(.int (1 : Int32)), (.int (0 : Int32)), (.ref b2)])
  refine Wk.st (g' := (mkF m 27 #[.val (.ref o0), .val (.int (3 : Int32)), .val (.ref b2), .val (.int (2 : Int32)), .unset, .unset] [(.int (1 : Int32)), (.int (1 : Int32)), (.int (0 : Int32)), (.ref b2)])) (fun X t q => XS.iconst X.here C.hx rfl (hb C.hby d3_26) q) ?_
  refine Wk.st (g' := (mkF m 28 #[.val (.ref o0), .val (.int (3 : Int32)), .val (.ref b2), .val (.int (2 : Int32)), .unset, .unset] [(.int (2 : Int32)), (.int (0 : Int32)), (.ref b2)])) (fun X t q => XS.iadd X.here C.hx rfl (hb C.hby d3_27) rfl q) ?_
  refine Wk.fStI C F17 (i := 0) (by decide) (by decide) (by decide) ge8 d3_28 ?_
  intro h24 W25 F26
  have F27 : Exa Z h24 o0 "[I" := F18.wr W25
  have F28 : Fa Z h24 o0 .int 3 (up (up (up (fun _ => (.int (0 : Int32))) 0 (.int (-1 : Int32))) 1 (.int (0 : Int32))) 2 (.int (0 : Int32))) := F19.other W25 ne7
  have F29 : Exa Z h24 b2 "[I" := F20.wr W25
  have sz30 : n0 ≤ h24.size := Nat.le_trans sz21 (Nat.le_of_eq W25.size.symm)
  have sy31 : h0.size ≤ h24.size := Nat.le_trans sy22 (Nat.le_of_eq W25.size.symm)
  have K32 := K23.wr W25 (Or.inr gz9)
  show Wk _ p l e _ s m _ below meth c n0 _ h24 1 3 (mkF m 29 #[.val (.ref o0), .val (.int (3 : Int32)), .val (.ref b2), .val (.int (2 : Int32)), .unset, .unset] [])
  refine Wk.st (g' := (mkF m 32 #[.val (.ref o0), .val (.int (3 : Int32)), .val (.ref b2), .val (.int (3 : Int32)), .unset, .unset] [])) (fun X t q => XS.iinc X.here C.hx rfl (hb C.hby d3_29) rfl (l' := #[.val (.ref o0), .val (.int (3 : Int32)), .val (.ref b2), .val (.int (3 : Int32)), .unset, .unset]) rfl q) ?_
  refine Wk.st (g' := (mkF m 9 #[.val (.ref o0), .val (.int (3 : Int32)), .val (.ref b2), .val (.int (3 : Int32)), .unset, .unset] [])) (fun X t q => XS.goto X.here C.hx rfl (pc0 := 32) (pc' := 9) rfl (hb C.hby d3_32) (by decide) (by decide) q) ?_
  refine Wk.st (g' := (mkF m 10 #[.val (.ref o0), .val (.int (3 : Int32)), .val (.ref b2), .val (.int (3 : Int32)), .unset, .unset] [(.int (3 : Int32))])) (fun X t q => XS.iloadN X.here C.hx rfl (hb C.hby d3_9) rfl q) ?_
  refine Wk.st (g' := (mkF m 11 #[.val (.ref o0), .val (.int (3 : Int32)), .val (.ref b2), .val (.int (3 : Int32)), .unset, .unset] [(.int (3 : Int32)), (.int (3 : Int32))])) (fun X t q => XS.iloadN X.here C.hx rfl (hb C.hby d3_10) rfl q) ?_
  refine Wk.st (g' := (mkF m 35 #[.val (.ref o0), .val (.int (3 : Int32)), .val (.ref b2), .val (.int (3 : Int32)), .unset, .unset] [])) (fun X t q => XS.icmpYes X.here C.hx rfl (pc0 := 11) (pc' := 35) rfl (hb C.hby d3_11) rfl (XT.ii_ge_t (by decide)) (by decide) (by decide) q) ?_
  refine Wk.st (g' := (mkF m 36 #[.val (.ref o0), .val (.int (3 : Int32)), .val (.ref b2), .val (.int (3 : Int32)), .unset, .unset] [(.int (3 : Int32))])) (fun X t q => XS.iloadN X.here C.hx rfl (hb C.hby d3_35) rfl q) ?_
  refine Wk.fNewA C (ty := .int) (K := "[I") (N := 3) (ad := "[[I") (by decide) (hw _ (List.mem_of_getElem? (i := 19) rfl)) (hw _ (List.mem_of_getElem? (i := 20) rfl)) (by decide) (by decide) (by decide) (cap := 3) (by decide) (by decide) d3_36 (by decide) (by decide) ?_
  intro h33 b34 g35 E36 A37 F38
  have ne39 : o0 ≠ b34 := Nat.ne_of_lt (Nat.lt_of_lt_of_le F27.lt (Nat.le_of_eq g35.symm))
  have ne40 : b2 ≠ b34 := Nat.ne_of_lt (Nat.lt_of_lt_of_le F29.lt (Nat.le_of_eq g35.symm))
  have ge41 : n0 ≤ b34 := Nat.le_trans sz30 (Nat.le_of_eq g35.symm)
  have gz42 : h0.size ≤ b34 := Nat.le_trans sy31 (Nat.le_of_eq g35.symm)
  have F43 : Exa Z h33 o0 "[I" := F27.ext E36
  have F44 : Fa Z h33 o0 .int 3 (up (up (up (fun _ => (.int (0 : Int32))) 0 (.int (-1 : Int32))) 1 (.int (0 : Int32))) 2 (.int (0 : Int32))) := F28.ext E36
  have F45 : Exa Z h33 b2 "[I" := F29.ext E36
  have F46 : Fa Z h33 b2 .int 3 (up (up (fun _ => (.int (0 : Int32))) 0 (.int (1 : Int32))) 0 (.int (2 : Int32))) := F26.ext E36
  have sz47 : n0 ≤ h33.size := Nat.le_trans sz30 E36.1
  have sy48 : h0.size ≤ h33.size := Nat.le_trans sy31 E36.1
  have K49 := K32.ext E36
  show Wk _ p l e _ s m _ below meth c n0 _ h33 2 6 (mkF m 39 #[.val (.ref o0), .val (.int (3 : Int32)), .val (.ref b2), .val (.int (3 : Int32)), .unset, .unset] [(.ref b34)])
  refine Wk.st (g' := (mkF m 40 #[.val (.ref o0), .val (.int (3 : Int32)), .val (.ref b2), .val (.ref b34), .unset, .unset] [])) (fun X t q => XS.astoreN X.here C.hx rfl (hb C.hby d3_39) rfl rfl (l' := #[.val (.ref o0), .val (.int (3 : Int32)), .val (.ref b2), .val (.ref b34), .unset, .unset]) rfl q) ?_
  refine Wk.st (g' := (mkF m 41 #[.val (.ref o0), .val (.int (3 : Int32)), .val (.ref b2), .val (.ref b34), .unset, .unset] [(.int (0 : Int32))])) (fun X t q => XS.iconst X.here C.hx rfl (hb C.hby d3_40) q) ?_
  refine Wk.st (g' := (mkF m 43 #[.val (.ref o0), .val (.int (3 : Int32)), .val (.ref b2), .val (.ref b34), .val (.int (0 : Int32)), .unset] [])) (fun X t q => XS.istore X.here C.hx rfl (hb C.hby d3_41) rfl (l' := #[.val (.ref o0), .val (.int (3 : Int32)), .val (.ref b2), .val (.ref b34), .val (.int (0 : Int32)), .unset]) rfl q) ?_
  refine Wk.st (g' := (mkF m 45 #[.val (.ref o0), .val (.int (3 : Int32)), .val (.ref b2), .val (.ref b34), .val (.int (0 : Int32)), .unset] [(.int (0 : Int32))])) (fun X t q => XS.iload X.here C.hx rfl (hb C.hby d3_43) rfl q) ?_
  refine Wk.st (g' := (mkF m 46 #[.val (.ref o0), .val (.int (3 : Int32)), .val (.ref b2), .val (.ref b34), .val (.int (0 : Int32)), .unset] [(.int (3 : Int32)), (.int (0 : Int32))])) (fun X t q => XS.iloadN X.here C.hx rfl (hb C.hby d3_45) rfl q) ?_
  refine Wk.st (g' := (mkF m 49 #[.val (.ref o0), .val (.int (3 : Int32)), .val (.ref b2), .val (.ref b34), .val (.int (0 : Int32)), .unset] [])) (fun X t q => XS.icmpNo X.here C.hx rfl (hb C.hby d3_46) rfl (XT.ii_ge_f (by decide)) q) ?_
  refine Wk.st (g' := (mkF m 50 #[.val (.ref o0), .val (.int (3 : Int32)), .val (.ref b2), .val (.ref b34), .val (.int (0 : Int32)), .unset] [(.ref b34)])) (fun X t q => XS.aloadN X.here C.hx rfl (hb C.hby d3_49) rfl rfl q) ?_
  refine Wk.st (g' := (mkF m 52 #[.val (.ref o0), .val (.int (3 : Int32)), .val (.ref b2), .val (.ref b34), .val (.int (0 : Int32)), .unset] [(.int (0 : Int32)), (.ref b34)])) (fun X t q => XS.iload X.here C.hx rfl (hb C.hby d3_50) rfl q) ?_
  refine Wk.st (g' := (mkF m 53 #[.val (.ref o0), .val (.int (3 : Int32)), .val (.ref b2), .val (.ref b34), .val (.int (0 : Int32)), .unset] [(.ref b2), (.int (0 : Int32)), (.ref b34)])) (fun X t q => XS.aloadN X.here C.hx rfl (hb C.hby d3_52) rfl rfl q) ?_
  refine Wk.st (g' := (mkF m 55 #[.val (.ref o0), .val (.int (3 : Int32)), .val (.ref b2), .val (.ref b34), .val (.int (0 : Int32)), .unset] [(.int (0 : Int32)), (.ref b2), (.int (0 : Int32)), (.ref b34)])) (fun X t q => XS.iload X.here C.hx rfl (hb C.hby d3_53) rfl q) ?_
  refine Wk.fLdI C F46 (i := 0) (by decide) (by decide) (by decide) (v := (.int (2 : Int32))) (by simp [up]) d3_55 ?_
  show Wk _ p l e _ s m _ below meth c n0 _ h33 2 6 (mkF m 56 #[.val (.ref o0), .val (.int (3 : Int32)), .val (.ref b2), .val (.ref b34), .val (.int (0 : Int32)), .unset] [(.int (2 : Int32)), (.int (0 : Int32)), (.ref b34)])
  refine Wk.fNewP C (hw _ (List.mem_of_getElem? (i := 0) rfl)) (ty := .int) (dv := (.int (0 : Int32))) (N := 2) (ad := "[I") rfl rfl (by decide) (by decide) (by decide) (cap := 2) (by decide) (by decide) d3_56 (by decide) (by decide) ?_
  intro h50 b51 g52 E53 A54 F55
  have ne56 : o0 ≠ b51 := Nat.ne_of_lt (Nat.lt_of_lt_of_le F43.lt (Nat.le_of_eq g52.symm))
  have ne57 : b2 ≠ b51 := Nat.ne_of_lt (Nat.lt_of_lt_of_le F45.lt (Nat.le_of_eq g52.symm))
  have ne58 : b34 ≠ b51 := Nat.ne_of_lt (Nat.lt_of_lt_of_le A37.lt (Nat.le_of_eq g52.symm))
  have ge59 : n0 ≤ b51 := Nat.le_trans sz47 (Nat.le_of_eq g52.symm)
  have gz60 : h0.size ≤ b51 := Nat.le_trans sy48 (Nat.le_of_eq g52.symm)
  have F61 : Exa Z h50 o0 "[I" := F43.ext E53
  have F62 : Fa Z h50 o0 .int 3 (up (up (up (fun _ => (.int (0 : Int32))) 0 (.int (-1 : Int32))) 1 (.int (0 : Int32))) 2 (.int (0 : Int32))) := F44.ext E53
  have F63 : Exa Z h50 b2 "[I" := F45.ext E53
  have F64 : Fa Z h50 b2 .int 3 (up (up (fun _ => (.int (0 : Int32))) 0 (.int (1 : Int32))) 0 (.int (2 : Int32))) := F46.ext E53
  have F65 : Exa Z h50 b34 "[[I" := A37.ext E53
  have F66 : FaA Z h50 b34 .int "[I" 3 (fun _ => .null) := F38.ext E53
  have sz67 : n0 ≤ h50.size := Nat.le_trans sz47 E53.1
  have sy68 : h0.size ≤ h50.size := Nat.le_trans sy48 E53.1
  have K69 := K49.ext E53
  show Wk _ p l e _ s m _ below meth c n0 _ h50 3 8 (mkF m 58 #[.val (.ref o0), .val (.int (3 : Int32)), .val (.ref b2), .val (.ref b34), .val (.int (0 : Int32)), .unset] [(.ref b51), (.int (0 : Int32)), (.ref b34)])
  refine Wk.fStA C F66 (i := 0) (by decide) (by decide) (by decide) (F66.sto A54) ge41 d3_58 ?_
  intro h70 W71 F72
  have F73 : Exa Z h70 o0 "[I" := F61.wr W71
  have F74 : Fa Z h70 o0 .int 3 (up (up (up (fun _ => (.int (0 : Int32))) 0 (.int (-1 : Int32))) 1 (.int (0 : Int32))) 2 (.int (0 : Int32))) := F62.other W71 ne39
  have F75 : Exa Z h70 b2 "[I" := F63.wr W71
  have F76 : Fa Z h70 b2 .int 3 (up (up (fun _ => (.int (0 : Int32))) 0 (.int (1 : Int32))) 0 (.int (2 : Int32))) := F64.other W71 ne40
  have F77 : Exa Z h70 b34 "[[I" := F65.wr W71
  have F78 : Exa Z h70 b51 "[I" := A54.wr W71
  have F79 : Fa Z h70 b51 .int 2 (fun _ => (.int (0 : Int32))) := F55.other W71 (Ne.symm ne58)
  have sz80 : n0 ≤ h70.size := Nat.le_trans sz67 (Nat.le_of_eq W71.size.symm)
  have sy81 : h0.size ≤ h70.size := Nat.le_trans sy68 (Nat.le_of_eq W71.size.symm)
  have K82 := K69.wr W71 (Or.inr gz42)
  show Wk _ p l e _ s m _ below meth c n0 _ h70 3 8 (mkF m 59 #[.val (.ref o0), .val (.int (3 : Int32)), .val (.ref b2), .val (.ref b34), .val (.int (0 : Int32)), .unset] [])
  refine Wk.st (g' := (mkF m 62 #[.val (.ref o0), .val (.int (3 : Int32)), .val (.ref b2), .val (.ref b34), .val (.int (1 : Int32)), .unset] [])) (fun X t q => XS.iinc X.here C.hx rfl (hb C.hby d3_59) rfl (l' := #[.val (.ref o0), .val (.int (3 : Int32)), .val (.ref b2), .val (.ref b34), .val (.int (1 : Int32)), .unset]) rfl q) ?_
  refine Wk.st (g' := (mkF m 43 #[.val (.ref o0), .val (.int (3 : Int32)), .val (.ref b2), .val (.ref b34), .val (.int (1 : Int32)), .unset] [])) (fun X t q => XS.goto X.here C.hx rfl (pc0 := 62) (pc' := 43) rfl (hb C.hby d3_62) (by decide) (by decide) q) ?_
  refine Wk.st (g' := (mkF m 45 #[.val (.ref o0), .val (.int (3 : Int32)), .val (.ref b2), .val (.ref b34), .val (.int (1 : Int32)), .unset] [(.int (1 : Int32))])) (fun X t q => XS.iload X.here C.hx rfl (hb C.hby d3_43) rfl q) ?_
  refine Wk.st (g' := (mkF m 46 #[.val (.ref o0), .val (.int (3 : Int32)), .val (.ref b2), .val (.ref b34), .val (.int (1 : Int32)), .unset] [(.int (3 : Int32)), (.int (1 : Int32))])) (fun X t q => XS.iloadN X.here C.hx rfl (hb C.hby d3_45) rfl q) ?_
  refine Wk.st (g' := (mkF m 49 #[.val (.ref o0), .val (.int (3 : Int32)), .val (.ref b2), .val (.ref b34), .val (.int (1 : Int32)), .unset] [])) (fun X t q => XS.icmpNo X.here C.hx rfl (hb C.hby d3_46) rfl (XT.ii_ge_f (by decide)) q) ?_
  refine Wk.st (g' := (mkF m 50 #[.val (.ref o0), .val (.int (3 : Int32)), .val (.ref b2), .val (.ref b34), .val (.int (1 : Int32)), .unset] [(.ref b34)])) (fun X t q => XS.aloadN X.here C.hx rfl (hb C.hby d3_49) rfl rfl q) ?_
  refine Wk.st (g' := (mkF m 52 #[.val (.ref o0), .val (.int (3 : Int32)), .val (.ref b2), .val (.ref b34), .val (.int (1 : Int32)), .unset] [(.int (1 : Int32)), (.ref b34)])) (fun X t q => XS.iload X.here C.hx rfl (hb C.hby d3_50) rfl q) ?_
  refine Wk.st (g' := (mkF m 53 #[.val (.ref o0), .val (.int (3 : Int32)), .val (.ref b2), .val (.ref b34), .val (.int (1 : Int32)), .unset] [(.ref b2), (.int (1 : Int32)), (.ref b34)])) (fun X t q => XS.aloadN X.here C.hx rfl (hb C.hby d3_52) rfl rfl q) ?_
  refine Wk.st (g' := (mkF m 55 #[.val (.ref o0), .val (.int (3 : Int32)), .val (.ref b2), .val (.ref b34), .val (.int (1 : Int32)), .unset] [(.int (1 : Int32)), (.ref b2), (.int (1 : Int32)), (.ref b34)])) (fun X t q => XS.iload X.here C.hx rfl (hb C.hby d3_53) rfl q) ?_
  refine Wk.fLdI C F76 (i := 1) (by decide) (by decide) (by decide) (v := (.int (0 : Int32))) (by simp [up]) d3_55 ?_
  show Wk _ p l e _ s m _ below meth c n0 _ h70 3 8 (mkF m 56 #[.val (.ref o0), .val (.int (3 : Int32)), .val (.ref b2), .val (.ref b34), .val (.int (1 : Int32)), .unset] [(.int (0 : Int32)), (.int (1 : Int32)), (.ref b34)])
  refine Wk.fNewP C (hw _ (List.mem_of_getElem? (i := 0) rfl)) (ty := .int) (dv := (.int (0 : Int32))) (N := 0) (ad := "[I") rfl rfl (by decide) (by decide) (by decide) (cap := 0) (by decide) (by decide) d3_56 (by decide) (by decide) ?_
  intro h83 b84 g85 E86 A87 F88
  have ne89 : o0 ≠ b84 := Nat.ne_of_lt (Nat.lt_of_lt_of_le F73.lt (Nat.le_of_eq g85.symm))
  have ne90 : b2 ≠ b84 := Nat.ne_of_lt (Nat.lt_of_lt_of_le F75.lt (Nat.le_of_eq g85.symm))
  have ne91 : b34 ≠ b84 := Nat.ne_of_lt (Nat.lt_of_lt_of_le F77.lt (Nat.le_of_eq g85.symm))
  have ne92 : b51 ≠ b84 := Nat.ne_of_lt (Nat.lt_of_lt_of_le F78.lt (Nat.le_of_eq g85.symm))
  have ge93 : n0 ≤ b84 := Nat.le_trans sz80 (Nat.le_of_eq g85.symm)
  have gz94 : h0.size ≤ b84 := Nat.le_trans sy81 (Nat.le_of_eq g85.symm)
  have F95 : Exa Z h83 o0 "[I" := F73.ext E86
  have F96 : Fa Z h83 o0 .int 3 (up (up (up (fun _ => (.int (0 : Int32))) 0 (.int (-1 : Int32))) 1 (.int (0 : Int32))) 2 (.int (0 : Int32))) := F74.ext E86
  have F97 : Exa Z h83 b2 "[I" := F75.ext E86
  have F98 : Fa Z h83 b2 .int 3 (up (up (fun _ => (.int (0 : Int32))) 0 (.int (1 : Int32))) 0 (.int (2 : Int32))) := F76.ext E86
  have F99 : Exa Z h83 b34 "[[I" := F77.ext E86
  have F100 : Exa Z h83 b51 "[I" := F78.ext E86
  have F101 : Fa Z h83 b51 .int 2 (fun _ => (.int (0 : Int32))) := F79.ext E86
  have F102 : FaA Z h83 b34 .int "[I" 3 (up (fun _ => .null) 0 (.ref b51)) := F72.ext E86
  have sz103 : n0 ≤ h83.size := Nat.le_trans sz80 E86.1
  have sy104 : h0.size ≤ h83.size := Nat.le_trans sy81 E86.1
  have K105 := K82.ext E86
  show Wk _ p l e _ s m _ below meth c n0 _ h83 4 8 (mkF m 58 #[.val (.ref o0), .val (.int (3 : Int32)), .val (.ref b2), .val (.ref b34), .val (.int (1 : Int32)), .unset] [(.ref b84), (.int (1 : Int32)), (.ref b34)])
  refine Wk.fStA C F102 (i := 1) (by decide) (by decide) (by decide) (F102.sto A87) ge41 d3_58 ?_
  intro h106 W107 F108
  have F109 : Exa Z h106 o0 "[I" := F95.wr W107
  have F110 : Fa Z h106 o0 .int 3 (up (up (up (fun _ => (.int (0 : Int32))) 0 (.int (-1 : Int32))) 1 (.int (0 : Int32))) 2 (.int (0 : Int32))) := F96.other W107 ne39
  have F111 : Exa Z h106 b2 "[I" := F97.wr W107
  have F112 : Fa Z h106 b2 .int 3 (up (up (fun _ => (.int (0 : Int32))) 0 (.int (1 : Int32))) 0 (.int (2 : Int32))) := F98.other W107 ne40
  have F113 : Exa Z h106 b34 "[[I" := F99.wr W107
  have F114 : Exa Z h106 b51 "[I" := F100.wr W107
  have F115 : Fa Z h106 b51 .int 2 (fun _ => (.int (0 : Int32))) := F101.other W107 (Ne.symm ne58)
  have F116 : Exa Z h106 b84 "[I" := A87.wr W107
  have F117 : Fa Z h106 b84 .int 0 (fun _ => (.int (0 : Int32))) := F88.other W107 (Ne.symm ne91)
  have sz118 : n0 ≤ h106.size := Nat.le_trans sz103 (Nat.le_of_eq W107.size.symm)
  have sy119 : h0.size ≤ h106.size := Nat.le_trans sy104 (Nat.le_of_eq W107.size.symm)
  have K120 := K105.wr W107 (Or.inr gz42)
  show Wk _ p l e _ s m _ below meth c n0 _ h106 4 8 (mkF m 59 #[.val (.ref o0), .val (.int (3 : Int32)), .val (.ref b2), .val (.ref b34), .val (.int (1 : Int32)), .unset] [])
  refine Wk.st (g' := (mkF m 62 #[.val (.ref o0), .val (.int (3 : Int32)), .val (.ref b2), .val (.ref b34), .val (.int (2 : Int32)), .unset] [])) (fun X t q => XS.iinc X.here C.hx rfl (hb C.hby d3_59) rfl (l' := #[.val (.ref o0), .val (.int (3 : Int32)), .val (.ref b2), .val (.ref b34), .val (.int (2 : Int32)), .unset]) rfl q) ?_
  refine Wk.st (g' := (mkF m 43 #[.val (.ref o0), .val (.int (3 : Int32)), .val (.ref b2), .val (.ref b34), .val (.int (2 : Int32)), .unset] [])) (fun X t q => XS.goto X.here C.hx rfl (pc0 := 62) (pc' := 43) rfl (hb C.hby d3_62) (by decide) (by decide) q) ?_
  refine Wk.st (g' := (mkF m 45 #[.val (.ref o0), .val (.int (3 : Int32)), .val (.ref b2), .val (.ref b34), .val (.int (2 : Int32)), .unset] [(.int (2 : Int32))])) (fun X t q => XS.iload X.here C.hx rfl (hb C.hby d3_43) rfl q) ?_
  refine Wk.st (g' := (mkF m 46 #[.val (.ref o0), .val (.int (3 : Int32)), .val (.ref b2), .val (.ref b34), .val (.int (2 : Int32)), .unset] [(.int (3 : Int32)), (.int (2 : Int32))])) (fun X t q => XS.iloadN X.here C.hx rfl (hb C.hby d3_45) rfl q) ?_
  refine Wk.st (g' := (mkF m 49 #[.val (.ref o0), .val (.int (3 : Int32)), .val (.ref b2), .val (.ref b34), .val (.int (2 : Int32)), .unset] [])) (fun X t q => XS.icmpNo X.here C.hx rfl (hb C.hby d3_46) rfl (XT.ii_ge_f (by decide)) q) ?_
  refine Wk.st (g' := (mkF m 50 #[.val (.ref o0), .val (.int (3 : Int32)), .val (.ref b2), .val (.ref b34), .val (.int (2 : Int32)), .unset] [(.ref b34)])) (fun X t q => XS.aloadN X.here C.hx rfl (hb C.hby d3_49) rfl rfl q) ?_
  refine Wk.st (g' := (mkF m 52 #[.val (.ref o0), .val (.int (3 : Int32)), .val (.ref b2), .val (.ref b34), .val (.int (2 : Int32)), .unset] [(.int (2 : Int32)), (.ref b34)])) (fun X t q => XS.iload X.here C.hx rfl (hb C.hby d3_50) rfl q) ?_
  refine Wk.st (g' := (mkF m 53 #[.val (.ref o0), .val (.int (3 : Int32)), .val (.ref b2), .val (.ref b34), .val (.int (2 : Int32)), .unset] [(.ref b2), (.int (2 : Int32)), (.ref b34)])) (fun X t q => XS.aloadN X.here C.hx rfl (hb C.hby d3_52) rfl rfl q) ?_
  refine Wk.st (g' := (mkF m 55 #[.val (.ref o0), .val (.int (3 : Int32)), .val (.ref b2), .val (.ref b34), .val (.int (2 : Int32)), .unset] [(.int (2 : Int32)), (.ref b2), (.int (2 : Int32)), (.ref b34)])) (fun X t q => XS.iload X.here C.hx rfl (hb C.hby d3_53) rfl q) ?_
  refine Wk.fLdI C F112 (i := 2) (by decide) (by decide) (by decide) (v := (.int (0 : Int32))) (by simp [up]) d3_55 ?_
  show Wk _ p l e _ s m _ below meth c n0 _ h106 4 8 (mkF m 56 #[.val (.ref o0), .val (.int (3 : Int32)), .val (.ref b2), .val (.ref b34), .val (.int (2 : Int32)), .unset] [(.int (0 : Int32)), (.int (2 : Int32)), (.ref b34)])
  refine Wk.fNewP C (hw _ (List.mem_of_getElem? (i := 0) rfl)) (ty := .int) (dv := (.int (0 : Int32))) (N := 0) (ad := "[I") rfl rfl (by decide) (by decide) (by decide) (cap := 0) (by decide) (by decide) d3_56 (by decide) (by decide) ?_
  intro h121 b122 g123 E124 A125 F126
  have ne127 : o0 ≠ b122 := Nat.ne_of_lt (Nat.lt_of_lt_of_le F109.lt (Nat.le_of_eq g123.symm))
  have ne128 : b2 ≠ b122 := Nat.ne_of_lt (Nat.lt_of_lt_of_le F111.lt (Nat.le_of_eq g123.symm))
  have ne129 : b34 ≠ b122 := Nat.ne_of_lt (Nat.lt_of_lt_of_le F113.lt (Nat.le_of_eq g123.symm))
  have ne130 : b51 ≠ b122 := Nat.ne_of_lt (Nat.lt_of_lt_of_le F114.lt (Nat.le_of_eq g123.symm))
  have ne131 : b84 ≠ b122 := Nat.ne_of_lt (Nat.lt_of_lt_of_le F116.lt (Nat.le_of_eq g123.symm))
  have ge132 : n0 ≤ b122 := Nat.le_trans sz118 (Nat.le_of_eq g123.symm)
  have gz133 : h0.size ≤ b122 := Nat.le_trans sy119 (Nat.le_of_eq g123.symm)
  have F134 : Exa Z h121 o0 "[I" := F109.ext E124
  have F135 : Fa Z h121 o0 .int 3 (up (up (up (fun _ => (.int (0 : Int32))) 0 (.int (-1 : Int32))) 1 (.int (0 : Int32))) 2 (.int (0 : Int32))) := F110.ext E124
  have F136 : Exa Z h121 b2 "[I" := F111.ext E124
  have F137 : Fa Z h121 b2 .int 3 (up (up (fun _ => (.int (0 : Int32))) 0 (.int (1 : Int32))) 0 (.int (2 : Int32))) := F112.ext E124
  have F138 : Exa Z h121 b34 "[[I" := F113.ext E124
  have F139 : Exa Z h121 b51 "[I" := F114.ext E124
  have F140 : Fa Z h121 b51 .int 2 (fun _ => (.int (0 : Int32))) := F115.ext E124
  have F141 : Exa Z h121 b84 "[I" := F116.ext E124
  have F142 : Fa Z h121 b84 .int 0 (fun _ => (.int (0 : Int32))) := F117.ext E124
  have F143 : FaA Z h121 b34 .int "[I" 3 (up (up (fun _ => .null) 0 (.ref b51)) 1 (.ref b84)) := F108.ext E124
  have sz144 : n0 ≤ h121.size := Nat.le_trans sz118 E124.1
  have sy145 : h0.size ≤ h121.size := Nat.le_trans sy119 E124.1
  have K146 := K120.ext E124
  show Wk _ p l e _ s m _ below meth c n0 _ h121 5 8 (mkF m 58 #[.val (.ref o0), .val (.int (3 : Int32)), .val (.ref b2), .val (.ref b34), .val (.int (2 : Int32)), .unset] [(.ref b122), (.int (2 : Int32)), (.ref b34)])
  refine Wk.fStA C F143 (i := 2) (by decide) (by decide) (by decide) (F143.sto A125) ge41 d3_58 ?_
  intro h147 W148 F149
  have F150 : Exa Z h147 o0 "[I" := F134.wr W148
  have F151 : Fa Z h147 o0 .int 3 (up (up (up (fun _ => (.int (0 : Int32))) 0 (.int (-1 : Int32))) 1 (.int (0 : Int32))) 2 (.int (0 : Int32))) := F135.other W148 ne39
  have F152 : Exa Z h147 b2 "[I" := F136.wr W148
  have F153 : Fa Z h147 b2 .int 3 (up (up (fun _ => (.int (0 : Int32))) 0 (.int (1 : Int32))) 0 (.int (2 : Int32))) := F137.other W148 ne40
  have F154 : Exa Z h147 b34 "[[I" := F138.wr W148
  have F155 : Exa Z h147 b51 "[I" := F139.wr W148
  have F156 : Fa Z h147 b51 .int 2 (fun _ => (.int (0 : Int32))) := F140.other W148 (Ne.symm ne58)
  have F157 : Exa Z h147 b84 "[I" := F141.wr W148
  have F158 : Fa Z h147 b84 .int 0 (fun _ => (.int (0 : Int32))) := F142.other W148 (Ne.symm ne91)
  have F159 : Exa Z h147 b122 "[I" := A125.wr W148
  have F160 : Fa Z h147 b122 .int 0 (fun _ => (.int (0 : Int32))) := F126.other W148 (Ne.symm ne129)
  have sz161 : n0 ≤ h147.size := Nat.le_trans sz144 (Nat.le_of_eq W148.size.symm)
  have sy162 : h0.size ≤ h147.size := Nat.le_trans sy145 (Nat.le_of_eq W148.size.symm)
  have K163 := K146.wr W148 (Or.inr gz42)
  show Wk _ p l e _ s m _ below meth c n0 _ h147 5 8 (mkF m 59 #[.val (.ref o0), .val (.int (3 : Int32)), .val (.ref b2), .val (.ref b34), .val (.int (2 : Int32)), .unset] [])
  refine Wk.st (g' := (mkF m 62 #[.val (.ref o0), .val (.int (3 : Int32)), .val (.ref b2), .val (.ref b34), .val (.int (3 : Int32)), .unset] [])) (fun X t q => XS.iinc X.here C.hx rfl (hb C.hby d3_59) rfl (l' := #[.val (.ref o0), .val (.int (3 : Int32)), .val (.ref b2), .val (.ref b34), .val (.int (3 : Int32)), .unset]) rfl q) ?_
  refine Wk.st (g' := (mkF m 43 #[.val (.ref o0), .val (.int (3 : Int32)), .val (.ref b2), .val (.ref b34), .val (.int (3 : Int32)), .unset] [])) (fun X t q => XS.goto X.here C.hx rfl (pc0 := 62) (pc' := 43) rfl (hb C.hby d3_62) (by decide) (by decide) q) ?_
  refine Wk.st (g' := (mkF m 45 #[.val (.ref o0), .val (.int (3 : Int32)), .val (.ref b2), .val (.ref b34), .val (.int (3 : Int32)), .unset] [(.int (3 : Int32))])) (fun X t q => XS.iload X.here C.hx rfl (hb C.hby d3_43) rfl q) ?_
  refine Wk.st (g' := (mkF m 46 #[.val (.ref o0), .val (.int (3 : Int32)), .val (.ref b2), .val (.ref b34), .val (.int (3 : Int32)), .unset] [(.int (3 : Int32)), (.int (3 : Int32))])) (fun X t q => XS.iloadN X.here C.hx rfl (hb C.hby d3_45) rfl q) ?_
  refine Wk.st (g' := (mkF m 65 #[.val (.ref o0), .val (.int (3 : Int32)), .val (.ref b2), .val (.ref b34), .val (.int (3 : Int32)), .unset] [])) (fun X t q => XS.icmpYes X.here C.hx rfl (pc0 := 46) (pc' := 65) rfl (hb C.hby d3_46) rfl (XT.ii_ge_t (by decide)) (by decide) (by decide) q) ?_
  refine Wk.st (g' := (mkF m 66 #[.val (.ref o0), .val (.int (3 : Int32)), .val (.ref b2), .val (.ref b34), .val (.int (3 : Int32)), .unset] [(.int (3 : Int32))])) (fun X t q => XS.iloadN X.here C.hx rfl (hb C.hby d3_65) rfl q) ?_
  refine Wk.fNewP C (hw _ (List.mem_of_getElem? (i := 0) rfl)) (ty := .int) (dv := (.int (0 : Int32))) (N := 3) (ad := "[I") rfl rfl (by decide) (by decide) (by decide) (cap := 3) (by decide) (by decide) d3_66 (by decide) (by decide) ?_
  intro h164 b165 g166 E167 A168 F169
  have ne170 : o0 ≠ b165 := Nat.ne_of_lt (Nat.lt_of_lt_of_le F150.lt (Nat.le_of_eq g166.symm))
  have ne171 : b2 ≠ b165 := Nat.ne_of_lt (Nat.lt_of_lt_of_le F152.lt (Nat.le_of_eq g166.symm))
  have ne172 : b34 ≠ b165 := Nat.ne_of_lt (Nat.lt_of_lt_of_le F154.lt (Nat.le_of_eq g166.symm))
  have ne173 : b51 ≠ b165 := Nat.ne_of_lt (Nat.lt_of_lt_of_le F155.lt (Nat.le_of_eq g166.symm))
  have ne174 : b84 ≠ b165 := Nat.ne_of_lt (Nat.lt_of_lt_of_le F157.lt (Nat.le_of_eq g166.symm))
  have ne175 : b122 ≠ b165 := Nat.ne_of_lt (Nat.lt_of_lt_of_le F159.lt (Nat.le_of_eq g166.symm))
  have ge176 : n0 ≤ b165 := Nat.le_trans sz161 (Nat.le_of_eq g166.symm)
  have gz177 : h0.size ≤ b165 := Nat.le_trans sy162 (Nat.le_of_eq g166.symm)
  have F178 : Exa Z h164 o0 "[I" := F150.ext E167
  have F179 : Fa Z h164 o0 .int 3 (up (up (up (fun _ => (.int (0 : Int32))) 0 (.int (-1 : Int32))) 1 (.int (0 : Int32))) 2 (.int (0 : Int32))) := F151.ext E167
  have F180 : Exa Z h164 b2 "[I" := F152.ext E167
  have F181 : Fa Z h164 b2 .int 3 (up (up (fun _ => (.int (0 : Int32))) 0 (.int (1 : Int32))) 0 (.int (2 : Int32))) := F153.ext E167
  have F182 : Exa Z h164 b34 "[[I" := F154.ext E167
  have F183 : Exa Z h164 b51 "[I" := F155.ext E167
  have F184 : Fa Z h164 b51 .int 2 (fun _ => (.int (0 : Int32))) := F156.ext E167
  have F185 : Exa Z h164 b84 "[I" := F157.ext E167
  have F186 : Fa Z h164 b84 .int 0 (fun _ => (.int (0 : Int32))) := F158.ext E167
  have F187 : Exa Z h164 b122 "[I" := F159.ext E167
  have F188 : Fa Z h164 b122 .int 0 (fun _ => (.int (0 : Int32))) := F160.ext E167
  have F189 : FaA Z h164 b34 .int "[I" 3 (up (up (up (fun _ => .null) 0 (.ref b51)) 1 (.ref b84)) 2 (.ref b122)) := F149.ext E167
  have sz190 : n0 ≤ h164.size := Nat.le_trans sz161 E167.1
  have sy191 : h0.size ≤ h164.size := Nat.le_trans sy162 E167.1
  have K192 := K163.ext E167
  show Wk _ p l e _ s m _ below meth c n0 _ h164 6 11 (mkF m 68 #[.val (.ref o0), .val (.int (3 : Int32)), .val (.ref b2), .val (.ref b34), .val (.int (3 : Int32)), .unset] [(.ref b165)])
  refine Wk.st (g' := (mkF m 70 #[.val (.ref o0), .val (.int (3 : Int32)), .val (.ref b2), .val (.ref b34), .val (.ref b165), .unset] [])) (fun X t q => XS.astore X.here C.hx rfl (hb C.hby d3_68) rfl rfl (l' := #[.val (.ref o0), .val (.int (3 : Int32)), .val (.ref b2), .val (.ref b34), .val (.ref b165), .unset]) rfl q) ?_
  refine Wk.st (g' := (mkF m 71 #[.val (.ref o0), .val (.int (3 : Int32)), .val (.ref b2), .val (.ref b34), .val (.ref b165), .unset] [(.int (0 : Int32))])) (fun X t q => XS.iconst X.here C.hx rfl (hb C.hby d3_70) q) ?_
  refine Wk.st (g' := (mkF m 73 #[.val (.ref o0), .val (.int (3 : Int32)), .val (.ref b2), .val (.ref b34), .val (.ref b165), .val (.int (0 : Int32))] [])) (fun X t q => XS.istore X.here C.hx rfl (hb C.hby d3_71) rfl (l' := #[.val (.ref o0), .val (.int (3 : Int32)), .val (.ref b2), .val (.ref b34), .val (.ref b165), .val (.int (0 : Int32))]) rfl q) ?_
  refine Wk.st (g' := (mkF m 75 #[.val (.ref o0), .val (.int (3 : Int32)), .val (.ref b2), .val (.ref b34), .val (.ref b165), .val (.int (0 : Int32))] [(.int (0 : Int32))])) (fun X t q => XS.iload X.here C.hx rfl (hb C.hby d3_73) rfl q) ?_
  refine Wk.st (g' := (mkF m 76 #[.val (.ref o0), .val (.int (3 : Int32)), .val (.ref b2), .val (.ref b34), .val (.ref b165), .val (.int (0 : Int32))] [(.int (3 : Int32)), (.int (0 : Int32))])) (fun X t q => XS.iloadN X.here C.hx rfl (hb C.hby d3_75) rfl q) ?_
  refine Wk.st (g' := (mkF m 79 #[.val (.ref o0), .val (.int (3 : Int32)), .val (.ref b2), .val (.ref b34), .val (.ref b165), .val (.int (0 : Int32))] [])) (fun X t q => XS.icmpNo X.here C.hx rfl (hb C.hby d3_76) rfl (XT.ii_ge_f (by decide)) q) ?_
  refine Wk.st (g' := (mkF m 80 #[.val (.ref o0), .val (.int (3 : Int32)), .val (.ref b2), .val (.ref b34), .val (.ref b165), .val (.int (0 : Int32))] [(.ref o0)])) (fun X t q => XS.aloadN X.here C.hx rfl (hb C.hby d3_79) rfl rfl q) ?_
  refine Wk.st (g' := (mkF m 82 #[.val (.ref o0), .val (.int (3 : Int32)), .val (.ref b2), .val (.ref b34), .val (.ref b165), .val (.int (0 : Int32))] [(.int (0 : Int32)), (.ref o0)])) (fun X t q => XS.iload X.here C.hx rfl (hb C.hby d3_80) rfl q) ?_
  refine Wk.fLdI C F179 (i := 0) (by decide) (by decide) (by decide) (v := (.int (-1 : Int32))) (by simp [up]) d3_82 ?_
  show Wk _ p l e _ s m _ below meth c n0 _ h164 6 11 (mkF m 83 #[.val (.ref o0), .val (.int (3 : Int32)), .val (.ref b2), .val (.ref b34), .val (.ref b165), .val (.int (0 : Int32))] [(.int (-1 : Int32))])
  refine Wk.st (g' := (mkF m 107 #[.val (.ref o0), .val (.int (3 : Int32)), .val (.ref b2), .val (.ref b34), .val (.ref b165), .val (.int (0 : Int32))] [])) (fun X t q => XS.ifYes X.here C.hx rfl (pc0 := 83) (pc' := 107) rfl (hb C.hby d3_83) rfl (XT.i0_lt_t (by decide)) (by decide) (by decide) q) ?_
  refine Wk.st (g' := (mkF m 110 #[.val (.ref o0), .val (.int (3 : Int32)), .val (.ref b2), .val (.ref b34), .val (.ref b165), .val (.int (1 : Int32))] [])) (fun X t q => XS.iinc X.here C.hx rfl (hb C.hby d3_107) rfl (l' := #[.val (.ref o0), .val (.int (3 : Int32)), .val (.ref b2), .val (.ref b34), .val (.ref b165), .val (.int (1 : Int32))]) rfl q) ?_
  refine Wk.st (g' := (mkF m 73 #[.val (.ref o0), .val (.int (3 : Int32)), .val (.ref b2), .val (.ref b34), .val (.ref b165), .val (.int (1 : Int32))] [])) (fun X t q => XS.goto X.here C.hx rfl (pc0 := 110) (pc' := 73) rfl (hb C.hby d3_110) (by decide) (by decide) q) ?_
  refine Wk.st (g' := (mkF m 75 #[.val (.ref o0), .val (.int (3 : Int32)), .val (.ref b2), .val (.ref b34), .val (.ref b165), .val (.int (1 : Int32))] [(.int (1 : Int32))])) (fun X t q => XS.iload X.here C.hx rfl (hb C.hby d3_73) rfl q) ?_
  refine Wk.st (g' := (mkF m 76 #[.val (.ref o0), .val (.int (3 : Int32)), .val (.ref b2), .val (.ref b34), .val (.ref b165), .val (.int (1 : Int32))] [(.int (3 : Int32)), (.int (1 : Int32))])) (fun X t q => XS.iloadN X.here C.hx rfl (hb C.hby d3_75) rfl q) ?_
  refine Wk.st (g' := (mkF m 79 #[.val (.ref o0), .val (.int (3 : Int32)), .val (.ref b2), .val (.ref b34), .val (.ref b165), .val (.int (1 : Int32))] [])) (fun X t q => XS.icmpNo X.here C.hx rfl (hb C.hby d3_76) rfl (XT.ii_ge_f (by decide)) q) ?_
  refine Wk.st (g' := (mkF m 80 #[.val (.ref o0), .val (.int (3 : Int32)), .val (.ref b2), .val (.ref b34), .val (.ref b165), .val (.int (1 : Int32))] [(.ref o0)])) (fun X t q => XS.aloadN X.here C.hx rfl (hb C.hby d3_79) rfl rfl q) ?_
  refine Wk.st (g' := (mkF m 82 #[.val (.ref o0), .val (.int (3 : Int32)), .val (.ref b2), .val (.ref b34), .val (.ref b165), .val (.int (1 : Int32))] [(.int (1 : Int32)), (.ref o0)])) (fun X t q => XS.iload X.here C.hx rfl (hb C.hby d3_80) rfl q) ?_
  refine Wk.fLdI C F179 (i := 1) (by decide) (by decide) (by decide) (v := (.int (0 : Int32))) (by simp [up]) d3_82 ?_
  show Wk _ p l e _ s m _ below meth c n0 _ h164 6 11 (mkF m 83 #[.val (.ref o0), .val (.int (3 : Int32)), .val (.ref b2), .val (.ref b34), .val (.ref b165), .val (.int (1 : Int32))] [(.int (0 : Int32))])
  refine Wk.st (g' := (mkF m 86 #[.val (.ref o0), .val (.int (3 : Int32)), .val (.ref b2), .val (.ref b34), .val (.ref b165), .val (.int (1 : Int32))] [])) (fun X t q => XS.ifNo X.here C.hx rfl (hb C.hby d3_83) rfl (XT.i0_lt_f (by decide)) q) ?_
  refine Wk.st (g' := (mkF m 87 #[.val (.ref o0), .val (.int (3 : Int32)), .val (.ref b2), .val (.ref b34), .val (.ref b165), .val (.int (1 : Int32))] [(.ref b34)])) (fun X t q => XS.aloadN X.here C.hx rfl (hb C.hby d3_86) rfl rfl q) ?_
  refine Wk.st (g' := (mkF m 88 #[.val (.ref o0), .val (.int (3 : Int32)), .val (.ref b2), .val (.ref b34), .val (.ref b165), .val (.int (1 : Int32))] [(.ref o0), (.ref b34)])) (fun X t q => XS.aloadN X.here C.hx rfl (hb C.hby d3_87) rfl rfl q) ?_
  refine Wk.st (g' := (mkF m 90 #[.val (.ref o0), .val (.int (3 : Int32)), .val (.ref b2), .val (.ref b34), .val (.ref b165), .val (.int (1 : Int32))] [(.int (1 : Int32)), (.ref o0), (.ref b34)])) (fun X t q => XS.iload X.here C.hx rfl (hb C.hby d3_88) rfl q) ?_
  refine Wk.fLdI C F179 (i := 1) (by decide) (by decide) (by decide) (v := (.int (0 : Int32))) (by simp [up]) d3_90 ?_
  show Wk _ p l e _ s m _ below meth c n0 _ h164 6 11 (mkF m 91 #[.val (.ref o0), .val (.int (3 : Int32)), .val (.ref b2), .val (.ref b34), .val (.ref b165), .val (.int (1 : Int32))] [(.int (0 : Int32)), (.ref b34)])
  refine Wk.fLdA C F189 (i := 0) (by decide) (by decide) (by decide) (v := (.ref b51)) (by simp [up]) d3_91 ?_
  show Wk _ p l e _ s m _ below meth c n0 _ h164 6 11 (mkF m 92 #[.val (.ref o0), .val (.int (3 : Int32)), .val (.ref b2), .val (.ref b34), .val (.ref b165), .val (.int (1 : Int32))] [(.ref b51)])
  refine Wk.st (g' := (mkF m 94 #[.val (.ref o0), .val (.int (3 : Int32)), .val (.ref b2), .val (.ref b34), .val (.ref b165), .val (.int (1 : Int32))] [(.ref b165), (.ref b51)])) (fun X t q => XS.aload X.here C.hx rfl (hb C.hby d3_92) rfl rfl q) ?_
  refine Wk.st (g' := (mkF m 95 #[.val (.ref o0), .val (.int (3 : Int32)), .val (.ref b2), .val (.ref b34), .val (.ref b165), .val (.int (1 : Int32))] [(.ref o0), (.ref b165), (.ref b51)])) (fun X t q => XS.aloadN X.here C.hx rfl (hb C.hby d3_94) rfl rfl q) ?_
  refine Wk.st (g' := (mkF m 97 #[.val (.ref o0), .val (.int (3 : Int32)), .val (.ref b2), .val (.ref b34), .val (.ref b165), .val (.int (1 : Int32))] [(.int (1 : Int32)), (.ref o0), (.ref b165), (.ref b51)])) (fun X t q => XS.iload X.here C.hx rfl (hb C.hby d3_95) rfl q) ?_
  refine Wk.fLdI C F179 (i := 1) (by decide) (by decide) (by decide) (v := (.int (0 : Int32))) (by simp [up]) d3_97 ?_
  show Wk _ p l e _ s m _ below meth c n0 _ h164 6 11 (mkF m 98 #[.val (.ref o0), .val (.int (3 : Int32)), .val (.ref b2), .val (.ref b34), .val (.ref b165), .val (.int (1 : Int32))] [(.int (0 : Int32)), (.ref b165), (.ref b51)])
  refine Wk.st (g' := (mkF m 99 #[.val (.ref o0), .val (.int (3 : Int32)), .val (.ref b2), .val (.ref b34), .val (.ref b165), .val (.int (1 : Int32))] [(.int (0 : Int32)), (.ref b165), (.int (0 : Int32)), (.ref b165), (.ref b51)])) (fun X t q => XT.dup2 X.here C.hx rfl (hb C.hby d3_98) rfl rfl rfl q) ?_
  refine Wk.fLdI C F169 (i := 0) (by decide) (by decide) (by decide) (v := (.int (0 : Int32))) rfl d3_99 ?_
  show Wk _ p l e _ s m _ below meth c n0 _ h164 6 11 (mkF m 100 #[.val (.ref o0), .val (.int (3 : Int32)), .val (.ref b2), .val (.ref b34), .val (.ref b165), .val (.int (1 : Int32))] [(.int (0 : Int32)), (.int (0 : Int32)), (.ref b165), (.ref b51)])
  refine Wk.st (g' := (mkF m 101 #[.val (.ref o0), .val (.int (3 : Int32)), .val (.ref b2), .val (.ref b34), .val (.ref b165), .val (.int (1 : Int32))] [(.int (0 : Int32)), (.int (0 : Int32)), (.ref b165), (.int (0 : Int32)), (.ref b51)])) (fun X t q => dupX2 X.here C.hx rfl (hb C.hby d3_100) rfl rfl rfl rfl q) ?_
  refine Wk.st (g' := (mkF m 102 #[.val (.ref o0), .val (.int (3 : Int32)), .val (.ref b2), .val (.ref b34), .val (.ref b165), .val (.int (1 : Int32))] [(.int (1 : Int32)), (.int (0 : Int32)), (.int (0 : Int32)), (.ref b165), (.int (0 : Int32)), (.ref b51)])) (fun X t q => XS.iconst X.here C.hx rfl (hb C.hby d3_101) q) ?_
  refine Wk.st (g' := (mkF m 103 #[.val (.ref o0), .val (.int (3 : Int32)), .val (.ref b2), .val (.ref b34), .val (.ref b165), .val (.int (1 : Int32))] [(.int (1 : Int32)), (.int (0 : Int32)), (.ref b165), (.int (0 : Int32)), (.ref b51)])) (fun X t q => XS.iadd X.here C.hx rfl (hb C.hby d3_102) rfl q) ?_
  refine Wk.fStI C F169 (i := 0) (by decide) (by decide) (by decide) ge176 d3_103 ?_
  intro h193 W194 F195
  have F196 : Exa Z h193 o0 "[I" := F178.wr W194
  have F197 : Fa Z h193 o0 .int 3 (up (up (up (fun _ => (.int (0 : Int32))) 0 (.int (-1 : Int32))) 1 (.int (0 : Int32))) 2 (.int (0 : Int32))) := F179.other W194 ne170
  have F198 : Exa Z h193 b2 "[I" := F180.wr W194
  have F199 : Fa Z h193 b2 .int 3 (up (up (fun _ => (.int (0 : Int32))) 0 (.int (1 : Int32))) 0 (.int (2 : Int32))) := F181.other W194 ne171
  have F200 : Exa Z h193 b34 "[[I" := F182.wr W194
  have F201 : Exa Z h193 b51 "[I" := F183.wr W194
  have F202 : Fa Z h193 b51 .int 2 (fun _ => (.int (0 : Int32))) := F184.other W194 ne173
  have F203 : Exa Z h193 b84 "[I" := F185.wr W194
  have F204 : Fa Z h193 b84 .int 0 (fun _ => (.int (0 : Int32))) := F186.other W194 ne174
  have F205 : Exa Z h193 b122 "[I" := F187.wr W194
  have F206 : Fa Z h193 b122 .int 0 (fun _ => (.int (0 : Int32))) := F188.other W194 ne175
  have F207 : FaA Z h193 b34 .int "[I" 3 (up (up (up (fun _ => .null) 0 (.ref b51)) 1 (.ref b84)) 2 (.ref b122)) := F189.other W194 ne172
  have F208 : Exa Z h193 b165 "[I" := A168.wr W194
  have sz209 : n0 ≤ h193.size := Nat.le_trans sz190 (Nat.le_of_eq W194.size.symm)
  have sy210 : h0.size ≤ h193.size := Nat.le_trans sy191 (Nat.le_of_eq W194.size.symm)
  have K211 := K192.wr W194 (Or.inr gz177)
  show Wk _ p l e _ s m _ below meth c n0 _ h193 6 11 (mkF m 104 #[.val (.ref o0), .val (.int (3 : Int32)), .val (.ref b2), .val (.ref b34), .val (.ref b165), .val (.int (1 : Int32))] [(.int (0 : Int32)), (.ref b51)])
  refine Wk.st (g' := (mkF m 106 #[.val (.ref o0), .val (.int (3 : Int32)), .val (.ref b2), .val (.ref b34), .val (.ref b165), .val (.int (1 : Int32))] [(.int (1 : Int32)), (.int (0 : Int32)), (.ref b51)])) (fun X t q => XS.iload X.here C.hx rfl (hb C.hby d3_104) rfl q) ?_
  refine Wk.fStI C F202 (i := 0) (by decide) (by decide) (by decide) ge59 d3_106 ?_
  intro h212 W213 F214
  have F215 : Exa Z h212 o0 "[I" := F196.wr W213
  have F216 : Fa Z h212 o0 .int 3 (up (up (up (fun _ => (.int (0 : Int32))) 0 (.int (-1 : Int32))) 1 (.int (0 : Int32))) 2 (.int (0 : Int32))) := F197.other W213 ne56
  have F217 : Exa Z h212 b2 "[I" := F198.wr W213
  have F218 : Fa Z h212 b2 .int 3 (up (up (fun _ => (.int (0 : Int32))) 0 (.int (1 : Int32))) 0 (.int (2 : Int32))) := F199.other W213 ne57
  have F219 : Exa Z h212 b34 "[[I" := F200.wr W213
  have F220 : Exa Z h212 b51 "[I" := F201.wr W213
  have F221 : Exa Z h212 b84 "[I" := F203.wr W213
  have F222 : Fa Z h212 b84 .int 0 (fun _ => (.int (0 : Int32))) := F204.other W213 (Ne.symm ne92)
  have F223 : Exa Z h212 b122 "[I" := F205.wr W213
  have F224 : Fa Z h212 b122 .int 0 (fun _ => (.int (0 : Int32))) := F206.other W213 (Ne.symm ne130)
  have F225 : FaA Z h212 b34 .int "[I" 3 (up (up (up (fun _ => .null) 0 (.ref b51)) 1 (.ref b84)) 2 (.ref b122)) := F207.other W213 ne58
  have F226 : Exa Z h212 b165 "[I" := F208.wr W213
  have F227 : Fa Z h212 b165 .int 3 (up (fun _ => (.int (0 : Int32))) 0 (.int (1 : Int32))) := F195.other W213 (Ne.symm ne173)
  have sz228 : n0 ≤ h212.size := Nat.le_trans sz209 (Nat.le_of_eq W213.size.symm)
  have sy229 : h0.size ≤ h212.size := Nat.le_trans sy210 (Nat.le_of_eq W213.size.symm)
  have K230 := K211.wr W213 (Or.inr gz60)
  show Wk _ p l e _ s m _ below meth c n0 _ h212 6 11 (mkF m 107 #[.val (.ref o0), .val (.int (3 : Int32)), .val (.ref b2), .val (.ref b34), .val (.ref b165), .val (.int (1 : Int32))] [])
  refine Wk.st (g' := (mkF m 110 #[.val (.ref o0), .val (.int (3 : Int32)), .val (.ref b2), .val (.ref b34), .val (.ref b165), .val (.int (2 : Int32))] [])) (fun X t q => XS.iinc X.here C.hx rfl (hb C.hby d3_107) rfl (l' := #[.val (.ref o0), .val (.int (3 : Int32)), .val (.ref b2), .val (.ref b34), .val (.ref b165), .val (.int (2 : Int32))]) rfl q) ?_
  refine Wk.st (g' := (mkF m 73 #[.val (.ref o0), .val (.int (3 : Int32)), .val (.ref b2), .val (.ref b34), .val (.ref b165), .val (.int (2 : Int32))] [])) (fun X t q => XS.goto X.here C.hx rfl (pc0 := 110) (pc' := 73) rfl (hb C.hby d3_110) (by decide) (by decide) q) ?_
  refine Wk.st (g' := (mkF m 75 #[.val (.ref o0), .val (.int (3 : Int32)), .val (.ref b2), .val (.ref b34), .val (.ref b165), .val (.int (2 : Int32))] [(.int (2 : Int32))])) (fun X t q => XS.iload X.here C.hx rfl (hb C.hby d3_73) rfl q) ?_
  refine Wk.st (g' := (mkF m 76 #[.val (.ref o0), .val (.int (3 : Int32)), .val (.ref b2), .val (.ref b34), .val (.ref b165), .val (.int (2 : Int32))] [(.int (3 : Int32)), (.int (2 : Int32))])) (fun X t q => XS.iloadN X.here C.hx rfl (hb C.hby d3_75) rfl q) ?_
  refine Wk.st (g' := (mkF m 79 #[.val (.ref o0), .val (.int (3 : Int32)), .val (.ref b2), .val (.ref b34), .val (.ref b165), .val (.int (2 : Int32))] [])) (fun X t q => XS.icmpNo X.here C.hx rfl (hb C.hby d3_76) rfl (XT.ii_ge_f (by decide)) q) ?_
  refine Wk.st (g' := (mkF m 80 #[.val (.ref o0), .val (.int (3 : Int32)), .val (.ref b2), .val (.ref b34), .val (.ref b165), .val (.int (2 : Int32))] [(.ref o0)])) (fun X t q => XS.aloadN X.here C.hx rfl (hb C.hby d3_79) rfl rfl q) ?_
  refine Wk.st (g' := (mkF m 82 #[.val (.ref o0), .val (.int (3 : Int32)), .val (.ref b2), .val (.ref b34), .val (.ref b165), .val (.int (2 : Int32))] [(.int (2 : Int32)), (.ref o0)])) (fun X t q => XS.iload X.here C.hx rfl (hb C.hby d3_80) rfl q) ?_
  refine Wk.fLdI C F216 (i := 2) (by decide) (by decide) (by decide) (v := (.int (0 : Int32))) (by simp [up]) d3_82 ?_
  show Wk _ p l e _ s m _ below meth c n0 _ h212 6 11 (mkF m 83 #[.val (.ref o0), .val (.int (3 : Int32)), .val (.ref b2), .val (.ref b34), .val (.ref b165), .val (.int (2 : Int32))] [(.int (0 : Int32))])
  refine Wk.st (g' := (mkF m 86 #[.val (.ref o0), .val (.int (3 : Int32)), .val (.ref b2), .val (.ref b34), .val (.ref b165), .val (.int (2 : Int32))] [])) (fun X t q => XS.ifNo X.here C.hx rfl (hb C.hby d3_83) rfl (XT.i0_lt_f (by decide)) q) ?_
  refine Wk.st (g' := (mkF m 87 #[.val (.ref o0), .val (.int (3 : Int32)), .val (.ref b2), .val (.ref b34), .val (.ref b165), .val (.int (2 : Int32))] [(.ref b34)])) (fun X t q => XS.aloadN X.here C.hx rfl (hb C.hby d3_86) rfl rfl q) ?_
  refine Wk.st (g' := (mkF m 88 #[.val (.ref o0), .val (.int (3 : Int32)), .val (.ref b2), .val (.ref b34), .val (.ref b165), .val (.int (2 : Int32))] [(.ref o0), (.ref b34)])) (fun X t q => XS.aloadN X.here C.hx rfl (hb C.hby d3_87) rfl rfl q) ?_
  refine Wk.st (g' := (mkF m 90 #[.val (.ref o0), .val (.int (3 : Int32)), .val (.ref b2), .val (.ref b34), .val (.ref b165), .val (.int (2 : Int32))] [(.int (2 : Int32)), (.ref o0), (.ref b34)])) (fun X t q => XS.iload X.here C.hx rfl (hb C.hby d3_88) rfl q) ?_
  refine Wk.fLdI C F216 (i := 2) (by decide) (by decide) (by decide) (v := (.int (0 : Int32))) (by simp [up]) d3_90 ?_
  show Wk _ p l e _ s m _ below meth c n0 _ h212 6 11 (mkF m 91 #[.val (.ref o0), .val (.int (3 : Int32)), .val (.ref b2), .val (.ref b34), .val (.ref b165), .val (.int (2 : Int32))] [(.int (0 : Int32)), (.ref b34)])
  refine Wk.fLdA C F225 (i := 0) (by decide) (by decide) (by decide) (v := (.ref b51)) (by simp [up]) d3_91 ?_
  show Wk _ p l e _ s m _ below meth c n0 _ h212 6 11 (mkF m 92 #[.val (.ref o0), .val (.int (3 : Int32)), .val (.ref b2), .val (.ref b34), .val (.ref b165), .val (.int (2 : Int32))] [(.ref b51)])
  refine Wk.st (g' := (mkF m 94 #[.val (.ref o0), .val (.int (3 : Int32)), .val (.ref b2), .val (.ref b34), .val (.ref b165), .val (.int (2 : Int32))] [(.ref b165), (.ref b51)])) (fun X t q => XS.aload X.here C.hx rfl (hb C.hby d3_92) rfl rfl q) ?_
  refine Wk.st (g' := (mkF m 95 #[.val (.ref o0), .val (.int (3 : Int32)), .val (.ref b2), .val (.ref b34), .val (.ref b165), .val (.int (2 : Int32))] [(.ref o0), (.ref b165), (.ref b51)])) (fun X t q => XS.aloadN X.here C.hx rfl (hb C.hby d3_94) rfl rfl q) ?_
  refine Wk.st (g' := (mkF m 97 #[.val (.ref o0), .val (.int (3 : Int32)), .val (.ref b2), .val (.ref b34), .val (.ref b165), .val (.int (2 : Int32))] [(.int (2 : Int32)), (.ref o0), (.ref b165), (.ref b51)])) (fun X t q => XS.iload X.here C.hx rfl (hb C.hby d3_95) rfl q) ?_
  refine Wk.fLdI C F216 (i := 2) (by decide) (by decide) (by decide) (v := (.int (0 : Int32))) (by simp [up]) d3_97 ?_
  show Wk _ p l e _ s m _ below meth c n0 _ h212 6 11 (mkF m 98 #[.val (.ref o0), .val (.int (3 : Int32)), .val (.ref b2), .val (.ref b34), .val (.ref b165), .val (.int (2 : Int32))] [(.int (0 : Int32)), (.ref b165), (.ref b51)])
  refine Wk.st (g' := (mkF m 99 #[.val (.ref o0), .val (.int (3 : Int32)), .val (.ref b2), .val (.ref b34), .val (.ref b165), .val (.int (2 : Int32))] [(.int (0 : Int32)), (.ref b165), (.int (0 : Int32)), (.ref b165), (.ref b51)])) (fun X t q => XT.dup2 X.here C.hx rfl (hb C.hby d3_98) rfl rfl rfl q) ?_
  refine Wk.fLdI C F227 (i := 0) (by decide) (by decide) (by decide) (v := (.int (1 : Int32))) (by simp [up]) d3_99 ?_
  show Wk _ p l e _ s m _ below meth c n0 _ h212 6 11 (mkF m 100 #[.val (.ref o0), .val (.int (3 : Int32)), .val (.ref b2), .val (.ref b34), .val (.ref b165), .val (.int (2 : Int32))] [(.int (1 : Int32)), (.int (0 : Int32)), (.ref b165), (.ref b51)])
  refine Wk.st (g' := (mkF m 101 #[.val (.ref o0), .val (.int (3 : Int32)), .val (.ref b2), .val (.ref b34), .val (.ref b165), .val (.int (2 : Int32))] [(.int (1 : Int32)), (.int (0 : Int32)), (.ref b165), (.int (1 : Int32)), (.ref b51)])) (fun X t q => dupX2 X.here C.hx rfl (hb C.hby d3_100) rfl rfl rfl rfl q) ?_
  refine Wk.st (g' := (mkF m 102 #[.val (.ref o0), .val (.int (3 : Int32)), .val (.ref b2), .val (.ref b34), .val (.ref b165), .val (.int (2 : Int32))] [(.int (1 : Int32)), (.int (1 : Int32)), (.int (0 : Int32)), (.ref b165), (.int (1 : Int32)), (.ref b51)])) (fun X t q => XS.iconst X.here C.hx rfl (hb C.hby d3_101) q) ?_
  refine Wk.st (g' := (mkF m 103 #[.val (.ref o0), .val (.int (3 : Int32)), .val (.ref b2), .val (.ref b34), .val (.ref b165), .val (.int (2 : Int32))] [(.int (2 : Int32)), (.int (0 : Int32)), (.ref b165), (.int (1 : Int32)), (.ref b51)])) (fun X t q => XS.iadd X.here C.hx rfl (hb C.hby d3_102) rfl q) ?_
  refine Wk.fStI C F227 (i := 0) (by decide) (by decide) (by decide) ge176 d3_103 ?_
  intro h231 W232 F233
  have F234 : Exa Z h231 o0 "[I" := F215.wr W232
  have F235 : Fa Z h231 o0 .int 3 (up (up (up (fun _ => (.int (0 : Int32))) 0 (.int (-1 : Int32))) 1 (.int (0 : Int32))) 2 (.int (0 : Int32))) := F216.other W232 ne170
  have F236 : Exa Z h231 b2 "[I" := F217.wr W232
  have F237 : Fa Z h231 b2 .int 3 (up (up (fun _ => (.int (0 : Int32))) 0 (.int (1 : Int32))) 0 (.int (2 : Int32))) := F218.other W232 ne171
  have F238 : Exa Z h231 b34 "[[I" := F219.wr W232
  have F239 : Exa Z h231 b51 "[I" := F220.wr W232
  have F240 : Exa Z h231 b84 "[I" := F221.wr W232
  have F241 : Fa Z h231 b84 .int 0 (fun _ => (.int (0 : Int32))) := F222.other W232 ne174
  have F242 : Exa Z h231 b122 "[I" := F223.wr W232
  have F243 : Fa Z h231 b122 .int 0 (fun _ => (.int (0 : Int32))) := F224.other W232 ne175
  have F244 : FaA Z h231 b34 .int "[I" 3 (up (up (up (fun _ => .null) 0 (.ref b51)) 1 (.ref b84)) 2 (.ref b122)) := F225.other W232 ne172
  have F245 : Exa Z h231 b165 "[I" := F226.wr W232
  have F246 : Fa Z h231 b51 .int 2 (up (fun _ => (.int (0 : Int32))) 0 (.int (1 : Int32))) := F214.other W232 ne173
  have sz247 : n0 ≤ h231.size := Nat.le_trans sz228 (Nat.le_of_eq W232.size.symm)
  have sy248 : h0.size ≤ h231.size := Nat.le_trans sy229 (Nat.le_of_eq W232.size.symm)
  have K249 := K230.wr W232 (Or.inr gz177)
  show Wk _ p l e _ s m _ below meth c n0 _ h231 6 11 (mkF m 104 #[.val (.ref o0), .val (.int (3 : Int32)), .val (.ref b2), .val (.ref b34), .val (.ref b165), .val (.int (2 : Int32))] [(.int (1 : Int32)), (.ref b51)])
  refine Wk.st (g' := (mkF m 106 #[.val (.ref o0), .val (.int (3 : Int32)), .val (.ref b2), .val (.ref b34), .val (.ref b165), .val (.int (2 : Int32))] [(.int (2 : Int32)), (.int (1 : Int32)), (.ref b51)])) (fun X t q => XS.iload X.here C.hx rfl (hb C.hby d3_104) rfl q) ?_
  refine Wk.fStI C F246 (i := 1) (by decide) (by decide) (by decide) ge59 d3_106 ?_
  intro h250 W251 F252
  have F253 : Exa Z h250 o0 "[I" := F234.wr W251
  have F254 : Fa Z h250 o0 .int 3 (up (up (up (fun _ => (.int (0 : Int32))) 0 (.int (-1 : Int32))) 1 (.int (0 : Int32))) 2 (.int (0 : Int32))) := F235.other W251 ne56
  have F255 : Exa Z h250 b2 "[I" := F236.wr W251
  have F256 : Fa Z h250 b2 .int 3 (up (up (fun _ => (.int (0 : Int32))) 0 (.int (1 : Int32))) 0 (.int (2 : Int32))) := F237.other W251 ne57
  have F257 : Exa Z h250 b34 "[[I" := F238.wr W251
  have F258 : Exa Z h250 b51 "[I" := F239.wr W251
  have F259 : Exa Z h250 b84 "[I" := F240.wr W251
  have F260 : Fa Z h250 b84 .int 0 (fun _ => (.int (0 : Int32))) := F241.other W251 (Ne.symm ne92)
  have F261 : Exa Z h250 b122 "[I" := F242.wr W251
  have F262 : Fa Z h250 b122 .int 0 (fun _ => (.int (0 : Int32))) := F243.other W251 (Ne.symm ne130)
  have F263 : FaA Z h250 b34 .int "[I" 3 (up (up (up (fun _ => .null) 0 (.ref b51)) 1 (.ref b84)) 2 (.ref b122)) := F244.other W251 ne58
  have F264 : Exa Z h250 b165 "[I" := F245.wr W251
  have F265 : Fa Z h250 b165 .int 3 (up (up (fun _ => (.int (0 : Int32))) 0 (.int (1 : Int32))) 0 (.int (2 : Int32))) := F233.other W251 (Ne.symm ne173)
  have sz266 : n0 ≤ h250.size := Nat.le_trans sz247 (Nat.le_of_eq W251.size.symm)
  have sy267 : h0.size ≤ h250.size := Nat.le_trans sy248 (Nat.le_of_eq W251.size.symm)
  have K268 := K249.wr W251 (Or.inr gz60)
  show Wk _ p l e _ s m _ below meth c n0 _ h250 6 11 (mkF m 107 #[.val (.ref o0), .val (.int (3 : Int32)), .val (.ref b2), .val (.ref b34), .val (.ref b165), .val (.int (2 : Int32))] [])
  refine Wk.st (g' := (mkF m 110 #[.val (.ref o0), .val (.int (3 : Int32)), .val (.ref b2), .val (.ref b34), .val (.ref b165), .val (.int (3 : Int32))] [])) (fun X t q => XS.iinc X.here C.hx rfl (hb C.hby d3_107) rfl (l' := #[.val (.ref o0), .val (.int (3 : Int32)), .val (.ref b2), .val (.ref b34), .val (.ref b165), .val (.int (3 : Int32))]) rfl q) ?_
  refine Wk.st (g' := (mkF m 73 #[.val (.ref o0), .val (.int (3 : Int32)), .val (.ref b2), .val (.ref b34), .val (.ref b165), .val (.int (3 : Int32))] [])) (fun X t q => XS.goto X.here C.hx rfl (pc0 := 110) (pc' := 73) rfl (hb C.hby d3_110) (by decide) (by decide) q) ?_
  refine Wk.st (g' := (mkF m 75 #[.val (.ref o0), .val (.int (3 : Int32)), .val (.ref b2), .val (.ref b34), .val (.ref b165), .val (.int (3 : Int32))] [(.int (3 : Int32))])) (fun X t q => XS.iload X.here C.hx rfl (hb C.hby d3_73) rfl q) ?_
  refine Wk.st (g' := (mkF m 76 #[.val (.ref o0), .val (.int (3 : Int32)), .val (.ref b2), .val (.ref b34), .val (.ref b165), .val (.int (3 : Int32))] [(.int (3 : Int32)), (.int (3 : Int32))])) (fun X t q => XS.iloadN X.here C.hx rfl (hb C.hby d3_75) rfl q) ?_
  refine Wk.st (g' := (mkF m 113 #[.val (.ref o0), .val (.int (3 : Int32)), .val (.ref b2), .val (.ref b34), .val (.ref b165), .val (.int (3 : Int32))] [])) (fun X t q => XS.icmpYes X.here C.hx rfl (pc0 := 76) (pc' := 113) rfl (hb C.hby d3_76) rfl (XT.ii_ge_t (by decide)) (by decide) (by decide) q) ?_
  refine Wk.st (g' := (mkF m 114 #[.val (.ref o0), .val (.int (3 : Int32)), .val (.ref b2), .val (.ref b34), .val (.ref b165), .val (.int (3 : Int32))] [(.ref b34)])) (fun X t q => XS.aloadN X.here C.hx rfl (hb C.hby d3_113) rfl rfl q) ?_
  exact Wk.retV C (t := (.array (.array .int))) rfl rfl (Or.inr (Or.inr (Or.inr (Or.inr ⟨rfl, rfl, rfl⟩)))) d3_114 (by decide) (by decide) ⟨b34, b51, b84, b122, rfl, K268, gz42, gz60, gz94, gz133, ne58, ne91, ne129, ne92, ne130, ne131, F257, F258, F259, F260, F261, F262, F263, F252⟩
theorem d1_0 : decode prog_21_method_1_code 0 = .ok (.aload_n 0, 1) := by decide +kernel
theorem d1_1 : decode prog_21_method_1_code 1 = .ok (.invokespecial 1, 3) := by decide +kernel
theorem d1_4 : decode prog_21_method_1_code 4 = .ok (.aload_n 0, 1) := by decide +kernel
theorem d1_5 : decode prog_21_method_1_code 5 = .ok (.aload_n 1, 1) := by decide +kernel
theorem d1_6 : decode prog_21_method_1_code 6 = .ok (.putfield 7, 3) := by decide +kernel
theorem d1_9 : decode prog_21_method_1_code 9 = .ok (.aload_n 0, 1) := by decide +kernel
theorem d1_10 : decode prog_21_method_1_code 10 = .ok (.aload_n 2, 1) := by decide +kernel
theorem d1_11 : decode prog_21_method_1_code 11 = .ok (.putfield 13, 3) := by decide +kernel
theorem d1_14 : decode prog_21_method_1_code 14 = .ok (.aload_n 0, 1) := by decide +kernel
theorem d1_15 : decode prog_21_method_1_code 15 = .ok (.aload_n 3, 1) := by decide +kernel
theorem d1_16 : decode prog_21_method_1_code 16 = .ok (.putfield 16, 3) := by decide +kernel
theorem d1_19 : decode prog_21_method_1_code 19 = .ok (.aload_n 0, 1) := by decide +kernel
theorem d1_20 : decode prog_21_method_1_code 20 = .ok (.aload_n 1, 1) := by decide +kernel
theorem d1_21 : decode prog_21_method_1_code 21 = .ok (.invokestatic 19, 3) := by decide +kernel
theorem d1_24 : decode prog_21_method_1_code 24 = .ok (.putfield 23, 3) := by decide +kernel
theorem d1_27 : decode prog_21_method_1_code 27 = .ok (.aload_n 1, 1) := by decide +kernel
theorem d1_28 : decode prog_21_method_1_code 28 = .ok (.arraylength, 1) := by decide +kernel
theorem d1_29 : decode prog_21_method_1_code 29 = .ok (.istore 4, 2) := by decide +kernel
theorem d1_31 : decode prog_21_method_1_code 31 = .ok (.iconst 0, 1) := by decide +kernel
theorem d1_32 : decode prog_21_method_1_code 32 = .ok (.istore 5, 2) := by decide +kernel
theorem d1_34 : decode prog_21_method_1_code 34 = .ok (.iconst 0, 1) := by decide +kernel
theorem d1_35 : decode prog_21_method_1_code 35 = .ok (.istore 6, 2) := by decide +kernel
theorem d1_37 : decode prog_21_method_1_code 37 = .ok (.iload 6, 2) := by decide +kernel
theorem d1_39 : decode prog_21_method_1_code 39 = .ok (.iload 4, 2) := by decide +kernel
theorem d1_41 : decode prog_21_method_1_code 41 = .ok (.if_icmp .ge 19, 3) := by decide +kernel
theorem d1_44 : decode prog_21_method_1_code 44 = .ok (.aload_n 3, 1) := by decide +kernel
theorem d1_45 : decode prog_21_method_1_code 45 = .ok (.iload 6, 2) := by decide +kernel
theorem d1_47 : decode prog_21_method_1_code 47 = .ok (.iaload, 1) := by decide +kernel
theorem d1_48 : decode prog_21_method_1_code 48 = .ok (.ifCond .lt 6, 3) := by decide +kernel
theorem d1_51 : decode prog_21_method_1_code 51 = .ok (.iinc 5 1, 3) := by decide +kernel
theorem d1_54 : decode prog_21_method_1_code 54 = .ok (.iinc 6 1, 3) := by decide +kernel
theorem d1_57 : decode prog_21_method_1_code 57 = .ok (.goto (-20), 3) := by decide +kernel
theorem d1_60 : decode prog_21_method_1_code 60 = .ok (.aload_n 0, 1) := by decide +kernel
theorem d1_61 : decode prog_21_method_1_code 61 = .ok (.iload 5, 2) := by decide +kernel
theorem d1_63 : decode prog_21_method_1_code 63 = .ok (.newarray .int, 2) := by decide +kernel
theorem d1_65 : decode prog_21_method_1_code 65 = .ok (.putfield 27, 3) := by decide +kernel
theorem d1_68 : decode prog_21_method_1_code 68 = .ok (.iconst 0, 1) := by decide +kernel
theorem d1_69 : decode prog_21_method_1_code 69 = .ok (.istore 6, 2) := by decide +kernel
theorem d1_71 : decode prog_21_method_1_code 71 = .ok (.iload 6, 2) := by decide +kernel
theorem d1_73 : decode prog_21_method_1_code 73 = .ok (.iload 4, 2) := by decide +kernel
theorem d1_75 : decode prog_21_method_1_code 75 = .ok (.if_icmp .ge 27, 3) := by decide +kernel
theorem d1_78 : decode prog_21_method_1_code 78 = .ok (.aload_n 3, 1) := by decide +kernel
theorem d1_79 : decode prog_21_method_1_code 79 = .ok (.iload 6, 2) := by decide +kernel
theorem d1_81 : decode prog_21_method_1_code 81 = .ok (.iaload, 1) := by decide +kernel
theorem d1_82 : decode prog_21_method_1_code 82 = .ok (.ifCond .lt 14, 3) := by decide +kernel
theorem d1_85 : decode prog_21_method_1_code 85 = .ok (.aload_n 0, 1) := by decide +kernel
theorem d1_86 : decode prog_21_method_1_code 86 = .ok (.getfield 27, 3) := by decide +kernel
theorem d1_89 : decode prog_21_method_1_code 89 = .ok (.aload_n 3, 1) := by decide +kernel
theorem d1_90 : decode prog_21_method_1_code 90 = .ok (.iload 6, 2) := by decide +kernel
theorem d1_92 : decode prog_21_method_1_code 92 = .ok (.iaload, 1) := by decide +kernel
theorem d1_93 : decode prog_21_method_1_code 93 = .ok (.iload 6, 2) := by decide +kernel
theorem d1_95 : decode prog_21_method_1_code 95 = .ok (.iastore, 1) := by decide +kernel
theorem d1_96 : decode prog_21_method_1_code 96 = .ok (.iinc 6 1, 3) := by decide +kernel
theorem d1_99 : decode prog_21_method_1_code 99 = .ok (.goto (-28), 3) := by decide +kernel
theorem d1_102 : decode prog_21_method_1_code 102 = .ok (.return_, 1) := by decide +kernel
set_option maxRecDepth 65536 in
set_option maxHeartbeats 40000000 in
theorem own_1_0 (l : Launch) (Z : State) (a0 : Array Value) (hw : ∀ d ∈ tables_1, d.before a0 Z = true) (n0 : Nat) (h0 : Heap) (hsz : n0 ≤ h0.size) (o0 : Addr) (o1 : Addr) (o2 : Addr) (o3 : Addr) (x0 : Int32) (x1 : Int32) (x2 : Int32) (P0 : Exa Z h0 o1 "[I") (P1 : Fa Z h0 o1 .int 3 (up (up (up (fun _ => (.int (0 : Int32))) 0 (.int (-1 : Int32))) 1 (.int (0 : Int32))) 2 (.int (0 : Int32)))) (P2 : Exa Z h0 o2 "[I") (P3 : Fa Z h0 o2 .int 3 (up (up (up (fun _ => (.int (0 : Int32))) 0 (.int x0)) 1 (.int x1)) 2 (.int x2))) (P4 : Exa Z h0 o3 "[I") (P5 : Fa Z h0 o3 .int 3 (up (up (up (fun _ => (.int (0 : Int32))) 0 (.int (-1 : Int32))) 1 (.int (-1 : Int32))) 2 (.int (-1 : Int32)))) (P6 : Exa Z h0 o0 "com/example/understory/understory/RootedTree") (P7 : Fld Z h0 o0 "com/example/understory/understory/RootedTree" "parent" "[I" .null) (P8 : Fld Z h0 o0 "com/example/understory/understory/RootedTree" "states" "[I" .null) (P9 : Fld Z h0 o0 "com/example/understory/understory/RootedTree" "column" "[I" .null) (P10 : Fld Z h0 o0 "com/example/understory/understory/RootedTree" "children" "[[I" .null) (P11 : Fld Z h0 o0 "com/example/understory/understory/RootedTree" "nodeOfColumn" "[I" .null) (N_o0_o1 : o0 ≠ o1) (N_o0_o2 : o0 ≠ o2) (N_o0_o3 : o0 ≠ o3) (N_o1_o2 : o1 ≠ o2) (N_o1_o3 : o1 ≠ o3) (N_o2_o3 : o2 ≠ o3) (G_o0 : n0 ≤ o0) (G_o1 : n0 ≤ o1) (G_o2 : n0 ≤ o2) (G_o3 : n0 ≤ o3) :
    Met false l Z n0 (⟨"com/example/understory/understory/RootedTree", "<init>", "([I[I[I)V"⟩ : MethodName) prog_21_method_1_code 7 none ({ frames := 1, cells := 7, slots := 11, locals := 18 } : Room) #[(.ref o0), (.ref o1), (.ref o2), (.ref o3)] h0 (fun v h => ∃ n52_b34 : Addr, ∃ b138 : Addr, ∃ n52_b51 : Addr, ∃ n52_b84 : Addr, ∃ n52_b122 : Addr, v = none ∧ Keep h0 h [o0] ∧ h0.size ≤ n52_b34 ∧ h0.size ≤ b138 ∧ h0.size ≤ n52_b51 ∧ h0.size ≤ n52_b84 ∧ h0.size ≤ n52_b122 ∧ n52_b34 ≠ b138 ∧ n52_b34 ≠ n52_b51 ∧ n52_b34 ≠ n52_b84 ∧ n52_b34 ≠ n52_b122 ∧ b138 ≠ n52_b51 ∧ b138 ≠ n52_b84 ∧ b138 ≠ n52_b122 ∧ n52_b51 ≠ n52_b84 ∧ n52_b51 ≠ n52_b122 ∧ n52_b84 ≠ n52_b122 ∧ Fld Z h o0 "com/example/understory/understory/RootedTree" "parent" "[I" (.ref o1) ∧ Fld Z h o0 "com/example/understory/understory/RootedTree" "states" "[I" (.ref o2) ∧ Fld Z h o0 "com/example/understory/understory/RootedTree" "column" "[I" (.ref o3) ∧ Exa Z h n52_b34 "[[I" ∧ Exa Z h n52_b51 "[I" ∧ Exa Z h n52_b84 "[I" ∧ Fa Z h n52_b84 .int 0 (fun _ => (.int (0 : Int32))) ∧ Exa Z h n52_b122 "[I" ∧ Fa Z h n52_b122 .int 0 (fun _ => (.int (0 : Int32))) ∧ FaA Z h n52_b34 .int "[I" 3 (up (up (up (fun _ => .null) 0 (.ref n52_b51)) 1 (.ref n52_b84)) 2 (.ref n52_b122)) ∧ Fa Z h n52_b51 .int 2 (up (up (fun _ => (.int (0 : Int32))) 0 (.int (1 : Int32))) 1 (.int (2 : Int32))) ∧ Fld Z h o0 "com/example/understory/understory/RootedTree" "children" "[[I" (.ref n52_b34) ∧ Exa Z h b138 "[I" ∧ Fa Z h b138 .int 0 (fun _ => (.int (0 : Int32))) ∧ Fld Z h o0 "com/example/understory/understory/RootedTree" "nodeOfColumn" "[I" (.ref b138)) := by
  refine Met.of pn_0 #[.val (.ref o0), .val (.ref o1), .val (.ref o2), .val (.ref o3), .unset, .unset, .unset] (fun m => by first | (simp [entryFrame, mkF, argsToLocals, Value.category]; done) | rfl) ?_
  intro p e s m below meth c C
  refine Wk.st (g' := (mkF m 1 #[.val (.ref o0), .val (.ref o1), .val (.ref o2), .val (.ref o3), .unset, .unset, .unset] [(.ref o0)])) (fun X t q => XS.aloadN X.here C.hx rfl (hb C.hby d1_0) rfl rfl q) ?_
  refine Wk.initO C (hw _ (List.mem_of_getElem? (i := 7) rfl)) (hw _ (List.mem_of_getElem? (i := 8) rfl)) (hw _ (List.mem_of_getElem? (i := 9) rfl)) (w := 0) rfl d1_1 (by decide) (Nat.le_of_eq rfl) (by decide) ?_
  show Wk _ p l e _ s m _ below meth c n0 _ h0 0 0 (mkF m 4 #[.val (.ref o0), .val (.ref o1), .val (.ref o2), .val (.ref o3), .unset, .unset, .unset] [])
  refine Wk.st (g' := (mkF m 5 #[.val (.ref o0), .val (.ref o1), .val (.ref o2), .val (.ref o3), .unset, .unset, .unset] [(.ref o0)])) (fun X t q => XS.aloadN X.here C.hx rfl (hb C.hby d1_4) rfl rfl q) ?_
  refine Wk.st (g' := (mkF m 6 #[.val (.ref o0), .val (.ref o1), .val (.ref o2), .val (.ref o3), .unset, .unset, .unset] [(.ref o1), (.ref o0)])) (fun X t q => XS.aloadN X.here C.hx rfl (hb C.hby d1_5) rfl rfl q) ?_
  refine Wk.putF C (hw _ (List.mem_of_getElem? (i := 10) rfl)) Via.refl P7 P6 (Or.inr ⟨(hw _ (List.mem_of_getElem? (i := 11) rfl)), rfl, rfl⟩) (hw _ (List.mem_of_getElem? (i := 2) rfl)) (ty := (.array .int)) (by decide) (v' := (.ref o1)) rfl rfl G_o0 d1_6 ?_
  intro h1 W2
  have F3 : Fld Z h1 o0 "com/example/understory/understory/RootedTree" "parent" "[I" (.ref o1) := P7.same W2
  have F4 : Exa Z h1 o1 "[I" := P0.wr W2
  have F5 : Fa Z h1 o1 .int 3 (up (up (up (fun _ => (.int (0 : Int32))) 0 (.int (-1 : Int32))) 1 (.int (0 : Int32))) 2 (.int (0 : Int32))) := P1.other W2 (Ne.symm N_o0_o1)
  have F6 : Exa Z h1 o2 "[I" := P2.wr W2
  have F7 : Fa Z h1 o2 .int 3 (up (up (up (fun _ => (.int (0 : Int32))) 0 (.int x0)) 1 (.int x1)) 2 (.int x2)) := P3.other W2 (Ne.symm N_o0_o2)
  have F8 : Exa Z h1 o3 "[I" := P4.wr W2
  have F9 : Fa Z h1 o3 .int 3 (up (up (up (fun _ => (.int (0 : Int32))) 0 (.int (-1 : Int32))) 1 (.int (-1 : Int32))) 2 (.int (-1 : Int32))) := P5.other W2 (Ne.symm N_o0_o3)
  have F10 : Exa Z h1 o0 "com/example/understory/understory/RootedTree" := P6.wr W2
  have F11 : Fld Z h1 o0 "com/example/understory/understory/RootedTree" "states" "[I" .null := P8.other W2 (Or.inr (slot_ne (Or.inr (hw _ (List.mem_of_getElem? (i := 13) rfl))) (Or.inr (hw _ (List.mem_of_getElem? (i := 11) rfl))) (by decide) (t := (.array .int)) (t' := (.array .int)) (by decide) (by decide)))
  have F12 : Fld Z h1 o0 "com/example/understory/understory/RootedTree" "column" "[I" .null := P9.other W2 (Or.inr (slot_ne (Or.inr (hw _ (List.mem_of_getElem? (i := 15) rfl))) (Or.inr (hw _ (List.mem_of_getElem? (i := 11) rfl))) (by decide) (t := (.array .int)) (t' := (.array .int)) (by decide) (by decide)))
  have F13 : Fld Z h1 o0 "com/example/understory/understory/RootedTree" "children" "[[I" .null := P10.other W2 (Or.inr (slot_ne (Or.inr (hw _ (List.mem_of_getElem? (i := 23) rfl))) (Or.inr (hw _ (List.mem_of_getElem? (i := 11) rfl))) (by decide) (t := (.array (.array .int))) (t' := (.array .int)) (by decide) (by decide)))
  have F14 : Fld Z h1 o0 "com/example/understory/understory/RootedTree" "nodeOfColumn" "[I" .null := P11.other W2 (Or.inr (slot_ne (Or.inr (hw _ (List.mem_of_getElem? (i := 25) rfl))) (Or.inr (hw _ (List.mem_of_getElem? (i := 11) rfl))) (by decide) (t := (.array .int)) (t' := (.array .int)) (by decide) (by decide)))
  have sz15 : n0 ≤ h1.size := Nat.le_trans hsz (Nat.le_of_eq W2.size.symm)
  have sy16 : h0.size ≤ h1.size := Nat.le_trans (Nat.le_refl h0.size) (Nat.le_of_eq W2.size.symm)
  have K17 := (Keep.refl h0 [o0]).wr W2 (Or.inl (by simp))
  show Wk _ p l e _ s m _ below meth c n0 _ h1 0 0 (mkF m 9 #[.val (.ref o0), .val (.ref o1), .val (.ref o2), .val (.ref o3), .unset, .unset, .unset] [])
  refine Wk.st (g' := (mkF m 10 #[.val (.ref o0), .val (.ref o1), .val (.ref o2), .val (.ref o3), .unset, .unset, .unset] [(.ref o0)])) (fun X t q => XS.aloadN X.here C.hx rfl (hb C.hby d1_9) rfl rfl q) ?_
  refine Wk.st (g' := (mkF m 11 #[.val (.ref o0), .val (.ref o1), .val (.ref o2), .val (.ref o3), .unset, .unset, .unset] [(.ref o2), (.ref o0)])) (fun X t q => XS.aloadN X.here C.hx rfl (hb C.hby d1_10) rfl rfl q) ?_
  refine Wk.putF C (hw _ (List.mem_of_getElem? (i := 12) rfl)) Via.refl F11 F10 (Or.inr ⟨(hw _ (List.mem_of_getElem? (i := 13) rfl)), rfl, rfl⟩) (hw _ (List.mem_of_getElem? (i := 2) rfl)) (ty := (.array .int)) (by decide) (v' := (.ref o2)) rfl rfl G_o0 d1_11 ?_
  intro h18 W19
  have F20 : Fld Z h18 o0 "com/example/understory/understory/RootedTree" "states" "[I" (.ref o2) := F11.same W19
  have F21 : Exa Z h18 o1 "[I" := F4.wr W19
  have F22 : Fa Z h18 o1 .int 3 (up (up (up (fun _ => (.int (0 : Int32))) 0 (.int (-1 : Int32))) 1 (.int (0 : Int32))) 2 (.int (0 : Int32))) := F5.other W19 (Ne.symm N_o0_o1)
  have F23 : Exa Z h18 o2 "[I" := F6.wr W19
  have F24 : Fa Z h18 o2 .int 3 (up (up (up (fun _ => (.int (0 : Int32))) 0 (.int x0)) 1 (.int x1)) 2 (.int x2)) := F7.other W19 (Ne.symm N_o0_o2)
  have F25 : Exa Z h18 o3 "[I" := F8.wr W19
  have F26 : Fa Z h18 o3 .int 3 (up (up (up (fun _ => (.int (0 : Int32))) 0 (.int (-1 : Int32))) 1 (.int (-1 : Int32))) 2 (.int (-1 : Int32))) := F9.other W19 (Ne.symm N_o0_o3)
  have F27 : Exa Z h18 o0 "com/example/understory/understory/RootedTree" := F10.wr W19
  have F28 : Fld Z h18 o0 "com/example/understory/understory/RootedTree" "column" "[I" .null := F12.other W19 (Or.inr (slot_ne (Or.inr (hw _ (List.mem_of_getElem? (i := 15) rfl))) (Or.inr (hw _ (List.mem_of_getElem? (i := 13) rfl))) (by decide) (t := (.array .int)) (t' := (.array .int)) (by decide) (by decide)))
  have F29 : Fld Z h18 o0 "com/example/understory/understory/RootedTree" "children" "[[I" .null := F13.other W19 (Or.inr (slot_ne (Or.inr (hw _ (List.mem_of_getElem? (i := 23) rfl))) (Or.inr (hw _ (List.mem_of_getElem? (i := 13) rfl))) (by decide) (t := (.array (.array .int))) (t' := (.array .int)) (by decide) (by decide)))
  have F30 : Fld Z h18 o0 "com/example/understory/understory/RootedTree" "nodeOfColumn" "[I" .null := F14.other W19 (Or.inr (slot_ne (Or.inr (hw _ (List.mem_of_getElem? (i := 25) rfl))) (Or.inr (hw _ (List.mem_of_getElem? (i := 13) rfl))) (by decide) (t := (.array .int)) (t' := (.array .int)) (by decide) (by decide)))
  have F31 : Fld Z h18 o0 "com/example/understory/understory/RootedTree" "parent" "[I" (.ref o1) := F3.other W19 (Or.inr (slot_ne (Or.inr (hw _ (List.mem_of_getElem? (i := 11) rfl))) (Or.inr (hw _ (List.mem_of_getElem? (i := 13) rfl))) (by decide) (t := (.array .int)) (t' := (.array .int)) (by decide) (by decide)))
  have sz32 : n0 ≤ h18.size := Nat.le_trans sz15 (Nat.le_of_eq W19.size.symm)
  have sy33 : h0.size ≤ h18.size := Nat.le_trans sy16 (Nat.le_of_eq W19.size.symm)
  have K34 := K17.wr W19 (Or.inl (by simp))
  show Wk _ p l e _ s m _ below meth c n0 _ h18 0 0 (mkF m 14 #[.val (.ref o0), .val (.ref o1), .val (.ref o2), .val (.ref o3), .unset, .unset, .unset] [])
  refine Wk.st (g' := (mkF m 15 #[.val (.ref o0), .val (.ref o1), .val (.ref o2), .val (.ref o3), .unset, .unset, .unset] [(.ref o0)])) (fun X t q => XS.aloadN X.here C.hx rfl (hb C.hby d1_14) rfl rfl q) ?_
  refine Wk.st (g' := (mkF m 16 #[.val (.ref o0), .val (.ref o1), .val (.ref o2), .val (.ref o3), .unset, .unset, .unset] [(.ref o3), (.ref o0)])) (fun X t q => XS.aloadN X.here C.hx rfl (hb C.hby d1_15) rfl rfl q) ?_
  refine Wk.putF C (hw _ (List.mem_of_getElem? (i := 14) rfl)) Via.refl F28 F27 (Or.inr ⟨(hw _ (List.mem_of_getElem? (i := 15) rfl)), rfl, rfl⟩) (hw _ (List.mem_of_getElem? (i := 2) rfl)) (ty := (.array .int)) (by decide) (v' := (.ref o3)) rfl rfl G_o0 d1_16 ?_
  intro h35 W36
  have F37 : Fld Z h35 o0 "com/example/understory/understory/RootedTree" "column" "[I" (.ref o3) := F28.same W36
  have F38 : Exa Z h35 o1 "[I" := F21.wr W36
  have F39 : Fa Z h35 o1 .int 3 (up (up (up (fun _ => (.int (0 : Int32))) 0 (.int (-1 : Int32))) 1 (.int (0 : Int32))) 2 (.int (0 : Int32))) := F22.other W36 (Ne.symm N_o0_o1)
  have F40 : Exa Z h35 o2 "[I" := F23.wr W36
  have F41 : Fa Z h35 o2 .int 3 (up (up (up (fun _ => (.int (0 : Int32))) 0 (.int x0)) 1 (.int x1)) 2 (.int x2)) := F24.other W36 (Ne.symm N_o0_o2)
  have F42 : Exa Z h35 o3 "[I" := F25.wr W36
  have F43 : Fa Z h35 o3 .int 3 (up (up (up (fun _ => (.int (0 : Int32))) 0 (.int (-1 : Int32))) 1 (.int (-1 : Int32))) 2 (.int (-1 : Int32))) := F26.other W36 (Ne.symm N_o0_o3)
  have F44 : Exa Z h35 o0 "com/example/understory/understory/RootedTree" := F27.wr W36
  have F45 : Fld Z h35 o0 "com/example/understory/understory/RootedTree" "children" "[[I" .null := F29.other W36 (Or.inr (slot_ne (Or.inr (hw _ (List.mem_of_getElem? (i := 23) rfl))) (Or.inr (hw _ (List.mem_of_getElem? (i := 15) rfl))) (by decide) (t := (.array (.array .int))) (t' := (.array .int)) (by decide) (by decide)))
  have F46 : Fld Z h35 o0 "com/example/understory/understory/RootedTree" "nodeOfColumn" "[I" .null := F30.other W36 (Or.inr (slot_ne (Or.inr (hw _ (List.mem_of_getElem? (i := 25) rfl))) (Or.inr (hw _ (List.mem_of_getElem? (i := 15) rfl))) (by decide) (t := (.array .int)) (t' := (.array .int)) (by decide) (by decide)))
  have F47 : Fld Z h35 o0 "com/example/understory/understory/RootedTree" "parent" "[I" (.ref o1) := F31.other W36 (Or.inr (slot_ne (Or.inr (hw _ (List.mem_of_getElem? (i := 11) rfl))) (Or.inr (hw _ (List.mem_of_getElem? (i := 15) rfl))) (by decide) (t := (.array .int)) (t' := (.array .int)) (by decide) (by decide)))
  have F48 : Fld Z h35 o0 "com/example/understory/understory/RootedTree" "states" "[I" (.ref o2) := F20.other W36 (Or.inr (slot_ne (Or.inr (hw _ (List.mem_of_getElem? (i := 13) rfl))) (Or.inr (hw _ (List.mem_of_getElem? (i := 15) rfl))) (by decide) (t := (.array .int)) (t' := (.array .int)) (by decide) (by decide)))
  have sz49 : n0 ≤ h35.size := Nat.le_trans sz32 (Nat.le_of_eq W36.size.symm)
  have sy50 : h0.size ≤ h35.size := Nat.le_trans sy33 (Nat.le_of_eq W36.size.symm)
  have K51 := K34.wr W36 (Or.inl (by simp))
  show Wk _ p l e _ s m _ below meth c n0 _ h35 0 0 (mkF m 19 #[.val (.ref o0), .val (.ref o1), .val (.ref o2), .val (.ref o3), .unset, .unset, .unset] [])
  refine Wk.st (g' := (mkF m 20 #[.val (.ref o0), .val (.ref o1), .val (.ref o2), .val (.ref o3), .unset, .unset, .unset] [(.ref o0)])) (fun X t q => XS.aloadN X.here C.hx rfl (hb C.hby d1_19) rfl rfl q) ?_
  refine Wk.st (g' := (mkF m 21 #[.val (.ref o0), .val (.ref o1), .val (.ref o2), .val (.ref o3), .unset, .unset, .unset] [(.ref o1), (.ref o0)])) (fun X t q => XS.aloadN X.here C.hx rfl (hb C.hby d1_20) rfl rfl q) ?_
  refine Wk.callS C (z := (⟨"com/example/understory/understory/RootedTree", "childrenOf", "([I)[[I"⟩ : MethodName)) (hw _ (List.mem_of_getElem? (i := 16) rfl)) (hw _ (List.mem_of_getElem? (i := 17) rfl)) (hw _ (List.mem_of_getElem? (i := 3) rfl)) (hw _ (List.mem_of_getElem? (i := 18) rfl)) (by decide) (own_3_0 l Z a0 hw n0 h35 sz49 o1  F38 F39  G_o1) (w := 1) (by decide) (by decide) pd_1 rfl (rest := [(.ref o0)]) rfl rfl (Nat.le_of_eq rfl) (by decide) (by decide) d1_21 ?_
  rintro _ h53 ⟨n52_b34, n52_b51, n52_b84, n52_b122, rfl, K54, gn63, gn64, gn65, gn66, ne67, ne68, ne69, ne70, ne71, ne72, F55, F56, F57, F58, F59, F60, F61, F62⟩
  show Wk _ p l e _ s m _ below meth c n0 _ h53 6 11 (mkF m 24 #[.val (.ref o0), .val (.ref o1), .val (.ref o2), .val (.ref o3), .unset, .unset, .unset] [(.ref n52_b34), (.ref o0)])
  have ne73 : o1 ≠ n52_b34 := Nat.ne_of_lt (Nat.lt_of_lt_of_le F38.lt gn63)
  have ne74 : o2 ≠ n52_b34 := Nat.ne_of_lt (Nat.lt_of_lt_of_le F40.lt gn63)
  have ne75 : o3 ≠ n52_b34 := Nat.ne_of_lt (Nat.lt_of_lt_of_le F42.lt gn63)
  have ne76 : o0 ≠ n52_b34 := Nat.ne_of_lt (Nat.lt_of_lt_of_le F44.lt gn63)
  have ge77 : n0 ≤ n52_b34 := Nat.le_trans sz49 gn63
  have gz78 : h0.size ≤ n52_b34 := Nat.le_trans sy50 gn63
  have ne79 : o1 ≠ n52_b51 := Nat.ne_of_lt (Nat.lt_of_lt_of_le F38.lt gn64)
  have ne80 : o2 ≠ n52_b51 := Nat.ne_of_lt (Nat.lt_of_lt_of_le F40.lt gn64)
  have ne81 : o3 ≠ n52_b51 := Nat.ne_of_lt (Nat.lt_of_lt_of_le F42.lt gn64)
  have ne82 : o0 ≠ n52_b51 := Nat.ne_of_lt (Nat.lt_of_lt_of_le F44.lt gn64)
  have ge83 : n0 ≤ n52_b51 := Nat.le_trans sz49 gn64
  have gz84 : h0.size ≤ n52_b51 := Nat.le_trans sy50 gn64
  have ne85 : o1 ≠ n52_b84 := Nat.ne_of_lt (Nat.lt_of_lt_of_le F38.lt gn65)
  have ne86 : o2 ≠ n52_b84 := Nat.ne_of_lt (Nat.lt_of_lt_of_le F40.lt gn65)
  have ne87 : o3 ≠ n52_b84 := Nat.ne_of_lt (Nat.lt_of_lt_of_le F42.lt gn65)
  have ne88 : o0 ≠ n52_b84 := Nat.ne_of_lt (Nat.lt_of_lt_of_le F44.lt gn65)
  have ge89 : n0 ≤ n52_b84 := Nat.le_trans sz49 gn65
  have gz90 : h0.size ≤ n52_b84 := Nat.le_trans sy50 gn65
  have ne91 : o1 ≠ n52_b122 := Nat.ne_of_lt (Nat.lt_of_lt_of_le F38.lt gn66)
  have ne92 : o2 ≠ n52_b122 := Nat.ne_of_lt (Nat.lt_of_lt_of_le F40.lt gn66)
  have ne93 : o3 ≠ n52_b122 := Nat.ne_of_lt (Nat.lt_of_lt_of_le F42.lt gn66)
  have ne94 : o0 ≠ n52_b122 := Nat.ne_of_lt (Nat.lt_of_lt_of_le F44.lt gn66)
  have ge95 : n0 ≤ n52_b122 := Nat.le_trans sz49 gn66
  have gz96 : h0.size ≤ n52_b122 := Nat.le_trans sy50 gn66
  have F97 : Exa Z h53 o1 "[I" := F38.keep K54
  have F98 : Fa Z h53 o1 .int 3 (up (up (up (fun _ => (.int (0 : Int32))) 0 (.int (-1 : Int32))) 1 (.int (0 : Int32))) 2 (.int (0 : Int32))) := F39.keep K54 nm0
  have F99 : Exa Z h53 o2 "[I" := F40.keep K54
  have F100 : Fa Z h53 o2 .int 3 (up (up (up (fun _ => (.int (0 : Int32))) 0 (.int x0)) 1 (.int x1)) 2 (.int x2)) := F41.keep K54 nm0
  have F101 : Exa Z h53 o3 "[I" := F42.keep K54
  have F102 : Fa Z h53 o3 .int 3 (up (up (up (fun _ => (.int (0 : Int32))) 0 (.int (-1 : Int32))) 1 (.int (-1 : Int32))) 2 (.int (-1 : Int32))) := F43.keep K54 nm0
  have F103 : Exa Z h53 o0 "com/example/understory/understory/RootedTree" := F44.keep K54
  have F104 : Fld Z h53 o0 "com/example/understory/understory/RootedTree" "children" "[[I" .null := F45.keep K54 nm0
  have F105 : Fld Z h53 o0 "com/example/understory/understory/RootedTree" "nodeOfColumn" "[I" .null := F46.keep K54 nm0
  have F106 : Fld Z h53 o0 "com/example/understory/understory/RootedTree" "parent" "[I" (.ref o1) := F47.keep K54 nm0
  have F107 : Fld Z h53 o0 "com/example/understory/understory/RootedTree" "states" "[I" (.ref o2) := F48.keep K54 nm0
  have F108 : Fld Z h53 o0 "com/example/understory/understory/RootedTree" "column" "[I" (.ref o3) := F37.keep K54 nm0
  have sz109 : n0 ≤ h53.size := Nat.le_trans sz49 K54.1
  have K110 := K51.trans K54 nv0
  have sy111 : h0.size ≤ h53.size := Nat.le_trans sy50 K54.1
  refine Wk.putF C (hw _ (List.mem_of_getElem? (i := 22) rfl)) Via.refl F104 F103 (Or.inr ⟨(hw _ (List.mem_of_getElem? (i := 23) rfl)), rfl, rfl⟩) (hw _ (List.mem_of_getElem? (i := 2) rfl)) (ty := (.array (.array .int))) (by decide) (v' := (.ref n52_b34)) rfl rfl G_o0 d1_24 ?_
  intro h112 W113
  have F114 : Fld Z h112 o0 "com/example/understory/understory/RootedTree" "children" "[[I" (.ref n52_b34) := F104.same W113
  have F115 : Exa Z h112 o1 "[I" := F97.wr W113
  have F116 : Fa Z h112 o1 .int 3 (up (up (up (fun _ => (.int (0 : Int32))) 0 (.int (-1 : Int32))) 1 (.int (0 : Int32))) 2 (.int (0 : Int32))) := F98.other W113 (Ne.symm N_o0_o1)
  have F117 : Exa Z h112 o2 "[I" := F99.wr W113
  have F118 : Fa Z h112 o2 .int 3 (up (up (up (fun _ => (.int (0 : Int32))) 0 (.int x0)) 1 (.int x1)) 2 (.int x2)) := F100.other W113 (Ne.symm N_o0_o2)
  have F119 : Exa Z h112 o3 "[I" := F101.wr W113
  have F120 : Fa Z h112 o3 .int 3 (up (up (up (fun _ => (.int (0 : Int32))) 0 (.int (-1 : Int32))) 1 (.int (-1 : Int32))) 2 (.int (-1 : Int32))) := F102.other W113 (Ne.symm N_o0_o3)
  have F121 : Exa Z h112 o0 "com/example/understory/understory/RootedTree" := F103.wr W113
  have F122 : Fld Z h112 o0 "com/example/understory/understory/RootedTree" "nodeOfColumn" "[I" .null := F105.other W113 (Or.inr (slot_ne (Or.inr (hw _ (List.mem_of_getElem? (i := 25) rfl))) (Or.inr (hw _ (List.mem_of_getElem? (i := 23) rfl))) (by decide) (t := (.array .int)) (t' := (.array (.array .int))) (by decide) (by decide)))
  have F123 : Fld Z h112 o0 "com/example/understory/understory/RootedTree" "parent" "[I" (.ref o1) := F106.other W113 (Or.inr (slot_ne (Or.inr (hw _ (List.mem_of_getElem? (i := 11) rfl))) (Or.inr (hw _ (List.mem_of_getElem? (i := 23) rfl))) (by decide) (t := (.array .int)) (t' := (.array (.array .int))) (by decide) (by decide)))
  have F124 : Fld Z h112 o0 "com/example/understory/understory/RootedTree" "states" "[I" (.ref o2) := F107.other W113 (Or.inr (slot_ne (Or.inr (hw _ (List.mem_of_getElem? (i := 13) rfl))) (Or.inr (hw _ (List.mem_of_getElem? (i := 23) rfl))) (by decide) (t := (.array .int)) (t' := (.array (.array .int))) (by decide) (by decide)))
  have F125 : Fld Z h112 o0 "com/example/understory/understory/RootedTree" "column" "[I" (.ref o3) := F108.other W113 (Or.inr (slot_ne (Or.inr (hw _ (List.mem_of_getElem? (i := 15) rfl))) (Or.inr (hw _ (List.mem_of_getElem? (i := 23) rfl))) (by decide) (t := (.array .int)) (t' := (.array (.array .int))) (by decide) (by decide)))
  have F126 : Exa Z h112 n52_b34 "[[I" := F55.wr W113
  have F127 : Exa Z h112 n52_b51 "[I" := F56.wr W113
  have F128 : Exa Z h112 n52_b84 "[I" := F57.wr W113
  have F129 : Fa Z h112 n52_b84 .int 0 (fun _ => (.int (0 : Int32))) := F58.other W113 (Ne.symm ne88)
  have F130 : Exa Z h112 n52_b122 "[I" := F59.wr W113
  have F131 : Fa Z h112 n52_b122 .int 0 (fun _ => (.int (0 : Int32))) := F60.other W113 (Ne.symm ne94)
  have F132 : FaA Z h112 n52_b34 .int "[I" 3 (up (up (up (fun _ => .null) 0 (.ref n52_b51)) 1 (.ref n52_b84)) 2 (.ref n52_b122)) := F61.other W113 (Ne.symm ne76)
  have F133 : Fa Z h112 n52_b51 .int 2 (up (up (fun _ => (.int (0 : Int32))) 0 (.int (1 : Int32))) 1 (.int (2 : Int32))) := F62.other W113 (Ne.symm ne82)
  have sz134 : n0 ≤ h112.size := Nat.le_trans sz109 (Nat.le_of_eq W113.size.symm)
  have sy135 : h0.size ≤ h112.size := Nat.le_trans sy111 (Nat.le_of_eq W113.size.symm)
  have K136 := K110.wr W113 (Or.inl (by simp))
  show Wk _ p l e _ s m _ below meth c n0 _ h112 6 11 (mkF m 27 #[.val (.ref o0), .val (.ref o1), .val (.ref o2), .val (.ref o3), .unset, .unset, .unset] [])
  refine Wk.st (g' := (mkF m 28 #[.val (.ref o0), .val (.ref o1), .val (.ref o2), .val (.ref o3), .unset, .unset, .unset] [(.ref o1)])) (fun X t q => XS.aloadN X.here C.hx rfl (hb C.hby d1_27) rfl rfl q) ?_
  refine Wk.fLen C F116 (z := (3 : Int32)) (by decide) d1_28 ?_
  show Wk _ p l e _ s m _ below meth c n0 _ h112 6 11 (mkF m 29 #[.val (.ref o0), .val (.ref o1), .val (.ref o2), .val (.ref o3), .unset, .unset, .unset] [(.int (3 : Int32))])
  refine Wk.st (g' := (mkF m 31 #[.val (.ref o0), .val (.ref o1), .val (.ref o2), .val (.ref o3), .val (.int (3 : Int32)), .unset, .unset] [])) (fun X t q => XS.istore X.here C.hx rfl (hb C.hby d1_29) rfl (l' := #[.val (.ref o0), .val (.ref o1), .val (.ref o2), .val (.ref o3), .val (.int (3 : Int32)), .unset, .unset]) rfl q) ?_
  refine Wk.st (g' := (mkF m 32 #[.val (.ref o0), .val (.ref o1), .val (.ref o2), .val (.ref o3), .val (.int (3 : Int32)), .unset, .unset] [(.int (0 : Int32))])) (fun X t q => XS.iconst X.here C.hx rfl (hb C.hby d1_31) q) ?_
  refine Wk.st (g' := (mkF m 34 #[.val (.ref o0), .val (.ref o1), .val (.ref o2), .val (.ref o3), .val (.int (3 : Int32)), .val (.int (0 : Int32)), .unset] [])) (fun X t q => XS.istore X.here C.hx rfl (hb C.hby d1_32) rfl (l' := #[.val (.ref o0), .val (.ref o1), .val (.ref o2), .val (.ref o3), .val (.int (3 : Int32)), .val (.int (0 : Int32)), .unset]) rfl q) ?_
  refine Wk.st (g' := (mkF m 35 #[.val (.ref o0), .val (.ref o1), .val (.ref o2), .val (.ref o3), .val (.int (3 : Int32)), .val (.int (0 : Int32)), .unset] [(.int (0 : Int32))])) (fun X t q => XS.iconst X.here C.hx rfl (hb C.hby d1_34) q) ?_
  refine Wk.st (g' := (mkF m 37 #[.val (.ref o0), .val (.ref o1), .val (.ref o2), .val (.ref o3), .val (.int (3 : Int32)), .val (.int (0 : Int32)), .val (.int (0 : Int32))] [])) (fun X t q => XS.istore X.here C.hx rfl (hb C.hby d1_35) rfl (l' := #[.val (.ref o0), .val (.ref o1), .val (.ref o2), .val (.ref o3), .val (.int (3 : Int32)), .val (.int (0 : Int32)), .val (.int (0 : Int32))]) rfl q) ?_
  refine Wk.st (g' := (mkF m 39 #[.val (.ref o0), .val (.ref o1), .val (.ref o2), .val (.ref o3), .val (.int (3 : Int32)), .val (.int (0 : Int32)), .val (.int (0 : Int32))] [(.int (0 : Int32))])) (fun X t q => XS.iload X.here C.hx rfl (hb C.hby d1_37) rfl q) ?_
  refine Wk.st (g' := (mkF m 41 #[.val (.ref o0), .val (.ref o1), .val (.ref o2), .val (.ref o3), .val (.int (3 : Int32)), .val (.int (0 : Int32)), .val (.int (0 : Int32))] [(.int (3 : Int32)), (.int (0 : Int32))])) (fun X t q => XS.iload X.here C.hx rfl (hb C.hby d1_39) rfl q) ?_
  refine Wk.st (g' := (mkF m 44 #[.val (.ref o0), .val (.ref o1), .val (.ref o2), .val (.ref o3), .val (.int (3 : Int32)), .val (.int (0 : Int32)), .val (.int (0 : Int32))] [])) (fun X t q => XS.icmpNo X.here C.hx rfl (hb C.hby d1_41) rfl (XT.ii_ge_f (by decide)) q) ?_
  refine Wk.st (g' := (mkF m 45 #[.val (.ref o0), .val (.ref o1), .val (.ref o2), .val (.ref o3), .val (.int (3 : Int32)), .val (.int (0 : Int32)), .val (.int (0 : Int32))] [(.ref o3)])) (fun X t q => XS.aloadN X.here C.hx rfl (hb C.hby d1_44) rfl rfl q) ?_
  refine Wk.st (g' := (mkF m 47 #[.val (.ref o0), .val (.ref o1), .val (.ref o2), .val (.ref o3), .val (.int (3 : Int32)), .val (.int (0 : Int32)), .val (.int (0 : Int32))] [(.int (0 : Int32)), (.ref o3)])) (fun X t q => XS.iload X.here C.hx rfl (hb C.hby d1_45) rfl q) ?_
  refine Wk.fLdI C F120 (i := 0) (by decide) (by decide) (by decide) (v := (.int (-1 : Int32))) (by simp [up]) d1_47 ?_
  show Wk _ p l e _ s m _ below meth c n0 _ h112 6 11 (mkF m 48 #[.val (.ref o0), .val (.ref o1), .val (.ref o2), .val (.ref o3), .val (.int (3 : Int32)), .val (.int (0 : Int32)), .val (.int (0 : Int32))] [(.int (-1 : Int32))])
  refine Wk.st (g' := (mkF m 54 #[.val (.ref o0), .val (.ref o1), .val (.ref o2), .val (.ref o3), .val (.int (3 : Int32)), .val (.int (0 : Int32)), .val (.int (0 : Int32))] [])) (fun X t q => XS.ifYes X.here C.hx rfl (pc0 := 48) (pc' := 54) rfl (hb C.hby d1_48) rfl (XT.i0_lt_t (by decide)) (by decide) (by decide) q) ?_
  refine Wk.st (g' := (mkF m 57 #[.val (.ref o0), .val (.ref o1), .val (.ref o2), .val (.ref o3), .val (.int (3 : Int32)), .val (.int (0 : Int32)), .val (.int (1 : Int32))] [])) (fun X t q => XS.iinc X.here C.hx rfl (hb C.hby d1_54) rfl (l' := #[.val (.ref o0), .val (.ref o1), .val (.ref o2), .val (.ref o3), .val (.int (3 : Int32)), .val (.int (0 : Int32)), .val (.int (1 : Int32))]) rfl q) ?_
  refine Wk.st (g' := (mkF m 37 #[.val (.ref o0), .val (.ref o1), .val (.ref o2), .val (.ref o3), .val (.int (3 : Int32)), .val (.int (0 : Int32)), .val (.int (1 : Int32))] [])) (fun X t q => XS.goto X.here C.hx rfl (pc0 := 57) (pc' := 37) rfl (hb C.hby d1_57) (by decide) (by decide) q) ?_
  refine Wk.st (g' := (mkF m 39 #[.val (.ref o0), .val (.ref o1), .val (.ref o2), .val (.ref o3), .val (.int (3 : Int32)), .val (.int (0 : Int32)), .val (.int (1 : Int32))] [(.int (1 : Int32))])) (fun X t q => XS.iload X.here C.hx rfl (hb C.hby d1_37) rfl q) ?_
  refine Wk.st (g' := (mkF m 41 #[.val (.ref o0), .val (.ref o1), .val (.ref o2), .val (.ref o3), .val (.int (3 : Int32)), .val (.int (0 : Int32)), .val (.int (1 : Int32))] [(.int (3 : Int32)), (.int (1 : Int32))])) (fun X t q => XS.iload X.here C.hx rfl (hb C.hby d1_39) rfl q) ?_
  refine Wk.st (g' := (mkF m 44 #[.val (.ref o0), .val (.ref o1), .val (.ref o2), .val (.ref o3), .val (.int (3 : Int32)), .val (.int (0 : Int32)), .val (.int (1 : Int32))] [])) (fun X t q => XS.icmpNo X.here C.hx rfl (hb C.hby d1_41) rfl (XT.ii_ge_f (by decide)) q) ?_
  refine Wk.st (g' := (mkF m 45 #[.val (.ref o0), .val (.ref o1), .val (.ref o2), .val (.ref o3), .val (.int (3 : Int32)), .val (.int (0 : Int32)), .val (.int (1 : Int32))] [(.ref o3)])) (fun X t q => XS.aloadN X.here C.hx rfl (hb C.hby d1_44) rfl rfl q) ?_
  refine Wk.st (g' := (mkF m 47 #[.val (.ref o0), .val (.ref o1), .val (.ref o2), .val (.ref o3), .val (.int (3 : Int32)), .val (.int (0 : Int32)), .val (.int (1 : Int32))] [(.int (1 : Int32)), (.ref o3)])) (fun X t q => XS.iload X.here C.hx rfl (hb C.hby d1_45) rfl q) ?_
  refine Wk.fLdI C F120 (i := 1) (by decide) (by decide) (by decide) (v := (.int (-1 : Int32))) (by simp [up]) d1_47 ?_
  show Wk _ p l e _ s m _ below meth c n0 _ h112 6 11 (mkF m 48 #[.val (.ref o0), .val (.ref o1), .val (.ref o2), .val (.ref o3), .val (.int (3 : Int32)), .val (.int (0 : Int32)), .val (.int (1 : Int32))] [(.int (-1 : Int32))])
  refine Wk.st (g' := (mkF m 54 #[.val (.ref o0), .val (.ref o1), .val (.ref o2), .val (.ref o3), .val (.int (3 : Int32)), .val (.int (0 : Int32)), .val (.int (1 : Int32))] [])) (fun X t q => XS.ifYes X.here C.hx rfl (pc0 := 48) (pc' := 54) rfl (hb C.hby d1_48) rfl (XT.i0_lt_t (by decide)) (by decide) (by decide) q) ?_
  refine Wk.st (g' := (mkF m 57 #[.val (.ref o0), .val (.ref o1), .val (.ref o2), .val (.ref o3), .val (.int (3 : Int32)), .val (.int (0 : Int32)), .val (.int (2 : Int32))] [])) (fun X t q => XS.iinc X.here C.hx rfl (hb C.hby d1_54) rfl (l' := #[.val (.ref o0), .val (.ref o1), .val (.ref o2), .val (.ref o3), .val (.int (3 : Int32)), .val (.int (0 : Int32)), .val (.int (2 : Int32))]) rfl q) ?_
  refine Wk.st (g' := (mkF m 37 #[.val (.ref o0), .val (.ref o1), .val (.ref o2), .val (.ref o3), .val (.int (3 : Int32)), .val (.int (0 : Int32)), .val (.int (2 : Int32))] [])) (fun X t q => XS.goto X.here C.hx rfl (pc0 := 57) (pc' := 37) rfl (hb C.hby d1_57) (by decide) (by decide) q) ?_
  refine Wk.st (g' := (mkF m 39 #[.val (.ref o0), .val (.ref o1), .val (.ref o2), .val (.ref o3), .val (.int (3 : Int32)), .val (.int (0 : Int32)), .val (.int (2 : Int32))] [(.int (2 : Int32))])) (fun X t q => XS.iload X.here C.hx rfl (hb C.hby d1_37) rfl q) ?_
  refine Wk.st (g' := (mkF m 41 #[.val (.ref o0), .val (.ref o1), .val (.ref o2), .val (.ref o3), .val (.int (3 : Int32)), .val (.int (0 : Int32)), .val (.int (2 : Int32))] [(.int (3 : Int32)), (.int (2 : Int32))])) (fun X t q => XS.iload X.here C.hx rfl (hb C.hby d1_39) rfl q) ?_
  refine Wk.st (g' := (mkF m 44 #[.val (.ref o0), .val (.ref o1), .val (.ref o2), .val (.ref o3), .val (.int (3 : Int32)), .val (.int (0 : Int32)), .val (.int (2 : Int32))] [])) (fun X t q => XS.icmpNo X.here C.hx rfl (hb C.hby d1_41) rfl (XT.ii_ge_f (by decide)) q) ?_
  refine Wk.st (g' := (mkF m 45 #[.val (.ref o0), .val (.ref o1), .val (.ref o2), .val (.ref o3), .val (.int (3 : Int32)), .val (.int (0 : Int32)), .val (.int (2 : Int32))] [(.ref o3)])) (fun X t q => XS.aloadN X.here C.hx rfl (hb C.hby d1_44) rfl rfl q) ?_
  refine Wk.st (g' := (mkF m 47 #[.val (.ref o0), .val (.ref o1), .val (.ref o2), .val (.ref o3), .val (.int (3 : Int32)), .val (.int (0 : Int32)), .val (.int (2 : Int32))] [(.int (2 : Int32)), (.ref o3)])) (fun X t q => XS.iload X.here C.hx rfl (hb C.hby d1_45) rfl q) ?_
  refine Wk.fLdI C F120 (i := 2) (by decide) (by decide) (by decide) (v := (.int (-1 : Int32))) (by simp [up]) d1_47 ?_
  show Wk _ p l e _ s m _ below meth c n0 _ h112 6 11 (mkF m 48 #[.val (.ref o0), .val (.ref o1), .val (.ref o2), .val (.ref o3), .val (.int (3 : Int32)), .val (.int (0 : Int32)), .val (.int (2 : Int32))] [(.int (-1 : Int32))])
  refine Wk.st (g' := (mkF m 54 #[.val (.ref o0), .val (.ref o1), .val (.ref o2), .val (.ref o3), .val (.int (3 : Int32)), .val (.int (0 : Int32)), .val (.int (2 : Int32))] [])) (fun X t q => XS.ifYes X.here C.hx rfl (pc0 := 48) (pc' := 54) rfl (hb C.hby d1_48) rfl (XT.i0_lt_t (by decide)) (by decide) (by decide) q) ?_
  refine Wk.st (g' := (mkF m 57 #[.val (.ref o0), .val (.ref o1), .val (.ref o2), .val (.ref o3), .val (.int (3 : Int32)), .val (.int (0 : Int32)), .val (.int (3 : Int32))] [])) (fun X t q => XS.iinc X.here C.hx rfl (hb C.hby d1_54) rfl (l' := #[.val (.ref o0), .val (.ref o1), .val (.ref o2), .val (.ref o3), .val (.int (3 : Int32)), .val (.int (0 : Int32)), .val (.int (3 : Int32))]) rfl q) ?_
  refine Wk.st (g' := (mkF m 37 #[.val (.ref o0), .val (.ref o1), .val (.ref o2), .val (.ref o3), .val (.int (3 : Int32)), .val (.int (0 : Int32)), .val (.int (3 : Int32))] [])) (fun X t q => XS.goto X.here C.hx rfl (pc0 := 57) (pc' := 37) rfl (hb C.hby d1_57) (by decide) (by decide) q) ?_
  refine Wk.st (g' := (mkF m 39 #[.val (.ref o0), .val (.ref o1), .val (.ref o2), .val (.ref o3), .val (.int (3 : Int32)), .val (.int (0 : Int32)), .val (.int (3 : Int32))] [(.int (3 : Int32))])) (fun X t q => XS.iload X.here C.hx rfl (hb C.hby d1_37) rfl q) ?_
  refine Wk.st (g' := (mkF m 41 #[.val (.ref o0), .val (.ref o1), .val (.ref o2), .val (.ref o3), .val (.int (3 : Int32)), .val (.int (0 : Int32)), .val (.int (3 : Int32))] [(.int (3 : Int32)), (.int (3 : Int32))])) (fun X t q => XS.iload X.here C.hx rfl (hb C.hby d1_39) rfl q) ?_
  refine Wk.st (g' := (mkF m 60 #[.val (.ref o0), .val (.ref o1), .val (.ref o2), .val (.ref o3), .val (.int (3 : Int32)), .val (.int (0 : Int32)), .val (.int (3 : Int32))] [])) (fun X t q => XS.icmpYes X.here C.hx rfl (pc0 := 41) (pc' := 60) rfl (hb C.hby d1_41) rfl (XT.ii_ge_t (by decide)) (by decide) (by decide) q) ?_
  refine Wk.st (g' := (mkF m 61 #[.val (.ref o0), .val (.ref o1), .val (.ref o2), .val (.ref o3), .val (.int (3 : Int32)), .val (.int (0 : Int32)), .val (.int (3 : Int32))] [(.ref o0)])) (fun X t q => XS.aloadN X.here C.hx rfl (hb C.hby d1_60) rfl rfl q) ?_
  refine Wk.st (g' := (mkF m 63 #[.val (.ref o0), .val (.ref o1), .val (.ref o2), .val (.ref o3), .val (.int (3 : Int32)), .val (.int (0 : Int32)), .val (.int (3 : Int32))] [(.int (0 : Int32)), (.ref o0)])) (fun X t q => XS.iload X.here C.hx rfl (hb C.hby d1_61) rfl q) ?_
  refine Wk.fNewP C (hw _ (List.mem_of_getElem? (i := 0) rfl)) (ty := .int) (dv := (.int (0 : Int32))) (N := 0) (ad := "[I") rfl rfl (by decide) (by decide) (by decide) (cap := 0) (by decide) (by decide) d1_63 (by decide) (by decide) ?_
  intro h137 b138 g139 E140 A141 F142
  have ne143 : o1 ≠ b138 := Nat.ne_of_lt (Nat.lt_of_lt_of_le F115.lt (Nat.le_of_eq g139.symm))
  have ne144 : o2 ≠ b138 := Nat.ne_of_lt (Nat.lt_of_lt_of_le F117.lt (Nat.le_of_eq g139.symm))
  have ne145 : o3 ≠ b138 := Nat.ne_of_lt (Nat.lt_of_lt_of_le F119.lt (Nat.le_of_eq g139.symm))
  have ne146 : o0 ≠ b138 := Nat.ne_of_lt (Nat.lt_of_lt_of_le F121.lt (Nat.le_of_eq g139.symm))
  have ne147 : n52_b34 ≠ b138 := Nat.ne_of_lt (Nat.lt_of_lt_of_le F126.lt (Nat.le_of_eq g139.symm))
  have ne148 : n52_b51 ≠ b138 := Nat.ne_of_lt (Nat.lt_of_lt_of_le F127.lt (Nat.le_of_eq g139.symm))
  have ne149 : n52_b84 ≠ b138 := Nat.ne_of_lt (Nat.lt_of_lt_of_le F128.lt (Nat.le_of_eq g139.symm))
  have ne150 : n52_b122 ≠ b138 := Nat.ne_of_lt (Nat.lt_of_lt_of_le F130.lt (Nat.le_of_eq g139.symm))
  have ge151 : n0 ≤ b138 := Nat.le_trans sz134 (Nat.le_of_eq g139.symm)
  have gz152 : h0.size ≤ b138 := Nat.le_trans sy135 (Nat.le_of_eq g139.symm)
  have F153 : Exa Z h137 o1 "[I" := F115.ext E140
  have F154 : Fa Z h137 o1 .int 3 (up (up (up (fun _ => (.int (0 : Int32))) 0 (.int (-1 : Int32))) 1 (.int (0 : Int32))) 2 (.int (0 : Int32))) := F116.ext E140
  have F155 : Exa Z h137 o2 "[I" := F117.ext E140
  have F156 : Fa Z h137 o2 .int 3 (up (up (up (fun _ => (.int (0 : Int32))) 0 (.int x0)) 1 (.int x1)) 2 (.int x2)) := F118.ext E140
  have F157 : Exa Z h137 o3 "[I" := F119.ext E140
  have F158 : Fa Z h137 o3 .int 3 (up (up (up (fun _ => (.int (0 : Int32))) 0 (.int (-1 : Int32))) 1 (.int (-1 : Int32))) 2 (.int (-1 : Int32))) := F120.ext E140
  have F159 : Exa Z h137 o0 "com/example/understory/understory/RootedTree" := F121.ext E140
  have F160 : Fld Z h137 o0 "com/example/understory/understory/RootedTree" "nodeOfColumn" "[I" .null := F122.ext E140
  have F161 : Fld Z h137 o0 "com/example/understory/understory/RootedTree" "parent" "[I" (.ref o1) := F123.ext E140
  have F162 : Fld Z h137 o0 "com/example/understory/understory/RootedTree" "states" "[I" (.ref o2) := F124.ext E140
  have F163 : Fld Z h137 o0 "com/example/understory/understory/RootedTree" "column" "[I" (.ref o3) := F125.ext E140
  have F164 : Exa Z h137 n52_b34 "[[I" := F126.ext E140
  have F165 : Exa Z h137 n52_b51 "[I" := F127.ext E140
  have F166 : Exa Z h137 n52_b84 "[I" := F128.ext E140
  have F167 : Fa Z h137 n52_b84 .int 0 (fun _ => (.int (0 : Int32))) := F129.ext E140
  have F168 : Exa Z h137 n52_b122 "[I" := F130.ext E140
  have F169 : Fa Z h137 n52_b122 .int 0 (fun _ => (.int (0 : Int32))) := F131.ext E140
  have F170 : FaA Z h137 n52_b34 .int "[I" 3 (up (up (up (fun _ => .null) 0 (.ref n52_b51)) 1 (.ref n52_b84)) 2 (.ref n52_b122)) := F132.ext E140
  have F171 : Fa Z h137 n52_b51 .int 2 (up (up (fun _ => (.int (0 : Int32))) 0 (.int (1 : Int32))) 1 (.int (2 : Int32))) := F133.ext E140
  have F172 : Fld Z h137 o0 "com/example/understory/understory/RootedTree" "children" "[[I" (.ref n52_b34) := F114.ext E140
  have sz173 : n0 ≤ h137.size := Nat.le_trans sz134 E140.1
  have sy174 : h0.size ≤ h137.size := Nat.le_trans sy135 E140.1
  have K175 := K136.ext E140
  show Wk _ p l e _ s m _ below meth c n0 _ h137 7 11 (mkF m 65 #[.val (.ref o0), .val (.ref o1), .val (.ref o2), .val (.ref o3), .val (.int (3 : Int32)), .val (.int (0 : Int32)), .val (.int (3 : Int32))] [(.ref b138), (.ref o0)])
  refine Wk.putF C (hw _ (List.mem_of_getElem? (i := 24) rfl)) Via.refl F160 F159 (Or.inr ⟨(hw _ (List.mem_of_getElem? (i := 25) rfl)), rfl, rfl⟩) (hw _ (List.mem_of_getElem? (i := 2) rfl)) (ty := (.array .int)) (by decide) (v' := (.ref b138)) rfl rfl G_o0 d1_65 ?_
  intro h176 W177
  have F178 : Fld Z h176 o0 "com/example/understory/understory/RootedTree" "nodeOfColumn" "[I" (.ref b138) := F160.same W177
  have F179 : Exa Z h176 o1 "[I" := F153.wr W177
  have F180 : Fa Z h176 o1 .int 3 (up (up (up (fun _ => (.int (0 : Int32))) 0 (.int (-1 : Int32))) 1 (.int (0 : Int32))) 2 (.int (0 : Int32))) := F154.other W177 (Ne.symm N_o0_o1)
  have F181 : Exa Z h176 o2 "[I" := F155.wr W177
  have F182 : Fa Z h176 o2 .int 3 (up (up (up (fun _ => (.int (0 : Int32))) 0 (.int x0)) 1 (.int x1)) 2 (.int x2)) := F156.other W177 (Ne.symm N_o0_o2)
  have F183 : Exa Z h176 o3 "[I" := F157.wr W177
  have F184 : Fa Z h176 o3 .int 3 (up (up (up (fun _ => (.int (0 : Int32))) 0 (.int (-1 : Int32))) 1 (.int (-1 : Int32))) 2 (.int (-1 : Int32))) := F158.other W177 (Ne.symm N_o0_o3)
  have F185 : Exa Z h176 o0 "com/example/understory/understory/RootedTree" := F159.wr W177
  have F186 : Fld Z h176 o0 "com/example/understory/understory/RootedTree" "parent" "[I" (.ref o1) := F161.other W177 (Or.inr (slot_ne (Or.inr (hw _ (List.mem_of_getElem? (i := 11) rfl))) (Or.inr (hw _ (List.mem_of_getElem? (i := 25) rfl))) (by decide) (t := (.array .int)) (t' := (.array .int)) (by decide) (by decide)))
  have F187 : Fld Z h176 o0 "com/example/understory/understory/RootedTree" "states" "[I" (.ref o2) := F162.other W177 (Or.inr (slot_ne (Or.inr (hw _ (List.mem_of_getElem? (i := 13) rfl))) (Or.inr (hw _ (List.mem_of_getElem? (i := 25) rfl))) (by decide) (t := (.array .int)) (t' := (.array .int)) (by decide) (by decide)))
  have F188 : Fld Z h176 o0 "com/example/understory/understory/RootedTree" "column" "[I" (.ref o3) := F163.other W177 (Or.inr (slot_ne (Or.inr (hw _ (List.mem_of_getElem? (i := 15) rfl))) (Or.inr (hw _ (List.mem_of_getElem? (i := 25) rfl))) (by decide) (t := (.array .int)) (t' := (.array .int)) (by decide) (by decide)))
  have F189 : Exa Z h176 n52_b34 "[[I" := F164.wr W177
  have F190 : Exa Z h176 n52_b51 "[I" := F165.wr W177
  have F191 : Exa Z h176 n52_b84 "[I" := F166.wr W177
  have F192 : Fa Z h176 n52_b84 .int 0 (fun _ => (.int (0 : Int32))) := F167.other W177 (Ne.symm ne88)
  have F193 : Exa Z h176 n52_b122 "[I" := F168.wr W177
  have F194 : Fa Z h176 n52_b122 .int 0 (fun _ => (.int (0 : Int32))) := F169.other W177 (Ne.symm ne94)
  have F195 : FaA Z h176 n52_b34 .int "[I" 3 (up (up (up (fun _ => .null) 0 (.ref n52_b51)) 1 (.ref n52_b84)) 2 (.ref n52_b122)) := F170.other W177 (Ne.symm ne76)
  have F196 : Fa Z h176 n52_b51 .int 2 (up (up (fun _ => (.int (0 : Int32))) 0 (.int (1 : Int32))) 1 (.int (2 : Int32))) := F171.other W177 (Ne.symm ne82)
  have F197 : Fld Z h176 o0 "com/example/understory/understory/RootedTree" "children" "[[I" (.ref n52_b34) := F172.other W177 (Or.inr (slot_ne (Or.inr (hw _ (List.mem_of_getElem? (i := 23) rfl))) (Or.inr (hw _ (List.mem_of_getElem? (i := 25) rfl))) (by decide) (t := (.array (.array .int))) (t' := (.array .int)) (by decide) (by decide)))
  have F198 : Exa Z h176 b138 "[I" := A141.wr W177
  have F199 : Fa Z h176 b138 .int 0 (fun _ => (.int (0 : Int32))) := F142.other W177 (Ne.symm ne146)
  have sz200 : n0 ≤ h176.size := Nat.le_trans sz173 (Nat.le_of_eq W177.size.symm)
  have sy201 : h0.size ≤ h176.size := Nat.le_trans sy174 (Nat.le_of_eq W177.size.symm)
  have K202 := K175.wr W177 (Or.inl (by simp))
  show Wk _ p l e _ s m _ below meth c n0 _ h176 7 11 (mkF m 68 #[.val (.ref o0), .val (.ref o1), .val (.ref o2), .val (.ref o3), .val (.int (3 : Int32)), .val (.int (0 : Int32)), .val (.int (3 : Int32))] [])
  refine Wk.st (g' := (mkF m 69 #[.val (.ref o0), .val (.ref o1), .val (.ref o2), .val (.ref o3), .val (.int (3 : Int32)), .val (.int (0 : Int32)), .val (.int (3 : Int32))] [(.int (0 : Int32))])) (fun X t q => XS.iconst X.here C.hx rfl (hb C.hby d1_68) q) ?_
  refine Wk.st (g' := (mkF m 71 #[.val (.ref o0), .val (.ref o1), .val (.ref o2), .val (.ref o3), .val (.int (3 : Int32)), .val (.int (0 : Int32)), .val (.int (0 : Int32))] [])) (fun X t q => XS.istore X.here C.hx rfl (hb C.hby d1_69) rfl (l' := #[.val (.ref o0), .val (.ref o1), .val (.ref o2), .val (.ref o3), .val (.int (3 : Int32)), .val (.int (0 : Int32)), .val (.int (0 : Int32))]) rfl q) ?_
  refine Wk.st (g' := (mkF m 73 #[.val (.ref o0), .val (.ref o1), .val (.ref o2), .val (.ref o3), .val (.int (3 : Int32)), .val (.int (0 : Int32)), .val (.int (0 : Int32))] [(.int (0 : Int32))])) (fun X t q => XS.iload X.here C.hx rfl (hb C.hby d1_71) rfl q) ?_
  refine Wk.st (g' := (mkF m 75 #[.val (.ref o0), .val (.ref o1), .val (.ref o2), .val (.ref o3), .val (.int (3 : Int32)), .val (.int (0 : Int32)), .val (.int (0 : Int32))] [(.int (3 : Int32)), (.int (0 : Int32))])) (fun X t q => XS.iload X.here C.hx rfl (hb C.hby d1_73) rfl q) ?_
  refine Wk.st (g' := (mkF m 78 #[.val (.ref o0), .val (.ref o1), .val (.ref o2), .val (.ref o3), .val (.int (3 : Int32)), .val (.int (0 : Int32)), .val (.int (0 : Int32))] [])) (fun X t q => XS.icmpNo X.here C.hx rfl (hb C.hby d1_75) rfl (XT.ii_ge_f (by decide)) q) ?_
  refine Wk.st (g' := (mkF m 79 #[.val (.ref o0), .val (.ref o1), .val (.ref o2), .val (.ref o3), .val (.int (3 : Int32)), .val (.int (0 : Int32)), .val (.int (0 : Int32))] [(.ref o3)])) (fun X t q => XS.aloadN X.here C.hx rfl (hb C.hby d1_78) rfl rfl q) ?_
  refine Wk.st (g' := (mkF m 81 #[.val (.ref o0), .val (.ref o1), .val (.ref o2), .val (.ref o3), .val (.int (3 : Int32)), .val (.int (0 : Int32)), .val (.int (0 : Int32))] [(.int (0 : Int32)), (.ref o3)])) (fun X t q => XS.iload X.here C.hx rfl (hb C.hby d1_79) rfl q) ?_
  refine Wk.fLdI C F184 (i := 0) (by decide) (by decide) (by decide) (v := (.int (-1 : Int32))) (by simp [up]) d1_81 ?_
  show Wk _ p l e _ s m _ below meth c n0 _ h176 7 11 (mkF m 82 #[.val (.ref o0), .val (.ref o1), .val (.ref o2), .val (.ref o3), .val (.int (3 : Int32)), .val (.int (0 : Int32)), .val (.int (0 : Int32))] [(.int (-1 : Int32))])
  refine Wk.st (g' := (mkF m 96 #[.val (.ref o0), .val (.ref o1), .val (.ref o2), .val (.ref o3), .val (.int (3 : Int32)), .val (.int (0 : Int32)), .val (.int (0 : Int32))] [])) (fun X t q => XS.ifYes X.here C.hx rfl (pc0 := 82) (pc' := 96) rfl (hb C.hby d1_82) rfl (XT.i0_lt_t (by decide)) (by decide) (by decide) q) ?_
  refine Wk.st (g' := (mkF m 99 #[.val (.ref o0), .val (.ref o1), .val (.ref o2), .val (.ref o3), .val (.int (3 : Int32)), .val (.int (0 : Int32)), .val (.int (1 : Int32))] [])) (fun X t q => XS.iinc X.here C.hx rfl (hb C.hby d1_96) rfl (l' := #[.val (.ref o0), .val (.ref o1), .val (.ref o2), .val (.ref o3), .val (.int (3 : Int32)), .val (.int (0 : Int32)), .val (.int (1 : Int32))]) rfl q) ?_
  refine Wk.st (g' := (mkF m 71 #[.val (.ref o0), .val (.ref o1), .val (.ref o2), .val (.ref o3), .val (.int (3 : Int32)), .val (.int (0 : Int32)), .val (.int (1 : Int32))] [])) (fun X t q => XS.goto X.here C.hx rfl (pc0 := 99) (pc' := 71) rfl (hb C.hby d1_99) (by decide) (by decide) q) ?_
  refine Wk.st (g' := (mkF m 73 #[.val (.ref o0), .val (.ref o1), .val (.ref o2), .val (.ref o3), .val (.int (3 : Int32)), .val (.int (0 : Int32)), .val (.int (1 : Int32))] [(.int (1 : Int32))])) (fun X t q => XS.iload X.here C.hx rfl (hb C.hby d1_71) rfl q) ?_
  refine Wk.st (g' := (mkF m 75 #[.val (.ref o0), .val (.ref o1), .val (.ref o2), .val (.ref o3), .val (.int (3 : Int32)), .val (.int (0 : Int32)), .val (.int (1 : Int32))] [(.int (3 : Int32)), (.int (1 : Int32))])) (fun X t q => XS.iload X.here C.hx rfl (hb C.hby d1_73) rfl q) ?_
  refine Wk.st (g' := (mkF m 78 #[.val (.ref o0), .val (.ref o1), .val (.ref o2), .val (.ref o3), .val (.int (3 : Int32)), .val (.int (0 : Int32)), .val (.int (1 : Int32))] [])) (fun X t q => XS.icmpNo X.here C.hx rfl (hb C.hby d1_75) rfl (XT.ii_ge_f (by decide)) q) ?_
  refine Wk.st (g' := (mkF m 79 #[.val (.ref o0), .val (.ref o1), .val (.ref o2), .val (.ref o3), .val (.int (3 : Int32)), .val (.int (0 : Int32)), .val (.int (1 : Int32))] [(.ref o3)])) (fun X t q => XS.aloadN X.here C.hx rfl (hb C.hby d1_78) rfl rfl q) ?_
  refine Wk.st (g' := (mkF m 81 #[.val (.ref o0), .val (.ref o1), .val (.ref o2), .val (.ref o3), .val (.int (3 : Int32)), .val (.int (0 : Int32)), .val (.int (1 : Int32))] [(.int (1 : Int32)), (.ref o3)])) (fun X t q => XS.iload X.here C.hx rfl (hb C.hby d1_79) rfl q) ?_
  refine Wk.fLdI C F184 (i := 1) (by decide) (by decide) (by decide) (v := (.int (-1 : Int32))) (by simp [up]) d1_81 ?_
  show Wk _ p l e _ s m _ below meth c n0 _ h176 7 11 (mkF m 82 #[.val (.ref o0), .val (.ref o1), .val (.ref o2), .val (.ref o3), .val (.int (3 : Int32)), .val (.int (0 : Int32)), .val (.int (1 : Int32))] [(.int (-1 : Int32))])
  refine Wk.st (g' := (mkF m 96 #[.val (.ref o0), .val (.ref o1), .val (.ref o2), .val (.ref o3), .val (.int (3 : Int32)), .val (.int (0 : Int32)), .val (.int (1 : Int32))] [])) (fun X t q => XS.ifYes X.here C.hx rfl (pc0 := 82) (pc' := 96) rfl (hb C.hby d1_82) rfl (XT.i0_lt_t (by decide)) (by decide) (by decide) q) ?_
  refine Wk.st (g' := (mkF m 99 #[.val (.ref o0), .val (.ref o1), .val (.ref o2), .val (.ref o3), .val (.int (3 : Int32)), .val (.int (0 : Int32)), .val (.int (2 : Int32))] [])) (fun X t q => XS.iinc X.here C.hx rfl (hb C.hby d1_96) rfl (l' := #[.val (.ref o0), .val (.ref o1), .val (.ref o2), .val (.ref o3), .val (.int (3 : Int32)), .val (.int (0 : Int32)), .val (.int (2 : Int32))]) rfl q) ?_
  refine Wk.st (g' := (mkF m 71 #[.val (.ref o0), .val (.ref o1), .val (.ref o2), .val (.ref o3), .val (.int (3 : Int32)), .val (.int (0 : Int32)), .val (.int (2 : Int32))] [])) (fun X t q => XS.goto X.here C.hx rfl (pc0 := 99) (pc' := 71) rfl (hb C.hby d1_99) (by decide) (by decide) q) ?_
  refine Wk.st (g' := (mkF m 73 #[.val (.ref o0), .val (.ref o1), .val (.ref o2), .val (.ref o3), .val (.int (3 : Int32)), .val (.int (0 : Int32)), .val (.int (2 : Int32))] [(.int (2 : Int32))])) (fun X t q => XS.iload X.here C.hx rfl (hb C.hby d1_71) rfl q) ?_
  refine Wk.st (g' := (mkF m 75 #[.val (.ref o0), .val (.ref o1), .val (.ref o2), .val (.ref o3), .val (.int (3 : Int32)), .val (.int (0 : Int32)), .val (.int (2 : Int32))] [(.int (3 : Int32)), (.int (2 : Int32))])) (fun X t q => XS.iload X.here C.hx rfl (hb C.hby d1_73) rfl q) ?_
  refine Wk.st (g' := (mkF m 78 #[.val (.ref o0), .val (.ref o1), .val (.ref o2), .val (.ref o3), .val (.int (3 : Int32)), .val (.int (0 : Int32)), .val (.int (2 : Int32))] [])) (fun X t q => XS.icmpNo X.here C.hx rfl (hb C.hby d1_75) rfl (XT.ii_ge_f (by decide)) q) ?_
  refine Wk.st (g' := (mkF m 79 #[.val (.ref o0), .val (.ref o1), .val (.ref o2), .val (.ref o3), .val (.int (3 : Int32)), .val (.int (0 : Int32)), .val (.int (2 : Int32))] [(.ref o3)])) (fun X t q => XS.aloadN X.here C.hx rfl (hb C.hby d1_78) rfl rfl q) ?_
  refine Wk.st (g' := (mkF m 81 #[.val (.ref o0), .val (.ref o1), .val (.ref o2), .val (.ref o3), .val (.int (3 : Int32)), .val (.int (0 : Int32)), .val (.int (2 : Int32))] [(.int (2 : Int32)), (.ref o3)])) (fun X t q => XS.iload X.here C.hx rfl (hb C.hby d1_79) rfl q) ?_
  refine Wk.fLdI C F184 (i := 2) (by decide) (by decide) (by decide) (v := (.int (-1 : Int32))) (by simp [up]) d1_81 ?_
  show Wk _ p l e _ s m _ below meth c n0 _ h176 7 11 (mkF m 82 #[.val (.ref o0), .val (.ref o1), .val (.ref o2), .val (.ref o3), .val (.int (3 : Int32)), .val (.int (0 : Int32)), .val (.int (2 : Int32))] [(.int (-1 : Int32))])
  refine Wk.st (g' := (mkF m 96 #[.val (.ref o0), .val (.ref o1), .val (.ref o2), .val (.ref o3), .val (.int (3 : Int32)), .val (.int (0 : Int32)), .val (.int (2 : Int32))] [])) (fun X t q => XS.ifYes X.here C.hx rfl (pc0 := 82) (pc' := 96) rfl (hb C.hby d1_82) rfl (XT.i0_lt_t (by decide)) (by decide) (by decide) q) ?_
  refine Wk.st (g' := (mkF m 99 #[.val (.ref o0), .val (.ref o1), .val (.ref o2), .val (.ref o3), .val (.int (3 : Int32)), .val (.int (0 : Int32)), .val (.int (3 : Int32))] [])) (fun X t q => XS.iinc X.here C.hx rfl (hb C.hby d1_96) rfl (l' := #[.val (.ref o0), .val (.ref o1), .val (.ref o2), .val (.ref o3), .val (.int (3 : Int32)), .val (.int (0 : Int32)), .val (.int (3 : Int32))]) rfl q) ?_
  refine Wk.st (g' := (mkF m 71 #[.val (.ref o0), .val (.ref o1), .val (.ref o2), .val (.ref o3), .val (.int (3 : Int32)), .val (.int (0 : Int32)), .val (.int (3 : Int32))] [])) (fun X t q => XS.goto X.here C.hx rfl (pc0 := 99) (pc' := 71) rfl (hb C.hby d1_99) (by decide) (by decide) q) ?_
  refine Wk.st (g' := (mkF m 73 #[.val (.ref o0), .val (.ref o1), .val (.ref o2), .val (.ref o3), .val (.int (3 : Int32)), .val (.int (0 : Int32)), .val (.int (3 : Int32))] [(.int (3 : Int32))])) (fun X t q => XS.iload X.here C.hx rfl (hb C.hby d1_71) rfl q) ?_
  refine Wk.st (g' := (mkF m 75 #[.val (.ref o0), .val (.ref o1), .val (.ref o2), .val (.ref o3), .val (.int (3 : Int32)), .val (.int (0 : Int32)), .val (.int (3 : Int32))] [(.int (3 : Int32)), (.int (3 : Int32))])) (fun X t q => XS.iload X.here C.hx rfl (hb C.hby d1_73) rfl q) ?_
  refine Wk.st (g' := (mkF m 102 #[.val (.ref o0), .val (.ref o1), .val (.ref o2), .val (.ref o3), .val (.int (3 : Int32)), .val (.int (0 : Int32)), .val (.int (3 : Int32))] [])) (fun X t q => XS.icmpYes X.here C.hx rfl (pc0 := 75) (pc' := 102) rfl (hb C.hby d1_75) rfl (XT.ii_ge_t (by decide)) (by decide) (by decide) q) ?_
  exact Wk.retN0 C rfl d1_102 (by decide) (by decide) ⟨n52_b34, b138, n52_b51, n52_b84, n52_b122, rfl, K202, gz78, gz152, gz84, gz90, gz96, ne147, ne67, ne68, ne69, (Ne.symm ne148), (Ne.symm ne149), (Ne.symm ne150), ne70, ne71, ne72, F186, F187, F188, F189, F190, F191, F192, F193, F194, F195, F196, F197, F198, F199, F178⟩
theorem d4_0 : decode prog_21_method_10_code 0 = .ok (.iload_n 1, 1) := by decide +kernel
theorem d4_1 : decode prog_21_method_10_code 1 = .ok (.ifCond .ne 7, 3) := by decide +kernel
theorem d4_4 : decode prog_21_method_10_code 4 = .ok (.iconst 1, 1) := by decide +kernel
theorem d4_5 : decode prog_21_method_10_code 5 = .ok (.goto 14, 3) := by decide +kernel
theorem d4_8 : decode prog_21_method_10_code 8 = .ok (.aload_n 0, 1) := by decide +kernel
theorem d4_9 : decode prog_21_method_10_code 9 = .ok (.getfield 13, 3) := by decide +kernel
theorem d4_12 : decode prog_21_method_10_code 12 = .ok (.aload_n 0, 1) := by decide +kernel
theorem d4_13 : decode prog_21_method_10_code 13 = .ok (.getfield 7, 3) := by decide +kernel
theorem d4_16 : decode prog_21_method_10_code 16 = .ok (.iload_n 1, 1) := by decide +kernel
theorem d4_17 : decode prog_21_method_10_code 17 = .ok (.iaload, 1) := by decide +kernel
theorem d4_18 : decode prog_21_method_10_code 18 = .ok (.iaload, 1) := by decide +kernel
theorem d4_19 : decode prog_21_method_10_code 19 = .ok (.ireturn, 1) := by decide +kernel
set_option maxRecDepth 65536 in
set_option maxHeartbeats 40000000 in
theorem own_4_2 (l : Launch) (Z : State) (a0 : Array Value) (hw : ∀ d ∈ tables_1, d.before a0 Z = true) (n0 : Nat) (h0 : Heap) (hsz : n0 ≤ h0.size) (o0 : Addr) (o1 : Addr) (o2 : Addr) (o3 : Addr) (o4 : Addr) (o5 : Addr) (o6 : Addr) (o7 : Addr) (o8 : Addr) (x0 : Int32) (x1 : Int32) (x2 : Int32) (P0 : Exa Z h0 o1 "[I") (P1 : Fa Z h0 o1 .int 3 (up (up (up (fun _ => (.int (0 : Int32))) 0 (.int (-1 : Int32))) 1 (.int (0 : Int32))) 2 (.int (0 : Int32)))) (P2 : Exa Z h0 o2 "[I") (P3 : Fa Z h0 o2 .int 3 (up (up (up (fun _ => (.int (0 : Int32))) 0 (.int x0)) 1 (.int x1)) 2 (.int x2))) (P4 : Exa Z h0 o3 "[I") (P5 : Fa Z h0 o3 .int 3 (up (up (up (fun _ => (.int (0 : Int32))) 0 (.int (-1 : Int32))) 1 (.int (-1 : Int32))) 2 (.int (-1 : Int32)))) (P6 : Exa Z h0 o0 "com/example/understory/understory/RootedTree") (P7 : Fld Z h0 o0 "com/example/understory/understory/RootedTree" "parent" "[I" (.ref o1)) (P8 : Fld Z h0 o0 "com/example/understory/understory/RootedTree" "states" "[I" (.ref o2)) (P9 : Fld Z h0 o0 "com/example/understory/understory/RootedTree" "column" "[I" (.ref o3)) (P10 : Exa Z h0 o4 "[[I") (P11 : Exa Z h0 o6 "[I") (P12 : Exa Z h0 o7 "[I") (P13 : Fa Z h0 o7 .int 0 (fun _ => (.int (0 : Int32)))) (P14 : Exa Z h0 o8 "[I") (P15 : Fa Z h0 o8 .int 0 (fun _ => (.int (0 : Int32)))) (P16 : FaA Z h0 o4 .int "[I" 3 (up (up (up (fun _ => .null) 0 (.ref o6)) 1 (.ref o7)) 2 (.ref o8))) (P17 : Fa Z h0 o6 .int 2 (up (up (fun _ => (.int (0 : Int32))) 0 (.int (1 : Int32))) 1 (.int (2 : Int32)))) (P18 : Fld Z h0 o0 "com/example/understory/understory/RootedTree" "children" "[[I" (.ref o4)) (P19 : Exa Z h0 o5 "[I") (P20 : Fa Z h0 o5 .int 0 (fun _ => (.int (0 : Int32)))) (P21 : Fld Z h0 o0 "com/example/understory/understory/RootedTree" "nodeOfColumn" "[I" (.ref o5)) (N_o0_o1 : o0 ≠ o1) (N_o0_o2 : o0 ≠ o2) (N_o0_o3 : o0 ≠ o3) (N_o0_o4 : o0 ≠ o4) (N_o0_o5 : o0 ≠ o5) (N_o0_o6 : o0 ≠ o6) (N_o0_o7 : o0 ≠ o7) (N_o0_o8 : o0 ≠ o8) (N_o1_o2 : o1 ≠ o2) (N_o1_o3 : o1 ≠ o3) (N_o1_o4 : o1 ≠ o4) (N_o1_o5 : o1 ≠ o5) (N_o1_o6 : o1 ≠ o6) (N_o1_o7 : o1 ≠ o7) (N_o1_o8 : o1 ≠ o8) (N_o2_o3 : o2 ≠ o3) (N_o2_o4 : o2 ≠ o4) (N_o2_o5 : o2 ≠ o5) (N_o2_o6 : o2 ≠ o6) (N_o2_o7 : o2 ≠ o7) (N_o2_o8 : o2 ≠ o8) (N_o3_o4 : o3 ≠ o4) (N_o3_o5 : o3 ≠ o5) (N_o3_o6 : o3 ≠ o6) (N_o3_o7 : o3 ≠ o7) (N_o3_o8 : o3 ≠ o8) (N_o4_o5 : o4 ≠ o5) (N_o4_o6 : o4 ≠ o6) (N_o4_o7 : o4 ≠ o7) (N_o4_o8 : o4 ≠ o8) (N_o5_o6 : o5 ≠ o6) (N_o5_o7 : o5 ≠ o7) (N_o5_o8 : o5 ≠ o8) (N_o6_o7 : o6 ≠ o7) (N_o6_o8 : o6 ≠ o8) (N_o7_o8 : o7 ≠ o8) (G_o0 : n0 ≤ o0) (G_o1 : n0 ≤ o1) (G_o2 : n0 ≤ o2) (G_o3 : n0 ≤ o3) (G_o4 : n0 ≤ o4) (G_o5 : n0 ≤ o5) (G_o6 : n0 ≤ o6) (G_o7 : n0 ≤ o7) (G_o8 : n0 ≤ o8) :
    Met false l Z n0 (⟨"com/example/understory/understory/RootedTree", "parentStates", "(I)I"⟩ : MethodName) prog_21_method_10_code 2 (some .int) ({ frames := 0, cells := 0, slots := 0, locals := 0 } : Room) #[(.ref o0), (.int (0 : Int32))] h0 (fun v h => v = some (.int (1 : Int32)) ∧ h0 = h) := by
  refine Met.of pn_0 #[.val (.ref o0), .val (.int (0 : Int32))] (fun m => by first | (simp [entryFrame, mkF, argsToLocals, Value.category]; done) | rfl) ?_
  intro p e s m below meth c C
  refine Wk.st (g' := (mkF m 1 #[.val (.ref o0), .val (.int (0 : Int32))] [(.int (0 : Int32))])) (fun X t q => XS.iloadN X.here C.hx rfl (hb C.hby d4_0) rfl q) ?_
  refine Wk.st (g' := (mkF m 4 #[.val (.ref o0), .val (.int (0 : Int32))] [])) (fun X t q => XS.ifNo X.here C.hx rfl (hb C.hby d4_1) rfl (XT.i0_ne_f (by decide)) q) ?_
  refine Wk.st (g' := (mkF m 5 #[.val (.ref o0), .val (.int (0 : Int32))] [(.int (1 : Int32))])) (fun X t q => XS.iconst X.here C.hx rfl (hb C.hby d4_4) q) ?_
  refine Wk.st (g' := (mkF m 19 #[.val (.ref o0), .val (.int (0 : Int32))] [(.int (1 : Int32))])) (fun X t q => XS.goto X.here C.hx rfl (pc0 := 5) (pc' := 19) rfl (hb C.hby d4_5) (by decide) (by decide) q) ?_
  exact Wk.retV C (t := .int) rfl rfl (Or.inl ⟨rfl, by simp, _, rfl⟩) d4_19 (by decide) (by decide) ⟨rfl, rfl⟩
set_option maxRecDepth 65536 in
set_option maxHeartbeats 40000000 in
theorem own_4_3 (l : Launch) (Z : State) (a0 : Array Value) (hw : ∀ d ∈ tables_1, d.before a0 Z = true) (n0 : Nat) (h0 : Heap) (hsz : n0 ≤ h0.size) (o0 : Addr) (o1 : Addr) (o2 : Addr) (o3 : Addr) (o4 : Addr) (o5 : Addr) (o6 : Addr) (o7 : Addr) (o8 : Addr) (x0 : Int32) (x1 : Int32) (x2 : Int32) (P0 : Exa Z h0 o1 "[I") (P1 : Fa Z h0 o1 .int 3 (up (up (up (fun _ => (.int (0 : Int32))) 0 (.int (-1 : Int32))) 1 (.int (0 : Int32))) 2 (.int (0 : Int32)))) (P2 : Exa Z h0 o2 "[I") (P3 : Fa Z h0 o2 .int 3 (up (up (up (fun _ => (.int (0 : Int32))) 0 (.int x0)) 1 (.int x1)) 2 (.int x2))) (P4 : Exa Z h0 o3 "[I") (P5 : Fa Z h0 o3 .int 3 (up (up (up (fun _ => (.int (0 : Int32))) 0 (.int (-1 : Int32))) 1 (.int (-1 : Int32))) 2 (.int (-1 : Int32)))) (P6 : Exa Z h0 o0 "com/example/understory/understory/RootedTree") (P7 : Fld Z h0 o0 "com/example/understory/understory/RootedTree" "parent" "[I" (.ref o1)) (P8 : Fld Z h0 o0 "com/example/understory/understory/RootedTree" "states" "[I" (.ref o2)) (P9 : Fld Z h0 o0 "com/example/understory/understory/RootedTree" "column" "[I" (.ref o3)) (P10 : Exa Z h0 o4 "[[I") (P11 : Exa Z h0 o6 "[I") (P12 : Exa Z h0 o7 "[I") (P13 : Fa Z h0 o7 .int 0 (fun _ => (.int (0 : Int32)))) (P14 : Exa Z h0 o8 "[I") (P15 : Fa Z h0 o8 .int 0 (fun _ => (.int (0 : Int32)))) (P16 : FaA Z h0 o4 .int "[I" 3 (up (up (up (fun _ => .null) 0 (.ref o6)) 1 (.ref o7)) 2 (.ref o8))) (P17 : Fa Z h0 o6 .int 2 (up (up (fun _ => (.int (0 : Int32))) 0 (.int (1 : Int32))) 1 (.int (2 : Int32)))) (P18 : Fld Z h0 o0 "com/example/understory/understory/RootedTree" "children" "[[I" (.ref o4)) (P19 : Exa Z h0 o5 "[I") (P20 : Fa Z h0 o5 .int 0 (fun _ => (.int (0 : Int32)))) (P21 : Fld Z h0 o0 "com/example/understory/understory/RootedTree" "nodeOfColumn" "[I" (.ref o5)) (N_o0_o1 : o0 ≠ o1) (N_o0_o2 : o0 ≠ o2) (N_o0_o3 : o0 ≠ o3) (N_o0_o4 : o0 ≠ o4) (N_o0_o5 : o0 ≠ o5) (N_o0_o6 : o0 ≠ o6) (N_o0_o7 : o0 ≠ o7) (N_o0_o8 : o0 ≠ o8) (N_o1_o2 : o1 ≠ o2) (N_o1_o3 : o1 ≠ o3) (N_o1_o4 : o1 ≠ o4) (N_o1_o5 : o1 ≠ o5) (N_o1_o6 : o1 ≠ o6) (N_o1_o7 : o1 ≠ o7) (N_o1_o8 : o1 ≠ o8) (N_o2_o3 : o2 ≠ o3) (N_o2_o4 : o2 ≠ o4) (N_o2_o5 : o2 ≠ o5) (N_o2_o6 : o2 ≠ o6) (N_o2_o7 : o2 ≠ o7) (N_o2_o8 : o2 ≠ o8) (N_o3_o4 : o3 ≠ o4) (N_o3_o5 : o3 ≠ o5) (N_o3_o6 : o3 ≠ o6) (N_o3_o7 : o3 ≠ o7) (N_o3_o8 : o3 ≠ o8) (N_o4_o5 : o4 ≠ o5) (N_o4_o6 : o4 ≠ o6) (N_o4_o7 : o4 ≠ o7) (N_o4_o8 : o4 ≠ o8) (N_o5_o6 : o5 ≠ o6) (N_o5_o7 : o5 ≠ o7) (N_o5_o8 : o5 ≠ o8) (N_o6_o7 : o6 ≠ o7) (N_o6_o8 : o6 ≠ o8) (N_o7_o8 : o7 ≠ o8) (G_o0 : n0 ≤ o0) (G_o1 : n0 ≤ o1) (G_o2 : n0 ≤ o2) (G_o3 : n0 ≤ o3) (G_o4 : n0 ≤ o4) (G_o5 : n0 ≤ o5) (G_o6 : n0 ≤ o6) (G_o7 : n0 ≤ o7) (G_o8 : n0 ≤ o8) :
    Met false l Z n0 (⟨"com/example/understory/understory/RootedTree", "parentStates", "(I)I"⟩ : MethodName) prog_21_method_10_code 2 (some .int) ({ frames := 0, cells := 0, slots := 0, locals := 0 } : Room) #[(.ref o0), (.int (1 : Int32))] h0 (fun v h => v = some (.int x0) ∧ h0 = h) := by
  refine Met.of pn_0 #[.val (.ref o0), .val (.int (1 : Int32))] (fun m => by first | (simp [entryFrame, mkF, argsToLocals, Value.category]; done) | rfl) ?_
  intro p e s m below meth c C
  refine Wk.st (g' := (mkF m 1 #[.val (.ref o0), .val (.int (1 : Int32))] [(.int (1 : Int32))])) (fun X t q => XS.iloadN X.here C.hx rfl (hb C.hby d4_0) rfl q) ?_
  refine Wk.st (g' := (mkF m 8 #[.val (.ref o0), .val (.int (1 : Int32))] [])) (fun X t q => XS.ifYes X.here C.hx rfl (pc0 := 1) (pc' := 8) rfl (hb C.hby d4_1) rfl (XT.i0_ne_t (by decide)) (by decide) (by decide) q) ?_
  refine Wk.st (g' := (mkF m 9 #[.val (.ref o0), .val (.int (1 : Int32))] [(.ref o0)])) (fun X t q => XS.aloadN X.here C.hx rfl (hb C.hby d4_8) rfl rfl q) ?_
  refine Wk.getF C (hw _ (List.mem_of_getElem? (i := 12) rfl)) Via.refl P8 d4_9 ?_
  show Wk _ p l e _ s m _ below meth c n0 _ h0 0 0 (mkF m 12 #[.val (.ref o0), .val (.int (1 : Int32))] [(.ref o2)])
  refine Wk.st (g' := (mkF m 13 #[.val (.ref o0), .val (.int (1 : Int32))] [(.ref o0), (.ref o2)])) (fun X t q => XS.aloadN X.here C.hx rfl (hb C.hby d4_12) rfl rfl q) ?_
  refine Wk.getF C (hw _ (List.mem_of_getElem? (i := 10) rfl)) Via.refl P7 d4_13 ?_
  show Wk _ p l e _ s m _ below meth c n0 _ h0 0 0 (mkF m 16 #[.val (.ref o0), .val (.int (1 : Int32))] [(.ref o1), (.ref o2)])
  refine Wk.st (g' := (mkF m 17 #[.val (.ref o0), .val (.int (1 : Int32))] [(.int (1 : Int32)), (.ref o1), (.ref o2)])) (fun X t q => XS.iloadN X.here C.hx rfl (hb C.hby d4_16) rfl q) ?_
  refine Wk.fLdI C P1 (i := 1) (by decide) (by decide) (by decide) (v := (.int (0 : Int32))) (by simp [up]) d4_17 ?_
  show Wk _ p l e _ s m _ below meth c n0 _ h0 0 0 (mkF m 18 #[.val (.ref o0), .val (.int (1 : Int32))] [(.int (0 : Int32)), (.ref o2)])
  refine Wk.fLdI C P3 (i := 0) (by decide) (by decide) (by decide) (v := (.int x0)) (by simp [up]) d4_18 ?_
  show Wk _ p l e _ s m _ below meth c n0 _ h0 0 0 (mkF m 19 #[.val (.ref o0), .val (.int (1 : Int32))] [(.int x0)])
  exact Wk.retV C (t := .int) rfl rfl (Or.inl ⟨rfl, by simp, _, rfl⟩) d4_19 (by decide) (by decide) ⟨rfl, rfl⟩
set_option maxRecDepth 65536 in
set_option maxHeartbeats 40000000 in
theorem own_4_4 (l : Launch) (Z : State) (a0 : Array Value) (hw : ∀ d ∈ tables_1, d.before a0 Z = true) (n0 : Nat) (h0 : Heap) (hsz : n0 ≤ h0.size) (o0 : Addr) (o1 : Addr) (o2 : Addr) (o3 : Addr) (o4 : Addr) (o5 : Addr) (o6 : Addr) (o7 : Addr) (o8 : Addr) (x0 : Int32) (x1 : Int32) (x2 : Int32) (P0 : Exa Z h0 o1 "[I") (P1 : Fa Z h0 o1 .int 3 (up (up (up (fun _ => (.int (0 : Int32))) 0 (.int (-1 : Int32))) 1 (.int (0 : Int32))) 2 (.int (0 : Int32)))) (P2 : Exa Z h0 o2 "[I") (P3 : Fa Z h0 o2 .int 3 (up (up (up (fun _ => (.int (0 : Int32))) 0 (.int x0)) 1 (.int x1)) 2 (.int x2))) (P4 : Exa Z h0 o3 "[I") (P5 : Fa Z h0 o3 .int 3 (up (up (up (fun _ => (.int (0 : Int32))) 0 (.int (-1 : Int32))) 1 (.int (-1 : Int32))) 2 (.int (-1 : Int32)))) (P6 : Exa Z h0 o0 "com/example/understory/understory/RootedTree") (P7 : Fld Z h0 o0 "com/example/understory/understory/RootedTree" "parent" "[I" (.ref o1)) (P8 : Fld Z h0 o0 "com/example/understory/understory/RootedTree" "states" "[I" (.ref o2)) (P9 : Fld Z h0 o0 "com/example/understory/understory/RootedTree" "column" "[I" (.ref o3)) (P10 : Exa Z h0 o4 "[[I") (P11 : Exa Z h0 o6 "[I") (P12 : Exa Z h0 o7 "[I") (P13 : Fa Z h0 o7 .int 0 (fun _ => (.int (0 : Int32)))) (P14 : Exa Z h0 o8 "[I") (P15 : Fa Z h0 o8 .int 0 (fun _ => (.int (0 : Int32)))) (P16 : FaA Z h0 o4 .int "[I" 3 (up (up (up (fun _ => .null) 0 (.ref o6)) 1 (.ref o7)) 2 (.ref o8))) (P17 : Fa Z h0 o6 .int 2 (up (up (fun _ => (.int (0 : Int32))) 0 (.int (1 : Int32))) 1 (.int (2 : Int32)))) (P18 : Fld Z h0 o0 "com/example/understory/understory/RootedTree" "children" "[[I" (.ref o4)) (P19 : Exa Z h0 o5 "[I") (P20 : Fa Z h0 o5 .int 0 (fun _ => (.int (0 : Int32)))) (P21 : Fld Z h0 o0 "com/example/understory/understory/RootedTree" "nodeOfColumn" "[I" (.ref o5)) (N_o0_o1 : o0 ≠ o1) (N_o0_o2 : o0 ≠ o2) (N_o0_o3 : o0 ≠ o3) (N_o0_o4 : o0 ≠ o4) (N_o0_o5 : o0 ≠ o5) (N_o0_o6 : o0 ≠ o6) (N_o0_o7 : o0 ≠ o7) (N_o0_o8 : o0 ≠ o8) (N_o1_o2 : o1 ≠ o2) (N_o1_o3 : o1 ≠ o3) (N_o1_o4 : o1 ≠ o4) (N_o1_o5 : o1 ≠ o5) (N_o1_o6 : o1 ≠ o6) (N_o1_o7 : o1 ≠ o7) (N_o1_o8 : o1 ≠ o8) (N_o2_o3 : o2 ≠ o3) (N_o2_o4 : o2 ≠ o4) (N_o2_o5 : o2 ≠ o5) (N_o2_o6 : o2 ≠ o6) (N_o2_o7 : o2 ≠ o7) (N_o2_o8 : o2 ≠ o8) (N_o3_o4 : o3 ≠ o4) (N_o3_o5 : o3 ≠ o5) (N_o3_o6 : o3 ≠ o6) (N_o3_o7 : o3 ≠ o7) (N_o3_o8 : o3 ≠ o8) (N_o4_o5 : o4 ≠ o5) (N_o4_o6 : o4 ≠ o6) (N_o4_o7 : o4 ≠ o7) (N_o4_o8 : o4 ≠ o8) (N_o5_o6 : o5 ≠ o6) (N_o5_o7 : o5 ≠ o7) (N_o5_o8 : o5 ≠ o8) (N_o6_o7 : o6 ≠ o7) (N_o6_o8 : o6 ≠ o8) (N_o7_o8 : o7 ≠ o8) (G_o0 : n0 ≤ o0) (G_o1 : n0 ≤ o1) (G_o2 : n0 ≤ o2) (G_o3 : n0 ≤ o3) (G_o4 : n0 ≤ o4) (G_o5 : n0 ≤ o5) (G_o6 : n0 ≤ o6) (G_o7 : n0 ≤ o7) (G_o8 : n0 ≤ o8) :
    Met false l Z n0 (⟨"com/example/understory/understory/RootedTree", "parentStates", "(I)I"⟩ : MethodName) prog_21_method_10_code 2 (some .int) ({ frames := 0, cells := 0, slots := 0, locals := 0 } : Room) #[(.ref o0), (.int (2 : Int32))] h0 (fun v h => v = some (.int x0) ∧ h0 = h) := by
  refine Met.of pn_0 #[.val (.ref o0), .val (.int (2 : Int32))] (fun m => by first | (simp [entryFrame, mkF, argsToLocals, Value.category]; done) | rfl) ?_
  intro p e s m below meth c C
  refine Wk.st (g' := (mkF m 1 #[.val (.ref o0), .val (.int (2 : Int32))] [(.int (2 : Int32))])) (fun X t q => XS.iloadN X.here C.hx rfl (hb C.hby d4_0) rfl q) ?_
  refine Wk.st (g' := (mkF m 8 #[.val (.ref o0), .val (.int (2 : Int32))] [])) (fun X t q => XS.ifYes X.here C.hx rfl (pc0 := 1) (pc' := 8) rfl (hb C.hby d4_1) rfl (XT.i0_ne_t (by decide)) (by decide) (by decide) q) ?_
  refine Wk.st (g' := (mkF m 9 #[.val (.ref o0), .val (.int (2 : Int32))] [(.ref o0)])) (fun X t q => XS.aloadN X.here C.hx rfl (hb C.hby d4_8) rfl rfl q) ?_
  refine Wk.getF C (hw _ (List.mem_of_getElem? (i := 12) rfl)) Via.refl P8 d4_9 ?_
  show Wk _ p l e _ s m _ below meth c n0 _ h0 0 0 (mkF m 12 #[.val (.ref o0), .val (.int (2 : Int32))] [(.ref o2)])
  refine Wk.st (g' := (mkF m 13 #[.val (.ref o0), .val (.int (2 : Int32))] [(.ref o0), (.ref o2)])) (fun X t q => XS.aloadN X.here C.hx rfl (hb C.hby d4_12) rfl rfl q) ?_
  refine Wk.getF C (hw _ (List.mem_of_getElem? (i := 10) rfl)) Via.refl P7 d4_13 ?_
  show Wk _ p l e _ s m _ below meth c n0 _ h0 0 0 (mkF m 16 #[.val (.ref o0), .val (.int (2 : Int32))] [(.ref o1), (.ref o2)])
  refine Wk.st (g' := (mkF m 17 #[.val (.ref o0), .val (.int (2 : Int32))] [(.int (2 : Int32)), (.ref o1), (.ref o2)])) (fun X t q => XS.iloadN X.here C.hx rfl (hb C.hby d4_16) rfl q) ?_
  refine Wk.fLdI C P1 (i := 2) (by decide) (by decide) (by decide) (v := (.int (0 : Int32))) (by simp [up]) d4_17 ?_
  show Wk _ p l e _ s m _ below meth c n0 _ h0 0 0 (mkF m 18 #[.val (.ref o0), .val (.int (2 : Int32))] [(.int (0 : Int32)), (.ref o2)])
  refine Wk.fLdI C P3 (i := 0) (by decide) (by decide) (by decide) (v := (.int x0)) (by simp [up]) d4_18 ?_
  show Wk _ p l e _ s m _ below meth c n0 _ h0 0 0 (mkF m 19 #[.val (.ref o0), .val (.int (2 : Int32))] [(.int x0)])
  exact Wk.retV C (t := .int) rfl rfl (Or.inl ⟨rfl, by simp, _, rfl⟩) d4_19 (by decide) (by decide) ⟨rfl, rfl⟩
set_option maxRecDepth 65536 in
set_option maxHeartbeats 40000000 in
theorem own_3_5 (l : Launch) (Z : State) (a0 : Array Value) (hw : ∀ d ∈ tables_1, d.before a0 Z = true) (n0 : Nat) (h0 : Heap) (hsz : n0 ≤ h0.size) (o0 : Addr) (P0 : Exa Z h0 o0 "[I") (P1 : Fa Z h0 o0 .int 3 (up (up (up (fun _ => (.int (0 : Int32))) 0 (.int (-1 : Int32))) 1 (.int (0 : Int32))) 2 (.int (1 : Int32)))) (G_o0 : n0 ≤ o0) :
    Met false l Z n0 (⟨"com/example/understory/understory/RootedTree", "childrenOf", "([I)[[I"⟩ : MethodName) prog_21_method_2_code 6 (some (.array (.array .int))) ({ frames := 0, cells := 6, slots := 11, locals := 0 } : Room) #[(.ref o0)] h0 (fun v h => ∃ b34 : Addr, ∃ b51 : Addr, ∃ b84 : Addr, ∃ b122 : Addr, v = some (.ref b34) ∧ Keep h0 h [] ∧ h0.size ≤ b34 ∧ h0.size ≤ b51 ∧ h0.size ≤ b84 ∧ h0.size ≤ b122 ∧ b34 ≠ b51 ∧ b34 ≠ b84 ∧ b34 ≠ b122 ∧ b51 ≠ b84 ∧ b51 ≠ b122 ∧ b84 ≠ b122 ∧ Exa Z h b34 "[[I" ∧ Exa Z h b51 "[I" ∧ Exa Z h b84 "[I" ∧ Exa Z h b122 "[I" ∧ Fa Z h b122 .int 0 (fun _ => (.int (0 : Int32))) ∧ FaA Z h b34 .int "[I" 3 (up (up (up (fun _ => .null) 0 (.ref b51)) 1 (.ref b84)) 2 (.ref b122)) ∧ Fa Z h b51 .int 1 (up (fun _ => (.int (0 : Int32))) 0 (.int (1 : Int32))) ∧ Fa Z h b84 .int 1 (up (fun _ => (.int (0 : Int32))) 0 (.int (2 : Int32)))) := by
  refine Met.of pn_0 #[.val (.ref o0), .unset, .unset, .unset, .unset, .unset] (fun m => by first | (simp [entryFrame, mkF, argsToLocals, Value.category]; done) | rfl) ?_
  intro p e s m below meth c C
  refine Wk.st (g' := (mkF m 1 #[.val (.ref o0), .unset, .unset, .unset, .unset, .unset] [(.ref o0)])) (fun X t q => XS.aloadN X.here C.hx rfl (hb C.hby d3_0) rfl rfl q) ?_
  refine Wk.fLen C P1 (z := (3 : Int32)) (by decide) d3_1 ?_
  show Wk _ p l e _ s m _ below meth c n0 _ h0 0 0 (mkF m 2 #[.val (.ref o0), .unset, .unset, .unset, .unset, .unset] [(.int (3 : Int32))])
  refine Wk.st (g' := (mkF m 3 #[.val (.ref o0), .val (.int (3 : Int32)), .unset, .unset, .unset, .unset] [])) (fun X t q => XS.istoreN X.here C.hx rfl (hb C.hby d3_2) rfl (l' := #[.val (.ref o0), .val (.int (3 : Int32)), .unset, .unset, .unset, .unset]) rfl q) ?_
  refine Wk.st (g' := (mkF m 4 #[.val (.ref o0), .val (.int (3 : Int32)), .unset, .unset, .unset, .unset] [(.int (3 : Int32))])) (fun X t q => XS.iloadN X.here C.hx rfl (hb C.hby d3_3) rfl q) ?_
  refine Wk.fNewP C (hw _ (List.mem_of_getElem? (i := 0) rfl)) (ty := .int) (dv := (.int (0 : Int32))) (N := 3) (ad := "[I") rfl rfl (by decide) (by decide) (by decide) (cap := 3) (by decide) (by decide) d3_4 (by decide) (by decide) ?_
  intro h1 b2 g3 E4 A5 F6
  have ne7 : o0 ≠ b2 := Nat.ne_of_lt (Nat.lt_of_lt_of_le P0.lt (Nat.le_of_eq g3.symm))
  have ge8 : n0 ≤ b2 := Nat.le_trans hsz (Nat.le_of_eq g3.symm)
  have gz9 : h0.size ≤ b2 := Nat.le_trans (Nat.le_refl h0.size) (Nat.le_of_eq g3.symm)
  have F10 : Exa Z h1 o0 "[I" := P0.ext E4
  have F11 : Fa Z h1 o0 .int 3 (up (up (up (fun _ => (.int (0 : Int32))) 0 (.int (-1 : Int32))) 1 (.int (0 : Int32))) 2 (.int (1 : Int32))) := P1.ext E4
  have sz12 : n0 ≤ h1.size := Nat.le_trans hsz E4.1
  have sy13 : h0.size ≤ h1.size := Nat.le_trans (Nat.le_refl h0.size) E4.1
  have K14 := (Keep.refl h0 []).ext E4
  show Wk _ p l e _ s m _ below meth c n0 _ h1 1 3 (mkF m 6 #[.val (.ref o0), .val (.int (3 : Int32)), .unset, .unset, .unset, .unset] [(.ref b2)])
  refine Wk.st (g' := (mkF m 7 #[.val (.ref o0), .val (.int (3 : Int32)), .val (.ref b2), .unset, .unset, .unset] [])) (fun X t q => XS.astoreN X.here C.hx rfl (hb C.hby d3_6) rfl rfl (l' := #[.val (.ref o0), .val (.int (3 : Int32)), .val (.ref b2), .unset, .unset, .unset]) rfl q) ?_
  refine Wk.st (g' := (mkF m 8 #[.val (.ref o0), .val (.int (3 : Int32)), .val (.ref b2), .unset, .unset, .unset] [(.int (0 : Int32))])) (fun X t q => XS.iconst X.here C.hx rfl (hb C.hby d3_7) q) ?_
  refine Wk.st (g' := (mkF m 9 #[.val (.ref o0), .val (.int (3 : Int32)), .val (.ref b2), .val (.int (0 : Int32)), .unset, .unset] [])) (fun X t q => XS.istoreN X.here C.hx rfl (hb C.hby d3_8) rfl (l' := #[.val (.ref o0), .val (.int (3 : Int32)), .val (.ref b2), .val (.int (0 : Int32)), .unset, .unset]) rfl q) ?_
  refine Wk.st (g' := (mkF m 10 #[.val (.ref o0), .val (.int (3 : Int32)), .val (.ref b2), .val (.int (0 : Int32)), .unset, .unset] [(.int (0 : Int32))])) (fun X t q => XS.iloadN X.here C.hx rfl (hb C.hby d3_9) rfl q) ?_
  refine Wk.st (g' := (mkF m 11 #[.val (.ref o0), .val (.int (3 : Int32)), .val (.ref b2), .val (.int (0 : Int32)), .unset, .unset] [(.int (3 : Int32)), (.int (0 : Int32))])) (fun X t q => XS.iloadN X.here C.hx rfl (hb C.hby d3_10) rfl q) ?_
  refine Wk.st (g' := (mkF m 14 #[.val (.ref o0), .val (.int (3 : Int32)), .val (.ref b2), .val (.int (0 : Int32)), .unset, .unset] [])) (fun X t q => XS.icmpNo X.here C.hx rfl (hb C.hby d3_11) rfl (XT.ii_ge_f (by decide)) q) ?_
  refine Wk.st (g' := (mkF m 15 #[.val (.ref o0), .val (.int (3 : Int32)), .val (.ref b2), .val (.int (0 : Int32)), .unset, .unset] [(.ref o0)])) (fun X t q => XS.aloadN X.here C.hx rfl (hb C.hby d3_14) rfl rfl q) ?_
  refine Wk.st (g' := (mkF m 16 #[.val (.ref o0), .val (.int (3 : Int32)), .val (.ref b2), .val (.int (0 : Int32)), .unset, .unset] [(.int (0 : Int32)), (.ref o0)])) (fun X t q => XS.iloadN X.here C.hx rfl (hb C.hby d3_15) rfl q) ?_
  refine Wk.fLdI C F11 (i := 0) (by decide) (by decide) (by decide) (v := (.int (-1 : Int32))) (by simp [up]) d3_16 ?_
  show Wk _ p l e _ s m _ below meth c n0 _ h1 1 3 (mkF m 17 #[.val (.ref o0), .val (.int (3 : Int32)), .val (.ref b2), .val (.int (0 : Int32)), .unset, .unset] [(.int (-1 : Int32))])
  refine Wk.st (g' := (mkF m 29 #[.val (.ref o0), .val (.int (3 : Int32)), .val (.ref b2), .val (.int (0 : Int32)), .unset, .unset] [])) (fun X t q => XS.ifYes X.here C.hx rfl (pc0 := 17) (pc' := 29) rfl (hb C.hby d3_17) rfl (XT.i0_lt_t (by decide)) (by decide) (by decide) q) ?_
  refine Wk.st (g' := (mkF m 32 #[.val (.ref o0), .val (.int (3 : Int32)), .val (.ref b2), .val (.int (1 : Int32)), .unset, .unset] [])) (fun X t q => XS.iinc X.here C.hx rfl (hb C.hby d3_29) rfl (l' := #[.val (.ref o0), .val (.int (3 : Int32)), .val (.ref b2), .val (.int (1 : Int32)), .unset, .unset]) rfl q) ?_
  refine Wk.st (g' := (mkF m 9 #[.val (.ref o0), .val (.int (3 : Int32)), .val (.ref b2), .val (.int (1 : Int32)), .unset, .unset] [])) (fun X t q => XS.goto X.here C.hx rfl (pc0 := 32) (pc' := 9) rfl (hb C.hby d3_32) (by decide) (by decide) q) ?_
  refine Wk.st (g' := (mkF m 10 #[.val (.ref o0), .val (.int (3 : Int32)), .val (.ref b2), .val (.int (1 : Int32)), .unset, .unset] [(.int (1 : Int32))])) (fun X t q => XS.iloadN X.here C.hx rfl (hb C.hby d3_9) rfl q) ?_
  refine Wk.st (g' := (mkF m 11 #[.val (.ref o0), .val (.int (3 : Int32)), .val (.ref b2), .val (.int (1 : Int32)), .unset, .unset] [(.int (3 : Int32)), (.int (1 : Int32))])) (fun X t q => XS.iloadN X.here C.hx rfl (hb C.hby d3_10) rfl q) ?_
  refine Wk.st (g' := (mkF m 14 #[.val (.ref o0), .val (.int (3 : Int32)), .val (.ref b2), .val (.int (1 : Int32)), .unset, .unset] [])) (fun X t q => XS.icmpNo X.here C.hx rfl (hb C.hby d3_11) rfl (XT.ii_ge_f (by decide)) q) ?_
  refine Wk.st (g' := (mkF m 15 #[.val (.ref o0), .val (.int (3 : Int32)), .val (.ref b2), .val (.int (1 : Int32)), .unset, .unset] [(.ref o0)])) (fun X t q => XS.aloadN X.here C.hx rfl (hb C.hby d3_14) rfl rfl q) ?_
  refine Wk.st (g' := (mkF m 16 #[.val (.ref o0), .val (.int (3 : Int32)), .val (.ref b2), .val (.int (1 : Int32)), .unset, .unset] [(.int (1 : Int32)), (.ref o0)])) (fun X t q => XS.iloadN X.here C.hx rfl (hb C.hby d3_15) rfl q) ?_
  refine Wk.fLdI C F11 (i := 1) (by decide) (by decide) (by decide) (v := (.int (0 : Int32))) (by simp [up]) d3_16 ?_
  show Wk _ p l e _ s m _ below meth c n0 _ h1 1 3 (mkF m 17 #[.val (.ref o0), .val (.int (3 : Int32)), .val (.ref b2), .val (.int (1 : Int32)), .unset, .unset] [(.int (0 : Int32))])
  refine Wk.st (g' := (mkF m 20 #[.val (.ref o0), .val (.int (3 : Int32)), .val (.ref b2), .val (.int (1 : Int32)), .unset, .unset] [])) (fun X t q => XS.ifNo X.here C.hx rfl (hb C.hby d3_17) rfl (XT.i0_lt_f (by decide)) q) ?_
  refine Wk.st (g' := (mkF m 21 #[.val (.ref o0), .val (.int (3 : Int32)), .val (.ref b2), .val (.int (1 : Int32)), .unset, .unset] [(.ref b2)])) (fun X t q => XS.aloadN X.here C.hx rfl (hb C.hby d3_20) rfl rfl q) ?_
  refine Wk.st (g' := (mkF m 22 #[.val (.ref o0), .val (.int (3 : Int32)), .val (.ref b2), .val (.int (1 : Int32)), .unset, .unset] [(.ref o0), (.ref b2)])) (fun X t q => XS.aloadN X.here C.hx rfl (hb C.hby d3_21) rfl rfl q) ?_
  refine Wk.st (g' := (mkF m 23 #[.val (.ref o0), .val (.int (3 : Int32)), .val (.ref b2), .val (.int (1 : Int32)), .unset, .unset] [(.int (1 : Int32)), (.ref o0), (.ref b2)])) (fun X t q => XS.iloadN X.here C.hx rfl (hb C.hby d3_22) rfl q) ?_
  refine Wk.fLdI C F11 (i := 1) (by decide) (by decide) (by decide) (v := (.int (0 : Int32))) (by simp [up]) d3_23 ?_
  show Wk _ p l e _ s m _ below meth c n0 _ h1 1 3 (mkF m 24 #[.val (.ref o0), .val (.int (3 : Int32)), .val (.ref b2), .val (.int (1 : Int32)), .unset, .unset] [(.int (0 : Int32)), (.ref b2)])
  refine Wk.st (g' := (mkF m 25 #[.val (.ref o0), .val (.int (3 : Int32)), .val (.ref b2), .val (.int (1 : Int32)), .unset, .unset] [(.int (0 : Int32)), (.ref b2), (.int (0 : Int32)), (.ref b2)])) (fun X t q => XT.dup2 X.here C.hx rfl (hb C.hby d3_24) rfl rfl rfl q) ?_
  refine Wk.fLdI C F6 (i := 0) (by decide) (by decide) (by decide) (v := (.int (0 : Int32))) rfl d3_25 ?_
  show Wk _ p l e _ s m _ below meth c n0 _ h1 1 3 (mkF m 26 #[.val (.ref o0), .val (.int (3 : Int32)), .val (.ref b2), .val (.int (1 : Int32)), .unset, .unset] [(.int (0 : Int32)), (.int (0 : Int32)), (.ref b2)])
  refine Wk.st (g' := (mkF m 27 #[.val (.ref o0), .val (.int (3 : Int32)), .val (.ref b2), .val (.int (1 : Int32)), .unset, .unset] [(.int (1 : Int32)), (.int (0 : Int32)), (.int (0 : Int32)), (.ref b2)])) (fun X t q => XS.iconst X.here C.hx rfl (hb C.hby d3_26) q) ?_
  refine Wk.st (g' := (mkF m 28 #[.val (.ref o0), .val (.int (3 : Int32)), .val (.ref b2), .val (.int (1 : Int32)), .unset, .unset] [(.int (1 : Int32)), (.int (0 : Int32)), (.ref b2)])) (fun X t q => XS.iadd X.here C.hx rfl (hb C.hby d3_27) rfl q) ?_
  refine Wk.fStI C F6 (i := 0) (by decide) (by decide) (by decide) ge8 d3_28 ?_
  intro h15 W16 F17
  have F18 : Exa Z h15 o0 "[I" := F10.wr W16
  have F19 : Fa Z h15 o0 .int 3 (up (up (up (fun _ => (.int (0 : Int32))) 0 (.int (-1 : Int32))) 1 (.int (0 : Int32))) 2 (.int (1 : Int32))) := F11.other W16 ne7
  have F20 : Exa Z h15 b2 "[I" := A5.wr W16
  have sz21 : n0 ≤ h15.size := Nat.le_trans sz12 (Nat.le_of_eq W16.size.symm)
  have sy22 : h0.size ≤ h15.size := Nat.le_trans sy13 (Nat.le_of_eq W16.size.symm)
  have K23 := K14.wr W16 (Or.inr gz9)
  show Wk _ p l e _ s m _ below meth c n0 _ h15 1 3 (mkF m 29 #[.val (.ref o0), .val (.int (3 : Int32)), .val (.ref b2), .val (.int (1 : Int32)), .unset, .unset] [])
  refine Wk.st (g' := (mkF m 32 #[.val (.ref o0), .val (.int (3 : Int32)), .val (.ref b2), .val (.int (2 : Int32)), .unset, .unset] [])) (fun X t q => XS.iinc X.here C.hx rfl (hb C.hby d3_29) rfl (l' := #[.val (.ref o0), .val (.int (3 : Int32)), .val (.ref b2), .val (.int (2 : Int32)), .unset, .unset]) rfl q) ?_
  refine Wk.st (g' := (mkF m 9 #[.val (.ref o0), .val (.int (3 : Int32)), .val (.ref b2), .val (.int (2 : Int32)), .unset, .unset] [])) (fun X t q => XS.goto X.here C.hx rfl (pc0 := 32) (pc' := 9) rfl (hb C.hby d3_32) (by decide) (by decide) q) ?_
  refine Wk.st (g' := (mkF m 10 #[.val (.ref o0), .val (.int (3 : Int32)), .val (.ref b2), .val (.int (2 : Int32)), .unset, .unset] [(.int (2 : Int32))])) (fun X t q => XS.iloadN X.here C.hx rfl (hb C.hby d3_9) rfl q) ?_
  refine Wk.st (g' := (mkF m 11 #[.val (.ref o0), .val (.int (3 : Int32)), .val (.ref b2), .val (.int (2 : Int32)), .unset, .unset] [(.int (3 : Int32)), (.int (2 : Int32))])) (fun X t q => XS.iloadN X.here C.hx rfl (hb C.hby d3_10) rfl q) ?_
  refine Wk.st (g' := (mkF m 14 #[.val (.ref o0), .val (.int (3 : Int32)), .val (.ref b2), .val (.int (2 : Int32)), .unset, .unset] [])) (fun X t q => XS.icmpNo X.here C.hx rfl (hb C.hby d3_11) rfl (XT.ii_ge_f (by decide)) q) ?_
  refine Wk.st (g' := (mkF m 15 #[.val (.ref o0), .val (.int (3 : Int32)), .val (.ref b2), .val (.int (2 : Int32)), .unset, .unset] [(.ref o0)])) (fun X t q => XS.aloadN X.here C.hx rfl (hb C.hby d3_14) rfl rfl q) ?_
  refine Wk.st (g' := (mkF m 16 #[.val (.ref o0), .val (.int (3 : Int32)), .val (.ref b2), .val (.int (2 : Int32)), .unset, .unset] [(.int (2 : Int32)), (.ref o0)])) (fun X t q => XS.iloadN X.here C.hx rfl (hb C.hby d3_15) rfl q) ?_
  refine Wk.fLdI C F19 (i := 2) (by decide) (by decide) (by decide) (v := (.int (1 : Int32))) (by simp [up]) d3_16 ?_
  show Wk _ p l e _ s m _ below meth c n0 _ h15 1 3 (mkF m 17 #[.val (.ref o0), .val (.int (3 : Int32)), .val (.ref b2), .val (.int (2 : Int32)), .unset, .unset] [(.int (1 : Int32))])
  refine Wk.st (g' := (mkF m 20 #[.val (.ref o0), .val (.int (3 : Int32)), .val (.ref b2), .val (.int (2 : Int32)), .unset, .unset] [])) (fun X t q => XS.ifNo X.here C.hx rfl (hb C.hby d3_17) rfl (XT.i0_lt_f (by decide)) q) ?_
  refine Wk.st (g' := (mkF m 21 #[.val (.ref o0), .val (.int (3 : Int32)), .val (.ref b2), .val (.int (2 : Int32)), .unset, .unset] [(.ref b2)])) (fun X t q => XS.aloadN X.here C.hx rfl (hb C.hby d3_20) rfl rfl q) ?_
  refine Wk.st (g' := (mkF m 22 #[.val (.ref o0), .val (.int (3 : Int32)), .val (.ref b2), .val (.int (2 : Int32)), .unset, .unset] [(.ref o0), (.ref b2)])) (fun X t q => XS.aloadN X.here C.hx rfl (hb C.hby d3_21) rfl rfl q) ?_
  refine Wk.st (g' := (mkF m 23 #[.val (.ref o0), .val (.int (3 : Int32)), .val (.ref b2), .val (.int (2 : Int32)), .unset, .unset] [(.int (2 : Int32)), (.ref o0), (.ref b2)])) (fun X t q => XS.iloadN X.here C.hx rfl (hb C.hby d3_22) rfl q) ?_
  refine Wk.fLdI C F19 (i := 2) (by decide) (by decide) (by decide) (v := (.int (1 : Int32))) (by simp [up]) d3_23 ?_
  show Wk _ p l e _ s m _ below meth c n0 _ h15 1 3 (mkF m 24 #[.val (.ref o0), .val (.int (3 : Int32)), .val (.ref b2), .val (.int (2 : Int32)), .unset, .unset] [(.int (1 : Int32)), (.ref b2)])
  refine Wk.st (g' := (mkF m 25 #[.val (.ref o0), .val (.int (3 : Int32)), .val (.ref b2), .val (.int (2 : Int32)), .unset, .unset] [(.int (1 : Int32)), (.ref b2), (.int (1 : Int32)), (.ref b2)])) (fun X t q => XT.dup2 X.here C.hx rfl (hb C.hby d3_24) rfl rfl rfl q) ?_
  refine Wk.fLdI C F17 (i := 1) (by decide) (by decide) (by decide) (v := (.int (0 : Int32))) (by simp [up]) d3_25 ?_
  show Wk _ p l e _ s m _ below meth c n0 _ h15 1 3 (mkF m 26 #[.val (.ref o0), .val (.int (3 : Int32)), .val (.ref b2), .val (.int (2 : Int32)), .unset, .unset] [(.int (0 : Int32)), (.int (1 : Int32)), (.ref b2)])
  refine Wk.st (g' := (mkF m 27 #[.val (.ref o0), .val (.int (3 : Int32)), .val (.ref b2), .val (.int (2 : Int32)), .unset, .unset] [(.int (1 : Int32)), (.int (0 : Int32)), (.int (1 : Int32)), (.ref b2)])) (fun X t q => XS.iconst X.here C.hx rfl (hb C.hby d3_26) q) ?_
  refine Wk.st (g' := (mkF m 28 #[.val (.ref o0), .val (.int (3 : Int32)), .val (.ref b2), .val (.int (2 : Int32)), .unset, .unset] [(.int (1 : Int32)), (.int (1 : Int32)), (.ref b2)])) (fun X t q => XS.iadd X.here C.hx rfl (hb C.hby d3_27) rfl q) ?_
  refine Wk.fStI C F17 (i := 1) (by decide) (by decide) (by decide) ge8 d3_28 ?_
  intro h24 W25 F26
  have F27 : Exa Z h24 o0 "[I" := F18.wr W25
  have F28 : Fa Z h24 o0 .int 3 (up (up (up (fun _ => (.int (0 : Int32))) 0 (.int (-1 : Int32))) 1 (.int (0 : Int32))) 2 (.int (1 : Int32))) := F19.other W25 ne7
  have F29 : Exa Z h24 b2 "[I" := F20.wr W25
  have sz30 : n0 ≤ h24.size := Nat.le_trans sz21 (Nat.le_of_eq W25.size.symm)
  have sy31 : h0.size ≤ h24.size := Nat.le_trans sy22 (Nat.le_of_eq W25.size.symm)
  have K32 := K23.wr W25 (Or.inr gz9)
  show Wk _ p l e _ s m _ below meth c n0 _ h24 1 3 (mkF m 29 #[.val (.ref o0), .val (.int (3 : Int32)), .val (.ref b2), .val (.int (2 : Int32)), .unset, .unset] [])
  refine Wk.st (g' := (mkF m 32 #[.val (.ref o0), .val (.int (3 : Int32)), .val (.ref b2), .val (.int (3 : Int32)), .unset, .unset] [])) (fun X t q => XS.iinc X.here C.hx rfl (hb C.hby d3_29) rfl (l' := #[.val (.ref o0), .val (.int (3 : Int32)), .val (.ref b2), .val (.int (3 : Int32)), .unset, .unset]) rfl q) ?_
  refine Wk.st (g' := (mkF m 9 #[.val (.ref o0), .val (.int (3 : Int32)), .val (.ref b2), .val (.int (3 : Int32)), .unset, .unset] [])) (fun X t q => XS.goto X.here C.hx rfl (pc0 := 32) (pc' := 9) rfl (hb C.hby d3_32) (by decide) (by decide) q) ?_
  refine Wk.st (g' := (mkF m 10 #[.val (.ref o0), .val (.int (3 : Int32)), .val (.ref b2), .val (.int (3 : Int32)), .unset, .unset] [(.int (3 : Int32))])) (fun X t q => XS.iloadN X.here C.hx rfl (hb C.hby d3_9) rfl q) ?_
  refine Wk.st (g' := (mkF m 11 #[.val (.ref o0), .val (.int (3 : Int32)), .val (.ref b2), .val (.int (3 : Int32)), .unset, .unset] [(.int (3 : Int32)), (.int (3 : Int32))])) (fun X t q => XS.iloadN X.here C.hx rfl (hb C.hby d3_10) rfl q) ?_
  refine Wk.st (g' := (mkF m 35 #[.val (.ref o0), .val (.int (3 : Int32)), .val (.ref b2), .val (.int (3 : Int32)), .unset, .unset] [])) (fun X t q => XS.icmpYes X.here C.hx rfl (pc0 := 11) (pc' := 35) rfl (hb C.hby d3_11) rfl (XT.ii_ge_t (by decide)) (by decide) (by decide) q) ?_
  refine Wk.st (g' := (mkF m 36 #[.val (.ref o0), .val (.int (3 : Int32)), .val (.ref b2), .val (.int (3 : Int32)), .unset, .unset] [(.int (3 : Int32))])) (fun X t q => XS.iloadN X.here C.hx rfl (hb C.hby d3_35) rfl q) ?_
  refine Wk.fNewA C (ty := .int) (K := "[I") (N := 3) (ad := "[[I") (by decide) (hw _ (List.mem_of_getElem? (i := 19) rfl)) (hw _ (List.mem_of_getElem? (i := 20) rfl)) (by decide) (by decide) (by decide) (cap := 3) (by decide) (by decide) d3_36 (by decide) (by decide) ?_
  intro h33 b34 g35 E36 A37 F38
  have ne39 : o0 ≠ b34 := Nat.ne_of_lt (Nat.lt_of_lt_of_le F27.lt (Nat.le_of_eq g35.symm))
  have ne40 : b2 ≠ b34 := Nat.ne_of_lt (Nat.lt_of_lt_of_le F29.lt (Nat.le_of_eq g35.symm))
  have ge41 : n0 ≤ b34 := Nat.le_trans sz30 (Nat.le_of_eq g35.symm)
  have gz42 : h0.size ≤ b34 := Nat.le_trans sy31 (Nat.le_of_eq g35.symm)
  have F43 : Exa Z h33 o0 "[I" := F27.ext E36
  have F44 : Fa Z h33 o0 .int 3 (up (up (up (fun _ => (.int (0 : Int32))) 0 (.int (-1 : Int32))) 1 (.int (0 : Int32))) 2 (.int (1 : Int32))) := F28.ext E36
  have F45 : Exa Z h33 b2 "[I" := F29.ext E36
  have F46 : Fa Z h33 b2 .int 3 (up (up (fun _ => (.int (0 : Int32))) 0 (.int (1 : Int32))) 1 (.int (1 : Int32))) := F26.ext E36
  have sz47 : n0 ≤ h33.size := Nat.le_trans sz30 E36.1
  have sy48 : h0.size ≤ h33.size := Nat.le_trans sy31 E36.1
  have K49 := K32.ext E36
  show Wk _ p l e _ s m _ below meth c n0 _ h33 2 6 (mkF m 39 #[.val (.ref o0), .val (.int (3 : Int32)), .val (.ref b2), .val (.int (3 : Int32)), .unset, .unset] [(.ref b34)])
  refine Wk.st (g' := (mkF m 40 #[.val (.ref o0), .val (.int (3 : Int32)), .val (.ref b2), .val (.ref b34), .unset, .unset] [])) (fun X t q => XS.astoreN X.here C.hx rfl (hb C.hby d3_39) rfl rfl (l' := #[.val (.ref o0), .val (.int (3 : Int32)), .val (.ref b2), .val (.ref b34), .unset, .unset]) rfl q) ?_
  refine Wk.st (g' := (mkF m 41 #[.val (.ref o0), .val (.int (3 : Int32)), .val (.ref b2), .val (.ref b34), .unset, .unset] [(.int (0 : Int32))])) (fun X t q => XS.iconst X.here C.hx rfl (hb C.hby d3_40) q) ?_
  refine Wk.st (g' := (mkF m 43 #[.val (.ref o0), .val (.int (3 : Int32)), .val (.ref b2), .val (.ref b34), .val (.int (0 : Int32)), .unset] [])) (fun X t q => XS.istore X.here C.hx rfl (hb C.hby d3_41) rfl (l' := #[.val (.ref o0), .val (.int (3 : Int32)), .val (.ref b2), .val (.ref b34), .val (.int (0 : Int32)), .unset]) rfl q) ?_
  refine Wk.st (g' := (mkF m 45 #[.val (.ref o0), .val (.int (3 : Int32)), .val (.ref b2), .val (.ref b34), .val (.int (0 : Int32)), .unset] [(.int (0 : Int32))])) (fun X t q => XS.iload X.here C.hx rfl (hb C.hby d3_43) rfl q) ?_
  refine Wk.st (g' := (mkF m 46 #[.val (.ref o0), .val (.int (3 : Int32)), .val (.ref b2), .val (.ref b34), .val (.int (0 : Int32)), .unset] [(.int (3 : Int32)), (.int (0 : Int32))])) (fun X t q => XS.iloadN X.here C.hx rfl (hb C.hby d3_45) rfl q) ?_
  refine Wk.st (g' := (mkF m 49 #[.val (.ref o0), .val (.int (3 : Int32)), .val (.ref b2), .val (.ref b34), .val (.int (0 : Int32)), .unset] [])) (fun X t q => XS.icmpNo X.here C.hx rfl (hb C.hby d3_46) rfl (XT.ii_ge_f (by decide)) q) ?_
  refine Wk.st (g' := (mkF m 50 #[.val (.ref o0), .val (.int (3 : Int32)), .val (.ref b2), .val (.ref b34), .val (.int (0 : Int32)), .unset] [(.ref b34)])) (fun X t q => XS.aloadN X.here C.hx rfl (hb C.hby d3_49) rfl rfl q) ?_
  refine Wk.st (g' := (mkF m 52 #[.val (.ref o0), .val (.int (3 : Int32)), .val (.ref b2), .val (.ref b34), .val (.int (0 : Int32)), .unset] [(.int (0 : Int32)), (.ref b34)])) (fun X t q => XS.iload X.here C.hx rfl (hb C.hby d3_50) rfl q) ?_
  refine Wk.st (g' := (mkF m 53 #[.val (.ref o0), .val (.int (3 : Int32)), .val (.ref b2), .val (.ref b34), .val (.int (0 : Int32)), .unset] [(.ref b2), (.int (0 : Int32)), (.ref b34)])) (fun X t q => XS.aloadN X.here C.hx rfl (hb C.hby d3_52) rfl rfl q) ?_
  refine Wk.st (g' := (mkF m 55 #[.val (.ref o0), .val (.int (3 : Int32)), .val (.ref b2), .val (.ref b34), .val (.int (0 : Int32)), .unset] [(.int (0 : Int32)), (.ref b2), (.int (0 : Int32)), (.ref b34)])) (fun X t q => XS.iload X.here C.hx rfl (hb C.hby d3_53) rfl q) ?_
  refine Wk.fLdI C F46 (i := 0) (by decide) (by decide) (by decide) (v := (.int (1 : Int32))) (by simp [up]) d3_55 ?_
  show Wk _ p l e _ s m _ below meth c n0 _ h33 2 6 (mkF m 56 #[.val (.ref o0), .val (.int (3 : Int32)), .val (.ref b2), .val (.ref b34), .val (.int (0 : Int32)), .unset] [(.int (1 : Int32)), (.int (0 : Int32)), (.ref b34)])
  refine Wk.fNewP C (hw _ (List.mem_of_getElem? (i := 0) rfl)) (ty := .int) (dv := (.int (0 : Int32))) (N := 1) (ad := "[I") rfl rfl (by decide) (by decide) (by decide) (cap := 1) (by decide) (by decide) d3_56 (by decide) (by decide) ?_
  intro h50 b51 g52 E53 A54 F55
  have ne56 : o0 ≠ b51 := Nat.ne_of_lt (Nat.lt_of_lt_of_le F43.lt (Nat.le_of_eq g52.symm))
  have ne57 : b2 ≠ b51 := Nat.ne_of_lt (Nat.lt_of_lt_of_le F45.lt (Nat.le_of_eq g52.symm))
  have ne58 : b34 ≠ b51 := Nat.ne_of_lt (Nat.lt_of_lt_of_le A37.lt (Nat.le_of_eq g52.symm))
  have ge59 : n0 ≤ b51 := Nat.le_trans sz47 (Nat.le_of_eq g52.symm)
  have gz60 : h0.size ≤ b51 := Nat.le_trans sy48 (Nat.le_of_eq g52.symm)
  have F61 : Exa Z h50 o0 "[I" := F43.ext E53
  have F62 : Fa Z h50 o0 .int 3 (up (up (up (fun _ => (.int (0 : Int32))) 0 (.int (-1 : Int32))) 1 (.int (0 : Int32))) 2 (.int (1 : Int32))) := F44.ext E53
  have F63 : Exa Z h50 b2 "[I" := F45.ext E53
  have F64 : Fa Z h50 b2 .int 3 (up (up (fun _ => (.int (0 : Int32))) 0 (.int (1 : Int32))) 1 (.int (1 : Int32))) := F46.ext E53
  have F65 : Exa Z h50 b34 "[[I" := A37.ext E53
  have F66 : FaA Z h50 b34 .int "[I" 3 (fun _ => .null) := F38.ext E53
  have sz67 : n0 ≤ h50.size := Nat.le_trans sz47 E53.1
  have sy68 : h0.size ≤ h50.size := Nat.le_trans sy48 E53.1
  have K69 := K49.ext E53
  show Wk _ p l e _ s m _ below meth c n0 _ h50 3 7 (mkF m 58 #[.val (.ref o0), .val (.int (3 : Int32)), .val (.ref b2), .val (.ref b34), .val (.int (0 : Int32)), .unset] [(.ref b51), (.int (0 : Int32)), (.ref b34)])
  refine Wk.fStA C F66 (i := 0) (by decide) (by decide) (by decide) (F66.sto A54) ge41 d3_58 ?_
  intro h70 W71 F72
  have F73 : Exa Z h70 o0 "[I" := F61.wr W71
  have F74 : Fa Z h70 o0 .int 3 (up (up (up (fun _ => (.int (0 : Int32))) 0 (.int (-1 : Int32))) 1 (.int (0 : Int32))) 2 (.int (1 : Int32))) := F62.other W71 ne39
  have F75 : Exa Z h70 b2 "[I" := F63.wr W71
  have F76 : Fa Z h70 b2 .int 3 (up (up (fun _ => (.int (0 : Int32))) 0 (.int (1 : Int32))) 1 (.int (1 : Int32))) := F64.other W71 ne40
  have F77 : Exa Z h70 b34 "[[I" := F65.wr W71
  have F78 : Exa Z h70 b51 "[I" := A54.wr W71
  have F79 : Fa Z h70 b51 .int 1 (fun _ => (.int (0 : Int32))) := F55.other W71 (Ne.symm ne58)
  have sz80 : n0 ≤ h70.size := Nat.le_trans sz67 (Nat.le_of_eq W71.size.symm)
  have sy81 : h0.size ≤ h70.size := Nat.le_trans sy68 (Nat.le_of_eq W71.size.symm)
  have K82 := K69.wr W71 (Or.inr gz42)
  show Wk _ p l e _ s m _ below meth c n0 _ h70 3 7 (mkF m 59 #[.val (.ref o0), .val (.int (3 : Int32)), .val (.ref b2), .val (.ref b34), .val (.int (0 : Int32)), .unset] [])
  refine Wk.st (g' := (mkF m 62 #[.val (.ref o0), .val (.int (3 : Int32)), .val (.ref b2), .val (.ref b34), .val (.int (1 : Int32)), .unset] [])) (fun X t q => XS.iinc X.here C.hx rfl (hb C.hby d3_59) rfl (l' := #[.val (.ref o0), .val (.int (3 : Int32)), .val (.ref b2), .val (.ref b34), .val (.int (1 : Int32)), .unset]) rfl q) ?_
  refine Wk.st (g' := (mkF m 43 #[.val (.ref o0), .val (.int (3 : Int32)), .val (.ref b2), .val (.ref b34), .val (.int (1 : Int32)), .unset] [])) (fun X t q => XS.goto X.here C.hx rfl (pc0 := 62) (pc' := 43) rfl (hb C.hby d3_62) (by decide) (by decide) q) ?_
  refine Wk.st (g' := (mkF m 45 #[.val (.ref o0), .val (.int (3 : Int32)), .val (.ref b2), .val (.ref b34), .val (.int (1 : Int32)), .unset] [(.int (1 : Int32))])) (fun X t q => XS.iload X.here C.hx rfl (hb C.hby d3_43) rfl q) ?_
  refine Wk.st (g' := (mkF m 46 #[.val (.ref o0), .val (.int (3 : Int32)), .val (.ref b2), .val (.ref b34), .val (.int (1 : Int32)), .unset] [(.int (3 : Int32)), (.int (1 : Int32))])) (fun X t q => XS.iloadN X.here C.hx rfl (hb C.hby d3_45) rfl q) ?_
  refine Wk.st (g' := (mkF m 49 #[.val (.ref o0), .val (.int (3 : Int32)), .val (.ref b2), .val (.ref b34), .val (.int (1 : Int32)), .unset] [])) (fun X t q => XS.icmpNo X.here C.hx rfl (hb C.hby d3_46) rfl (XT.ii_ge_f (by decide)) q) ?_
  refine Wk.st (g' := (mkF m 50 #[.val (.ref o0), .val (.int (3 : Int32)), .val (.ref b2), .val (.ref b34), .val (.int (1 : Int32)), .unset] [(.ref b34)])) (fun X t q => XS.aloadN X.here C.hx rfl (hb C.hby d3_49) rfl rfl q) ?_
  refine Wk.st (g' := (mkF m 52 #[.val (.ref o0), .val (.int (3 : Int32)), .val (.ref b2), .val (.ref b34), .val (.int (1 : Int32)), .unset] [(.int (1 : Int32)), (.ref b34)])) (fun X t q => XS.iload X.here C.hx rfl (hb C.hby d3_50) rfl q) ?_
  refine Wk.st (g' := (mkF m 53 #[.val (.ref o0), .val (.int (3 : Int32)), .val (.ref b2), .val (.ref b34), .val (.int (1 : Int32)), .unset] [(.ref b2), (.int (1 : Int32)), (.ref b34)])) (fun X t q => XS.aloadN X.here C.hx rfl (hb C.hby d3_52) rfl rfl q) ?_
  refine Wk.st (g' := (mkF m 55 #[.val (.ref o0), .val (.int (3 : Int32)), .val (.ref b2), .val (.ref b34), .val (.int (1 : Int32)), .unset] [(.int (1 : Int32)), (.ref b2), (.int (1 : Int32)), (.ref b34)])) (fun X t q => XS.iload X.here C.hx rfl (hb C.hby d3_53) rfl q) ?_
  refine Wk.fLdI C F76 (i := 1) (by decide) (by decide) (by decide) (v := (.int (1 : Int32))) (by simp [up]) d3_55 ?_
  show Wk _ p l e _ s m _ below meth c n0 _ h70 3 7 (mkF m 56 #[.val (.ref o0), .val (.int (3 : Int32)), .val (.ref b2), .val (.ref b34), .val (.int (1 : Int32)), .unset] [(.int (1 : Int32)), (.int (1 : Int32)), (.ref b34)])
  refine Wk.fNewP C (hw _ (List.mem_of_getElem? (i := 0) rfl)) (ty := .int) (dv := (.int (0 : Int32))) (N := 1) (ad := "[I") rfl rfl (by decide) (by decide) (by decide) (cap := 1) (by decide) (by decide) d3_56 (by decide) (by decide) ?_
  intro h83 b84 g85 E86 A87 F88
  have ne89 : o0 ≠ b84 := Nat.ne_of_lt (Nat.lt_of_lt_of_le F73.lt (Nat.le_of_eq g85.symm))
  have ne90 : b2 ≠ b84 := Nat.ne_of_lt (Nat.lt_of_lt_of_le F75.lt (Nat.le_of_eq g85.symm))
  have ne91 : b34 ≠ b84 := Nat.ne_of_lt (Nat.lt_of_lt_of_le F77.lt (Nat.le_of_eq g85.symm))
  have ne92 : b51 ≠ b84 := Nat.ne_of_lt (Nat.lt_of_lt_of_le F78.lt (Nat.le_of_eq g85.symm))
  have ge93 : n0 ≤ b84 := Nat.le_trans sz80 (Nat.le_of_eq g85.symm)
  have gz94 : h0.size ≤ b84 := Nat.le_trans sy81 (Nat.le_of_eq g85.symm)
  have F95 : Exa Z h83 o0 "[I" := F73.ext E86
  have F96 : Fa Z h83 o0 .int 3 (up (up (up (fun _ => (.int (0 : Int32))) 0 (.int (-1 : Int32))) 1 (.int (0 : Int32))) 2 (.int (1 : Int32))) := F74.ext E86
  have F97 : Exa Z h83 b2 "[I" := F75.ext E86
  have F98 : Fa Z h83 b2 .int 3 (up (up (fun _ => (.int (0 : Int32))) 0 (.int (1 : Int32))) 1 (.int (1 : Int32))) := F76.ext E86
  have F99 : Exa Z h83 b34 "[[I" := F77.ext E86
  have F100 : Exa Z h83 b51 "[I" := F78.ext E86
  have F101 : Fa Z h83 b51 .int 1 (fun _ => (.int (0 : Int32))) := F79.ext E86
  have F102 : FaA Z h83 b34 .int "[I" 3 (up (fun _ => .null) 0 (.ref b51)) := F72.ext E86
  have sz103 : n0 ≤ h83.size := Nat.le_trans sz80 E86.1
  have sy104 : h0.size ≤ h83.size := Nat.le_trans sy81 E86.1
  have K105 := K82.ext E86
  show Wk _ p l e _ s m _ below meth c n0 _ h83 4 8 (mkF m 58 #[.val (.ref o0), .val (.int (3 : Int32)), .val (.ref b2), .val (.ref b34), .val (.int (1 : Int32)), .unset] [(.ref b84), (.int (1 : Int32)), (.ref b34)])
  refine Wk.fStA C F102 (i := 1) (by decide) (by decide) (by decide) (F102.sto A87) ge41 d3_58 ?_
  intro h106 W107 F108
  have F109 : Exa Z h106 o0 "[I" := F95.wr W107
  have F110 : Fa Z h106 o0 .int 3 (up (up (up (fun _ => (.int (0 : Int32))) 0 (.int (-1 : Int32))) 1 (.int (0 : Int32))) 2 (.int (1 : Int32))) := F96.other W107 ne39
  have F111 : Exa Z h106 b2 "[I" := F97.wr W107
  have F112 : Fa Z h106 b2 .int 3 (up (up (fun _ => (.int (0 : Int32))) 0 (.int (1 : Int32))) 1 (.int (1 : Int32))) := F98.other W107 ne40
  have F113 : Exa Z h106 b34 "[[I" := F99.wr W107
  have F114 : Exa Z h106 b51 "[I" := F100.wr W107
  have F115 : Fa Z h106 b51 .int 1 (fun _ => (.int (0 : Int32))) := F101.other W107 (Ne.symm ne58)
  have F116 : Exa Z h106 b84 "[I" := A87.wr W107
  have F117 : Fa Z h106 b84 .int 1 (fun _ => (.int (0 : Int32))) := F88.other W107 (Ne.symm ne91)
  have sz118 : n0 ≤ h106.size := Nat.le_trans sz103 (Nat.le_of_eq W107.size.symm)
  have sy119 : h0.size ≤ h106.size := Nat.le_trans sy104 (Nat.le_of_eq W107.size.symm)
  have K120 := K105.wr W107 (Or.inr gz42)
  show Wk _ p l e _ s m _ below meth c n0 _ h106 4 8 (mkF m 59 #[.val (.ref o0), .val (.int (3 : Int32)), .val (.ref b2), .val (.ref b34), .val (.int (1 : Int32)), .unset] [])
  refine Wk.st (g' := (mkF m 62 #[.val (.ref o0), .val (.int (3 : Int32)), .val (.ref b2), .val (.ref b34), .val (.int (2 : Int32)), .unset] [])) (fun X t q => XS.iinc X.here C.hx rfl (hb C.hby d3_59) rfl (l' := #[.val (.ref o0), .val (.int (3 : Int32)), .val (.ref b2), .val (.ref b34), .val (.int (2 : Int32)), .unset]) rfl q) ?_
  refine Wk.st (g' := (mkF m 43 #[.val (.ref o0), .val (.int (3 : Int32)), .val (.ref b2), .val (.ref b34), .val (.int (2 : Int32)), .unset] [])) (fun X t q => XS.goto X.here C.hx rfl (pc0 := 62) (pc' := 43) rfl (hb C.hby d3_62) (by decide) (by decide) q) ?_
  refine Wk.st (g' := (mkF m 45 #[.val (.ref o0), .val (.int (3 : Int32)), .val (.ref b2), .val (.ref b34), .val (.int (2 : Int32)), .unset] [(.int (2 : Int32))])) (fun X t q => XS.iload X.here C.hx rfl (hb C.hby d3_43) rfl q) ?_
  refine Wk.st (g' := (mkF m 46 #[.val (.ref o0), .val (.int (3 : Int32)), .val (.ref b2), .val (.ref b34), .val (.int (2 : Int32)), .unset] [(.int (3 : Int32)), (.int (2 : Int32))])) (fun X t q => XS.iloadN X.here C.hx rfl (hb C.hby d3_45) rfl q) ?_
  refine Wk.st (g' := (mkF m 49 #[.val (.ref o0), .val (.int (3 : Int32)), .val (.ref b2), .val (.ref b34), .val (.int (2 : Int32)), .unset] [])) (fun X t q => XS.icmpNo X.here C.hx rfl (hb C.hby d3_46) rfl (XT.ii_ge_f (by decide)) q) ?_
  refine Wk.st (g' := (mkF m 50 #[.val (.ref o0), .val (.int (3 : Int32)), .val (.ref b2), .val (.ref b34), .val (.int (2 : Int32)), .unset] [(.ref b34)])) (fun X t q => XS.aloadN X.here C.hx rfl (hb C.hby d3_49) rfl rfl q) ?_
  refine Wk.st (g' := (mkF m 52 #[.val (.ref o0), .val (.int (3 : Int32)), .val (.ref b2), .val (.ref b34), .val (.int (2 : Int32)), .unset] [(.int (2 : Int32)), (.ref b34)])) (fun X t q => XS.iload X.here C.hx rfl (hb C.hby d3_50) rfl q) ?_
  refine Wk.st (g' := (mkF m 53 #[.val (.ref o0), .val (.int (3 : Int32)), .val (.ref b2), .val (.ref b34), .val (.int (2 : Int32)), .unset] [(.ref b2), (.int (2 : Int32)), (.ref b34)])) (fun X t q => XS.aloadN X.here C.hx rfl (hb C.hby d3_52) rfl rfl q) ?_
  refine Wk.st (g' := (mkF m 55 #[.val (.ref o0), .val (.int (3 : Int32)), .val (.ref b2), .val (.ref b34), .val (.int (2 : Int32)), .unset] [(.int (2 : Int32)), (.ref b2), (.int (2 : Int32)), (.ref b34)])) (fun X t q => XS.iload X.here C.hx rfl (hb C.hby d3_53) rfl q) ?_
  refine Wk.fLdI C F112 (i := 2) (by decide) (by decide) (by decide) (v := (.int (0 : Int32))) (by simp [up]) d3_55 ?_
  show Wk _ p l e _ s m _ below meth c n0 _ h106 4 8 (mkF m 56 #[.val (.ref o0), .val (.int (3 : Int32)), .val (.ref b2), .val (.ref b34), .val (.int (2 : Int32)), .unset] [(.int (0 : Int32)), (.int (2 : Int32)), (.ref b34)])
  refine Wk.fNewP C (hw _ (List.mem_of_getElem? (i := 0) rfl)) (ty := .int) (dv := (.int (0 : Int32))) (N := 0) (ad := "[I") rfl rfl (by decide) (by decide) (by decide) (cap := 0) (by decide) (by decide) d3_56 (by decide) (by decide) ?_
  intro h121 b122 g123 E124 A125 F126
  have ne127 : o0 ≠ b122 := Nat.ne_of_lt (Nat.lt_of_lt_of_le F109.lt (Nat.le_of_eq g123.symm))
  have ne128 : b2 ≠ b122 := Nat.ne_of_lt (Nat.lt_of_lt_of_le F111.lt (Nat.le_of_eq g123.symm))
  have ne129 : b34 ≠ b122 := Nat.ne_of_lt (Nat.lt_of_lt_of_le F113.lt (Nat.le_of_eq g123.symm))
  have ne130 : b51 ≠ b122 := Nat.ne_of_lt (Nat.lt_of_lt_of_le F114.lt (Nat.le_of_eq g123.symm))
  have ne131 : b84 ≠ b122 := Nat.ne_of_lt (Nat.lt_of_lt_of_le F116.lt (Nat.le_of_eq g123.symm))
  have ge132 : n0 ≤ b122 := Nat.le_trans sz118 (Nat.le_of_eq g123.symm)
  have gz133 : h0.size ≤ b122 := Nat.le_trans sy119 (Nat.le_of_eq g123.symm)
  have F134 : Exa Z h121 o0 "[I" := F109.ext E124
  have F135 : Fa Z h121 o0 .int 3 (up (up (up (fun _ => (.int (0 : Int32))) 0 (.int (-1 : Int32))) 1 (.int (0 : Int32))) 2 (.int (1 : Int32))) := F110.ext E124
  have F136 : Exa Z h121 b2 "[I" := F111.ext E124
  have F137 : Fa Z h121 b2 .int 3 (up (up (fun _ => (.int (0 : Int32))) 0 (.int (1 : Int32))) 1 (.int (1 : Int32))) := F112.ext E124
  have F138 : Exa Z h121 b34 "[[I" := F113.ext E124
  have F139 : Exa Z h121 b51 "[I" := F114.ext E124
  have F140 : Fa Z h121 b51 .int 1 (fun _ => (.int (0 : Int32))) := F115.ext E124
  have F141 : Exa Z h121 b84 "[I" := F116.ext E124
  have F142 : Fa Z h121 b84 .int 1 (fun _ => (.int (0 : Int32))) := F117.ext E124
  have F143 : FaA Z h121 b34 .int "[I" 3 (up (up (fun _ => .null) 0 (.ref b51)) 1 (.ref b84)) := F108.ext E124
  have sz144 : n0 ≤ h121.size := Nat.le_trans sz118 E124.1
  have sy145 : h0.size ≤ h121.size := Nat.le_trans sy119 E124.1
  have K146 := K120.ext E124
  show Wk _ p l e _ s m _ below meth c n0 _ h121 5 8 (mkF m 58 #[.val (.ref o0), .val (.int (3 : Int32)), .val (.ref b2), .val (.ref b34), .val (.int (2 : Int32)), .unset] [(.ref b122), (.int (2 : Int32)), (.ref b34)])
  refine Wk.fStA C F143 (i := 2) (by decide) (by decide) (by decide) (F143.sto A125) ge41 d3_58 ?_
  intro h147 W148 F149
  have F150 : Exa Z h147 o0 "[I" := F134.wr W148
  have F151 : Fa Z h147 o0 .int 3 (up (up (up (fun _ => (.int (0 : Int32))) 0 (.int (-1 : Int32))) 1 (.int (0 : Int32))) 2 (.int (1 : Int32))) := F135.other W148 ne39
  have F152 : Exa Z h147 b2 "[I" := F136.wr W148
  have F153 : Fa Z h147 b2 .int 3 (up (up (fun _ => (.int (0 : Int32))) 0 (.int (1 : Int32))) 1 (.int (1 : Int32))) := F137.other W148 ne40
  have F154 : Exa Z h147 b34 "[[I" := F138.wr W148
  have F155 : Exa Z h147 b51 "[I" := F139.wr W148
  have F156 : Fa Z h147 b51 .int 1 (fun _ => (.int (0 : Int32))) := F140.other W148 (Ne.symm ne58)
  have F157 : Exa Z h147 b84 "[I" := F141.wr W148
  have F158 : Fa Z h147 b84 .int 1 (fun _ => (.int (0 : Int32))) := F142.other W148 (Ne.symm ne91)
  have F159 : Exa Z h147 b122 "[I" := A125.wr W148
  have F160 : Fa Z h147 b122 .int 0 (fun _ => (.int (0 : Int32))) := F126.other W148 (Ne.symm ne129)
  have sz161 : n0 ≤ h147.size := Nat.le_trans sz144 (Nat.le_of_eq W148.size.symm)
  have sy162 : h0.size ≤ h147.size := Nat.le_trans sy145 (Nat.le_of_eq W148.size.symm)
  have K163 := K146.wr W148 (Or.inr gz42)
  show Wk _ p l e _ s m _ below meth c n0 _ h147 5 8 (mkF m 59 #[.val (.ref o0), .val (.int (3 : Int32)), .val (.ref b2), .val (.ref b34), .val (.int (2 : Int32)), .unset] [])
  refine Wk.st (g' := (mkF m 62 #[.val (.ref o0), .val (.int (3 : Int32)), .val (.ref b2), .val (.ref b34), .val (.int (3 : Int32)), .unset] [])) (fun X t q => XS.iinc X.here C.hx rfl (hb C.hby d3_59) rfl (l' := #[.val (.ref o0), .val (.int (3 : Int32)), .val (.ref b2), .val (.ref b34), .val (.int (3 : Int32)), .unset]) rfl q) ?_
  refine Wk.st (g' := (mkF m 43 #[.val (.ref o0), .val (.int (3 : Int32)), .val (.ref b2), .val (.ref b34), .val (.int (3 : Int32)), .unset] [])) (fun X t q => XS.goto X.here C.hx rfl (pc0 := 62) (pc' := 43) rfl (hb C.hby d3_62) (by decide) (by decide) q) ?_
  refine Wk.st (g' := (mkF m 45 #[.val (.ref o0), .val (.int (3 : Int32)), .val (.ref b2), .val (.ref b34), .val (.int (3 : Int32)), .unset] [(.int (3 : Int32))])) (fun X t q => XS.iload X.here C.hx rfl (hb C.hby d3_43) rfl q) ?_
  refine Wk.st (g' := (mkF m 46 #[.val (.ref o0), .val (.int (3 : Int32)), .val (.ref b2), .val (.ref b34), .val (.int (3 : Int32)), .unset] [(.int (3 : Int32)), (.int (3 : Int32))])) (fun X t q => XS.iloadN X.here C.hx rfl (hb C.hby d3_45) rfl q) ?_
  refine Wk.st (g' := (mkF m 65 #[.val (.ref o0), .val (.int (3 : Int32)), .val (.ref b2), .val (.ref b34), .val (.int (3 : Int32)), .unset] [])) (fun X t q => XS.icmpYes X.here C.hx rfl (pc0 := 46) (pc' := 65) rfl (hb C.hby d3_46) rfl (XT.ii_ge_t (by decide)) (by decide) (by decide) q) ?_
  refine Wk.st (g' := (mkF m 66 #[.val (.ref o0), .val (.int (3 : Int32)), .val (.ref b2), .val (.ref b34), .val (.int (3 : Int32)), .unset] [(.int (3 : Int32))])) (fun X t q => XS.iloadN X.here C.hx rfl (hb C.hby d3_65) rfl q) ?_
  refine Wk.fNewP C (hw _ (List.mem_of_getElem? (i := 0) rfl)) (ty := .int) (dv := (.int (0 : Int32))) (N := 3) (ad := "[I") rfl rfl (by decide) (by decide) (by decide) (cap := 3) (by decide) (by decide) d3_66 (by decide) (by decide) ?_
  intro h164 b165 g166 E167 A168 F169
  have ne170 : o0 ≠ b165 := Nat.ne_of_lt (Nat.lt_of_lt_of_le F150.lt (Nat.le_of_eq g166.symm))
  have ne171 : b2 ≠ b165 := Nat.ne_of_lt (Nat.lt_of_lt_of_le F152.lt (Nat.le_of_eq g166.symm))
  have ne172 : b34 ≠ b165 := Nat.ne_of_lt (Nat.lt_of_lt_of_le F154.lt (Nat.le_of_eq g166.symm))
  have ne173 : b51 ≠ b165 := Nat.ne_of_lt (Nat.lt_of_lt_of_le F155.lt (Nat.le_of_eq g166.symm))
  have ne174 : b84 ≠ b165 := Nat.ne_of_lt (Nat.lt_of_lt_of_le F157.lt (Nat.le_of_eq g166.symm))
  have ne175 : b122 ≠ b165 := Nat.ne_of_lt (Nat.lt_of_lt_of_le F159.lt (Nat.le_of_eq g166.symm))
  have ge176 : n0 ≤ b165 := Nat.le_trans sz161 (Nat.le_of_eq g166.symm)
  have gz177 : h0.size ≤ b165 := Nat.le_trans sy162 (Nat.le_of_eq g166.symm)
  have F178 : Exa Z h164 o0 "[I" := F150.ext E167
  have F179 : Fa Z h164 o0 .int 3 (up (up (up (fun _ => (.int (0 : Int32))) 0 (.int (-1 : Int32))) 1 (.int (0 : Int32))) 2 (.int (1 : Int32))) := F151.ext E167
  have F180 : Exa Z h164 b2 "[I" := F152.ext E167
  have F181 : Fa Z h164 b2 .int 3 (up (up (fun _ => (.int (0 : Int32))) 0 (.int (1 : Int32))) 1 (.int (1 : Int32))) := F153.ext E167
  have F182 : Exa Z h164 b34 "[[I" := F154.ext E167
  have F183 : Exa Z h164 b51 "[I" := F155.ext E167
  have F184 : Fa Z h164 b51 .int 1 (fun _ => (.int (0 : Int32))) := F156.ext E167
  have F185 : Exa Z h164 b84 "[I" := F157.ext E167
  have F186 : Fa Z h164 b84 .int 1 (fun _ => (.int (0 : Int32))) := F158.ext E167
  have F187 : Exa Z h164 b122 "[I" := F159.ext E167
  have F188 : Fa Z h164 b122 .int 0 (fun _ => (.int (0 : Int32))) := F160.ext E167
  have F189 : FaA Z h164 b34 .int "[I" 3 (up (up (up (fun _ => .null) 0 (.ref b51)) 1 (.ref b84)) 2 (.ref b122)) := F149.ext E167
  have sz190 : n0 ≤ h164.size := Nat.le_trans sz161 E167.1
  have sy191 : h0.size ≤ h164.size := Nat.le_trans sy162 E167.1
  have K192 := K163.ext E167
  show Wk _ p l e _ s m _ below meth c n0 _ h164 6 11 (mkF m 68 #[.val (.ref o0), .val (.int (3 : Int32)), .val (.ref b2), .val (.ref b34), .val (.int (3 : Int32)), .unset] [(.ref b165)])
  refine Wk.st (g' := (mkF m 70 #[.val (.ref o0), .val (.int (3 : Int32)), .val (.ref b2), .val (.ref b34), .val (.ref b165), .unset] [])) (fun X t q => XS.astore X.here C.hx rfl (hb C.hby d3_68) rfl rfl (l' := #[.val (.ref o0), .val (.int (3 : Int32)), .val (.ref b2), .val (.ref b34), .val (.ref b165), .unset]) rfl q) ?_
  refine Wk.st (g' := (mkF m 71 #[.val (.ref o0), .val (.int (3 : Int32)), .val (.ref b2), .val (.ref b34), .val (.ref b165), .unset] [(.int (0 : Int32))])) (fun X t q => XS.iconst X.here C.hx rfl (hb C.hby d3_70) q) ?_
  refine Wk.st (g' := (mkF m 73 #[.val (.ref o0), .val (.int (3 : Int32)), .val (.ref b2), .val (.ref b34), .val (.ref b165), .val (.int (0 : Int32))] [])) (fun X t q => XS.istore X.here C.hx rfl (hb C.hby d3_71) rfl (l' := #[.val (.ref o0), .val (.int (3 : Int32)), .val (.ref b2), .val (.ref b34), .val (.ref b165), .val (.int (0 : Int32))]) rfl q) ?_
  refine Wk.st (g' := (mkF m 75 #[.val (.ref o0), .val (.int (3 : Int32)), .val (.ref b2), .val (.ref b34), .val (.ref b165), .val (.int (0 : Int32))] [(.int (0 : Int32))])) (fun X t q => XS.iload X.here C.hx rfl (hb C.hby d3_73) rfl q) ?_
  refine Wk.st (g' := (mkF m 76 #[.val (.ref o0), .val (.int (3 : Int32)), .val (.ref b2), .val (.ref b34), .val (.ref b165), .val (.int (0 : Int32))] [(.int (3 : Int32)), (.int (0 : Int32))])) (fun X t q => XS.iloadN X.here C.hx rfl (hb C.hby d3_75) rfl q) ?_
  refine Wk.st (g' := (mkF m 79 #[.val (.ref o0), .val (.int (3 : Int32)), .val (.ref b2), .val (.ref b34), .val (.ref b165), .val (.int (0 : Int32))] [])) (fun X t q => XS.icmpNo X.here C.hx rfl (hb C.hby d3_76) rfl (XT.ii_ge_f (by decide)) q) ?_
  refine Wk.st (g' := (mkF m 80 #[.val (.ref o0), .val (.int (3 : Int32)), .val (.ref b2), .val (.ref b34), .val (.ref b165), .val (.int (0 : Int32))] [(.ref o0)])) (fun X t q => XS.aloadN X.here C.hx rfl (hb C.hby d3_79) rfl rfl q) ?_
  refine Wk.st (g' := (mkF m 82 #[.val (.ref o0), .val (.int (3 : Int32)), .val (.ref b2), .val (.ref b34), .val (.ref b165), .val (.int (0 : Int32))] [(.int (0 : Int32)), (.ref o0)])) (fun X t q => XS.iload X.here C.hx rfl (hb C.hby d3_80) rfl q) ?_
  refine Wk.fLdI C F179 (i := 0) (by decide) (by decide) (by decide) (v := (.int (-1 : Int32))) (by simp [up]) d3_82 ?_
  show Wk _ p l e _ s m _ below meth c n0 _ h164 6 11 (mkF m 83 #[.val (.ref o0), .val (.int (3 : Int32)), .val (.ref b2), .val (.ref b34), .val (.ref b165), .val (.int (0 : Int32))] [(.int (-1 : Int32))])
  refine Wk.st (g' := (mkF m 107 #[.val (.ref o0), .val (.int (3 : Int32)), .val (.ref b2), .val (.ref b34), .val (.ref b165), .val (.int (0 : Int32))] [])) (fun X t q => XS.ifYes X.here C.hx rfl (pc0 := 83) (pc' := 107) rfl (hb C.hby d3_83) rfl (XT.i0_lt_t (by decide)) (by decide) (by decide) q) ?_
  refine Wk.st (g' := (mkF m 110 #[.val (.ref o0), .val (.int (3 : Int32)), .val (.ref b2), .val (.ref b34), .val (.ref b165), .val (.int (1 : Int32))] [])) (fun X t q => XS.iinc X.here C.hx rfl (hb C.hby d3_107) rfl (l' := #[.val (.ref o0), .val (.int (3 : Int32)), .val (.ref b2), .val (.ref b34), .val (.ref b165), .val (.int (1 : Int32))]) rfl q) ?_
  refine Wk.st (g' := (mkF m 73 #[.val (.ref o0), .val (.int (3 : Int32)), .val (.ref b2), .val (.ref b34), .val (.ref b165), .val (.int (1 : Int32))] [])) (fun X t q => XS.goto X.here C.hx rfl (pc0 := 110) (pc' := 73) rfl (hb C.hby d3_110) (by decide) (by decide) q) ?_
  refine Wk.st (g' := (mkF m 75 #[.val (.ref o0), .val (.int (3 : Int32)), .val (.ref b2), .val (.ref b34), .val (.ref b165), .val (.int (1 : Int32))] [(.int (1 : Int32))])) (fun X t q => XS.iload X.here C.hx rfl (hb C.hby d3_73) rfl q) ?_
  refine Wk.st (g' := (mkF m 76 #[.val (.ref o0), .val (.int (3 : Int32)), .val (.ref b2), .val (.ref b34), .val (.ref b165), .val (.int (1 : Int32))] [(.int (3 : Int32)), (.int (1 : Int32))])) (fun X t q => XS.iloadN X.here C.hx rfl (hb C.hby d3_75) rfl q) ?_
  refine Wk.st (g' := (mkF m 79 #[.val (.ref o0), .val (.int (3 : Int32)), .val (.ref b2), .val (.ref b34), .val (.ref b165), .val (.int (1 : Int32))] [])) (fun X t q => XS.icmpNo X.here C.hx rfl (hb C.hby d3_76) rfl (XT.ii_ge_f (by decide)) q) ?_
  refine Wk.st (g' := (mkF m 80 #[.val (.ref o0), .val (.int (3 : Int32)), .val (.ref b2), .val (.ref b34), .val (.ref b165), .val (.int (1 : Int32))] [(.ref o0)])) (fun X t q => XS.aloadN X.here C.hx rfl (hb C.hby d3_79) rfl rfl q) ?_
  refine Wk.st (g' := (mkF m 82 #[.val (.ref o0), .val (.int (3 : Int32)), .val (.ref b2), .val (.ref b34), .val (.ref b165), .val (.int (1 : Int32))] [(.int (1 : Int32)), (.ref o0)])) (fun X t q => XS.iload X.here C.hx rfl (hb C.hby d3_80) rfl q) ?_
  refine Wk.fLdI C F179 (i := 1) (by decide) (by decide) (by decide) (v := (.int (0 : Int32))) (by simp [up]) d3_82 ?_
  show Wk _ p l e _ s m _ below meth c n0 _ h164 6 11 (mkF m 83 #[.val (.ref o0), .val (.int (3 : Int32)), .val (.ref b2), .val (.ref b34), .val (.ref b165), .val (.int (1 : Int32))] [(.int (0 : Int32))])
  refine Wk.st (g' := (mkF m 86 #[.val (.ref o0), .val (.int (3 : Int32)), .val (.ref b2), .val (.ref b34), .val (.ref b165), .val (.int (1 : Int32))] [])) (fun X t q => XS.ifNo X.here C.hx rfl (hb C.hby d3_83) rfl (XT.i0_lt_f (by decide)) q) ?_
  refine Wk.st (g' := (mkF m 87 #[.val (.ref o0), .val (.int (3 : Int32)), .val (.ref b2), .val (.ref b34), .val (.ref b165), .val (.int (1 : Int32))] [(.ref b34)])) (fun X t q => XS.aloadN X.here C.hx rfl (hb C.hby d3_86) rfl rfl q) ?_
  refine Wk.st (g' := (mkF m 88 #[.val (.ref o0), .val (.int (3 : Int32)), .val (.ref b2), .val (.ref b34), .val (.ref b165), .val (.int (1 : Int32))] [(.ref o0), (.ref b34)])) (fun X t q => XS.aloadN X.here C.hx rfl (hb C.hby d3_87) rfl rfl q) ?_
  refine Wk.st (g' := (mkF m 90 #[.val (.ref o0), .val (.int (3 : Int32)), .val (.ref b2), .val (.ref b34), .val (.ref b165), .val (.int (1 : Int32))] [(.int (1 : Int32)), (.ref o0), (.ref b34)])) (fun X t q => XS.iload X.here C.hx rfl (hb C.hby d3_88) rfl q) ?_
  refine Wk.fLdI C F179 (i := 1) (by decide) (by decide) (by decide) (v := (.int (0 : Int32))) (by simp [up]) d3_90 ?_
  show Wk _ p l e _ s m _ below meth c n0 _ h164 6 11 (mkF m 91 #[.val (.ref o0), .val (.int (3 : Int32)), .val (.ref b2), .val (.ref b34), .val (.ref b165), .val (.int (1 : Int32))] [(.int (0 : Int32)), (.ref b34)])
  refine Wk.fLdA C F189 (i := 0) (by decide) (by decide) (by decide) (v := (.ref b51)) (by simp [up]) d3_91 ?_
  show Wk _ p l e _ s m _ below meth c n0 _ h164 6 11 (mkF m 92 #[.val (.ref o0), .val (.int (3 : Int32)), .val (.ref b2), .val (.ref b34), .val (.ref b165), .val (.int (1 : Int32))] [(.ref b51)])
  refine Wk.st (g' := (mkF m 94 #[.val (.ref o0), .val (.int (3 : Int32)), .val (.ref b2), .val (.ref b34), .val (.ref b165), .val (.int (1 : Int32))] [(.ref b165), (.ref b51)])) (fun X t q => XS.aload X.here C.hx rfl (hb C.hby d3_92) rfl rfl q) ?_
  refine Wk.st (g' := (mkF m 95 #[.val (.ref o0), .val (.int (3 : Int32)), .val (.ref b2), .val (.ref b34), .val (.ref b165), .val (.int (1 : Int32))] [(.ref o0), (.ref b165), (.ref b51)])) (fun X t q => XS.aloadN X.here C.hx rfl (hb C.hby d3_94) rfl rfl q) ?_
  refine Wk.st (g' := (mkF m 97 #[.val (.ref o0), .val (.int (3 : Int32)), .val (.ref b2), .val (.ref b34), .val (.ref b165), .val (.int (1 : Int32))] [(.int (1 : Int32)), (.ref o0), (.ref b165), (.ref b51)])) (fun X t q => XS.iload X.here C.hx rfl (hb C.hby d3_95) rfl q) ?_
  refine Wk.fLdI C F179 (i := 1) (by decide) (by decide) (by decide) (v := (.int (0 : Int32))) (by simp [up]) d3_97 ?_
  show Wk _ p l e _ s m _ below meth c n0 _ h164 6 11 (mkF m 98 #[.val (.ref o0), .val (.int (3 : Int32)), .val (.ref b2), .val (.ref b34), .val (.ref b165), .val (.int (1 : Int32))] [(.int (0 : Int32)), (.ref b165), (.ref b51)])
  refine Wk.st (g' := (mkF m 99 #[.val (.ref o0), .val (.int (3 : Int32)), .val (.ref b2), .val (.ref b34), .val (.ref b165), .val (.int (1 : Int32))] [(.int (0 : Int32)), (.ref b165), (.int (0 : Int32)), (.ref b165), (.ref b51)])) (fun X t q => XT.dup2 X.here C.hx rfl (hb C.hby d3_98) rfl rfl rfl q) ?_
  refine Wk.fLdI C F169 (i := 0) (by decide) (by decide) (by decide) (v := (.int (0 : Int32))) rfl d3_99 ?_
  show Wk _ p l e _ s m _ below meth c n0 _ h164 6 11 (mkF m 100 #[.val (.ref o0), .val (.int (3 : Int32)), .val (.ref b2), .val (.ref b34), .val (.ref b165), .val (.int (1 : Int32))] [(.int (0 : Int32)), (.int (0 : Int32)), (.ref b165), (.ref b51)])
  refine Wk.st (g' := (mkF m 101 #[.val (.ref o0), .val (.int (3 : Int32)), .val (.ref b2), .val (.ref b34), .val (.ref b165), .val (.int (1 : Int32))] [(.int (0 : Int32)), (.int (0 : Int32)), (.ref b165), (.int (0 : Int32)), (.ref b51)])) (fun X t q => dupX2 X.here C.hx rfl (hb C.hby d3_100) rfl rfl rfl rfl q) ?_
  refine Wk.st (g' := (mkF m 102 #[.val (.ref o0), .val (.int (3 : Int32)), .val (.ref b2), .val (.ref b34), .val (.ref b165), .val (.int (1 : Int32))] [(.int (1 : Int32)), (.int (0 : Int32)), (.int (0 : Int32)), (.ref b165), (.int (0 : Int32)), (.ref b51)])) (fun X t q => XS.iconst X.here C.hx rfl (hb C.hby d3_101) q) ?_
  refine Wk.st (g' := (mkF m 103 #[.val (.ref o0), .val (.int (3 : Int32)), .val (.ref b2), .val (.ref b34), .val (.ref b165), .val (.int (1 : Int32))] [(.int (1 : Int32)), (.int (0 : Int32)), (.ref b165), (.int (0 : Int32)), (.ref b51)])) (fun X t q => XS.iadd X.here C.hx rfl (hb C.hby d3_102) rfl q) ?_
  refine Wk.fStI C F169 (i := 0) (by decide) (by decide) (by decide) ge176 d3_103 ?_
  intro h193 W194 F195
  have F196 : Exa Z h193 o0 "[I" := F178.wr W194
  have F197 : Fa Z h193 o0 .int 3 (up (up (up (fun _ => (.int (0 : Int32))) 0 (.int (-1 : Int32))) 1 (.int (0 : Int32))) 2 (.int (1 : Int32))) := F179.other W194 ne170
  have F198 : Exa Z h193 b2 "[I" := F180.wr W194
  have F199 : Fa Z h193 b2 .int 3 (up (up (fun _ => (.int (0 : Int32))) 0 (.int (1 : Int32))) 1 (.int (1 : Int32))) := F181.other W194 ne171
  have F200 : Exa Z h193 b34 "[[I" := F182.wr W194
  have F201 : Exa Z h193 b51 "[I" := F183.wr W194
  have F202 : Fa Z h193 b51 .int 1 (fun _ => (.int (0 : Int32))) := F184.other W194 ne173
  have F203 : Exa Z h193 b84 "[I" := F185.wr W194
  have F204 : Fa Z h193 b84 .int 1 (fun _ => (.int (0 : Int32))) := F186.other W194 ne174
  have F205 : Exa Z h193 b122 "[I" := F187.wr W194
  have F206 : Fa Z h193 b122 .int 0 (fun _ => (.int (0 : Int32))) := F188.other W194 ne175
  have F207 : FaA Z h193 b34 .int "[I" 3 (up (up (up (fun _ => .null) 0 (.ref b51)) 1 (.ref b84)) 2 (.ref b122)) := F189.other W194 ne172
  have F208 : Exa Z h193 b165 "[I" := A168.wr W194
  have sz209 : n0 ≤ h193.size := Nat.le_trans sz190 (Nat.le_of_eq W194.size.symm)
  have sy210 : h0.size ≤ h193.size := Nat.le_trans sy191 (Nat.le_of_eq W194.size.symm)
  have K211 := K192.wr W194 (Or.inr gz177)
  show Wk _ p l e _ s m _ below meth c n0 _ h193 6 11 (mkF m 104 #[.val (.ref o0), .val (.int (3 : Int32)), .val (.ref b2), .val (.ref b34), .val (.ref b165), .val (.int (1 : Int32))] [(.int (0 : Int32)), (.ref b51)])
  refine Wk.st (g' := (mkF m 106 #[.val (.ref o0), .val (.int (3 : Int32)), .val (.ref b2), .val (.ref b34), .val (.ref b165), .val (.int (1 : Int32))] [(.int (1 : Int32)), (.int (0 : Int32)), (.ref b51)])) (fun X t q => XS.iload X.here C.hx rfl (hb C.hby d3_104) rfl q) ?_
  refine Wk.fStI C F202 (i := 0) (by decide) (by decide) (by decide) ge59 d3_106 ?_
  intro h212 W213 F214
  have F215 : Exa Z h212 o0 "[I" := F196.wr W213
  have F216 : Fa Z h212 o0 .int 3 (up (up (up (fun _ => (.int (0 : Int32))) 0 (.int (-1 : Int32))) 1 (.int (0 : Int32))) 2 (.int (1 : Int32))) := F197.other W213 ne56
  have F217 : Exa Z h212 b2 "[I" := F198.wr W213
  have F218 : Fa Z h212 b2 .int 3 (up (up (fun _ => (.int (0 : Int32))) 0 (.int (1 : Int32))) 1 (.int (1 : Int32))) := F199.other W213 ne57
  have F219 : Exa Z h212 b34 "[[I" := F200.wr W213
  have F220 : Exa Z h212 b51 "[I" := F201.wr W213
  have F221 : Exa Z h212 b84 "[I" := F203.wr W213
  have F222 : Fa Z h212 b84 .int 1 (fun _ => (.int (0 : Int32))) := F204.other W213 (Ne.symm ne92)
  have F223 : Exa Z h212 b122 "[I" := F205.wr W213
  have F224 : Fa Z h212 b122 .int 0 (fun _ => (.int (0 : Int32))) := F206.other W213 (Ne.symm ne130)
  have F225 : FaA Z h212 b34 .int "[I" 3 (up (up (up (fun _ => .null) 0 (.ref b51)) 1 (.ref b84)) 2 (.ref b122)) := F207.other W213 ne58
  have F226 : Exa Z h212 b165 "[I" := F208.wr W213
  have F227 : Fa Z h212 b165 .int 3 (up (fun _ => (.int (0 : Int32))) 0 (.int (1 : Int32))) := F195.other W213 (Ne.symm ne173)
  have sz228 : n0 ≤ h212.size := Nat.le_trans sz209 (Nat.le_of_eq W213.size.symm)
  have sy229 : h0.size ≤ h212.size := Nat.le_trans sy210 (Nat.le_of_eq W213.size.symm)
  have K230 := K211.wr W213 (Or.inr gz60)
  show Wk _ p l e _ s m _ below meth c n0 _ h212 6 11 (mkF m 107 #[.val (.ref o0), .val (.int (3 : Int32)), .val (.ref b2), .val (.ref b34), .val (.ref b165), .val (.int (1 : Int32))] [])
  refine Wk.st (g' := (mkF m 110 #[.val (.ref o0), .val (.int (3 : Int32)), .val (.ref b2), .val (.ref b34), .val (.ref b165), .val (.int (2 : Int32))] [])) (fun X t q => XS.iinc X.here C.hx rfl (hb C.hby d3_107) rfl (l' := #[.val (.ref o0), .val (.int (3 : Int32)), .val (.ref b2), .val (.ref b34), .val (.ref b165), .val (.int (2 : Int32))]) rfl q) ?_
  refine Wk.st (g' := (mkF m 73 #[.val (.ref o0), .val (.int (3 : Int32)), .val (.ref b2), .val (.ref b34), .val (.ref b165), .val (.int (2 : Int32))] [])) (fun X t q => XS.goto X.here C.hx rfl (pc0 := 110) (pc' := 73) rfl (hb C.hby d3_110) (by decide) (by decide) q) ?_
  refine Wk.st (g' := (mkF m 75 #[.val (.ref o0), .val (.int (3 : Int32)), .val (.ref b2), .val (.ref b34), .val (.ref b165), .val (.int (2 : Int32))] [(.int (2 : Int32))])) (fun X t q => XS.iload X.here C.hx rfl (hb C.hby d3_73) rfl q) ?_
  refine Wk.st (g' := (mkF m 76 #[.val (.ref o0), .val (.int (3 : Int32)), .val (.ref b2), .val (.ref b34), .val (.ref b165), .val (.int (2 : Int32))] [(.int (3 : Int32)), (.int (2 : Int32))])) (fun X t q => XS.iloadN X.here C.hx rfl (hb C.hby d3_75) rfl q) ?_
  refine Wk.st (g' := (mkF m 79 #[.val (.ref o0), .val (.int (3 : Int32)), .val (.ref b2), .val (.ref b34), .val (.ref b165), .val (.int (2 : Int32))] [])) (fun X t q => XS.icmpNo X.here C.hx rfl (hb C.hby d3_76) rfl (XT.ii_ge_f (by decide)) q) ?_
  refine Wk.st (g' := (mkF m 80 #[.val (.ref o0), .val (.int (3 : Int32)), .val (.ref b2), .val (.ref b34), .val (.ref b165), .val (.int (2 : Int32))] [(.ref o0)])) (fun X t q => XS.aloadN X.here C.hx rfl (hb C.hby d3_79) rfl rfl q) ?_
  refine Wk.st (g' := (mkF m 82 #[.val (.ref o0), .val (.int (3 : Int32)), .val (.ref b2), .val (.ref b34), .val (.ref b165), .val (.int (2 : Int32))] [(.int (2 : Int32)), (.ref o0)])) (fun X t q => XS.iload X.here C.hx rfl (hb C.hby d3_80) rfl q) ?_
  refine Wk.fLdI C F216 (i := 2) (by decide) (by decide) (by decide) (v := (.int (1 : Int32))) (by simp [up]) d3_82 ?_
  show Wk _ p l e _ s m _ below meth c n0 _ h212 6 11 (mkF m 83 #[.val (.ref o0), .val (.int (3 : Int32)), .val (.ref b2), .val (.ref b34), .val (.ref b165), .val (.int (2 : Int32))] [(.int (1 : Int32))])
  refine Wk.st (g' := (mkF m 86 #[.val (.ref o0), .val (.int (3 : Int32)), .val (.ref b2), .val (.ref b34), .val (.ref b165), .val (.int (2 : Int32))] [])) (fun X t q => XS.ifNo X.here C.hx rfl (hb C.hby d3_83) rfl (XT.i0_lt_f (by decide)) q) ?_
  refine Wk.st (g' := (mkF m 87 #[.val (.ref o0), .val (.int (3 : Int32)), .val (.ref b2), .val (.ref b34), .val (.ref b165), .val (.int (2 : Int32))] [(.ref b34)])) (fun X t q => XS.aloadN X.here C.hx rfl (hb C.hby d3_86) rfl rfl q) ?_
  refine Wk.st (g' := (mkF m 88 #[.val (.ref o0), .val (.int (3 : Int32)), .val (.ref b2), .val (.ref b34), .val (.ref b165), .val (.int (2 : Int32))] [(.ref o0), (.ref b34)])) (fun X t q => XS.aloadN X.here C.hx rfl (hb C.hby d3_87) rfl rfl q) ?_
  refine Wk.st (g' := (mkF m 90 #[.val (.ref o0), .val (.int (3 : Int32)), .val (.ref b2), .val (.ref b34), .val (.ref b165), .val (.int (2 : Int32))] [(.int (2 : Int32)), (.ref o0), (.ref b34)])) (fun X t q => XS.iload X.here C.hx rfl (hb C.hby d3_88) rfl q) ?_
  refine Wk.fLdI C F216 (i := 2) (by decide) (by decide) (by decide) (v := (.int (1 : Int32))) (by simp [up]) d3_90 ?_
  show Wk _ p l e _ s m _ below meth c n0 _ h212 6 11 (mkF m 91 #[.val (.ref o0), .val (.int (3 : Int32)), .val (.ref b2), .val (.ref b34), .val (.ref b165), .val (.int (2 : Int32))] [(.int (1 : Int32)), (.ref b34)])
  refine Wk.fLdA C F225 (i := 1) (by decide) (by decide) (by decide) (v := (.ref b84)) (by simp [up]) d3_91 ?_
  show Wk _ p l e _ s m _ below meth c n0 _ h212 6 11 (mkF m 92 #[.val (.ref o0), .val (.int (3 : Int32)), .val (.ref b2), .val (.ref b34), .val (.ref b165), .val (.int (2 : Int32))] [(.ref b84)])
  refine Wk.st (g' := (mkF m 94 #[.val (.ref o0), .val (.int (3 : Int32)), .val (.ref b2), .val (.ref b34), .val (.ref b165), .val (.int (2 : Int32))] [(.ref b165), (.ref b84)])) (fun X t q => XS.aload X.here C.hx rfl (hb C.hby d3_92) rfl rfl q) ?_
  refine Wk.st (g' := (mkF m 95 #[.val (.ref o0), .val (.int (3 : Int32)), .val (.ref b2), .val (.ref b34), .val (.ref b165), .val (.int (2 : Int32))] [(.ref o0), (.ref b165), (.ref b84)])) (fun X t q => XS.aloadN X.here C.hx rfl (hb C.hby d3_94) rfl rfl q) ?_
  refine Wk.st (g' := (mkF m 97 #[.val (.ref o0), .val (.int (3 : Int32)), .val (.ref b2), .val (.ref b34), .val (.ref b165), .val (.int (2 : Int32))] [(.int (2 : Int32)), (.ref o0), (.ref b165), (.ref b84)])) (fun X t q => XS.iload X.here C.hx rfl (hb C.hby d3_95) rfl q) ?_
  refine Wk.fLdI C F216 (i := 2) (by decide) (by decide) (by decide) (v := (.int (1 : Int32))) (by simp [up]) d3_97 ?_
  show Wk _ p l e _ s m _ below meth c n0 _ h212 6 11 (mkF m 98 #[.val (.ref o0), .val (.int (3 : Int32)), .val (.ref b2), .val (.ref b34), .val (.ref b165), .val (.int (2 : Int32))] [(.int (1 : Int32)), (.ref b165), (.ref b84)])
  refine Wk.st (g' := (mkF m 99 #[.val (.ref o0), .val (.int (3 : Int32)), .val (.ref b2), .val (.ref b34), .val (.ref b165), .val (.int (2 : Int32))] [(.int (1 : Int32)), (.ref b165), (.int (1 : Int32)), (.ref b165), (.ref b84)])) (fun X t q => XT.dup2 X.here C.hx rfl (hb C.hby d3_98) rfl rfl rfl q) ?_
  refine Wk.fLdI C F227 (i := 1) (by decide) (by decide) (by decide) (v := (.int (0 : Int32))) (by simp [up]) d3_99 ?_
  show Wk _ p l e _ s m _ below meth c n0 _ h212 6 11 (mkF m 100 #[.val (.ref o0), .val (.int (3 : Int32)), .val (.ref b2), .val (.ref b34), .val (.ref b165), .val (.int (2 : Int32))] [(.int (0 : Int32)), (.int (1 : Int32)), (.ref b165), (.ref b84)])
  refine Wk.st (g' := (mkF m 101 #[.val (.ref o0), .val (.int (3 : Int32)), .val (.ref b2), .val (.ref b34), .val (.ref b165), .val (.int (2 : Int32))] [(.int (0 : Int32)), (.int (1 : Int32)), (.ref b165), (.int (0 : Int32)), (.ref b84)])) (fun X t q => dupX2 X.here C.hx rfl (hb C.hby d3_100) rfl rfl rfl rfl q) ?_
  refine Wk.st (g' := (mkF m 102 #[.val (.ref o0), .val (.int (3 : Int32)), .val (.ref b2), .val (.ref b34), .val (.ref b165), .val (.int (2 : Int32))] [(.int (1 : Int32)), (.int (0 : Int32)), (.int (1 : Int32)), (.ref b165), (.int (0 : Int32)), (.ref b84)])) (fun X t q => XS.iconst X.here C.hx rfl (hb C.hby d3_101) q) ?_
  refine Wk.st (g' := (mkF m 103 #[.val (.ref o0), .val (.int (3 : Int32)), .val (.ref b2), .val (.ref b34), .val (.ref b165), .val (.int (2 : Int32))] [(.int (1 : Int32)), (.int (1 : Int32)), (.ref b165), (.int (0 : Int32)), (.ref b84)])) (fun X t q => XS.iadd X.here C.hx rfl (hb C.hby d3_102) rfl q) ?_
  refine Wk.fStI C F227 (i := 1) (by decide) (by decide) (by decide) ge176 d3_103 ?_
  intro h231 W232 F233
  have F234 : Exa Z h231 o0 "[I" := F215.wr W232
  have F235 : Fa Z h231 o0 .int 3 (up (up (up (fun _ => (.int (0 : Int32))) 0 (.int (-1 : Int32))) 1 (.int (0 : Int32))) 2 (.int (1 : Int32))) := F216.other W232 ne170
  have F236 : Exa Z h231 b2 "[I" := F217.wr W232
  have F237 : Fa Z h231 b2 .int 3 (up (up (fun _ => (.int (0 : Int32))) 0 (.int (1 : Int32))) 1 (.int (1 : Int32))) := F218.other W232 ne171
  have F238 : Exa Z h231 b34 "[[I" := F219.wr W232
  have F239 : Exa Z h231 b51 "[I" := F220.wr W232
  have F240 : Exa Z h231 b84 "[I" := F221.wr W232
  have F241 : Fa Z h231 b84 .int 1 (fun _ => (.int (0 : Int32))) := F222.other W232 ne174
  have F242 : Exa Z h231 b122 "[I" := F223.wr W232
  have F243 : Fa Z h231 b122 .int 0 (fun _ => (.int (0 : Int32))) := F224.other W232 ne175
  have F244 : FaA Z h231 b34 .int "[I" 3 (up (up (up (fun _ => .null) 0 (.ref b51)) 1 (.ref b84)) 2 (.ref b122)) := F225.other W232 ne172
  have F245 : Exa Z h231 b165 "[I" := F226.wr W232
  have F246 : Fa Z h231 b51 .int 1 (up (fun _ => (.int (0 : Int32))) 0 (.int (1 : Int32))) := F214.other W232 ne173
  have sz247 : n0 ≤ h231.size := Nat.le_trans sz228 (Nat.le_of_eq W232.size.symm)
  have sy248 : h0.size ≤ h231.size := Nat.le_trans sy229 (Nat.le_of_eq W232.size.symm)
  have K249 := K230.wr W232 (Or.inr gz177)
  show Wk _ p l e _ s m _ below meth c n0 _ h231 6 11 (mkF m 104 #[.val (.ref o0), .val (.int (3 : Int32)), .val (.ref b2), .val (.ref b34), .val (.ref b165), .val (.int (2 : Int32))] [(.int (0 : Int32)), (.ref b84)])
  refine Wk.st (g' := (mkF m 106 #[.val (.ref o0), .val (.int (3 : Int32)), .val (.ref b2), .val (.ref b34), .val (.ref b165), .val (.int (2 : Int32))] [(.int (2 : Int32)), (.int (0 : Int32)), (.ref b84)])) (fun X t q => XS.iload X.here C.hx rfl (hb C.hby d3_104) rfl q) ?_
  refine Wk.fStI C F241 (i := 0) (by decide) (by decide) (by decide) ge93 d3_106 ?_
  intro h250 W251 F252
  have F253 : Exa Z h250 o0 "[I" := F234.wr W251
  have F254 : Fa Z h250 o0 .int 3 (up (up (up (fun _ => (.int (0 : Int32))) 0 (.int (-1 : Int32))) 1 (.int (0 : Int32))) 2 (.int (1 : Int32))) := F235.other W251 ne89
  have F255 : Exa Z h250 b2 "[I" := F236.wr W251
  have F256 : Fa Z h250 b2 .int 3 (up (up (fun _ => (.int (0 : Int32))) 0 (.int (1 : Int32))) 1 (.int (1 : Int32))) := F237.other W251 ne90
  have F257 : Exa Z h250 b34 "[[I" := F238.wr W251
  have F258 : Exa Z h250 b51 "[I" := F239.wr W251
  have F259 : Exa Z h250 b84 "[I" := F240.wr W251
  have F260 : Exa Z h250 b122 "[I" := F242.wr W251
  have F261 : Fa Z h250 b122 .int 0 (fun _ => (.int (0 : Int32))) := F243.other W251 (Ne.symm ne131)
  have F262 : FaA Z h250 b34 .int "[I" 3 (up (up (up (fun _ => .null) 0 (.ref b51)) 1 (.ref b84)) 2 (.ref b122)) := F244.other W251 ne91
  have F263 : Exa Z h250 b165 "[I" := F245.wr W251
  have F264 : Fa Z h250 b51 .int 1 (up (fun _ => (.int (0 : Int32))) 0 (.int (1 : Int32))) := F246.other W251 ne92
  have F265 : Fa Z h250 b165 .int 3 (up (up (fun _ => (.int (0 : Int32))) 0 (.int (1 : Int32))) 1 (.int (1 : Int32))) := F233.other W251 (Ne.symm ne174)
  have sz266 : n0 ≤ h250.size := Nat.le_trans sz247 (Nat.le_of_eq W251.size.symm)
  have sy267 : h0.size ≤ h250.size := Nat.le_trans sy248 (Nat.le_of_eq W251.size.symm)
  have K268 := K249.wr W251 (Or.inr gz94)
  show Wk _ p l e _ s m _ below meth c n0 _ h250 6 11 (mkF m 107 #[.val (.ref o0), .val (.int (3 : Int32)), .val (.ref b2), .val (.ref b34), .val (.ref b165), .val (.int (2 : Int32))] [])
  refine Wk.st (g' := (mkF m 110 #[.val (.ref o0), .val (.int (3 : Int32)), .val (.ref b2), .val (.ref b34), .val (.ref b165), .val (.int (3 : Int32))] [])) (fun X t q => XS.iinc X.here C.hx rfl (hb C.hby d3_107) rfl (l' := #[.val (.ref o0), .val (.int (3 : Int32)), .val (.ref b2), .val (.ref b34), .val (.ref b165), .val (.int (3 : Int32))]) rfl q) ?_
  refine Wk.st (g' := (mkF m 73 #[.val (.ref o0), .val (.int (3 : Int32)), .val (.ref b2), .val (.ref b34), .val (.ref b165), .val (.int (3 : Int32))] [])) (fun X t q => XS.goto X.here C.hx rfl (pc0 := 110) (pc' := 73) rfl (hb C.hby d3_110) (by decide) (by decide) q) ?_
  refine Wk.st (g' := (mkF m 75 #[.val (.ref o0), .val (.int (3 : Int32)), .val (.ref b2), .val (.ref b34), .val (.ref b165), .val (.int (3 : Int32))] [(.int (3 : Int32))])) (fun X t q => XS.iload X.here C.hx rfl (hb C.hby d3_73) rfl q) ?_
  refine Wk.st (g' := (mkF m 76 #[.val (.ref o0), .val (.int (3 : Int32)), .val (.ref b2), .val (.ref b34), .val (.ref b165), .val (.int (3 : Int32))] [(.int (3 : Int32)), (.int (3 : Int32))])) (fun X t q => XS.iloadN X.here C.hx rfl (hb C.hby d3_75) rfl q) ?_
  refine Wk.st (g' := (mkF m 113 #[.val (.ref o0), .val (.int (3 : Int32)), .val (.ref b2), .val (.ref b34), .val (.ref b165), .val (.int (3 : Int32))] [])) (fun X t q => XS.icmpYes X.here C.hx rfl (pc0 := 76) (pc' := 113) rfl (hb C.hby d3_76) rfl (XT.ii_ge_t (by decide)) (by decide) (by decide) q) ?_
  refine Wk.st (g' := (mkF m 114 #[.val (.ref o0), .val (.int (3 : Int32)), .val (.ref b2), .val (.ref b34), .val (.ref b165), .val (.int (3 : Int32))] [(.ref b34)])) (fun X t q => XS.aloadN X.here C.hx rfl (hb C.hby d3_113) rfl rfl q) ?_
  exact Wk.retV C (t := (.array (.array .int))) rfl rfl (Or.inr (Or.inr (Or.inr (Or.inr ⟨rfl, rfl, rfl⟩)))) d3_114 (by decide) (by decide) ⟨b34, b51, b84, b122, rfl, K268, gz42, gz60, gz94, gz133, ne58, ne91, ne129, ne92, ne130, ne131, F257, F258, F259, F260, F261, F262, F264, F252⟩
set_option maxRecDepth 65536 in
set_option maxHeartbeats 40000000 in
theorem own_1_5 (l : Launch) (Z : State) (a0 : Array Value) (hw : ∀ d ∈ tables_1, d.before a0 Z = true) (n0 : Nat) (h0 : Heap) (hsz : n0 ≤ h0.size) (o0 : Addr) (o1 : Addr) (o2 : Addr) (o3 : Addr) (x0 : Int32) (x1 : Int32) (x2 : Int32) (P0 : Exa Z h0 o1 "[I") (P1 : Fa Z h0 o1 .int 3 (up (up (up (fun _ => (.int (0 : Int32))) 0 (.int (-1 : Int32))) 1 (.int (0 : Int32))) 2 (.int (1 : Int32)))) (P2 : Exa Z h0 o2 "[I") (P3 : Fa Z h0 o2 .int 3 (up (up (up (fun _ => (.int (0 : Int32))) 0 (.int x0)) 1 (.int x1)) 2 (.int x2))) (P4 : Exa Z h0 o3 "[I") (P5 : Fa Z h0 o3 .int 3 (up (up (up (fun _ => (.int (0 : Int32))) 0 (.int (-1 : Int32))) 1 (.int (-1 : Int32))) 2 (.int (-1 : Int32)))) (P6 : Exa Z h0 o0 "com/example/understory/understory/RootedTree") (P7 : Fld Z h0 o0 "com/example/understory/understory/RootedTree" "parent" "[I" .null) (P8 : Fld Z h0 o0 "com/example/understory/understory/RootedTree" "states" "[I" .null) (P9 : Fld Z h0 o0 "com/example/understory/understory/RootedTree" "column" "[I" .null) (P10 : Fld Z h0 o0 "com/example/understory/understory/RootedTree" "children" "[[I" .null) (P11 : Fld Z h0 o0 "com/example/understory/understory/RootedTree" "nodeOfColumn" "[I" .null) (N_o0_o1 : o0 ≠ o1) (N_o0_o2 : o0 ≠ o2) (N_o0_o3 : o0 ≠ o3) (N_o1_o2 : o1 ≠ o2) (N_o1_o3 : o1 ≠ o3) (N_o2_o3 : o2 ≠ o3) (G_o0 : n0 ≤ o0) (G_o1 : n0 ≤ o1) (G_o2 : n0 ≤ o2) (G_o3 : n0 ≤ o3) :
    Met false l Z n0 (⟨"com/example/understory/understory/RootedTree", "<init>", "([I[I[I)V"⟩ : MethodName) prog_21_method_1_code 7 none ({ frames := 1, cells := 7, slots := 11, locals := 18 } : Room) #[(.ref o0), (.ref o1), (.ref o2), (.ref o3)] h0 (fun v h => ∃ n52_b34 : Addr, ∃ b138 : Addr, ∃ n52_b51 : Addr, ∃ n52_b84 : Addr, ∃ n52_b122 : Addr, v = none ∧ Keep h0 h [o0] ∧ h0.size ≤ n52_b34 ∧ h0.size ≤ b138 ∧ h0.size ≤ n52_b51 ∧ h0.size ≤ n52_b84 ∧ h0.size ≤ n52_b122 ∧ n52_b34 ≠ b138 ∧ n52_b34 ≠ n52_b51 ∧ n52_b34 ≠ n52_b84 ∧ n52_b34 ≠ n52_b122 ∧ b138 ≠ n52_b51 ∧ b138 ≠ n52_b84 ∧ b138 ≠ n52_b122 ∧ n52_b51 ≠ n52_b84 ∧ n52_b51 ≠ n52_b122 ∧ n52_b84 ≠ n52_b122 ∧ Fld Z h o0 "com/example/understory/understory/RootedTree" "parent" "[I" (.ref o1) ∧ Fld Z h o0 "com/example/understory/understory/RootedTree" "states" "[I" (.ref o2) ∧ Fld Z h o0 "com/example/understory/understory/RootedTree" "column" "[I" (.ref o3) ∧ Exa Z h n52_b34 "[[I" ∧ Exa Z h n52_b51 "[I" ∧ Exa Z h n52_b84 "[I" ∧ Exa Z h n52_b122 "[I" ∧ Fa Z h n52_b122 .int 0 (fun _ => (.int (0 : Int32))) ∧ FaA Z h n52_b34 .int "[I" 3 (up (up (up (fun _ => .null) 0 (.ref n52_b51)) 1 (.ref n52_b84)) 2 (.ref n52_b122)) ∧ Fa Z h n52_b51 .int 1 (up (fun _ => (.int (0 : Int32))) 0 (.int (1 : Int32))) ∧ Fa Z h n52_b84 .int 1 (up (fun _ => (.int (0 : Int32))) 0 (.int (2 : Int32))) ∧ Fld Z h o0 "com/example/understory/understory/RootedTree" "children" "[[I" (.ref n52_b34) ∧ Exa Z h b138 "[I" ∧ Fa Z h b138 .int 0 (fun _ => (.int (0 : Int32))) ∧ Fld Z h o0 "com/example/understory/understory/RootedTree" "nodeOfColumn" "[I" (.ref b138)) := by
  refine Met.of pn_0 #[.val (.ref o0), .val (.ref o1), .val (.ref o2), .val (.ref o3), .unset, .unset, .unset] (fun m => by first | (simp [entryFrame, mkF, argsToLocals, Value.category]; done) | rfl) ?_
  intro p e s m below meth c C
  refine Wk.st (g' := (mkF m 1 #[.val (.ref o0), .val (.ref o1), .val (.ref o2), .val (.ref o3), .unset, .unset, .unset] [(.ref o0)])) (fun X t q => XS.aloadN X.here C.hx rfl (hb C.hby d1_0) rfl rfl q) ?_
  refine Wk.initO C (hw _ (List.mem_of_getElem? (i := 7) rfl)) (hw _ (List.mem_of_getElem? (i := 8) rfl)) (hw _ (List.mem_of_getElem? (i := 9) rfl)) (w := 0) rfl d1_1 (by decide) (Nat.le_of_eq rfl) (by decide) ?_
  show Wk _ p l e _ s m _ below meth c n0 _ h0 0 0 (mkF m 4 #[.val (.ref o0), .val (.ref o1), .val (.ref o2), .val (.ref o3), .unset, .unset, .unset] [])
  refine Wk.st (g' := (mkF m 5 #[.val (.ref o0), .val (.ref o1), .val (.ref o2), .val (.ref o3), .unset, .unset, .unset] [(.ref o0)])) (fun X t q => XS.aloadN X.here C.hx rfl (hb C.hby d1_4) rfl rfl q) ?_
  refine Wk.st (g' := (mkF m 6 #[.val (.ref o0), .val (.ref o1), .val (.ref o2), .val (.ref o3), .unset, .unset, .unset] [(.ref o1), (.ref o0)])) (fun X t q => XS.aloadN X.here C.hx rfl (hb C.hby d1_5) rfl rfl q) ?_
  refine Wk.putF C (hw _ (List.mem_of_getElem? (i := 10) rfl)) Via.refl P7 P6 (Or.inr ⟨(hw _ (List.mem_of_getElem? (i := 11) rfl)), rfl, rfl⟩) (hw _ (List.mem_of_getElem? (i := 2) rfl)) (ty := (.array .int)) (by decide) (v' := (.ref o1)) rfl rfl G_o0 d1_6 ?_
  intro h1 W2
  have F3 : Fld Z h1 o0 "com/example/understory/understory/RootedTree" "parent" "[I" (.ref o1) := P7.same W2
  have F4 : Exa Z h1 o1 "[I" := P0.wr W2
  have F5 : Fa Z h1 o1 .int 3 (up (up (up (fun _ => (.int (0 : Int32))) 0 (.int (-1 : Int32))) 1 (.int (0 : Int32))) 2 (.int (1 : Int32))) := P1.other W2 (Ne.symm N_o0_o1)
  have F6 : Exa Z h1 o2 "[I" := P2.wr W2
  have F7 : Fa Z h1 o2 .int 3 (up (up (up (fun _ => (.int (0 : Int32))) 0 (.int x0)) 1 (.int x1)) 2 (.int x2)) := P3.other W2 (Ne.symm N_o0_o2)
  have F8 : Exa Z h1 o3 "[I" := P4.wr W2
  have F9 : Fa Z h1 o3 .int 3 (up (up (up (fun _ => (.int (0 : Int32))) 0 (.int (-1 : Int32))) 1 (.int (-1 : Int32))) 2 (.int (-1 : Int32))) := P5.other W2 (Ne.symm N_o0_o3)
  have F10 : Exa Z h1 o0 "com/example/understory/understory/RootedTree" := P6.wr W2
  have F11 : Fld Z h1 o0 "com/example/understory/understory/RootedTree" "states" "[I" .null := P8.other W2 (Or.inr (slot_ne (Or.inr (hw _ (List.mem_of_getElem? (i := 13) rfl))) (Or.inr (hw _ (List.mem_of_getElem? (i := 11) rfl))) (by decide) (t := (.array .int)) (t' := (.array .int)) (by decide) (by decide)))
  have F12 : Fld Z h1 o0 "com/example/understory/understory/RootedTree" "column" "[I" .null := P9.other W2 (Or.inr (slot_ne (Or.inr (hw _ (List.mem_of_getElem? (i := 15) rfl))) (Or.inr (hw _ (List.mem_of_getElem? (i := 11) rfl))) (by decide) (t := (.array .int)) (t' := (.array .int)) (by decide) (by decide)))
  have F13 : Fld Z h1 o0 "com/example/understory/understory/RootedTree" "children" "[[I" .null := P10.other W2 (Or.inr (slot_ne (Or.inr (hw _ (List.mem_of_getElem? (i := 23) rfl))) (Or.inr (hw _ (List.mem_of_getElem? (i := 11) rfl))) (by decide) (t := (.array (.array .int))) (t' := (.array .int)) (by decide) (by decide)))
  have F14 : Fld Z h1 o0 "com/example/understory/understory/RootedTree" "nodeOfColumn" "[I" .null := P11.other W2 (Or.inr (slot_ne (Or.inr (hw _ (List.mem_of_getElem? (i := 25) rfl))) (Or.inr (hw _ (List.mem_of_getElem? (i := 11) rfl))) (by decide) (t := (.array .int)) (t' := (.array .int)) (by decide) (by decide)))
  have sz15 : n0 ≤ h1.size := Nat.le_trans hsz (Nat.le_of_eq W2.size.symm)
  have sy16 : h0.size ≤ h1.size := Nat.le_trans (Nat.le_refl h0.size) (Nat.le_of_eq W2.size.symm)
  have K17 := (Keep.refl h0 [o0]).wr W2 (Or.inl (by simp))
  show Wk _ p l e _ s m _ below meth c n0 _ h1 0 0 (mkF m 9 #[.val (.ref o0), .val (.ref o1), .val (.ref o2), .val (.ref o3), .unset, .unset, .unset] [])
  refine Wk.st (g' := (mkF m 10 #[.val (.ref o0), .val (.ref o1), .val (.ref o2), .val (.ref o3), .unset, .unset, .unset] [(.ref o0)])) (fun X t q => XS.aloadN X.here C.hx rfl (hb C.hby d1_9) rfl rfl q) ?_
  refine Wk.st (g' := (mkF m 11 #[.val (.ref o0), .val (.ref o1), .val (.ref o2), .val (.ref o3), .unset, .unset, .unset] [(.ref o2), (.ref o0)])) (fun X t q => XS.aloadN X.here C.hx rfl (hb C.hby d1_10) rfl rfl q) ?_
  refine Wk.putF C (hw _ (List.mem_of_getElem? (i := 12) rfl)) Via.refl F11 F10 (Or.inr ⟨(hw _ (List.mem_of_getElem? (i := 13) rfl)), rfl, rfl⟩) (hw _ (List.mem_of_getElem? (i := 2) rfl)) (ty := (.array .int)) (by decide) (v' := (.ref o2)) rfl rfl G_o0 d1_11 ?_
  intro h18 W19
  have F20 : Fld Z h18 o0 "com/example/understory/understory/RootedTree" "states" "[I" (.ref o2) := F11.same W19
  have F21 : Exa Z h18 o1 "[I" := F4.wr W19
  have F22 : Fa Z h18 o1 .int 3 (up (up (up (fun _ => (.int (0 : Int32))) 0 (.int (-1 : Int32))) 1 (.int (0 : Int32))) 2 (.int (1 : Int32))) := F5.other W19 (Ne.symm N_o0_o1)
  have F23 : Exa Z h18 o2 "[I" := F6.wr W19
  have F24 : Fa Z h18 o2 .int 3 (up (up (up (fun _ => (.int (0 : Int32))) 0 (.int x0)) 1 (.int x1)) 2 (.int x2)) := F7.other W19 (Ne.symm N_o0_o2)
  have F25 : Exa Z h18 o3 "[I" := F8.wr W19
  have F26 : Fa Z h18 o3 .int 3 (up (up (up (fun _ => (.int (0 : Int32))) 0 (.int (-1 : Int32))) 1 (.int (-1 : Int32))) 2 (.int (-1 : Int32))) := F9.other W19 (Ne.symm N_o0_o3)
  have F27 : Exa Z h18 o0 "com/example/understory/understory/RootedTree" := F10.wr W19
  have F28 : Fld Z h18 o0 "com/example/understory/understory/RootedTree" "column" "[I" .null := F12.other W19 (Or.inr (slot_ne (Or.inr (hw _ (List.mem_of_getElem? (i := 15) rfl))) (Or.inr (hw _ (List.mem_of_getElem? (i := 13) rfl))) (by decide) (t := (.array .int)) (t' := (.array .int)) (by decide) (by decide)))
  have F29 : Fld Z h18 o0 "com/example/understory/understory/RootedTree" "children" "[[I" .null := F13.other W19 (Or.inr (slot_ne (Or.inr (hw _ (List.mem_of_getElem? (i := 23) rfl))) (Or.inr (hw _ (List.mem_of_getElem? (i := 13) rfl))) (by decide) (t := (.array (.array .int))) (t' := (.array .int)) (by decide) (by decide)))
  have F30 : Fld Z h18 o0 "com/example/understory/understory/RootedTree" "nodeOfColumn" "[I" .null := F14.other W19 (Or.inr (slot_ne (Or.inr (hw _ (List.mem_of_getElem? (i := 25) rfl))) (Or.inr (hw _ (List.mem_of_getElem? (i := 13) rfl))) (by decide) (t := (.array .int)) (t' := (.array .int)) (by decide) (by decide)))
  have F31 : Fld Z h18 o0 "com/example/understory/understory/RootedTree" "parent" "[I" (.ref o1) := F3.other W19 (Or.inr (slot_ne (Or.inr (hw _ (List.mem_of_getElem? (i := 11) rfl))) (Or.inr (hw _ (List.mem_of_getElem? (i := 13) rfl))) (by decide) (t := (.array .int)) (t' := (.array .int)) (by decide) (by decide)))
  have sz32 : n0 ≤ h18.size := Nat.le_trans sz15 (Nat.le_of_eq W19.size.symm)
  have sy33 : h0.size ≤ h18.size := Nat.le_trans sy16 (Nat.le_of_eq W19.size.symm)
  have K34 := K17.wr W19 (Or.inl (by simp))
  show Wk _ p l e _ s m _ below meth c n0 _ h18 0 0 (mkF m 14 #[.val (.ref o0), .val (.ref o1), .val (.ref o2), .val (.ref o3), .unset, .unset, .unset] [])
  refine Wk.st (g' := (mkF m 15 #[.val (.ref o0), .val (.ref o1), .val (.ref o2), .val (.ref o3), .unset, .unset, .unset] [(.ref o0)])) (fun X t q => XS.aloadN X.here C.hx rfl (hb C.hby d1_14) rfl rfl q) ?_
  refine Wk.st (g' := (mkF m 16 #[.val (.ref o0), .val (.ref o1), .val (.ref o2), .val (.ref o3), .unset, .unset, .unset] [(.ref o3), (.ref o0)])) (fun X t q => XS.aloadN X.here C.hx rfl (hb C.hby d1_15) rfl rfl q) ?_
  refine Wk.putF C (hw _ (List.mem_of_getElem? (i := 14) rfl)) Via.refl F28 F27 (Or.inr ⟨(hw _ (List.mem_of_getElem? (i := 15) rfl)), rfl, rfl⟩) (hw _ (List.mem_of_getElem? (i := 2) rfl)) (ty := (.array .int)) (by decide) (v' := (.ref o3)) rfl rfl G_o0 d1_16 ?_
  intro h35 W36
  have F37 : Fld Z h35 o0 "com/example/understory/understory/RootedTree" "column" "[I" (.ref o3) := F28.same W36
  have F38 : Exa Z h35 o1 "[I" := F21.wr W36
  have F39 : Fa Z h35 o1 .int 3 (up (up (up (fun _ => (.int (0 : Int32))) 0 (.int (-1 : Int32))) 1 (.int (0 : Int32))) 2 (.int (1 : Int32))) := F22.other W36 (Ne.symm N_o0_o1)
  have F40 : Exa Z h35 o2 "[I" := F23.wr W36
  have F41 : Fa Z h35 o2 .int 3 (up (up (up (fun _ => (.int (0 : Int32))) 0 (.int x0)) 1 (.int x1)) 2 (.int x2)) := F24.other W36 (Ne.symm N_o0_o2)
  have F42 : Exa Z h35 o3 "[I" := F25.wr W36
  have F43 : Fa Z h35 o3 .int 3 (up (up (up (fun _ => (.int (0 : Int32))) 0 (.int (-1 : Int32))) 1 (.int (-1 : Int32))) 2 (.int (-1 : Int32))) := F26.other W36 (Ne.symm N_o0_o3)
  have F44 : Exa Z h35 o0 "com/example/understory/understory/RootedTree" := F27.wr W36
  have F45 : Fld Z h35 o0 "com/example/understory/understory/RootedTree" "children" "[[I" .null := F29.other W36 (Or.inr (slot_ne (Or.inr (hw _ (List.mem_of_getElem? (i := 23) rfl))) (Or.inr (hw _ (List.mem_of_getElem? (i := 15) rfl))) (by decide) (t := (.array (.array .int))) (t' := (.array .int)) (by decide) (by decide)))
  have F46 : Fld Z h35 o0 "com/example/understory/understory/RootedTree" "nodeOfColumn" "[I" .null := F30.other W36 (Or.inr (slot_ne (Or.inr (hw _ (List.mem_of_getElem? (i := 25) rfl))) (Or.inr (hw _ (List.mem_of_getElem? (i := 15) rfl))) (by decide) (t := (.array .int)) (t' := (.array .int)) (by decide) (by decide)))
  have F47 : Fld Z h35 o0 "com/example/understory/understory/RootedTree" "parent" "[I" (.ref o1) := F31.other W36 (Or.inr (slot_ne (Or.inr (hw _ (List.mem_of_getElem? (i := 11) rfl))) (Or.inr (hw _ (List.mem_of_getElem? (i := 15) rfl))) (by decide) (t := (.array .int)) (t' := (.array .int)) (by decide) (by decide)))
  have F48 : Fld Z h35 o0 "com/example/understory/understory/RootedTree" "states" "[I" (.ref o2) := F20.other W36 (Or.inr (slot_ne (Or.inr (hw _ (List.mem_of_getElem? (i := 13) rfl))) (Or.inr (hw _ (List.mem_of_getElem? (i := 15) rfl))) (by decide) (t := (.array .int)) (t' := (.array .int)) (by decide) (by decide)))
  have sz49 : n0 ≤ h35.size := Nat.le_trans sz32 (Nat.le_of_eq W36.size.symm)
  have sy50 : h0.size ≤ h35.size := Nat.le_trans sy33 (Nat.le_of_eq W36.size.symm)
  have K51 := K34.wr W36 (Or.inl (by simp))
  show Wk _ p l e _ s m _ below meth c n0 _ h35 0 0 (mkF m 19 #[.val (.ref o0), .val (.ref o1), .val (.ref o2), .val (.ref o3), .unset, .unset, .unset] [])
  refine Wk.st (g' := (mkF m 20 #[.val (.ref o0), .val (.ref o1), .val (.ref o2), .val (.ref o3), .unset, .unset, .unset] [(.ref o0)])) (fun X t q => XS.aloadN X.here C.hx rfl (hb C.hby d1_19) rfl rfl q) ?_
  refine Wk.st (g' := (mkF m 21 #[.val (.ref o0), .val (.ref o1), .val (.ref o2), .val (.ref o3), .unset, .unset, .unset] [(.ref o1), (.ref o0)])) (fun X t q => XS.aloadN X.here C.hx rfl (hb C.hby d1_20) rfl rfl q) ?_
  refine Wk.callS C (z := (⟨"com/example/understory/understory/RootedTree", "childrenOf", "([I)[[I"⟩ : MethodName)) (hw _ (List.mem_of_getElem? (i := 16) rfl)) (hw _ (List.mem_of_getElem? (i := 17) rfl)) (hw _ (List.mem_of_getElem? (i := 3) rfl)) (hw _ (List.mem_of_getElem? (i := 18) rfl)) (by decide) (own_3_5 l Z a0 hw n0 h35 sz49 o1  F38 F39  G_o1) (w := 1) (by decide) (by decide) pd_1 rfl (rest := [(.ref o0)]) rfl rfl (Nat.le_of_eq rfl) (by decide) (by decide) d1_21 ?_
  rintro _ h53 ⟨n52_b34, n52_b51, n52_b84, n52_b122, rfl, K54, gn63, gn64, gn65, gn66, ne67, ne68, ne69, ne70, ne71, ne72, F55, F56, F57, F58, F59, F60, F61, F62⟩
  show Wk _ p l e _ s m _ below meth c n0 _ h53 6 11 (mkF m 24 #[.val (.ref o0), .val (.ref o1), .val (.ref o2), .val (.ref o3), .unset, .unset, .unset] [(.ref n52_b34), (.ref o0)])
  have ne73 : o1 ≠ n52_b34 := Nat.ne_of_lt (Nat.lt_of_lt_of_le F38.lt gn63)
  have ne74 : o2 ≠ n52_b34 := Nat.ne_of_lt (Nat.lt_of_lt_of_le F40.lt gn63)
  have ne75 : o3 ≠ n52_b34 := Nat.ne_of_lt (Nat.lt_of_lt_of_le F42.lt gn63)
  have ne76 : o0 ≠ n52_b34 := Nat.ne_of_lt (Nat.lt_of_lt_of_le F44.lt gn63)
  have ge77 : n0 ≤ n52_b34 := Nat.le_trans sz49 gn63
  have gz78 : h0.size ≤ n52_b34 := Nat.le_trans sy50 gn63
  have ne79 : o1 ≠ n52_b51 := Nat.ne_of_lt (Nat.lt_of_lt_of_le F38.lt gn64)
  have ne80 : o2 ≠ n52_b51 := Nat.ne_of_lt (Nat.lt_of_lt_of_le F40.lt gn64)
  have ne81 : o3 ≠ n52_b51 := Nat.ne_of_lt (Nat.lt_of_lt_of_le F42.lt gn64)
  have ne82 : o0 ≠ n52_b51 := Nat.ne_of_lt (Nat.lt_of_lt_of_le F44.lt gn64)
  have ge83 : n0 ≤ n52_b51 := Nat.le_trans sz49 gn64
  have gz84 : h0.size ≤ n52_b51 := Nat.le_trans sy50 gn64
  have ne85 : o1 ≠ n52_b84 := Nat.ne_of_lt (Nat.lt_of_lt_of_le F38.lt gn65)
  have ne86 : o2 ≠ n52_b84 := Nat.ne_of_lt (Nat.lt_of_lt_of_le F40.lt gn65)
  have ne87 : o3 ≠ n52_b84 := Nat.ne_of_lt (Nat.lt_of_lt_of_le F42.lt gn65)
  have ne88 : o0 ≠ n52_b84 := Nat.ne_of_lt (Nat.lt_of_lt_of_le F44.lt gn65)
  have ge89 : n0 ≤ n52_b84 := Nat.le_trans sz49 gn65
  have gz90 : h0.size ≤ n52_b84 := Nat.le_trans sy50 gn65
  have ne91 : o1 ≠ n52_b122 := Nat.ne_of_lt (Nat.lt_of_lt_of_le F38.lt gn66)
  have ne92 : o2 ≠ n52_b122 := Nat.ne_of_lt (Nat.lt_of_lt_of_le F40.lt gn66)
  have ne93 : o3 ≠ n52_b122 := Nat.ne_of_lt (Nat.lt_of_lt_of_le F42.lt gn66)
  have ne94 : o0 ≠ n52_b122 := Nat.ne_of_lt (Nat.lt_of_lt_of_le F44.lt gn66)
  have ge95 : n0 ≤ n52_b122 := Nat.le_trans sz49 gn66
  have gz96 : h0.size ≤ n52_b122 := Nat.le_trans sy50 gn66
  have F97 : Exa Z h53 o1 "[I" := F38.keep K54
  have F98 : Fa Z h53 o1 .int 3 (up (up (up (fun _ => (.int (0 : Int32))) 0 (.int (-1 : Int32))) 1 (.int (0 : Int32))) 2 (.int (1 : Int32))) := F39.keep K54 nm0
  have F99 : Exa Z h53 o2 "[I" := F40.keep K54
  have F100 : Fa Z h53 o2 .int 3 (up (up (up (fun _ => (.int (0 : Int32))) 0 (.int x0)) 1 (.int x1)) 2 (.int x2)) := F41.keep K54 nm0
  have F101 : Exa Z h53 o3 "[I" := F42.keep K54
  have F102 : Fa Z h53 o3 .int 3 (up (up (up (fun _ => (.int (0 : Int32))) 0 (.int (-1 : Int32))) 1 (.int (-1 : Int32))) 2 (.int (-1 : Int32))) := F43.keep K54 nm0
  have F103 : Exa Z h53 o0 "com/example/understory/understory/RootedTree" := F44.keep K54
  have F104 : Fld Z h53 o0 "com/example/understory/understory/RootedTree" "children" "[[I" .null := F45.keep K54 nm0
  have F105 : Fld Z h53 o0 "com/example/understory/understory/RootedTree" "nodeOfColumn" "[I" .null := F46.keep K54 nm0
  have F106 : Fld Z h53 o0 "com/example/understory/understory/RootedTree" "parent" "[I" (.ref o1) := F47.keep K54 nm0
  have F107 : Fld Z h53 o0 "com/example/understory/understory/RootedTree" "states" "[I" (.ref o2) := F48.keep K54 nm0
  have F108 : Fld Z h53 o0 "com/example/understory/understory/RootedTree" "column" "[I" (.ref o3) := F37.keep K54 nm0
  have sz109 : n0 ≤ h53.size := Nat.le_trans sz49 K54.1
  have K110 := K51.trans K54 nv0
  have sy111 : h0.size ≤ h53.size := Nat.le_trans sy50 K54.1
  refine Wk.putF C (hw _ (List.mem_of_getElem? (i := 22) rfl)) Via.refl F104 F103 (Or.inr ⟨(hw _ (List.mem_of_getElem? (i := 23) rfl)), rfl, rfl⟩) (hw _ (List.mem_of_getElem? (i := 2) rfl)) (ty := (.array (.array .int))) (by decide) (v' := (.ref n52_b34)) rfl rfl G_o0 d1_24 ?_
  intro h112 W113
  have F114 : Fld Z h112 o0 "com/example/understory/understory/RootedTree" "children" "[[I" (.ref n52_b34) := F104.same W113
  have F115 : Exa Z h112 o1 "[I" := F97.wr W113
  have F116 : Fa Z h112 o1 .int 3 (up (up (up (fun _ => (.int (0 : Int32))) 0 (.int (-1 : Int32))) 1 (.int (0 : Int32))) 2 (.int (1 : Int32))) := F98.other W113 (Ne.symm N_o0_o1)
  have F117 : Exa Z h112 o2 "[I" := F99.wr W113
  have F118 : Fa Z h112 o2 .int 3 (up (up (up (fun _ => (.int (0 : Int32))) 0 (.int x0)) 1 (.int x1)) 2 (.int x2)) := F100.other W113 (Ne.symm N_o0_o2)
  have F119 : Exa Z h112 o3 "[I" := F101.wr W113
  have F120 : Fa Z h112 o3 .int 3 (up (up (up (fun _ => (.int (0 : Int32))) 0 (.int (-1 : Int32))) 1 (.int (-1 : Int32))) 2 (.int (-1 : Int32))) := F102.other W113 (Ne.symm N_o0_o3)
  have F121 : Exa Z h112 o0 "com/example/understory/understory/RootedTree" := F103.wr W113
  have F122 : Fld Z h112 o0 "com/example/understory/understory/RootedTree" "nodeOfColumn" "[I" .null := F105.other W113 (Or.inr (slot_ne (Or.inr (hw _ (List.mem_of_getElem? (i := 25) rfl))) (Or.inr (hw _ (List.mem_of_getElem? (i := 23) rfl))) (by decide) (t := (.array .int)) (t' := (.array (.array .int))) (by decide) (by decide)))
  have F123 : Fld Z h112 o0 "com/example/understory/understory/RootedTree" "parent" "[I" (.ref o1) := F106.other W113 (Or.inr (slot_ne (Or.inr (hw _ (List.mem_of_getElem? (i := 11) rfl))) (Or.inr (hw _ (List.mem_of_getElem? (i := 23) rfl))) (by decide) (t := (.array .int)) (t' := (.array (.array .int))) (by decide) (by decide)))
  have F124 : Fld Z h112 o0 "com/example/understory/understory/RootedTree" "states" "[I" (.ref o2) := F107.other W113 (Or.inr (slot_ne (Or.inr (hw _ (List.mem_of_getElem? (i := 13) rfl))) (Or.inr (hw _ (List.mem_of_getElem? (i := 23) rfl))) (by decide) (t := (.array .int)) (t' := (.array (.array .int))) (by decide) (by decide)))
  have F125 : Fld Z h112 o0 "com/example/understory/understory/RootedTree" "column" "[I" (.ref o3) := F108.other W113 (Or.inr (slot_ne (Or.inr (hw _ (List.mem_of_getElem? (i := 15) rfl))) (Or.inr (hw _ (List.mem_of_getElem? (i := 23) rfl))) (by decide) (t := (.array .int)) (t' := (.array (.array .int))) (by decide) (by decide)))
  have F126 : Exa Z h112 n52_b34 "[[I" := F55.wr W113
  have F127 : Exa Z h112 n52_b51 "[I" := F56.wr W113
  have F128 : Exa Z h112 n52_b84 "[I" := F57.wr W113
  have F129 : Exa Z h112 n52_b122 "[I" := F58.wr W113
  have F130 : Fa Z h112 n52_b122 .int 0 (fun _ => (.int (0 : Int32))) := F59.other W113 (Ne.symm ne94)
  have F131 : FaA Z h112 n52_b34 .int "[I" 3 (up (up (up (fun _ => .null) 0 (.ref n52_b51)) 1 (.ref n52_b84)) 2 (.ref n52_b122)) := F60.other W113 (Ne.symm ne76)
  have F132 : Fa Z h112 n52_b51 .int 1 (up (fun _ => (.int (0 : Int32))) 0 (.int (1 : Int32))) := F61.other W113 (Ne.symm ne82)
  have F133 : Fa Z h112 n52_b84 .int 1 (up (fun _ => (.int (0 : Int32))) 0 (.int (2 : Int32))) := F62.other W113 (Ne.symm ne88)
  have sz134 : n0 ≤ h112.size := Nat.le_trans sz109 (Nat.le_of_eq W113.size.symm)
  have sy135 : h0.size ≤ h112.size := Nat.le_trans sy111 (Nat.le_of_eq W113.size.symm)
  have K136 := K110.wr W113 (Or.inl (by simp))
  show Wk _ p l e _ s m _ below meth c n0 _ h112 6 11 (mkF m 27 #[.val (.ref o0), .val (.ref o1), .val (.ref o2), .val (.ref o3), .unset, .unset, .unset] [])
  refine Wk.st (g' := (mkF m 28 #[.val (.ref o0), .val (.ref o1), .val (.ref o2), .val (.ref o3), .unset, .unset, .unset] [(.ref o1)])) (fun X t q => XS.aloadN X.here C.hx rfl (hb C.hby d1_27) rfl rfl q) ?_
  refine Wk.fLen C F116 (z := (3 : Int32)) (by decide) d1_28 ?_
  show Wk _ p l e _ s m _ below meth c n0 _ h112 6 11 (mkF m 29 #[.val (.ref o0), .val (.ref o1), .val (.ref o2), .val (.ref o3), .unset, .unset, .unset] [(.int (3 : Int32))])
  refine Wk.st (g' := (mkF m 31 #[.val (.ref o0), .val (.ref o1), .val (.ref o2), .val (.ref o3), .val (.int (3 : Int32)), .unset, .unset] [])) (fun X t q => XS.istore X.here C.hx rfl (hb C.hby d1_29) rfl (l' := #[.val (.ref o0), .val (.ref o1), .val (.ref o2), .val (.ref o3), .val (.int (3 : Int32)), .unset, .unset]) rfl q) ?_
  refine Wk.st (g' := (mkF m 32 #[.val (.ref o0), .val (.ref o1), .val (.ref o2), .val (.ref o3), .val (.int (3 : Int32)), .unset, .unset] [(.int (0 : Int32))])) (fun X t q => XS.iconst X.here C.hx rfl (hb C.hby d1_31) q) ?_
  refine Wk.st (g' := (mkF m 34 #[.val (.ref o0), .val (.ref o1), .val (.ref o2), .val (.ref o3), .val (.int (3 : Int32)), .val (.int (0 : Int32)), .unset] [])) (fun X t q => XS.istore X.here C.hx rfl (hb C.hby d1_32) rfl (l' := #[.val (.ref o0), .val (.ref o1), .val (.ref o2), .val (.ref o3), .val (.int (3 : Int32)), .val (.int (0 : Int32)), .unset]) rfl q) ?_
  refine Wk.st (g' := (mkF m 35 #[.val (.ref o0), .val (.ref o1), .val (.ref o2), .val (.ref o3), .val (.int (3 : Int32)), .val (.int (0 : Int32)), .unset] [(.int (0 : Int32))])) (fun X t q => XS.iconst X.here C.hx rfl (hb C.hby d1_34) q) ?_
  refine Wk.st (g' := (mkF m 37 #[.val (.ref o0), .val (.ref o1), .val (.ref o2), .val (.ref o3), .val (.int (3 : Int32)), .val (.int (0 : Int32)), .val (.int (0 : Int32))] [])) (fun X t q => XS.istore X.here C.hx rfl (hb C.hby d1_35) rfl (l' := #[.val (.ref o0), .val (.ref o1), .val (.ref o2), .val (.ref o3), .val (.int (3 : Int32)), .val (.int (0 : Int32)), .val (.int (0 : Int32))]) rfl q) ?_
  refine Wk.st (g' := (mkF m 39 #[.val (.ref o0), .val (.ref o1), .val (.ref o2), .val (.ref o3), .val (.int (3 : Int32)), .val (.int (0 : Int32)), .val (.int (0 : Int32))] [(.int (0 : Int32))])) (fun X t q => XS.iload X.here C.hx rfl (hb C.hby d1_37) rfl q) ?_
  refine Wk.st (g' := (mkF m 41 #[.val (.ref o0), .val (.ref o1), .val (.ref o2), .val (.ref o3), .val (.int (3 : Int32)), .val (.int (0 : Int32)), .val (.int (0 : Int32))] [(.int (3 : Int32)), (.int (0 : Int32))])) (fun X t q => XS.iload X.here C.hx rfl (hb C.hby d1_39) rfl q) ?_
  refine Wk.st (g' := (mkF m 44 #[.val (.ref o0), .val (.ref o1), .val (.ref o2), .val (.ref o3), .val (.int (3 : Int32)), .val (.int (0 : Int32)), .val (.int (0 : Int32))] [])) (fun X t q => XS.icmpNo X.here C.hx rfl (hb C.hby d1_41) rfl (XT.ii_ge_f (by decide)) q) ?_
  refine Wk.st (g' := (mkF m 45 #[.val (.ref o0), .val (.ref o1), .val (.ref o2), .val (.ref o3), .val (.int (3 : Int32)), .val (.int (0 : Int32)), .val (.int (0 : Int32))] [(.ref o3)])) (fun X t q => XS.aloadN X.here C.hx rfl (hb C.hby d1_44) rfl rfl q) ?_
  refine Wk.st (g' := (mkF m 47 #[.val (.ref o0), .val (.ref o1), .val (.ref o2), .val (.ref o3), .val (.int (3 : Int32)), .val (.int (0 : Int32)), .val (.int (0 : Int32))] [(.int (0 : Int32)), (.ref o3)])) (fun X t q => XS.iload X.here C.hx rfl (hb C.hby d1_45) rfl q) ?_
  refine Wk.fLdI C F120 (i := 0) (by decide) (by decide) (by decide) (v := (.int (-1 : Int32))) (by simp [up]) d1_47 ?_
  show Wk _ p l e _ s m _ below meth c n0 _ h112 6 11 (mkF m 48 #[.val (.ref o0), .val (.ref o1), .val (.ref o2), .val (.ref o3), .val (.int (3 : Int32)), .val (.int (0 : Int32)), .val (.int (0 : Int32))] [(.int (-1 : Int32))])
  refine Wk.st (g' := (mkF m 54 #[.val (.ref o0), .val (.ref o1), .val (.ref o2), .val (.ref o3), .val (.int (3 : Int32)), .val (.int (0 : Int32)), .val (.int (0 : Int32))] [])) (fun X t q => XS.ifYes X.here C.hx rfl (pc0 := 48) (pc' := 54) rfl (hb C.hby d1_48) rfl (XT.i0_lt_t (by decide)) (by decide) (by decide) q) ?_
  refine Wk.st (g' := (mkF m 57 #[.val (.ref o0), .val (.ref o1), .val (.ref o2), .val (.ref o3), .val (.int (3 : Int32)), .val (.int (0 : Int32)), .val (.int (1 : Int32))] [])) (fun X t q => XS.iinc X.here C.hx rfl (hb C.hby d1_54) rfl (l' := #[.val (.ref o0), .val (.ref o1), .val (.ref o2), .val (.ref o3), .val (.int (3 : Int32)), .val (.int (0 : Int32)), .val (.int (1 : Int32))]) rfl q) ?_
  refine Wk.st (g' := (mkF m 37 #[.val (.ref o0), .val (.ref o1), .val (.ref o2), .val (.ref o3), .val (.int (3 : Int32)), .val (.int (0 : Int32)), .val (.int (1 : Int32))] [])) (fun X t q => XS.goto X.here C.hx rfl (pc0 := 57) (pc' := 37) rfl (hb C.hby d1_57) (by decide) (by decide) q) ?_
  refine Wk.st (g' := (mkF m 39 #[.val (.ref o0), .val (.ref o1), .val (.ref o2), .val (.ref o3), .val (.int (3 : Int32)), .val (.int (0 : Int32)), .val (.int (1 : Int32))] [(.int (1 : Int32))])) (fun X t q => XS.iload X.here C.hx rfl (hb C.hby d1_37) rfl q) ?_
  refine Wk.st (g' := (mkF m 41 #[.val (.ref o0), .val (.ref o1), .val (.ref o2), .val (.ref o3), .val (.int (3 : Int32)), .val (.int (0 : Int32)), .val (.int (1 : Int32))] [(.int (3 : Int32)), (.int (1 : Int32))])) (fun X t q => XS.iload X.here C.hx rfl (hb C.hby d1_39) rfl q) ?_
  refine Wk.st (g' := (mkF m 44 #[.val (.ref o0), .val (.ref o1), .val (.ref o2), .val (.ref o3), .val (.int (3 : Int32)), .val (.int (0 : Int32)), .val (.int (1 : Int32))] [])) (fun X t q => XS.icmpNo X.here C.hx rfl (hb C.hby d1_41) rfl (XT.ii_ge_f (by decide)) q) ?_
  refine Wk.st (g' := (mkF m 45 #[.val (.ref o0), .val (.ref o1), .val (.ref o2), .val (.ref o3), .val (.int (3 : Int32)), .val (.int (0 : Int32)), .val (.int (1 : Int32))] [(.ref o3)])) (fun X t q => XS.aloadN X.here C.hx rfl (hb C.hby d1_44) rfl rfl q) ?_
  refine Wk.st (g' := (mkF m 47 #[.val (.ref o0), .val (.ref o1), .val (.ref o2), .val (.ref o3), .val (.int (3 : Int32)), .val (.int (0 : Int32)), .val (.int (1 : Int32))] [(.int (1 : Int32)), (.ref o3)])) (fun X t q => XS.iload X.here C.hx rfl (hb C.hby d1_45) rfl q) ?_
  refine Wk.fLdI C F120 (i := 1) (by decide) (by decide) (by decide) (v := (.int (-1 : Int32))) (by simp [up]) d1_47 ?_
  show Wk _ p l e _ s m _ below meth c n0 _ h112 6 11 (mkF m 48 #[.val (.ref o0), .val (.ref o1), .val (.ref o2), .val (.ref o3), .val (.int (3 : Int32)), .val (.int (0 : Int32)), .val (.int (1 : Int32))] [(.int (-1 : Int32))])
  refine Wk.st (g' := (mkF m 54 #[.val (.ref o0), .val (.ref o1), .val (.ref o2), .val (.ref o3), .val (.int (3 : Int32)), .val (.int (0 : Int32)), .val (.int (1 : Int32))] [])) (fun X t q => XS.ifYes X.here C.hx rfl (pc0 := 48) (pc' := 54) rfl (hb C.hby d1_48) rfl (XT.i0_lt_t (by decide)) (by decide) (by decide) q) ?_
  refine Wk.st (g' := (mkF m 57 #[.val (.ref o0), .val (.ref o1), .val (.ref o2), .val (.ref o3), .val (.int (3 : Int32)), .val (.int (0 : Int32)), .val (.int (2 : Int32))] [])) (fun X t q => XS.iinc X.here C.hx rfl (hb C.hby d1_54) rfl (l' := #[.val (.ref o0), .val (.ref o1), .val (.ref o2), .val (.ref o3), .val (.int (3 : Int32)), .val (.int (0 : Int32)), .val (.int (2 : Int32))]) rfl q) ?_
  refine Wk.st (g' := (mkF m 37 #[.val (.ref o0), .val (.ref o1), .val (.ref o2), .val (.ref o3), .val (.int (3 : Int32)), .val (.int (0 : Int32)), .val (.int (2 : Int32))] [])) (fun X t q => XS.goto X.here C.hx rfl (pc0 := 57) (pc' := 37) rfl (hb C.hby d1_57) (by decide) (by decide) q) ?_
  refine Wk.st (g' := (mkF m 39 #[.val (.ref o0), .val (.ref o1), .val (.ref o2), .val (.ref o3), .val (.int (3 : Int32)), .val (.int (0 : Int32)), .val (.int (2 : Int32))] [(.int (2 : Int32))])) (fun X t q => XS.iload X.here C.hx rfl (hb C.hby d1_37) rfl q) ?_
  refine Wk.st (g' := (mkF m 41 #[.val (.ref o0), .val (.ref o1), .val (.ref o2), .val (.ref o3), .val (.int (3 : Int32)), .val (.int (0 : Int32)), .val (.int (2 : Int32))] [(.int (3 : Int32)), (.int (2 : Int32))])) (fun X t q => XS.iload X.here C.hx rfl (hb C.hby d1_39) rfl q) ?_
  refine Wk.st (g' := (mkF m 44 #[.val (.ref o0), .val (.ref o1), .val (.ref o2), .val (.ref o3), .val (.int (3 : Int32)), .val (.int (0 : Int32)), .val (.int (2 : Int32))] [])) (fun X t q => XS.icmpNo X.here C.hx rfl (hb C.hby d1_41) rfl (XT.ii_ge_f (by decide)) q) ?_
  refine Wk.st (g' := (mkF m 45 #[.val (.ref o0), .val (.ref o1), .val (.ref o2), .val (.ref o3), .val (.int (3 : Int32)), .val (.int (0 : Int32)), .val (.int (2 : Int32))] [(.ref o3)])) (fun X t q => XS.aloadN X.here C.hx rfl (hb C.hby d1_44) rfl rfl q) ?_
  refine Wk.st (g' := (mkF m 47 #[.val (.ref o0), .val (.ref o1), .val (.ref o2), .val (.ref o3), .val (.int (3 : Int32)), .val (.int (0 : Int32)), .val (.int (2 : Int32))] [(.int (2 : Int32)), (.ref o3)])) (fun X t q => XS.iload X.here C.hx rfl (hb C.hby d1_45) rfl q) ?_
  refine Wk.fLdI C F120 (i := 2) (by decide) (by decide) (by decide) (v := (.int (-1 : Int32))) (by simp [up]) d1_47 ?_
  show Wk _ p l e _ s m _ below meth c n0 _ h112 6 11 (mkF m 48 #[.val (.ref o0), .val (.ref o1), .val (.ref o2), .val (.ref o3), .val (.int (3 : Int32)), .val (.int (0 : Int32)), .val (.int (2 : Int32))] [(.int (-1 : Int32))])
  refine Wk.st (g' := (mkF m 54 #[.val (.ref o0), .val (.ref o1), .val (.ref o2), .val (.ref o3), .val (.int (3 : Int32)), .val (.int (0 : Int32)), .val (.int (2 : Int32))] [])) (fun X t q => XS.ifYes X.here C.hx rfl (pc0 := 48) (pc' := 54) rfl (hb C.hby d1_48) rfl (XT.i0_lt_t (by decide)) (by decide) (by decide) q) ?_
  refine Wk.st (g' := (mkF m 57 #[.val (.ref o0), .val (.ref o1), .val (.ref o2), .val (.ref o3), .val (.int (3 : Int32)), .val (.int (0 : Int32)), .val (.int (3 : Int32))] [])) (fun X t q => XS.iinc X.here C.hx rfl (hb C.hby d1_54) rfl (l' := #[.val (.ref o0), .val (.ref o1), .val (.ref o2), .val (.ref o3), .val (.int (3 : Int32)), .val (.int (0 : Int32)), .val (.int (3 : Int32))]) rfl q) ?_
  refine Wk.st (g' := (mkF m 37 #[.val (.ref o0), .val (.ref o1), .val (.ref o2), .val (.ref o3), .val (.int (3 : Int32)), .val (.int (0 : Int32)), .val (.int (3 : Int32))] [])) (fun X t q => XS.goto X.here C.hx rfl (pc0 := 57) (pc' := 37) rfl (hb C.hby d1_57) (by decide) (by decide) q) ?_
  refine Wk.st (g' := (mkF m 39 #[.val (.ref o0), .val (.ref o1), .val (.ref o2), .val (.ref o3), .val (.int (3 : Int32)), .val (.int (0 : Int32)), .val (.int (3 : Int32))] [(.int (3 : Int32))])) (fun X t q => XS.iload X.here C.hx rfl (hb C.hby d1_37) rfl q) ?_
  refine Wk.st (g' := (mkF m 41 #[.val (.ref o0), .val (.ref o1), .val (.ref o2), .val (.ref o3), .val (.int (3 : Int32)), .val (.int (0 : Int32)), .val (.int (3 : Int32))] [(.int (3 : Int32)), (.int (3 : Int32))])) (fun X t q => XS.iload X.here C.hx rfl (hb C.hby d1_39) rfl q) ?_
  refine Wk.st (g' := (mkF m 60 #[.val (.ref o0), .val (.ref o1), .val (.ref o2), .val (.ref o3), .val (.int (3 : Int32)), .val (.int (0 : Int32)), .val (.int (3 : Int32))] [])) (fun X t q => XS.icmpYes X.here C.hx rfl (pc0 := 41) (pc' := 60) rfl (hb C.hby d1_41) rfl (XT.ii_ge_t (by decide)) (by decide) (by decide) q) ?_
  refine Wk.st (g' := (mkF m 61 #[.val (.ref o0), .val (.ref o1), .val (.ref o2), .val (.ref o3), .val (.int (3 : Int32)), .val (.int (0 : Int32)), .val (.int (3 : Int32))] [(.ref o0)])) (fun X t q => XS.aloadN X.here C.hx rfl (hb C.hby d1_60) rfl rfl q) ?_
  refine Wk.st (g' := (mkF m 63 #[.val (.ref o0), .val (.ref o1), .val (.ref o2), .val (.ref o3), .val (.int (3 : Int32)), .val (.int (0 : Int32)), .val (.int (3 : Int32))] [(.int (0 : Int32)), (.ref o0)])) (fun X t q => XS.iload X.here C.hx rfl (hb C.hby d1_61) rfl q) ?_
  refine Wk.fNewP C (hw _ (List.mem_of_getElem? (i := 0) rfl)) (ty := .int) (dv := (.int (0 : Int32))) (N := 0) (ad := "[I") rfl rfl (by decide) (by decide) (by decide) (cap := 0) (by decide) (by decide) d1_63 (by decide) (by decide) ?_
  intro h137 b138 g139 E140 A141 F142
  have ne143 : o1 ≠ b138 := Nat.ne_of_lt (Nat.lt_of_lt_of_le F115.lt (Nat.le_of_eq g139.symm))
  have ne144 : o2 ≠ b138 := Nat.ne_of_lt (Nat.lt_of_lt_of_le F117.lt (Nat.le_of_eq g139.symm))
  have ne145 : o3 ≠ b138 := Nat.ne_of_lt (Nat.lt_of_lt_of_le F119.lt (Nat.le_of_eq g139.symm))
  have ne146 : o0 ≠ b138 := Nat.ne_of_lt (Nat.lt_of_lt_of_le F121.lt (Nat.le_of_eq g139.symm))
  have ne147 : n52_b34 ≠ b138 := Nat.ne_of_lt (Nat.lt_of_lt_of_le F126.lt (Nat.le_of_eq g139.symm))
  have ne148 : n52_b51 ≠ b138 := Nat.ne_of_lt (Nat.lt_of_lt_of_le F127.lt (Nat.le_of_eq g139.symm))
  have ne149 : n52_b84 ≠ b138 := Nat.ne_of_lt (Nat.lt_of_lt_of_le F128.lt (Nat.le_of_eq g139.symm))
  have ne150 : n52_b122 ≠ b138 := Nat.ne_of_lt (Nat.lt_of_lt_of_le F129.lt (Nat.le_of_eq g139.symm))
  have ge151 : n0 ≤ b138 := Nat.le_trans sz134 (Nat.le_of_eq g139.symm)
  have gz152 : h0.size ≤ b138 := Nat.le_trans sy135 (Nat.le_of_eq g139.symm)
  have F153 : Exa Z h137 o1 "[I" := F115.ext E140
  have F154 : Fa Z h137 o1 .int 3 (up (up (up (fun _ => (.int (0 : Int32))) 0 (.int (-1 : Int32))) 1 (.int (0 : Int32))) 2 (.int (1 : Int32))) := F116.ext E140
  have F155 : Exa Z h137 o2 "[I" := F117.ext E140
  have F156 : Fa Z h137 o2 .int 3 (up (up (up (fun _ => (.int (0 : Int32))) 0 (.int x0)) 1 (.int x1)) 2 (.int x2)) := F118.ext E140
  have F157 : Exa Z h137 o3 "[I" := F119.ext E140
  have F158 : Fa Z h137 o3 .int 3 (up (up (up (fun _ => (.int (0 : Int32))) 0 (.int (-1 : Int32))) 1 (.int (-1 : Int32))) 2 (.int (-1 : Int32))) := F120.ext E140
  have F159 : Exa Z h137 o0 "com/example/understory/understory/RootedTree" := F121.ext E140
  have F160 : Fld Z h137 o0 "com/example/understory/understory/RootedTree" "nodeOfColumn" "[I" .null := F122.ext E140
  have F161 : Fld Z h137 o0 "com/example/understory/understory/RootedTree" "parent" "[I" (.ref o1) := F123.ext E140
  have F162 : Fld Z h137 o0 "com/example/understory/understory/RootedTree" "states" "[I" (.ref o2) := F124.ext E140
  have F163 : Fld Z h137 o0 "com/example/understory/understory/RootedTree" "column" "[I" (.ref o3) := F125.ext E140
  have F164 : Exa Z h137 n52_b34 "[[I" := F126.ext E140
  have F165 : Exa Z h137 n52_b51 "[I" := F127.ext E140
  have F166 : Exa Z h137 n52_b84 "[I" := F128.ext E140
  have F167 : Exa Z h137 n52_b122 "[I" := F129.ext E140
  have F168 : Fa Z h137 n52_b122 .int 0 (fun _ => (.int (0 : Int32))) := F130.ext E140
  have F169 : FaA Z h137 n52_b34 .int "[I" 3 (up (up (up (fun _ => .null) 0 (.ref n52_b51)) 1 (.ref n52_b84)) 2 (.ref n52_b122)) := F131.ext E140
  have F170 : Fa Z h137 n52_b51 .int 1 (up (fun _ => (.int (0 : Int32))) 0 (.int (1 : Int32))) := F132.ext E140
  have F171 : Fa Z h137 n52_b84 .int 1 (up (fun _ => (.int (0 : Int32))) 0 (.int (2 : Int32))) := F133.ext E140
  have F172 : Fld Z h137 o0 "com/example/understory/understory/RootedTree" "children" "[[I" (.ref n52_b34) := F114.ext E140
  have sz173 : n0 ≤ h137.size := Nat.le_trans sz134 E140.1
  have sy174 : h0.size ≤ h137.size := Nat.le_trans sy135 E140.1
  have K175 := K136.ext E140
  show Wk _ p l e _ s m _ below meth c n0 _ h137 7 11 (mkF m 65 #[.val (.ref o0), .val (.ref o1), .val (.ref o2), .val (.ref o3), .val (.int (3 : Int32)), .val (.int (0 : Int32)), .val (.int (3 : Int32))] [(.ref b138), (.ref o0)])
  refine Wk.putF C (hw _ (List.mem_of_getElem? (i := 24) rfl)) Via.refl F160 F159 (Or.inr ⟨(hw _ (List.mem_of_getElem? (i := 25) rfl)), rfl, rfl⟩) (hw _ (List.mem_of_getElem? (i := 2) rfl)) (ty := (.array .int)) (by decide) (v' := (.ref b138)) rfl rfl G_o0 d1_65 ?_
  intro h176 W177
  have F178 : Fld Z h176 o0 "com/example/understory/understory/RootedTree" "nodeOfColumn" "[I" (.ref b138) := F160.same W177
  have F179 : Exa Z h176 o1 "[I" := F153.wr W177
  have F180 : Fa Z h176 o1 .int 3 (up (up (up (fun _ => (.int (0 : Int32))) 0 (.int (-1 : Int32))) 1 (.int (0 : Int32))) 2 (.int (1 : Int32))) := F154.other W177 (Ne.symm N_o0_o1)
  have F181 : Exa Z h176 o2 "[I" := F155.wr W177
  have F182 : Fa Z h176 o2 .int 3 (up (up (up (fun _ => (.int (0 : Int32))) 0 (.int x0)) 1 (.int x1)) 2 (.int x2)) := F156.other W177 (Ne.symm N_o0_o2)
  have F183 : Exa Z h176 o3 "[I" := F157.wr W177
  have F184 : Fa Z h176 o3 .int 3 (up (up (up (fun _ => (.int (0 : Int32))) 0 (.int (-1 : Int32))) 1 (.int (-1 : Int32))) 2 (.int (-1 : Int32))) := F158.other W177 (Ne.symm N_o0_o3)
  have F185 : Exa Z h176 o0 "com/example/understory/understory/RootedTree" := F159.wr W177
  have F186 : Fld Z h176 o0 "com/example/understory/understory/RootedTree" "parent" "[I" (.ref o1) := F161.other W177 (Or.inr (slot_ne (Or.inr (hw _ (List.mem_of_getElem? (i := 11) rfl))) (Or.inr (hw _ (List.mem_of_getElem? (i := 25) rfl))) (by decide) (t := (.array .int)) (t' := (.array .int)) (by decide) (by decide)))
  have F187 : Fld Z h176 o0 "com/example/understory/understory/RootedTree" "states" "[I" (.ref o2) := F162.other W177 (Or.inr (slot_ne (Or.inr (hw _ (List.mem_of_getElem? (i := 13) rfl))) (Or.inr (hw _ (List.mem_of_getElem? (i := 25) rfl))) (by decide) (t := (.array .int)) (t' := (.array .int)) (by decide) (by decide)))
  have F188 : Fld Z h176 o0 "com/example/understory/understory/RootedTree" "column" "[I" (.ref o3) := F163.other W177 (Or.inr (slot_ne (Or.inr (hw _ (List.mem_of_getElem? (i := 15) rfl))) (Or.inr (hw _ (List.mem_of_getElem? (i := 25) rfl))) (by decide) (t := (.array .int)) (t' := (.array .int)) (by decide) (by decide)))
  have F189 : Exa Z h176 n52_b34 "[[I" := F164.wr W177
  have F190 : Exa Z h176 n52_b51 "[I" := F165.wr W177
  have F191 : Exa Z h176 n52_b84 "[I" := F166.wr W177
  have F192 : Exa Z h176 n52_b122 "[I" := F167.wr W177
  have F193 : Fa Z h176 n52_b122 .int 0 (fun _ => (.int (0 : Int32))) := F168.other W177 (Ne.symm ne94)
  have F194 : FaA Z h176 n52_b34 .int "[I" 3 (up (up (up (fun _ => .null) 0 (.ref n52_b51)) 1 (.ref n52_b84)) 2 (.ref n52_b122)) := F169.other W177 (Ne.symm ne76)
  have F195 : Fa Z h176 n52_b51 .int 1 (up (fun _ => (.int (0 : Int32))) 0 (.int (1 : Int32))) := F170.other W177 (Ne.symm ne82)
  have F196 : Fa Z h176 n52_b84 .int 1 (up (fun _ => (.int (0 : Int32))) 0 (.int (2 : Int32))) := F171.other W177 (Ne.symm ne88)
  have F197 : Fld Z h176 o0 "com/example/understory/understory/RootedTree" "children" "[[I" (.ref n52_b34) := F172.other W177 (Or.inr (slot_ne (Or.inr (hw _ (List.mem_of_getElem? (i := 23) rfl))) (Or.inr (hw _ (List.mem_of_getElem? (i := 25) rfl))) (by decide) (t := (.array (.array .int))) (t' := (.array .int)) (by decide) (by decide)))
  have F198 : Exa Z h176 b138 "[I" := A141.wr W177
  have F199 : Fa Z h176 b138 .int 0 (fun _ => (.int (0 : Int32))) := F142.other W177 (Ne.symm ne146)
  have sz200 : n0 ≤ h176.size := Nat.le_trans sz173 (Nat.le_of_eq W177.size.symm)
  have sy201 : h0.size ≤ h176.size := Nat.le_trans sy174 (Nat.le_of_eq W177.size.symm)
  have K202 := K175.wr W177 (Or.inl (by simp))
  show Wk _ p l e _ s m _ below meth c n0 _ h176 7 11 (mkF m 68 #[.val (.ref o0), .val (.ref o1), .val (.ref o2), .val (.ref o3), .val (.int (3 : Int32)), .val (.int (0 : Int32)), .val (.int (3 : Int32))] [])
  refine Wk.st (g' := (mkF m 69 #[.val (.ref o0), .val (.ref o1), .val (.ref o2), .val (.ref o3), .val (.int (3 : Int32)), .val (.int (0 : Int32)), .val (.int (3 : Int32))] [(.int (0 : Int32))])) (fun X t q => XS.iconst X.here C.hx rfl (hb C.hby d1_68) q) ?_
  refine Wk.st (g' := (mkF m 71 #[.val (.ref o0), .val (.ref o1), .val (.ref o2), .val (.ref o3), .val (.int (3 : Int32)), .val (.int (0 : Int32)), .val (.int (0 : Int32))] [])) (fun X t q => XS.istore X.here C.hx rfl (hb C.hby d1_69) rfl (l' := #[.val (.ref o0), .val (.ref o1), .val (.ref o2), .val (.ref o3), .val (.int (3 : Int32)), .val (.int (0 : Int32)), .val (.int (0 : Int32))]) rfl q) ?_
  refine Wk.st (g' := (mkF m 73 #[.val (.ref o0), .val (.ref o1), .val (.ref o2), .val (.ref o3), .val (.int (3 : Int32)), .val (.int (0 : Int32)), .val (.int (0 : Int32))] [(.int (0 : Int32))])) (fun X t q => XS.iload X.here C.hx rfl (hb C.hby d1_71) rfl q) ?_
  refine Wk.st (g' := (mkF m 75 #[.val (.ref o0), .val (.ref o1), .val (.ref o2), .val (.ref o3), .val (.int (3 : Int32)), .val (.int (0 : Int32)), .val (.int (0 : Int32))] [(.int (3 : Int32)), (.int (0 : Int32))])) (fun X t q => XS.iload X.here C.hx rfl (hb C.hby d1_73) rfl q) ?_
  refine Wk.st (g' := (mkF m 78 #[.val (.ref o0), .val (.ref o1), .val (.ref o2), .val (.ref o3), .val (.int (3 : Int32)), .val (.int (0 : Int32)), .val (.int (0 : Int32))] [])) (fun X t q => XS.icmpNo X.here C.hx rfl (hb C.hby d1_75) rfl (XT.ii_ge_f (by decide)) q) ?_
  refine Wk.st (g' := (mkF m 79 #[.val (.ref o0), .val (.ref o1), .val (.ref o2), .val (.ref o3), .val (.int (3 : Int32)), .val (.int (0 : Int32)), .val (.int (0 : Int32))] [(.ref o3)])) (fun X t q => XS.aloadN X.here C.hx rfl (hb C.hby d1_78) rfl rfl q) ?_
  refine Wk.st (g' := (mkF m 81 #[.val (.ref o0), .val (.ref o1), .val (.ref o2), .val (.ref o3), .val (.int (3 : Int32)), .val (.int (0 : Int32)), .val (.int (0 : Int32))] [(.int (0 : Int32)), (.ref o3)])) (fun X t q => XS.iload X.here C.hx rfl (hb C.hby d1_79) rfl q) ?_
  refine Wk.fLdI C F184 (i := 0) (by decide) (by decide) (by decide) (v := (.int (-1 : Int32))) (by simp [up]) d1_81 ?_
  show Wk _ p l e _ s m _ below meth c n0 _ h176 7 11 (mkF m 82 #[.val (.ref o0), .val (.ref o1), .val (.ref o2), .val (.ref o3), .val (.int (3 : Int32)), .val (.int (0 : Int32)), .val (.int (0 : Int32))] [(.int (-1 : Int32))])
  refine Wk.st (g' := (mkF m 96 #[.val (.ref o0), .val (.ref o1), .val (.ref o2), .val (.ref o3), .val (.int (3 : Int32)), .val (.int (0 : Int32)), .val (.int (0 : Int32))] [])) (fun X t q => XS.ifYes X.here C.hx rfl (pc0 := 82) (pc' := 96) rfl (hb C.hby d1_82) rfl (XT.i0_lt_t (by decide)) (by decide) (by decide) q) ?_
  refine Wk.st (g' := (mkF m 99 #[.val (.ref o0), .val (.ref o1), .val (.ref o2), .val (.ref o3), .val (.int (3 : Int32)), .val (.int (0 : Int32)), .val (.int (1 : Int32))] [])) (fun X t q => XS.iinc X.here C.hx rfl (hb C.hby d1_96) rfl (l' := #[.val (.ref o0), .val (.ref o1), .val (.ref o2), .val (.ref o3), .val (.int (3 : Int32)), .val (.int (0 : Int32)), .val (.int (1 : Int32))]) rfl q) ?_
  refine Wk.st (g' := (mkF m 71 #[.val (.ref o0), .val (.ref o1), .val (.ref o2), .val (.ref o3), .val (.int (3 : Int32)), .val (.int (0 : Int32)), .val (.int (1 : Int32))] [])) (fun X t q => XS.goto X.here C.hx rfl (pc0 := 99) (pc' := 71) rfl (hb C.hby d1_99) (by decide) (by decide) q) ?_
  refine Wk.st (g' := (mkF m 73 #[.val (.ref o0), .val (.ref o1), .val (.ref o2), .val (.ref o3), .val (.int (3 : Int32)), .val (.int (0 : Int32)), .val (.int (1 : Int32))] [(.int (1 : Int32))])) (fun X t q => XS.iload X.here C.hx rfl (hb C.hby d1_71) rfl q) ?_
  refine Wk.st (g' := (mkF m 75 #[.val (.ref o0), .val (.ref o1), .val (.ref o2), .val (.ref o3), .val (.int (3 : Int32)), .val (.int (0 : Int32)), .val (.int (1 : Int32))] [(.int (3 : Int32)), (.int (1 : Int32))])) (fun X t q => XS.iload X.here C.hx rfl (hb C.hby d1_73) rfl q) ?_
  refine Wk.st (g' := (mkF m 78 #[.val (.ref o0), .val (.ref o1), .val (.ref o2), .val (.ref o3), .val (.int (3 : Int32)), .val (.int (0 : Int32)), .val (.int (1 : Int32))] [])) (fun X t q => XS.icmpNo X.here C.hx rfl (hb C.hby d1_75) rfl (XT.ii_ge_f (by decide)) q) ?_
  refine Wk.st (g' := (mkF m 79 #[.val (.ref o0), .val (.ref o1), .val (.ref o2), .val (.ref o3), .val (.int (3 : Int32)), .val (.int (0 : Int32)), .val (.int (1 : Int32))] [(.ref o3)])) (fun X t q => XS.aloadN X.here C.hx rfl (hb C.hby d1_78) rfl rfl q) ?_
  refine Wk.st (g' := (mkF m 81 #[.val (.ref o0), .val (.ref o1), .val (.ref o2), .val (.ref o3), .val (.int (3 : Int32)), .val (.int (0 : Int32)), .val (.int (1 : Int32))] [(.int (1 : Int32)), (.ref o3)])) (fun X t q => XS.iload X.here C.hx rfl (hb C.hby d1_79) rfl q) ?_
  refine Wk.fLdI C F184 (i := 1) (by decide) (by decide) (by decide) (v := (.int (-1 : Int32))) (by simp [up]) d1_81 ?_
  show Wk _ p l e _ s m _ below meth c n0 _ h176 7 11 (mkF m 82 #[.val (.ref o0), .val (.ref o1), .val (.ref o2), .val (.ref o3), .val (.int (3 : Int32)), .val (.int (0 : Int32)), .val (.int (1 : Int32))] [(.int (-1 : Int32))])
  refine Wk.st (g' := (mkF m 96 #[.val (.ref o0), .val (.ref o1), .val (.ref o2), .val (.ref o3), .val (.int (3 : Int32)), .val (.int (0 : Int32)), .val (.int (1 : Int32))] [])) (fun X t q => XS.ifYes X.here C.hx rfl (pc0 := 82) (pc' := 96) rfl (hb C.hby d1_82) rfl (XT.i0_lt_t (by decide)) (by decide) (by decide) q) ?_
  refine Wk.st (g' := (mkF m 99 #[.val (.ref o0), .val (.ref o1), .val (.ref o2), .val (.ref o3), .val (.int (3 : Int32)), .val (.int (0 : Int32)), .val (.int (2 : Int32))] [])) (fun X t q => XS.iinc X.here C.hx rfl (hb C.hby d1_96) rfl (l' := #[.val (.ref o0), .val (.ref o1), .val (.ref o2), .val (.ref o3), .val (.int (3 : Int32)), .val (.int (0 : Int32)), .val (.int (2 : Int32))]) rfl q) ?_
  refine Wk.st (g' := (mkF m 71 #[.val (.ref o0), .val (.ref o1), .val (.ref o2), .val (.ref o3), .val (.int (3 : Int32)), .val (.int (0 : Int32)), .val (.int (2 : Int32))] [])) (fun X t q => XS.goto X.here C.hx rfl (pc0 := 99) (pc' := 71) rfl (hb C.hby d1_99) (by decide) (by decide) q) ?_
  refine Wk.st (g' := (mkF m 73 #[.val (.ref o0), .val (.ref o1), .val (.ref o2), .val (.ref o3), .val (.int (3 : Int32)), .val (.int (0 : Int32)), .val (.int (2 : Int32))] [(.int (2 : Int32))])) (fun X t q => XS.iload X.here C.hx rfl (hb C.hby d1_71) rfl q) ?_
  refine Wk.st (g' := (mkF m 75 #[.val (.ref o0), .val (.ref o1), .val (.ref o2), .val (.ref o3), .val (.int (3 : Int32)), .val (.int (0 : Int32)), .val (.int (2 : Int32))] [(.int (3 : Int32)), (.int (2 : Int32))])) (fun X t q => XS.iload X.here C.hx rfl (hb C.hby d1_73) rfl q) ?_
  refine Wk.st (g' := (mkF m 78 #[.val (.ref o0), .val (.ref o1), .val (.ref o2), .val (.ref o3), .val (.int (3 : Int32)), .val (.int (0 : Int32)), .val (.int (2 : Int32))] [])) (fun X t q => XS.icmpNo X.here C.hx rfl (hb C.hby d1_75) rfl (XT.ii_ge_f (by decide)) q) ?_
  refine Wk.st (g' := (mkF m 79 #[.val (.ref o0), .val (.ref o1), .val (.ref o2), .val (.ref o3), .val (.int (3 : Int32)), .val (.int (0 : Int32)), .val (.int (2 : Int32))] [(.ref o3)])) (fun X t q => XS.aloadN X.here C.hx rfl (hb C.hby d1_78) rfl rfl q) ?_
  refine Wk.st (g' := (mkF m 81 #[.val (.ref o0), .val (.ref o1), .val (.ref o2), .val (.ref o3), .val (.int (3 : Int32)), .val (.int (0 : Int32)), .val (.int (2 : Int32))] [(.int (2 : Int32)), (.ref o3)])) (fun X t q => XS.iload X.here C.hx rfl (hb C.hby d1_79) rfl q) ?_
  refine Wk.fLdI C F184 (i := 2) (by decide) (by decide) (by decide) (v := (.int (-1 : Int32))) (by simp [up]) d1_81 ?_
  show Wk _ p l e _ s m _ below meth c n0 _ h176 7 11 (mkF m 82 #[.val (.ref o0), .val (.ref o1), .val (.ref o2), .val (.ref o3), .val (.int (3 : Int32)), .val (.int (0 : Int32)), .val (.int (2 : Int32))] [(.int (-1 : Int32))])
  refine Wk.st (g' := (mkF m 96 #[.val (.ref o0), .val (.ref o1), .val (.ref o2), .val (.ref o3), .val (.int (3 : Int32)), .val (.int (0 : Int32)), .val (.int (2 : Int32))] [])) (fun X t q => XS.ifYes X.here C.hx rfl (pc0 := 82) (pc' := 96) rfl (hb C.hby d1_82) rfl (XT.i0_lt_t (by decide)) (by decide) (by decide) q) ?_
  refine Wk.st (g' := (mkF m 99 #[.val (.ref o0), .val (.ref o1), .val (.ref o2), .val (.ref o3), .val (.int (3 : Int32)), .val (.int (0 : Int32)), .val (.int (3 : Int32))] [])) (fun X t q => XS.iinc X.here C.hx rfl (hb C.hby d1_96) rfl (l' := #[.val (.ref o0), .val (.ref o1), .val (.ref o2), .val (.ref o3), .val (.int (3 : Int32)), .val (.int (0 : Int32)), .val (.int (3 : Int32))]) rfl q) ?_
  refine Wk.st (g' := (mkF m 71 #[.val (.ref o0), .val (.ref o1), .val (.ref o2), .val (.ref o3), .val (.int (3 : Int32)), .val (.int (0 : Int32)), .val (.int (3 : Int32))] [])) (fun X t q => XS.goto X.here C.hx rfl (pc0 := 99) (pc' := 71) rfl (hb C.hby d1_99) (by decide) (by decide) q) ?_
  refine Wk.st (g' := (mkF m 73 #[.val (.ref o0), .val (.ref o1), .val (.ref o2), .val (.ref o3), .val (.int (3 : Int32)), .val (.int (0 : Int32)), .val (.int (3 : Int32))] [(.int (3 : Int32))])) (fun X t q => XS.iload X.here C.hx rfl (hb C.hby d1_71) rfl q) ?_
  refine Wk.st (g' := (mkF m 75 #[.val (.ref o0), .val (.ref o1), .val (.ref o2), .val (.ref o3), .val (.int (3 : Int32)), .val (.int (0 : Int32)), .val (.int (3 : Int32))] [(.int (3 : Int32)), (.int (3 : Int32))])) (fun X t q => XS.iload X.here C.hx rfl (hb C.hby d1_73) rfl q) ?_
  refine Wk.st (g' := (mkF m 102 #[.val (.ref o0), .val (.ref o1), .val (.ref o2), .val (.ref o3), .val (.int (3 : Int32)), .val (.int (0 : Int32)), .val (.int (3 : Int32))] [])) (fun X t q => XS.icmpYes X.here C.hx rfl (pc0 := 75) (pc' := 102) rfl (hb C.hby d1_75) rfl (XT.ii_ge_t (by decide)) (by decide) (by decide) q) ?_
  exact Wk.retN0 C rfl d1_102 (by decide) (by decide) ⟨n52_b34, b138, n52_b51, n52_b84, n52_b122, rfl, K202, gz78, gz152, gz84, gz90, gz96, ne147, ne67, ne68, ne69, (Ne.symm ne148), (Ne.symm ne149), (Ne.symm ne150), ne70, ne71, ne72, F186, F187, F188, F189, F190, F191, F192, F193, F194, F195, F196, F197, F198, F199, F178⟩
set_option maxRecDepth 65536 in
set_option maxHeartbeats 40000000 in
theorem own_4_7 (l : Launch) (Z : State) (a0 : Array Value) (hw : ∀ d ∈ tables_1, d.before a0 Z = true) (n0 : Nat) (h0 : Heap) (hsz : n0 ≤ h0.size) (o0 : Addr) (o1 : Addr) (o2 : Addr) (o3 : Addr) (o4 : Addr) (o5 : Addr) (o6 : Addr) (o7 : Addr) (o8 : Addr) (x0 : Int32) (x1 : Int32) (x2 : Int32) (P0 : Exa Z h0 o1 "[I") (P1 : Fa Z h0 o1 .int 3 (up (up (up (fun _ => (.int (0 : Int32))) 0 (.int (-1 : Int32))) 1 (.int (0 : Int32))) 2 (.int (1 : Int32)))) (P2 : Exa Z h0 o2 "[I") (P3 : Fa Z h0 o2 .int 3 (up (up (up (fun _ => (.int (0 : Int32))) 0 (.int x0)) 1 (.int x1)) 2 (.int x2))) (P4 : Exa Z h0 o3 "[I") (P5 : Fa Z h0 o3 .int 3 (up (up (up (fun _ => (.int (0 : Int32))) 0 (.int (-1 : Int32))) 1 (.int (-1 : Int32))) 2 (.int (-1 : Int32)))) (P6 : Exa Z h0 o0 "com/example/understory/understory/RootedTree") (P7 : Fld Z h0 o0 "com/example/understory/understory/RootedTree" "parent" "[I" (.ref o1)) (P8 : Fld Z h0 o0 "com/example/understory/understory/RootedTree" "states" "[I" (.ref o2)) (P9 : Fld Z h0 o0 "com/example/understory/understory/RootedTree" "column" "[I" (.ref o3)) (P10 : Exa Z h0 o4 "[[I") (P11 : Exa Z h0 o6 "[I") (P12 : Exa Z h0 o7 "[I") (P13 : Exa Z h0 o8 "[I") (P14 : Fa Z h0 o8 .int 0 (fun _ => (.int (0 : Int32)))) (P15 : FaA Z h0 o4 .int "[I" 3 (up (up (up (fun _ => .null) 0 (.ref o6)) 1 (.ref o7)) 2 (.ref o8))) (P16 : Fa Z h0 o6 .int 1 (up (fun _ => (.int (0 : Int32))) 0 (.int (1 : Int32)))) (P17 : Fa Z h0 o7 .int 1 (up (fun _ => (.int (0 : Int32))) 0 (.int (2 : Int32)))) (P18 : Fld Z h0 o0 "com/example/understory/understory/RootedTree" "children" "[[I" (.ref o4)) (P19 : Exa Z h0 o5 "[I") (P20 : Fa Z h0 o5 .int 0 (fun _ => (.int (0 : Int32)))) (P21 : Fld Z h0 o0 "com/example/understory/understory/RootedTree" "nodeOfColumn" "[I" (.ref o5)) (N_o0_o1 : o0 ≠ o1) (N_o0_o2 : o0 ≠ o2) (N_o0_o3 : o0 ≠ o3) (N_o0_o4 : o0 ≠ o4) (N_o0_o5 : o0 ≠ o5) (N_o0_o6 : o0 ≠ o6) (N_o0_o7 : o0 ≠ o7) (N_o0_o8 : o0 ≠ o8) (N_o1_o2 : o1 ≠ o2) (N_o1_o3 : o1 ≠ o3) (N_o1_o4 : o1 ≠ o4) (N_o1_o5 : o1 ≠ o5) (N_o1_o6 : o1 ≠ o6) (N_o1_o7 : o1 ≠ o7) (N_o1_o8 : o1 ≠ o8) (N_o2_o3 : o2 ≠ o3) (N_o2_o4 : o2 ≠ o4) (N_o2_o5 : o2 ≠ o5) (N_o2_o6 : o2 ≠ o6) (N_o2_o7 : o2 ≠ o7) (N_o2_o8 : o2 ≠ o8) (N_o3_o4 : o3 ≠ o4) (N_o3_o5 : o3 ≠ o5) (N_o3_o6 : o3 ≠ o6) (N_o3_o7 : o3 ≠ o7) (N_o3_o8 : o3 ≠ o8) (N_o4_o5 : o4 ≠ o5) (N_o4_o6 : o4 ≠ o6) (N_o4_o7 : o4 ≠ o7) (N_o4_o8 : o4 ≠ o8) (N_o5_o6 : o5 ≠ o6) (N_o5_o7 : o5 ≠ o7) (N_o5_o8 : o5 ≠ o8) (N_o6_o7 : o6 ≠ o7) (N_o6_o8 : o6 ≠ o8) (N_o7_o8 : o7 ≠ o8) (G_o0 : n0 ≤ o0) (G_o1 : n0 ≤ o1) (G_o2 : n0 ≤ o2) (G_o3 : n0 ≤ o3) (G_o4 : n0 ≤ o4) (G_o5 : n0 ≤ o5) (G_o6 : n0 ≤ o6) (G_o7 : n0 ≤ o7) (G_o8 : n0 ≤ o8) :
    Met false l Z n0 (⟨"com/example/understory/understory/RootedTree", "parentStates", "(I)I"⟩ : MethodName) prog_21_method_10_code 2 (some .int) ({ frames := 0, cells := 0, slots := 0, locals := 0 } : Room) #[(.ref o0), (.int (0 : Int32))] h0 (fun v h => v = some (.int (1 : Int32)) ∧ h0 = h) := by
  refine Met.of pn_0 #[.val (.ref o0), .val (.int (0 : Int32))] (fun m => by first | (simp [entryFrame, mkF, argsToLocals, Value.category]; done) | rfl) ?_
  intro p e s m below meth c C
  refine Wk.st (g' := (mkF m 1 #[.val (.ref o0), .val (.int (0 : Int32))] [(.int (0 : Int32))])) (fun X t q => XS.iloadN X.here C.hx rfl (hb C.hby d4_0) rfl q) ?_
  refine Wk.st (g' := (mkF m 4 #[.val (.ref o0), .val (.int (0 : Int32))] [])) (fun X t q => XS.ifNo X.here C.hx rfl (hb C.hby d4_1) rfl (XT.i0_ne_f (by decide)) q) ?_
  refine Wk.st (g' := (mkF m 5 #[.val (.ref o0), .val (.int (0 : Int32))] [(.int (1 : Int32))])) (fun X t q => XS.iconst X.here C.hx rfl (hb C.hby d4_4) q) ?_
  refine Wk.st (g' := (mkF m 19 #[.val (.ref o0), .val (.int (0 : Int32))] [(.int (1 : Int32))])) (fun X t q => XS.goto X.here C.hx rfl (pc0 := 5) (pc' := 19) rfl (hb C.hby d4_5) (by decide) (by decide) q) ?_
  exact Wk.retV C (t := .int) rfl rfl (Or.inl ⟨rfl, by simp, _, rfl⟩) d4_19 (by decide) (by decide) ⟨rfl, rfl⟩
set_option maxRecDepth 65536 in
set_option maxHeartbeats 40000000 in
theorem own_4_8 (l : Launch) (Z : State) (a0 : Array Value) (hw : ∀ d ∈ tables_1, d.before a0 Z = true) (n0 : Nat) (h0 : Heap) (hsz : n0 ≤ h0.size) (o0 : Addr) (o1 : Addr) (o2 : Addr) (o3 : Addr) (o4 : Addr) (o5 : Addr) (o6 : Addr) (o7 : Addr) (o8 : Addr) (x0 : Int32) (x1 : Int32) (x2 : Int32) (P0 : Exa Z h0 o1 "[I") (P1 : Fa Z h0 o1 .int 3 (up (up (up (fun _ => (.int (0 : Int32))) 0 (.int (-1 : Int32))) 1 (.int (0 : Int32))) 2 (.int (1 : Int32)))) (P2 : Exa Z h0 o2 "[I") (P3 : Fa Z h0 o2 .int 3 (up (up (up (fun _ => (.int (0 : Int32))) 0 (.int x0)) 1 (.int x1)) 2 (.int x2))) (P4 : Exa Z h0 o3 "[I") (P5 : Fa Z h0 o3 .int 3 (up (up (up (fun _ => (.int (0 : Int32))) 0 (.int (-1 : Int32))) 1 (.int (-1 : Int32))) 2 (.int (-1 : Int32)))) (P6 : Exa Z h0 o0 "com/example/understory/understory/RootedTree") (P7 : Fld Z h0 o0 "com/example/understory/understory/RootedTree" "parent" "[I" (.ref o1)) (P8 : Fld Z h0 o0 "com/example/understory/understory/RootedTree" "states" "[I" (.ref o2)) (P9 : Fld Z h0 o0 "com/example/understory/understory/RootedTree" "column" "[I" (.ref o3)) (P10 : Exa Z h0 o4 "[[I") (P11 : Exa Z h0 o6 "[I") (P12 : Exa Z h0 o7 "[I") (P13 : Exa Z h0 o8 "[I") (P14 : Fa Z h0 o8 .int 0 (fun _ => (.int (0 : Int32)))) (P15 : FaA Z h0 o4 .int "[I" 3 (up (up (up (fun _ => .null) 0 (.ref o6)) 1 (.ref o7)) 2 (.ref o8))) (P16 : Fa Z h0 o6 .int 1 (up (fun _ => (.int (0 : Int32))) 0 (.int (1 : Int32)))) (P17 : Fa Z h0 o7 .int 1 (up (fun _ => (.int (0 : Int32))) 0 (.int (2 : Int32)))) (P18 : Fld Z h0 o0 "com/example/understory/understory/RootedTree" "children" "[[I" (.ref o4)) (P19 : Exa Z h0 o5 "[I") (P20 : Fa Z h0 o5 .int 0 (fun _ => (.int (0 : Int32)))) (P21 : Fld Z h0 o0 "com/example/understory/understory/RootedTree" "nodeOfColumn" "[I" (.ref o5)) (N_o0_o1 : o0 ≠ o1) (N_o0_o2 : o0 ≠ o2) (N_o0_o3 : o0 ≠ o3) (N_o0_o4 : o0 ≠ o4) (N_o0_o5 : o0 ≠ o5) (N_o0_o6 : o0 ≠ o6) (N_o0_o7 : o0 ≠ o7) (N_o0_o8 : o0 ≠ o8) (N_o1_o2 : o1 ≠ o2) (N_o1_o3 : o1 ≠ o3) (N_o1_o4 : o1 ≠ o4) (N_o1_o5 : o1 ≠ o5) (N_o1_o6 : o1 ≠ o6) (N_o1_o7 : o1 ≠ o7) (N_o1_o8 : o1 ≠ o8) (N_o2_o3 : o2 ≠ o3) (N_o2_o4 : o2 ≠ o4) (N_o2_o5 : o2 ≠ o5) (N_o2_o6 : o2 ≠ o6) (N_o2_o7 : o2 ≠ o7) (N_o2_o8 : o2 ≠ o8) (N_o3_o4 : o3 ≠ o4) (N_o3_o5 : o3 ≠ o5) (N_o3_o6 : o3 ≠ o6) (N_o3_o7 : o3 ≠ o7) (N_o3_o8 : o3 ≠ o8) (N_o4_o5 : o4 ≠ o5) (N_o4_o6 : o4 ≠ o6) (N_o4_o7 : o4 ≠ o7) (N_o4_o8 : o4 ≠ o8) (N_o5_o6 : o5 ≠ o6) (N_o5_o7 : o5 ≠ o7) (N_o5_o8 : o5 ≠ o8) (N_o6_o7 : o6 ≠ o7) (N_o6_o8 : o6 ≠ o8) (N_o7_o8 : o7 ≠ o8) (G_o0 : n0 ≤ o0) (G_o1 : n0 ≤ o1) (G_o2 : n0 ≤ o2) (G_o3 : n0 ≤ o3) (G_o4 : n0 ≤ o4) (G_o5 : n0 ≤ o5) (G_o6 : n0 ≤ o6) (G_o7 : n0 ≤ o7) (G_o8 : n0 ≤ o8) :
    Met false l Z n0 (⟨"com/example/understory/understory/RootedTree", "parentStates", "(I)I"⟩ : MethodName) prog_21_method_10_code 2 (some .int) ({ frames := 0, cells := 0, slots := 0, locals := 0 } : Room) #[(.ref o0), (.int (1 : Int32))] h0 (fun v h => v = some (.int x0) ∧ h0 = h) := by
  refine Met.of pn_0 #[.val (.ref o0), .val (.int (1 : Int32))] (fun m => by first | (simp [entryFrame, mkF, argsToLocals, Value.category]; done) | rfl) ?_
  intro p e s m below meth c C
  refine Wk.st (g' := (mkF m 1 #[.val (.ref o0), .val (.int (1 : Int32))] [(.int (1 : Int32))])) (fun X t q => XS.iloadN X.here C.hx rfl (hb C.hby d4_0) rfl q) ?_
  refine Wk.st (g' := (mkF m 8 #[.val (.ref o0), .val (.int (1 : Int32))] [])) (fun X t q => XS.ifYes X.here C.hx rfl (pc0 := 1) (pc' := 8) rfl (hb C.hby d4_1) rfl (XT.i0_ne_t (by decide)) (by decide) (by decide) q) ?_
  refine Wk.st (g' := (mkF m 9 #[.val (.ref o0), .val (.int (1 : Int32))] [(.ref o0)])) (fun X t q => XS.aloadN X.here C.hx rfl (hb C.hby d4_8) rfl rfl q) ?_
  refine Wk.getF C (hw _ (List.mem_of_getElem? (i := 12) rfl)) Via.refl P8 d4_9 ?_
  show Wk _ p l e _ s m _ below meth c n0 _ h0 0 0 (mkF m 12 #[.val (.ref o0), .val (.int (1 : Int32))] [(.ref o2)])
  refine Wk.st (g' := (mkF m 13 #[.val (.ref o0), .val (.int (1 : Int32))] [(.ref o0), (.ref o2)])) (fun X t q => XS.aloadN X.here C.hx rfl (hb C.hby d4_12) rfl rfl q) ?_
  refine Wk.getF C (hw _ (List.mem_of_getElem? (i := 10) rfl)) Via.refl P7 d4_13 ?_
  show Wk _ p l e _ s m _ below meth c n0 _ h0 0 0 (mkF m 16 #[.val (.ref o0), .val (.int (1 : Int32))] [(.ref o1), (.ref o2)])
  refine Wk.st (g' := (mkF m 17 #[.val (.ref o0), .val (.int (1 : Int32))] [(.int (1 : Int32)), (.ref o1), (.ref o2)])) (fun X t q => XS.iloadN X.here C.hx rfl (hb C.hby d4_16) rfl q) ?_
  refine Wk.fLdI C P1 (i := 1) (by decide) (by decide) (by decide) (v := (.int (0 : Int32))) (by simp [up]) d4_17 ?_
  show Wk _ p l e _ s m _ below meth c n0 _ h0 0 0 (mkF m 18 #[.val (.ref o0), .val (.int (1 : Int32))] [(.int (0 : Int32)), (.ref o2)])
  refine Wk.fLdI C P3 (i := 0) (by decide) (by decide) (by decide) (v := (.int x0)) (by simp [up]) d4_18 ?_
  show Wk _ p l e _ s m _ below meth c n0 _ h0 0 0 (mkF m 19 #[.val (.ref o0), .val (.int (1 : Int32))] [(.int x0)])
  exact Wk.retV C (t := .int) rfl rfl (Or.inl ⟨rfl, by simp, _, rfl⟩) d4_19 (by decide) (by decide) ⟨rfl, rfl⟩
set_option maxRecDepth 65536 in
set_option maxHeartbeats 40000000 in
theorem own_4_9 (l : Launch) (Z : State) (a0 : Array Value) (hw : ∀ d ∈ tables_1, d.before a0 Z = true) (n0 : Nat) (h0 : Heap) (hsz : n0 ≤ h0.size) (o0 : Addr) (o1 : Addr) (o2 : Addr) (o3 : Addr) (o4 : Addr) (o5 : Addr) (o6 : Addr) (o7 : Addr) (o8 : Addr) (x0 : Int32) (x1 : Int32) (x2 : Int32) (P0 : Exa Z h0 o1 "[I") (P1 : Fa Z h0 o1 .int 3 (up (up (up (fun _ => (.int (0 : Int32))) 0 (.int (-1 : Int32))) 1 (.int (0 : Int32))) 2 (.int (1 : Int32)))) (P2 : Exa Z h0 o2 "[I") (P3 : Fa Z h0 o2 .int 3 (up (up (up (fun _ => (.int (0 : Int32))) 0 (.int x0)) 1 (.int x1)) 2 (.int x2))) (P4 : Exa Z h0 o3 "[I") (P5 : Fa Z h0 o3 .int 3 (up (up (up (fun _ => (.int (0 : Int32))) 0 (.int (-1 : Int32))) 1 (.int (-1 : Int32))) 2 (.int (-1 : Int32)))) (P6 : Exa Z h0 o0 "com/example/understory/understory/RootedTree") (P7 : Fld Z h0 o0 "com/example/understory/understory/RootedTree" "parent" "[I" (.ref o1)) (P8 : Fld Z h0 o0 "com/example/understory/understory/RootedTree" "states" "[I" (.ref o2)) (P9 : Fld Z h0 o0 "com/example/understory/understory/RootedTree" "column" "[I" (.ref o3)) (P10 : Exa Z h0 o4 "[[I") (P11 : Exa Z h0 o6 "[I") (P12 : Exa Z h0 o7 "[I") (P13 : Exa Z h0 o8 "[I") (P14 : Fa Z h0 o8 .int 0 (fun _ => (.int (0 : Int32)))) (P15 : FaA Z h0 o4 .int "[I" 3 (up (up (up (fun _ => .null) 0 (.ref o6)) 1 (.ref o7)) 2 (.ref o8))) (P16 : Fa Z h0 o6 .int 1 (up (fun _ => (.int (0 : Int32))) 0 (.int (1 : Int32)))) (P17 : Fa Z h0 o7 .int 1 (up (fun _ => (.int (0 : Int32))) 0 (.int (2 : Int32)))) (P18 : Fld Z h0 o0 "com/example/understory/understory/RootedTree" "children" "[[I" (.ref o4)) (P19 : Exa Z h0 o5 "[I") (P20 : Fa Z h0 o5 .int 0 (fun _ => (.int (0 : Int32)))) (P21 : Fld Z h0 o0 "com/example/understory/understory/RootedTree" "nodeOfColumn" "[I" (.ref o5)) (N_o0_o1 : o0 ≠ o1) (N_o0_o2 : o0 ≠ o2) (N_o0_o3 : o0 ≠ o3) (N_o0_o4 : o0 ≠ o4) (N_o0_o5 : o0 ≠ o5) (N_o0_o6 : o0 ≠ o6) (N_o0_o7 : o0 ≠ o7) (N_o0_o8 : o0 ≠ o8) (N_o1_o2 : o1 ≠ o2) (N_o1_o3 : o1 ≠ o3) (N_o1_o4 : o1 ≠ o4) (N_o1_o5 : o1 ≠ o5) (N_o1_o6 : o1 ≠ o6) (N_o1_o7 : o1 ≠ o7) (N_o1_o8 : o1 ≠ o8) (N_o2_o3 : o2 ≠ o3) (N_o2_o4 : o2 ≠ o4) (N_o2_o5 : o2 ≠ o5) (N_o2_o6 : o2 ≠ o6) (N_o2_o7 : o2 ≠ o7) (N_o2_o8 : o2 ≠ o8) (N_o3_o4 : o3 ≠ o4) (N_o3_o5 : o3 ≠ o5) (N_o3_o6 : o3 ≠ o6) (N_o3_o7 : o3 ≠ o7) (N_o3_o8 : o3 ≠ o8) (N_o4_o5 : o4 ≠ o5) (N_o4_o6 : o4 ≠ o6) (N_o4_o7 : o4 ≠ o7) (N_o4_o8 : o4 ≠ o8) (N_o5_o6 : o5 ≠ o6) (N_o5_o7 : o5 ≠ o7) (N_o5_o8 : o5 ≠ o8) (N_o6_o7 : o6 ≠ o7) (N_o6_o8 : o6 ≠ o8) (N_o7_o8 : o7 ≠ o8) (G_o0 : n0 ≤ o0) (G_o1 : n0 ≤ o1) (G_o2 : n0 ≤ o2) (G_o3 : n0 ≤ o3) (G_o4 : n0 ≤ o4) (G_o5 : n0 ≤ o5) (G_o6 : n0 ≤ o6) (G_o7 : n0 ≤ o7) (G_o8 : n0 ≤ o8) :
    Met false l Z n0 (⟨"com/example/understory/understory/RootedTree", "parentStates", "(I)I"⟩ : MethodName) prog_21_method_10_code 2 (some .int) ({ frames := 0, cells := 0, slots := 0, locals := 0 } : Room) #[(.ref o0), (.int (2 : Int32))] h0 (fun v h => v = some (.int x1) ∧ h0 = h) := by
  refine Met.of pn_0 #[.val (.ref o0), .val (.int (2 : Int32))] (fun m => by first | (simp [entryFrame, mkF, argsToLocals, Value.category]; done) | rfl) ?_
  intro p e s m below meth c C
  refine Wk.st (g' := (mkF m 1 #[.val (.ref o0), .val (.int (2 : Int32))] [(.int (2 : Int32))])) (fun X t q => XS.iloadN X.here C.hx rfl (hb C.hby d4_0) rfl q) ?_
  refine Wk.st (g' := (mkF m 8 #[.val (.ref o0), .val (.int (2 : Int32))] [])) (fun X t q => XS.ifYes X.here C.hx rfl (pc0 := 1) (pc' := 8) rfl (hb C.hby d4_1) rfl (XT.i0_ne_t (by decide)) (by decide) (by decide) q) ?_
  refine Wk.st (g' := (mkF m 9 #[.val (.ref o0), .val (.int (2 : Int32))] [(.ref o0)])) (fun X t q => XS.aloadN X.here C.hx rfl (hb C.hby d4_8) rfl rfl q) ?_
  refine Wk.getF C (hw _ (List.mem_of_getElem? (i := 12) rfl)) Via.refl P8 d4_9 ?_
  show Wk _ p l e _ s m _ below meth c n0 _ h0 0 0 (mkF m 12 #[.val (.ref o0), .val (.int (2 : Int32))] [(.ref o2)])
  refine Wk.st (g' := (mkF m 13 #[.val (.ref o0), .val (.int (2 : Int32))] [(.ref o0), (.ref o2)])) (fun X t q => XS.aloadN X.here C.hx rfl (hb C.hby d4_12) rfl rfl q) ?_
  refine Wk.getF C (hw _ (List.mem_of_getElem? (i := 10) rfl)) Via.refl P7 d4_13 ?_
  show Wk _ p l e _ s m _ below meth c n0 _ h0 0 0 (mkF m 16 #[.val (.ref o0), .val (.int (2 : Int32))] [(.ref o1), (.ref o2)])
  refine Wk.st (g' := (mkF m 17 #[.val (.ref o0), .val (.int (2 : Int32))] [(.int (2 : Int32)), (.ref o1), (.ref o2)])) (fun X t q => XS.iloadN X.here C.hx rfl (hb C.hby d4_16) rfl q) ?_
  refine Wk.fLdI C P1 (i := 2) (by decide) (by decide) (by decide) (v := (.int (1 : Int32))) (by simp [up]) d4_17 ?_
  show Wk _ p l e _ s m _ below meth c n0 _ h0 0 0 (mkF m 18 #[.val (.ref o0), .val (.int (2 : Int32))] [(.int (1 : Int32)), (.ref o2)])
  refine Wk.fLdI C P3 (i := 1) (by decide) (by decide) (by decide) (v := (.int x1)) (by simp [up]) d4_18 ?_
  show Wk _ p l e _ s m _ below meth c n0 _ h0 0 0 (mkF m 19 #[.val (.ref o0), .val (.int (2 : Int32))] [(.int x1)])
  exact Wk.retV C (t := .int) rfl rfl (Or.inl ⟨rfl, by simp, _, rfl⟩) d4_19 (by decide) (by decide) ⟨rfl, rfl⟩
set_option maxRecDepth 65536 in
set_option maxHeartbeats 40000000 in
theorem law_met (l : Launch) (Z : State) (a0 : Array Value) (hw : ∀ d ∈ tables_1, d.before a0 Z = true) (n0 : Nat) (h0 : Heap) (hsz : n0 ≤ h0.size) (i0 i1 i2 i3 i4 : Int32) :
    Met false l Z n0 x code maxLocals ret room_1 #[(.int i0), (.int i1), (.int i2), (.int i3), (.int i4)] h0 (fun v _ => v = some (.int 1) ∧ True) := by
  refine Met.of pn_1 #[.val (.int i0), .val (.int i1), .val (.int i2), .val (.int i3), .val (.int i4), .unset, .unset, .unset, .unset, .unset, .unset, .unset] (fun m => by first | (simp [entryFrame, mkF, argsToLocals, Value.category, maxLocals]; done) | rfl) ?_
  intro p e s m below meth c C
  refine Wk.st (g' := (mkF m 1 #[.val (.int i0), .val (.int i1), .val (.int i2), .val (.int i3), .val (.int i4), .unset, .unset, .unset, .unset, .unset, .unset, .unset] [(.int i3)])) (fun X t q => XS.iloadN X.here C.hx rfl (hb C.hby at_0) rfl q) ?_
  refine Wk.st (g' := (mkF m 2 #[.val (.int i0), .val (.int i1), .val (.int i2), .val (.int i3), .val (.int i4), .unset, .unset, .unset, .unset, .unset, .unset, .unset] [(.int (1 : Int32)), (.int i3)])) (fun X t q => XS.iconst X.here C.hx rfl (hb C.hby at_1) q) ?_
  refine Wk.st (g' := (mkF m 3 #[.val (.int i0), .val (.int i1), .val (.int i2), .val (.int i3), .val (.int i4), .unset, .unset, .unset, .unset, .unset, .unset, .unset] [(.int (i3 &&& (1 : Int32)))])) (fun X t q => XS.iand X.here C.hx rfl (hb C.hby at_2) rfl q) ?_
  refine Wk.st (g' := (mkF m 5 #[.val (.int i0), .val (.int i1), .val (.int i2), .val (.int i3), .val (.int i4), .val (.int (i3 &&& (1 : Int32))), .unset, .unset, .unset, .unset, .unset, .unset] [])) (fun X t q => XS.istore X.here C.hx rfl (hb C.hby at_3) rfl (l' := #[.val (.int i0), .val (.int i1), .val (.int i2), .val (.int i3), .val (.int i4), .val (.int (i3 &&& (1 : Int32))), .unset, .unset, .unset, .unset, .unset, .unset]) rfl q) ?_
  rcases and_one i3 with hp | hp <;> rw [hp]
  · skip
    show Wk _ p l e _ s m _ below meth c n0 _ h0 0 0 (mkF m 5 #[.val (.int i0), .val (.int i1), .val (.int i2), .val (.int i3), .val (.int i4), .val (.int (0 : Int32)), .unset, .unset, .unset, .unset, .unset, .unset] [])
    refine Wk.st (g' := (mkF m 6 #[.val (.int i0), .val (.int i1), .val (.int i2), .val (.int i3), .val (.int i4), .val (.int (0 : Int32)), .unset, .unset, .unset, .unset, .unset, .unset] [(.int (3 : Int32))])) (fun X t q => XS.iconst X.here C.hx rfl (hb C.hby at_5) q) ?_
    refine Wk.fNewP C (hw _ (List.mem_of_getElem? (i := 0) rfl)) (ty := .int) (dv := (.int (0 : Int32))) (N := 3) (ad := "[I") rfl rfl (by decide) (by decide) (by decide) (cap := 3) (by decide) (by decide) at_6 (by decide) (by decide) ?_
    intro h1 b2 g3 E4 A5 F6
    have ge7 : n0 ≤ b2 := Nat.le_trans hsz (Nat.le_of_eq g3.symm)
    have gz8 : h0.size ≤ b2 := Nat.le_trans (Nat.le_refl h0.size) (Nat.le_of_eq g3.symm)
    have sz9 : n0 ≤ h1.size := Nat.le_trans hsz E4.1
    have sy10 : h0.size ≤ h1.size := Nat.le_trans (Nat.le_refl h0.size) E4.1
    show Wk _ p l e _ s m _ below meth c n0 _ h1 1 3 (mkF m 8 #[.val (.int i0), .val (.int i1), .val (.int i2), .val (.int i3), .val (.int i4), .val (.int (0 : Int32)), .unset, .unset, .unset, .unset, .unset, .unset] [(.ref b2)])
    refine Wk.st (g' := (mkF m 9 #[.val (.int i0), .val (.int i1), .val (.int i2), .val (.int i3), .val (.int i4), .val (.int (0 : Int32)), .unset, .unset, .unset, .unset, .unset, .unset] [(.ref b2), (.ref b2)])) (fun X t q => XS.dup X.here C.hx rfl (hb C.hby at_8) rfl rfl q) ?_
    refine Wk.st (g' := (mkF m 10 #[.val (.int i0), .val (.int i1), .val (.int i2), .val (.int i3), .val (.int i4), .val (.int (0 : Int32)), .unset, .unset, .unset, .unset, .unset, .unset] [(.int (0 : Int32)), (.ref b2), (.ref b2)])) (fun X t q => XS.iconst X.here C.hx rfl (hb C.hby at_9) q) ?_
    refine Wk.st (g' := (mkF m 11 #[.val (.int i0), .val (.int i1), .val (.int i2), .val (.int i3), .val (.int i4), .val (.int (0 : Int32)), .unset, .unset, .unset, .unset, .unset, .unset] [(.int (-1 : Int32)), (.int (0 : Int32)), (.ref b2), (.ref b2)])) (fun X t q => XS.iconst X.here C.hx rfl (hb C.hby at_10) q) ?_
    refine Wk.fStI C F6 (i := 0) (by decide) (by decide) (by decide) ge7 at_11 ?_
    intro h11 W12 F13
    have F14 : Exa Z h11 b2 "[I" := A5.wr W12
    have sz15 : n0 ≤ h11.size := Nat.le_trans sz9 (Nat.le_of_eq W12.size.symm)
    have sy16 : h0.size ≤ h11.size := Nat.le_trans sy10 (Nat.le_of_eq W12.size.symm)
    show Wk _ p l e _ s m _ below meth c n0 _ h11 1 3 (mkF m 12 #[.val (.int i0), .val (.int i1), .val (.int i2), .val (.int i3), .val (.int i4), .val (.int (0 : Int32)), .unset, .unset, .unset, .unset, .unset, .unset] [(.ref b2)])
    refine Wk.st (g' := (mkF m 13 #[.val (.int i0), .val (.int i1), .val (.int i2), .val (.int i3), .val (.int i4), .val (.int (0 : Int32)), .unset, .unset, .unset, .unset, .unset, .unset] [(.ref b2), (.ref b2)])) (fun X t q => XS.dup X.here C.hx rfl (hb C.hby at_12) rfl rfl q) ?_
    refine Wk.st (g' := (mkF m 14 #[.val (.int i0), .val (.int i1), .val (.int i2), .val (.int i3), .val (.int i4), .val (.int (0 : Int32)), .unset, .unset, .unset, .unset, .unset, .unset] [(.int (1 : Int32)), (.ref b2), (.ref b2)])) (fun X t q => XS.iconst X.here C.hx rfl (hb C.hby at_13) q) ?_
    refine Wk.st (g' := (mkF m 15 #[.val (.int i0), .val (.int i1), .val (.int i2), .val (.int i3), .val (.int i4), .val (.int (0 : Int32)), .unset, .unset, .unset, .unset, .unset, .unset] [(.int (0 : Int32)), (.int (1 : Int32)), (.ref b2), (.ref b2)])) (fun X t q => XS.iconst X.here C.hx rfl (hb C.hby at_14) q) ?_
    refine Wk.fStI C F13 (i := 1) (by decide) (by decide) (by decide) ge7 at_15 ?_
    intro h17 W18 F19
    have F20 : Exa Z h17 b2 "[I" := F14.wr W18
    have sz21 : n0 ≤ h17.size := Nat.le_trans sz15 (Nat.le_of_eq W18.size.symm)
    have sy22 : h0.size ≤ h17.size := Nat.le_trans sy16 (Nat.le_of_eq W18.size.symm)
    show Wk _ p l e _ s m _ below meth c n0 _ h17 1 3 (mkF m 16 #[.val (.int i0), .val (.int i1), .val (.int i2), .val (.int i3), .val (.int i4), .val (.int (0 : Int32)), .unset, .unset, .unset, .unset, .unset, .unset] [(.ref b2)])
    refine Wk.st (g' := (mkF m 17 #[.val (.int i0), .val (.int i1), .val (.int i2), .val (.int i3), .val (.int i4), .val (.int (0 : Int32)), .unset, .unset, .unset, .unset, .unset, .unset] [(.ref b2), (.ref b2)])) (fun X t q => XS.dup X.here C.hx rfl (hb C.hby at_16) rfl rfl q) ?_
    refine Wk.st (g' := (mkF m 18 #[.val (.int i0), .val (.int i1), .val (.int i2), .val (.int i3), .val (.int i4), .val (.int (0 : Int32)), .unset, .unset, .unset, .unset, .unset, .unset] [(.int (2 : Int32)), (.ref b2), (.ref b2)])) (fun X t q => XS.iconst X.here C.hx rfl (hb C.hby at_17) q) ?_
    refine Wk.st (g' := (mkF m 20 #[.val (.int i0), .val (.int i1), .val (.int i2), .val (.int i3), .val (.int i4), .val (.int (0 : Int32)), .unset, .unset, .unset, .unset, .unset, .unset] [(.int (0 : Int32)), (.int (2 : Int32)), (.ref b2), (.ref b2)])) (fun X t q => XS.iload X.here C.hx rfl (hb C.hby at_18) rfl q) ?_
    refine Wk.fStI C F19 (i := 2) (by decide) (by decide) (by decide) ge7 at_20 ?_
    intro h23 W24 F25
    have F26 : Exa Z h23 b2 "[I" := F20.wr W24
    have sz27 : n0 ≤ h23.size := Nat.le_trans sz21 (Nat.le_of_eq W24.size.symm)
    have sy28 : h0.size ≤ h23.size := Nat.le_trans sy22 (Nat.le_of_eq W24.size.symm)
    show Wk _ p l e _ s m _ below meth c n0 _ h23 1 3 (mkF m 21 #[.val (.int i0), .val (.int i1), .val (.int i2), .val (.int i3), .val (.int i4), .val (.int (0 : Int32)), .unset, .unset, .unset, .unset, .unset, .unset] [(.ref b2)])
    refine Wk.st (g' := (mkF m 23 #[.val (.int i0), .val (.int i1), .val (.int i2), .val (.int i3), .val (.int i4), .val (.int (0 : Int32)), .val (.ref b2), .unset, .unset, .unset, .unset, .unset] [])) (fun X t q => XS.astore X.here C.hx rfl (hb C.hby at_21) rfl rfl (l' := #[.val (.int i0), .val (.int i1), .val (.int i2), .val (.int i3), .val (.int i4), .val (.int (0 : Int32)), .val (.ref b2), .unset, .unset, .unset, .unset, .unset]) rfl q) ?_
    refine Wk.st (g' := (mkF m 24 #[.val (.int i0), .val (.int i1), .val (.int i2), .val (.int i3), .val (.int i4), .val (.int (0 : Int32)), .val (.ref b2), .unset, .unset, .unset, .unset, .unset] [(.int (3 : Int32))])) (fun X t q => XS.iconst X.here C.hx rfl (hb C.hby at_23) q) ?_
    refine Wk.fNewP C (hw _ (List.mem_of_getElem? (i := 0) rfl)) (ty := .int) (dv := (.int (0 : Int32))) (N := 3) (ad := "[I") rfl rfl (by decide) (by decide) (by decide) (cap := 3) (by decide) (by decide) at_24 (by decide) (by decide) ?_
    intro h29 b30 g31 E32 A33 F34
    have ne35 : b2 ≠ b30 := Nat.ne_of_lt (Nat.lt_of_lt_of_le F26.lt (Nat.le_of_eq g31.symm))
    have ge36 : n0 ≤ b30 := Nat.le_trans sz27 (Nat.le_of_eq g31.symm)
    have gz37 : h0.size ≤ b30 := Nat.le_trans sy28 (Nat.le_of_eq g31.symm)
    have F38 : Exa Z h29 b2 "[I" := F26.ext E32
    have F39 : Fa Z h29 b2 .int 3 (up (up (up (fun _ => (.int (0 : Int32))) 0 (.int (-1 : Int32))) 1 (.int (0 : Int32))) 2 (.int (0 : Int32))) := F25.ext E32
    have sz40 : n0 ≤ h29.size := Nat.le_trans sz27 E32.1
    have sy41 : h0.size ≤ h29.size := Nat.le_trans sy28 E32.1
    show Wk _ p l e _ s m _ below meth c n0 _ h29 2 6 (mkF m 26 #[.val (.int i0), .val (.int i1), .val (.int i2), .val (.int i3), .val (.int i4), .val (.int (0 : Int32)), .val (.ref b2), .unset, .unset, .unset, .unset, .unset] [(.ref b30)])
    refine Wk.st (g' := (mkF m 27 #[.val (.int i0), .val (.int i1), .val (.int i2), .val (.int i3), .val (.int i4), .val (.int (0 : Int32)), .val (.ref b2), .unset, .unset, .unset, .unset, .unset] [(.ref b30), (.ref b30)])) (fun X t q => XS.dup X.here C.hx rfl (hb C.hby at_26) rfl rfl q) ?_
    refine Wk.st (g' := (mkF m 28 #[.val (.int i0), .val (.int i1), .val (.int i2), .val (.int i3), .val (.int i4), .val (.int (0 : Int32)), .val (.ref b2), .unset, .unset, .unset, .unset, .unset] [(.int (0 : Int32)), (.ref b30), (.ref b30)])) (fun X t q => XS.iconst X.here C.hx rfl (hb C.hby at_27) q) ?_
    refine Wk.st (g' := (mkF m 29 #[.val (.int i0), .val (.int i1), .val (.int i2), .val (.int i3), .val (.int i4), .val (.int (0 : Int32)), .val (.ref b2), .unset, .unset, .unset, .unset, .unset] [(.int i0), (.int (0 : Int32)), (.ref b30), (.ref b30)])) (fun X t q => XS.iloadN X.here C.hx rfl (hb C.hby at_28) rfl q) ?_
    refine Wk.fStI C F34 (i := 0) (by decide) (by decide) (by decide) ge36 at_29 ?_
    intro h42 W43 F44
    have F45 : Exa Z h42 b2 "[I" := F38.wr W43
    have F46 : Fa Z h42 b2 .int 3 (up (up (up (fun _ => (.int (0 : Int32))) 0 (.int (-1 : Int32))) 1 (.int (0 : Int32))) 2 (.int (0 : Int32))) := F39.other W43 ne35
    have F47 : Exa Z h42 b30 "[I" := A33.wr W43
    have sz48 : n0 ≤ h42.size := Nat.le_trans sz40 (Nat.le_of_eq W43.size.symm)
    have sy49 : h0.size ≤ h42.size := Nat.le_trans sy41 (Nat.le_of_eq W43.size.symm)
    show Wk _ p l e _ s m _ below meth c n0 _ h42 2 6 (mkF m 30 #[.val (.int i0), .val (.int i1), .val (.int i2), .val (.int i3), .val (.int i4), .val (.int (0 : Int32)), .val (.ref b2), .unset, .unset, .unset, .unset, .unset] [(.ref b30)])
    refine Wk.st (g' := (mkF m 31 #[.val (.int i0), .val (.int i1), .val (.int i2), .val (.int i3), .val (.int i4), .val (.int (0 : Int32)), .val (.ref b2), .unset, .unset, .unset, .unset, .unset] [(.ref b30), (.ref b30)])) (fun X t q => XS.dup X.here C.hx rfl (hb C.hby at_30) rfl rfl q) ?_
    refine Wk.st (g' := (mkF m 32 #[.val (.int i0), .val (.int i1), .val (.int i2), .val (.int i3), .val (.int i4), .val (.int (0 : Int32)), .val (.ref b2), .unset, .unset, .unset, .unset, .unset] [(.int (1 : Int32)), (.ref b30), (.ref b30)])) (fun X t q => XS.iconst X.here C.hx rfl (hb C.hby at_31) q) ?_
    refine Wk.st (g' := (mkF m 33 #[.val (.int i0), .val (.int i1), .val (.int i2), .val (.int i3), .val (.int i4), .val (.int (0 : Int32)), .val (.ref b2), .unset, .unset, .unset, .unset, .unset] [(.int i1), (.int (1 : Int32)), (.ref b30), (.ref b30)])) (fun X t q => XS.iloadN X.here C.hx rfl (hb C.hby at_32) rfl q) ?_
    refine Wk.fStI C F44 (i := 1) (by decide) (by decide) (by decide) ge36 at_33 ?_
    intro h50 W51 F52
    have F53 : Exa Z h50 b2 "[I" := F45.wr W51
    have F54 : Fa Z h50 b2 .int 3 (up (up (up (fun _ => (.int (0 : Int32))) 0 (.int (-1 : Int32))) 1 (.int (0 : Int32))) 2 (.int (0 : Int32))) := F46.other W51 ne35
    have F55 : Exa Z h50 b30 "[I" := F47.wr W51
    have sz56 : n0 ≤ h50.size := Nat.le_trans sz48 (Nat.le_of_eq W51.size.symm)
    have sy57 : h0.size ≤ h50.size := Nat.le_trans sy49 (Nat.le_of_eq W51.size.symm)
    show Wk _ p l e _ s m _ below meth c n0 _ h50 2 6 (mkF m 34 #[.val (.int i0), .val (.int i1), .val (.int i2), .val (.int i3), .val (.int i4), .val (.int (0 : Int32)), .val (.ref b2), .unset, .unset, .unset, .unset, .unset] [(.ref b30)])
    refine Wk.st (g' := (mkF m 35 #[.val (.int i0), .val (.int i1), .val (.int i2), .val (.int i3), .val (.int i4), .val (.int (0 : Int32)), .val (.ref b2), .unset, .unset, .unset, .unset, .unset] [(.ref b30), (.ref b30)])) (fun X t q => XS.dup X.here C.hx rfl (hb C.hby at_34) rfl rfl q) ?_
    refine Wk.st (g' := (mkF m 36 #[.val (.int i0), .val (.int i1), .val (.int i2), .val (.int i3), .val (.int i4), .val (.int (0 : Int32)), .val (.ref b2), .unset, .unset, .unset, .unset, .unset] [(.int (2 : Int32)), (.ref b30), (.ref b30)])) (fun X t q => XS.iconst X.here C.hx rfl (hb C.hby at_35) q) ?_
    refine Wk.st (g' := (mkF m 37 #[.val (.int i0), .val (.int i1), .val (.int i2), .val (.int i3), .val (.int i4), .val (.int (0 : Int32)), .val (.ref b2), .unset, .unset, .unset, .unset, .unset] [(.int i2), (.int (2 : Int32)), (.ref b30), (.ref b30)])) (fun X t q => XS.iloadN X.here C.hx rfl (hb C.hby at_36) rfl q) ?_
    refine Wk.fStI C F52 (i := 2) (by decide) (by decide) (by decide) ge36 at_37 ?_
    intro h58 W59 F60
    have F61 : Exa Z h58 b2 "[I" := F53.wr W59
    have F62 : Fa Z h58 b2 .int 3 (up (up (up (fun _ => (.int (0 : Int32))) 0 (.int (-1 : Int32))) 1 (.int (0 : Int32))) 2 (.int (0 : Int32))) := F54.other W59 ne35
    have F63 : Exa Z h58 b30 "[I" := F55.wr W59
    have sz64 : n0 ≤ h58.size := Nat.le_trans sz56 (Nat.le_of_eq W59.size.symm)
    have sy65 : h0.size ≤ h58.size := Nat.le_trans sy57 (Nat.le_of_eq W59.size.symm)
    show Wk _ p l e _ s m _ below meth c n0 _ h58 2 6 (mkF m 38 #[.val (.int i0), .val (.int i1), .val (.int i2), .val (.int i3), .val (.int i4), .val (.int (0 : Int32)), .val (.ref b2), .unset, .unset, .unset, .unset, .unset] [(.ref b30)])
    refine Wk.st (g' := (mkF m 40 #[.val (.int i0), .val (.int i1), .val (.int i2), .val (.int i3), .val (.int i4), .val (.int (0 : Int32)), .val (.ref b2), .val (.ref b30), .unset, .unset, .unset, .unset] [])) (fun X t q => XS.astore X.here C.hx rfl (hb C.hby at_38) rfl rfl (l' := #[.val (.int i0), .val (.int i1), .val (.int i2), .val (.int i3), .val (.int i4), .val (.int (0 : Int32)), .val (.ref b2), .val (.ref b30), .unset, .unset, .unset, .unset]) rfl q) ?_
    refine Wk.st (g' := (mkF m 41 #[.val (.int i0), .val (.int i1), .val (.int i2), .val (.int i3), .val (.int i4), .val (.int (0 : Int32)), .val (.ref b2), .val (.ref b30), .unset, .unset, .unset, .unset] [(.int (3 : Int32))])) (fun X t q => XS.iconst X.here C.hx rfl (hb C.hby at_40) q) ?_
    refine Wk.fNewP C (hw _ (List.mem_of_getElem? (i := 0) rfl)) (ty := .int) (dv := (.int (0 : Int32))) (N := 3) (ad := "[I") rfl rfl (by decide) (by decide) (by decide) (cap := 3) (by decide) (by decide) at_41 (by decide) (by decide) ?_
    intro h66 b67 g68 E69 A70 F71
    have ne72 : b2 ≠ b67 := Nat.ne_of_lt (Nat.lt_of_lt_of_le F61.lt (Nat.le_of_eq g68.symm))
    have ne73 : b30 ≠ b67 := Nat.ne_of_lt (Nat.lt_of_lt_of_le F63.lt (Nat.le_of_eq g68.symm))
    have ge74 : n0 ≤ b67 := Nat.le_trans sz64 (Nat.le_of_eq g68.symm)
    have gz75 : h0.size ≤ b67 := Nat.le_trans sy65 (Nat.le_of_eq g68.symm)
    have F76 : Exa Z h66 b2 "[I" := F61.ext E69
    have F77 : Fa Z h66 b2 .int 3 (up (up (up (fun _ => (.int (0 : Int32))) 0 (.int (-1 : Int32))) 1 (.int (0 : Int32))) 2 (.int (0 : Int32))) := F62.ext E69
    have F78 : Exa Z h66 b30 "[I" := F63.ext E69
    have F79 : Fa Z h66 b30 .int 3 (up (up (up (fun _ => (.int (0 : Int32))) 0 (.int i0)) 1 (.int i1)) 2 (.int i2)) := F60.ext E69
    have sz80 : n0 ≤ h66.size := Nat.le_trans sz64 E69.1
    have sy81 : h0.size ≤ h66.size := Nat.le_trans sy65 E69.1
    show Wk _ p l e _ s m _ below meth c n0 _ h66 3 9 (mkF m 43 #[.val (.int i0), .val (.int i1), .val (.int i2), .val (.int i3), .val (.int i4), .val (.int (0 : Int32)), .val (.ref b2), .val (.ref b30), .unset, .unset, .unset, .unset] [(.ref b67)])
    refine Wk.st (g' := (mkF m 44 #[.val (.int i0), .val (.int i1), .val (.int i2), .val (.int i3), .val (.int i4), .val (.int (0 : Int32)), .val (.ref b2), .val (.ref b30), .unset, .unset, .unset, .unset] [(.ref b67), (.ref b67)])) (fun X t q => XS.dup X.here C.hx rfl (hb C.hby at_43) rfl rfl q) ?_
    refine Wk.st (g' := (mkF m 45 #[.val (.int i0), .val (.int i1), .val (.int i2), .val (.int i3), .val (.int i4), .val (.int (0 : Int32)), .val (.ref b2), .val (.ref b30), .unset, .unset, .unset, .unset] [(.int (0 : Int32)), (.ref b67), (.ref b67)])) (fun X t q => XS.iconst X.here C.hx rfl (hb C.hby at_44) q) ?_
    refine Wk.st (g' := (mkF m 46 #[.val (.int i0), .val (.int i1), .val (.int i2), .val (.int i3), .val (.int i4), .val (.int (0 : Int32)), .val (.ref b2), .val (.ref b30), .unset, .unset, .unset, .unset] [(.int (-1 : Int32)), (.int (0 : Int32)), (.ref b67), (.ref b67)])) (fun X t q => XS.iconst X.here C.hx rfl (hb C.hby at_45) q) ?_
    refine Wk.fStI C F71 (i := 0) (by decide) (by decide) (by decide) ge74 at_46 ?_
    intro h82 W83 F84
    have F85 : Exa Z h82 b2 "[I" := F76.wr W83
    have F86 : Fa Z h82 b2 .int 3 (up (up (up (fun _ => (.int (0 : Int32))) 0 (.int (-1 : Int32))) 1 (.int (0 : Int32))) 2 (.int (0 : Int32))) := F77.other W83 ne72
    have F87 : Exa Z h82 b30 "[I" := F78.wr W83
    have F88 : Fa Z h82 b30 .int 3 (up (up (up (fun _ => (.int (0 : Int32))) 0 (.int i0)) 1 (.int i1)) 2 (.int i2)) := F79.other W83 ne73
    have F89 : Exa Z h82 b67 "[I" := A70.wr W83
    have sz90 : n0 ≤ h82.size := Nat.le_trans sz80 (Nat.le_of_eq W83.size.symm)
    have sy91 : h0.size ≤ h82.size := Nat.le_trans sy81 (Nat.le_of_eq W83.size.symm)
    show Wk _ p l e _ s m _ below meth c n0 _ h82 3 9 (mkF m 47 #[.val (.int i0), .val (.int i1), .val (.int i2), .val (.int i3), .val (.int i4), .val (.int (0 : Int32)), .val (.ref b2), .val (.ref b30), .unset, .unset, .unset, .unset] [(.ref b67)])
    refine Wk.st (g' := (mkF m 48 #[.val (.int i0), .val (.int i1), .val (.int i2), .val (.int i3), .val (.int i4), .val (.int (0 : Int32)), .val (.ref b2), .val (.ref b30), .unset, .unset, .unset, .unset] [(.ref b67), (.ref b67)])) (fun X t q => XS.dup X.here C.hx rfl (hb C.hby at_47) rfl rfl q) ?_
    refine Wk.st (g' := (mkF m 49 #[.val (.int i0), .val (.int i1), .val (.int i2), .val (.int i3), .val (.int i4), .val (.int (0 : Int32)), .val (.ref b2), .val (.ref b30), .unset, .unset, .unset, .unset] [(.int (1 : Int32)), (.ref b67), (.ref b67)])) (fun X t q => XS.iconst X.here C.hx rfl (hb C.hby at_48) q) ?_
    refine Wk.st (g' := (mkF m 50 #[.val (.int i0), .val (.int i1), .val (.int i2), .val (.int i3), .val (.int i4), .val (.int (0 : Int32)), .val (.ref b2), .val (.ref b30), .unset, .unset, .unset, .unset] [(.int (-1 : Int32)), (.int (1 : Int32)), (.ref b67), (.ref b67)])) (fun X t q => XS.iconst X.here C.hx rfl (hb C.hby at_49) q) ?_
    refine Wk.fStI C F84 (i := 1) (by decide) (by decide) (by decide) ge74 at_50 ?_
    intro h92 W93 F94
    have F95 : Exa Z h92 b2 "[I" := F85.wr W93
    have F96 : Fa Z h92 b2 .int 3 (up (up (up (fun _ => (.int (0 : Int32))) 0 (.int (-1 : Int32))) 1 (.int (0 : Int32))) 2 (.int (0 : Int32))) := F86.other W93 ne72
    have F97 : Exa Z h92 b30 "[I" := F87.wr W93
    have F98 : Fa Z h92 b30 .int 3 (up (up (up (fun _ => (.int (0 : Int32))) 0 (.int i0)) 1 (.int i1)) 2 (.int i2)) := F88.other W93 ne73
    have F99 : Exa Z h92 b67 "[I" := F89.wr W93
    have sz100 : n0 ≤ h92.size := Nat.le_trans sz90 (Nat.le_of_eq W93.size.symm)
    have sy101 : h0.size ≤ h92.size := Nat.le_trans sy91 (Nat.le_of_eq W93.size.symm)
    show Wk _ p l e _ s m _ below meth c n0 _ h92 3 9 (mkF m 51 #[.val (.int i0), .val (.int i1), .val (.int i2), .val (.int i3), .val (.int i4), .val (.int (0 : Int32)), .val (.ref b2), .val (.ref b30), .unset, .unset, .unset, .unset] [(.ref b67)])
    refine Wk.st (g' := (mkF m 52 #[.val (.int i0), .val (.int i1), .val (.int i2), .val (.int i3), .val (.int i4), .val (.int (0 : Int32)), .val (.ref b2), .val (.ref b30), .unset, .unset, .unset, .unset] [(.ref b67), (.ref b67)])) (fun X t q => XS.dup X.here C.hx rfl (hb C.hby at_51) rfl rfl q) ?_
    refine Wk.st (g' := (mkF m 53 #[.val (.int i0), .val (.int i1), .val (.int i2), .val (.int i3), .val (.int i4), .val (.int (0 : Int32)), .val (.ref b2), .val (.ref b30), .unset, .unset, .unset, .unset] [(.int (2 : Int32)), (.ref b67), (.ref b67)])) (fun X t q => XS.iconst X.here C.hx rfl (hb C.hby at_52) q) ?_
    refine Wk.st (g' := (mkF m 54 #[.val (.int i0), .val (.int i1), .val (.int i2), .val (.int i3), .val (.int i4), .val (.int (0 : Int32)), .val (.ref b2), .val (.ref b30), .unset, .unset, .unset, .unset] [(.int (-1 : Int32)), (.int (2 : Int32)), (.ref b67), (.ref b67)])) (fun X t q => XS.iconst X.here C.hx rfl (hb C.hby at_53) q) ?_
    refine Wk.fStI C F94 (i := 2) (by decide) (by decide) (by decide) ge74 at_54 ?_
    intro h102 W103 F104
    have F105 : Exa Z h102 b2 "[I" := F95.wr W103
    have F106 : Fa Z h102 b2 .int 3 (up (up (up (fun _ => (.int (0 : Int32))) 0 (.int (-1 : Int32))) 1 (.int (0 : Int32))) 2 (.int (0 : Int32))) := F96.other W103 ne72
    have F107 : Exa Z h102 b30 "[I" := F97.wr W103
    have F108 : Fa Z h102 b30 .int 3 (up (up (up (fun _ => (.int (0 : Int32))) 0 (.int i0)) 1 (.int i1)) 2 (.int i2)) := F98.other W103 ne73
    have F109 : Exa Z h102 b67 "[I" := F99.wr W103
    have sz110 : n0 ≤ h102.size := Nat.le_trans sz100 (Nat.le_of_eq W103.size.symm)
    have sy111 : h0.size ≤ h102.size := Nat.le_trans sy101 (Nat.le_of_eq W103.size.symm)
    show Wk _ p l e _ s m _ below meth c n0 _ h102 3 9 (mkF m 55 #[.val (.int i0), .val (.int i1), .val (.int i2), .val (.int i3), .val (.int i4), .val (.int (0 : Int32)), .val (.ref b2), .val (.ref b30), .unset, .unset, .unset, .unset] [(.ref b67)])
    refine Wk.st (g' := (mkF m 57 #[.val (.int i0), .val (.int i1), .val (.int i2), .val (.int i3), .val (.int i4), .val (.int (0 : Int32)), .val (.ref b2), .val (.ref b30), .val (.ref b67), .unset, .unset, .unset] [])) (fun X t q => XS.astore X.here C.hx rfl (hb C.hby at_55) rfl rfl (l' := #[.val (.int i0), .val (.int i1), .val (.int i2), .val (.int i3), .val (.int i4), .val (.int (0 : Int32)), .val (.ref b2), .val (.ref b30), .val (.ref b67), .unset, .unset, .unset]) rfl q) ?_
    refine Wk.newO C (hw _ (List.mem_of_getElem? (i := 1) rfl)) (hw _ (List.mem_of_getElem? (i := 2) rfl)) (hw _ (List.mem_of_getElem? (i := 3) rfl)) at_57 (by decide) (by decide) ?_
    intro h112 b113 g114 E115 A116 D117
    have ne118 : b2 ≠ b113 := Nat.ne_of_lt (Nat.lt_of_lt_of_le F105.lt (Nat.le_of_eq g114.symm))
    have ne119 : b30 ≠ b113 := Nat.ne_of_lt (Nat.lt_of_lt_of_le F107.lt (Nat.le_of_eq g114.symm))
    have ne120 : b67 ≠ b113 := Nat.ne_of_lt (Nat.lt_of_lt_of_le F109.lt (Nat.le_of_eq g114.symm))
    have ge121 : n0 ≤ b113 := Nat.le_trans sz110 (Nat.le_of_eq g114.symm)
    have gz122 : h0.size ≤ b113 := Nat.le_trans sy111 (Nat.le_of_eq g114.symm)
    have F123 : Exa Z h112 b2 "[I" := F105.ext E115
    have F124 : Fa Z h112 b2 .int 3 (up (up (up (fun _ => (.int (0 : Int32))) 0 (.int (-1 : Int32))) 1 (.int (0 : Int32))) 2 (.int (0 : Int32))) := F106.ext E115
    have F125 : Exa Z h112 b30 "[I" := F107.ext E115
    have F126 : Fa Z h112 b30 .int 3 (up (up (up (fun _ => (.int (0 : Int32))) 0 (.int i0)) 1 (.int i1)) 2 (.int i2)) := F108.ext E115
    have F127 : Exa Z h112 b67 "[I" := F109.ext E115
    have F128 : Fa Z h112 b67 .int 3 (up (up (up (fun _ => (.int (0 : Int32))) 0 (.int (-1 : Int32))) 1 (.int (-1 : Int32))) 2 (.int (-1 : Int32))) := F104.ext E115
    have sz129 : n0 ≤ h112.size := Nat.le_trans sz110 E115.1
    have sy130 : h0.size ≤ h112.size := Nat.le_trans sy111 E115.1
    have F131 : Fld Z h112 b113 "com/example/understory/understory/RootedTree" "parent" "[I" .null := D117 (Or.inr (hw _ (List.mem_of_getElem? (i := 11) rfl))) (ty := (.array .int)) (by decide)
    have F132 : Fld Z h112 b113 "com/example/understory/understory/RootedTree" "states" "[I" .null := D117 (Or.inr (hw _ (List.mem_of_getElem? (i := 13) rfl))) (ty := (.array .int)) (by decide)
    have F133 : Fld Z h112 b113 "com/example/understory/understory/RootedTree" "column" "[I" .null := D117 (Or.inr (hw _ (List.mem_of_getElem? (i := 15) rfl))) (ty := (.array .int)) (by decide)
    have F134 : Fld Z h112 b113 "com/example/understory/understory/RootedTree" "children" "[[I" .null := D117 (Or.inr (hw _ (List.mem_of_getElem? (i := 23) rfl))) (ty := (.array (.array .int))) (by decide)
    have F135 : Fld Z h112 b113 "com/example/understory/understory/RootedTree" "nodeOfColumn" "[I" .null := D117 (Or.inr (hw _ (List.mem_of_getElem? (i := 25) rfl))) (ty := (.array .int)) (by decide)
    show Wk _ p l e _ s m _ below meth c n0 _ h112 4 14 (mkF m 60 #[.val (.int i0), .val (.int i1), .val (.int i2), .val (.int i3), .val (.int i4), .val (.int (0 : Int32)), .val (.ref b2), .val (.ref b30), .val (.ref b67), .unset, .unset, .unset] [(.ref b113)])
    refine Wk.st (g' := (mkF m 61 #[.val (.int i0), .val (.int i1), .val (.int i2), .val (.int i3), .val (.int i4), .val (.int (0 : Int32)), .val (.ref b2), .val (.ref b30), .val (.ref b67), .unset, .unset, .unset] [(.ref b113), (.ref b113)])) (fun X t q => XS.dup X.here C.hx rfl (hb C.hby at_60) rfl rfl q) ?_
    refine Wk.st (g' := (mkF m 63 #[.val (.int i0), .val (.int i1), .val (.int i2), .val (.int i3), .val (.int i4), .val (.int (0 : Int32)), .val (.ref b2), .val (.ref b30), .val (.ref b67), .unset, .unset, .unset] [(.ref b2), (.ref b113), (.ref b113)])) (fun X t q => XS.aload X.here C.hx rfl (hb C.hby at_61) rfl rfl q) ?_
    refine Wk.st (g' := (mkF m 65 #[.val (.int i0), .val (.int i1), .val (.int i2), .val (.int i3), .val (.int i4), .val (.int (0 : Int32)), .val (.ref b2), .val (.ref b30), .val (.ref b67), .unset, .unset, .unset] [(.ref b30), (.ref b2), (.ref b113), (.ref b113)])) (fun X t q => XS.aload X.here C.hx rfl (hb C.hby at_63) rfl rfl q) ?_
    refine Wk.st (g' := (mkF m 67 #[.val (.int i0), .val (.int i1), .val (.int i2), .val (.int i3), .val (.int i4), .val (.int (0 : Int32)), .val (.ref b2), .val (.ref b30), .val (.ref b67), .unset, .unset, .unset] [(.ref b67), (.ref b30), (.ref b2), (.ref b113), (.ref b113)])) (fun X t q => XS.aload X.here C.hx rfl (hb C.hby at_65) rfl rfl q) ?_
    refine Wk.callI C (z := (⟨"com/example/understory/understory/RootedTree", "<init>", "([I[I[I)V"⟩ : MethodName)) rfl (hw _ (List.mem_of_getElem? (i := 4) rfl)) (hw _ (List.mem_of_getElem? (i := 5) rfl)) (hw _ (List.mem_of_getElem? (i := 3) rfl)) (hw _ (List.mem_of_getElem? (i := 6) rfl)) (by decide) (own_1_0 l Z a0 hw n0 h112 sz129 b113 b2 b30 b67 i0 i1 i2 F123 F124 F125 F126 F127 F128 A116 F131 F132 F133 F134 F135 (Ne.symm ne118) (Ne.symm ne119) (Ne.symm ne120) ne35 ne72 ne73 ge121 ge7 ge36 ge74) (w := 1) (by decide) (by decide) pd_0 rfl (rest := [(.ref b113)]) rfl rfl (Nat.le_of_eq rfl) (by decide) (by decide) at_67 ?_
    rintro _ h137 ⟨n136_n52_b34, n136_b138, n136_n52_b51, n136_n52_b84, n136_n52_b122, rfl, K138, gn154, gn155, gn156, gn157, gn158, ne159, ne160, ne161, ne162, ne163, ne164, ne165, ne166, ne167, ne168, F139, F140, F141, F142, F143, F144, F145, F146, F147, F148, F149, F150, F151, F152, F153⟩
    show Wk _ p l e _ s m _ below meth c n0 _ h137 11 25 (mkF m 70 #[.val (.int i0), .val (.int i1), .val (.int i2), .val (.int i3), .val (.int i4), .val (.int (0 : Int32)), .val (.ref b2), .val (.ref b30), .val (.ref b67), .unset, .unset, .unset] [(.ref b113)])
    have ne169 : b2 ≠ n136_n52_b34 := Nat.ne_of_lt (Nat.lt_of_lt_of_le F123.lt gn154)
    have ne170 : b30 ≠ n136_n52_b34 := Nat.ne_of_lt (Nat.lt_of_lt_of_le F125.lt gn154)
    have ne171 : b67 ≠ n136_n52_b34 := Nat.ne_of_lt (Nat.lt_of_lt_of_le F127.lt gn154)
    have ne172 : b113 ≠ n136_n52_b34 := Nat.ne_of_lt (Nat.lt_of_lt_of_le A116.lt gn154)
    have ge173 : n0 ≤ n136_n52_b34 := Nat.le_trans sz129 gn154
    have gz174 : h0.size ≤ n136_n52_b34 := Nat.le_trans sy130 gn154
    have ne175 : b2 ≠ n136_b138 := Nat.ne_of_lt (Nat.lt_of_lt_of_le F123.lt gn155)
    have ne176 : b30 ≠ n136_b138 := Nat.ne_of_lt (Nat.lt_of_lt_of_le F125.lt gn155)
    have ne177 : b67 ≠ n136_b138 := Nat.ne_of_lt (Nat.lt_of_lt_of_le F127.lt gn155)
    have ne178 : b113 ≠ n136_b138 := Nat.ne_of_lt (Nat.lt_of_lt_of_le A116.lt gn155)
    have ge179 : n0 ≤ n136_b138 := Nat.le_trans sz129 gn155
    have gz180 : h0.size ≤ n136_b138 := Nat.le_trans sy130 gn155
    have ne181 : b2 ≠ n136_n52_b51 := Nat.ne_of_lt (Nat.lt_of_lt_of_le F123.lt gn156)
    have ne182 : b30 ≠ n136_n52_b51 := Nat.ne_of_lt (Nat.lt_of_lt_of_le F125.lt gn156)
    have ne183 : b67 ≠ n136_n52_b51 := Nat.ne_of_lt (Nat.lt_of_lt_of_le F127.lt gn156)
    have ne184 : b113 ≠ n136_n52_b51 := Nat.ne_of_lt (Nat.lt_of_lt_of_le A116.lt gn156)
    have ge185 : n0 ≤ n136_n52_b51 := Nat.le_trans sz129 gn156
    have gz186 : h0.size ≤ n136_n52_b51 := Nat.le_trans sy130 gn156
    have ne187 : b2 ≠ n136_n52_b84 := Nat.ne_of_lt (Nat.lt_of_lt_of_le F123.lt gn157)
    have ne188 : b30 ≠ n136_n52_b84 := Nat.ne_of_lt (Nat.lt_of_lt_of_le F125.lt gn157)
    have ne189 : b67 ≠ n136_n52_b84 := Nat.ne_of_lt (Nat.lt_of_lt_of_le F127.lt gn157)
    have ne190 : b113 ≠ n136_n52_b84 := Nat.ne_of_lt (Nat.lt_of_lt_of_le A116.lt gn157)
    have ge191 : n0 ≤ n136_n52_b84 := Nat.le_trans sz129 gn157
    have gz192 : h0.size ≤ n136_n52_b84 := Nat.le_trans sy130 gn157
    have ne193 : b2 ≠ n136_n52_b122 := Nat.ne_of_lt (Nat.lt_of_lt_of_le F123.lt gn158)
    have ne194 : b30 ≠ n136_n52_b122 := Nat.ne_of_lt (Nat.lt_of_lt_of_le F125.lt gn158)
    have ne195 : b67 ≠ n136_n52_b122 := Nat.ne_of_lt (Nat.lt_of_lt_of_le F127.lt gn158)
    have ne196 : b113 ≠ n136_n52_b122 := Nat.ne_of_lt (Nat.lt_of_lt_of_le A116.lt gn158)
    have ge197 : n0 ≤ n136_n52_b122 := Nat.le_trans sz129 gn158
    have gz198 : h0.size ≤ n136_n52_b122 := Nat.le_trans sy130 gn158
    have F199 : Exa Z h137 b2 "[I" := F123.keep K138
    have F200 : Fa Z h137 b2 .int 3 (up (up (up (fun _ => (.int (0 : Int32))) 0 (.int (-1 : Int32))) 1 (.int (0 : Int32))) 2 (.int (0 : Int32))) := F124.keep K138 (nmS ne118 nm0)
    have F201 : Exa Z h137 b30 "[I" := F125.keep K138
    have F202 : Fa Z h137 b30 .int 3 (up (up (up (fun _ => (.int (0 : Int32))) 0 (.int i0)) 1 (.int i1)) 2 (.int i2)) := F126.keep K138 (nmS ne119 nm0)
    have F203 : Exa Z h137 b67 "[I" := F127.keep K138
    have F204 : Fa Z h137 b67 .int 3 (up (up (up (fun _ => (.int (0 : Int32))) 0 (.int (-1 : Int32))) 1 (.int (-1 : Int32))) 2 (.int (-1 : Int32))) := F128.keep K138 (nmS ne120 nm0)
    have F205 : Exa Z h137 b113 "com/example/understory/understory/RootedTree" := A116.keep K138
    have sz206 : n0 ≤ h137.size := Nat.le_trans sz129 K138.1
    have sy207 : h0.size ≤ h137.size := Nat.le_trans sy130 K138.1
    refine Wk.st (g' := (mkF m 72 #[.val (.int i0), .val (.int i1), .val (.int i2), .val (.int i3), .val (.int i4), .val (.int (0 : Int32)), .val (.ref b2), .val (.ref b30), .val (.ref b67), .val (.ref b113), .unset, .unset] [])) (fun X t q => XS.astore X.here C.hx rfl (hb C.hby at_70) rfl rfl (l' := #[.val (.int i0), .val (.int i1), .val (.int i2), .val (.int i3), .val (.int i4), .val (.int (0 : Int32)), .val (.ref b2), .val (.ref b30), .val (.ref b67), .val (.ref b113), .unset, .unset]) rfl q) ?_
    refine Wk.st (g' := (mkF m 74 #[.val (.int i0), .val (.int i1), .val (.int i2), .val (.int i3), .val (.int i4), .val (.int (0 : Int32)), .val (.ref b2), .val (.ref b30), .val (.ref b67), .val (.ref b113), .unset, .unset] [(.int i4)])) (fun X t q => XS.iload X.here C.hx rfl (hb C.hby at_72) rfl q) ?_
    refine Wk.ldcI C (hw _ (List.mem_of_getElem? (i := 26) rfl)) at_74 ?_
    show Wk _ p l e _ s m _ below meth c n0 _ h137 11 25 (mkF m 76 #[.val (.int i0), .val (.int i1), .val (.int i2), .val (.int i3), .val (.int i4), .val (.int (0 : Int32)), .val (.ref b2), .val (.ref b30), .val (.ref b67), .val (.ref b113), .unset, .unset] [(.int (2147483647 : Int32)), (.int i4)])
    refine Wk.st (g' := (mkF m 77 #[.val (.int i0), .val (.int i1), .val (.int i2), .val (.int i3), .val (.int i4), .val (.int (0 : Int32)), .val (.ref b2), .val (.ref b30), .val (.ref b67), .val (.ref b113), .unset, .unset] [(.int (i4 &&& (2147483647 : Int32)))])) (fun X t q => XS.iand X.here C.hx rfl (hb C.hby at_76) rfl q) ?_
    refine Wk.st (g' := (mkF m 78 #[.val (.int i0), .val (.int i1), .val (.int i2), .val (.int i3), .val (.int i4), .val (.int (0 : Int32)), .val (.ref b2), .val (.ref b30), .val (.ref b67), .val (.ref b113), .unset, .unset] [(.int (3 : Int32)), (.int (i4 &&& (2147483647 : Int32)))])) (fun X t q => XS.iconst X.here C.hx rfl (hb C.hby at_77) q) ?_
    refine Wk.st (g' := (mkF m 79 #[.val (.int i0), .val (.int i1), .val (.int i2), .val (.int i3), .val (.int i4), .val (.int (0 : Int32)), .val (.ref b2), .val (.ref b30), .val (.ref b67), .val (.ref b113), .unset, .unset] [(.int ((i4 &&& (2147483647 : Int32)) % (3 : Int32)))])) (fun X t q => iremM X C.hx rfl (hb C.hby at_78) rfl (by decide) q) ?_
    refine Wk.st (g' := (mkF m 81 #[.val (.int i0), .val (.int i1), .val (.int i2), .val (.int i3), .val (.int i4), .val (.int (0 : Int32)), .val (.ref b2), .val (.ref b30), .val (.ref b67), .val (.ref b113), .val (.int ((i4 &&& (2147483647 : Int32)) % (3 : Int32))), .unset] [])) (fun X t q => XS.istore X.here C.hx rfl (hb C.hby at_79) rfl (l' := #[.val (.int i0), .val (.int i1), .val (.int i2), .val (.int i3), .val (.int i4), .val (.int (0 : Int32)), .val (.ref b2), .val (.ref b30), .val (.ref b67), .val (.ref b113), .val (.int ((i4 &&& (2147483647 : Int32)) % (3 : Int32))), .unset]) rfl q) ?_
    rcases mod3 i4 with hi | hi | hi <;> rw [hi]
    · skip
      show Wk _ p l e _ s m _ below meth c n0 _ h137 11 25 (mkF m 81 #[.val (.int i0), .val (.int i1), .val (.int i2), .val (.int i3), .val (.int i4), .val (.int (0 : Int32)), .val (.ref b2), .val (.ref b30), .val (.ref b67), .val (.ref b113), .val (.int (0 : Int32)), .unset] [])
      refine Wk.st (g' := (mkF m 83 #[.val (.int i0), .val (.int i1), .val (.int i2), .val (.int i3), .val (.int i4), .val (.int (0 : Int32)), .val (.ref b2), .val (.ref b30), .val (.ref b67), .val (.ref b113), .val (.int (0 : Int32)), .unset] [(.int (0 : Int32))])) (fun X t q => XS.iload X.here C.hx rfl (hb C.hby at_81) rfl q) ?_
      refine Wk.st (g' := (mkF m 86 #[.val (.int i0), .val (.int i1), .val (.int i2), .val (.int i3), .val (.int i4), .val (.int (0 : Int32)), .val (.ref b2), .val (.ref b30), .val (.ref b67), .val (.ref b113), .val (.int (0 : Int32)), .unset] [])) (fun X t q => XS.ifNo X.here C.hx rfl (hb C.hby at_83) rfl (XT.i0_ne_f (by decide)) q) ?_
      refine Wk.st (g' := (mkF m 87 #[.val (.int i0), .val (.int i1), .val (.int i2), .val (.int i3), .val (.int i4), .val (.int (0 : Int32)), .val (.ref b2), .val (.ref b30), .val (.ref b67), .val (.ref b113), .val (.int (0 : Int32)), .unset] [(.int (1 : Int32))])) (fun X t q => XS.iconst X.here C.hx rfl (hb C.hby at_86) q) ?_
      refine Wk.st (g' := (mkF m 89 #[.val (.int i0), .val (.int i1), .val (.int i2), .val (.int i3), .val (.int i4), .val (.int (0 : Int32)), .val (.ref b2), .val (.ref b30), .val (.ref b67), .val (.ref b113), .val (.int (0 : Int32)), .val (.int (1 : Int32))] [])) (fun X t q => XS.istore X.here C.hx rfl (hb C.hby at_87) rfl (l' := #[.val (.int i0), .val (.int i1), .val (.int i2), .val (.int i3), .val (.int i4), .val (.int (0 : Int32)), .val (.ref b2), .val (.ref b30), .val (.ref b67), .val (.ref b113), .val (.int (0 : Int32)), .val (.int (1 : Int32))]) rfl q) ?_
      refine Wk.st (g' := (mkF m 118 #[.val (.int i0), .val (.int i1), .val (.int i2), .val (.int i3), .val (.int i4), .val (.int (0 : Int32)), .val (.ref b2), .val (.ref b30), .val (.ref b67), .val (.ref b113), .val (.int (0 : Int32)), .val (.int (1 : Int32))] [])) (fun X t q => XS.goto X.here C.hx rfl (pc0 := 89) (pc' := 118) rfl (hb C.hby at_89) (by decide) (by decide) q) ?_
      refine Wk.st (g' := (mkF m 120 #[.val (.int i0), .val (.int i1), .val (.int i2), .val (.int i3), .val (.int i4), .val (.int (0 : Int32)), .val (.ref b2), .val (.ref b30), .val (.ref b67), .val (.ref b113), .val (.int (0 : Int32)), .val (.int (1 : Int32))] [(.ref b113)])) (fun X t q => XS.aload X.here C.hx rfl (hb C.hby at_118) rfl rfl q) ?_
      refine Wk.st (g' := (mkF m 122 #[.val (.int i0), .val (.int i1), .val (.int i2), .val (.int i3), .val (.int i4), .val (.int (0 : Int32)), .val (.ref b2), .val (.ref b30), .val (.ref b67), .val (.ref b113), .val (.int (0 : Int32)), .val (.int (1 : Int32))] [(.int (0 : Int32)), (.ref b113)])) (fun X t q => XS.iload X.here C.hx rfl (hb C.hby at_120) rfl q) ?_
      refine Wk.callV C (x := (⟨"com/example/understory/understory/RootedTree", "parentStates", "(I)I"⟩ : MethodName)) (z := (⟨"com/example/understory/understory/RootedTree", "parentStates", "(I)I"⟩ : MethodName)) (K := "com/example/understory/understory/RootedTree") (hw _ (List.mem_of_getElem? (i := 27) rfl)) (hw _ (List.mem_of_getElem? (i := 28) rfl)) (hw _ (List.mem_of_getElem? (i := 30) rfl)) (hw _ (List.mem_of_getElem? (i := 29) rfl)) (hw _ (List.mem_of_getElem? (i := 3) rfl)) (hw _ (List.mem_of_getElem? (i := 31) rfl)) (by decide) (fun s' hZ' => notFace_of_selects (args := #[]) (mvT hZ' (hw _ (List.mem_of_getElem? (i := 30) rfl)))) F205 (own_4_2 l Z a0 hw n0 h137 sz206 b113 b2 b30 b67 n136_n52_b34 n136_b138 n136_n52_b51 n136_n52_b84 n136_n52_b122 i0 i1 i2 F199 F200 F201 F202 F203 F204 F205 F139 F140 F141 F142 F143 F144 F145 F146 F147 F148 F149 F150 F151 F152 F153 (Ne.symm ne118) (Ne.symm ne119) (Ne.symm ne120) ne172 ne178 ne184 ne190 ne196 ne35 ne72 ne169 ne175 ne181 ne187 ne193 ne73 ne170 ne176 ne182 ne188 ne194 ne171 ne177 ne183 ne189 ne195 ne159 ne160 ne161 ne162 ne163 ne164 ne165 ne166 ne167 ne168 ge121 ge7 ge36 ge74 ge173 ge179 ge185 ge191 ge197) (w := 0) (by decide) (by decide) pd_2 rfl (rest := []) rfl rfl (Nat.le_of_eq rfl) (by decide) (by decide) at_122 ?_
      rintro _ _ ⟨rfl, rfl⟩
      show Wk _ p l e _ s m _ below meth c n0 _ h137 11 25 (mkF m 125 #[.val (.int i0), .val (.int i1), .val (.int i2), .val (.int i3), .val (.int i4), .val (.int (0 : Int32)), .val (.ref b2), .val (.ref b30), .val (.ref b67), .val (.ref b113), .val (.int (0 : Int32)), .val (.int (1 : Int32))] [(.int (1 : Int32))])
      refine Wk.st (g' := (mkF m 127 #[.val (.int i0), .val (.int i1), .val (.int i2), .val (.int i3), .val (.int i4), .val (.int (0 : Int32)), .val (.ref b2), .val (.ref b30), .val (.ref b67), .val (.ref b113), .val (.int (0 : Int32)), .val (.int (1 : Int32))] [(.int (1 : Int32)), (.int (1 : Int32))])) (fun X t q => XS.iload X.here C.hx rfl (hb C.hby at_125) rfl q) ?_
      refine Wk.st (g' := (mkF m 130 #[.val (.int i0), .val (.int i1), .val (.int i2), .val (.int i3), .val (.int i4), .val (.int (0 : Int32)), .val (.ref b2), .val (.ref b30), .val (.ref b67), .val (.ref b113), .val (.int (0 : Int32)), .val (.int (1 : Int32))] [])) (fun X t q => XS.icmpNo X.here C.hx rfl (hb C.hby at_127) rfl (XT.ii_ne_f (by decide)) q) ?_
      refine Wk.st (g' := (mkF m 131 #[.val (.int i0), .val (.int i1), .val (.int i2), .val (.int i3), .val (.int i4), .val (.int (0 : Int32)), .val (.ref b2), .val (.ref b30), .val (.ref b67), .val (.ref b113), .val (.int (0 : Int32)), .val (.int (1 : Int32))] [(.int (1 : Int32))])) (fun X t q => XS.iconst X.here C.hx rfl (hb C.hby at_130) q) ?_
      refine Wk.st (g' := (mkF m 135 #[.val (.int i0), .val (.int i1), .val (.int i2), .val (.int i3), .val (.int i4), .val (.int (0 : Int32)), .val (.ref b2), .val (.ref b30), .val (.ref b67), .val (.ref b113), .val (.int (0 : Int32)), .val (.int (1 : Int32))] [(.int (1 : Int32))])) (fun X t q => XS.goto X.here C.hx rfl (pc0 := 131) (pc' := 135) rfl (hb C.hby at_131) (by decide) (by decide) q) ?_
      exact Wk.retV C (t := .boolean) rfl rfl (Or.inl ⟨rfl, by simp, _, rfl⟩) at_135 (by decide) (by decide) ⟨rfl, trivial⟩
    · skip
      show Wk _ p l e _ s m _ below meth c n0 _ h137 11 25 (mkF m 81 #[.val (.int i0), .val (.int i1), .val (.int i2), .val (.int i3), .val (.int i4), .val (.int (0 : Int32)), .val (.ref b2), .val (.ref b30), .val (.ref b67), .val (.ref b113), .val (.int (1 : Int32)), .unset] [])
      refine Wk.st (g' := (mkF m 83 #[.val (.int i0), .val (.int i1), .val (.int i2), .val (.int i3), .val (.int i4), .val (.int (0 : Int32)), .val (.ref b2), .val (.ref b30), .val (.ref b67), .val (.ref b113), .val (.int (1 : Int32)), .unset] [(.int (1 : Int32))])) (fun X t q => XS.iload X.here C.hx rfl (hb C.hby at_81) rfl q) ?_
      refine Wk.st (g' := (mkF m 92 #[.val (.int i0), .val (.int i1), .val (.int i2), .val (.int i3), .val (.int i4), .val (.int (0 : Int32)), .val (.ref b2), .val (.ref b30), .val (.ref b67), .val (.ref b113), .val (.int (1 : Int32)), .unset] [])) (fun X t q => XS.ifYes X.here C.hx rfl (pc0 := 83) (pc' := 92) rfl (hb C.hby at_83) rfl (XT.i0_ne_t (by decide)) (by decide) (by decide) q) ?_
      refine Wk.st (g' := (mkF m 94 #[.val (.int i0), .val (.int i1), .val (.int i2), .val (.int i3), .val (.int i4), .val (.int (0 : Int32)), .val (.ref b2), .val (.ref b30), .val (.ref b67), .val (.ref b113), .val (.int (1 : Int32)), .unset] [(.int (1 : Int32))])) (fun X t q => XS.iload X.here C.hx rfl (hb C.hby at_92) rfl q) ?_
      refine Wk.st (g' := (mkF m 95 #[.val (.int i0), .val (.int i1), .val (.int i2), .val (.int i3), .val (.int i4), .val (.int (0 : Int32)), .val (.ref b2), .val (.ref b30), .val (.ref b67), .val (.ref b113), .val (.int (1 : Int32)), .unset] [(.int (1 : Int32)), (.int (1 : Int32))])) (fun X t q => XS.iconst X.here C.hx rfl (hb C.hby at_94) q) ?_
      refine Wk.st (g' := (mkF m 98 #[.val (.int i0), .val (.int i1), .val (.int i2), .val (.int i3), .val (.int i4), .val (.int (0 : Int32)), .val (.ref b2), .val (.ref b30), .val (.ref b67), .val (.ref b113), .val (.int (1 : Int32)), .unset] [])) (fun X t q => XS.icmpNo X.here C.hx rfl (hb C.hby at_95) rfl (XT.ii_ne_f (by decide)) q) ?_
      refine Wk.st (g' := (mkF m 99 #[.val (.int i0), .val (.int i1), .val (.int i2), .val (.int i3), .val (.int i4), .val (.int (0 : Int32)), .val (.ref b2), .val (.ref b30), .val (.ref b67), .val (.ref b113), .val (.int (1 : Int32)), .unset] [(.int i0)])) (fun X t q => XS.iloadN X.here C.hx rfl (hb C.hby at_98) rfl q) ?_
      refine Wk.st (g' := (mkF m 101 #[.val (.int i0), .val (.int i1), .val (.int i2), .val (.int i3), .val (.int i4), .val (.int (0 : Int32)), .val (.ref b2), .val (.ref b30), .val (.ref b67), .val (.ref b113), .val (.int (1 : Int32)), .val (.int i0)] [])) (fun X t q => XS.istore X.here C.hx rfl (hb C.hby at_99) rfl (l' := #[.val (.int i0), .val (.int i1), .val (.int i2), .val (.int i3), .val (.int i4), .val (.int (0 : Int32)), .val (.ref b2), .val (.ref b30), .val (.ref b67), .val (.ref b113), .val (.int (1 : Int32)), .val (.int i0)]) rfl q) ?_
      refine Wk.st (g' := (mkF m 118 #[.val (.int i0), .val (.int i1), .val (.int i2), .val (.int i3), .val (.int i4), .val (.int (0 : Int32)), .val (.ref b2), .val (.ref b30), .val (.ref b67), .val (.ref b113), .val (.int (1 : Int32)), .val (.int i0)] [])) (fun X t q => XS.goto X.here C.hx rfl (pc0 := 101) (pc' := 118) rfl (hb C.hby at_101) (by decide) (by decide) q) ?_
      refine Wk.st (g' := (mkF m 120 #[.val (.int i0), .val (.int i1), .val (.int i2), .val (.int i3), .val (.int i4), .val (.int (0 : Int32)), .val (.ref b2), .val (.ref b30), .val (.ref b67), .val (.ref b113), .val (.int (1 : Int32)), .val (.int i0)] [(.ref b113)])) (fun X t q => XS.aload X.here C.hx rfl (hb C.hby at_118) rfl rfl q) ?_
      refine Wk.st (g' := (mkF m 122 #[.val (.int i0), .val (.int i1), .val (.int i2), .val (.int i3), .val (.int i4), .val (.int (0 : Int32)), .val (.ref b2), .val (.ref b30), .val (.ref b67), .val (.ref b113), .val (.int (1 : Int32)), .val (.int i0)] [(.int (1 : Int32)), (.ref b113)])) (fun X t q => XS.iload X.here C.hx rfl (hb C.hby at_120) rfl q) ?_
      refine Wk.callV C (x := (⟨"com/example/understory/understory/RootedTree", "parentStates", "(I)I"⟩ : MethodName)) (z := (⟨"com/example/understory/understory/RootedTree", "parentStates", "(I)I"⟩ : MethodName)) (K := "com/example/understory/understory/RootedTree") (hw _ (List.mem_of_getElem? (i := 27) rfl)) (hw _ (List.mem_of_getElem? (i := 28) rfl)) (hw _ (List.mem_of_getElem? (i := 30) rfl)) (hw _ (List.mem_of_getElem? (i := 29) rfl)) (hw _ (List.mem_of_getElem? (i := 3) rfl)) (hw _ (List.mem_of_getElem? (i := 31) rfl)) (by decide) (fun s' hZ' => notFace_of_selects (args := #[]) (mvT hZ' (hw _ (List.mem_of_getElem? (i := 30) rfl)))) F205 (own_4_3 l Z a0 hw n0 h137 sz206 b113 b2 b30 b67 n136_n52_b34 n136_b138 n136_n52_b51 n136_n52_b84 n136_n52_b122 i0 i1 i2 F199 F200 F201 F202 F203 F204 F205 F139 F140 F141 F142 F143 F144 F145 F146 F147 F148 F149 F150 F151 F152 F153 (Ne.symm ne118) (Ne.symm ne119) (Ne.symm ne120) ne172 ne178 ne184 ne190 ne196 ne35 ne72 ne169 ne175 ne181 ne187 ne193 ne73 ne170 ne176 ne182 ne188 ne194 ne171 ne177 ne183 ne189 ne195 ne159 ne160 ne161 ne162 ne163 ne164 ne165 ne166 ne167 ne168 ge121 ge7 ge36 ge74 ge173 ge179 ge185 ge191 ge197) (w := 0) (by decide) (by decide) pd_2 rfl (rest := []) rfl rfl (Nat.le_of_eq rfl) (by decide) (by decide) at_122 ?_
      rintro _ _ ⟨rfl, rfl⟩
      show Wk _ p l e _ s m _ below meth c n0 _ h137 11 25 (mkF m 125 #[.val (.int i0), .val (.int i1), .val (.int i2), .val (.int i3), .val (.int i4), .val (.int (0 : Int32)), .val (.ref b2), .val (.ref b30), .val (.ref b67), .val (.ref b113), .val (.int (1 : Int32)), .val (.int i0)] [(.int i0)])
      refine Wk.st (g' := (mkF m 127 #[.val (.int i0), .val (.int i1), .val (.int i2), .val (.int i3), .val (.int i4), .val (.int (0 : Int32)), .val (.ref b2), .val (.ref b30), .val (.ref b67), .val (.ref b113), .val (.int (1 : Int32)), .val (.int i0)] [(.int i0), (.int i0)])) (fun X t q => XS.iload X.here C.hx rfl (hb C.hby at_125) rfl q) ?_
      refine Wk.st (g' := (mkF m 130 #[.val (.int i0), .val (.int i1), .val (.int i2), .val (.int i3), .val (.int i4), .val (.int (0 : Int32)), .val (.ref b2), .val (.ref b30), .val (.ref b67), .val (.ref b113), .val (.int (1 : Int32)), .val (.int i0)] [])) (fun X t q => XS.icmpNo X.here C.hx rfl (hb C.hby at_127) rfl (XT.ii_ne_f rfl) q) ?_
      refine Wk.st (g' := (mkF m 131 #[.val (.int i0), .val (.int i1), .val (.int i2), .val (.int i3), .val (.int i4), .val (.int (0 : Int32)), .val (.ref b2), .val (.ref b30), .val (.ref b67), .val (.ref b113), .val (.int (1 : Int32)), .val (.int i0)] [(.int (1 : Int32))])) (fun X t q => XS.iconst X.here C.hx rfl (hb C.hby at_130) q) ?_
      refine Wk.st (g' := (mkF m 135 #[.val (.int i0), .val (.int i1), .val (.int i2), .val (.int i3), .val (.int i4), .val (.int (0 : Int32)), .val (.ref b2), .val (.ref b30), .val (.ref b67), .val (.ref b113), .val (.int (1 : Int32)), .val (.int i0)] [(.int (1 : Int32))])) (fun X t q => XS.goto X.here C.hx rfl (pc0 := 131) (pc' := 135) rfl (hb C.hby at_131) (by decide) (by decide) q) ?_
      exact Wk.retV C (t := .boolean) rfl rfl (Or.inl ⟨rfl, by simp, _, rfl⟩) at_135 (by decide) (by decide) ⟨rfl, trivial⟩
    · skip
      show Wk _ p l e _ s m _ below meth c n0 _ h137 11 25 (mkF m 81 #[.val (.int i0), .val (.int i1), .val (.int i2), .val (.int i3), .val (.int i4), .val (.int (0 : Int32)), .val (.ref b2), .val (.ref b30), .val (.ref b67), .val (.ref b113), .val (.int (2 : Int32)), .unset] [])
      refine Wk.st (g' := (mkF m 83 #[.val (.int i0), .val (.int i1), .val (.int i2), .val (.int i3), .val (.int i4), .val (.int (0 : Int32)), .val (.ref b2), .val (.ref b30), .val (.ref b67), .val (.ref b113), .val (.int (2 : Int32)), .unset] [(.int (2 : Int32))])) (fun X t q => XS.iload X.here C.hx rfl (hb C.hby at_81) rfl q) ?_
      refine Wk.st (g' := (mkF m 92 #[.val (.int i0), .val (.int i1), .val (.int i2), .val (.int i3), .val (.int i4), .val (.int (0 : Int32)), .val (.ref b2), .val (.ref b30), .val (.ref b67), .val (.ref b113), .val (.int (2 : Int32)), .unset] [])) (fun X t q => XS.ifYes X.here C.hx rfl (pc0 := 83) (pc' := 92) rfl (hb C.hby at_83) rfl (XT.i0_ne_t (by decide)) (by decide) (by decide) q) ?_
      refine Wk.st (g' := (mkF m 94 #[.val (.int i0), .val (.int i1), .val (.int i2), .val (.int i3), .val (.int i4), .val (.int (0 : Int32)), .val (.ref b2), .val (.ref b30), .val (.ref b67), .val (.ref b113), .val (.int (2 : Int32)), .unset] [(.int (2 : Int32))])) (fun X t q => XS.iload X.here C.hx rfl (hb C.hby at_92) rfl q) ?_
      refine Wk.st (g' := (mkF m 95 #[.val (.int i0), .val (.int i1), .val (.int i2), .val (.int i3), .val (.int i4), .val (.int (0 : Int32)), .val (.ref b2), .val (.ref b30), .val (.ref b67), .val (.ref b113), .val (.int (2 : Int32)), .unset] [(.int (1 : Int32)), (.int (2 : Int32))])) (fun X t q => XS.iconst X.here C.hx rfl (hb C.hby at_94) q) ?_
      refine Wk.st (g' := (mkF m 104 #[.val (.int i0), .val (.int i1), .val (.int i2), .val (.int i3), .val (.int i4), .val (.int (0 : Int32)), .val (.ref b2), .val (.ref b30), .val (.ref b67), .val (.ref b113), .val (.int (2 : Int32)), .unset] [])) (fun X t q => XS.icmpYes X.here C.hx rfl (pc0 := 95) (pc' := 104) rfl (hb C.hby at_95) rfl (XT.ii_ne_t (by decide)) (by decide) (by decide) q) ?_
      refine Wk.st (g' := (mkF m 106 #[.val (.int i0), .val (.int i1), .val (.int i2), .val (.int i3), .val (.int i4), .val (.int (0 : Int32)), .val (.ref b2), .val (.ref b30), .val (.ref b67), .val (.ref b113), .val (.int (2 : Int32)), .unset] [(.int (0 : Int32))])) (fun X t q => XS.iload X.here C.hx rfl (hb C.hby at_104) rfl q) ?_
      refine Wk.st (g' := (mkF m 109 #[.val (.int i0), .val (.int i1), .val (.int i2), .val (.int i3), .val (.int i4), .val (.int (0 : Int32)), .val (.ref b2), .val (.ref b30), .val (.ref b67), .val (.ref b113), .val (.int (2 : Int32)), .unset] [])) (fun X t q => XS.ifNo X.here C.hx rfl (hb C.hby at_106) rfl (XT.i0_ne_f (by decide)) q) ?_
      refine Wk.st (g' := (mkF m 110 #[.val (.int i0), .val (.int i1), .val (.int i2), .val (.int i3), .val (.int i4), .val (.int (0 : Int32)), .val (.ref b2), .val (.ref b30), .val (.ref b67), .val (.ref b113), .val (.int (2 : Int32)), .unset] [(.int i0)])) (fun X t q => XS.iloadN X.here C.hx rfl (hb C.hby at_109) rfl q) ?_
      refine Wk.st (g' := (mkF m 112 #[.val (.int i0), .val (.int i1), .val (.int i2), .val (.int i3), .val (.int i4), .val (.int (0 : Int32)), .val (.ref b2), .val (.ref b30), .val (.ref b67), .val (.ref b113), .val (.int (2 : Int32)), .val (.int i0)] [])) (fun X t q => XS.istore X.here C.hx rfl (hb C.hby at_110) rfl (l' := #[.val (.int i0), .val (.int i1), .val (.int i2), .val (.int i3), .val (.int i4), .val (.int (0 : Int32)), .val (.ref b2), .val (.ref b30), .val (.ref b67), .val (.ref b113), .val (.int (2 : Int32)), .val (.int i0)]) rfl q) ?_
      refine Wk.st (g' := (mkF m 118 #[.val (.int i0), .val (.int i1), .val (.int i2), .val (.int i3), .val (.int i4), .val (.int (0 : Int32)), .val (.ref b2), .val (.ref b30), .val (.ref b67), .val (.ref b113), .val (.int (2 : Int32)), .val (.int i0)] [])) (fun X t q => XS.goto X.here C.hx rfl (pc0 := 112) (pc' := 118) rfl (hb C.hby at_112) (by decide) (by decide) q) ?_
      refine Wk.st (g' := (mkF m 120 #[.val (.int i0), .val (.int i1), .val (.int i2), .val (.int i3), .val (.int i4), .val (.int (0 : Int32)), .val (.ref b2), .val (.ref b30), .val (.ref b67), .val (.ref b113), .val (.int (2 : Int32)), .val (.int i0)] [(.ref b113)])) (fun X t q => XS.aload X.here C.hx rfl (hb C.hby at_118) rfl rfl q) ?_
      refine Wk.st (g' := (mkF m 122 #[.val (.int i0), .val (.int i1), .val (.int i2), .val (.int i3), .val (.int i4), .val (.int (0 : Int32)), .val (.ref b2), .val (.ref b30), .val (.ref b67), .val (.ref b113), .val (.int (2 : Int32)), .val (.int i0)] [(.int (2 : Int32)), (.ref b113)])) (fun X t q => XS.iload X.here C.hx rfl (hb C.hby at_120) rfl q) ?_
      refine Wk.callV C (x := (⟨"com/example/understory/understory/RootedTree", "parentStates", "(I)I"⟩ : MethodName)) (z := (⟨"com/example/understory/understory/RootedTree", "parentStates", "(I)I"⟩ : MethodName)) (K := "com/example/understory/understory/RootedTree") (hw _ (List.mem_of_getElem? (i := 27) rfl)) (hw _ (List.mem_of_getElem? (i := 28) rfl)) (hw _ (List.mem_of_getElem? (i := 30) rfl)) (hw _ (List.mem_of_getElem? (i := 29) rfl)) (hw _ (List.mem_of_getElem? (i := 3) rfl)) (hw _ (List.mem_of_getElem? (i := 31) rfl)) (by decide) (fun s' hZ' => notFace_of_selects (args := #[]) (mvT hZ' (hw _ (List.mem_of_getElem? (i := 30) rfl)))) F205 (own_4_4 l Z a0 hw n0 h137 sz206 b113 b2 b30 b67 n136_n52_b34 n136_b138 n136_n52_b51 n136_n52_b84 n136_n52_b122 i0 i1 i2 F199 F200 F201 F202 F203 F204 F205 F139 F140 F141 F142 F143 F144 F145 F146 F147 F148 F149 F150 F151 F152 F153 (Ne.symm ne118) (Ne.symm ne119) (Ne.symm ne120) ne172 ne178 ne184 ne190 ne196 ne35 ne72 ne169 ne175 ne181 ne187 ne193 ne73 ne170 ne176 ne182 ne188 ne194 ne171 ne177 ne183 ne189 ne195 ne159 ne160 ne161 ne162 ne163 ne164 ne165 ne166 ne167 ne168 ge121 ge7 ge36 ge74 ge173 ge179 ge185 ge191 ge197) (w := 0) (by decide) (by decide) pd_2 rfl (rest := []) rfl rfl (Nat.le_of_eq rfl) (by decide) (by decide) at_122 ?_
      rintro _ _ ⟨rfl, rfl⟩
      show Wk _ p l e _ s m _ below meth c n0 _ h137 11 25 (mkF m 125 #[.val (.int i0), .val (.int i1), .val (.int i2), .val (.int i3), .val (.int i4), .val (.int (0 : Int32)), .val (.ref b2), .val (.ref b30), .val (.ref b67), .val (.ref b113), .val (.int (2 : Int32)), .val (.int i0)] [(.int i0)])
      refine Wk.st (g' := (mkF m 127 #[.val (.int i0), .val (.int i1), .val (.int i2), .val (.int i3), .val (.int i4), .val (.int (0 : Int32)), .val (.ref b2), .val (.ref b30), .val (.ref b67), .val (.ref b113), .val (.int (2 : Int32)), .val (.int i0)] [(.int i0), (.int i0)])) (fun X t q => XS.iload X.here C.hx rfl (hb C.hby at_125) rfl q) ?_
      refine Wk.st (g' := (mkF m 130 #[.val (.int i0), .val (.int i1), .val (.int i2), .val (.int i3), .val (.int i4), .val (.int (0 : Int32)), .val (.ref b2), .val (.ref b30), .val (.ref b67), .val (.ref b113), .val (.int (2 : Int32)), .val (.int i0)] [])) (fun X t q => XS.icmpNo X.here C.hx rfl (hb C.hby at_127) rfl (XT.ii_ne_f rfl) q) ?_
      refine Wk.st (g' := (mkF m 131 #[.val (.int i0), .val (.int i1), .val (.int i2), .val (.int i3), .val (.int i4), .val (.int (0 : Int32)), .val (.ref b2), .val (.ref b30), .val (.ref b67), .val (.ref b113), .val (.int (2 : Int32)), .val (.int i0)] [(.int (1 : Int32))])) (fun X t q => XS.iconst X.here C.hx rfl (hb C.hby at_130) q) ?_
      refine Wk.st (g' := (mkF m 135 #[.val (.int i0), .val (.int i1), .val (.int i2), .val (.int i3), .val (.int i4), .val (.int (0 : Int32)), .val (.ref b2), .val (.ref b30), .val (.ref b67), .val (.ref b113), .val (.int (2 : Int32)), .val (.int i0)] [(.int (1 : Int32))])) (fun X t q => XS.goto X.here C.hx rfl (pc0 := 131) (pc' := 135) rfl (hb C.hby at_131) (by decide) (by decide) q) ?_
      exact Wk.retV C (t := .boolean) rfl rfl (Or.inl ⟨rfl, by simp, _, rfl⟩) at_135 (by decide) (by decide) ⟨rfl, trivial⟩
  · skip
    show Wk _ p l e _ s m _ below meth c n0 _ h0 0 0 (mkF m 5 #[.val (.int i0), .val (.int i1), .val (.int i2), .val (.int i3), .val (.int i4), .val (.int (1 : Int32)), .unset, .unset, .unset, .unset, .unset, .unset] [])
    refine Wk.st (g' := (mkF m 6 #[.val (.int i0), .val (.int i1), .val (.int i2), .val (.int i3), .val (.int i4), .val (.int (1 : Int32)), .unset, .unset, .unset, .unset, .unset, .unset] [(.int (3 : Int32))])) (fun X t q => XS.iconst X.here C.hx rfl (hb C.hby at_5) q) ?_
    refine Wk.fNewP C (hw _ (List.mem_of_getElem? (i := 0) rfl)) (ty := .int) (dv := (.int (0 : Int32))) (N := 3) (ad := "[I") rfl rfl (by decide) (by decide) (by decide) (cap := 3) (by decide) (by decide) at_6 (by decide) (by decide) ?_
    intro h214 b215 g216 E217 A218 F219
    have ge220 : n0 ≤ b215 := Nat.le_trans hsz (Nat.le_of_eq g216.symm)
    have gz221 : h0.size ≤ b215 := Nat.le_trans (Nat.le_refl h0.size) (Nat.le_of_eq g216.symm)
    have sz222 : n0 ≤ h214.size := Nat.le_trans hsz E217.1
    have sy223 : h0.size ≤ h214.size := Nat.le_trans (Nat.le_refl h0.size) E217.1
    show Wk _ p l e _ s m _ below meth c n0 _ h214 1 3 (mkF m 8 #[.val (.int i0), .val (.int i1), .val (.int i2), .val (.int i3), .val (.int i4), .val (.int (1 : Int32)), .unset, .unset, .unset, .unset, .unset, .unset] [(.ref b215)])
    refine Wk.st (g' := (mkF m 9 #[.val (.int i0), .val (.int i1), .val (.int i2), .val (.int i3), .val (.int i4), .val (.int (1 : Int32)), .unset, .unset, .unset, .unset, .unset, .unset] [(.ref b215), (.ref b215)])) (fun X t q => XS.dup X.here C.hx rfl (hb C.hby at_8) rfl rfl q) ?_
    refine Wk.st (g' := (mkF m 10 #[.val (.int i0), .val (.int i1), .val (.int i2), .val (.int i3), .val (.int i4), .val (.int (1 : Int32)), .unset, .unset, .unset, .unset, .unset, .unset] [(.int (0 : Int32)), (.ref b215), (.ref b215)])) (fun X t q => XS.iconst X.here C.hx rfl (hb C.hby at_9) q) ?_
    refine Wk.st (g' := (mkF m 11 #[.val (.int i0), .val (.int i1), .val (.int i2), .val (.int i3), .val (.int i4), .val (.int (1 : Int32)), .unset, .unset, .unset, .unset, .unset, .unset] [(.int (-1 : Int32)), (.int (0 : Int32)), (.ref b215), (.ref b215)])) (fun X t q => XS.iconst X.here C.hx rfl (hb C.hby at_10) q) ?_
    refine Wk.fStI C F219 (i := 0) (by decide) (by decide) (by decide) ge220 at_11 ?_
    intro h224 W225 F226
    have F227 : Exa Z h224 b215 "[I" := A218.wr W225
    have sz228 : n0 ≤ h224.size := Nat.le_trans sz222 (Nat.le_of_eq W225.size.symm)
    have sy229 : h0.size ≤ h224.size := Nat.le_trans sy223 (Nat.le_of_eq W225.size.symm)
    show Wk _ p l e _ s m _ below meth c n0 _ h224 1 3 (mkF m 12 #[.val (.int i0), .val (.int i1), .val (.int i2), .val (.int i3), .val (.int i4), .val (.int (1 : Int32)), .unset, .unset, .unset, .unset, .unset, .unset] [(.ref b215)])
    refine Wk.st (g' := (mkF m 13 #[.val (.int i0), .val (.int i1), .val (.int i2), .val (.int i3), .val (.int i4), .val (.int (1 : Int32)), .unset, .unset, .unset, .unset, .unset, .unset] [(.ref b215), (.ref b215)])) (fun X t q => XS.dup X.here C.hx rfl (hb C.hby at_12) rfl rfl q) ?_
    refine Wk.st (g' := (mkF m 14 #[.val (.int i0), .val (.int i1), .val (.int i2), .val (.int i3), .val (.int i4), .val (.int (1 : Int32)), .unset, .unset, .unset, .unset, .unset, .unset] [(.int (1 : Int32)), (.ref b215), (.ref b215)])) (fun X t q => XS.iconst X.here C.hx rfl (hb C.hby at_13) q) ?_
    refine Wk.st (g' := (mkF m 15 #[.val (.int i0), .val (.int i1), .val (.int i2), .val (.int i3), .val (.int i4), .val (.int (1 : Int32)), .unset, .unset, .unset, .unset, .unset, .unset] [(.int (0 : Int32)), (.int (1 : Int32)), (.ref b215), (.ref b215)])) (fun X t q => XS.iconst X.here C.hx rfl (hb C.hby at_14) q) ?_
    refine Wk.fStI C F226 (i := 1) (by decide) (by decide) (by decide) ge220 at_15 ?_
    intro h230 W231 F232
    have F233 : Exa Z h230 b215 "[I" := F227.wr W231
    have sz234 : n0 ≤ h230.size := Nat.le_trans sz228 (Nat.le_of_eq W231.size.symm)
    have sy235 : h0.size ≤ h230.size := Nat.le_trans sy229 (Nat.le_of_eq W231.size.symm)
    show Wk _ p l e _ s m _ below meth c n0 _ h230 1 3 (mkF m 16 #[.val (.int i0), .val (.int i1), .val (.int i2), .val (.int i3), .val (.int i4), .val (.int (1 : Int32)), .unset, .unset, .unset, .unset, .unset, .unset] [(.ref b215)])
    refine Wk.st (g' := (mkF m 17 #[.val (.int i0), .val (.int i1), .val (.int i2), .val (.int i3), .val (.int i4), .val (.int (1 : Int32)), .unset, .unset, .unset, .unset, .unset, .unset] [(.ref b215), (.ref b215)])) (fun X t q => XS.dup X.here C.hx rfl (hb C.hby at_16) rfl rfl q) ?_
    refine Wk.st (g' := (mkF m 18 #[.val (.int i0), .val (.int i1), .val (.int i2), .val (.int i3), .val (.int i4), .val (.int (1 : Int32)), .unset, .unset, .unset, .unset, .unset, .unset] [(.int (2 : Int32)), (.ref b215), (.ref b215)])) (fun X t q => XS.iconst X.here C.hx rfl (hb C.hby at_17) q) ?_
    refine Wk.st (g' := (mkF m 20 #[.val (.int i0), .val (.int i1), .val (.int i2), .val (.int i3), .val (.int i4), .val (.int (1 : Int32)), .unset, .unset, .unset, .unset, .unset, .unset] [(.int (1 : Int32)), (.int (2 : Int32)), (.ref b215), (.ref b215)])) (fun X t q => XS.iload X.here C.hx rfl (hb C.hby at_18) rfl q) ?_
    refine Wk.fStI C F232 (i := 2) (by decide) (by decide) (by decide) ge220 at_20 ?_
    intro h236 W237 F238
    have F239 : Exa Z h236 b215 "[I" := F233.wr W237
    have sz240 : n0 ≤ h236.size := Nat.le_trans sz234 (Nat.le_of_eq W237.size.symm)
    have sy241 : h0.size ≤ h236.size := Nat.le_trans sy235 (Nat.le_of_eq W237.size.symm)
    show Wk _ p l e _ s m _ below meth c n0 _ h236 1 3 (mkF m 21 #[.val (.int i0), .val (.int i1), .val (.int i2), .val (.int i3), .val (.int i4), .val (.int (1 : Int32)), .unset, .unset, .unset, .unset, .unset, .unset] [(.ref b215)])
    refine Wk.st (g' := (mkF m 23 #[.val (.int i0), .val (.int i1), .val (.int i2), .val (.int i3), .val (.int i4), .val (.int (1 : Int32)), .val (.ref b215), .unset, .unset, .unset, .unset, .unset] [])) (fun X t q => XS.astore X.here C.hx rfl (hb C.hby at_21) rfl rfl (l' := #[.val (.int i0), .val (.int i1), .val (.int i2), .val (.int i3), .val (.int i4), .val (.int (1 : Int32)), .val (.ref b215), .unset, .unset, .unset, .unset, .unset]) rfl q) ?_
    refine Wk.st (g' := (mkF m 24 #[.val (.int i0), .val (.int i1), .val (.int i2), .val (.int i3), .val (.int i4), .val (.int (1 : Int32)), .val (.ref b215), .unset, .unset, .unset, .unset, .unset] [(.int (3 : Int32))])) (fun X t q => XS.iconst X.here C.hx rfl (hb C.hby at_23) q) ?_
    refine Wk.fNewP C (hw _ (List.mem_of_getElem? (i := 0) rfl)) (ty := .int) (dv := (.int (0 : Int32))) (N := 3) (ad := "[I") rfl rfl (by decide) (by decide) (by decide) (cap := 3) (by decide) (by decide) at_24 (by decide) (by decide) ?_
    intro h242 b243 g244 E245 A246 F247
    have ne248 : b215 ≠ b243 := Nat.ne_of_lt (Nat.lt_of_lt_of_le F239.lt (Nat.le_of_eq g244.symm))
    have ge249 : n0 ≤ b243 := Nat.le_trans sz240 (Nat.le_of_eq g244.symm)
    have gz250 : h0.size ≤ b243 := Nat.le_trans sy241 (Nat.le_of_eq g244.symm)
    have F251 : Exa Z h242 b215 "[I" := F239.ext E245
    have F252 : Fa Z h242 b215 .int 3 (up (up (up (fun _ => (.int (0 : Int32))) 0 (.int (-1 : Int32))) 1 (.int (0 : Int32))) 2 (.int (1 : Int32))) := F238.ext E245
    have sz253 : n0 ≤ h242.size := Nat.le_trans sz240 E245.1
    have sy254 : h0.size ≤ h242.size := Nat.le_trans sy241 E245.1
    show Wk _ p l e _ s m _ below meth c n0 _ h242 2 6 (mkF m 26 #[.val (.int i0), .val (.int i1), .val (.int i2), .val (.int i3), .val (.int i4), .val (.int (1 : Int32)), .val (.ref b215), .unset, .unset, .unset, .unset, .unset] [(.ref b243)])
    refine Wk.st (g' := (mkF m 27 #[.val (.int i0), .val (.int i1), .val (.int i2), .val (.int i3), .val (.int i4), .val (.int (1 : Int32)), .val (.ref b215), .unset, .unset, .unset, .unset, .unset] [(.ref b243), (.ref b243)])) (fun X t q => XS.dup X.here C.hx rfl (hb C.hby at_26) rfl rfl q) ?_
    refine Wk.st (g' := (mkF m 28 #[.val (.int i0), .val (.int i1), .val (.int i2), .val (.int i3), .val (.int i4), .val (.int (1 : Int32)), .val (.ref b215), .unset, .unset, .unset, .unset, .unset] [(.int (0 : Int32)), (.ref b243), (.ref b243)])) (fun X t q => XS.iconst X.here C.hx rfl (hb C.hby at_27) q) ?_
    refine Wk.st (g' := (mkF m 29 #[.val (.int i0), .val (.int i1), .val (.int i2), .val (.int i3), .val (.int i4), .val (.int (1 : Int32)), .val (.ref b215), .unset, .unset, .unset, .unset, .unset] [(.int i0), (.int (0 : Int32)), (.ref b243), (.ref b243)])) (fun X t q => XS.iloadN X.here C.hx rfl (hb C.hby at_28) rfl q) ?_
    refine Wk.fStI C F247 (i := 0) (by decide) (by decide) (by decide) ge249 at_29 ?_
    intro h255 W256 F257
    have F258 : Exa Z h255 b215 "[I" := F251.wr W256
    have F259 : Fa Z h255 b215 .int 3 (up (up (up (fun _ => (.int (0 : Int32))) 0 (.int (-1 : Int32))) 1 (.int (0 : Int32))) 2 (.int (1 : Int32))) := F252.other W256 ne248
    have F260 : Exa Z h255 b243 "[I" := A246.wr W256
    have sz261 : n0 ≤ h255.size := Nat.le_trans sz253 (Nat.le_of_eq W256.size.symm)
    have sy262 : h0.size ≤ h255.size := Nat.le_trans sy254 (Nat.le_of_eq W256.size.symm)
    show Wk _ p l e _ s m _ below meth c n0 _ h255 2 6 (mkF m 30 #[.val (.int i0), .val (.int i1), .val (.int i2), .val (.int i3), .val (.int i4), .val (.int (1 : Int32)), .val (.ref b215), .unset, .unset, .unset, .unset, .unset] [(.ref b243)])
    refine Wk.st (g' := (mkF m 31 #[.val (.int i0), .val (.int i1), .val (.int i2), .val (.int i3), .val (.int i4), .val (.int (1 : Int32)), .val (.ref b215), .unset, .unset, .unset, .unset, .unset] [(.ref b243), (.ref b243)])) (fun X t q => XS.dup X.here C.hx rfl (hb C.hby at_30) rfl rfl q) ?_
    refine Wk.st (g' := (mkF m 32 #[.val (.int i0), .val (.int i1), .val (.int i2), .val (.int i3), .val (.int i4), .val (.int (1 : Int32)), .val (.ref b215), .unset, .unset, .unset, .unset, .unset] [(.int (1 : Int32)), (.ref b243), (.ref b243)])) (fun X t q => XS.iconst X.here C.hx rfl (hb C.hby at_31) q) ?_
    refine Wk.st (g' := (mkF m 33 #[.val (.int i0), .val (.int i1), .val (.int i2), .val (.int i3), .val (.int i4), .val (.int (1 : Int32)), .val (.ref b215), .unset, .unset, .unset, .unset, .unset] [(.int i1), (.int (1 : Int32)), (.ref b243), (.ref b243)])) (fun X t q => XS.iloadN X.here C.hx rfl (hb C.hby at_32) rfl q) ?_
    refine Wk.fStI C F257 (i := 1) (by decide) (by decide) (by decide) ge249 at_33 ?_
    intro h263 W264 F265
    have F266 : Exa Z h263 b215 "[I" := F258.wr W264
    have F267 : Fa Z h263 b215 .int 3 (up (up (up (fun _ => (.int (0 : Int32))) 0 (.int (-1 : Int32))) 1 (.int (0 : Int32))) 2 (.int (1 : Int32))) := F259.other W264 ne248
    have F268 : Exa Z h263 b243 "[I" := F260.wr W264
    have sz269 : n0 ≤ h263.size := Nat.le_trans sz261 (Nat.le_of_eq W264.size.symm)
    have sy270 : h0.size ≤ h263.size := Nat.le_trans sy262 (Nat.le_of_eq W264.size.symm)
    show Wk _ p l e _ s m _ below meth c n0 _ h263 2 6 (mkF m 34 #[.val (.int i0), .val (.int i1), .val (.int i2), .val (.int i3), .val (.int i4), .val (.int (1 : Int32)), .val (.ref b215), .unset, .unset, .unset, .unset, .unset] [(.ref b243)])
    refine Wk.st (g' := (mkF m 35 #[.val (.int i0), .val (.int i1), .val (.int i2), .val (.int i3), .val (.int i4), .val (.int (1 : Int32)), .val (.ref b215), .unset, .unset, .unset, .unset, .unset] [(.ref b243), (.ref b243)])) (fun X t q => XS.dup X.here C.hx rfl (hb C.hby at_34) rfl rfl q) ?_
    refine Wk.st (g' := (mkF m 36 #[.val (.int i0), .val (.int i1), .val (.int i2), .val (.int i3), .val (.int i4), .val (.int (1 : Int32)), .val (.ref b215), .unset, .unset, .unset, .unset, .unset] [(.int (2 : Int32)), (.ref b243), (.ref b243)])) (fun X t q => XS.iconst X.here C.hx rfl (hb C.hby at_35) q) ?_
    refine Wk.st (g' := (mkF m 37 #[.val (.int i0), .val (.int i1), .val (.int i2), .val (.int i3), .val (.int i4), .val (.int (1 : Int32)), .val (.ref b215), .unset, .unset, .unset, .unset, .unset] [(.int i2), (.int (2 : Int32)), (.ref b243), (.ref b243)])) (fun X t q => XS.iloadN X.here C.hx rfl (hb C.hby at_36) rfl q) ?_
    refine Wk.fStI C F265 (i := 2) (by decide) (by decide) (by decide) ge249 at_37 ?_
    intro h271 W272 F273
    have F274 : Exa Z h271 b215 "[I" := F266.wr W272
    have F275 : Fa Z h271 b215 .int 3 (up (up (up (fun _ => (.int (0 : Int32))) 0 (.int (-1 : Int32))) 1 (.int (0 : Int32))) 2 (.int (1 : Int32))) := F267.other W272 ne248
    have F276 : Exa Z h271 b243 "[I" := F268.wr W272
    have sz277 : n0 ≤ h271.size := Nat.le_trans sz269 (Nat.le_of_eq W272.size.symm)
    have sy278 : h0.size ≤ h271.size := Nat.le_trans sy270 (Nat.le_of_eq W272.size.symm)
    show Wk _ p l e _ s m _ below meth c n0 _ h271 2 6 (mkF m 38 #[.val (.int i0), .val (.int i1), .val (.int i2), .val (.int i3), .val (.int i4), .val (.int (1 : Int32)), .val (.ref b215), .unset, .unset, .unset, .unset, .unset] [(.ref b243)])
    refine Wk.st (g' := (mkF m 40 #[.val (.int i0), .val (.int i1), .val (.int i2), .val (.int i3), .val (.int i4), .val (.int (1 : Int32)), .val (.ref b215), .val (.ref b243), .unset, .unset, .unset, .unset] [])) (fun X t q => XS.astore X.here C.hx rfl (hb C.hby at_38) rfl rfl (l' := #[.val (.int i0), .val (.int i1), .val (.int i2), .val (.int i3), .val (.int i4), .val (.int (1 : Int32)), .val (.ref b215), .val (.ref b243), .unset, .unset, .unset, .unset]) rfl q) ?_
    refine Wk.st (g' := (mkF m 41 #[.val (.int i0), .val (.int i1), .val (.int i2), .val (.int i3), .val (.int i4), .val (.int (1 : Int32)), .val (.ref b215), .val (.ref b243), .unset, .unset, .unset, .unset] [(.int (3 : Int32))])) (fun X t q => XS.iconst X.here C.hx rfl (hb C.hby at_40) q) ?_
    refine Wk.fNewP C (hw _ (List.mem_of_getElem? (i := 0) rfl)) (ty := .int) (dv := (.int (0 : Int32))) (N := 3) (ad := "[I") rfl rfl (by decide) (by decide) (by decide) (cap := 3) (by decide) (by decide) at_41 (by decide) (by decide) ?_
    intro h279 b280 g281 E282 A283 F284
    have ne285 : b215 ≠ b280 := Nat.ne_of_lt (Nat.lt_of_lt_of_le F274.lt (Nat.le_of_eq g281.symm))
    have ne286 : b243 ≠ b280 := Nat.ne_of_lt (Nat.lt_of_lt_of_le F276.lt (Nat.le_of_eq g281.symm))
    have ge287 : n0 ≤ b280 := Nat.le_trans sz277 (Nat.le_of_eq g281.symm)
    have gz288 : h0.size ≤ b280 := Nat.le_trans sy278 (Nat.le_of_eq g281.symm)
    have F289 : Exa Z h279 b215 "[I" := F274.ext E282
    have F290 : Fa Z h279 b215 .int 3 (up (up (up (fun _ => (.int (0 : Int32))) 0 (.int (-1 : Int32))) 1 (.int (0 : Int32))) 2 (.int (1 : Int32))) := F275.ext E282
    have F291 : Exa Z h279 b243 "[I" := F276.ext E282
    have F292 : Fa Z h279 b243 .int 3 (up (up (up (fun _ => (.int (0 : Int32))) 0 (.int i0)) 1 (.int i1)) 2 (.int i2)) := F273.ext E282
    have sz293 : n0 ≤ h279.size := Nat.le_trans sz277 E282.1
    have sy294 : h0.size ≤ h279.size := Nat.le_trans sy278 E282.1
    show Wk _ p l e _ s m _ below meth c n0 _ h279 3 9 (mkF m 43 #[.val (.int i0), .val (.int i1), .val (.int i2), .val (.int i3), .val (.int i4), .val (.int (1 : Int32)), .val (.ref b215), .val (.ref b243), .unset, .unset, .unset, .unset] [(.ref b280)])
    refine Wk.st (g' := (mkF m 44 #[.val (.int i0), .val (.int i1), .val (.int i2), .val (.int i3), .val (.int i4), .val (.int (1 : Int32)), .val (.ref b215), .val (.ref b243), .unset, .unset, .unset, .unset] [(.ref b280), (.ref b280)])) (fun X t q => XS.dup X.here C.hx rfl (hb C.hby at_43) rfl rfl q) ?_
    refine Wk.st (g' := (mkF m 45 #[.val (.int i0), .val (.int i1), .val (.int i2), .val (.int i3), .val (.int i4), .val (.int (1 : Int32)), .val (.ref b215), .val (.ref b243), .unset, .unset, .unset, .unset] [(.int (0 : Int32)), (.ref b280), (.ref b280)])) (fun X t q => XS.iconst X.here C.hx rfl (hb C.hby at_44) q) ?_
    refine Wk.st (g' := (mkF m 46 #[.val (.int i0), .val (.int i1), .val (.int i2), .val (.int i3), .val (.int i4), .val (.int (1 : Int32)), .val (.ref b215), .val (.ref b243), .unset, .unset, .unset, .unset] [(.int (-1 : Int32)), (.int (0 : Int32)), (.ref b280), (.ref b280)])) (fun X t q => XS.iconst X.here C.hx rfl (hb C.hby at_45) q) ?_
    refine Wk.fStI C F284 (i := 0) (by decide) (by decide) (by decide) ge287 at_46 ?_
    intro h295 W296 F297
    have F298 : Exa Z h295 b215 "[I" := F289.wr W296
    have F299 : Fa Z h295 b215 .int 3 (up (up (up (fun _ => (.int (0 : Int32))) 0 (.int (-1 : Int32))) 1 (.int (0 : Int32))) 2 (.int (1 : Int32))) := F290.other W296 ne285
    have F300 : Exa Z h295 b243 "[I" := F291.wr W296
    have F301 : Fa Z h295 b243 .int 3 (up (up (up (fun _ => (.int (0 : Int32))) 0 (.int i0)) 1 (.int i1)) 2 (.int i2)) := F292.other W296 ne286
    have F302 : Exa Z h295 b280 "[I" := A283.wr W296
    have sz303 : n0 ≤ h295.size := Nat.le_trans sz293 (Nat.le_of_eq W296.size.symm)
    have sy304 : h0.size ≤ h295.size := Nat.le_trans sy294 (Nat.le_of_eq W296.size.symm)
    show Wk _ p l e _ s m _ below meth c n0 _ h295 3 9 (mkF m 47 #[.val (.int i0), .val (.int i1), .val (.int i2), .val (.int i3), .val (.int i4), .val (.int (1 : Int32)), .val (.ref b215), .val (.ref b243), .unset, .unset, .unset, .unset] [(.ref b280)])
    refine Wk.st (g' := (mkF m 48 #[.val (.int i0), .val (.int i1), .val (.int i2), .val (.int i3), .val (.int i4), .val (.int (1 : Int32)), .val (.ref b215), .val (.ref b243), .unset, .unset, .unset, .unset] [(.ref b280), (.ref b280)])) (fun X t q => XS.dup X.here C.hx rfl (hb C.hby at_47) rfl rfl q) ?_
    refine Wk.st (g' := (mkF m 49 #[.val (.int i0), .val (.int i1), .val (.int i2), .val (.int i3), .val (.int i4), .val (.int (1 : Int32)), .val (.ref b215), .val (.ref b243), .unset, .unset, .unset, .unset] [(.int (1 : Int32)), (.ref b280), (.ref b280)])) (fun X t q => XS.iconst X.here C.hx rfl (hb C.hby at_48) q) ?_
    refine Wk.st (g' := (mkF m 50 #[.val (.int i0), .val (.int i1), .val (.int i2), .val (.int i3), .val (.int i4), .val (.int (1 : Int32)), .val (.ref b215), .val (.ref b243), .unset, .unset, .unset, .unset] [(.int (-1 : Int32)), (.int (1 : Int32)), (.ref b280), (.ref b280)])) (fun X t q => XS.iconst X.here C.hx rfl (hb C.hby at_49) q) ?_
    refine Wk.fStI C F297 (i := 1) (by decide) (by decide) (by decide) ge287 at_50 ?_
    intro h305 W306 F307
    have F308 : Exa Z h305 b215 "[I" := F298.wr W306
    have F309 : Fa Z h305 b215 .int 3 (up (up (up (fun _ => (.int (0 : Int32))) 0 (.int (-1 : Int32))) 1 (.int (0 : Int32))) 2 (.int (1 : Int32))) := F299.other W306 ne285
    have F310 : Exa Z h305 b243 "[I" := F300.wr W306
    have F311 : Fa Z h305 b243 .int 3 (up (up (up (fun _ => (.int (0 : Int32))) 0 (.int i0)) 1 (.int i1)) 2 (.int i2)) := F301.other W306 ne286
    have F312 : Exa Z h305 b280 "[I" := F302.wr W306
    have sz313 : n0 ≤ h305.size := Nat.le_trans sz303 (Nat.le_of_eq W306.size.symm)
    have sy314 : h0.size ≤ h305.size := Nat.le_trans sy304 (Nat.le_of_eq W306.size.symm)
    show Wk _ p l e _ s m _ below meth c n0 _ h305 3 9 (mkF m 51 #[.val (.int i0), .val (.int i1), .val (.int i2), .val (.int i3), .val (.int i4), .val (.int (1 : Int32)), .val (.ref b215), .val (.ref b243), .unset, .unset, .unset, .unset] [(.ref b280)])
    refine Wk.st (g' := (mkF m 52 #[.val (.int i0), .val (.int i1), .val (.int i2), .val (.int i3), .val (.int i4), .val (.int (1 : Int32)), .val (.ref b215), .val (.ref b243), .unset, .unset, .unset, .unset] [(.ref b280), (.ref b280)])) (fun X t q => XS.dup X.here C.hx rfl (hb C.hby at_51) rfl rfl q) ?_
    refine Wk.st (g' := (mkF m 53 #[.val (.int i0), .val (.int i1), .val (.int i2), .val (.int i3), .val (.int i4), .val (.int (1 : Int32)), .val (.ref b215), .val (.ref b243), .unset, .unset, .unset, .unset] [(.int (2 : Int32)), (.ref b280), (.ref b280)])) (fun X t q => XS.iconst X.here C.hx rfl (hb C.hby at_52) q) ?_
    refine Wk.st (g' := (mkF m 54 #[.val (.int i0), .val (.int i1), .val (.int i2), .val (.int i3), .val (.int i4), .val (.int (1 : Int32)), .val (.ref b215), .val (.ref b243), .unset, .unset, .unset, .unset] [(.int (-1 : Int32)), (.int (2 : Int32)), (.ref b280), (.ref b280)])) (fun X t q => XS.iconst X.here C.hx rfl (hb C.hby at_53) q) ?_
    refine Wk.fStI C F307 (i := 2) (by decide) (by decide) (by decide) ge287 at_54 ?_
    intro h315 W316 F317
    have F318 : Exa Z h315 b215 "[I" := F308.wr W316
    have F319 : Fa Z h315 b215 .int 3 (up (up (up (fun _ => (.int (0 : Int32))) 0 (.int (-1 : Int32))) 1 (.int (0 : Int32))) 2 (.int (1 : Int32))) := F309.other W316 ne285
    have F320 : Exa Z h315 b243 "[I" := F310.wr W316
    have F321 : Fa Z h315 b243 .int 3 (up (up (up (fun _ => (.int (0 : Int32))) 0 (.int i0)) 1 (.int i1)) 2 (.int i2)) := F311.other W316 ne286
    have F322 : Exa Z h315 b280 "[I" := F312.wr W316
    have sz323 : n0 ≤ h315.size := Nat.le_trans sz313 (Nat.le_of_eq W316.size.symm)
    have sy324 : h0.size ≤ h315.size := Nat.le_trans sy314 (Nat.le_of_eq W316.size.symm)
    show Wk _ p l e _ s m _ below meth c n0 _ h315 3 9 (mkF m 55 #[.val (.int i0), .val (.int i1), .val (.int i2), .val (.int i3), .val (.int i4), .val (.int (1 : Int32)), .val (.ref b215), .val (.ref b243), .unset, .unset, .unset, .unset] [(.ref b280)])
    refine Wk.st (g' := (mkF m 57 #[.val (.int i0), .val (.int i1), .val (.int i2), .val (.int i3), .val (.int i4), .val (.int (1 : Int32)), .val (.ref b215), .val (.ref b243), .val (.ref b280), .unset, .unset, .unset] [])) (fun X t q => XS.astore X.here C.hx rfl (hb C.hby at_55) rfl rfl (l' := #[.val (.int i0), .val (.int i1), .val (.int i2), .val (.int i3), .val (.int i4), .val (.int (1 : Int32)), .val (.ref b215), .val (.ref b243), .val (.ref b280), .unset, .unset, .unset]) rfl q) ?_
    refine Wk.newO C (hw _ (List.mem_of_getElem? (i := 1) rfl)) (hw _ (List.mem_of_getElem? (i := 2) rfl)) (hw _ (List.mem_of_getElem? (i := 3) rfl)) at_57 (by decide) (by decide) ?_
    intro h325 b326 g327 E328 A329 D330
    have ne331 : b215 ≠ b326 := Nat.ne_of_lt (Nat.lt_of_lt_of_le F318.lt (Nat.le_of_eq g327.symm))
    have ne332 : b243 ≠ b326 := Nat.ne_of_lt (Nat.lt_of_lt_of_le F320.lt (Nat.le_of_eq g327.symm))
    have ne333 : b280 ≠ b326 := Nat.ne_of_lt (Nat.lt_of_lt_of_le F322.lt (Nat.le_of_eq g327.symm))
    have ge334 : n0 ≤ b326 := Nat.le_trans sz323 (Nat.le_of_eq g327.symm)
    have gz335 : h0.size ≤ b326 := Nat.le_trans sy324 (Nat.le_of_eq g327.symm)
    have F336 : Exa Z h325 b215 "[I" := F318.ext E328
    have F337 : Fa Z h325 b215 .int 3 (up (up (up (fun _ => (.int (0 : Int32))) 0 (.int (-1 : Int32))) 1 (.int (0 : Int32))) 2 (.int (1 : Int32))) := F319.ext E328
    have F338 : Exa Z h325 b243 "[I" := F320.ext E328
    have F339 : Fa Z h325 b243 .int 3 (up (up (up (fun _ => (.int (0 : Int32))) 0 (.int i0)) 1 (.int i1)) 2 (.int i2)) := F321.ext E328
    have F340 : Exa Z h325 b280 "[I" := F322.ext E328
    have F341 : Fa Z h325 b280 .int 3 (up (up (up (fun _ => (.int (0 : Int32))) 0 (.int (-1 : Int32))) 1 (.int (-1 : Int32))) 2 (.int (-1 : Int32))) := F317.ext E328
    have sz342 : n0 ≤ h325.size := Nat.le_trans sz323 E328.1
    have sy343 : h0.size ≤ h325.size := Nat.le_trans sy324 E328.1
    have F344 : Fld Z h325 b326 "com/example/understory/understory/RootedTree" "parent" "[I" .null := D330 (Or.inr (hw _ (List.mem_of_getElem? (i := 11) rfl))) (ty := (.array .int)) (by decide)
    have F345 : Fld Z h325 b326 "com/example/understory/understory/RootedTree" "states" "[I" .null := D330 (Or.inr (hw _ (List.mem_of_getElem? (i := 13) rfl))) (ty := (.array .int)) (by decide)
    have F346 : Fld Z h325 b326 "com/example/understory/understory/RootedTree" "column" "[I" .null := D330 (Or.inr (hw _ (List.mem_of_getElem? (i := 15) rfl))) (ty := (.array .int)) (by decide)
    have F347 : Fld Z h325 b326 "com/example/understory/understory/RootedTree" "children" "[[I" .null := D330 (Or.inr (hw _ (List.mem_of_getElem? (i := 23) rfl))) (ty := (.array (.array .int))) (by decide)
    have F348 : Fld Z h325 b326 "com/example/understory/understory/RootedTree" "nodeOfColumn" "[I" .null := D330 (Or.inr (hw _ (List.mem_of_getElem? (i := 25) rfl))) (ty := (.array .int)) (by decide)
    show Wk _ p l e _ s m _ below meth c n0 _ h325 4 14 (mkF m 60 #[.val (.int i0), .val (.int i1), .val (.int i2), .val (.int i3), .val (.int i4), .val (.int (1 : Int32)), .val (.ref b215), .val (.ref b243), .val (.ref b280), .unset, .unset, .unset] [(.ref b326)])
    refine Wk.st (g' := (mkF m 61 #[.val (.int i0), .val (.int i1), .val (.int i2), .val (.int i3), .val (.int i4), .val (.int (1 : Int32)), .val (.ref b215), .val (.ref b243), .val (.ref b280), .unset, .unset, .unset] [(.ref b326), (.ref b326)])) (fun X t q => XS.dup X.here C.hx rfl (hb C.hby at_60) rfl rfl q) ?_
    refine Wk.st (g' := (mkF m 63 #[.val (.int i0), .val (.int i1), .val (.int i2), .val (.int i3), .val (.int i4), .val (.int (1 : Int32)), .val (.ref b215), .val (.ref b243), .val (.ref b280), .unset, .unset, .unset] [(.ref b215), (.ref b326), (.ref b326)])) (fun X t q => XS.aload X.here C.hx rfl (hb C.hby at_61) rfl rfl q) ?_
    refine Wk.st (g' := (mkF m 65 #[.val (.int i0), .val (.int i1), .val (.int i2), .val (.int i3), .val (.int i4), .val (.int (1 : Int32)), .val (.ref b215), .val (.ref b243), .val (.ref b280), .unset, .unset, .unset] [(.ref b243), (.ref b215), (.ref b326), (.ref b326)])) (fun X t q => XS.aload X.here C.hx rfl (hb C.hby at_63) rfl rfl q) ?_
    refine Wk.st (g' := (mkF m 67 #[.val (.int i0), .val (.int i1), .val (.int i2), .val (.int i3), .val (.int i4), .val (.int (1 : Int32)), .val (.ref b215), .val (.ref b243), .val (.ref b280), .unset, .unset, .unset] [(.ref b280), (.ref b243), (.ref b215), (.ref b326), (.ref b326)])) (fun X t q => XS.aload X.here C.hx rfl (hb C.hby at_65) rfl rfl q) ?_
    refine Wk.callI C (z := (⟨"com/example/understory/understory/RootedTree", "<init>", "([I[I[I)V"⟩ : MethodName)) rfl (hw _ (List.mem_of_getElem? (i := 4) rfl)) (hw _ (List.mem_of_getElem? (i := 5) rfl)) (hw _ (List.mem_of_getElem? (i := 3) rfl)) (hw _ (List.mem_of_getElem? (i := 6) rfl)) (by decide) (own_1_5 l Z a0 hw n0 h325 sz342 b326 b215 b243 b280 i0 i1 i2 F336 F337 F338 F339 F340 F341 A329 F344 F345 F346 F347 F348 (Ne.symm ne331) (Ne.symm ne332) (Ne.symm ne333) ne248 ne285 ne286 ge334 ge220 ge249 ge287) (w := 1) (by decide) (by decide) pd_0 rfl (rest := [(.ref b326)]) rfl rfl (Nat.le_of_eq rfl) (by decide) (by decide) at_67 ?_
    rintro _ h350 ⟨n349_n52_b34, n349_b138, n349_n52_b51, n349_n52_b84, n349_n52_b122, rfl, K351, gn367, gn368, gn369, gn370, gn371, ne372, ne373, ne374, ne375, ne376, ne377, ne378, ne379, ne380, ne381, F352, F353, F354, F355, F356, F357, F358, F359, F360, F361, F362, F363, F364, F365, F366⟩
    show Wk _ p l e _ s m _ below meth c n0 _ h350 11 25 (mkF m 70 #[.val (.int i0), .val (.int i1), .val (.int i2), .val (.int i3), .val (.int i4), .val (.int (1 : Int32)), .val (.ref b215), .val (.ref b243), .val (.ref b280), .unset, .unset, .unset] [(.ref b326)])
    have ne382 : b215 ≠ n349_n52_b34 := Nat.ne_of_lt (Nat.lt_of_lt_of_le F336.lt gn367)
    have ne383 : b243 ≠ n349_n52_b34 := Nat.ne_of_lt (Nat.lt_of_lt_of_le F338.lt gn367)
    have ne384 : b280 ≠ n349_n52_b34 := Nat.ne_of_lt (Nat.lt_of_lt_of_le F340.lt gn367)
    have ne385 : b326 ≠ n349_n52_b34 := Nat.ne_of_lt (Nat.lt_of_lt_of_le A329.lt gn367)
    have ge386 : n0 ≤ n349_n52_b34 := Nat.le_trans sz342 gn367
    have gz387 : h0.size ≤ n349_n52_b34 := Nat.le_trans sy343 gn367
    have ne388 : b215 ≠ n349_b138 := Nat.ne_of_lt (Nat.lt_of_lt_of_le F336.lt gn368)
    have ne389 : b243 ≠ n349_b138 := Nat.ne_of_lt (Nat.lt_of_lt_of_le F338.lt gn368)
    have ne390 : b280 ≠ n349_b138 := Nat.ne_of_lt (Nat.lt_of_lt_of_le F340.lt gn368)
    have ne391 : b326 ≠ n349_b138 := Nat.ne_of_lt (Nat.lt_of_lt_of_le A329.lt gn368)
    have ge392 : n0 ≤ n349_b138 := Nat.le_trans sz342 gn368
    have gz393 : h0.size ≤ n349_b138 := Nat.le_trans sy343 gn368
    have ne394 : b215 ≠ n349_n52_b51 := Nat.ne_of_lt (Nat.lt_of_lt_of_le F336.lt gn369)
    have ne395 : b243 ≠ n349_n52_b51 := Nat.ne_of_lt (Nat.lt_of_lt_of_le F338.lt gn369)
    have ne396 : b280 ≠ n349_n52_b51 := Nat.ne_of_lt (Nat.lt_of_lt_of_le F340.lt gn369)
    have ne397 : b326 ≠ n349_n52_b51 := Nat.ne_of_lt (Nat.lt_of_lt_of_le A329.lt gn369)
    have ge398 : n0 ≤ n349_n52_b51 := Nat.le_trans sz342 gn369
    have gz399 : h0.size ≤ n349_n52_b51 := Nat.le_trans sy343 gn369
    have ne400 : b215 ≠ n349_n52_b84 := Nat.ne_of_lt (Nat.lt_of_lt_of_le F336.lt gn370)
    have ne401 : b243 ≠ n349_n52_b84 := Nat.ne_of_lt (Nat.lt_of_lt_of_le F338.lt gn370)
    have ne402 : b280 ≠ n349_n52_b84 := Nat.ne_of_lt (Nat.lt_of_lt_of_le F340.lt gn370)
    have ne403 : b326 ≠ n349_n52_b84 := Nat.ne_of_lt (Nat.lt_of_lt_of_le A329.lt gn370)
    have ge404 : n0 ≤ n349_n52_b84 := Nat.le_trans sz342 gn370
    have gz405 : h0.size ≤ n349_n52_b84 := Nat.le_trans sy343 gn370
    have ne406 : b215 ≠ n349_n52_b122 := Nat.ne_of_lt (Nat.lt_of_lt_of_le F336.lt gn371)
    have ne407 : b243 ≠ n349_n52_b122 := Nat.ne_of_lt (Nat.lt_of_lt_of_le F338.lt gn371)
    have ne408 : b280 ≠ n349_n52_b122 := Nat.ne_of_lt (Nat.lt_of_lt_of_le F340.lt gn371)
    have ne409 : b326 ≠ n349_n52_b122 := Nat.ne_of_lt (Nat.lt_of_lt_of_le A329.lt gn371)
    have ge410 : n0 ≤ n349_n52_b122 := Nat.le_trans sz342 gn371
    have gz411 : h0.size ≤ n349_n52_b122 := Nat.le_trans sy343 gn371
    have F412 : Exa Z h350 b215 "[I" := F336.keep K351
    have F413 : Fa Z h350 b215 .int 3 (up (up (up (fun _ => (.int (0 : Int32))) 0 (.int (-1 : Int32))) 1 (.int (0 : Int32))) 2 (.int (1 : Int32))) := F337.keep K351 (nmS ne331 nm0)
    have F414 : Exa Z h350 b243 "[I" := F338.keep K351
    have F415 : Fa Z h350 b243 .int 3 (up (up (up (fun _ => (.int (0 : Int32))) 0 (.int i0)) 1 (.int i1)) 2 (.int i2)) := F339.keep K351 (nmS ne332 nm0)
    have F416 : Exa Z h350 b280 "[I" := F340.keep K351
    have F417 : Fa Z h350 b280 .int 3 (up (up (up (fun _ => (.int (0 : Int32))) 0 (.int (-1 : Int32))) 1 (.int (-1 : Int32))) 2 (.int (-1 : Int32))) := F341.keep K351 (nmS ne333 nm0)
    have F418 : Exa Z h350 b326 "com/example/understory/understory/RootedTree" := A329.keep K351
    have sz419 : n0 ≤ h350.size := Nat.le_trans sz342 K351.1
    have sy420 : h0.size ≤ h350.size := Nat.le_trans sy343 K351.1
    refine Wk.st (g' := (mkF m 72 #[.val (.int i0), .val (.int i1), .val (.int i2), .val (.int i3), .val (.int i4), .val (.int (1 : Int32)), .val (.ref b215), .val (.ref b243), .val (.ref b280), .val (.ref b326), .unset, .unset] [])) (fun X t q => XS.astore X.here C.hx rfl (hb C.hby at_70) rfl rfl (l' := #[.val (.int i0), .val (.int i1), .val (.int i2), .val (.int i3), .val (.int i4), .val (.int (1 : Int32)), .val (.ref b215), .val (.ref b243), .val (.ref b280), .val (.ref b326), .unset, .unset]) rfl q) ?_
    refine Wk.st (g' := (mkF m 74 #[.val (.int i0), .val (.int i1), .val (.int i2), .val (.int i3), .val (.int i4), .val (.int (1 : Int32)), .val (.ref b215), .val (.ref b243), .val (.ref b280), .val (.ref b326), .unset, .unset] [(.int i4)])) (fun X t q => XS.iload X.here C.hx rfl (hb C.hby at_72) rfl q) ?_
    refine Wk.ldcI C (hw _ (List.mem_of_getElem? (i := 26) rfl)) at_74 ?_
    show Wk _ p l e _ s m _ below meth c n0 _ h350 11 25 (mkF m 76 #[.val (.int i0), .val (.int i1), .val (.int i2), .val (.int i3), .val (.int i4), .val (.int (1 : Int32)), .val (.ref b215), .val (.ref b243), .val (.ref b280), .val (.ref b326), .unset, .unset] [(.int (2147483647 : Int32)), (.int i4)])
    refine Wk.st (g' := (mkF m 77 #[.val (.int i0), .val (.int i1), .val (.int i2), .val (.int i3), .val (.int i4), .val (.int (1 : Int32)), .val (.ref b215), .val (.ref b243), .val (.ref b280), .val (.ref b326), .unset, .unset] [(.int (i4 &&& (2147483647 : Int32)))])) (fun X t q => XS.iand X.here C.hx rfl (hb C.hby at_76) rfl q) ?_
    refine Wk.st (g' := (mkF m 78 #[.val (.int i0), .val (.int i1), .val (.int i2), .val (.int i3), .val (.int i4), .val (.int (1 : Int32)), .val (.ref b215), .val (.ref b243), .val (.ref b280), .val (.ref b326), .unset, .unset] [(.int (3 : Int32)), (.int (i4 &&& (2147483647 : Int32)))])) (fun X t q => XS.iconst X.here C.hx rfl (hb C.hby at_77) q) ?_
    refine Wk.st (g' := (mkF m 79 #[.val (.int i0), .val (.int i1), .val (.int i2), .val (.int i3), .val (.int i4), .val (.int (1 : Int32)), .val (.ref b215), .val (.ref b243), .val (.ref b280), .val (.ref b326), .unset, .unset] [(.int ((i4 &&& (2147483647 : Int32)) % (3 : Int32)))])) (fun X t q => iremM X C.hx rfl (hb C.hby at_78) rfl (by decide) q) ?_
    refine Wk.st (g' := (mkF m 81 #[.val (.int i0), .val (.int i1), .val (.int i2), .val (.int i3), .val (.int i4), .val (.int (1 : Int32)), .val (.ref b215), .val (.ref b243), .val (.ref b280), .val (.ref b326), .val (.int ((i4 &&& (2147483647 : Int32)) % (3 : Int32))), .unset] [])) (fun X t q => XS.istore X.here C.hx rfl (hb C.hby at_79) rfl (l' := #[.val (.int i0), .val (.int i1), .val (.int i2), .val (.int i3), .val (.int i4), .val (.int (1 : Int32)), .val (.ref b215), .val (.ref b243), .val (.ref b280), .val (.ref b326), .val (.int ((i4 &&& (2147483647 : Int32)) % (3 : Int32))), .unset]) rfl q) ?_
    rcases mod3 i4 with hi | hi | hi <;> rw [hi]
    · skip
      show Wk _ p l e _ s m _ below meth c n0 _ h350 11 25 (mkF m 81 #[.val (.int i0), .val (.int i1), .val (.int i2), .val (.int i3), .val (.int i4), .val (.int (1 : Int32)), .val (.ref b215), .val (.ref b243), .val (.ref b280), .val (.ref b326), .val (.int (0 : Int32)), .unset] [])
      refine Wk.st (g' := (mkF m 83 #[.val (.int i0), .val (.int i1), .val (.int i2), .val (.int i3), .val (.int i4), .val (.int (1 : Int32)), .val (.ref b215), .val (.ref b243), .val (.ref b280), .val (.ref b326), .val (.int (0 : Int32)), .unset] [(.int (0 : Int32))])) (fun X t q => XS.iload X.here C.hx rfl (hb C.hby at_81) rfl q) ?_
      refine Wk.st (g' := (mkF m 86 #[.val (.int i0), .val (.int i1), .val (.int i2), .val (.int i3), .val (.int i4), .val (.int (1 : Int32)), .val (.ref b215), .val (.ref b243), .val (.ref b280), .val (.ref b326), .val (.int (0 : Int32)), .unset] [])) (fun X t q => XS.ifNo X.here C.hx rfl (hb C.hby at_83) rfl (XT.i0_ne_f (by decide)) q) ?_
      refine Wk.st (g' := (mkF m 87 #[.val (.int i0), .val (.int i1), .val (.int i2), .val (.int i3), .val (.int i4), .val (.int (1 : Int32)), .val (.ref b215), .val (.ref b243), .val (.ref b280), .val (.ref b326), .val (.int (0 : Int32)), .unset] [(.int (1 : Int32))])) (fun X t q => XS.iconst X.here C.hx rfl (hb C.hby at_86) q) ?_
      refine Wk.st (g' := (mkF m 89 #[.val (.int i0), .val (.int i1), .val (.int i2), .val (.int i3), .val (.int i4), .val (.int (1 : Int32)), .val (.ref b215), .val (.ref b243), .val (.ref b280), .val (.ref b326), .val (.int (0 : Int32)), .val (.int (1 : Int32))] [])) (fun X t q => XS.istore X.here C.hx rfl (hb C.hby at_87) rfl (l' := #[.val (.int i0), .val (.int i1), .val (.int i2), .val (.int i3), .val (.int i4), .val (.int (1 : Int32)), .val (.ref b215), .val (.ref b243), .val (.ref b280), .val (.ref b326), .val (.int (0 : Int32)), .val (.int (1 : Int32))]) rfl q) ?_
      refine Wk.st (g' := (mkF m 118 #[.val (.int i0), .val (.int i1), .val (.int i2), .val (.int i3), .val (.int i4), .val (.int (1 : Int32)), .val (.ref b215), .val (.ref b243), .val (.ref b280), .val (.ref b326), .val (.int (0 : Int32)), .val (.int (1 : Int32))] [])) (fun X t q => XS.goto X.here C.hx rfl (pc0 := 89) (pc' := 118) rfl (hb C.hby at_89) (by decide) (by decide) q) ?_
      refine Wk.st (g' := (mkF m 120 #[.val (.int i0), .val (.int i1), .val (.int i2), .val (.int i3), .val (.int i4), .val (.int (1 : Int32)), .val (.ref b215), .val (.ref b243), .val (.ref b280), .val (.ref b326), .val (.int (0 : Int32)), .val (.int (1 : Int32))] [(.ref b326)])) (fun X t q => XS.aload X.here C.hx rfl (hb C.hby at_118) rfl rfl q) ?_
      refine Wk.st (g' := (mkF m 122 #[.val (.int i0), .val (.int i1), .val (.int i2), .val (.int i3), .val (.int i4), .val (.int (1 : Int32)), .val (.ref b215), .val (.ref b243), .val (.ref b280), .val (.ref b326), .val (.int (0 : Int32)), .val (.int (1 : Int32))] [(.int (0 : Int32)), (.ref b326)])) (fun X t q => XS.iload X.here C.hx rfl (hb C.hby at_120) rfl q) ?_
      refine Wk.callV C (x := (⟨"com/example/understory/understory/RootedTree", "parentStates", "(I)I"⟩ : MethodName)) (z := (⟨"com/example/understory/understory/RootedTree", "parentStates", "(I)I"⟩ : MethodName)) (K := "com/example/understory/understory/RootedTree") (hw _ (List.mem_of_getElem? (i := 27) rfl)) (hw _ (List.mem_of_getElem? (i := 28) rfl)) (hw _ (List.mem_of_getElem? (i := 30) rfl)) (hw _ (List.mem_of_getElem? (i := 29) rfl)) (hw _ (List.mem_of_getElem? (i := 3) rfl)) (hw _ (List.mem_of_getElem? (i := 31) rfl)) (by decide) (fun s' hZ' => notFace_of_selects (args := #[]) (mvT hZ' (hw _ (List.mem_of_getElem? (i := 30) rfl)))) F418 (own_4_7 l Z a0 hw n0 h350 sz419 b326 b215 b243 b280 n349_n52_b34 n349_b138 n349_n52_b51 n349_n52_b84 n349_n52_b122 i0 i1 i2 F412 F413 F414 F415 F416 F417 F418 F352 F353 F354 F355 F356 F357 F358 F359 F360 F361 F362 F363 F364 F365 F366 (Ne.symm ne331) (Ne.symm ne332) (Ne.symm ne333) ne385 ne391 ne397 ne403 ne409 ne248 ne285 ne382 ne388 ne394 ne400 ne406 ne286 ne383 ne389 ne395 ne401 ne407 ne384 ne390 ne396 ne402 ne408 ne372 ne373 ne374 ne375 ne376 ne377 ne378 ne379 ne380 ne381 ge334 ge220 ge249 ge287 ge386 ge392 ge398 ge404 ge410) (w := 0) (by decide) (by decide) pd_2 rfl (rest := []) rfl rfl (Nat.le_of_eq rfl) (by decide) (by decide) at_122 ?_
      rintro _ _ ⟨rfl, rfl⟩
      show Wk _ p l e _ s m _ below meth c n0 _ h350 11 25 (mkF m 125 #[.val (.int i0), .val (.int i1), .val (.int i2), .val (.int i3), .val (.int i4), .val (.int (1 : Int32)), .val (.ref b215), .val (.ref b243), .val (.ref b280), .val (.ref b326), .val (.int (0 : Int32)), .val (.int (1 : Int32))] [(.int (1 : Int32))])
      refine Wk.st (g' := (mkF m 127 #[.val (.int i0), .val (.int i1), .val (.int i2), .val (.int i3), .val (.int i4), .val (.int (1 : Int32)), .val (.ref b215), .val (.ref b243), .val (.ref b280), .val (.ref b326), .val (.int (0 : Int32)), .val (.int (1 : Int32))] [(.int (1 : Int32)), (.int (1 : Int32))])) (fun X t q => XS.iload X.here C.hx rfl (hb C.hby at_125) rfl q) ?_
      refine Wk.st (g' := (mkF m 130 #[.val (.int i0), .val (.int i1), .val (.int i2), .val (.int i3), .val (.int i4), .val (.int (1 : Int32)), .val (.ref b215), .val (.ref b243), .val (.ref b280), .val (.ref b326), .val (.int (0 : Int32)), .val (.int (1 : Int32))] [])) (fun X t q => XS.icmpNo X.here C.hx rfl (hb C.hby at_127) rfl (XT.ii_ne_f (by decide)) q) ?_
      refine Wk.st (g' := (mkF m 131 #[.val (.int i0), .val (.int i1), .val (.int i2), .val (.int i3), .val (.int i4), .val (.int (1 : Int32)), .val (.ref b215), .val (.ref b243), .val (.ref b280), .val (.ref b326), .val (.int (0 : Int32)), .val (.int (1 : Int32))] [(.int (1 : Int32))])) (fun X t q => XS.iconst X.here C.hx rfl (hb C.hby at_130) q) ?_
      refine Wk.st (g' := (mkF m 135 #[.val (.int i0), .val (.int i1), .val (.int i2), .val (.int i3), .val (.int i4), .val (.int (1 : Int32)), .val (.ref b215), .val (.ref b243), .val (.ref b280), .val (.ref b326), .val (.int (0 : Int32)), .val (.int (1 : Int32))] [(.int (1 : Int32))])) (fun X t q => XS.goto X.here C.hx rfl (pc0 := 131) (pc' := 135) rfl (hb C.hby at_131) (by decide) (by decide) q) ?_
      exact Wk.retV C (t := .boolean) rfl rfl (Or.inl ⟨rfl, by simp, _, rfl⟩) at_135 (by decide) (by decide) ⟨rfl, trivial⟩
    · skip
      show Wk _ p l e _ s m _ below meth c n0 _ h350 11 25 (mkF m 81 #[.val (.int i0), .val (.int i1), .val (.int i2), .val (.int i3), .val (.int i4), .val (.int (1 : Int32)), .val (.ref b215), .val (.ref b243), .val (.ref b280), .val (.ref b326), .val (.int (1 : Int32)), .unset] [])
      refine Wk.st (g' := (mkF m 83 #[.val (.int i0), .val (.int i1), .val (.int i2), .val (.int i3), .val (.int i4), .val (.int (1 : Int32)), .val (.ref b215), .val (.ref b243), .val (.ref b280), .val (.ref b326), .val (.int (1 : Int32)), .unset] [(.int (1 : Int32))])) (fun X t q => XS.iload X.here C.hx rfl (hb C.hby at_81) rfl q) ?_
      refine Wk.st (g' := (mkF m 92 #[.val (.int i0), .val (.int i1), .val (.int i2), .val (.int i3), .val (.int i4), .val (.int (1 : Int32)), .val (.ref b215), .val (.ref b243), .val (.ref b280), .val (.ref b326), .val (.int (1 : Int32)), .unset] [])) (fun X t q => XS.ifYes X.here C.hx rfl (pc0 := 83) (pc' := 92) rfl (hb C.hby at_83) rfl (XT.i0_ne_t (by decide)) (by decide) (by decide) q) ?_
      refine Wk.st (g' := (mkF m 94 #[.val (.int i0), .val (.int i1), .val (.int i2), .val (.int i3), .val (.int i4), .val (.int (1 : Int32)), .val (.ref b215), .val (.ref b243), .val (.ref b280), .val (.ref b326), .val (.int (1 : Int32)), .unset] [(.int (1 : Int32))])) (fun X t q => XS.iload X.here C.hx rfl (hb C.hby at_92) rfl q) ?_
      refine Wk.st (g' := (mkF m 95 #[.val (.int i0), .val (.int i1), .val (.int i2), .val (.int i3), .val (.int i4), .val (.int (1 : Int32)), .val (.ref b215), .val (.ref b243), .val (.ref b280), .val (.ref b326), .val (.int (1 : Int32)), .unset] [(.int (1 : Int32)), (.int (1 : Int32))])) (fun X t q => XS.iconst X.here C.hx rfl (hb C.hby at_94) q) ?_
      refine Wk.st (g' := (mkF m 98 #[.val (.int i0), .val (.int i1), .val (.int i2), .val (.int i3), .val (.int i4), .val (.int (1 : Int32)), .val (.ref b215), .val (.ref b243), .val (.ref b280), .val (.ref b326), .val (.int (1 : Int32)), .unset] [])) (fun X t q => XS.icmpNo X.here C.hx rfl (hb C.hby at_95) rfl (XT.ii_ne_f (by decide)) q) ?_
      refine Wk.st (g' := (mkF m 99 #[.val (.int i0), .val (.int i1), .val (.int i2), .val (.int i3), .val (.int i4), .val (.int (1 : Int32)), .val (.ref b215), .val (.ref b243), .val (.ref b280), .val (.ref b326), .val (.int (1 : Int32)), .unset] [(.int i0)])) (fun X t q => XS.iloadN X.here C.hx rfl (hb C.hby at_98) rfl q) ?_
      refine Wk.st (g' := (mkF m 101 #[.val (.int i0), .val (.int i1), .val (.int i2), .val (.int i3), .val (.int i4), .val (.int (1 : Int32)), .val (.ref b215), .val (.ref b243), .val (.ref b280), .val (.ref b326), .val (.int (1 : Int32)), .val (.int i0)] [])) (fun X t q => XS.istore X.here C.hx rfl (hb C.hby at_99) rfl (l' := #[.val (.int i0), .val (.int i1), .val (.int i2), .val (.int i3), .val (.int i4), .val (.int (1 : Int32)), .val (.ref b215), .val (.ref b243), .val (.ref b280), .val (.ref b326), .val (.int (1 : Int32)), .val (.int i0)]) rfl q) ?_
      refine Wk.st (g' := (mkF m 118 #[.val (.int i0), .val (.int i1), .val (.int i2), .val (.int i3), .val (.int i4), .val (.int (1 : Int32)), .val (.ref b215), .val (.ref b243), .val (.ref b280), .val (.ref b326), .val (.int (1 : Int32)), .val (.int i0)] [])) (fun X t q => XS.goto X.here C.hx rfl (pc0 := 101) (pc' := 118) rfl (hb C.hby at_101) (by decide) (by decide) q) ?_
      refine Wk.st (g' := (mkF m 120 #[.val (.int i0), .val (.int i1), .val (.int i2), .val (.int i3), .val (.int i4), .val (.int (1 : Int32)), .val (.ref b215), .val (.ref b243), .val (.ref b280), .val (.ref b326), .val (.int (1 : Int32)), .val (.int i0)] [(.ref b326)])) (fun X t q => XS.aload X.here C.hx rfl (hb C.hby at_118) rfl rfl q) ?_
      refine Wk.st (g' := (mkF m 122 #[.val (.int i0), .val (.int i1), .val (.int i2), .val (.int i3), .val (.int i4), .val (.int (1 : Int32)), .val (.ref b215), .val (.ref b243), .val (.ref b280), .val (.ref b326), .val (.int (1 : Int32)), .val (.int i0)] [(.int (1 : Int32)), (.ref b326)])) (fun X t q => XS.iload X.here C.hx rfl (hb C.hby at_120) rfl q) ?_
      refine Wk.callV C (x := (⟨"com/example/understory/understory/RootedTree", "parentStates", "(I)I"⟩ : MethodName)) (z := (⟨"com/example/understory/understory/RootedTree", "parentStates", "(I)I"⟩ : MethodName)) (K := "com/example/understory/understory/RootedTree") (hw _ (List.mem_of_getElem? (i := 27) rfl)) (hw _ (List.mem_of_getElem? (i := 28) rfl)) (hw _ (List.mem_of_getElem? (i := 30) rfl)) (hw _ (List.mem_of_getElem? (i := 29) rfl)) (hw _ (List.mem_of_getElem? (i := 3) rfl)) (hw _ (List.mem_of_getElem? (i := 31) rfl)) (by decide) (fun s' hZ' => notFace_of_selects (args := #[]) (mvT hZ' (hw _ (List.mem_of_getElem? (i := 30) rfl)))) F418 (own_4_8 l Z a0 hw n0 h350 sz419 b326 b215 b243 b280 n349_n52_b34 n349_b138 n349_n52_b51 n349_n52_b84 n349_n52_b122 i0 i1 i2 F412 F413 F414 F415 F416 F417 F418 F352 F353 F354 F355 F356 F357 F358 F359 F360 F361 F362 F363 F364 F365 F366 (Ne.symm ne331) (Ne.symm ne332) (Ne.symm ne333) ne385 ne391 ne397 ne403 ne409 ne248 ne285 ne382 ne388 ne394 ne400 ne406 ne286 ne383 ne389 ne395 ne401 ne407 ne384 ne390 ne396 ne402 ne408 ne372 ne373 ne374 ne375 ne376 ne377 ne378 ne379 ne380 ne381 ge334 ge220 ge249 ge287 ge386 ge392 ge398 ge404 ge410) (w := 0) (by decide) (by decide) pd_2 rfl (rest := []) rfl rfl (Nat.le_of_eq rfl) (by decide) (by decide) at_122 ?_
      rintro _ _ ⟨rfl, rfl⟩
      show Wk _ p l e _ s m _ below meth c n0 _ h350 11 25 (mkF m 125 #[.val (.int i0), .val (.int i1), .val (.int i2), .val (.int i3), .val (.int i4), .val (.int (1 : Int32)), .val (.ref b215), .val (.ref b243), .val (.ref b280), .val (.ref b326), .val (.int (1 : Int32)), .val (.int i0)] [(.int i0)])
      refine Wk.st (g' := (mkF m 127 #[.val (.int i0), .val (.int i1), .val (.int i2), .val (.int i3), .val (.int i4), .val (.int (1 : Int32)), .val (.ref b215), .val (.ref b243), .val (.ref b280), .val (.ref b326), .val (.int (1 : Int32)), .val (.int i0)] [(.int i0), (.int i0)])) (fun X t q => XS.iload X.here C.hx rfl (hb C.hby at_125) rfl q) ?_
      refine Wk.st (g' := (mkF m 130 #[.val (.int i0), .val (.int i1), .val (.int i2), .val (.int i3), .val (.int i4), .val (.int (1 : Int32)), .val (.ref b215), .val (.ref b243), .val (.ref b280), .val (.ref b326), .val (.int (1 : Int32)), .val (.int i0)] [])) (fun X t q => XS.icmpNo X.here C.hx rfl (hb C.hby at_127) rfl (XT.ii_ne_f rfl) q) ?_
      refine Wk.st (g' := (mkF m 131 #[.val (.int i0), .val (.int i1), .val (.int i2), .val (.int i3), .val (.int i4), .val (.int (1 : Int32)), .val (.ref b215), .val (.ref b243), .val (.ref b280), .val (.ref b326), .val (.int (1 : Int32)), .val (.int i0)] [(.int (1 : Int32))])) (fun X t q => XS.iconst X.here C.hx rfl (hb C.hby at_130) q) ?_
      refine Wk.st (g' := (mkF m 135 #[.val (.int i0), .val (.int i1), .val (.int i2), .val (.int i3), .val (.int i4), .val (.int (1 : Int32)), .val (.ref b215), .val (.ref b243), .val (.ref b280), .val (.ref b326), .val (.int (1 : Int32)), .val (.int i0)] [(.int (1 : Int32))])) (fun X t q => XS.goto X.here C.hx rfl (pc0 := 131) (pc' := 135) rfl (hb C.hby at_131) (by decide) (by decide) q) ?_
      exact Wk.retV C (t := .boolean) rfl rfl (Or.inl ⟨rfl, by simp, _, rfl⟩) at_135 (by decide) (by decide) ⟨rfl, trivial⟩
    · skip
      show Wk _ p l e _ s m _ below meth c n0 _ h350 11 25 (mkF m 81 #[.val (.int i0), .val (.int i1), .val (.int i2), .val (.int i3), .val (.int i4), .val (.int (1 : Int32)), .val (.ref b215), .val (.ref b243), .val (.ref b280), .val (.ref b326), .val (.int (2 : Int32)), .unset] [])
      refine Wk.st (g' := (mkF m 83 #[.val (.int i0), .val (.int i1), .val (.int i2), .val (.int i3), .val (.int i4), .val (.int (1 : Int32)), .val (.ref b215), .val (.ref b243), .val (.ref b280), .val (.ref b326), .val (.int (2 : Int32)), .unset] [(.int (2 : Int32))])) (fun X t q => XS.iload X.here C.hx rfl (hb C.hby at_81) rfl q) ?_
      refine Wk.st (g' := (mkF m 92 #[.val (.int i0), .val (.int i1), .val (.int i2), .val (.int i3), .val (.int i4), .val (.int (1 : Int32)), .val (.ref b215), .val (.ref b243), .val (.ref b280), .val (.ref b326), .val (.int (2 : Int32)), .unset] [])) (fun X t q => XS.ifYes X.here C.hx rfl (pc0 := 83) (pc' := 92) rfl (hb C.hby at_83) rfl (XT.i0_ne_t (by decide)) (by decide) (by decide) q) ?_
      refine Wk.st (g' := (mkF m 94 #[.val (.int i0), .val (.int i1), .val (.int i2), .val (.int i3), .val (.int i4), .val (.int (1 : Int32)), .val (.ref b215), .val (.ref b243), .val (.ref b280), .val (.ref b326), .val (.int (2 : Int32)), .unset] [(.int (2 : Int32))])) (fun X t q => XS.iload X.here C.hx rfl (hb C.hby at_92) rfl q) ?_
      refine Wk.st (g' := (mkF m 95 #[.val (.int i0), .val (.int i1), .val (.int i2), .val (.int i3), .val (.int i4), .val (.int (1 : Int32)), .val (.ref b215), .val (.ref b243), .val (.ref b280), .val (.ref b326), .val (.int (2 : Int32)), .unset] [(.int (1 : Int32)), (.int (2 : Int32))])) (fun X t q => XS.iconst X.here C.hx rfl (hb C.hby at_94) q) ?_
      refine Wk.st (g' := (mkF m 104 #[.val (.int i0), .val (.int i1), .val (.int i2), .val (.int i3), .val (.int i4), .val (.int (1 : Int32)), .val (.ref b215), .val (.ref b243), .val (.ref b280), .val (.ref b326), .val (.int (2 : Int32)), .unset] [])) (fun X t q => XS.icmpYes X.here C.hx rfl (pc0 := 95) (pc' := 104) rfl (hb C.hby at_95) rfl (XT.ii_ne_t (by decide)) (by decide) (by decide) q) ?_
      refine Wk.st (g' := (mkF m 106 #[.val (.int i0), .val (.int i1), .val (.int i2), .val (.int i3), .val (.int i4), .val (.int (1 : Int32)), .val (.ref b215), .val (.ref b243), .val (.ref b280), .val (.ref b326), .val (.int (2 : Int32)), .unset] [(.int (1 : Int32))])) (fun X t q => XS.iload X.here C.hx rfl (hb C.hby at_104) rfl q) ?_
      refine Wk.st (g' := (mkF m 115 #[.val (.int i0), .val (.int i1), .val (.int i2), .val (.int i3), .val (.int i4), .val (.int (1 : Int32)), .val (.ref b215), .val (.ref b243), .val (.ref b280), .val (.ref b326), .val (.int (2 : Int32)), .unset] [])) (fun X t q => XS.ifYes X.here C.hx rfl (pc0 := 106) (pc' := 115) rfl (hb C.hby at_106) rfl (XT.i0_ne_t (by decide)) (by decide) (by decide) q) ?_
      refine Wk.st (g' := (mkF m 116 #[.val (.int i0), .val (.int i1), .val (.int i2), .val (.int i3), .val (.int i4), .val (.int (1 : Int32)), .val (.ref b215), .val (.ref b243), .val (.ref b280), .val (.ref b326), .val (.int (2 : Int32)), .unset] [(.int i1)])) (fun X t q => XS.iloadN X.here C.hx rfl (hb C.hby at_115) rfl q) ?_
      refine Wk.st (g' := (mkF m 118 #[.val (.int i0), .val (.int i1), .val (.int i2), .val (.int i3), .val (.int i4), .val (.int (1 : Int32)), .val (.ref b215), .val (.ref b243), .val (.ref b280), .val (.ref b326), .val (.int (2 : Int32)), .val (.int i1)] [])) (fun X t q => XS.istore X.here C.hx rfl (hb C.hby at_116) rfl (l' := #[.val (.int i0), .val (.int i1), .val (.int i2), .val (.int i3), .val (.int i4), .val (.int (1 : Int32)), .val (.ref b215), .val (.ref b243), .val (.ref b280), .val (.ref b326), .val (.int (2 : Int32)), .val (.int i1)]) rfl q) ?_
      refine Wk.st (g' := (mkF m 120 #[.val (.int i0), .val (.int i1), .val (.int i2), .val (.int i3), .val (.int i4), .val (.int (1 : Int32)), .val (.ref b215), .val (.ref b243), .val (.ref b280), .val (.ref b326), .val (.int (2 : Int32)), .val (.int i1)] [(.ref b326)])) (fun X t q => XS.aload X.here C.hx rfl (hb C.hby at_118) rfl rfl q) ?_
      refine Wk.st (g' := (mkF m 122 #[.val (.int i0), .val (.int i1), .val (.int i2), .val (.int i3), .val (.int i4), .val (.int (1 : Int32)), .val (.ref b215), .val (.ref b243), .val (.ref b280), .val (.ref b326), .val (.int (2 : Int32)), .val (.int i1)] [(.int (2 : Int32)), (.ref b326)])) (fun X t q => XS.iload X.here C.hx rfl (hb C.hby at_120) rfl q) ?_
      refine Wk.callV C (x := (⟨"com/example/understory/understory/RootedTree", "parentStates", "(I)I"⟩ : MethodName)) (z := (⟨"com/example/understory/understory/RootedTree", "parentStates", "(I)I"⟩ : MethodName)) (K := "com/example/understory/understory/RootedTree") (hw _ (List.mem_of_getElem? (i := 27) rfl)) (hw _ (List.mem_of_getElem? (i := 28) rfl)) (hw _ (List.mem_of_getElem? (i := 30) rfl)) (hw _ (List.mem_of_getElem? (i := 29) rfl)) (hw _ (List.mem_of_getElem? (i := 3) rfl)) (hw _ (List.mem_of_getElem? (i := 31) rfl)) (by decide) (fun s' hZ' => notFace_of_selects (args := #[]) (mvT hZ' (hw _ (List.mem_of_getElem? (i := 30) rfl)))) F418 (own_4_9 l Z a0 hw n0 h350 sz419 b326 b215 b243 b280 n349_n52_b34 n349_b138 n349_n52_b51 n349_n52_b84 n349_n52_b122 i0 i1 i2 F412 F413 F414 F415 F416 F417 F418 F352 F353 F354 F355 F356 F357 F358 F359 F360 F361 F362 F363 F364 F365 F366 (Ne.symm ne331) (Ne.symm ne332) (Ne.symm ne333) ne385 ne391 ne397 ne403 ne409 ne248 ne285 ne382 ne388 ne394 ne400 ne406 ne286 ne383 ne389 ne395 ne401 ne407 ne384 ne390 ne396 ne402 ne408 ne372 ne373 ne374 ne375 ne376 ne377 ne378 ne379 ne380 ne381 ge334 ge220 ge249 ge287 ge386 ge392 ge398 ge404 ge410) (w := 0) (by decide) (by decide) pd_2 rfl (rest := []) rfl rfl (Nat.le_of_eq rfl) (by decide) (by decide) at_122 ?_
      rintro _ _ ⟨rfl, rfl⟩
      show Wk _ p l e _ s m _ below meth c n0 _ h350 11 25 (mkF m 125 #[.val (.int i0), .val (.int i1), .val (.int i2), .val (.int i3), .val (.int i4), .val (.int (1 : Int32)), .val (.ref b215), .val (.ref b243), .val (.ref b280), .val (.ref b326), .val (.int (2 : Int32)), .val (.int i1)] [(.int i1)])
      refine Wk.st (g' := (mkF m 127 #[.val (.int i0), .val (.int i1), .val (.int i2), .val (.int i3), .val (.int i4), .val (.int (1 : Int32)), .val (.ref b215), .val (.ref b243), .val (.ref b280), .val (.ref b326), .val (.int (2 : Int32)), .val (.int i1)] [(.int i1), (.int i1)])) (fun X t q => XS.iload X.here C.hx rfl (hb C.hby at_125) rfl q) ?_
      refine Wk.st (g' := (mkF m 130 #[.val (.int i0), .val (.int i1), .val (.int i2), .val (.int i3), .val (.int i4), .val (.int (1 : Int32)), .val (.ref b215), .val (.ref b243), .val (.ref b280), .val (.ref b326), .val (.int (2 : Int32)), .val (.int i1)] [])) (fun X t q => XS.icmpNo X.here C.hx rfl (hb C.hby at_127) rfl (XT.ii_ne_f rfl) q) ?_
      refine Wk.st (g' := (mkF m 131 #[.val (.int i0), .val (.int i1), .val (.int i2), .val (.int i3), .val (.int i4), .val (.int (1 : Int32)), .val (.ref b215), .val (.ref b243), .val (.ref b280), .val (.ref b326), .val (.int (2 : Int32)), .val (.int i1)] [(.int (1 : Int32))])) (fun X t q => XS.iconst X.here C.hx rfl (hb C.hby at_130) q) ?_
      refine Wk.st (g' := (mkF m 135 #[.val (.int i0), .val (.int i1), .val (.int i2), .val (.int i3), .val (.int i4), .val (.int (1 : Int32)), .val (.ref b215), .val (.ref b243), .val (.ref b280), .val (.ref b326), .val (.int (2 : Int32)), .val (.int i1)] [(.int (1 : Int32))])) (fun X t q => XS.goto X.here C.hx rfl (pc0 := 131) (pc' := 135) rfl (hb C.hby at_131) (by decide) (by decide) q) ?_
      exact Wk.retV C (t := .boolean) rfl rfl (Or.inl ⟨rfl, by simp, _, rfl⟩) at_135 (by decide) (by decide) ⟨rfl, trivial⟩
set_option maxRecDepth 65536 in
set_option maxHeartbeats 40000000 in
theorem comes_1 {Post : Tables → Env → Array Value → State → Outcome → State → Prop} (hpost : ∀ tb e args s v u, (limb_1_1.after args s (.returned v) u = true ∧ limb_1_2.after args s (.returned v) u = true ∧ True) → FrameEnd s (.returned v) u (Jvm.fieldLocs frame_1_writes args s ++ Jvm.arrayLocs frame_1_arrays args s ++ Jvm.staticLocs frame_1_statics s) 32 128 → Post tb e args s (.returned v) u) :
    ArmFor flags0 classFile x code maxLocals ret World_1 tables_1 room_1 Calls_1 rest_1 Pre_1 Post := by
  intro l hfl _ _ p e ha hc hk s m args below hf hA hF happ hP
  obtain ⟨hcalls, hrest, hpre⟩ := hP
  obtain ⟨-, -, -, hnamed, -, -, -, hat⟩ := (Spec.applies_iff hf).mp happ
  obtain ⟨hg, hn⟩ := and_e (Cond.before_iff.mp (show (Jvm.Cond.and given_1 narrow_1).before args s = true from hpre))
  obtain ⟨hcount, g0⟩ := and_e hg
  obtain ⟨v0, v1, v2, v3, v4, rfl⟩ : ∃ v0 v1 v2 v3 v4 : Value, args = #[v0, v1, v2, v3, v4] := by
    have hs : args.size = 5 := by simpa [Cond.value, given_1] using hcount
    obtain ⟨L⟩ := args
    match L, hs with
    | [v0, v1, v2, v3, v4], _ => exact ⟨v0, v1, v2, v3, v4, rfl⟩
  have hw := fun d (hd : d ∈ tables_1) => atoms_spec (ws := Jvm.Cond.code x code maxLocals ret :: tables_1) hat d (List.mem_cons_of_mem _ hd)
  have hfit : Fit s := fun {y c} hc i hi => by
    obtain ⟨ha, rfl⟩ := Array.getElem?_eq_some_iff.mp hc
    have q := List.all_eq_true.mp ((Array.all_eq_true_iff_forall_mem.mp hF) _ (Array.getElem_mem ha)) i (List.mem_range.mpr hi)
    simpa [Array.getElem?_eq_getElem hi] using q
  obtain ⟨e0, g1⟩ := and_e g0
  obtain ⟨i0, f0⟩ := is_v e0
  obtain rfl : v0 = (.int i0) := Option.some.inj f0
  obtain ⟨e1, g2⟩ := and_e g1
  obtain ⟨i1, f1⟩ := is_v e1
  obtain rfl : v1 = (.int i1) := Option.some.inj f1
  obtain ⟨e2, g3⟩ := and_e g2
  obtain ⟨i2, f2⟩ := is_v e2
  obtain rfl : v2 = (.int i2) := Option.some.inj f2
  obtain ⟨e3, g4⟩ := and_e g3
  obtain ⟨i3, f3⟩ := is_v e3
  obtain rfl : v3 = (.int i3) := Option.some.inj f3
  obtain ⟨i4, f4⟩ := is_v g4
  obtain rfl : v4 = (.int i4) := Option.some.inj f4
  obtain ⟨n, o, h1, h2, h3, _, L, rfl, ⟨⟨rfl, -⟩, N⟩, hq⟩ := law_met l s _ hw s.heap.size s.heap (Nat.le_refl _) i0 i1 i2 i3 i4 tables_1 p e ha hc hk s m _ below hf ((Spec.applies_iff_loose hf).mp happ).1 ⟨rfl, State.Warmed39.refl s, rfl⟩ trivial
  refine ⟨n, _, h1, h2, h3, hpost _ _ _ _ _ _ ⟨Cond.after_iff.mpr rfl, Cond.after_iff.mpr (eq_i res_at (Term.int_eval (1)) rfl), trivial⟩ ⟨hq.1, hq.2.1, (hq.2.2.sift fun y hy => Or.inr (N y hy)).mono (by decide) (by decide)⟩⟩
theorem main_1_1 : Claimed_1_1 := comes_1 fun _ _ _ _ _ _ h hF => ⟨h.1, hF⟩
theorem main_1_2 : Claimed_1_2 := comes_1 fun _ _ _ _ _ _ h hF => ⟨h.2.1, hF⟩
end Jvm.Pilot.@@N@@
namespace Jvm.Pilot.@@N@@
open Jvm Jvm.ClassFile Sem Op Lib Jvm.Free Jvm.Stand Jvm.Pilot.@@N@@.Jvm.D
/-! MADE BY PROGRAM (witnessworld.py) out of the Statement's table words and the real class files: 9 classes; the members and pool entries that the words name. The judged class is class 1, her method 1. -/
namespace start1
open Jvm.ClassFile
def u (s : String) : CpInfo := .utf8 (stringToUtf16 s)
/-- a pool by its gaps: so many unusable entries, then the entry; so many at the end -/
def gap : Nat → List CpInfo → List CpInfo
  | 0, r => r
  | n + 1, r => .unusable :: gap n r
def poolList (es : List (Nat × CpInfo)) (last : Nat) : List CpInfo := es.foldr (fun e r => gap e.1 (e.2 :: r)) (gap last [])
def pool (es : List (Nat × CpInfo)) (last : Nat) : Array CpInfo := ⟨poolList es last⟩
def fileOf (pool : Array CpInfo) (this : Nat) (attrs : Array Attribute := #[]) (ms : Array MethodInfo := #[]) (fl : Nat := 33) (sup : Nat := 0) (ifs : Array Nat := #[]) (fds : Array FieldInfo := #[]) : ClassFile where
  minorVersion := 0
  majorVersion := 65
  constantPool := pool
  accessFlags := fl
  thisClass := this
  superClass := sup
  interfaces := ifs
  fields := fds
  methods := ms
  attributes := attrs
def plain (name : String) (sup : Option ClassId) : Class where
  name := name
  kind := .ordinary
  loader := none
  accessFlags := 33
  super := sup
  interfaces := #[]
  cf := none
  fields := #[]
  methods := #[]
  instanceTypes := #[]
  staticTypes := #[]
  resolved := #[]
  callSites := []
  init := .initialized
  statics := none
  mirror := none

def pool0 : Array CpInfo := pool [(5, u "<init>"), (0, u "()V"), (1, .class_ 10), (1, u "java/lang/Object")] 113

def k0c0 : Code := { maxStack := 0, maxLocals := 1, code := object_method_1_code, exceptionTable := #[], attributes := #[] }
def k0m0 : Method := { name := "<init>", desc := "()V", sig := { parameters := [], returnType := none }, accessFlags := 1, code := some k0c0 }
/-- java/lang/Object -/
def k0 : Class := { plain "java/lang/Object" none with
  accessFlags := 33
  interfaces := #[]
  cf := some (fileOf pool0 8 #[] #[{ accessFlags := 1, nameIndex := 5, descriptorIndex := 6, attributes := #[] }] 33 0 #[] #[])
  fields := #[]
  methods := #[k0m0]
  instanceTypes := #[]
  staticTypes := #[]
  resolved := Array.replicate 124 none
  statics := none }

def pool1 : Array CpInfo := pool [(2, .class_ 4), (1, u "java/lang/Object"), (0, u "<init>"), (0, u "()V"), (0, .class_ 8), (0, u "com/example/understory/understory/RootedTree"), (0, .methodref 7 10), (0, .nameAndType 5 11), (0, u "([I[I[I)V"), (0, .integer 2147483647), (0, .methodref 7 14), (0, .nameAndType 15 16), (0, u "parentStates"), (0, u "(I)I"), (0, .class_ 18), (0, u "com/example/understory/understory/RootedTreeParentStatesPinLaw"), (2, u "law"), (0, u "(IIIII)Z")] 5

def k1m0 : Method := { name := "<init>", desc := "()V", sig := { parameters := [], returnType := none }, accessFlags := 1, code := none }
def k1c1 : Code := { maxStack := 5, maxLocals := 12, code := code, exceptionTable := #[], attributes := #[] }
def k1m1 : Method := { name := "law", desc := "(IIIII)Z", sig := { parameters := [.int, .int, .int, .int, .int], returnType := some .boolean }, accessFlags := 9, code := some k1c1 }
/-- com/example/understory/understory/RootedTreeParentStatesPinLaw -/
def k1 : Class := { plain "com/example/understory/understory/RootedTreeParentStatesPinLaw" (some 0) with
  accessFlags := 49
  interfaces := #[]
  cf := some (fileOf pool1 17 #[] #[{ accessFlags := 1, nameIndex := 5, descriptorIndex := 6, attributes := #[] }, { accessFlags := 9, nameIndex := 21, descriptorIndex := 22, attributes := #[] }] 49 2 #[] #[])
  fields := #[]
  methods := #[k1m0, k1m1]
  instanceTypes := #[]
  staticTypes := #[]
  resolved := Array.replicate 28 none
  statics := none }

def pool2 : Array CpInfo := pool [(1, .methodref 2 3), (0, .class_ 4), (0, .nameAndType 5 6), (0, u "java/lang/Object"), (0, u "<init>"), (0, u "()V"), (0, .fieldref 8 9), (0, .class_ 10), (0, .nameAndType 11 12), (0, u "com/example/understory/understory/RootedTree"), (0, u "parent"), (0, u "[I"), (0, .fieldref 8 14), (0, .nameAndType 15 12), (0, u "states"), (0, .fieldref 8 17), (0, .nameAndType 18 12), (0, u "column"), (0, .methodref 8 20), (0, .nameAndType 21 22), (0, u "childrenOf"), (0, u "([I)[[I"), (0, .fieldref 8 24), (0, .nameAndType 25 26), (0, u "children"), (0, u "[[I"), (0, .fieldref 8 28), (0, .nameAndType 29 12), (0, u "nodeOfColumn"), (0, .class_ 12), (10, u "parentStates"), (0, u "(I)I"), (0, u "([I[I[I)V")] 11

def k2c0 : Code := { maxStack := 3, maxLocals := 7, code := prog_21_method_1_code, exceptionTable := #[], attributes := #[] }
def k2m0 : Method := { name := "<init>", desc := "([I[I[I)V", sig := { parameters := [(.array .int), (.array .int), (.array .int)], returnType := none }, accessFlags := 0, code := some k2c0 }
def k2c1 : Code := { maxStack := 6, maxLocals := 6, code := prog_21_method_2_code, exceptionTable := #[], attributes := #[] }
def k2m1 : Method := { name := "childrenOf", desc := "([I)[[I", sig := { parameters := [(.array .int)], returnType := some (.array (.array .int)) }, accessFlags := 8, code := some k2c1 }
def k2c2 : Code := { maxStack := 3, maxLocals := 2, code := prog_21_method_10_code, exceptionTable := #[], attributes := #[] }
def k2m2 : Method := { name := "parentStates", desc := "(I)I", sig := { parameters := [.int], returnType := some .int }, accessFlags := 0, code := some k2c2 }
/-- com/example/understory/understory/RootedTree -/
def k2 : Class := { plain "com/example/understory/understory/RootedTree" (some 0) with
  accessFlags := 48
  interfaces := #[]
  cf := some (fileOf pool2 8 #[] #[{ accessFlags := 0, nameIndex := 5, descriptorIndex := 43, attributes := #[] }, { accessFlags := 8, nameIndex := 21, descriptorIndex := 22, attributes := #[] }, { accessFlags := 0, nameIndex := 41, descriptorIndex := 42, attributes := #[] }] 48 2 #[] #[{ accessFlags := 18, nameIndex := 11, descriptorIndex := 12, attributes := #[] }, { accessFlags := 18, nameIndex := 15, descriptorIndex := 12, attributes := #[] }, { accessFlags := 18, nameIndex := 18, descriptorIndex := 12, attributes := #[] }, { accessFlags := 18, nameIndex := 25, descriptorIndex := 26, attributes := #[] }, { accessFlags := 18, nameIndex := 29, descriptorIndex := 12, attributes := #[] }])
  fields := #[{ name := "parent", type := (.array .int), accessFlags := 18, slot := 0, constantValue := 0 }, { name := "states", type := (.array .int), accessFlags := 18, slot := 1, constantValue := 0 }, { name := "column", type := (.array .int), accessFlags := 18, slot := 2, constantValue := 0 }, { name := "children", type := (.array (.array .int)), accessFlags := 18, slot := 3, constantValue := 0 }, { name := "nodeOfColumn", type := (.array .int), accessFlags := 18, slot := 4, constantValue := 0 }]
  methods := #[k2m0, k2m1, k2m2]
  instanceTypes := #[(.array .int), (.array .int), (.array .int), (.array (.array .int)), (.array .int)]
  staticTypes := #[]
  resolved := Array.replicate 55 none
  statics := none }

def pool3 : Array CpInfo := pool [(1, u "java/lang/Cloneable"), (0, .class_ 1), (0, u "java/lang/Object"), (0, .class_ 3)] 3

/-- java/lang/Cloneable -/
def k3 : Class := { plain "java/lang/Cloneable" (some 0) with
  accessFlags := 1537
  interfaces := #[]
  cf := some (fileOf pool3 2 #[] #[] 1537 4 #[] #[])
  fields := #[]
  methods := #[]
  instanceTypes := #[]
  staticTypes := #[]
  resolved := Array.replicate 8 none
  statics := none }

def pool4 : Array CpInfo := pool [(1, u "java/io/Serializable"), (0, .class_ 1), (0, u "java/lang/Object"), (0, .class_ 3)] 3

/-- java/io/Serializable -/
def k4 : Class := { plain "java/io/Serializable" (some 0) with
  accessFlags := 1537
  interfaces := #[]
  cf := some (fileOf pool4 2 #[] #[] 1537 4 #[] #[])
  fields := #[]
  methods := #[]
  instanceTypes := #[]
  staticTypes := #[]
  resolved := Array.replicate 8 none
  statics := none }

/-- the primitive byte -/
def k5 : Class := { plain "byte" none with kind := .primitive 'B', accessFlags := 0x411 }
/-- [B -/
def k6 : Class := { plain "[B" (some 0) with kind := .array 5 .byte, interfaces := #[3, 4], accessFlags := 1041 }

/-- the primitive int -/
def k7 : Class := { plain "int" none with kind := .primitive 'I', accessFlags := 0x411 }
/-- [I -/
def k8 : Class := { plain "[I" (some 0) with kind := .array 7 .int, interfaces := #[3, 4], accessFlags := 1041 }

def heap : Heap := #[]
def k9 : Class := { plain "[[I" (some 0) with kind := .array 8 (.array .int), interfaces := #[3, 4], accessFlags := 1041 }
def classes : Array Class := #[k0, k1, k2, k3, k4, k5, k6, k7, k8, k9]
def interned : List (Array UInt16 × Addr) := []
def slotsUsed : Nat := 0
def theMethod : MethodId := ⟨1, 1⟩
def args0 : Array Value := #[.int 5, .int 7, .int 9, .int 1, .int 2]
def aboutOver (below : List Frame) : State where
  vm := { classes := classes, interned := interned.toArray }
  heap := heap
  slotsUsed := slotsUsed
  threads := #[{ frames := .invoking theMethod args0 :: below }]
def below0 : List Frame := [.native { method := ⟨0, 0⟩, args := #[] }]
def about1 : State := aboutOver below0
def p0 : Program := .bare "" "" ""
def e0 : Env := launch0.env 0 0 0
theorem w_frames : about1.frames = Frame.invoking theMethod args0 :: below0 := rfl
set_option maxRecDepth 65536 in
theorem w_args : argsFit about1.vm theMethod args0 = true := by decide +kernel
set_option maxRecDepth 65536 in
theorem w_heap : heapFits about1 = true := by decide +kernel
set_option maxRecDepth 65536 in
theorem w_runnable : about1.curStatus? = some .runnable := by decide +kernel
set_option maxRecDepth 65536 in
theorem w_alone : about1.alone = true := by decide +kernel
set_option maxRecDepth 65536 in
theorem w_named : about1.methodNamed? x = some theMethod := by decide +kernel
set_option maxRecDepth 65536 in
theorem w_hears : about1.hears theMethod below0 = true := by decide +kernel
set_option maxRecDepth 65536 in
theorem w_ripe : about1.ripe theMethod args0 below0 = true := by decide +kernel
theorem w_running : about1.status = .running := rfl
set_option maxRecDepth 65536 in
theorem w_room : about1.hasRoom e0.platform room_1 = true :=
  launch0.hasRoom_least _ room_1 (by decide +kernel) (by decide +kernel) (by decide +kernel) (by decide +kernel) (by decide +kernel) (by decide +kernel)
theorem allAtoms_all (ts : List Jvm.Cond) (a : Array Jvm.Value) (st : Jvm.State) : (allAtoms ts).before a st = ts.all (fun c => c.before a st) := by
  induction ts with
  | nil => rfl
  | cons c t ih =>
    show (Jvm.Cond.and c (allAtoms t)).before a st = _
    rw [Jvm.Cond.before_and, ih, List.all_cons]
def words1 : List Jvm.Cond := Jvm.Cond.code x code maxLocals ret :: tables_1
/-- a 'code' word, met by the world's own term for the bytes: nothing is compared byte by byte -/
theorem code_word {y : MethodName} {bytes : ByteArray} {mx : Nat} {rt : Option FieldType} {a : Array Value} {s : State} {m : MethodId} {meth : Method} {c : Code} (h1 : s.methodNamed? y = some m) (h2 : s.vm.method? m = some meth) (h3 : meth.code = some c) (h4 : c.code = bytes)
    (h5 : (c.maxLocals == mx && c.exceptionTable.isEmpty && decide (c.maxStack ≤ mostOperands) && decide (meth.sig.returnType = rt) && !meth.locks && decide (parseMethodDescriptor y.desc = some meth.sig)) = true) : (Jvm.Cond.code y bytes mx rt).before a s = true := by
  simp only [Bool.and_eq_true, beq_iff_eq, Bool.not_eq_true', decide_eq_true_eq] at h5
  obtain ⟨⟨⟨⟨⟨g1, g2⟩, g3⟩, g4⟩, g5⟩, g6⟩ := h5
  simp [Cond.before, Cond.holds, Cond.value, h1, h2, h3, h4, g1, g2, g3, g4, g5, g6]
def isCode : Jvm.Cond → Bool
  | .code _ _ _ _ => true
  | _ => false
theorem all_split {L : List Jvm.Cond} {P : Jvm.Cond → Bool} (h1 : L.all (fun c => isCode c || P c) = true) (h2 : ∀ c ∈ L.filter isCode, P c = true) : L.all P = true := by
  refine List.all_eq_true.mpr fun c hc => ?_
  have h := List.all_eq_true.mp h1 c hc
  rcases Bool.eq_false_or_eq_true (isCode c) with hi | hi
  · exact h2 c (List.mem_filter.mpr ⟨hc, hi⟩)
  · simpa [hi] using h
set_option maxRecDepth 65536 in
theorem w_c0 : (Jvm.Cond.code x code maxLocals ret).before args0 about1 = true := code_word (m := ⟨1, 1⟩) (meth := k1m1) (c := k1c1) (by decide +kernel) rfl rfl rfl (by decide +kernel)
set_option maxRecDepth 65536 in
theorem w_c1 : (Jvm.Cond.code ({ cls := "com/example/understory/understory/RootedTree", name := "<init>", desc := "([I[I[I)V" } : Jvm.MethodName) prog_21_method_1_code (7 : Nat) (Option.none : Option Jvm.ClassFile.FieldType)).before args0 about1 = true := code_word (m := ⟨2, 0⟩) (meth := k2m0) (c := k2c0) (by decide +kernel) rfl rfl rfl (by decide +kernel)
set_option maxRecDepth 65536 in
theorem w_c2 : (Jvm.Cond.code ({ cls := "java/lang/Object", name := "<init>", desc := "()V" } : Jvm.MethodName) object_method_1_code (1 : Nat) (Option.none : Option Jvm.ClassFile.FieldType)).before args0 about1 = true := code_word (m := ⟨0, 0⟩) (meth := k0m0) (c := k0c0) (by decide +kernel) rfl rfl rfl (by decide +kernel)
set_option maxRecDepth 65536 in
theorem w_c3 : (Jvm.Cond.code ({ cls := "com/example/understory/understory/RootedTree", name := "childrenOf", desc := "([I)[[I" } : Jvm.MethodName) prog_21_method_2_code (6 : Nat) (Option.some (Jvm.ClassFile.FieldType.array (Jvm.ClassFile.FieldType.array Jvm.ClassFile.FieldType.int)))).before args0 about1 = true := code_word (m := ⟨2, 1⟩) (meth := k2m1) (c := k2c1) (by decide +kernel) rfl rfl rfl (by decide +kernel)
set_option maxRecDepth 65536 in
theorem w_c4 : (Jvm.Cond.code ({ cls := "com/example/understory/understory/RootedTree", name := "parentStates", desc := "(I)I" } : Jvm.MethodName) prog_21_method_10_code (2 : Nat) (Option.some Jvm.ClassFile.FieldType.int)).before args0 about1 = true := code_word (m := ⟨2, 2⟩) (meth := k2m2) (c := k2c2) (by decide +kernel) rfl rfl rfl (by decide +kernel)
def codes1 : List Jvm.Cond := [Jvm.Cond.code x code maxLocals ret, Jvm.Cond.code ({ cls := "com/example/understory/understory/RootedTree", name := "<init>", desc := "([I[I[I)V" } : Jvm.MethodName) prog_21_method_1_code (7 : Nat) (Option.none : Option Jvm.ClassFile.FieldType), Jvm.Cond.code ({ cls := "java/lang/Object", name := "<init>", desc := "()V" } : Jvm.MethodName) object_method_1_code (1 : Nat) (Option.none : Option Jvm.ClassFile.FieldType), Jvm.Cond.code ({ cls := "com/example/understory/understory/RootedTree", name := "childrenOf", desc := "([I)[[I" } : Jvm.MethodName) prog_21_method_2_code (6 : Nat) (Option.some (Jvm.ClassFile.FieldType.array (Jvm.ClassFile.FieldType.array Jvm.ClassFile.FieldType.int))), Jvm.Cond.code ({ cls := "com/example/understory/understory/RootedTree", name := "parentStates", desc := "(I)I" } : Jvm.MethodName) prog_21_method_10_code (2 : Nat) (Option.some Jvm.ClassFile.FieldType.int)]
set_option maxRecDepth 65536 in
theorem codes_eq : words1.filter isCode = codes1 := rfl
theorem w_codes : ∀ c ∈ words1.filter isCode, c.before args0 about1 = true := by
  rw [codes_eq]
  intro c hc
  simp only [codes1, List.mem_cons, List.not_mem_nil, or_false] at hc
  rcases hc with rfl | rfl | rfl | rfl | rfl
  · exact w_c0
  · exact w_c1
  · exact w_c2
  · exact w_c3
  · exact w_c4
set_option maxRecDepth 65536 in
theorem w_t1 : (words1.take 24).all (fun c => isCode c || c.before args0 about1) = true := by decide +kernel
set_option maxRecDepth 65536 in
theorem w_t2 : (words1.drop 24).all (fun c => isCode c || c.before args0 about1) = true := by decide +kernel
theorem w_tables : (allAtoms (Jvm.Cond.code x code maxLocals ret :: tables_1)).before args0 about1 = true := by
  rw [allAtoms_all]
  show words1.all (fun c => c.before args0 about1) = true
  refine all_split ?_ w_codes
  rw [← List.take_append_drop 24 words1, List.all_append, w_t1, w_t2]
  rfl
set_option maxRecDepth 65536 in
theorem w_case : (Jvm.Cond.and given_1 narrow_1).before args0 about1 = true := by decide +kernel
theorem w_applies : (headSpec (Jvm.Cond.code x code maxLocals ret :: tables_1) room_1).applies x e0.platform about1 = true :=
  (Spec.applies_iff w_frames).mpr ⟨w_running, w_runnable, w_alone, w_named, w_hears, w_ripe, w_room, w_tables⟩
theorem atStart : AtStart classFile x code maxLocals ret World_1 tables_1 room_1 Calls_1 rest_1 Pre_1 launch0 p0 e0 about1 theMethod args0 below0 :=
  ⟨lists_1, trivial, launch0.admits_env _ _ _, launch0.least_env, fairChoices_fair.cas, fairChoices_fair.clock, w_frames, w_args, w_heap, w_applies, trivial, trivial, w_case⟩
end start1
theorem witness_1 : WitnessClaimed_1 := ⟨start1.p0, start1.e0, start1.about1, start1.theMethod, start1.args0, start1.below0, start1.atStart⟩
end Jvm.Pilot.@@N@@
