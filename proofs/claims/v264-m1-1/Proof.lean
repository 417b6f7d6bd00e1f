import JvmDerived
import JvmDerived.Pilot.@@N@@Statement
import JvmDerived.Pilot.@@N@@Code
set_option linter.unusedVariables false
set_option linter.unusedSimpArgs false
@@BLOCK:NumsL.lean.txt@@
namespace Jvm.OwnKit
open Sem ClassFile Op Lib Jvm.Stand Jvm.Free Jvm.LawKit Jvm.RoadKit
def Go (tb : Tables) (e : Env) (below : List Frame) (P : State → Outcome → Prop) (S : State) : Prop := ∃ U o, Steps tb e below S U ∧ U.status = .running ∧ Ended U below o ∧ P U o
theorem Go.s {tb : Tables} {e : Env} {below : List Frame} {P : State → Outcome → Prop} {S S' : State} (k : ∀ {t : State}, Steps tb e below S' t → Steps tb e below S t) (f : Go tb e below P S') : Go tb e below P S := by
  obtain ⟨U, o, h1, h2⟩ := f
  exact ⟨U, o, k h1, h2⟩
theorem Go.cast {tb : Tables} {e : Env} {below : List Frame} {P : State → Outcome → Prop} {T : State} {g g' : JFrame} (q : g = g') (f : Go tb e below P (T.setTop g')) : Go tb e below P (T.setTop g) := q ▸ f
/-- the contract of a body, at one heap and one list of arguments -/
def Con (l : Launch) (Z : State) (y : MethodName) (bytes : ByteArray) (maxL : Nat) (ret : Option FieldType) (ws : List Jvm.Cond) (rm : Room) (as' : Array Value) (h : Heap) (Q : Option Value → Heap → List Loc → Prop) : Prop :=
  MetFree l y (head1 (Cond.code y bytes maxL ret :: ws) rm) (fun a U => a = as' ∧ Z.Warmed39 U.vm ∧ U.heap = h) (fun _ _ _ _ _ => True) (fun _ U o U' => ∃ v L, o = .returned v ∧ Q v U'.heap L ∧ FrameEnd U o U' L rm.cells rm.slots)
theorem Con.intro {l : Launch} {Z : State} {y : MethodName} {bytes : ByteArray} {maxL : Nat} {ret : Option FieldType} {ws : List Jvm.Cond} {rm : Room} {as' : Array Value} {h : Heap} {Q : Option Value → Heap → List Loc → Prop} (hpn : plainFor y = true)
    (body : ∀ (p : Program) (e : Env) (s : State) (m : MethodId) (below : List Frame) (meth : Method) (c : Code) (s₁ : State) (P : State → Outcome → Prop), p.tables.exec = Jvm.exec → c.code = bytes → c.maxLocals = maxL → s.vm.findClass y.cls = some m.cls → meth.name = y.name → meth.sig.returnType = ret → meth.locks = false → Z.Warmed39 s.vm →
      Stand p l e rm s m as' below meth c s₁ [] 0 0 → s₁.heap = h → (∀ U v L, Q v U.heap L → FrameEnd s (.returned v) U L rm.cells rm.slots → P U (.returned v)) → Go p.tables e below P (s₁.setTop (entryFrame m as' maxL))) :
    Con l Z y bytes maxL ret ws rm as' h Q := by
  refine MetFree.of_bodySF hpn hisR ?_
  intro p e s m args below meth c s₁ Bd hml0 hP hK
  obtain ⟨rfl, hZ, hh⟩ := hP
  exact body p e s m below meth c s₁ _ Bd.exec Bd.bytes hml0 (findClass_of_methodNamed Bd.named) (name_of_methodNamed Bd.named Bd.method).1 Bd.returns (BodyLoose.notSynchronized Bd) hZ (Stand.of_body Bd) (by rw [← hh, Bd.state]; rfl) fun U v L q f => ⟨v, L, rfl, q, f⟩
theorem Con.mono {l : Launch} {Z : State} {y : MethodName} {bytes : ByteArray} {maxL : Nat} {ret : Option FieldType} {ws : List Jvm.Cond} {rm : Room} {as' : Array Value} {h : Heap} {Q Q' : Option Value → Heap → List Loc → Prop} (C : Con l Z y bytes maxL ret ws rm as' h Q) (q : ∀ v h L, Q v h L → Q' v h L) : Con l Z y bytes maxL ret ws rm as' h Q' := by
  intro p e ha hc hk s m args below hf happ hP hK
  obtain ⟨n, o, h1, h2, h3, v, L, h4, h5, h6⟩ := C p e ha hc hk s m args below hf happ hP hK
  exact ⟨n, o, h1, h2, h3, v, L, h4, q _ _ _ h5, h6⟩
def ConH (l : Launch) (Z : State) (y : MethodName) (bytes : ByteArray) (maxL : Nat) (ret : Option FieldType) (hs : List (Nat × Nat × Nat × Nat)) (ws : List Jvm.Cond) (rm : Room) (as' : Array Value) (h : Heap) (Q : Option Value → Heap → List Loc → Prop) : Prop :=
  MetFree l y (head1 (Cond.codeWith y bytes maxL ret hs :: ws) rm) (fun a U => a = as' ∧ Z.Warmed39 U.vm ∧ U.heap = h) (fun _ _ _ _ _ => True) (fun _ U o U' => ∃ v L, o = .returned v ∧ Q v U'.heap L ∧ FrameEnd U o U' L rm.cells rm.slots)
theorem ConH.intro {l : Launch} {Z : State} {y : MethodName} {bytes : ByteArray} {maxL : Nat} {ret : Option FieldType} {hs : List (Nat × Nat × Nat × Nat)} {ws : List Jvm.Cond} {rm : Room} {as' : Array Value} {h : Heap} {Q : Option Value → Heap → List Loc → Prop} (hpn : plainFor y = true)
    (body : ∀ (p : Program) (e : Env) (s : State) (m : MethodId) (below : List Frame) (meth : Method) (c : Code) (s₁ : State) (P : State → Outcome → Prop), p.tables.exec = Jvm.exec → c.code = bytes → c.maxLocals = maxL → s.vm.findClass y.cls = some m.cls → meth.name = y.name → meth.sig.returnType = ret → meth.locks = false → Z.Warmed39 s.vm →
      Stand p l e rm s m as' below meth c s₁ [] 0 0 → s₁.heap = h → (∀ U v L, Q v U.heap L → FrameEnd s (.returned v) U L rm.cells rm.slots → P U (.returned v)) → Go p.tables e below P (s₁.setTop (entryFrame m as' maxL))) :
    ConH l Z y bytes maxL ret hs ws rm as' h Q := by
  refine MetFree.of_bodySF hpn hisWith ?_
  intro p e s m args below meth c s₁ Bd hml0 hP hK
  obtain ⟨rfl, hZ, hh⟩ := hP
  exact body p e s m below meth c s₁ _ Bd.exec Bd.bytes hml0 (findClass_of_methodNamed Bd.named) (name_of_methodNamed Bd.named Bd.method).1 Bd.returns (BodyLoose.notSynchronized Bd) hZ (Stand.of_body Bd) (by rw [← hh, Bd.state]; rfl) fun U v L q f => ⟨v, L, rfl, q, f⟩
section Walk
variable {p : Program} {l : Launch} {e : Env} {R : Room} {s : State} {m : MethodId} {args : Array Value} {below : List Frame} {meth : Method} {c : Code} {T : State} {locs : List Loc} {cells slots : Nat} {P : State → Outcome → Prop} {Z : State} {a0 : Array Value} {h : Heap}
theorem Go.ret (X : Stand p l e R s m args below meth c T locs cells slots) (hx : p.tables.exec = Jvm.exec) (hlk : meth.locks = false) {pc : Nat} {Ls : Array Slot} {w : Value} {t : FieldType} {i : Instr} {rest : List Value} (hret : meth.sig.returnType = some t) (hn : narrow t w = w)
    (hi : (i = .ireturn ∧ (t = .int ∨ t = .boolean ∨ t = .byte ∨ t = .char ∨ t = .short) ∧ ∃ z, w = .int z) ∨ (i = .lreturn ∧ t = .long ∧ ∃ z, w = .long z) ∨ (i = .dreturn ∧ t = .double ∧ ∃ z, w = .double z) ∨ (i = .freturn ∧ t = .float ∧ ∃ z, w = .float z) ∨ (i = .areturn ∧ t.isReference = true ∧ w.isRef = true))
    (hd : decode c.code pc = .ok (i, 1)) (hP : ∀ U : State, U.heap = T.heap → FrameEnd s (.returned (some w)) U locs cells slots → P U (.returned (some w))) : Go p.tables e below P (T.setTop (mkF m pc Ls (w :: rest))) := by
  obtain ⟨fs, hr, hrun, hended, hW, hsame⟩ := X.leave (v := some w) (fun h => by rw [hret] at h; cases h) hlk
  exact ⟨_, _, retOut X hx hret hn hi hd hr, hrun, hended, hP _ rfl ⟨⟨_, rfl⟩, hW, hsame⟩⟩
theorem Go.retI (X : Stand p l e R s m args below meth c T locs cells slots) (hx : p.tables.exec = Jvm.exec) (hlk : meth.locks = false) {pc : Nat} {Ls : Array Slot} {z : Int32} {rest : List Value} (hret : meth.sig.returnType = some .int)
    (hd : decode c.code pc = .ok (.ireturn, 1)) (hP : ∀ U : State, U.heap = T.heap → FrameEnd s (.returned (some (.int z))) U locs cells slots → P U (.returned (some (.int z)))) : Go p.tables e below P (T.setTop (mkF m pc Ls (.int z :: rest))) :=
  Go.ret X hx hlk hret rfl (Or.inl ⟨rfl, Or.inl rfl, _, rfl⟩) hd hP
theorem Go.retZ (X : Stand p l e R s m args below meth c T locs cells slots) (hx : p.tables.exec = Jvm.exec) (hlk : meth.locks = false) {pc : Nat} {Ls : Array Slot} {z : Int32} {rest : List Value} (hret : meth.sig.returnType = some .boolean) (hz : z = 0 ∨ z = 1)
    (hd : decode c.code pc = .ok (.ireturn, 1)) (hP : ∀ U : State, U.heap = T.heap → FrameEnd s (.returned (some (.int z))) U locs cells slots → P U (.returned (some (.int z)))) : Go p.tables e below P (T.setTop (mkF m pc Ls (.int z :: rest))) :=
  Go.ret X hx hlk hret (by rcases hz with rfl | rfl <;> rfl) (Or.inl ⟨rfl, Or.inr (Or.inl rfl), _, rfl⟩) hd hP
theorem Go.retJ (X : Stand p l e R s m args below meth c T locs cells slots) (hx : p.tables.exec = Jvm.exec) (hlk : meth.locks = false) {pc : Nat} {Ls : Array Slot} {z : Int64} {rest : List Value} (hret : meth.sig.returnType = some .long)
    (hd : decode c.code pc = .ok (.lreturn, 1)) (hP : ∀ U : State, U.heap = T.heap → FrameEnd s (.returned (some (.long z))) U locs cells slots → P U (.returned (some (.long z)))) : Go p.tables e below P (T.setTop (mkF m pc Ls (.long z :: rest))) :=
  Go.ret X hx hlk hret rfl (Or.inr (Or.inl ⟨rfl, rfl, _, rfl⟩)) hd hP
theorem Go.retR (X : Stand p l e R s m args below meth c T locs cells slots) (hx : p.tables.exec = Jvm.exec) (hlk : meth.locks = false) {pc : Nat} {Ls : Array Slot} {w : Value} {t : FieldType} {rest : List Value} (hret : meth.sig.returnType = some t) (ht : t.isReference = true) (hw : w.isRef = true)
    (hd : decode c.code pc = .ok (.areturn, 1)) (hP : ∀ U : State, U.heap = T.heap → FrameEnd s (.returned (some w)) U locs cells slots → P U (.returned (some w))) : Go p.tables e below P (T.setTop (mkF m pc Ls (w :: rest))) :=
  Go.ret X hx hlk hret (by rcases ref_cases hw with rfl | ⟨z, rfl⟩ <;> cases t <;> first | rfl | (cases ht)) (Or.inr (Or.inr (Or.inr (Or.inr ⟨rfl, ht, hw⟩)))) hd hP
theorem Go.retV (X : Stand p l e R s m args below meth c T locs cells slots) (hx : p.tables.exec = Jvm.exec) (hlk : meth.locks = false) {pc : Nat} {Ls : Array Slot} (hret : meth.sig.returnType = none)
    (hd : decode c.code pc = .ok (.return_, 1)) (hP : ∀ U : State, U.heap = T.heap → FrameEnd s (.returned none) U locs cells slots → P U (.returned none)) : Go p.tables e below P (T.setTop (mkF m pc Ls [])) := by
  obtain ⟨fs, hr, hrun, hended, hW, hsame⟩ := X.leave (v := none) (fun _ => rfl) hlk
  exact ⟨_, _, X.returnOut hx hret hd hr, hrun, hended, hP _ rfl ⟨⟨_, rfl⟩, hW, hsame⟩⟩
theorem Con.static {y : MethodName} {bytes : ByteArray} {maxL : Nat} {ret : Option FieldType} {rm : Room} {as' : Array Value} {Q : Option Value → Heap → List Loc → Prop} (C : Con l Z y bytes maxL ret [] rm as' h Q)
    (X : Stand p l e R s m args below meth c T locs cells slots) (hx : p.tables.exec = Jvm.exec) (hZ : Z.Warmed39 s.vm) {own : String} {index W : Nat} (hown : s.vm.findClass own = some m.cls)
    (wl : (Cond.methodLink own index y).before a0 Z = true) (wst : (Cond.static y).before a0 Z = true) (wz : (Cond.initialized y.cls).before a0 Z = true) (wc : (Cond.code y bytes maxL ret).before a0 Z = true)
    (hy : y.cls ≠ "java/lang/invoke/MethodHandle" ∧ y.cls ≠ "java/lang/invoke/VarHandle") (hf : rm.frames + 1 ≤ R.frames) (hl : W + (maxL + 11) + rm.locals ≤ R.locals) (hce : cells + rm.cells ≤ R.cells) (hsl : slots + rm.slots ≤ R.slots) (eT : T.heap = h)
    {g : JFrame} (hg : g.method = m) (hsize : g.locals.size = c.maxLocals) {argsL rest : List Value} (has : argsL.toArray = as') (hlen : ∀ sig, parseMethodDescriptor y.desc = some sig → argsL.length = sig.parameters.length)
    (hstack : g.stack = argsL.reverse ++ rest) (hW : 2 * g.monitorRoom + (rest.map fun v => v.category).sum ≤ W) (hdg : decode c.code g.pc = .ok (.invokestatic index, 3)) :
    ∃ (v : Option Value) (T' : State) (L : List Loc), Stand p l e R s m args below meth c T' (locs ++ L) (cells + rm.cells) (slots + rm.slots) ∧ Q v T'.heap L ∧
      ∀ {t : State}, Steps p.tables e below (T'.setTop { g with pc := g.pc + 3, stack := v.toList ++ rest }) t → Steps p.tables e below (T.setTop g) t := by
  obtain ⟨v, vm₁, ⟨T', L', k', n'⟩, -, X', ⟨L, hQ, e1, e2, e3⟩, st⟩ := Jvm.LawKit.callS X hx hown (mvT hZ wl) (mvT hZ wst) (mvT hZ wz) (mvT hZ wc) hy (backOf (W := W) C hZ wc wz hf hl) hg hsize hlen hstack hW hdg (fun _ _ => ⟨has, eT, hce, hsl⟩)
  dsimp only [Pt.U, Pt.locs, Pt.cells, Pt.slots] at X' e1 e2 e3 st hQ
  subst e1 e2 e3
  exact ⟨v, T', L, X', hQ, fun {t} k => st t k⟩
theorem Con.special {y : MethodName} {bytes : ByteArray} {maxL : Nat} {rm : Room} {as' : Array Value} {Q : Option Value → Heap → List Loc → Prop} (C : Con l Z y bytes maxL none [] rm as' h Q) (hy1 : y.name = "<init>")
    (X : Stand p l e R s m args below meth c T locs cells slots) (hx : p.tables.exec = Jvm.exec) (hZ : Z.Warmed39 s.vm) {own : String} {index W : Nat} (hown : s.vm.findClass own = some m.cls)
    (wl : (Cond.methodLink own index y).before a0 Z = true) (wi : (Cond.instanceMethod y).before a0 Z = true) (wz : (Cond.initialized y.cls).before a0 Z = true) (wc : (Cond.code y bytes maxL none).before a0 Z = true)
    (hy : y.cls ≠ "java/lang/invoke/MethodHandle" ∧ y.cls ≠ "java/lang/invoke/VarHandle") (hf : rm.frames + 1 ≤ R.frames) (hl : W + (maxL + 11) + rm.locals ≤ R.locals) (hce : cells + rm.cells ≤ R.cells) (hsl : slots + rm.slots ≤ R.slots) (eT : T.heap = h)
    {g : JFrame} (hg : g.method = m) (hsize : g.locals.size = c.maxLocals) {a : Addr} {argsL rest : List Value} (has : (Value.ref a :: argsL).toArray = as') (hlen : ∀ sig, parseMethodDescriptor y.desc = some sig → argsL.length = sig.parameters.length)
    (hstack : g.stack = argsL.reverse ++ .ref a :: rest) (hW : 2 * g.monitorRoom + (rest.map fun v => v.category).sum ≤ W) (hdg : decode c.code g.pc = .ok (.invokespecial index, 3)) :
    ∃ (v : Option Value) (T' : State) (L : List Loc), Stand p l e R s m args below meth c T' (locs ++ L) (cells + rm.cells) (slots + rm.slots) ∧ Q v T'.heap L ∧
      ∀ {t : State}, Steps p.tables e below (T'.setTop { g with pc := g.pc + 3, stack := v.toList ++ rest }) t → Steps p.tables e below (T.setTop g) t := by
  obtain ⟨v, vm₁, ⟨T', L', k', n'⟩, -, X', ⟨L, hQ, e1, e2, e3⟩, st⟩ := X.specialBack hx hy1 hown (mvT hZ wl) (mvT hZ wi) (mvT hZ wc) hy (backOf (W := W) C hZ wc wz hf hl) hg hsize (Steps.refl _) hlen hstack hW hdg (fun _ _ => ⟨has, eT, hce, hsl⟩)
  dsimp only [Pt.U, Pt.locs, Pt.cells, Pt.slots] at X' e1 e2 e3 st hQ
  subst e1 e2 e3
  exact ⟨v, T', L, X', hQ, fun {t} k => st.trans k⟩
theorem ConH.special {y : MethodName} {bytes : ByteArray} {maxL : Nat} {rm : Room} {as' : Array Value} {Q : Option Value → Heap → List Loc → Prop} {hs : List (Nat × Nat × Nat × Nat)} (C : ConH l Z y bytes maxL none hs [] rm as' h Q) (hy1 : y.name = "<init>")
    (X : Stand p l e R s m args below meth c T locs cells slots) (hx : p.tables.exec = Jvm.exec) (hZ : Z.Warmed39 s.vm) {own : String} {index W : Nat} (hown : s.vm.findClass own = some m.cls)
    (wl : (Cond.methodLink own index y).before a0 Z = true) (wi : (Cond.instanceMethod y).before a0 Z = true) (wz : (Cond.initialized y.cls).before a0 Z = true) (wc : (Cond.codeWith y bytes maxL none hs).before a0 Z = true)
    (hy : y.cls ≠ "java/lang/invoke/MethodHandle" ∧ y.cls ≠ "java/lang/invoke/VarHandle") (hf : rm.frames + 1 ≤ R.frames) (hl : W + (maxL + 11) + rm.locals ≤ R.locals) (hce : cells + rm.cells ≤ R.cells) (hsl : slots + rm.slots ≤ R.slots) (eT : T.heap = h)
    {g : JFrame} (hg : g.method = m) (hsize : g.locals.size = c.maxLocals) {a : Addr} {argsL rest : List Value} (has : (Value.ref a :: argsL).toArray = as') (hlen : ∀ sig, parseMethodDescriptor y.desc = some sig → argsL.length = sig.parameters.length)
    (hstack : g.stack = argsL.reverse ++ .ref a :: rest) (hW : 2 * g.monitorRoom + (rest.map fun v => v.category).sum ≤ W) (hdg : decode c.code g.pc = .ok (.invokespecial index, 3)) :
    ∃ (v : Option Value) (T' : State) (L : List Loc), Stand p l e R s m args below meth c T' (locs ++ L) (cells + rm.cells) (slots + rm.slots) ∧ Q v T'.heap L ∧
      ∀ {t : State}, Steps p.tables e below (T'.setTop { g with pc := g.pc + 3, stack := v.toList ++ rest }) t → Steps p.tables e below (T.setTop g) t := by
  obtain ⟨v, vm₁, ⟨T', L', k', n'⟩, -, X', ⟨L, hQ, e1, e2, e3⟩, st⟩ := X.specialBackH hx hy1 hown (mvT hZ wl) (mvT hZ wi) (mvT hZ wc) hy (backOfWith (W := W) C hZ wc wz hf hl) hg hsize (Steps.refl _) hlen hstack hW hdg (fun _ _ => ⟨has, eT, hce, hsl⟩)
  dsimp only [Pt.U, Pt.locs, Pt.cells, Pt.slots] at X' e1 e2 e3 st hQ
  subst e1 e2 e3
  exact ⟨v, T', L, X', hQ, fun {t} k => st.trans k⟩
theorem Con.virtual {y : MethodName} {bytes : ByteArray} {maxL : Nat} {ret : Option FieldType} {rm : Room} {as' : Array Value} {Q : Option Value → Heap → List Loc → Prop} (K : Con l Z y bytes maxL ret [] rm as' h Q)
    (X : Stand p l e R s m args below meth c T locs cells slots) (hx : p.tables.exec = Jvm.exec) (hZ : Z.Warmed39 s.vm) {own C : String} {index W : Nat} (hown : s.vm.findClass own = some m.cls)
    (wl : (Cond.methodLink own index y).before a0 Z = true) (wd : (Cond.declares y).before a0 Z = true) (wsel : (Cond.selects C y y).before a0 Z = true) (wi : (Cond.instanceMethod y).before a0 Z = true) (wz : (Cond.initialized y.cls).before a0 Z = true) (wc : (Cond.code y bytes maxL ret).before a0 Z = true)
    (hy : y.cls ≠ "java/lang/invoke/MethodHandle" ∧ y.cls ≠ "java/lang/invoke/VarHandle") (hf : rm.frames + 1 ≤ R.frames) (hl : W + (maxL + 11) + rm.locals ≤ R.locals) (hce : cells + rm.cells ≤ R.cells) (hsl : slots + rm.slots ≤ R.slots) (eT : T.heap = h)
    {g : JFrame} (hg : g.method = m) (hsize : g.locals.size = c.maxLocals) {a : Addr} (E : Exa Z h a C) {argsL rest : List Value} (has : (Value.ref a :: argsL).toArray = as') (hlen : ∀ sig, parseMethodDescriptor y.desc = some sig → argsL.length = sig.parameters.length)
    (hstack : g.stack = argsL.reverse ++ .ref a :: rest) (hW : 2 * g.monitorRoom + (rest.map fun v => v.category).sum ≤ W) (hdg : decode c.code g.pc = .ok (.invokevirtual index, 3)) :
    ∃ (v : Option Value) (T' : State) (L : List Loc), Stand p l e R s m args below meth c T' (locs ++ L) (cells + rm.cells) (slots + rm.slots) ∧ Q v T'.heap L ∧
      ∀ {t : State}, Steps p.tables e below (T'.setTop { g with pc := g.pc + 3, stack := v.toList ++ rest }) t → Steps p.tables e below (T.setTop g) t := by
  obtain ⟨cq, kq, qa, qb, qc⟩ := isOf hZ eT E
  obtain ⟨v, vm₁, ⟨T', L', k', n'⟩, -, X', ⟨L, hQ, e1, e2, e3⟩, st⟩ := X.virtualBack hx hown (mvT hZ wl) (mvT hZ wd) (notFace_of_selects (args := #[]) (mvT hZ wsel)) (mvT hZ wsel) (mvT hZ wi) hy (backOf (W := W) K hZ wc wz hf hl) qa qc hg hsize (Steps.refl _) hlen hstack hW hdg (fun _ _ => ⟨has, eT, hce, hsl⟩)
  dsimp only [Pt.U, Pt.locs, Pt.cells, Pt.slots] at X' e1 e2 e3 st hQ
  subst e1 e2 e3
  exact ⟨v, T', L, X', hQ, fun {t} k => st.trans k⟩
theorem Con.priv {y : MethodName} {bytes : ByteArray} {maxL : Nat} {ret : Option FieldType} {rm : Room} {as' : Array Value} {Q : Option Value → Heap → List Loc → Prop} (K : Con l Z y bytes maxL ret [] rm as' h Q)
    (X : Stand p l e R s m args below meth c T locs cells slots) (hx : p.tables.exec = Jvm.exec) (hZ : Z.Warmed39 s.vm) {own C : String} {index W kk : Nat} (hown : s.vm.findClass own = some m.cls)
    (wl : (Cond.methodLink own index y).before a0 Z = true) (wn : (Cond.instantiable y.cls kk).before a0 Z = true) (wp : (Cond.privateMethod y).before a0 Z = true) (wi : (Cond.instanceMethod y).before a0 Z = true) (wz : (Cond.initialized y.cls).before a0 Z = true) (wc : (Cond.code y bytes maxL ret).before a0 Z = true)
    (hy : y.cls ≠ "java/lang/invoke/MethodHandle" ∧ y.cls ≠ "java/lang/invoke/VarHandle") (hf : rm.frames + 1 ≤ R.frames) (hl : W + (maxL + 11) + rm.locals ≤ R.locals) (hce : cells + rm.cells ≤ R.cells) (hsl : slots + rm.slots ≤ R.slots) (eT : T.heap = h)
    {g : JFrame} (hg : g.method = m) (hsize : g.locals.size = c.maxLocals) {a : Addr} (E : Exa Z h a C) {argsL rest : List Value} (has : (Value.ref a :: argsL).toArray = as') (hlen : ∀ sig, parseMethodDescriptor y.desc = some sig → argsL.length = sig.parameters.length)
    (hstack : g.stack = argsL.reverse ++ .ref a :: rest) (hW : 2 * g.monitorRoom + (rest.map fun v => v.category).sum ≤ W) (hdg : decode c.code g.pc = .ok (.invokevirtual index, 3)) :
    ∃ (v : Option Value) (T' : State) (L : List Loc), Stand p l e R s m args below meth c T' (locs ++ L) (cells + rm.cells) (slots + rm.slots) ∧ Q v T'.heap L ∧
      ∀ {t : State}, Steps p.tables e below (T'.setTop { g with pc := g.pc + 3, stack := v.toList ++ rest }) t → Steps p.tables e below (T.setTop g) t := by
  have hpa : s.PrivateAt y := Cond.privateMethod_at (mvP hZ wp (args := args))
  have win : (Cond.instanceMethod y).before args s = true := mvT hZ wi
  have wnn : (Cond.instantiable y.cls kk).before args s = true := mvT hZ wn
  obtain ⟨ci, ki, i1, i2, i3, i4, -⟩ := Cond.instantiable_spec wnn
  have hni : ki.isInterface = false := (Bool.or_eq_false_iff.mp i4).1
  obtain ⟨cl, hcl, hob⟩ := E.cell
  obtain ⟨v, vm₁, ⟨T', L', k', n'⟩, -, X', ⟨L, hQ, e1, e2, e3⟩, st⟩ := X.privateBack hx hown (mvT hZ wl) win (selects_self_of_private i1 i2 hni hpa win hy) hpa (mvT hZ wc) hy (backOf (W := W) K hZ wc wz hf hl) hg hsize (Steps.refl _) (by rw [eT]; exact hcl) hob hlen hstack hW hdg (fun _ _ => ⟨has, eT, hce, hsl⟩)
  dsimp only [Pt.U, Pt.locs, Pt.cells, Pt.slots] at X' e1 e2 e3 st hQ
  subst e1 e2 e3
  exact ⟨v, T', L, X', hQ, fun {t} k => st.trans k⟩
theorem Con.virtualUp {x z : MethodName} {bytes : ByteArray} {maxL : Nat} {ret : Option FieldType} {rm : Room} {as' : Array Value} {Q : Option Value → Heap → List Loc → Prop} (K : Con l Z z bytes maxL ret [] rm as' h Q)
    (X : Stand p l e R s m args below meth c T locs cells slots) (hx : p.tables.exec = Jvm.exec) (hZ : Z.Warmed39 s.vm) {own C owner : String} {index W : Nat} (hown : s.vm.findClass own = some m.cls)
    (wl : (Cond.methodLink own index x).before a0 Z = true) (wsm : (Cond.sameMethod x.cls owner x.name x.desc).before a0 Z = true) (wd : (Cond.declares ⟨owner, x.name, x.desc⟩).before a0 Z = true) (wsel : (Cond.selects C x z).before a0 Z = true) (wi : (Cond.instanceMethod z).before a0 Z = true) (wz : (Cond.initialized z.cls).before a0 Z = true) (wc : (Cond.code z bytes maxL ret).before a0 Z = true)
    (ho : owner ≠ "java/lang/invoke/MethodHandle" ∧ owner ≠ "java/lang/invoke/VarHandle") (hf : rm.frames + 1 ≤ R.frames) (hl : W + (maxL + 11) + rm.locals ≤ R.locals) (hce : cells + rm.cells ≤ R.cells) (hsl : slots + rm.slots ≤ R.slots) (eT : T.heap = h)
    {g : JFrame} (hg : g.method = m) (hsize : g.locals.size = c.maxLocals) {a : Addr} (E : Exa Z h a C) {argsL rest : List Value} (has : (Value.ref a :: argsL).toArray = as') (hlen : ∀ sig, parseMethodDescriptor x.desc = some sig → argsL.length = sig.parameters.length)
    (hstack : g.stack = argsL.reverse ++ .ref a :: rest) (hW : 2 * g.monitorRoom + (rest.map fun v => v.category).sum ≤ W) (hdg : decode c.code g.pc = .ok (.invokevirtual index, 3)) :
    ∃ (v : Option Value) (T' : State) (L : List Loc), Stand p l e R s m args below meth c T' (locs ++ L) (cells + rm.cells) (slots + rm.slots) ∧ Q v T'.heap L ∧
      ∀ {t : State}, Steps p.tables e below (T'.setTop { g with pc := g.pc + 3, stack := v.toList ++ rest }) t → Steps p.tables e below (T.setTop g) t := by
  obtain ⟨cq, kq, qa, qb, qc⟩ := isOf hZ eT E
  obtain ⟨v, vm₁, ⟨T', L', k', n'⟩, -, X', ⟨L, hQ, e1, e2, e3⟩, st⟩ := X.virtualBackUp hx hown (mvT hZ wl) (mvT hZ wsm) (mvT hZ wd) ho (mvT hZ wsel) (mvT hZ wi) (backOf (W := W) K hZ wc wz hf hl) qa qc hg hsize (Steps.refl _) hlen hstack hW hdg (fun _ _ => ⟨has, eT, hce, hsl⟩)
  dsimp only [Pt.U, Pt.locs, Pt.cells, Pt.slots] at X' e1 e2 e3 st hQ
  subst e1 e2 e3
  exact ⟨v, T', L, X', hQ, fun {t} k => st.trans k⟩
/-- the cell of an object is one that the model knows -/
def Kn (h : Heap) (a : Addr) : Prop := ∃ cell : Cell, h[a]? = some cell ∧ cell.vm ≠ .unknown
theorem Kn.of_new {h' : Heap} {a : Addr} (u : ∃ cell : Cell, h'[a]? = some cell ∧ cell.vm = .none ∧ cell.monitor = {}) : Kn h' a := by obtain ⟨c, h1, h2, -⟩ := u; exact ⟨c, h1, by rw [h2]; simp⟩
theorem Kn.ext {h h' : Heap} {a : Addr} (F : Kn h a) (E : Ext h h') : Kn h' a := by obtain ⟨c, h1, h2⟩ := F; exact ⟨c, E.2 _ _ h1, h2⟩
theorem Kn.keep {h h' : Heap} {a : Addr} {ws : List Addr} (F : Kn h a) (K : Keep h h' ws) : Kn h' a := by
  obtain ⟨c, h1, h2⟩ := F; obtain ⟨c', q, -, q2, -⟩ := K.2.2 a c h1; exact ⟨c', q, by rw [q2]; exact h2⟩
theorem Kn.wr {h h' : Heap} {a b : Addr} {sl : Nat} {v : Value} (F : Kn h a) (W : Wr h h' b sl v) : Kn h' a := F.keep (Keep.of_wr W)
theorem Kn.fld {h : Heap} {a : Addr} {O n d : String} {v : Value} {Z : State} (F : Fld Z h a O n d v) : Kn h a := by obtain ⟨c, _, _, _, _, h1, -, -, h4, -⟩ := F; exact ⟨c, h1, h4⟩
theorem lremM {g : JFrame} {target : State} (X : Stand p l e R s m args below meth c T locs cells slots) (hx : p.tables.exec = Jvm.exec) (hg : g.method = m) {x y : Int64} {rest : List Value} (hd : decode c.code g.pc = .ok (.lrem, 1)) (hs : g.stack = .long y :: .long x :: rest) (hy : y ≠ 0)
    (hr : Steps p.tables e below (T.setTop { g with pc := g.pc + 1, stack := .long (x % y) :: rest }) target) : Steps p.tables e below (T.setTop g) target := by
  exact XT.lrem X.here hx hg hd hs hy (by rw [lrem_mod]; exact hr)
theorem Sta.own_keep {Z : State} {h h' : Heap} {C n d : String} {v : Value} {ws : List Addr} (F : Sta Z h C n d v) (K : Keep h h' ws) (q : ∀ a ∈ ws, ∃ C', Exa Z h a C') : Sta Z h' C n d v := by
  obtain ⟨cf, i, k, f, st, cell, h1, h2, h3, h4, h5, h6, h7⟩ := F
  refine ⟨cf, i, k, f, st, cell, h1, h2, h3, h4, K.2.1 st cell h5 fun hm => ?_, h6, h7⟩
  obtain ⟨C', c2, _, g1, -, -, g4, -⟩ := q st hm
  cases h5.symm.trans g1
  rw [h6] at g4; cases g4
theorem own_nar {t : FieldType} {v : Value} (h : v.isRef = true) (ht : t.isReference = true) : narrow t v = v := by
  rcases ref_cases h with rfl | ⟨z, rfl⟩ <;> cases t <;> first | rfl | (cases ht)
theorem own_fit {t : FieldType} {v : Value} (h : v.isRef = true) (ht : t.isReference = true) : fits t v = true := by
  rcases ref_cases h with rfl | ⟨z, rfl⟩ <;> cases t <;> first | rfl | (cases ht)
theorem own_eq_int {t : Term} {k : Int32} {args : Array Value} {first s : State} {o : Option Outcome} {idx : List Nat} (h : (Cond.eq t (Term.int k)).value args first o s idx = some true) : t.eval args first o idx s = some (.int k) := by
  simp only [Cond.value, Term.eval] at h
  cases ht : t.eval args first o idx s with
  | none => simp [ht] at h
  | some x => cases x <;> simp [ht] at h ⊢; exact h
theorem pop2L {g : JFrame} {target : State} (X : Stand p l e R s m args below meth c T locs cells slots) (hx : p.tables.exec = Jvm.exec) (hg : g.method = m) {x : Int64} {rest : List Value} (hd : decode c.code g.pc = .ok (.pop2, 1)) (hs : g.stack = .long x :: rest)
    (hr : Steps p.tables e below (T.setTop { g with pc := g.pc + 1, stack := rest }) target) : Steps p.tables e below (T.setTop g) target := by
  subst hg
  jvm_step X.here [X.here.top, hx, hd, Op.pop2.wp_sem, hs, Value.category]
  exact hr
theorem own_tdiv (D k : Int) : (0 ≤ D ∧ D.tdiv k = D / k) ∨ (D < 0 ∧ D.tdiv k = -((-D) / k)) := by
  rcases Int.lt_or_le D 0 with h | h
  · refine Or.inr ⟨h, ?_⟩
    have e : D.tdiv k = -((-D).tdiv k) := by rw [Int.neg_tdiv]; omega
    rw [e, Int.tdiv_eq_ediv_of_nonneg (by omega)]
  · exact Or.inl ⟨h, Int.tdiv_eq_ediv_of_nonneg h⟩
theorem own_tmod (D k : Int) : (0 ≤ D ∧ D.tmod k = D % k) ∨ (D < 0 ∧ D.tmod k = -((-D) % k)) := by
  rcases Int.lt_or_le D 0 with h | h
  · refine Or.inr ⟨h, ?_⟩
    have e : D.tmod k = -((-D).tmod k) := by rw [Int.neg_tmod]; omega
    rw [e, Int.tmod_eq_emod_of_nonneg (by omega)]
  · exact Or.inl ⟨h, Int.tmod_eq_emod_of_nonneg h⟩
end Walk
end Jvm.OwnKit
namespace Jvm.OwnKit
open Sem ClassFile Op Lib Jvm.Stand Jvm.Free Jvm.LawKit Jvm.RoadKit
/-- as Con, for a body that may load a String constant -/
def ConW (l : Launch) (Z : State) (y : MethodName) (bytes : ByteArray) (maxL : Nat) (ret : Option FieldType) (ws : List Jvm.Cond) (rm : Room) (as' : Array Value) (h : Heap) (Q : Option Value → Heap → List Loc → Prop) : Prop :=
  MetFree l y (head1 (Cond.code y bytes maxL ret :: ws) rm) (fun a U => a = as' ∧ Z.Warmed39 U.vm ∧ U.heap = h) (fun _ _ _ _ _ => True) (fun _ U o U' => ∃ v L, o = .returned v ∧ Q v U'.heap L ∧ ReturnedEndW U o U' L rm.cells rm.slots)
theorem ConW.intro {l : Launch} {Z : State} {y : MethodName} {bytes : ByteArray} {maxL : Nat} {ret : Option FieldType} {ws : List Jvm.Cond} {rm : Room} {as' : Array Value} {h : Heap} {Q : Option Value → Heap → List Loc → Prop} (hpn : plainFor y = true)
    (body : ∀ (p : Program) (e : Env) (s : State) (m : MethodId) (below : List Frame) (meth : Method) (c : Code) (s₁ : State) (P : State → Outcome → Prop), p.tables.exec = Jvm.exec → c.code = bytes → c.maxLocals = maxL → (s.setVm s.vm).vm.findClass y.cls = some m.cls → meth.name = y.name → meth.sig.returnType = ret → meth.locks = false → Z.Warmed39 (s.setVm s.vm).vm →
      Stand p l e rm (s.setVm s.vm) m as' below meth c s₁ [] 0 0 → s₁.heap = h → s.Since s.vm 0 → (∀ U v L, Q v U.heap L → ReturnedEndW s (.returned v) U L rm.cells rm.slots → P U (.returned v)) → Go p.tables e below P (s₁.setTop (entryFrame m as' maxL))) :
    ConW l Z y bytes maxL ret ws rm as' h Q := by
  refine MetFree.of_bodySF hpn hisR ?_
  intro p e s m args below meth c s₁ Bd hml0 hP hK
  obtain ⟨rfl, hZ, hh⟩ := hP
  exact body p e s m below meth c s₁ _ Bd.exec Bd.bytes hml0 (findClass_of_methodNamed Bd.named) (name_of_methodNamed Bd.named Bd.method).1 Bd.returns (BodyLoose.notSynchronized Bd) hZ (by rw [State.setVm_self]; exact Stand.of_body Bd) (by rw [← hh, Bd.state]; rfl) ((State.WarmedH.refl s).since 0) fun U v L q f => ⟨v, L, rfl, q, f⟩
section WalkW
variable {p : Program} {l : Launch} {e : Env} {R : Room} {s : State} {vm0 : Vm} {m : MethodId} {args : Array Value} {below : List Frame} {meth : Method} {c : Code} {T : State} {locs : List Loc} {cells slots : Nat} {P : State → Outcome → Prop} {Z : State} {a0 : Array Value} {h : Heap}
theorem Go.retW (X : Stand p l e R (s.setVm vm0) m args below meth c T locs cells slots) (hx : p.tables.exec = Jvm.exec) (hlk : meth.locks = false) {k0 : Nat} (hS : s.Since vm0 k0) (hk : k0 ≤ T.heap.size) {pc : Nat} {Ls : Array Slot} {w : Value} {t : FieldType} {i : Instr} {rest : List Value} (hret : meth.sig.returnType = some t) (hn : narrow t w = w)
    (hi : (i = .ireturn ∧ (t = .int ∨ t = .boolean ∨ t = .byte ∨ t = .char ∨ t = .short) ∧ ∃ z, w = .int z) ∨ (i = .lreturn ∧ t = .long ∧ ∃ z, w = .long z) ∨ (i = .dreturn ∧ t = .double ∧ ∃ z, w = .double z) ∨ (i = .freturn ∧ t = .float ∧ ∃ z, w = .float z) ∨ (i = .areturn ∧ t.isReference = true ∧ w.isRef = true))
    (hd : decode c.code pc = .ok (i, 1)) (hP : ∀ U : State, U.heap = T.heap → ReturnedEndW s (.returned (some w)) U locs cells slots → P U (.returned (some w))) : Go p.tables e below P (T.setTop (mkF m pc Ls (w :: rest))) := by
  obtain ⟨fs, hr, hrun, hended, hE⟩ := X.leaveW hS hk (v := some w) (fun h => by rw [hret] at h; cases h) hlk
  exact ⟨_, _, retOut X hx hret hn hi hd hr, hrun, hended, hP _ rfl hE⟩
theorem Go.retZW (X : Stand p l e R (s.setVm vm0) m args below meth c T locs cells slots) (hx : p.tables.exec = Jvm.exec) (hlk : meth.locks = false) {k0 : Nat} (hS : s.Since vm0 k0) (hk : k0 ≤ T.heap.size) {pc : Nat} {Ls : Array Slot} {z : Int32} {rest : List Value} (hret : meth.sig.returnType = some .boolean) (hz : z = 0 ∨ z = 1)
    (hd : decode c.code pc = .ok (.ireturn, 1)) (hP : ∀ U : State, U.heap = T.heap → ReturnedEndW s (.returned (some (.int z))) U locs cells slots → P U (.returned (some (.int z)))) : Go p.tables e below P (T.setTop (mkF m pc Ls (.int z :: rest))) :=
  Go.retW X hx hlk hS hk hret (by rcases hz with rfl | rfl <;> rfl) (Or.inl ⟨rfl, Or.inr (Or.inl rfl), _, rfl⟩) hd hP
theorem Go.retRW (X : Stand p l e R (s.setVm vm0) m args below meth c T locs cells slots) (hx : p.tables.exec = Jvm.exec) (hlk : meth.locks = false) {k0 : Nat} (hS : s.Since vm0 k0) (hk : k0 ≤ T.heap.size) {pc : Nat} {Ls : Array Slot} {w : Value} {t : FieldType} {rest : List Value} (hret : meth.sig.returnType = some t) (ht : t.isReference = true) (hw : w.isRef = true)
    (hd : decode c.code pc = .ok (.areturn, 1)) (hP : ∀ U : State, U.heap = T.heap → ReturnedEndW s (.returned (some w)) U locs cells slots → P U (.returned (some w))) : Go p.tables e below P (T.setTop (mkF m pc Ls (w :: rest))) :=
  Go.retW X hx hlk hS hk hret (by rcases ref_cases hw with rfl | ⟨z, rfl⟩ <;> cases t <;> first | rfl | (cases ht)) (Or.inr (Or.inr (Or.inr (Or.inr ⟨rfl, ht, hw⟩)))) hd hP
theorem ConW.virtual {y : MethodName} {bytes : ByteArray} {maxL : Nat} {ret : Option FieldType} {rm : Room} {as' : Array Value} {Q : Option Value → Heap → List Loc → Prop} (K : ConW l Z y bytes maxL ret [] rm as' h Q)
    (X : Stand p l e R (s.setVm vm0) m args below meth c T locs cells slots) (hx : p.tables.exec = Jvm.exec) (hZ : Z.Warmed39 (s.setVm vm0).vm) {own C : String} {index W k0 : Nat} (hown : (s.setVm vm0).vm.findClass own = some m.cls) (hS : s.Since vm0 k0) (hk : k0 ≤ h.size)
    (wl : (Cond.methodLink own index y).before a0 Z = true) (wd : (Cond.declares y).before a0 Z = true) (wsel : (Cond.selects C y y).before a0 Z = true) (wi : (Cond.instanceMethod y).before a0 Z = true) (wz : (Cond.initialized y.cls).before a0 Z = true) (wc : (Cond.code y bytes maxL ret).before a0 Z = true)
    (hy : y.cls ≠ "java/lang/invoke/MethodHandle" ∧ y.cls ≠ "java/lang/invoke/VarHandle") (hf : rm.frames + 1 ≤ R.frames) (hl : W + (maxL + 11) + rm.locals ≤ R.locals) (hce : cells + rm.cells ≤ R.cells) (hsl : slots + rm.slots ≤ R.slots) (eT : T.heap = h)
    {g : JFrame} (hg : g.method = m) (hsize : g.locals.size = c.maxLocals) {a : Addr} (E : Exa Z h a C) {argsL rest : List Value} (has : (Value.ref a :: argsL).toArray = as') (hlen : ∀ sig, parseMethodDescriptor y.desc = some sig → argsL.length = sig.parameters.length)
    (hstack : g.stack = argsL.reverse ++ .ref a :: rest) (hW : 2 * g.monitorRoom + (rest.map fun v => v.category).sum ≤ W) (hdg : decode c.code g.pc = .ok (.invokevirtual index, 3)) :
    ∃ (v : Option Value) (T' : State) (L : List Loc), Stand p l e R (s.setVm T'.vm) m args below meth c T' (locs ++ L) (cells + rm.cells) (slots + rm.slots) ∧ Q v T'.heap L ∧ s.Since T'.vm T'.heap.size ∧ Z.Warmed39 (s.setVm T'.vm).vm ∧ (s.setVm T'.vm).vm.findClass own = some m.cls ∧
      ∀ {t : State}, Steps p.tables e below (T'.setTop { g with pc := g.pc + 3, stack := v.toList ++ rest }) t → Steps p.tables e below (T.setTop g) t := by
  obtain ⟨cq, kq, qa, qb, qc⟩ := isOf hZ eT E
  obtain ⟨v, vm₁, ⟨T', L', k', n'⟩, -, X', hS2, hg2, ⟨L, hQ, e1, e2, e3⟩, st⟩ := X.virtualBackS hx hown (mvT hZ wl) (mvT hZ wd) (notFace_of_selects (args := #[]) (mvT hZ wsel)) (mvT hZ wsel) (mvT hZ wi) hy (backOfS (W := W) K hZ wc wz hf hl) qa qc hg hsize (Steps.refl _) hlen hstack hW hdg (fun _ _ => ⟨has, eT, hce, hsl⟩)
  dsimp only [Pt.U, Pt.locs, Pt.cells, Pt.slots] at X' e1 e2 e3 st hQ hS2 hg2
  subst e1 e2 e3
  exact ⟨v, T', L, X', hQ, hS.trans hS2 (Nat.le_trans hk (by rw [← eT]; exact hg2)), State.Warmed39.trans (t := s.setVm vm0) hZ hS2.1, by rw [show (s.setVm T'.vm).vm = T'.vm from rfl, hS2.1.alike.findClass]; exact hown, fun {t} k => st.trans k⟩
end WalkW
end Jvm.OwnKit
namespace Jvm.Pilot.@@N@@
open Jvm Jvm.ClassFile Sem Op Lib Jvm.Free Jvm.Stand Jvm.LawKit Jvm.RoadKit Bundle Jvm.Pilot.@@N@@.Jvm.D Jvm.OwnKit
/-- the constant as the sheet says it -/
def own_text : String := match (tables_1[9]? : Option Jvm.Cond) with
  | some (Jvm.Cond.stringLink _ _ s) => s
  | _ => ""
theorem own_wS {Z : State} {a0 : Array Value} (hw : ∀ d ∈ tables_1, d.before a0 Z = true) : ∀ a ∈ Bundle.stringAtoms, a.before a0 Z = true := by
  intro a ha
  simp only [Bundle.stringAtoms, List.mem_cons, List.not_mem_nil, or_false] at ha
  rcases ha with rfl | rfl | rfl | rfl | rfl | rfl | rfl
  · exact hw _ (List.mem_of_getElem? (i := 10) rfl)
  · exact hw _ (List.mem_of_getElem? (i := 11) rfl)
  · exact hw _ (List.mem_of_getElem? (i := 5) rfl)
  · exact hw _ (List.mem_of_getElem? (i := 12) rfl)
  · exact hw _ (List.mem_of_getElem? (i := 13) rfl)
  · exact hw _ (List.mem_of_getElem? (i := 14) rfl)
  · exact hw _ (List.mem_of_getElem? (i := 15) rfl)
def own_by (x : Int64) (s : Int32) : Int32 := nar .byte ((XT.ushrL x s).toInt32.toInt8.toInt32)
theorem own_nb (y : Int8) : nar .byte y.toInt32 = y.toInt32 := by
  show y.toInt32.toInt8.toInt32 = _
  rw [Int8.toInt8_toInt32]
theorem own_sh (s : Nat) (h : s < 64) (x : Int64) : (XT.ushrL x (Int32.ofNat s)).toBitVec = x.toBitVec >>> s := by
  have e : ((Int32.ofNat s).toInt64.toUInt64 &&& Int64.toUInt64 63).toBitVec.toNat % BitVec.toNat (64 : BitVec 64) = s := by
    have : ∀ k : Fin 64, ((Int32.ofNat k.val).toInt64.toUInt64 &&& Int64.toUInt64 63).toBitVec.toNat % BitVec.toNat (64 : BitVec 64) = k.val := by decide +kernel
    exact this ⟨s, h⟩
  show ((x.toUInt64 >>> ((Int32.ofNat s).toInt64.toUInt64 &&& Int64.toUInt64 63)).toInt64).toBitVec = _
  rw [UInt64.toBitVec_toInt64, UInt64.toBitVec_shiftRight, Int64.toBitVec_toUInt64]
  apply BitVec.eq_of_toNat_eq
  rw [BitVec.toNat_ushiftRight]
  rw [show (x.toBitVec >>> (((Int32.ofNat s).toInt64.toUInt64 &&& Int64.toUInt64 63).toBitVec % 64)) = x.toBitVec >>> (((Int32.ofNat s).toInt64.toUInt64 &&& Int64.toUInt64 63).toBitVec % 64).toNat from rfl, BitVec.toNat_ushiftRight, BitVec.toNat_umod, e]
theorem own_byb (x : Int64) (s : Nat) (h : s ≤ 56) (i : Nat) (hi : i < 8) : (own_by x (Int32.ofNat s)).toBitVec.getLsbD i = x.toBitVec.getLsbD (s + i) := by
  rw [own_by, own_nb]
  rw [Int8.toBitVec_toInt32, Int32.toBitVec_toInt8, Int64.toBitVec_toInt32, own_sh s (by omega)]
  simp only [BitVec.getLsbD_signExtend, BitVec.getLsbD_ushiftRight, hi, if_true, show i < 32 from by omega, show i < 64 from by omega, decide_true, Bool.true_and]
theorem own_byh (x : Int64) (s : Nat) (h : s ≤ 56) (i : Nat) (hi : 8 ≤ i) (hj : i < 32) : (own_by x (Int32.ofNat s)).toBitVec.getLsbD i = x.toBitVec.getLsbD (s + 7) := by
  have q := own_byb x s h 7 (by decide)
  rw [← q, own_by, own_nb, Int8.toBitVec_toInt32]
  simp only [BitVec.getLsbD_signExtend, hj, if_true, show ¬ i < 8 from by omega, decide_true, Bool.true_and, if_false, show (7 : Nat) < 32 from by decide, show (7 : Nat) < 8 from by decide]
  rw [BitVec.msb_eq_getLsbD_last]
/-- bit m of the two longs, from the top -/
def own_bit (x0 x1 : Int64) (m : Nat) : Bool := if m < 64 then x0.toBitVec.getLsbD (63 - m) else x1.toBitVec.getLsbD (127 - m)
def own_g (x0 x1 : Int64) (j : Nat) : Int32 := if j < 8 then own_by x0 (Int32.ofNat (56 - 8 * j)) else own_by x1 (Int32.ofNat (120 - 8 * j))
theorem own_gb (x0 x1 : Int64) (j : Nat) (hj : j < 16) (i : Nat) (hi : i < 8) : (own_g x0 x1 j).toBitVec.getLsbD i = own_bit x0 x1 (8 * j + (7 - i)) := by
  rw [own_g, own_bit]
  by_cases h : j < 8
  · rw [if_pos h, if_pos (by omega), own_byb x0 _ (by omega) i hi]; congr 1; omega
  · rw [if_neg h, if_neg (by omega), own_byb x1 _ (by omega) i hi]; congr 1; omega
theorem own_gh (x0 x1 : Int64) (j : Nat) (hj : j < 16) (i : Nat) (hi : 8 ≤ i) (h32 : i < 32) : (own_g x0 x1 j).toBitVec.getLsbD i = own_bit x0 x1 (8 * j) := by
  rw [own_g, own_bit]
  by_cases h : j < 8
  · rw [if_pos h, if_pos (by omega), own_byh x0 _ (by omega) i hi h32]; congr 1; omega
  · rw [if_neg h, if_neg (by omega), own_byh x1 _ (by omega) i hi h32]; congr 1; omega
theorem own_geq (x0 x1 y0 y1 : Int64) (j : Nat) (hj : j < 16) : own_g x0 x1 j = own_g y0 y1 j ↔ ∀ t, t < 8 → own_bit x0 x1 (8 * j + t) = own_bit y0 y1 (8 * j + t) := by
  constructor
  · intro h t ht
    have a := own_gb x0 x1 j hj (7 - t) (by omega)
    have b := own_gb y0 y1 j hj (7 - t) (by omega)
    rw [h, b] at a
    rw [show 7 - (7 - t) = t from by omega] at a
    exact a.symm
  · intro h
    apply Int32.toBitVec_inj.mp
    apply BitVec.eq_of_getLsbD_eq
    intro i hi
    by_cases q : i < 8
    · rw [own_gb x0 x1 j hj i q, own_gb y0 y1 j hj i q]; exact h _ (by omega)
    · rw [own_gh x0 x1 j hj i (by omega) hi, own_gh y0 y1 j hj i (by omega) hi]; exact h 0 (by decide)
theorem own_mask0 : ∀ r : Fin 8, ∀ i : Fin 32, (((255 : Int32) <<< (((8 : Int32) - Int32.ofNat r.val) &&& 31)) &&& 255).toBitVec.getLsbD i.val = decide (8 - r.val ≤ i.val ∧ i.val < 8) := by decide +kernel
theorem own_meq (x0 x1 y0 y1 : Int64) (j : Nat) (hj : j < 16) (r : Nat) (hr : r < 8) : (own_g x0 x1 j &&& (((255 : Int32) <<< (((8 : Int32) - Int32.ofNat r) &&& 31)) &&& 255)) = (own_g y0 y1 j &&& (((255 : Int32) <<< (((8 : Int32) - Int32.ofNat r) &&& 31)) &&& 255)) ↔ ∀ t, t < r → own_bit x0 x1 (8 * j + t) = own_bit y0 y1 (8 * j + t) := by
  have hm : ∀ i, i < 32 → (((255 : Int32) <<< (((8 : Int32) - Int32.ofNat r) &&& 31)) &&& 255).toBitVec.getLsbD i = decide (8 - r ≤ i ∧ i < 8) := fun i hi => own_mask0 ⟨r, hr⟩ ⟨i, hi⟩
  generalize (((255 : Int32) <<< (((8 : Int32) - Int32.ofNat r) &&& 31)) &&& 255) = mk at hm
  constructor
  · intro h t ht
    have q := congrArg (fun z : Int32 => z.toBitVec.getLsbD (7 - t)) h
    simp only [Int32.toBitVec_and, BitVec.getLsbD_and, hm (7 - t) (by omega)] at q
    rw [own_gb x0 x1 j hj (7 - t) (by omega), own_gb y0 y1 j hj (7 - t) (by omega), show 7 - (7 - t) = t from by omega] at q
    simpa [show 8 - r ≤ 7 - t from by omega, show 7 - t < 8 from by omega] using q
  · intro h
    apply Int32.toBitVec_inj.mp
    apply BitVec.eq_of_getLsbD_eq
    intro i hi
    simp only [Int32.toBitVec_and, BitVec.getLsbD_and, hm i hi]
    by_cases q : 8 - r ≤ i ∧ i < 8
    · rw [own_gb x0 x1 j hj i q.2, own_gb y0 y1 j hj i q.2, h _ (by omega)]
    · rw [decide_eq_false q, Bool.and_false, Bool.and_false]

/-- a byte[] of N bytes, place j holding g j -/
def own_Byt (Z : State) (h : Heap) (b : Addr) (N : Nat) (g : Nat → Int32) : Prop := ∃ c : Cell, Arr Z h b c .byte ∧ c.slots.size = N ∧ ∀ j, j < N → c.slots[j]? = some (.int (g j))
theorem own_Byt.lt {Z : State} {h : Heap} {b N : Nat} {g : Nat → Int32} (F : own_Byt Z h b N g) : b < h.size := by obtain ⟨c, A, -⟩ := F; exact A.lt
theorem own_Byt.ext {Z : State} {h h' : Heap} {b N : Nat} {g : Nat → Int32} (F : own_Byt Z h b N g) (E : Ext h h') : own_Byt Z h' b N g := by obtain ⟨c, A, r⟩ := F; exact ⟨c, A.ext E, r⟩
theorem own_Byt.other {Z : State} {h h' : Heap} {a b N sl : Nat} {v : Value} {g : Nat → Int32} (F : own_Byt Z h b N g) (W : Wr h h' a sl v) (q : b ≠ a) : own_Byt Z h' b N g := by obtain ⟨c, A, r⟩ := F; exact ⟨c, A.other W q, r⟩
theorem own_Byt.keep {Z : State} {h h' : Heap} {b N : Nat} {ws : List Addr} {g : Nat → Int32} (F : own_Byt Z h b N g) (K : Keep h h' ws) (q : b ∉ ws) : own_Byt Z h' b N g := by obtain ⟨c, A, r⟩ := F; exact ⟨c, ⟨K.2.1 b c A.1 q, A.2⟩, r⟩
theorem own_Byt.of {Z : State} {h : Heap} {b k N : Nat} {n : Int32} {vs : List Value} {d : Value} {g : Nat → Int32} (V : Arv Z h b k .byte n vs d) (hn : n.toNatClampNeg = N) (hg : ∀ j, j < N → vs.getD j d = .int (g j)) : own_Byt Z h b N g := by
  obtain ⟨c, A, q1, q2, q3, H, G⟩ := V
  refine ⟨c, A, q2.trans hn, fun j hj => ?_⟩
  rw [← hg j hj]; exact H j (by rw [q2, hn]; exact hj)
theorem own_sh0 (x : Int64) : XT.ushrL x (Int32.ofNat 0) = x := Int64.toBitVec_inj.mp (by rw [own_sh 0 (by decide)]; rfl)
theorem own_by0 (x : Int64) : nar .byte (x.toInt32.toInt8.toInt32) = own_by x (Int32.ofNat 0) := by rw [own_by, own_sh0]
theorem own_l16 (hi lo : Int64) : ∀ j, j < 16 → ([.int (nar .byte ((XT.ushrL hi (56 : Int32)).toInt32.toInt8.toInt32)), .int (nar .byte ((XT.ushrL hi (48 : Int32)).toInt32.toInt8.toInt32)), .int (nar .byte ((XT.ushrL hi (40 : Int32)).toInt32.toInt8.toInt32)), .int (nar .byte ((XT.ushrL hi (32 : Int32)).toInt32.toInt8.toInt32)), .int (nar .byte ((XT.ushrL hi (24 : Int32)).toInt32.toInt8.toInt32)), .int (nar .byte ((XT.ushrL hi (16 : Int32)).toInt32.toInt8.toInt32)), .int (nar .byte ((XT.ushrL hi (8 : Int32)).toInt32.toInt8.toInt32)), .int (nar .byte (hi.toInt32.toInt8.toInt32)), .int (nar .byte ((XT.ushrL lo (56 : Int32)).toInt32.toInt8.toInt32)), .int (nar .byte ((XT.ushrL lo (48 : Int32)).toInt32.toInt8.toInt32)), .int (nar .byte ((XT.ushrL lo (40 : Int32)).toInt32.toInt8.toInt32)), .int (nar .byte ((XT.ushrL lo (32 : Int32)).toInt32.toInt8.toInt32)), .int (nar .byte ((XT.ushrL lo (24 : Int32)).toInt32.toInt8.toInt32)), .int (nar .byte ((XT.ushrL lo (16 : Int32)).toInt32.toInt8.toInt32)), .int (nar .byte ((XT.ushrL lo (8 : Int32)).toInt32.toInt8.toInt32)), .int (nar .byte (lo.toInt32.toInt8.toInt32))] : List Value).getD j (.int (0 : Int32)) = .int (own_g hi lo j)
  | 0, _ => rfl
  | 1, _ => rfl
  | 2, _ => rfl
  | 3, _ => rfl
  | 4, _ => rfl
  | 5, _ => rfl
  | 6, _ => rfl
  | 7, _ => congrArg Value.int (own_by0 hi)
  | 8, _ => rfl
  | 9, _ => rfl
  | 10, _ => rfl
  | 11, _ => rfl
  | 12, _ => rfl
  | 13, _ => rfl
  | 14, _ => rfl
  | 15, _ => congrArg Value.int (own_by0 lo)
  | _ + 16, h => absurd h (by omega)
theorem own_l4 (hi lo : Int64) : ∀ j, j < 4 → ([.int (nar .byte ((XT.ushrL hi (56 : Int32)).toInt32.toInt8.toInt32)), .int (nar .byte ((XT.ushrL hi (48 : Int32)).toInt32.toInt8.toInt32)), .int (nar .byte ((XT.ushrL hi (40 : Int32)).toInt32.toInt8.toInt32)), .int (nar .byte ((XT.ushrL hi (32 : Int32)).toInt32.toInt8.toInt32))] : List Value).getD j (.int (0 : Int32)) = .int (own_g hi lo j)
  | 0, _ => rfl
  | 1, _ => rfl
  | 2, _ => rfl
  | 3, _ => rfl
  | _ + 4, h => absurd h (by omega)
theorem own_ef1_1 (m : MethodId) (hi : Int64) (lo : Int64) : entryFrame m #[(.long hi), (.long lo), (.int (1 : Int32))] 6 = mkF m 0 #[.val (.long hi), .second, .val (.long lo), .second, .val (.int (1 : Int32)), .unset] [] := by
  (first | (simp [entryFrame, mkF, argsToLocals, Value.category]; done) | rfl)
theorem own_pn_0 : plainName "com/example/heraldmesh/heraldmesh/feed/BlockHoldsPinLaw" = true := by first | (simp [plainName, overriddenIn]; done) | decide +kernel
theorem own_d1_0 : decode method_4_code 0 = .ok (.iload 4, 2) := by decide +kernel
theorem own_d1_2 : decode method_4_code 2 = .ok (.ifCond .eq 8, 3) := by decide +kernel
theorem own_d1_5 : decode method_4_code 5 = .ok (.bipush 16, 2) := by decide +kernel
theorem own_d1_7 : decode method_4_code 7 = .ok (.goto 4, 3) := by decide +kernel
theorem own_d1_11 : decode method_4_code 11 = .ok (.newarray .byte, 2) := by decide +kernel
theorem own_d1_13 : decode method_4_code 13 = .ok (.astore 5, 2) := by decide +kernel
theorem own_d1_15 : decode method_4_code 15 = .ok (.aload 5, 2) := by decide +kernel
theorem own_d1_17 : decode method_4_code 17 = .ok (.iconst 0, 1) := by decide +kernel
theorem own_d1_18 : decode method_4_code 18 = .ok (.lload_n 0, 1) := by decide +kernel
theorem own_d1_19 : decode method_4_code 19 = .ok (.bipush 56, 2) := by decide +kernel
theorem own_d1_21 : decode method_4_code 21 = .ok (.lushr, 1) := by decide +kernel
theorem own_d1_22 : decode method_4_code 22 = .ok (.l2i, 1) := by decide +kernel
theorem own_d1_23 : decode method_4_code 23 = .ok (.i2b, 1) := by decide +kernel
theorem own_d1_24 : decode method_4_code 24 = .ok (.bastore, 1) := by decide +kernel
theorem own_d1_25 : decode method_4_code 25 = .ok (.aload 5, 2) := by decide +kernel
theorem own_d1_27 : decode method_4_code 27 = .ok (.iconst 1, 1) := by decide +kernel
theorem own_d1_28 : decode method_4_code 28 = .ok (.lload_n 0, 1) := by decide +kernel
theorem own_d1_29 : decode method_4_code 29 = .ok (.bipush 48, 2) := by decide +kernel
theorem own_d1_31 : decode method_4_code 31 = .ok (.lushr, 1) := by decide +kernel
theorem own_d1_32 : decode method_4_code 32 = .ok (.l2i, 1) := by decide +kernel
theorem own_d1_33 : decode method_4_code 33 = .ok (.i2b, 1) := by decide +kernel
theorem own_d1_34 : decode method_4_code 34 = .ok (.bastore, 1) := by decide +kernel
theorem own_d1_35 : decode method_4_code 35 = .ok (.aload 5, 2) := by decide +kernel
theorem own_d1_37 : decode method_4_code 37 = .ok (.iconst 2, 1) := by decide +kernel
theorem own_d1_38 : decode method_4_code 38 = .ok (.lload_n 0, 1) := by decide +kernel
theorem own_d1_39 : decode method_4_code 39 = .ok (.bipush 40, 2) := by decide +kernel
theorem own_d1_41 : decode method_4_code 41 = .ok (.lushr, 1) := by decide +kernel
theorem own_d1_42 : decode method_4_code 42 = .ok (.l2i, 1) := by decide +kernel
theorem own_d1_43 : decode method_4_code 43 = .ok (.i2b, 1) := by decide +kernel
theorem own_d1_44 : decode method_4_code 44 = .ok (.bastore, 1) := by decide +kernel
theorem own_d1_45 : decode method_4_code 45 = .ok (.aload 5, 2) := by decide +kernel
theorem own_d1_47 : decode method_4_code 47 = .ok (.iconst 3, 1) := by decide +kernel
theorem own_d1_48 : decode method_4_code 48 = .ok (.lload_n 0, 1) := by decide +kernel
theorem own_d1_49 : decode method_4_code 49 = .ok (.bipush 32, 2) := by decide +kernel
theorem own_d1_51 : decode method_4_code 51 = .ok (.lushr, 1) := by decide +kernel
theorem own_d1_52 : decode method_4_code 52 = .ok (.l2i, 1) := by decide +kernel
theorem own_d1_53 : decode method_4_code 53 = .ok (.i2b, 1) := by decide +kernel
theorem own_d1_54 : decode method_4_code 54 = .ok (.bastore, 1) := by decide +kernel
theorem own_d1_55 : decode method_4_code 55 = .ok (.iload 4, 2) := by decide +kernel
theorem own_d1_57 : decode method_4_code 57 = .ok (.ifCond .eq 127, 3) := by decide +kernel
theorem own_d1_60 : decode method_4_code 60 = .ok (.aload 5, 2) := by decide +kernel
theorem own_d1_62 : decode method_4_code 62 = .ok (.iconst 4, 1) := by decide +kernel
theorem own_d1_63 : decode method_4_code 63 = .ok (.lload_n 0, 1) := by decide +kernel
theorem own_d1_64 : decode method_4_code 64 = .ok (.bipush 24, 2) := by decide +kernel
theorem own_d1_66 : decode method_4_code 66 = .ok (.lushr, 1) := by decide +kernel
theorem own_d1_67 : decode method_4_code 67 = .ok (.l2i, 1) := by decide +kernel
theorem own_d1_68 : decode method_4_code 68 = .ok (.i2b, 1) := by decide +kernel
theorem own_d1_69 : decode method_4_code 69 = .ok (.bastore, 1) := by decide +kernel
theorem own_d1_70 : decode method_4_code 70 = .ok (.aload 5, 2) := by decide +kernel
theorem own_d1_72 : decode method_4_code 72 = .ok (.iconst 5, 1) := by decide +kernel
theorem own_d1_73 : decode method_4_code 73 = .ok (.lload_n 0, 1) := by decide +kernel
theorem own_d1_74 : decode method_4_code 74 = .ok (.bipush 16, 2) := by decide +kernel
theorem own_d1_76 : decode method_4_code 76 = .ok (.lushr, 1) := by decide +kernel
theorem own_d1_77 : decode method_4_code 77 = .ok (.l2i, 1) := by decide +kernel
theorem own_d1_78 : decode method_4_code 78 = .ok (.i2b, 1) := by decide +kernel
theorem own_d1_79 : decode method_4_code 79 = .ok (.bastore, 1) := by decide +kernel
theorem own_d1_80 : decode method_4_code 80 = .ok (.aload 5, 2) := by decide +kernel
theorem own_d1_82 : decode method_4_code 82 = .ok (.bipush 6, 2) := by decide +kernel
theorem own_d1_84 : decode method_4_code 84 = .ok (.lload_n 0, 1) := by decide +kernel
theorem own_d1_85 : decode method_4_code 85 = .ok (.bipush 8, 2) := by decide +kernel
theorem own_d1_87 : decode method_4_code 87 = .ok (.lushr, 1) := by decide +kernel
theorem own_d1_88 : decode method_4_code 88 = .ok (.l2i, 1) := by decide +kernel
theorem own_d1_89 : decode method_4_code 89 = .ok (.i2b, 1) := by decide +kernel
theorem own_d1_90 : decode method_4_code 90 = .ok (.bastore, 1) := by decide +kernel
theorem own_d1_91 : decode method_4_code 91 = .ok (.aload 5, 2) := by decide +kernel
theorem own_d1_93 : decode method_4_code 93 = .ok (.bipush 7, 2) := by decide +kernel
theorem own_d1_95 : decode method_4_code 95 = .ok (.lload_n 0, 1) := by decide +kernel
theorem own_d1_96 : decode method_4_code 96 = .ok (.l2i, 1) := by decide +kernel
theorem own_d1_97 : decode method_4_code 97 = .ok (.i2b, 1) := by decide +kernel
theorem own_d1_98 : decode method_4_code 98 = .ok (.bastore, 1) := by decide +kernel
theorem own_d1_99 : decode method_4_code 99 = .ok (.aload 5, 2) := by decide +kernel
theorem own_d1_101 : decode method_4_code 101 = .ok (.bipush 8, 2) := by decide +kernel
theorem own_d1_103 : decode method_4_code 103 = .ok (.lload_n 2, 1) := by decide +kernel
theorem own_d1_104 : decode method_4_code 104 = .ok (.bipush 56, 2) := by decide +kernel
theorem own_d1_106 : decode method_4_code 106 = .ok (.lushr, 1) := by decide +kernel
theorem own_d1_107 : decode method_4_code 107 = .ok (.l2i, 1) := by decide +kernel
theorem own_d1_108 : decode method_4_code 108 = .ok (.i2b, 1) := by decide +kernel
theorem own_d1_109 : decode method_4_code 109 = .ok (.bastore, 1) := by decide +kernel
theorem own_d1_110 : decode method_4_code 110 = .ok (.aload 5, 2) := by decide +kernel
theorem own_d1_112 : decode method_4_code 112 = .ok (.bipush 9, 2) := by decide +kernel
theorem own_d1_114 : decode method_4_code 114 = .ok (.lload_n 2, 1) := by decide +kernel
theorem own_d1_115 : decode method_4_code 115 = .ok (.bipush 48, 2) := by decide +kernel
theorem own_d1_117 : decode method_4_code 117 = .ok (.lushr, 1) := by decide +kernel
theorem own_d1_118 : decode method_4_code 118 = .ok (.l2i, 1) := by decide +kernel
theorem own_d1_119 : decode method_4_code 119 = .ok (.i2b, 1) := by decide +kernel
theorem own_d1_120 : decode method_4_code 120 = .ok (.bastore, 1) := by decide +kernel
theorem own_d1_121 : decode method_4_code 121 = .ok (.aload 5, 2) := by decide +kernel
theorem own_d1_123 : decode method_4_code 123 = .ok (.bipush 10, 2) := by decide +kernel
theorem own_d1_125 : decode method_4_code 125 = .ok (.lload_n 2, 1) := by decide +kernel
theorem own_d1_126 : decode method_4_code 126 = .ok (.bipush 40, 2) := by decide +kernel
theorem own_d1_128 : decode method_4_code 128 = .ok (.lushr, 1) := by decide +kernel
theorem own_d1_129 : decode method_4_code 129 = .ok (.l2i, 1) := by decide +kernel
theorem own_d1_130 : decode method_4_code 130 = .ok (.i2b, 1) := by decide +kernel
theorem own_d1_131 : decode method_4_code 131 = .ok (.bastore, 1) := by decide +kernel
theorem own_d1_132 : decode method_4_code 132 = .ok (.aload 5, 2) := by decide +kernel
theorem own_d1_134 : decode method_4_code 134 = .ok (.bipush 11, 2) := by decide +kernel
theorem own_d1_136 : decode method_4_code 136 = .ok (.lload_n 2, 1) := by decide +kernel
theorem own_d1_137 : decode method_4_code 137 = .ok (.bipush 32, 2) := by decide +kernel
theorem own_d1_139 : decode method_4_code 139 = .ok (.lushr, 1) := by decide +kernel
theorem own_d1_140 : decode method_4_code 140 = .ok (.l2i, 1) := by decide +kernel
theorem own_d1_141 : decode method_4_code 141 = .ok (.i2b, 1) := by decide +kernel
theorem own_d1_142 : decode method_4_code 142 = .ok (.bastore, 1) := by decide +kernel
theorem own_d1_143 : decode method_4_code 143 = .ok (.aload 5, 2) := by decide +kernel
theorem own_d1_145 : decode method_4_code 145 = .ok (.bipush 12, 2) := by decide +kernel
theorem own_d1_147 : decode method_4_code 147 = .ok (.lload_n 2, 1) := by decide +kernel
theorem own_d1_148 : decode method_4_code 148 = .ok (.bipush 24, 2) := by decide +kernel
theorem own_d1_150 : decode method_4_code 150 = .ok (.lushr, 1) := by decide +kernel
theorem own_d1_151 : decode method_4_code 151 = .ok (.l2i, 1) := by decide +kernel
theorem own_d1_152 : decode method_4_code 152 = .ok (.i2b, 1) := by decide +kernel
theorem own_d1_153 : decode method_4_code 153 = .ok (.bastore, 1) := by decide +kernel
theorem own_d1_154 : decode method_4_code 154 = .ok (.aload 5, 2) := by decide +kernel
theorem own_d1_156 : decode method_4_code 156 = .ok (.bipush 13, 2) := by decide +kernel
theorem own_d1_158 : decode method_4_code 158 = .ok (.lload_n 2, 1) := by decide +kernel
theorem own_d1_159 : decode method_4_code 159 = .ok (.bipush 16, 2) := by decide +kernel
theorem own_d1_161 : decode method_4_code 161 = .ok (.lushr, 1) := by decide +kernel
theorem own_d1_162 : decode method_4_code 162 = .ok (.l2i, 1) := by decide +kernel
theorem own_d1_163 : decode method_4_code 163 = .ok (.i2b, 1) := by decide +kernel
theorem own_d1_164 : decode method_4_code 164 = .ok (.bastore, 1) := by decide +kernel
theorem own_d1_165 : decode method_4_code 165 = .ok (.aload 5, 2) := by decide +kernel
theorem own_d1_167 : decode method_4_code 167 = .ok (.bipush 14, 2) := by decide +kernel
theorem own_d1_169 : decode method_4_code 169 = .ok (.lload_n 2, 1) := by decide +kernel
theorem own_d1_170 : decode method_4_code 170 = .ok (.bipush 8, 2) := by decide +kernel
theorem own_d1_172 : decode method_4_code 172 = .ok (.lushr, 1) := by decide +kernel
theorem own_d1_173 : decode method_4_code 173 = .ok (.l2i, 1) := by decide +kernel
theorem own_d1_174 : decode method_4_code 174 = .ok (.i2b, 1) := by decide +kernel
theorem own_d1_175 : decode method_4_code 175 = .ok (.bastore, 1) := by decide +kernel
theorem own_d1_176 : decode method_4_code 176 = .ok (.aload 5, 2) := by decide +kernel
theorem own_d1_178 : decode method_4_code 178 = .ok (.bipush 15, 2) := by decide +kernel
theorem own_d1_180 : decode method_4_code 180 = .ok (.lload_n 2, 1) := by decide +kernel
theorem own_d1_181 : decode method_4_code 181 = .ok (.l2i, 1) := by decide +kernel
theorem own_d1_182 : decode method_4_code 182 = .ok (.i2b, 1) := by decide +kernel
theorem own_d1_183 : decode method_4_code 183 = .ok (.bastore, 1) := by decide +kernel
theorem own_d1_184 : decode method_4_code 184 = .ok (.aload 5, 2) := by decide +kernel
theorem own_d1_186 : decode method_4_code 186 = .ok (.areturn, 1) := by decide +kernel
set_option maxRecDepth 65536 in
set_option maxHeartbeats 40000000 in
theorem own_rm1_1 (l : Launch) (Z : State) (a0 : Array Value) (hw : ∀ d ∈ tables_1, d.before a0 Z = true) (ws : List Jvm.Cond) (hi lo : Int64) (h0 : Heap) (n0 : Nat) (Z0 : n0 ≤ h0.size)  :
    Con l Z (⟨"com/example/heraldmesh/heraldmesh/feed/BlockHoldsPinLaw", "bytes", "(JJZ)[B"⟩ : MethodName) method_4_code 6 (some (.array .byte)) ws ({ frames := 0, cells := 1, slots := 16, locals := 0 } : Room) #[(.long hi), (.long lo), (.int (1 : Int32))] h0 (fun v h L => ∃ b : Nat, v = some (.ref b) ∧ Fr n0 L ∧ h0.size ≤ b ∧ Keep h0 h [] ∧ own_Byt Z h b 16 (own_g hi lo)) := by
  refine Con.intro (plainFor_of_name own_pn_0) ?_
  intro p e s m below meth c s₁ P hx hby hml hown hnm hret hlk hZ X0 e0 hP
  have N0 := Fr.nil n0
  have hown : s.vm.findClass "com/example/heraldmesh/heraldmesh/feed/BlockHoldsPinLaw" = some m.cls := hown
  refine Go.cast (own_ef1_1 m hi lo) ?_
  show Go p.tables e below P (s₁.setTop (mkF m 0 #[.val (.long hi), .second, .val (.long lo), .second, .val (.int (1 : Int32)), .unset] []))
  refine Go.s (fun kz => XS.iload X0.here hx rfl (hb hby own_d1_0) rfl kz) ?_
  show Go p.tables e below P (s₁.setTop (mkF m 2 #[.val (.long hi), .second, .val (.long lo), .second, .val (.int (1 : Int32)), .unset] [(.int (1 : Int32))]))
  refine Go.s (fun kz => XS.ifNo X0.here hx rfl (hb hby own_d1_2) rfl (XT.i0_eq_f (by decide)) kz) ?_
  show Go p.tables e below P (s₁.setTop (mkF m 5 #[.val (.long hi), .second, .val (.long lo), .second, .val (.int (1 : Int32)), .unset] []))
  refine Go.s (fun kz => XS.bipush X0.here hx rfl (hb hby own_d1_5) kz) ?_
  refine Go.s (fun kz => XS.goto X0.here hx rfl (pc0 := 7) (pc' := 11) rfl (hb hby own_d1_7) (by decide) (by decide) kz) ?_
  show Go p.tables e below P (s₁.setTop (mkF m 11 #[.val (.long hi), .second, .val (.long lo), .second, .val (.int (1 : Int32)), .unset] [(.int (16 : Int32))]))
  obtain ⟨T1, H1, k1, X1, e1, E1, A1, st1⟩ := newP X0 hx hZ (hw _ (List.mem_of_getElem? (i := 5) rfl)) e0 (g := (mkF m 11 #[.val (.long hi), .second, .val (.long lo), .second, .val (.int (1 : Int32)), .unset] [(.int (16 : Int32))])) rfl (hb hby own_d1_11) rfl (by decide) (cap := 16) (by decide) (by decide) (by decide) (by decide)
  refine Go.s (fun {t} => st1 t) ?_
  obtain ⟨b1, g1⟩ : ∃ z, z = h0.size := ⟨_, rfl⟩
  rw [← g1] at A1
  rw [← g1]
  have G_b1 : n0 ≤ b1 := Nat.le_trans Z0 (Nat.le_of_eq g1.symm)
  have Zs1 := Nat.le_trans Z0 E1.1
  have SZ_b1 : h0.size ≤ b1 := Nat.le_trans (Keep.refl h0 []).1 (Nat.le_of_eq g1.symm)
  have K1 := (Keep.refl h0 []).ext E1
  have V1 : Arv Z H1 b1 k1 .byte (16 : Int32) [(.int (0 : Int32)), (.int (0 : Int32)), (.int (0 : Int32)), (.int (0 : Int32)), (.int (0 : Int32)), (.int (0 : Int32)), (.int (0 : Int32)), (.int (0 : Int32)), (.int (0 : Int32)), (.int (0 : Int32)), (.int (0 : Int32)), (.int (0 : Int32)), (.int (0 : Int32)), (.int (0 : Int32)), (.int (0 : Int32)), (.int (0 : Int32))] (.int (0 : Int32)) := (Arv.new A1 (by decide)).pad (pad_rep [] (.int (0 : Int32)) 16)
  refine Go.s (fun kz => XS.astore X1.here hx rfl (hb hby own_d1_13) rfl rfl (l' := #[.val (.long hi), .second, .val (.long lo), .second, .val (.int (1 : Int32)), .val (.ref b1)]) rfl kz) ?_
  refine Go.s (fun kz => XS.aload X1.here hx rfl (hb hby own_d1_15) rfl rfl kz) ?_
  refine Go.s (fun kz => XS.iconst X1.here hx rfl (hb hby own_d1_17) kz) ?_
  refine Go.s (fun kz => XT.lloadN X1.here hx rfl (hb hby own_d1_18) rfl kz) ?_
  show Go p.tables e below P (T1.setTop (mkF m 19 #[.val (.long hi), .second, .val (.long lo), .second, .val (.int (1 : Int32)), .val (.ref b1)] [(.long hi), (.int (0 : Int32)), (.ref b1)]))
  refine Go.s (fun kz => XS.bipush X1.here hx rfl (hb hby own_d1_19) kz) ?_
  refine Go.s (fun kz => XT.lushr X1.here hx rfl (hb hby own_d1_21) rfl kz) ?_
  refine Go.s (fun kz => XT.l2i X1.here hx rfl (hb hby own_d1_22) rfl kz) ?_
  refine Go.s (fun kz => XT.i2b X1.here hx rfl (hb hby own_d1_23) rfl kz) ?_
  show Go p.tables e below P (T1.setTop (mkF m 24 #[.val (.long hi), .second, .val (.long lo), .second, .val (.int (1 : Int32)), .val (.ref b1)] [(.int ((XT.ushrL hi (56 : Int32)).toInt32).toInt8.toInt32), (.int (0 : Int32)), (.ref b1)]))
  obtain ⟨cl2, Ar2, q2, Sz2, Ng2, Ha2, Ft2⟩ := id V1
  have hin2 := inb_of (j := (0 : Int32)) Sz2 ⟨by decide, by decide⟩
  obtain ⟨T2, H2, X2, e2, W2, st2⟩ := stB X1 hx hZ e1 Ar2 (j := (0 : Int32)) hin2 (g := (mkF m 24 #[.val (.long hi), .second, .val (.long lo), .second, .val (.int (1 : Int32)), .val (.ref b1)] [(.int ((XT.ushrL hi (56 : Int32)).toInt32).toInt8.toInt32), (.int (0 : Int32)), (.ref b1)])) rfl rfl (hb hby own_d1_24)
  refine Go.s (fun {t} => st2 t) ?_
  have V2 : Arv Z H2 b1 k1 .byte (16 : Int32) [(.int (nar .byte (((XT.ushrL hi (56 : Int32)).toInt32).toInt8.toInt32))), (.int (0 : Int32)), (.int (0 : Int32)), (.int (0 : Int32)), (.int (0 : Int32)), (.int (0 : Int32)), (.int (0 : Int32)), (.int (0 : Int32)), (.int (0 : Int32)), (.int (0 : Int32)), (.int (0 : Int32)), (.int (0 : Int32)), (.int (0 : Int32)), (.int (0 : Int32)), (.int (0 : Int32)), (.int (0 : Int32))] (.int (0 : Int32)) := Arv.set Ar2 q2 Sz2 Ng2 Ha2 Ft2 (fits_nar_byte _) W2 0 rfl (Nat.le_of_ble_eq_true rfl)
  have N2 := Fr.snoc X2 N0 G_b1
  have Zs2 := Nat.le_trans Zs1 (Keep.of_wr W2).1
  have K2 : Keep h0 H2 [] := K1.wr W2 (Or.inr SZ_b1)
  refine Go.s (fun kz => XS.aload X2.here hx rfl (hb hby own_d1_25) rfl rfl kz) ?_
  refine Go.s (fun kz => XS.iconst X2.here hx rfl (hb hby own_d1_27) kz) ?_
  refine Go.s (fun kz => XT.lloadN X2.here hx rfl (hb hby own_d1_28) rfl kz) ?_
  refine Go.s (fun kz => XS.bipush X2.here hx rfl (hb hby own_d1_29) kz) ?_
  refine Go.s (fun kz => XT.lushr X2.here hx rfl (hb hby own_d1_31) rfl kz) ?_
  show Go p.tables e below P (T2.setTop (mkF m 32 #[.val (.long hi), .second, .val (.long lo), .second, .val (.int (1 : Int32)), .val (.ref b1)] [(.long (XT.ushrL hi (48 : Int32))), (.int (1 : Int32)), (.ref b1)]))
  refine Go.s (fun kz => XT.l2i X2.here hx rfl (hb hby own_d1_32) rfl kz) ?_
  refine Go.s (fun kz => XT.i2b X2.here hx rfl (hb hby own_d1_33) rfl kz) ?_
  show Go p.tables e below P (T2.setTop (mkF m 34 #[.val (.long hi), .second, .val (.long lo), .second, .val (.int (1 : Int32)), .val (.ref b1)] [(.int ((XT.ushrL hi (48 : Int32)).toInt32).toInt8.toInt32), (.int (1 : Int32)), (.ref b1)]))
  obtain ⟨cl4, Ar4, q4, Sz4, Ng4, Ha4, Ft4⟩ := id V2
  have hin4 := inb_of (j := (1 : Int32)) Sz4 ⟨by decide, by decide⟩
  obtain ⟨T4, H4, X4, e4, W4, st4⟩ := stB X2 hx hZ e2 Ar4 (j := (1 : Int32)) hin4 (g := (mkF m 34 #[.val (.long hi), .second, .val (.long lo), .second, .val (.int (1 : Int32)), .val (.ref b1)] [(.int ((XT.ushrL hi (48 : Int32)).toInt32).toInt8.toInt32), (.int (1 : Int32)), (.ref b1)])) rfl rfl (hb hby own_d1_34)
  refine Go.s (fun {t} => st4 t) ?_
  have V4 : Arv Z H4 b1 k1 .byte (16 : Int32) [(.int (nar .byte (((XT.ushrL hi (56 : Int32)).toInt32).toInt8.toInt32))), (.int (nar .byte (((XT.ushrL hi (48 : Int32)).toInt32).toInt8.toInt32))), (.int (0 : Int32)), (.int (0 : Int32)), (.int (0 : Int32)), (.int (0 : Int32)), (.int (0 : Int32)), (.int (0 : Int32)), (.int (0 : Int32)), (.int (0 : Int32)), (.int (0 : Int32)), (.int (0 : Int32)), (.int (0 : Int32)), (.int (0 : Int32)), (.int (0 : Int32)), (.int (0 : Int32))] (.int (0 : Int32)) := Arv.set Ar4 q4 Sz4 Ng4 Ha4 Ft4 (fits_nar_byte _) W4 1 rfl (Nat.le_of_ble_eq_true rfl)
  have N4 := Fr.snoc X4 N2 G_b1
  have Zs4 := Nat.le_trans Zs2 (Keep.of_wr W4).1
  have K4 : Keep h0 H4 [] := K2.wr W4 (Or.inr SZ_b1)
  refine Go.s (fun kz => XS.aload X4.here hx rfl (hb hby own_d1_35) rfl rfl kz) ?_
  refine Go.s (fun kz => XS.iconst X4.here hx rfl (hb hby own_d1_37) kz) ?_
  refine Go.s (fun kz => XT.lloadN X4.here hx rfl (hb hby own_d1_38) rfl kz) ?_
  refine Go.s (fun kz => XS.bipush X4.here hx rfl (hb hby own_d1_39) kz) ?_
  refine Go.s (fun kz => XT.lushr X4.here hx rfl (hb hby own_d1_41) rfl kz) ?_
  show Go p.tables e below P (T4.setTop (mkF m 42 #[.val (.long hi), .second, .val (.long lo), .second, .val (.int (1 : Int32)), .val (.ref b1)] [(.long (XT.ushrL hi (40 : Int32))), (.int (2 : Int32)), (.ref b1)]))
  refine Go.s (fun kz => XT.l2i X4.here hx rfl (hb hby own_d1_42) rfl kz) ?_
  refine Go.s (fun kz => XT.i2b X4.here hx rfl (hb hby own_d1_43) rfl kz) ?_
  show Go p.tables e below P (T4.setTop (mkF m 44 #[.val (.long hi), .second, .val (.long lo), .second, .val (.int (1 : Int32)), .val (.ref b1)] [(.int ((XT.ushrL hi (40 : Int32)).toInt32).toInt8.toInt32), (.int (2 : Int32)), (.ref b1)]))
  obtain ⟨cl6, Ar6, q6, Sz6, Ng6, Ha6, Ft6⟩ := id V4
  have hin6 := inb_of (j := (2 : Int32)) Sz6 ⟨by decide, by decide⟩
  obtain ⟨T6, H6, X6, e6, W6, st6⟩ := stB X4 hx hZ e4 Ar6 (j := (2 : Int32)) hin6 (g := (mkF m 44 #[.val (.long hi), .second, .val (.long lo), .second, .val (.int (1 : Int32)), .val (.ref b1)] [(.int ((XT.ushrL hi (40 : Int32)).toInt32).toInt8.toInt32), (.int (2 : Int32)), (.ref b1)])) rfl rfl (hb hby own_d1_44)
  refine Go.s (fun {t} => st6 t) ?_
  have V6 : Arv Z H6 b1 k1 .byte (16 : Int32) [(.int (nar .byte (((XT.ushrL hi (56 : Int32)).toInt32).toInt8.toInt32))), (.int (nar .byte (((XT.ushrL hi (48 : Int32)).toInt32).toInt8.toInt32))), (.int (nar .byte (((XT.ushrL hi (40 : Int32)).toInt32).toInt8.toInt32))), (.int (0 : Int32)), (.int (0 : Int32)), (.int (0 : Int32)), (.int (0 : Int32)), (.int (0 : Int32)), (.int (0 : Int32)), (.int (0 : Int32)), (.int (0 : Int32)), (.int (0 : Int32)), (.int (0 : Int32)), (.int (0 : Int32)), (.int (0 : Int32)), (.int (0 : Int32))] (.int (0 : Int32)) := Arv.set Ar6 q6 Sz6 Ng6 Ha6 Ft6 (fits_nar_byte _) W6 2 rfl (Nat.le_of_ble_eq_true rfl)
  have N6 := Fr.snoc X6 N4 G_b1
  have Zs6 := Nat.le_trans Zs4 (Keep.of_wr W6).1
  have K6 : Keep h0 H6 [] := K4.wr W6 (Or.inr SZ_b1)
  refine Go.s (fun kz => XS.aload X6.here hx rfl (hb hby own_d1_45) rfl rfl kz) ?_
  refine Go.s (fun kz => XS.iconst X6.here hx rfl (hb hby own_d1_47) kz) ?_
  refine Go.s (fun kz => XT.lloadN X6.here hx rfl (hb hby own_d1_48) rfl kz) ?_
  refine Go.s (fun kz => XS.bipush X6.here hx rfl (hb hby own_d1_49) kz) ?_
  refine Go.s (fun kz => XT.lushr X6.here hx rfl (hb hby own_d1_51) rfl kz) ?_
  show Go p.tables e below P (T6.setTop (mkF m 52 #[.val (.long hi), .second, .val (.long lo), .second, .val (.int (1 : Int32)), .val (.ref b1)] [(.long (XT.ushrL hi (32 : Int32))), (.int (3 : Int32)), (.ref b1)]))
  refine Go.s (fun kz => XT.l2i X6.here hx rfl (hb hby own_d1_52) rfl kz) ?_
  refine Go.s (fun kz => XT.i2b X6.here hx rfl (hb hby own_d1_53) rfl kz) ?_
  show Go p.tables e below P (T6.setTop (mkF m 54 #[.val (.long hi), .second, .val (.long lo), .second, .val (.int (1 : Int32)), .val (.ref b1)] [(.int ((XT.ushrL hi (32 : Int32)).toInt32).toInt8.toInt32), (.int (3 : Int32)), (.ref b1)]))
  obtain ⟨cl8, Ar8, q8, Sz8, Ng8, Ha8, Ft8⟩ := id V6
  have hin8 := inb_of (j := (3 : Int32)) Sz8 ⟨by decide, by decide⟩
  obtain ⟨T8, H8, X8, e8, W8, st8⟩ := stB X6 hx hZ e6 Ar8 (j := (3 : Int32)) hin8 (g := (mkF m 54 #[.val (.long hi), .second, .val (.long lo), .second, .val (.int (1 : Int32)), .val (.ref b1)] [(.int ((XT.ushrL hi (32 : Int32)).toInt32).toInt8.toInt32), (.int (3 : Int32)), (.ref b1)])) rfl rfl (hb hby own_d1_54)
  refine Go.s (fun {t} => st8 t) ?_
  have V8 : Arv Z H8 b1 k1 .byte (16 : Int32) [(.int (nar .byte (((XT.ushrL hi (56 : Int32)).toInt32).toInt8.toInt32))), (.int (nar .byte (((XT.ushrL hi (48 : Int32)).toInt32).toInt8.toInt32))), (.int (nar .byte (((XT.ushrL hi (40 : Int32)).toInt32).toInt8.toInt32))), (.int (nar .byte (((XT.ushrL hi (32 : Int32)).toInt32).toInt8.toInt32))), (.int (0 : Int32)), (.int (0 : Int32)), (.int (0 : Int32)), (.int (0 : Int32)), (.int (0 : Int32)), (.int (0 : Int32)), (.int (0 : Int32)), (.int (0 : Int32)), (.int (0 : Int32)), (.int (0 : Int32)), (.int (0 : Int32)), (.int (0 : Int32))] (.int (0 : Int32)) := Arv.set Ar8 q8 Sz8 Ng8 Ha8 Ft8 (fits_nar_byte _) W8 3 rfl (Nat.le_of_ble_eq_true rfl)
  have N8 := Fr.snoc X8 N6 G_b1
  have Zs8 := Nat.le_trans Zs6 (Keep.of_wr W8).1
  have K8 : Keep h0 H8 [] := K6.wr W8 (Or.inr SZ_b1)
  refine Go.s (fun kz => XS.iload X8.here hx rfl (hb hby own_d1_55) rfl kz) ?_
  show Go p.tables e below P (T8.setTop (mkF m 57 #[.val (.long hi), .second, .val (.long lo), .second, .val (.int (1 : Int32)), .val (.ref b1)] [(.int (1 : Int32))]))
  refine Go.s (fun kz => XS.ifNo X8.here hx rfl (hb hby own_d1_57) rfl (XT.i0_eq_f (by decide)) kz) ?_
  show Go p.tables e below P (T8.setTop (mkF m 60 #[.val (.long hi), .second, .val (.long lo), .second, .val (.int (1 : Int32)), .val (.ref b1)] []))
  refine Go.s (fun kz => XS.aload X8.here hx rfl (hb hby own_d1_60) rfl rfl kz) ?_
  refine Go.s (fun kz => XS.iconst X8.here hx rfl (hb hby own_d1_62) kz) ?_
  refine Go.s (fun kz => XT.lloadN X8.here hx rfl (hb hby own_d1_63) rfl kz) ?_
  refine Go.s (fun kz => XS.bipush X8.here hx rfl (hb hby own_d1_64) kz) ?_
  refine Go.s (fun kz => XT.lushr X8.here hx rfl (hb hby own_d1_66) rfl kz) ?_
  refine Go.s (fun kz => XT.l2i X8.here hx rfl (hb hby own_d1_67) rfl kz) ?_
  show Go p.tables e below P (T8.setTop (mkF m 68 #[.val (.long hi), .second, .val (.long lo), .second, .val (.int (1 : Int32)), .val (.ref b1)] [(.int (XT.ushrL hi (24 : Int32)).toInt32), (.int (4 : Int32)), (.ref b1)]))
  refine Go.s (fun kz => XT.i2b X8.here hx rfl (hb hby own_d1_68) rfl kz) ?_
  show Go p.tables e below P (T8.setTop (mkF m 69 #[.val (.long hi), .second, .val (.long lo), .second, .val (.int (1 : Int32)), .val (.ref b1)] [(.int ((XT.ushrL hi (24 : Int32)).toInt32).toInt8.toInt32), (.int (4 : Int32)), (.ref b1)]))
  obtain ⟨cl10, Ar10, q10, Sz10, Ng10, Ha10, Ft10⟩ := id V8
  have hin10 := inb_of (j := (4 : Int32)) Sz10 ⟨by decide, by decide⟩
  obtain ⟨T10, H10, X10, e10, W10, st10⟩ := stB X8 hx hZ e8 Ar10 (j := (4 : Int32)) hin10 (g := (mkF m 69 #[.val (.long hi), .second, .val (.long lo), .second, .val (.int (1 : Int32)), .val (.ref b1)] [(.int ((XT.ushrL hi (24 : Int32)).toInt32).toInt8.toInt32), (.int (4 : Int32)), (.ref b1)])) rfl rfl (hb hby own_d1_69)
  refine Go.s (fun {t} => st10 t) ?_
  have V10 : Arv Z H10 b1 k1 .byte (16 : Int32) [(.int (nar .byte (((XT.ushrL hi (56 : Int32)).toInt32).toInt8.toInt32))), (.int (nar .byte (((XT.ushrL hi (48 : Int32)).toInt32).toInt8.toInt32))), (.int (nar .byte (((XT.ushrL hi (40 : Int32)).toInt32).toInt8.toInt32))), (.int (nar .byte (((XT.ushrL hi (32 : Int32)).toInt32).toInt8.toInt32))), (.int (nar .byte (((XT.ushrL hi (24 : Int32)).toInt32).toInt8.toInt32))), (.int (0 : Int32)), (.int (0 : Int32)), (.int (0 : Int32)), (.int (0 : Int32)), (.int (0 : Int32)), (.int (0 : Int32)), (.int (0 : Int32)), (.int (0 : Int32)), (.int (0 : Int32)), (.int (0 : Int32)), (.int (0 : Int32))] (.int (0 : Int32)) := Arv.set Ar10 q10 Sz10 Ng10 Ha10 Ft10 (fits_nar_byte _) W10 4 rfl (Nat.le_of_ble_eq_true rfl)
  have N10 := Fr.snoc X10 N8 G_b1
  have Zs10 := Nat.le_trans Zs8 (Keep.of_wr W10).1
  have K10 : Keep h0 H10 [] := K8.wr W10 (Or.inr SZ_b1)
  refine Go.s (fun kz => XS.aload X10.here hx rfl (hb hby own_d1_70) rfl rfl kz) ?_
  refine Go.s (fun kz => XS.iconst X10.here hx rfl (hb hby own_d1_72) kz) ?_
  refine Go.s (fun kz => XT.lloadN X10.here hx rfl (hb hby own_d1_73) rfl kz) ?_
  refine Go.s (fun kz => XS.bipush X10.here hx rfl (hb hby own_d1_74) kz) ?_
  refine Go.s (fun kz => XT.lushr X10.here hx rfl (hb hby own_d1_76) rfl kz) ?_
  show Go p.tables e below P (T10.setTop (mkF m 77 #[.val (.long hi), .second, .val (.long lo), .second, .val (.int (1 : Int32)), .val (.ref b1)] [(.long (XT.ushrL hi (16 : Int32))), (.int (5 : Int32)), (.ref b1)]))
  refine Go.s (fun kz => XT.l2i X10.here hx rfl (hb hby own_d1_77) rfl kz) ?_
  refine Go.s (fun kz => XT.i2b X10.here hx rfl (hb hby own_d1_78) rfl kz) ?_
  show Go p.tables e below P (T10.setTop (mkF m 79 #[.val (.long hi), .second, .val (.long lo), .second, .val (.int (1 : Int32)), .val (.ref b1)] [(.int ((XT.ushrL hi (16 : Int32)).toInt32).toInt8.toInt32), (.int (5 : Int32)), (.ref b1)]))
  obtain ⟨cl12, Ar12, q12, Sz12, Ng12, Ha12, Ft12⟩ := id V10
  have hin12 := inb_of (j := (5 : Int32)) Sz12 ⟨by decide, by decide⟩
  obtain ⟨T12, H12, X12, e12, W12, st12⟩ := stB X10 hx hZ e10 Ar12 (j := (5 : Int32)) hin12 (g := (mkF m 79 #[.val (.long hi), .second, .val (.long lo), .second, .val (.int (1 : Int32)), .val (.ref b1)] [(.int ((XT.ushrL hi (16 : Int32)).toInt32).toInt8.toInt32), (.int (5 : Int32)), (.ref b1)])) rfl rfl (hb hby own_d1_79)
  refine Go.s (fun {t} => st12 t) ?_
  have V12 : Arv Z H12 b1 k1 .byte (16 : Int32) [(.int (nar .byte (((XT.ushrL hi (56 : Int32)).toInt32).toInt8.toInt32))), (.int (nar .byte (((XT.ushrL hi (48 : Int32)).toInt32).toInt8.toInt32))), (.int (nar .byte (((XT.ushrL hi (40 : Int32)).toInt32).toInt8.toInt32))), (.int (nar .byte (((XT.ushrL hi (32 : Int32)).toInt32).toInt8.toInt32))), (.int (nar .byte (((XT.ushrL hi (24 : Int32)).toInt32).toInt8.toInt32))), (.int (nar .byte (((XT.ushrL hi (16 : Int32)).toInt32).toInt8.toInt32))), (.int (0 : Int32)), (.int (0 : Int32)), (.int (0 : Int32)), (.int (0 : Int32)), (.int (0 : Int32)), (.int (0 : Int32)), (.int (0 : Int32)), (.int (0 : Int32)), (.int (0 : Int32)), (.int (0 : Int32))] (.int (0 : Int32)) := Arv.set Ar12 q12 Sz12 Ng12 Ha12 Ft12 (fits_nar_byte _) W12 5 rfl (Nat.le_of_ble_eq_true rfl)
  have N12 := Fr.snoc X12 N10 G_b1
  have Zs12 := Nat.le_trans Zs10 (Keep.of_wr W12).1
  have K12 : Keep h0 H12 [] := K10.wr W12 (Or.inr SZ_b1)
  refine Go.s (fun kz => XS.aload X12.here hx rfl (hb hby own_d1_80) rfl rfl kz) ?_
  refine Go.s (fun kz => XS.bipush X12.here hx rfl (hb hby own_d1_82) kz) ?_
  refine Go.s (fun kz => XT.lloadN X12.here hx rfl (hb hby own_d1_84) rfl kz) ?_
  refine Go.s (fun kz => XS.bipush X12.here hx rfl (hb hby own_d1_85) kz) ?_
  refine Go.s (fun kz => XT.lushr X12.here hx rfl (hb hby own_d1_87) rfl kz) ?_
  show Go p.tables e below P (T12.setTop (mkF m 88 #[.val (.long hi), .second, .val (.long lo), .second, .val (.int (1 : Int32)), .val (.ref b1)] [(.long (XT.ushrL hi (8 : Int32))), (.int (6 : Int32)), (.ref b1)]))
  refine Go.s (fun kz => XT.l2i X12.here hx rfl (hb hby own_d1_88) rfl kz) ?_
  refine Go.s (fun kz => XT.i2b X12.here hx rfl (hb hby own_d1_89) rfl kz) ?_
  show Go p.tables e below P (T12.setTop (mkF m 90 #[.val (.long hi), .second, .val (.long lo), .second, .val (.int (1 : Int32)), .val (.ref b1)] [(.int ((XT.ushrL hi (8 : Int32)).toInt32).toInt8.toInt32), (.int (6 : Int32)), (.ref b1)]))
  obtain ⟨cl14, Ar14, q14, Sz14, Ng14, Ha14, Ft14⟩ := id V12
  have hin14 := inb_of (j := (6 : Int32)) Sz14 ⟨by decide, by decide⟩
  obtain ⟨T14, H14, X14, e14, W14, st14⟩ := stB X12 hx hZ e12 Ar14 (j := (6 : Int32)) hin14 (g := (mkF m 90 #[.val (.long hi), .second, .val (.long lo), .second, .val (.int (1 : Int32)), .val (.ref b1)] [(.int ((XT.ushrL hi (8 : Int32)).toInt32).toInt8.toInt32), (.int (6 : Int32)), (.ref b1)])) rfl rfl (hb hby own_d1_90)
  refine Go.s (fun {t} => st14 t) ?_
  have V14 : Arv Z H14 b1 k1 .byte (16 : Int32) [(.int (nar .byte (((XT.ushrL hi (56 : Int32)).toInt32).toInt8.toInt32))), (.int (nar .byte (((XT.ushrL hi (48 : Int32)).toInt32).toInt8.toInt32))), (.int (nar .byte (((XT.ushrL hi (40 : Int32)).toInt32).toInt8.toInt32))), (.int (nar .byte (((XT.ushrL hi (32 : Int32)).toInt32).toInt8.toInt32))), (.int (nar .byte (((XT.ushrL hi (24 : Int32)).toInt32).toInt8.toInt32))), (.int (nar .byte (((XT.ushrL hi (16 : Int32)).toInt32).toInt8.toInt32))), (.int (nar .byte (((XT.ushrL hi (8 : Int32)).toInt32).toInt8.toInt32))), (.int (0 : Int32)), (.int (0 : Int32)), (.int (0 : Int32)), (.int (0 : Int32)), (.int (0 : Int32)), (.int (0 : Int32)), (.int (0 : Int32)), (.int (0 : Int32)), (.int (0 : Int32))] (.int (0 : Int32)) := Arv.set Ar14 q14 Sz14 Ng14 Ha14 Ft14 (fits_nar_byte _) W14 6 rfl (Nat.le_of_ble_eq_true rfl)
  have N14 := Fr.snoc X14 N12 G_b1
  have Zs14 := Nat.le_trans Zs12 (Keep.of_wr W14).1
  have K14 : Keep h0 H14 [] := K12.wr W14 (Or.inr SZ_b1)
  refine Go.s (fun kz => XS.aload X14.here hx rfl (hb hby own_d1_91) rfl rfl kz) ?_
  refine Go.s (fun kz => XS.bipush X14.here hx rfl (hb hby own_d1_93) kz) ?_
  refine Go.s (fun kz => XT.lloadN X14.here hx rfl (hb hby own_d1_95) rfl kz) ?_
  refine Go.s (fun kz => XT.l2i X14.here hx rfl (hb hby own_d1_96) rfl kz) ?_
  refine Go.s (fun kz => XT.i2b X14.here hx rfl (hb hby own_d1_97) rfl kz) ?_
  show Go p.tables e below P (T14.setTop (mkF m 98 #[.val (.long hi), .second, .val (.long lo), .second, .val (.int (1 : Int32)), .val (.ref b1)] [(.int hi.toInt32.toInt8.toInt32), (.int (7 : Int32)), (.ref b1)]))
  obtain ⟨cl16, Ar16, q16, Sz16, Ng16, Ha16, Ft16⟩ := id V14
  have hin16 := inb_of (j := (7 : Int32)) Sz16 ⟨by decide, by decide⟩
  obtain ⟨T16, H16, X16, e16, W16, st16⟩ := stB X14 hx hZ e14 Ar16 (j := (7 : Int32)) hin16 (g := (mkF m 98 #[.val (.long hi), .second, .val (.long lo), .second, .val (.int (1 : Int32)), .val (.ref b1)] [(.int hi.toInt32.toInt8.toInt32), (.int (7 : Int32)), (.ref b1)])) rfl rfl (hb hby own_d1_98)
  refine Go.s (fun {t} => st16 t) ?_
  have V16 : Arv Z H16 b1 k1 .byte (16 : Int32) [(.int (nar .byte (((XT.ushrL hi (56 : Int32)).toInt32).toInt8.toInt32))), (.int (nar .byte (((XT.ushrL hi (48 : Int32)).toInt32).toInt8.toInt32))), (.int (nar .byte (((XT.ushrL hi (40 : Int32)).toInt32).toInt8.toInt32))), (.int (nar .byte (((XT.ushrL hi (32 : Int32)).toInt32).toInt8.toInt32))), (.int (nar .byte (((XT.ushrL hi (24 : Int32)).toInt32).toInt8.toInt32))), (.int (nar .byte (((XT.ushrL hi (16 : Int32)).toInt32).toInt8.toInt32))), (.int (nar .byte (((XT.ushrL hi (8 : Int32)).toInt32).toInt8.toInt32))), (.int (nar .byte hi.toInt32.toInt8.toInt32)), (.int (0 : Int32)), (.int (0 : Int32)), (.int (0 : Int32)), (.int (0 : Int32)), (.int (0 : Int32)), (.int (0 : Int32)), (.int (0 : Int32)), (.int (0 : Int32))] (.int (0 : Int32)) := Arv.set Ar16 q16 Sz16 Ng16 Ha16 Ft16 (fits_nar_byte _) W16 7 rfl (Nat.le_of_ble_eq_true rfl)
  have N16 := Fr.snoc X16 N14 G_b1
  have Zs16 := Nat.le_trans Zs14 (Keep.of_wr W16).1
  have K16 : Keep h0 H16 [] := K14.wr W16 (Or.inr SZ_b1)
  refine Go.s (fun kz => XS.aload X16.here hx rfl (hb hby own_d1_99) rfl rfl kz) ?_
  refine Go.s (fun kz => XS.bipush X16.here hx rfl (hb hby own_d1_101) kz) ?_
  refine Go.s (fun kz => XT.lloadN X16.here hx rfl (hb hby own_d1_103) rfl kz) ?_
  refine Go.s (fun kz => XS.bipush X16.here hx rfl (hb hby own_d1_104) kz) ?_
  refine Go.s (fun kz => XT.lushr X16.here hx rfl (hb hby own_d1_106) rfl kz) ?_
  show Go p.tables e below P (T16.setTop (mkF m 107 #[.val (.long hi), .second, .val (.long lo), .second, .val (.int (1 : Int32)), .val (.ref b1)] [(.long (XT.ushrL lo (56 : Int32))), (.int (8 : Int32)), (.ref b1)]))
  refine Go.s (fun kz => XT.l2i X16.here hx rfl (hb hby own_d1_107) rfl kz) ?_
  refine Go.s (fun kz => XT.i2b X16.here hx rfl (hb hby own_d1_108) rfl kz) ?_
  show Go p.tables e below P (T16.setTop (mkF m 109 #[.val (.long hi), .second, .val (.long lo), .second, .val (.int (1 : Int32)), .val (.ref b1)] [(.int ((XT.ushrL lo (56 : Int32)).toInt32).toInt8.toInt32), (.int (8 : Int32)), (.ref b1)]))
  obtain ⟨cl18, Ar18, q18, Sz18, Ng18, Ha18, Ft18⟩ := id V16
  have hin18 := inb_of (j := (8 : Int32)) Sz18 ⟨by decide, by decide⟩
  obtain ⟨T18, H18, X18, e18, W18, st18⟩ := stB X16 hx hZ e16 Ar18 (j := (8 : Int32)) hin18 (g := (mkF m 109 #[.val (.long hi), .second, .val (.long lo), .second, .val (.int (1 : Int32)), .val (.ref b1)] [(.int ((XT.ushrL lo (56 : Int32)).toInt32).toInt8.toInt32), (.int (8 : Int32)), (.ref b1)])) rfl rfl (hb hby own_d1_109)
  refine Go.s (fun {t} => st18 t) ?_
  have V18 : Arv Z H18 b1 k1 .byte (16 : Int32) [(.int (nar .byte (((XT.ushrL hi (56 : Int32)).toInt32).toInt8.toInt32))), (.int (nar .byte (((XT.ushrL hi (48 : Int32)).toInt32).toInt8.toInt32))), (.int (nar .byte (((XT.ushrL hi (40 : Int32)).toInt32).toInt8.toInt32))), (.int (nar .byte (((XT.ushrL hi (32 : Int32)).toInt32).toInt8.toInt32))), (.int (nar .byte (((XT.ushrL hi (24 : Int32)).toInt32).toInt8.toInt32))), (.int (nar .byte (((XT.ushrL hi (16 : Int32)).toInt32).toInt8.toInt32))), (.int (nar .byte (((XT.ushrL hi (8 : Int32)).toInt32).toInt8.toInt32))), (.int (nar .byte hi.toInt32.toInt8.toInt32)), (.int (nar .byte (((XT.ushrL lo (56 : Int32)).toInt32).toInt8.toInt32))), (.int (0 : Int32)), (.int (0 : Int32)), (.int (0 : Int32)), (.int (0 : Int32)), (.int (0 : Int32)), (.int (0 : Int32)), (.int (0 : Int32))] (.int (0 : Int32)) := Arv.set Ar18 q18 Sz18 Ng18 Ha18 Ft18 (fits_nar_byte _) W18 8 rfl (Nat.le_of_ble_eq_true rfl)
  have N18 := Fr.snoc X18 N16 G_b1
  have Zs18 := Nat.le_trans Zs16 (Keep.of_wr W18).1
  have K18 : Keep h0 H18 [] := K16.wr W18 (Or.inr SZ_b1)
  refine Go.s (fun kz => XS.aload X18.here hx rfl (hb hby own_d1_110) rfl rfl kz) ?_
  refine Go.s (fun kz => XS.bipush X18.here hx rfl (hb hby own_d1_112) kz) ?_
  refine Go.s (fun kz => XT.lloadN X18.here hx rfl (hb hby own_d1_114) rfl kz) ?_
  refine Go.s (fun kz => XS.bipush X18.here hx rfl (hb hby own_d1_115) kz) ?_
  refine Go.s (fun kz => XT.lushr X18.here hx rfl (hb hby own_d1_117) rfl kz) ?_
  show Go p.tables e below P (T18.setTop (mkF m 118 #[.val (.long hi), .second, .val (.long lo), .second, .val (.int (1 : Int32)), .val (.ref b1)] [(.long (XT.ushrL lo (48 : Int32))), (.int (9 : Int32)), (.ref b1)]))
  refine Go.s (fun kz => XT.l2i X18.here hx rfl (hb hby own_d1_118) rfl kz) ?_
  refine Go.s (fun kz => XT.i2b X18.here hx rfl (hb hby own_d1_119) rfl kz) ?_
  show Go p.tables e below P (T18.setTop (mkF m 120 #[.val (.long hi), .second, .val (.long lo), .second, .val (.int (1 : Int32)), .val (.ref b1)] [(.int ((XT.ushrL lo (48 : Int32)).toInt32).toInt8.toInt32), (.int (9 : Int32)), (.ref b1)]))
  obtain ⟨cl20, Ar20, q20, Sz20, Ng20, Ha20, Ft20⟩ := id V18
  have hin20 := inb_of (j := (9 : Int32)) Sz20 ⟨by decide, by decide⟩
  obtain ⟨T20, H20, X20, e20, W20, st20⟩ := stB X18 hx hZ e18 Ar20 (j := (9 : Int32)) hin20 (g := (mkF m 120 #[.val (.long hi), .second, .val (.long lo), .second, .val (.int (1 : Int32)), .val (.ref b1)] [(.int ((XT.ushrL lo (48 : Int32)).toInt32).toInt8.toInt32), (.int (9 : Int32)), (.ref b1)])) rfl rfl (hb hby own_d1_120)
  refine Go.s (fun {t} => st20 t) ?_
  have V20 : Arv Z H20 b1 k1 .byte (16 : Int32) [(.int (nar .byte (((XT.ushrL hi (56 : Int32)).toInt32).toInt8.toInt32))), (.int (nar .byte (((XT.ushrL hi (48 : Int32)).toInt32).toInt8.toInt32))), (.int (nar .byte (((XT.ushrL hi (40 : Int32)).toInt32).toInt8.toInt32))), (.int (nar .byte (((XT.ushrL hi (32 : Int32)).toInt32).toInt8.toInt32))), (.int (nar .byte (((XT.ushrL hi (24 : Int32)).toInt32).toInt8.toInt32))), (.int (nar .byte (((XT.ushrL hi (16 : Int32)).toInt32).toInt8.toInt32))), (.int (nar .byte (((XT.ushrL hi (8 : Int32)).toInt32).toInt8.toInt32))), (.int (nar .byte hi.toInt32.toInt8.toInt32)), (.int (nar .byte (((XT.ushrL lo (56 : Int32)).toInt32).toInt8.toInt32))), (.int (nar .byte (((XT.ushrL lo (48 : Int32)).toInt32).toInt8.toInt32))), (.int (0 : Int32)), (.int (0 : Int32)), (.int (0 : Int32)), (.int (0 : Int32)), (.int (0 : Int32)), (.int (0 : Int32))] (.int (0 : Int32)) := Arv.set Ar20 q20 Sz20 Ng20 Ha20 Ft20 (fits_nar_byte _) W20 9 rfl (Nat.le_of_ble_eq_true rfl)
  have N20 := Fr.snoc X20 N18 G_b1
  have Zs20 := Nat.le_trans Zs18 (Keep.of_wr W20).1
  have K20 : Keep h0 H20 [] := K18.wr W20 (Or.inr SZ_b1)
  refine Go.s (fun kz => XS.aload X20.here hx rfl (hb hby own_d1_121) rfl rfl kz) ?_
  refine Go.s (fun kz => XS.bipush X20.here hx rfl (hb hby own_d1_123) kz) ?_
  refine Go.s (fun kz => XT.lloadN X20.here hx rfl (hb hby own_d1_125) rfl kz) ?_
  refine Go.s (fun kz => XS.bipush X20.here hx rfl (hb hby own_d1_126) kz) ?_
  refine Go.s (fun kz => XT.lushr X20.here hx rfl (hb hby own_d1_128) rfl kz) ?_
  show Go p.tables e below P (T20.setTop (mkF m 129 #[.val (.long hi), .second, .val (.long lo), .second, .val (.int (1 : Int32)), .val (.ref b1)] [(.long (XT.ushrL lo (40 : Int32))), (.int (10 : Int32)), (.ref b1)]))
  refine Go.s (fun kz => XT.l2i X20.here hx rfl (hb hby own_d1_129) rfl kz) ?_
  refine Go.s (fun kz => XT.i2b X20.here hx rfl (hb hby own_d1_130) rfl kz) ?_
  show Go p.tables e below P (T20.setTop (mkF m 131 #[.val (.long hi), .second, .val (.long lo), .second, .val (.int (1 : Int32)), .val (.ref b1)] [(.int ((XT.ushrL lo (40 : Int32)).toInt32).toInt8.toInt32), (.int (10 : Int32)), (.ref b1)]))
  obtain ⟨cl22, Ar22, q22, Sz22, Ng22, Ha22, Ft22⟩ := id V20
  have hin22 := inb_of (j := (10 : Int32)) Sz22 ⟨by decide, by decide⟩
  obtain ⟨T22, H22, X22, e22, W22, st22⟩ := stB X20 hx hZ e20 Ar22 (j := (10 : Int32)) hin22 (g := (mkF m 131 #[.val (.long hi), .second, .val (.long lo), .second, .val (.int (1 : Int32)), .val (.ref b1)] [(.int ((XT.ushrL lo (40 : Int32)).toInt32).toInt8.toInt32), (.int (10 : Int32)), (.ref b1)])) rfl rfl (hb hby own_d1_131)
  refine Go.s (fun {t} => st22 t) ?_
  have V22 : Arv Z H22 b1 k1 .byte (16 : Int32) [(.int (nar .byte (((XT.ushrL hi (56 : Int32)).toInt32).toInt8.toInt32))), (.int (nar .byte (((XT.ushrL hi (48 : Int32)).toInt32).toInt8.toInt32))), (.int (nar .byte (((XT.ushrL hi (40 : Int32)).toInt32).toInt8.toInt32))), (.int (nar .byte (((XT.ushrL hi (32 : Int32)).toInt32).toInt8.toInt32))), (.int (nar .byte (((XT.ushrL hi (24 : Int32)).toInt32).toInt8.toInt32))), (.int (nar .byte (((XT.ushrL hi (16 : Int32)).toInt32).toInt8.toInt32))), (.int (nar .byte (((XT.ushrL hi (8 : Int32)).toInt32).toInt8.toInt32))), (.int (nar .byte hi.toInt32.toInt8.toInt32)), (.int (nar .byte (((XT.ushrL lo (56 : Int32)).toInt32).toInt8.toInt32))), (.int (nar .byte (((XT.ushrL lo (48 : Int32)).toInt32).toInt8.toInt32))), (.int (nar .byte (((XT.ushrL lo (40 : Int32)).toInt32).toInt8.toInt32))), (.int (0 : Int32)), (.int (0 : Int32)), (.int (0 : Int32)), (.int (0 : Int32)), (.int (0 : Int32))] (.int (0 : Int32)) := Arv.set Ar22 q22 Sz22 Ng22 Ha22 Ft22 (fits_nar_byte _) W22 10 rfl (Nat.le_of_ble_eq_true rfl)
  have N22 := Fr.snoc X22 N20 G_b1
  have Zs22 := Nat.le_trans Zs20 (Keep.of_wr W22).1
  have K22 : Keep h0 H22 [] := K20.wr W22 (Or.inr SZ_b1)
  refine Go.s (fun kz => XS.aload X22.here hx rfl (hb hby own_d1_132) rfl rfl kz) ?_
  refine Go.s (fun kz => XS.bipush X22.here hx rfl (hb hby own_d1_134) kz) ?_
  refine Go.s (fun kz => XT.lloadN X22.here hx rfl (hb hby own_d1_136) rfl kz) ?_
  refine Go.s (fun kz => XS.bipush X22.here hx rfl (hb hby own_d1_137) kz) ?_
  refine Go.s (fun kz => XT.lushr X22.here hx rfl (hb hby own_d1_139) rfl kz) ?_
  show Go p.tables e below P (T22.setTop (mkF m 140 #[.val (.long hi), .second, .val (.long lo), .second, .val (.int (1 : Int32)), .val (.ref b1)] [(.long (XT.ushrL lo (32 : Int32))), (.int (11 : Int32)), (.ref b1)]))
  refine Go.s (fun kz => XT.l2i X22.here hx rfl (hb hby own_d1_140) rfl kz) ?_
  refine Go.s (fun kz => XT.i2b X22.here hx rfl (hb hby own_d1_141) rfl kz) ?_
  show Go p.tables e below P (T22.setTop (mkF m 142 #[.val (.long hi), .second, .val (.long lo), .second, .val (.int (1 : Int32)), .val (.ref b1)] [(.int ((XT.ushrL lo (32 : Int32)).toInt32).toInt8.toInt32), (.int (11 : Int32)), (.ref b1)]))
  obtain ⟨cl24, Ar24, q24, Sz24, Ng24, Ha24, Ft24⟩ := id V22
  have hin24 := inb_of (j := (11 : Int32)) Sz24 ⟨by decide, by decide⟩
  obtain ⟨T24, H24, X24, e24, W24, st24⟩ := stB X22 hx hZ e22 Ar24 (j := (11 : Int32)) hin24 (g := (mkF m 142 #[.val (.long hi), .second, .val (.long lo), .second, .val (.int (1 : Int32)), .val (.ref b1)] [(.int ((XT.ushrL lo (32 : Int32)).toInt32).toInt8.toInt32), (.int (11 : Int32)), (.ref b1)])) rfl rfl (hb hby own_d1_142)
  refine Go.s (fun {t} => st24 t) ?_
  have V24 : Arv Z H24 b1 k1 .byte (16 : Int32) [(.int (nar .byte (((XT.ushrL hi (56 : Int32)).toInt32).toInt8.toInt32))), (.int (nar .byte (((XT.ushrL hi (48 : Int32)).toInt32).toInt8.toInt32))), (.int (nar .byte (((XT.ushrL hi (40 : Int32)).toInt32).toInt8.toInt32))), (.int (nar .byte (((XT.ushrL hi (32 : Int32)).toInt32).toInt8.toInt32))), (.int (nar .byte (((XT.ushrL hi (24 : Int32)).toInt32).toInt8.toInt32))), (.int (nar .byte (((XT.ushrL hi (16 : Int32)).toInt32).toInt8.toInt32))), (.int (nar .byte (((XT.ushrL hi (8 : Int32)).toInt32).toInt8.toInt32))), (.int (nar .byte hi.toInt32.toInt8.toInt32)), (.int (nar .byte (((XT.ushrL lo (56 : Int32)).toInt32).toInt8.toInt32))), (.int (nar .byte (((XT.ushrL lo (48 : Int32)).toInt32).toInt8.toInt32))), (.int (nar .byte (((XT.ushrL lo (40 : Int32)).toInt32).toInt8.toInt32))), (.int (nar .byte (((XT.ushrL lo (32 : Int32)).toInt32).toInt8.toInt32))), (.int (0 : Int32)), (.int (0 : Int32)), (.int (0 : Int32)), (.int (0 : Int32))] (.int (0 : Int32)) := Arv.set Ar24 q24 Sz24 Ng24 Ha24 Ft24 (fits_nar_byte _) W24 11 rfl (Nat.le_of_ble_eq_true rfl)
  have N24 := Fr.snoc X24 N22 G_b1
  have Zs24 := Nat.le_trans Zs22 (Keep.of_wr W24).1
  have K24 : Keep h0 H24 [] := K22.wr W24 (Or.inr SZ_b1)
  refine Go.s (fun kz => XS.aload X24.here hx rfl (hb hby own_d1_143) rfl rfl kz) ?_
  refine Go.s (fun kz => XS.bipush X24.here hx rfl (hb hby own_d1_145) kz) ?_
  refine Go.s (fun kz => XT.lloadN X24.here hx rfl (hb hby own_d1_147) rfl kz) ?_
  refine Go.s (fun kz => XS.bipush X24.here hx rfl (hb hby own_d1_148) kz) ?_
  refine Go.s (fun kz => XT.lushr X24.here hx rfl (hb hby own_d1_150) rfl kz) ?_
  show Go p.tables e below P (T24.setTop (mkF m 151 #[.val (.long hi), .second, .val (.long lo), .second, .val (.int (1 : Int32)), .val (.ref b1)] [(.long (XT.ushrL lo (24 : Int32))), (.int (12 : Int32)), (.ref b1)]))
  refine Go.s (fun kz => XT.l2i X24.here hx rfl (hb hby own_d1_151) rfl kz) ?_
  refine Go.s (fun kz => XT.i2b X24.here hx rfl (hb hby own_d1_152) rfl kz) ?_
  show Go p.tables e below P (T24.setTop (mkF m 153 #[.val (.long hi), .second, .val (.long lo), .second, .val (.int (1 : Int32)), .val (.ref b1)] [(.int ((XT.ushrL lo (24 : Int32)).toInt32).toInt8.toInt32), (.int (12 : Int32)), (.ref b1)]))
  obtain ⟨cl26, Ar26, q26, Sz26, Ng26, Ha26, Ft26⟩ := id V24
  have hin26 := inb_of (j := (12 : Int32)) Sz26 ⟨by decide, by decide⟩
  obtain ⟨T26, H26, X26, e26, W26, st26⟩ := stB X24 hx hZ e24 Ar26 (j := (12 : Int32)) hin26 (g := (mkF m 153 #[.val (.long hi), .second, .val (.long lo), .second, .val (.int (1 : Int32)), .val (.ref b1)] [(.int ((XT.ushrL lo (24 : Int32)).toInt32).toInt8.toInt32), (.int (12 : Int32)), (.ref b1)])) rfl rfl (hb hby own_d1_153)
  refine Go.s (fun {t} => st26 t) ?_
  have V26 : Arv Z H26 b1 k1 .byte (16 : Int32) [(.int (nar .byte (((XT.ushrL hi (56 : Int32)).toInt32).toInt8.toInt32))), (.int (nar .byte (((XT.ushrL hi (48 : Int32)).toInt32).toInt8.toInt32))), (.int (nar .byte (((XT.ushrL hi (40 : Int32)).toInt32).toInt8.toInt32))), (.int (nar .byte (((XT.ushrL hi (32 : Int32)).toInt32).toInt8.toInt32))), (.int (nar .byte (((XT.ushrL hi (24 : Int32)).toInt32).toInt8.toInt32))), (.int (nar .byte (((XT.ushrL hi (16 : Int32)).toInt32).toInt8.toInt32))), (.int (nar .byte (((XT.ushrL hi (8 : Int32)).toInt32).toInt8.toInt32))), (.int (nar .byte hi.toInt32.toInt8.toInt32)), (.int (nar .byte (((XT.ushrL lo (56 : Int32)).toInt32).toInt8.toInt32))), (.int (nar .byte (((XT.ushrL lo (48 : Int32)).toInt32).toInt8.toInt32))), (.int (nar .byte (((XT.ushrL lo (40 : Int32)).toInt32).toInt8.toInt32))), (.int (nar .byte (((XT.ushrL lo (32 : Int32)).toInt32).toInt8.toInt32))), (.int (nar .byte (((XT.ushrL lo (24 : Int32)).toInt32).toInt8.toInt32))), (.int (0 : Int32)), (.int (0 : Int32)), (.int (0 : Int32))] (.int (0 : Int32)) := Arv.set Ar26 q26 Sz26 Ng26 Ha26 Ft26 (fits_nar_byte _) W26 12 rfl (Nat.le_of_ble_eq_true rfl)
  have N26 := Fr.snoc X26 N24 G_b1
  have Zs26 := Nat.le_trans Zs24 (Keep.of_wr W26).1
  have K26 : Keep h0 H26 [] := K24.wr W26 (Or.inr SZ_b1)
  refine Go.s (fun kz => XS.aload X26.here hx rfl (hb hby own_d1_154) rfl rfl kz) ?_
  refine Go.s (fun kz => XS.bipush X26.here hx rfl (hb hby own_d1_156) kz) ?_
  refine Go.s (fun kz => XT.lloadN X26.here hx rfl (hb hby own_d1_158) rfl kz) ?_
  refine Go.s (fun kz => XS.bipush X26.here hx rfl (hb hby own_d1_159) kz) ?_
  refine Go.s (fun kz => XT.lushr X26.here hx rfl (hb hby own_d1_161) rfl kz) ?_
  show Go p.tables e below P (T26.setTop (mkF m 162 #[.val (.long hi), .second, .val (.long lo), .second, .val (.int (1 : Int32)), .val (.ref b1)] [(.long (XT.ushrL lo (16 : Int32))), (.int (13 : Int32)), (.ref b1)]))
  refine Go.s (fun kz => XT.l2i X26.here hx rfl (hb hby own_d1_162) rfl kz) ?_
  refine Go.s (fun kz => XT.i2b X26.here hx rfl (hb hby own_d1_163) rfl kz) ?_
  show Go p.tables e below P (T26.setTop (mkF m 164 #[.val (.long hi), .second, .val (.long lo), .second, .val (.int (1 : Int32)), .val (.ref b1)] [(.int ((XT.ushrL lo (16 : Int32)).toInt32).toInt8.toInt32), (.int (13 : Int32)), (.ref b1)]))
  obtain ⟨cl28, Ar28, q28, Sz28, Ng28, Ha28, Ft28⟩ := id V26
  have hin28 := inb_of (j := (13 : Int32)) Sz28 ⟨by decide, by decide⟩
  obtain ⟨T28, H28, X28, e28, W28, st28⟩ := stB X26 hx hZ e26 Ar28 (j := (13 : Int32)) hin28 (g := (mkF m 164 #[.val (.long hi), .second, .val (.long lo), .second, .val (.int (1 : Int32)), .val (.ref b1)] [(.int ((XT.ushrL lo (16 : Int32)).toInt32).toInt8.toInt32), (.int (13 : Int32)), (.ref b1)])) rfl rfl (hb hby own_d1_164)
  refine Go.s (fun {t} => st28 t) ?_
  have V28 : Arv Z H28 b1 k1 .byte (16 : Int32) [(.int (nar .byte (((XT.ushrL hi (56 : Int32)).toInt32).toInt8.toInt32))), (.int (nar .byte (((XT.ushrL hi (48 : Int32)).toInt32).toInt8.toInt32))), (.int (nar .byte (((XT.ushrL hi (40 : Int32)).toInt32).toInt8.toInt32))), (.int (nar .byte (((XT.ushrL hi (32 : Int32)).toInt32).toInt8.toInt32))), (.int (nar .byte (((XT.ushrL hi (24 : Int32)).toInt32).toInt8.toInt32))), (.int (nar .byte (((XT.ushrL hi (16 : Int32)).toInt32).toInt8.toInt32))), (.int (nar .byte (((XT.ushrL hi (8 : Int32)).toInt32).toInt8.toInt32))), (.int (nar .byte hi.toInt32.toInt8.toInt32)), (.int (nar .byte (((XT.ushrL lo (56 : Int32)).toInt32).toInt8.toInt32))), (.int (nar .byte (((XT.ushrL lo (48 : Int32)).toInt32).toInt8.toInt32))), (.int (nar .byte (((XT.ushrL lo (40 : Int32)).toInt32).toInt8.toInt32))), (.int (nar .byte (((XT.ushrL lo (32 : Int32)).toInt32).toInt8.toInt32))), (.int (nar .byte (((XT.ushrL lo (24 : Int32)).toInt32).toInt8.toInt32))), (.int (nar .byte (((XT.ushrL lo (16 : Int32)).toInt32).toInt8.toInt32))), (.int (0 : Int32)), (.int (0 : Int32))] (.int (0 : Int32)) := Arv.set Ar28 q28 Sz28 Ng28 Ha28 Ft28 (fits_nar_byte _) W28 13 rfl (Nat.le_of_ble_eq_true rfl)
  have N28 := Fr.snoc X28 N26 G_b1
  have Zs28 := Nat.le_trans Zs26 (Keep.of_wr W28).1
  have K28 : Keep h0 H28 [] := K26.wr W28 (Or.inr SZ_b1)
  refine Go.s (fun kz => XS.aload X28.here hx rfl (hb hby own_d1_165) rfl rfl kz) ?_
  refine Go.s (fun kz => XS.bipush X28.here hx rfl (hb hby own_d1_167) kz) ?_
  refine Go.s (fun kz => XT.lloadN X28.here hx rfl (hb hby own_d1_169) rfl kz) ?_
  refine Go.s (fun kz => XS.bipush X28.here hx rfl (hb hby own_d1_170) kz) ?_
  refine Go.s (fun kz => XT.lushr X28.here hx rfl (hb hby own_d1_172) rfl kz) ?_
  show Go p.tables e below P (T28.setTop (mkF m 173 #[.val (.long hi), .second, .val (.long lo), .second, .val (.int (1 : Int32)), .val (.ref b1)] [(.long (XT.ushrL lo (8 : Int32))), (.int (14 : Int32)), (.ref b1)]))
  refine Go.s (fun kz => XT.l2i X28.here hx rfl (hb hby own_d1_173) rfl kz) ?_
  refine Go.s (fun kz => XT.i2b X28.here hx rfl (hb hby own_d1_174) rfl kz) ?_
  show Go p.tables e below P (T28.setTop (mkF m 175 #[.val (.long hi), .second, .val (.long lo), .second, .val (.int (1 : Int32)), .val (.ref b1)] [(.int ((XT.ushrL lo (8 : Int32)).toInt32).toInt8.toInt32), (.int (14 : Int32)), (.ref b1)]))
  obtain ⟨cl30, Ar30, q30, Sz30, Ng30, Ha30, Ft30⟩ := id V28
  have hin30 := inb_of (j := (14 : Int32)) Sz30 ⟨by decide, by decide⟩
  obtain ⟨T30, H30, X30, e30, W30, st30⟩ := stB X28 hx hZ e28 Ar30 (j := (14 : Int32)) hin30 (g := (mkF m 175 #[.val (.long hi), .second, .val (.long lo), .second, .val (.int (1 : Int32)), .val (.ref b1)] [(.int ((XT.ushrL lo (8 : Int32)).toInt32).toInt8.toInt32), (.int (14 : Int32)), (.ref b1)])) rfl rfl (hb hby own_d1_175)
  refine Go.s (fun {t} => st30 t) ?_
  have V30 : Arv Z H30 b1 k1 .byte (16 : Int32) [(.int (nar .byte (((XT.ushrL hi (56 : Int32)).toInt32).toInt8.toInt32))), (.int (nar .byte (((XT.ushrL hi (48 : Int32)).toInt32).toInt8.toInt32))), (.int (nar .byte (((XT.ushrL hi (40 : Int32)).toInt32).toInt8.toInt32))), (.int (nar .byte (((XT.ushrL hi (32 : Int32)).toInt32).toInt8.toInt32))), (.int (nar .byte (((XT.ushrL hi (24 : Int32)).toInt32).toInt8.toInt32))), (.int (nar .byte (((XT.ushrL hi (16 : Int32)).toInt32).toInt8.toInt32))), (.int (nar .byte (((XT.ushrL hi (8 : Int32)).toInt32).toInt8.toInt32))), (.int (nar .byte hi.toInt32.toInt8.toInt32)), (.int (nar .byte (((XT.ushrL lo (56 : Int32)).toInt32).toInt8.toInt32))), (.int (nar .byte (((XT.ushrL lo (48 : Int32)).toInt32).toInt8.toInt32))), (.int (nar .byte (((XT.ushrL lo (40 : Int32)).toInt32).toInt8.toInt32))), (.int (nar .byte (((XT.ushrL lo (32 : Int32)).toInt32).toInt8.toInt32))), (.int (nar .byte (((XT.ushrL lo (24 : Int32)).toInt32).toInt8.toInt32))), (.int (nar .byte (((XT.ushrL lo (16 : Int32)).toInt32).toInt8.toInt32))), (.int (nar .byte (((XT.ushrL lo (8 : Int32)).toInt32).toInt8.toInt32))), (.int (0 : Int32))] (.int (0 : Int32)) := Arv.set Ar30 q30 Sz30 Ng30 Ha30 Ft30 (fits_nar_byte _) W30 14 rfl (Nat.le_of_ble_eq_true rfl)
  have N30 := Fr.snoc X30 N28 G_b1
  have Zs30 := Nat.le_trans Zs28 (Keep.of_wr W30).1
  have K30 : Keep h0 H30 [] := K28.wr W30 (Or.inr SZ_b1)
  refine Go.s (fun kz => XS.aload X30.here hx rfl (hb hby own_d1_176) rfl rfl kz) ?_
  refine Go.s (fun kz => XS.bipush X30.here hx rfl (hb hby own_d1_178) kz) ?_
  refine Go.s (fun kz => XT.lloadN X30.here hx rfl (hb hby own_d1_180) rfl kz) ?_
  refine Go.s (fun kz => XT.l2i X30.here hx rfl (hb hby own_d1_181) rfl kz) ?_
  refine Go.s (fun kz => XT.i2b X30.here hx rfl (hb hby own_d1_182) rfl kz) ?_
  show Go p.tables e below P (T30.setTop (mkF m 183 #[.val (.long hi), .second, .val (.long lo), .second, .val (.int (1 : Int32)), .val (.ref b1)] [(.int lo.toInt32.toInt8.toInt32), (.int (15 : Int32)), (.ref b1)]))
  obtain ⟨cl32, Ar32, q32, Sz32, Ng32, Ha32, Ft32⟩ := id V30
  have hin32 := inb_of (j := (15 : Int32)) Sz32 ⟨by decide, by decide⟩
  obtain ⟨T32, H32, X32, e32, W32, st32⟩ := stB X30 hx hZ e30 Ar32 (j := (15 : Int32)) hin32 (g := (mkF m 183 #[.val (.long hi), .second, .val (.long lo), .second, .val (.int (1 : Int32)), .val (.ref b1)] [(.int lo.toInt32.toInt8.toInt32), (.int (15 : Int32)), (.ref b1)])) rfl rfl (hb hby own_d1_183)
  refine Go.s (fun {t} => st32 t) ?_
  have V32 : Arv Z H32 b1 k1 .byte (16 : Int32) [(.int (nar .byte (((XT.ushrL hi (56 : Int32)).toInt32).toInt8.toInt32))), (.int (nar .byte (((XT.ushrL hi (48 : Int32)).toInt32).toInt8.toInt32))), (.int (nar .byte (((XT.ushrL hi (40 : Int32)).toInt32).toInt8.toInt32))), (.int (nar .byte (((XT.ushrL hi (32 : Int32)).toInt32).toInt8.toInt32))), (.int (nar .byte (((XT.ushrL hi (24 : Int32)).toInt32).toInt8.toInt32))), (.int (nar .byte (((XT.ushrL hi (16 : Int32)).toInt32).toInt8.toInt32))), (.int (nar .byte (((XT.ushrL hi (8 : Int32)).toInt32).toInt8.toInt32))), (.int (nar .byte hi.toInt32.toInt8.toInt32)), (.int (nar .byte (((XT.ushrL lo (56 : Int32)).toInt32).toInt8.toInt32))), (.int (nar .byte (((XT.ushrL lo (48 : Int32)).toInt32).toInt8.toInt32))), (.int (nar .byte (((XT.ushrL lo (40 : Int32)).toInt32).toInt8.toInt32))), (.int (nar .byte (((XT.ushrL lo (32 : Int32)).toInt32).toInt8.toInt32))), (.int (nar .byte (((XT.ushrL lo (24 : Int32)).toInt32).toInt8.toInt32))), (.int (nar .byte (((XT.ushrL lo (16 : Int32)).toInt32).toInt8.toInt32))), (.int (nar .byte (((XT.ushrL lo (8 : Int32)).toInt32).toInt8.toInt32))), (.int (nar .byte lo.toInt32.toInt8.toInt32))] (.int (0 : Int32)) := Arv.set Ar32 q32 Sz32 Ng32 Ha32 Ft32 (fits_nar_byte _) W32 15 rfl (Nat.le_of_ble_eq_true rfl)
  have N32 := Fr.snoc X32 N30 G_b1
  have Zs32 := Nat.le_trans Zs30 (Keep.of_wr W32).1
  have K32 : Keep h0 H32 [] := K30.wr W32 (Or.inr SZ_b1)
  refine Go.s (fun kz => XS.aload X32.here hx rfl (hb hby own_d1_184) rfl rfl kz) ?_
  show Go p.tables e below P (T32.setTop (mkF m 186 #[.val (.long hi), .second, .val (.long lo), .second, .val (.int (1 : Int32)), .val (.ref b1)] [(.ref b1)]))
  exact Go.retR X32 hx hlk hret rfl rfl (hb hby own_d1_186) (fun U hU hF => hP U _ _ (by rw [hU, e32]; exact ⟨b1, rfl, N32, SZ_b1, K32, own_Byt.of V32 rfl (own_l16 hi lo)⟩) ⟨hF.1, hF.2.1, hF.2.2.mono (by decide) (by decide)⟩)
theorem own_ef1_0 (m : MethodId) (hi : Int64) (lo : Int64) : entryFrame m #[(.long hi), (.long lo), (.int (0 : Int32))] 6 = mkF m 0 #[.val (.long hi), .second, .val (.long lo), .second, .val (.int (0 : Int32)), .unset] [] := by
  (first | (simp [entryFrame, mkF, argsToLocals, Value.category]; done) | rfl)
theorem own_d1_10 : decode method_4_code 10 = .ok (.iconst 4, 1) := by decide +kernel
set_option maxRecDepth 65536 in
set_option maxHeartbeats 40000000 in
theorem own_rm1_0 (l : Launch) (Z : State) (a0 : Array Value) (hw : ∀ d ∈ tables_1, d.before a0 Z = true) (ws : List Jvm.Cond) (hi lo : Int64) (h0 : Heap) (n0 : Nat) (Z0 : n0 ≤ h0.size)  :
    Con l Z (⟨"com/example/heraldmesh/heraldmesh/feed/BlockHoldsPinLaw", "bytes", "(JJZ)[B"⟩ : MethodName) method_4_code 6 (some (.array .byte)) ws ({ frames := 0, cells := 1, slots := 4, locals := 0 } : Room) #[(.long hi), (.long lo), (.int (0 : Int32))] h0 (fun v h L => ∃ b : Nat, v = some (.ref b) ∧ Fr n0 L ∧ h0.size ≤ b ∧ Keep h0 h [] ∧ own_Byt Z h b 4 (own_g hi lo)) := by
  refine Con.intro (plainFor_of_name own_pn_0) ?_
  intro p e s m below meth c s₁ P hx hby hml hown hnm hret hlk hZ X0 e0 hP
  have N0 := Fr.nil n0
  have hown : s.vm.findClass "com/example/heraldmesh/heraldmesh/feed/BlockHoldsPinLaw" = some m.cls := hown
  refine Go.cast (own_ef1_0 m hi lo) ?_
  show Go p.tables e below P (s₁.setTop (mkF m 0 #[.val (.long hi), .second, .val (.long lo), .second, .val (.int (0 : Int32)), .unset] []))
  refine Go.s (fun kz => XS.iload X0.here hx rfl (hb hby own_d1_0) rfl kz) ?_
  show Go p.tables e below P (s₁.setTop (mkF m 2 #[.val (.long hi), .second, .val (.long lo), .second, .val (.int (0 : Int32)), .unset] [(.int (0 : Int32))]))
  refine Go.s (fun kz => XS.ifYes X0.here hx rfl (pc0 := 2) (pc' := 10) rfl (hb hby own_d1_2) rfl (XT.i0_eq_t (by decide)) (by decide) (by decide) kz) ?_
  show Go p.tables e below P (s₁.setTop (mkF m 10 #[.val (.long hi), .second, .val (.long lo), .second, .val (.int (0 : Int32)), .unset] []))
  refine Go.s (fun kz => XS.iconst X0.here hx rfl (hb hby own_d1_10) kz) ?_
  show Go p.tables e below P (s₁.setTop (mkF m 11 #[.val (.long hi), .second, .val (.long lo), .second, .val (.int (0 : Int32)), .unset] [(.int (4 : Int32))]))
  obtain ⟨T1, H1, k1, X1, e1, E1, A1, st1⟩ := newP X0 hx hZ (hw _ (List.mem_of_getElem? (i := 5) rfl)) e0 (g := (mkF m 11 #[.val (.long hi), .second, .val (.long lo), .second, .val (.int (0 : Int32)), .unset] [(.int (4 : Int32))])) rfl (hb hby own_d1_11) rfl (by decide) (cap := 4) (by decide) (by decide) (by decide) (by decide)
  refine Go.s (fun {t} => st1 t) ?_
  obtain ⟨b1, g1⟩ : ∃ z, z = h0.size := ⟨_, rfl⟩
  rw [← g1] at A1
  rw [← g1]
  have G_b1 : n0 ≤ b1 := Nat.le_trans Z0 (Nat.le_of_eq g1.symm)
  have Zs1 := Nat.le_trans Z0 E1.1
  have SZ_b1 : h0.size ≤ b1 := Nat.le_trans (Keep.refl h0 []).1 (Nat.le_of_eq g1.symm)
  have K1 := (Keep.refl h0 []).ext E1
  have V1 : Arv Z H1 b1 k1 .byte (4 : Int32) [(.int (0 : Int32)), (.int (0 : Int32)), (.int (0 : Int32)), (.int (0 : Int32))] (.int (0 : Int32)) := (Arv.new A1 (by decide)).pad (pad_rep [] (.int (0 : Int32)) 4)
  refine Go.s (fun kz => XS.astore X1.here hx rfl (hb hby own_d1_13) rfl rfl (l' := #[.val (.long hi), .second, .val (.long lo), .second, .val (.int (0 : Int32)), .val (.ref b1)]) rfl kz) ?_
  refine Go.s (fun kz => XS.aload X1.here hx rfl (hb hby own_d1_15) rfl rfl kz) ?_
  refine Go.s (fun kz => XS.iconst X1.here hx rfl (hb hby own_d1_17) kz) ?_
  refine Go.s (fun kz => XT.lloadN X1.here hx rfl (hb hby own_d1_18) rfl kz) ?_
  refine Go.s (fun kz => XS.bipush X1.here hx rfl (hb hby own_d1_19) kz) ?_
  show Go p.tables e below P (T1.setTop (mkF m 21 #[.val (.long hi), .second, .val (.long lo), .second, .val (.int (0 : Int32)), .val (.ref b1)] [(.int (56 : Int32)), (.long hi), (.int (0 : Int32)), (.ref b1)]))
  refine Go.s (fun kz => XT.lushr X1.here hx rfl (hb hby own_d1_21) rfl kz) ?_
  refine Go.s (fun kz => XT.l2i X1.here hx rfl (hb hby own_d1_22) rfl kz) ?_
  refine Go.s (fun kz => XT.i2b X1.here hx rfl (hb hby own_d1_23) rfl kz) ?_
  show Go p.tables e below P (T1.setTop (mkF m 24 #[.val (.long hi), .second, .val (.long lo), .second, .val (.int (0 : Int32)), .val (.ref b1)] [(.int ((XT.ushrL hi (56 : Int32)).toInt32).toInt8.toInt32), (.int (0 : Int32)), (.ref b1)]))
  obtain ⟨cl2, Ar2, q2, Sz2, Ng2, Ha2, Ft2⟩ := id V1
  have hin2 := inb_of (j := (0 : Int32)) Sz2 ⟨by decide, by decide⟩
  obtain ⟨T2, H2, X2, e2, W2, st2⟩ := stB X1 hx hZ e1 Ar2 (j := (0 : Int32)) hin2 (g := (mkF m 24 #[.val (.long hi), .second, .val (.long lo), .second, .val (.int (0 : Int32)), .val (.ref b1)] [(.int ((XT.ushrL hi (56 : Int32)).toInt32).toInt8.toInt32), (.int (0 : Int32)), (.ref b1)])) rfl rfl (hb hby own_d1_24)
  refine Go.s (fun {t} => st2 t) ?_
  have V2 : Arv Z H2 b1 k1 .byte (4 : Int32) [(.int (nar .byte (((XT.ushrL hi (56 : Int32)).toInt32).toInt8.toInt32))), (.int (0 : Int32)), (.int (0 : Int32)), (.int (0 : Int32))] (.int (0 : Int32)) := Arv.set Ar2 q2 Sz2 Ng2 Ha2 Ft2 (fits_nar_byte _) W2 0 rfl (Nat.le_of_ble_eq_true rfl)
  have N2 := Fr.snoc X2 N0 G_b1
  have Zs2 := Nat.le_trans Zs1 (Keep.of_wr W2).1
  have K2 : Keep h0 H2 [] := K1.wr W2 (Or.inr SZ_b1)
  refine Go.s (fun kz => XS.aload X2.here hx rfl (hb hby own_d1_25) rfl rfl kz) ?_
  refine Go.s (fun kz => XS.iconst X2.here hx rfl (hb hby own_d1_27) kz) ?_
  refine Go.s (fun kz => XT.lloadN X2.here hx rfl (hb hby own_d1_28) rfl kz) ?_
  refine Go.s (fun kz => XS.bipush X2.here hx rfl (hb hby own_d1_29) kz) ?_
  refine Go.s (fun kz => XT.lushr X2.here hx rfl (hb hby own_d1_31) rfl kz) ?_
  show Go p.tables e below P (T2.setTop (mkF m 32 #[.val (.long hi), .second, .val (.long lo), .second, .val (.int (0 : Int32)), .val (.ref b1)] [(.long (XT.ushrL hi (48 : Int32))), (.int (1 : Int32)), (.ref b1)]))
  refine Go.s (fun kz => XT.l2i X2.here hx rfl (hb hby own_d1_32) rfl kz) ?_
  refine Go.s (fun kz => XT.i2b X2.here hx rfl (hb hby own_d1_33) rfl kz) ?_
  show Go p.tables e below P (T2.setTop (mkF m 34 #[.val (.long hi), .second, .val (.long lo), .second, .val (.int (0 : Int32)), .val (.ref b1)] [(.int ((XT.ushrL hi (48 : Int32)).toInt32).toInt8.toInt32), (.int (1 : Int32)), (.ref b1)]))
  obtain ⟨cl4, Ar4, q4, Sz4, Ng4, Ha4, Ft4⟩ := id V2
  have hin4 := inb_of (j := (1 : Int32)) Sz4 ⟨by decide, by decide⟩
  obtain ⟨T4, H4, X4, e4, W4, st4⟩ := stB X2 hx hZ e2 Ar4 (j := (1 : Int32)) hin4 (g := (mkF m 34 #[.val (.long hi), .second, .val (.long lo), .second, .val (.int (0 : Int32)), .val (.ref b1)] [(.int ((XT.ushrL hi (48 : Int32)).toInt32).toInt8.toInt32), (.int (1 : Int32)), (.ref b1)])) rfl rfl (hb hby own_d1_34)
  refine Go.s (fun {t} => st4 t) ?_
  have V4 : Arv Z H4 b1 k1 .byte (4 : Int32) [(.int (nar .byte (((XT.ushrL hi (56 : Int32)).toInt32).toInt8.toInt32))), (.int (nar .byte (((XT.ushrL hi (48 : Int32)).toInt32).toInt8.toInt32))), (.int (0 : Int32)), (.int (0 : Int32))] (.int (0 : Int32)) := Arv.set Ar4 q4 Sz4 Ng4 Ha4 Ft4 (fits_nar_byte _) W4 1 rfl (Nat.le_of_ble_eq_true rfl)
  have N4 := Fr.snoc X4 N2 G_b1
  have Zs4 := Nat.le_trans Zs2 (Keep.of_wr W4).1
  have K4 : Keep h0 H4 [] := K2.wr W4 (Or.inr SZ_b1)
  refine Go.s (fun kz => XS.aload X4.here hx rfl (hb hby own_d1_35) rfl rfl kz) ?_
  refine Go.s (fun kz => XS.iconst X4.here hx rfl (hb hby own_d1_37) kz) ?_
  refine Go.s (fun kz => XT.lloadN X4.here hx rfl (hb hby own_d1_38) rfl kz) ?_
  refine Go.s (fun kz => XS.bipush X4.here hx rfl (hb hby own_d1_39) kz) ?_
  refine Go.s (fun kz => XT.lushr X4.here hx rfl (hb hby own_d1_41) rfl kz) ?_
  show Go p.tables e below P (T4.setTop (mkF m 42 #[.val (.long hi), .second, .val (.long lo), .second, .val (.int (0 : Int32)), .val (.ref b1)] [(.long (XT.ushrL hi (40 : Int32))), (.int (2 : Int32)), (.ref b1)]))
  refine Go.s (fun kz => XT.l2i X4.here hx rfl (hb hby own_d1_42) rfl kz) ?_
  refine Go.s (fun kz => XT.i2b X4.here hx rfl (hb hby own_d1_43) rfl kz) ?_
  show Go p.tables e below P (T4.setTop (mkF m 44 #[.val (.long hi), .second, .val (.long lo), .second, .val (.int (0 : Int32)), .val (.ref b1)] [(.int ((XT.ushrL hi (40 : Int32)).toInt32).toInt8.toInt32), (.int (2 : Int32)), (.ref b1)]))
  obtain ⟨cl6, Ar6, q6, Sz6, Ng6, Ha6, Ft6⟩ := id V4
  have hin6 := inb_of (j := (2 : Int32)) Sz6 ⟨by decide, by decide⟩
  obtain ⟨T6, H6, X6, e6, W6, st6⟩ := stB X4 hx hZ e4 Ar6 (j := (2 : Int32)) hin6 (g := (mkF m 44 #[.val (.long hi), .second, .val (.long lo), .second, .val (.int (0 : Int32)), .val (.ref b1)] [(.int ((XT.ushrL hi (40 : Int32)).toInt32).toInt8.toInt32), (.int (2 : Int32)), (.ref b1)])) rfl rfl (hb hby own_d1_44)
  refine Go.s (fun {t} => st6 t) ?_
  have V6 : Arv Z H6 b1 k1 .byte (4 : Int32) [(.int (nar .byte (((XT.ushrL hi (56 : Int32)).toInt32).toInt8.toInt32))), (.int (nar .byte (((XT.ushrL hi (48 : Int32)).toInt32).toInt8.toInt32))), (.int (nar .byte (((XT.ushrL hi (40 : Int32)).toInt32).toInt8.toInt32))), (.int (0 : Int32))] (.int (0 : Int32)) := Arv.set Ar6 q6 Sz6 Ng6 Ha6 Ft6 (fits_nar_byte _) W6 2 rfl (Nat.le_of_ble_eq_true rfl)
  have N6 := Fr.snoc X6 N4 G_b1
  have Zs6 := Nat.le_trans Zs4 (Keep.of_wr W6).1
  have K6 : Keep h0 H6 [] := K4.wr W6 (Or.inr SZ_b1)
  refine Go.s (fun kz => XS.aload X6.here hx rfl (hb hby own_d1_45) rfl rfl kz) ?_
  refine Go.s (fun kz => XS.iconst X6.here hx rfl (hb hby own_d1_47) kz) ?_
  refine Go.s (fun kz => XT.lloadN X6.here hx rfl (hb hby own_d1_48) rfl kz) ?_
  refine Go.s (fun kz => XS.bipush X6.here hx rfl (hb hby own_d1_49) kz) ?_
  refine Go.s (fun kz => XT.lushr X6.here hx rfl (hb hby own_d1_51) rfl kz) ?_
  show Go p.tables e below P (T6.setTop (mkF m 52 #[.val (.long hi), .second, .val (.long lo), .second, .val (.int (0 : Int32)), .val (.ref b1)] [(.long (XT.ushrL hi (32 : Int32))), (.int (3 : Int32)), (.ref b1)]))
  refine Go.s (fun kz => XT.l2i X6.here hx rfl (hb hby own_d1_52) rfl kz) ?_
  refine Go.s (fun kz => XT.i2b X6.here hx rfl (hb hby own_d1_53) rfl kz) ?_
  show Go p.tables e below P (T6.setTop (mkF m 54 #[.val (.long hi), .second, .val (.long lo), .second, .val (.int (0 : Int32)), .val (.ref b1)] [(.int ((XT.ushrL hi (32 : Int32)).toInt32).toInt8.toInt32), (.int (3 : Int32)), (.ref b1)]))
  obtain ⟨cl8, Ar8, q8, Sz8, Ng8, Ha8, Ft8⟩ := id V6
  have hin8 := inb_of (j := (3 : Int32)) Sz8 ⟨by decide, by decide⟩
  obtain ⟨T8, H8, X8, e8, W8, st8⟩ := stB X6 hx hZ e6 Ar8 (j := (3 : Int32)) hin8 (g := (mkF m 54 #[.val (.long hi), .second, .val (.long lo), .second, .val (.int (0 : Int32)), .val (.ref b1)] [(.int ((XT.ushrL hi (32 : Int32)).toInt32).toInt8.toInt32), (.int (3 : Int32)), (.ref b1)])) rfl rfl (hb hby own_d1_54)
  refine Go.s (fun {t} => st8 t) ?_
  have V8 : Arv Z H8 b1 k1 .byte (4 : Int32) [(.int (nar .byte (((XT.ushrL hi (56 : Int32)).toInt32).toInt8.toInt32))), (.int (nar .byte (((XT.ushrL hi (48 : Int32)).toInt32).toInt8.toInt32))), (.int (nar .byte (((XT.ushrL hi (40 : Int32)).toInt32).toInt8.toInt32))), (.int (nar .byte (((XT.ushrL hi (32 : Int32)).toInt32).toInt8.toInt32)))] (.int (0 : Int32)) := Arv.set Ar8 q8 Sz8 Ng8 Ha8 Ft8 (fits_nar_byte _) W8 3 rfl (Nat.le_of_ble_eq_true rfl)
  have N8 := Fr.snoc X8 N6 G_b1
  have Zs8 := Nat.le_trans Zs6 (Keep.of_wr W8).1
  have K8 : Keep h0 H8 [] := K6.wr W8 (Or.inr SZ_b1)
  refine Go.s (fun kz => XS.iload X8.here hx rfl (hb hby own_d1_55) rfl kz) ?_
  show Go p.tables e below P (T8.setTop (mkF m 57 #[.val (.long hi), .second, .val (.long lo), .second, .val (.int (0 : Int32)), .val (.ref b1)] [(.int (0 : Int32))]))
  refine Go.s (fun kz => XS.ifYes X8.here hx rfl (pc0 := 57) (pc' := 184) rfl (hb hby own_d1_57) rfl (XT.i0_eq_t (by decide)) (by decide) (by decide) kz) ?_
  show Go p.tables e below P (T8.setTop (mkF m 184 #[.val (.long hi), .second, .val (.long lo), .second, .val (.int (0 : Int32)), .val (.ref b1)] []))
  refine Go.s (fun kz => XS.aload X8.here hx rfl (hb hby own_d1_184) rfl rfl kz) ?_
  show Go p.tables e below P (T8.setTop (mkF m 186 #[.val (.long hi), .second, .val (.long lo), .second, .val (.int (0 : Int32)), .val (.ref b1)] [(.ref b1)]))
  exact Go.retR X8 hx hlk hret rfl rfl (hb hby own_d1_186) (fun U hU hF => hP U _ _ (by rw [hU, e8]; exact ⟨b1, rfl, N8, SZ_b1, K8, own_Byt.of V8 rfl (own_l4 hi lo)⟩) ⟨hF.1, hF.2.1, hF.2.2.mono (by decide) (by decide)⟩)
-- (<init> returns nothing)
theorem own_ef3 (m : MethodId) (a : Addr) : entryFrame m #[(.ref a)] 1 = mkF m 0 #[.val (.ref a)] [] := by
  (first | (simp [entryFrame, mkF, argsToLocals, Value.category]; done) | rfl)
theorem own_pn_1 : plainName "java/lang/Record" = true := by first | (simp [plainName, overriddenIn]; done) | decide +kernel
theorem own_d3_0 : decode jdk_30_method_1_code 0 = .ok (.aload_n 0, 1) := by decide +kernel
theorem own_d3_1 : decode jdk_30_method_1_code 1 = .ok (.invokespecial 1, 3) := by decide +kernel
theorem own_d3_4 : decode jdk_30_method_1_code 4 = .ok (.return_, 1) := by decide +kernel
set_option maxRecDepth 65536 in
set_option maxHeartbeats 40000000 in
theorem own_rm3 (l : Launch) (Z : State) (a0 : Array Value) (hw : ∀ d ∈ tables_1, d.before a0 Z = true) (ws : List Jvm.Cond) (a : Addr) (h0 : Heap) (n0 : Nat) (Z0 : n0 ≤ h0.size)   :
    Con l Z (⟨"java/lang/Record", "<init>", "()V"⟩ : MethodName) jdk_30_method_1_code 1 none ws ({ frames := 1, cells := 0, slots := 0, locals := 12 } : Room) #[(.ref a)] h0 (fun v h L => v = none ∧ Fr n0 L ∧ h = h0) := by
  refine Con.intro (plainFor_of_name own_pn_1) ?_
  intro p e s m below meth c s₁ P hx hby hml hown hnm hret hlk hZ X0 e0 hP
  have N0 := Fr.nil n0
  have hown : s.vm.findClass "java/lang/Record" = some m.cls := hown
  refine Go.cast (own_ef3 m a) ?_
  show Go p.tables e below P (s₁.setTop (mkF m 0 #[.val (.ref a)] []))
  refine Go.s (fun kz => XS.aloadN X0.here hx rfl (hb hby own_d3_0) rfl rfl kz) ?_
  show Go p.tables e below P (s₁.setTop (mkF m 1 #[.val (.ref a)] [(.ref a)]))
  obtain ⟨T1, X1, e1, st1⟩ := initO X0 hx hZ hown (hw _ (List.mem_of_getElem? (i := 24) rfl)) (hw _ (List.mem_of_getElem? (i := 25) rfl)) (hw _ (List.mem_of_getElem? (i := 26) rfl)) e0 (g := (mkF m 1 #[.val (.ref a)] [(.ref a)])) rfl (by rw [hml]; rfl) rfl (hb hby own_d3_1) (by decide) (W := 0) (by show 2 * 0 + _ ≤ _; exact Nat.le_of_eq rfl) (by decide)
  refine Go.s (fun {t} => st1 t) ?_
  show Go p.tables e below P (T1.setTop (mkF m 4 #[.val (.ref a)] []))
  exact Go.retV X1 hx hlk hret (hb hby own_d3_4) (fun U hU hF => hP U _ _ (by rw [hU, e1]; exact ⟨rfl, N0, rfl⟩) ⟨hF.1, hF.2.1, hF.2.2.mono (by decide) (by decide)⟩)
theorem own_ef2 (m : MethodId) (a : Addr) (ar : Value) (bi : Int32) (kd : Value) (har : ar.isRef = true) (hkd : kd.isRef = true) : entryFrame m #[(.ref a), ar, (.int bi), kd] 4 = mkF m 0 #[.val (.ref a), .val ar, .val (.int bi), .val kd] [] := by
  rcases ref_cases har with rfl | ⟨_, rfl⟩ <;>
  rcases ref_cases hkd with rfl | ⟨_, rfl⟩ <;>
  (first | (simp [entryFrame, mkF, argsToLocals, Value.category]; done) | rfl)
theorem own_pn_2 : plainName "com/example/heraldmesh/heraldmesh/feed/Targets$Block" = true := by first | (simp [plainName, overriddenIn]; done) | decide +kernel
theorem own_d2_0 : decode prog_43_method_1_code 0 = .ok (.aload_n 0, 1) := by decide +kernel
theorem own_pd_0 : parseMethodDescriptor "()V" = some ⟨[], none⟩ := by decide +kernel
theorem own_d2_1 : decode prog_43_method_1_code 1 = .ok (.invokespecial 1, 3) := by decide +kernel
theorem own_d2_4 : decode prog_43_method_1_code 4 = .ok (.aload_n 0, 1) := by decide +kernel
theorem own_d2_5 : decode prog_43_method_1_code 5 = .ok (.aload_n 1, 1) := by decide +kernel
theorem own_d2_6 : decode prog_43_method_1_code 6 = .ok (.putfield 7, 3) := by decide +kernel
theorem own_d2_9 : decode prog_43_method_1_code 9 = .ok (.aload_n 0, 1) := by decide +kernel
theorem own_d2_10 : decode prog_43_method_1_code 10 = .ok (.iload_n 2, 1) := by decide +kernel
theorem own_d2_11 : decode prog_43_method_1_code 11 = .ok (.putfield 13, 3) := by decide +kernel
theorem own_d2_14 : decode prog_43_method_1_code 14 = .ok (.aload_n 0, 1) := by decide +kernel
theorem own_d2_15 : decode prog_43_method_1_code 15 = .ok (.aload_n 3, 1) := by decide +kernel
theorem own_d2_16 : decode prog_43_method_1_code 16 = .ok (.putfield 17, 3) := by decide +kernel
theorem own_d2_19 : decode prog_43_method_1_code 19 = .ok (.return_, 1) := by decide +kernel
set_option maxRecDepth 65536 in
set_option maxHeartbeats 40000000 in
theorem own_rm2 (l : Launch) (Z : State) (a0 : Array Value) (hw : ∀ d ∈ tables_1, d.before a0 Z = true) (ws : List Jvm.Cond) (a : Addr) (ar : Value) (bi : Int32) (kd : Value) (h0 : Heap) (n0 : Nat) (Z0 : n0 ≤ h0.size) (E0 : Exa Z h0 a "com/example/heraldmesh/heraldmesh/feed/Targets$Block") (U0 : Kn h0 a) (G0 : n0 ≤ a) (hr_ar : ar.isRef = true) (hr_kd : kd.isRef = true)  :
    Con l Z (⟨"com/example/heraldmesh/heraldmesh/feed/Targets$Block", "<init>", "([BILjava/lang/String;)V"⟩ : MethodName) prog_43_method_1_code 4 none ws ({ frames := 2, cells := 0, slots := 0, locals := 24 } : Room) #[(.ref a), ar, (.int bi), kd] h0 (fun v h L => v = none ∧ Fr n0 L ∧ Keep h0 h [a] ∧ Fld Z h a "com/example/heraldmesh/heraldmesh/feed/Targets$Block" "bits" "I" (.int bi) ∧ Fld Z h a "com/example/heraldmesh/heraldmesh/feed/Targets$Block" "prefix" "[B" ar) := by
  refine Con.intro (plainFor_of_name own_pn_2) ?_
  intro p e s m below meth c s₁ P hx hby hml hown hnm hret hlk hZ X0 e0 hP
  have N0 := Fr.nil n0
  have hown : s.vm.findClass "com/example/heraldmesh/heraldmesh/feed/Targets$Block" = some m.cls := hown
  refine Go.cast (own_ef2 m a ar bi kd hr_ar hr_kd) ?_
  show Go p.tables e below P (s₁.setTop (mkF m 0 #[.val (.ref a), .val ar, .val (.int bi), .val kd] []))
  refine Go.s (fun kz => XS.aloadN X0.here hx rfl (hb hby own_d2_0) rfl rfl kz) ?_
  show Go p.tables e below P (s₁.setTop (mkF m 1 #[.val (.ref a), .val ar, .val (.int bi), .val kd] [(.ref a)]))
  obtain ⟨v1, T1, L1, X1, Q1, st1⟩ := Con.special (own_rm3 l Z a0 hw [] a h0 n0 Z0  ) rfl X0 hx hZ (W := 0) hown (hw _ (List.mem_of_getElem? (i := 19) rfl)) (hw _ (List.mem_of_getElem? (i := 20) rfl)) (hw _ (List.mem_of_getElem? (i := 22) rfl)) (hw _ (List.mem_of_getElem? (i := 23) rfl)) (by decide) (by decide) (by decide) (by decide) (by decide) e0 (g := (mkF m 1 #[.val (.ref a), .val ar, .val (.int bi), .val kd] [(.ref a)])) rfl (by rw [hml]; rfl) (argsL := []) (rest := []) rfl (lenOf own_pd_0 rfl) rfl (by show 2 * 0 + _ ≤ _; exact Nat.le_of_eq rfl) (hb hby own_d2_1)
  obtain ⟨rfl, Nq1, e1⟩ := Q1
  have N1 := Fr.app N0 Nq1
  refine Go.s (fun {t} => st1) ?_
  show Go p.tables e below P (T1.setTop (mkF m 4 #[.val (.ref a), .val ar, .val (.int bi), .val kd] []))
  refine Go.s (fun kz => XS.aloadN X1.here hx rfl (hb hby own_d2_4) rfl rfl kz) ?_
  show Go p.tables e below P (T1.setTop (mkF m 5 #[.val (.ref a), .val ar, .val (.int bi), .val kd] [(.ref a)]))
  refine Go.s (fun kz => XS.aloadN X1.here hx rfl (hb hby own_d2_5) rfl hr_ar kz) ?_
  show Go p.tables e below P (T1.setTop (mkF m 6 #[.val (.ref a), .val ar, .val (.int bi), .val kd] [ar, (.ref a)]))
  obtain ⟨u2, Fo2⟩ := fld_laid E0 U0 (hw _ (List.mem_of_getElem? (i := 7) rfl)) (Or.inr (hw _ (List.mem_of_getElem? (i := 28) rfl)))
  obtain ⟨T2, H2, X2, e2, W2, st2⟩ := putF X1 hx hZ hown (host := "") (Or.inl (hw _ (List.mem_of_getElem? (i := 27) rfl))) Via.refl e1 Fo2 E0 (Or.inr ⟨(hw _ (List.mem_of_getElem? (i := 28) rfl)), rfl, hnm⟩) (hw _ (List.mem_of_getElem? (i := 7) rfl)) (ty := (.array .byte)) (by decide) (own_nar hr_ar rfl) (own_fit hr_ar rfl) (g := (mkF m 6 #[.val (.ref a), .val ar, .val (.int bi), .val kd] [ar, (.ref a)])) rfl rfl (hb hby own_d2_6)
  refine Go.s (fun {t} => st2 t) ?_
  have Fw2 := Fld.same W2 Fo2
  have E0_3 := Exa.wr W2 E0
  have U0_4 := Kn.wr U0 W2
  have N2 := Fr.snoc X2 N1 G0
  have Zs2 := Nat.le_trans Z0 (Keep.of_wr W2).1
  have K2 : Keep h0 H2 [a] := (Keep.refl h0 [a]).wr W2 (Or.inl (List.mem_of_getElem? (i := 0) rfl))
  show Go p.tables e below P (T2.setTop (mkF m 9 #[.val (.ref a), .val ar, .val (.int bi), .val kd] []))
  refine Go.s (fun kz => XS.aloadN X2.here hx rfl (hb hby own_d2_9) rfl rfl kz) ?_
  show Go p.tables e below P (T2.setTop (mkF m 10 #[.val (.ref a), .val ar, .val (.int bi), .val kd] [(.ref a)]))
  refine Go.s (fun kz => XS.iloadN X2.here hx rfl (hb hby own_d2_10) rfl kz) ?_
  show Go p.tables e below P (T2.setTop (mkF m 11 #[.val (.ref a), .val ar, .val (.int bi), .val kd] [(.int bi), (.ref a)]))
  obtain ⟨u5, Fo5⟩ := fld_laid E0_3 U0_4 (hw _ (List.mem_of_getElem? (i := 7) rfl)) (Or.inr (hw _ (List.mem_of_getElem? (i := 30) rfl)))
  obtain ⟨T5, H5, X5, e5, W5, st5⟩ := putF X2 hx hZ hown (host := "") (Or.inl (hw _ (List.mem_of_getElem? (i := 29) rfl))) Via.refl e2 Fo5 E0_3 (Or.inr ⟨(hw _ (List.mem_of_getElem? (i := 30) rfl)), rfl, hnm⟩) (hw _ (List.mem_of_getElem? (i := 7) rfl)) (ty := .int) (by decide) rfl rfl (g := (mkF m 11 #[.val (.ref a), .val ar, .val (.int bi), .val kd] [(.int bi), (.ref a)])) rfl rfl (hb hby own_d2_11)
  refine Go.s (fun {t} => st5 t) ?_
  have Fw5 := Fld.same W5 Fo5
  have E0_6 := Exa.wr W5 E0_3
  have U0_7 := Kn.wr U0_4 W5
  have Fw2_8 := Fld.other W5 Fw2 (Or.inr (slot_ne (Or.inr (hw _ (List.mem_of_getElem? (i := 28) rfl))) (Or.inr (hw _ (List.mem_of_getElem? (i := 30) rfl))) (by decide) (t := (.array .byte)) (t' := .int) (by decide) (by decide)))
  have N5 := Fr.snoc X5 N2 G0
  have Zs5 := Nat.le_trans Zs2 (Keep.of_wr W5).1
  have K5 : Keep h0 H5 [a] := K2.wr W5 (Or.inl (List.mem_of_getElem? (i := 0) rfl))
  show Go p.tables e below P (T5.setTop (mkF m 14 #[.val (.ref a), .val ar, .val (.int bi), .val kd] []))
  refine Go.s (fun kz => XS.aloadN X5.here hx rfl (hb hby own_d2_14) rfl rfl kz) ?_
  show Go p.tables e below P (T5.setTop (mkF m 15 #[.val (.ref a), .val ar, .val (.int bi), .val kd] [(.ref a)]))
  refine Go.s (fun kz => XS.aloadN X5.here hx rfl (hb hby own_d2_15) rfl hr_kd kz) ?_
  show Go p.tables e below P (T5.setTop (mkF m 16 #[.val (.ref a), .val ar, .val (.int bi), .val kd] [kd, (.ref a)]))
  obtain ⟨u9, Fo9⟩ := fld_laid E0_6 U0_7 (hw _ (List.mem_of_getElem? (i := 7) rfl)) (Or.inr (hw _ (List.mem_of_getElem? (i := 32) rfl)))
  obtain ⟨T9, H9, X9, e9, W9, st9⟩ := putF X5 hx hZ hown (host := "") (Or.inl (hw _ (List.mem_of_getElem? (i := 31) rfl))) Via.refl e5 Fo9 E0_6 (Or.inr ⟨(hw _ (List.mem_of_getElem? (i := 32) rfl)), rfl, hnm⟩) (hw _ (List.mem_of_getElem? (i := 7) rfl)) (ty := (.object "java/lang/String")) (by decide) (own_nar hr_kd rfl) (own_fit hr_kd rfl) (g := (mkF m 16 #[.val (.ref a), .val ar, .val (.int bi), .val kd] [kd, (.ref a)])) rfl rfl (hb hby own_d2_16)
  refine Go.s (fun {t} => st9 t) ?_
  have Fw9 := Fld.same W9 Fo9
  have E0_10 := Exa.wr W9 E0_6
  have U0_11 := Kn.wr U0_7 W9
  have Fw2_12 := Fld.other W9 Fw2_8 (Or.inr (slot_ne (Or.inr (hw _ (List.mem_of_getElem? (i := 28) rfl))) (Or.inr (hw _ (List.mem_of_getElem? (i := 32) rfl))) (by decide) (t := (.array .byte)) (t' := (.object "java/lang/String")) (by decide) (by decide)))
  have Fw5_13 := Fld.other W9 Fw5 (Or.inr (slot_ne (Or.inr (hw _ (List.mem_of_getElem? (i := 30) rfl))) (Or.inr (hw _ (List.mem_of_getElem? (i := 32) rfl))) (by decide) (t := .int) (t' := (.object "java/lang/String")) (by decide) (by decide)))
  have N9 := Fr.snoc X9 N5 G0
  have Zs9 := Nat.le_trans Zs5 (Keep.of_wr W9).1
  have K9 : Keep h0 H9 [a] := K5.wr W9 (Or.inl (List.mem_of_getElem? (i := 0) rfl))
  show Go p.tables e below P (T9.setTop (mkF m 19 #[.val (.ref a), .val ar, .val (.int bi), .val kd] []))
  exact Go.retV X9 hx hlk hret (hb hby own_d2_19) (fun U hU hF => hP U _ _ (by rw [hU, e9]; exact ⟨rfl, N9, K9, Fw5_13, Fw2_12⟩) ⟨hF.1, hF.2.1, hF.2.2.mono (by decide) (by decide)⟩)
def own_f6 (x : Int32) (y : Int32) : Int32 := (if y < x then y else x)
theorem own_ef6 (m : MethodId) (x : Int32) (y : Int32) : entryFrame m #[(.int x), (.int y)] 2 = mkF m 0 #[.val (.int x), .val (.int y)] [] := by
  (first | (simp [entryFrame, mkF, argsToLocals, Value.category]; done) | rfl)
theorem own_d6_0 : decode jdk_29_method_69_code 0 = .ok (.iload_n 0, 1) := by decide +kernel
theorem own_d6_1 : decode jdk_29_method_69_code 1 = .ok (.iload_n 1, 1) := by decide +kernel
theorem own_d6_2 : decode jdk_29_method_69_code 2 = .ok (.if_icmp .gt 7, 3) := by decide +kernel
theorem own_d6_9 : decode jdk_29_method_69_code 9 = .ok (.iload_n 1, 1) := by decide +kernel
theorem own_d6_10 : decode jdk_29_method_69_code 10 = .ok (.ireturn, 1) := by decide +kernel
theorem own_d6_5 : decode jdk_29_method_69_code 5 = .ok (.iload_n 0, 1) := by decide +kernel
theorem own_d6_6 : decode jdk_29_method_69_code 6 = .ok (.goto 4, 3) := by decide +kernel
set_option maxRecDepth 65536 in
set_option maxHeartbeats 40000000 in
theorem own_rm6 (l : Launch) (Z : State) (a0 : Array Value) (hw : ∀ d ∈ tables_1, d.before a0 Z = true) (ws : List Jvm.Cond) (x : Int32) (y : Int32) (h0 : Heap) (n0 : Nat) (Z0 : n0 ≤ h0.size)   :
    Con l Z (⟨"java/lang/Math", "min", "(II)I"⟩ : MethodName) jdk_29_method_69_code 2 (some .int) ws ({ frames := 0, cells := 0, slots := 0, locals := 0 } : Room) #[(.int x), (.int y)] h0 (fun v h L => v = some (.int (own_f6 x y)) ∧ Fr n0 L ∧ h = h0) := by
  refine Con.intro (Jvm.Free.JP.mathPlain rfl (by decide +kernel)) ?_
  intro p e s m below meth c s₁ P hx hby hml hown hnm hret hlk hZ X0 e0 hP
  have N0 := Fr.nil n0
  have hown : s.vm.findClass "java/lang/Math" = some m.cls := hown
  refine Go.cast (own_ef6 m x y) ?_
  show Go p.tables e below P (s₁.setTop (mkF m 0 #[.val (.int x), .val (.int y)] []))
  refine Go.s (fun kz => XS.iloadN X0.here hx rfl (hb hby own_d6_0) rfl kz) ?_
  show Go p.tables e below P (s₁.setTop (mkF m 1 #[.val (.int x), .val (.int y)] [(.int x)]))
  refine Go.s (fun kz => XS.iloadN X0.here hx rfl (hb hby own_d6_1) rfl kz) ?_
  show Go p.tables e below P (s₁.setTop (mkF m 2 #[.val (.int x), .val (.int y)] [(.int y), (.int x)]))
  by_cases hc2 : y < x
  · skip
    refine Go.s (fun kz => XS.icmpYes X0.here hx rfl (pc0 := 2) (pc' := 9) rfl (hb hby own_d6_2) rfl (XT.ii_gt_t hc2) (by decide) (by decide) kz) ?_
    show Go p.tables e below P (s₁.setTop (mkF m 9 #[.val (.int x), .val (.int y)] []))
    refine Go.s (fun kz => XS.iloadN X0.here hx rfl (hb hby own_d6_9) rfl kz) ?_
    show Go p.tables e below P (s₁.setTop (mkF m 10 #[.val (.int x), .val (.int y)] [(.int y)]))
    exact Go.retI X0 hx hlk hret (hb hby own_d6_10) (fun U hU hF => hP U _ _ (by rw [hU, e0]; exact ⟨congrArg some (congrArg Value.int (Eq.symm (by rw [own_f6]; rw [if_pos hc2]))), N0, rfl⟩) ⟨hF.1, hF.2.1, hF.2.2.mono (by decide) (by decide)⟩)
  · skip
    refine Go.s (fun kz => XS.icmpNo X0.here hx rfl (hb hby own_d6_2) rfl (XT.ii_gt_f hc2) kz) ?_
    show Go p.tables e below P (s₁.setTop (mkF m 5 #[.val (.int x), .val (.int y)] []))
    refine Go.s (fun kz => XS.iloadN X0.here hx rfl (hb hby own_d6_5) rfl kz) ?_
    show Go p.tables e below P (s₁.setTop (mkF m 6 #[.val (.int x), .val (.int y)] [(.int x)]))
    refine Go.s (fun kz => XS.goto X0.here hx rfl (pc0 := 6) (pc' := 10) rfl (hb hby own_d6_6) (by decide) (by decide) kz) ?_
    show Go p.tables e below P (s₁.setTop (mkF m 10 #[.val (.int x), .val (.int y)] [(.int x)]))
    exact Go.retI X0 hx hlk hret (hb hby own_d6_10) (fun U hU hF => hP U _ _ (by rw [hU, e0]; exact ⟨congrArg some (congrArg Value.int (Eq.symm (by rw [own_f6]; rw [if_neg hc2]))), N0, rfl⟩) ⟨hF.1, hF.2.1, hF.2.2.mono (by decide) (by decide)⟩)
def own_f7 (d : Int64) (k : Int32) : Int32 := (if k = 0 then (1 : Int32) else (if (XT.ushrL d ((64 : Int32) - k)) = (0 : Int64) then (1 : Int32) else (0 : Int32)))
theorem own_ef7 (m : MethodId) (d : Int64) (k : Int32) : entryFrame m #[(.long d), (.int k)] 3 = mkF m 0 #[.val (.long d), .second, .val (.int k)] [] := by
  (first | (simp [entryFrame, mkF, argsToLocals, Value.category]; done) | rfl)
theorem own_d7_0 : decode method_3_code 0 = .ok (.iload_n 2, 1) := by decide +kernel
theorem own_d7_1 : decode method_3_code 1 = .ok (.ifCond .ne 5, 3) := by decide +kernel
theorem own_d7_4 : decode method_3_code 4 = .ok (.iconst 1, 1) := by decide +kernel
theorem own_d7_5 : decode method_3_code 5 = .ok (.ireturn, 1) := by decide +kernel
theorem own_d7_6 : decode method_3_code 6 = .ok (.lload_n 0, 1) := by decide +kernel
theorem own_d7_7 : decode method_3_code 7 = .ok (.bipush 64, 2) := by decide +kernel
theorem own_d7_9 : decode method_3_code 9 = .ok (.iload_n 2, 1) := by decide +kernel
theorem own_d7_10 : decode method_3_code 10 = .ok (.isub, 1) := by decide +kernel
theorem own_d7_11 : decode method_3_code 11 = .ok (.lushr, 1) := by decide +kernel
theorem own_d7_12 : decode method_3_code 12 = .ok (.lconst 0, 1) := by decide +kernel
theorem own_d7_13 : decode method_3_code 13 = .ok (.lcmp, 1) := by decide +kernel
theorem own_d7_14 : decode method_3_code 14 = .ok (.ifCond .ne 7, 3) := by decide +kernel
theorem own_d7_17 : decode method_3_code 17 = .ok (.iconst 1, 1) := by decide +kernel
theorem own_d7_18 : decode method_3_code 18 = .ok (.goto 4, 3) := by decide +kernel
theorem own_d7_22 : decode method_3_code 22 = .ok (.ireturn, 1) := by decide +kernel
theorem own_d7_21 : decode method_3_code 21 = .ok (.iconst 0, 1) := by decide +kernel
set_option maxRecDepth 65536 in
set_option maxHeartbeats 40000000 in
theorem own_rm7 (l : Launch) (Z : State) (a0 : Array Value) (hw : ∀ d ∈ tables_1, d.before a0 Z = true) (ws : List Jvm.Cond) (d : Int64) (k : Int32) (h0 : Heap) (n0 : Nat) (Z0 : n0 ≤ h0.size)   :
    Con l Z (⟨"com/example/heraldmesh/heraldmesh/feed/BlockHoldsPinLaw", "top", "(JI)Z"⟩ : MethodName) method_3_code 3 (some .boolean) ws ({ frames := 0, cells := 0, slots := 0, locals := 0 } : Room) #[(.long d), (.int k)] h0 (fun v h L => v = some (.int (own_f7 d k)) ∧ Fr n0 L ∧ h = h0) := by
  refine Con.intro (plainFor_of_name own_pn_0) ?_
  intro p e s m below meth c s₁ P hx hby hml hown hnm hret hlk hZ X0 e0 hP
  have N0 := Fr.nil n0
  have hown : s.vm.findClass "com/example/heraldmesh/heraldmesh/feed/BlockHoldsPinLaw" = some m.cls := hown
  refine Go.cast (own_ef7 m d k) ?_
  show Go p.tables e below P (s₁.setTop (mkF m 0 #[.val (.long d), .second, .val (.int k)] []))
  refine Go.s (fun kz => XS.iloadN X0.here hx rfl (hb hby own_d7_0) rfl kz) ?_
  show Go p.tables e below P (s₁.setTop (mkF m 1 #[.val (.long d), .second, .val (.int k)] [(.int k)]))
  by_cases hc1 : k = 0
  · skip
    refine Go.s (fun kz => XS.ifNo X0.here hx rfl (hb hby own_d7_1) rfl (XT.i0_ne_f hc1) kz) ?_
    show Go p.tables e below P (s₁.setTop (mkF m 4 #[.val (.long d), .second, .val (.int k)] []))
    refine Go.s (fun kz => XS.iconst X0.here hx rfl (hb hby own_d7_4) kz) ?_
    show Go p.tables e below P (s₁.setTop (mkF m 5 #[.val (.long d), .second, .val (.int k)] [(.int (1 : Int32))]))
    exact Go.retZ X0 hx hlk hret (by decide) (hb hby own_d7_5) (fun U hU hF => hP U _ _ (by rw [hU, e0]; exact ⟨congrArg some (congrArg Value.int (Eq.symm (by rw [own_f7]; rw [if_pos hc1]))), N0, rfl⟩) ⟨hF.1, hF.2.1, hF.2.2.mono (by decide) (by decide)⟩)
  · skip
    refine Go.s (fun kz => XS.ifYes X0.here hx rfl (pc0 := 1) (pc' := 6) rfl (hb hby own_d7_1) rfl (XT.i0_ne_t hc1) (by decide) (by decide) kz) ?_
    show Go p.tables e below P (s₁.setTop (mkF m 6 #[.val (.long d), .second, .val (.int k)] []))
    refine Go.s (fun kz => XT.lloadN X0.here hx rfl (hb hby own_d7_6) rfl kz) ?_
    show Go p.tables e below P (s₁.setTop (mkF m 7 #[.val (.long d), .second, .val (.int k)] [(.long d)]))
    refine Go.s (fun kz => XS.bipush X0.here hx rfl (hb hby own_d7_7) kz) ?_
    show Go p.tables e below P (s₁.setTop (mkF m 9 #[.val (.long d), .second, .val (.int k)] [(.int (64 : Int32)), (.long d)]))
    refine Go.s (fun kz => XS.iloadN X0.here hx rfl (hb hby own_d7_9) rfl kz) ?_
    show Go p.tables e below P (s₁.setTop (mkF m 10 #[.val (.long d), .second, .val (.int k)] [(.int k), (.int (64 : Int32)), (.long d)]))
    refine Go.s (fun kz => XS.isub X0.here hx rfl (hb hby own_d7_10) rfl kz) ?_
    show Go p.tables e below P (s₁.setTop (mkF m 11 #[.val (.long d), .second, .val (.int k)] [(.int ((64 : Int32) - k)), (.long d)]))
    refine Go.s (fun kz => XT.lushr X0.here hx rfl (hb hby own_d7_11) rfl kz) ?_
    show Go p.tables e below P (s₁.setTop (mkF m 12 #[.val (.long d), .second, .val (.int k)] [(.long (XT.ushrL d ((64 : Int32) - k)))]))
    refine Go.s (fun kz => XT.lconst X0.here hx rfl (hb hby own_d7_12) kz) ?_
    show Go p.tables e below P (s₁.setTop (mkF m 13 #[.val (.long d), .second, .val (.int k)] [(.long (0 : Int64)), (.long (XT.ushrL d ((64 : Int32) - k)))]))
    refine Go.s (fun kz => XT.lcmp X0.here hx rfl (hb hby own_d7_13) rfl kz) ?_
    show Go p.tables e below P (s₁.setTop (mkF m 14 #[.val (.long d), .second, .val (.int k)] [(.int (XT.cmpL (XT.ushrL d ((64 : Int32) - k)) (0 : Int64)))]))
    by_cases hc14 : (XT.ushrL d ((64 : Int32) - k)) = (0 : Int64)
    · skip
      refine Go.s (fun kz => XS.ifNo X0.here hx rfl (hb hby own_d7_14) rfl (XT.ll_ne_f hc14) kz) ?_
      show Go p.tables e below P (s₁.setTop (mkF m 17 #[.val (.long d), .second, .val (.int k)] []))
      refine Go.s (fun kz => XS.iconst X0.here hx rfl (hb hby own_d7_17) kz) ?_
      show Go p.tables e below P (s₁.setTop (mkF m 18 #[.val (.long d), .second, .val (.int k)] [(.int (1 : Int32))]))
      refine Go.s (fun kz => XS.goto X0.here hx rfl (pc0 := 18) (pc' := 22) rfl (hb hby own_d7_18) (by decide) (by decide) kz) ?_
      show Go p.tables e below P (s₁.setTop (mkF m 22 #[.val (.long d), .second, .val (.int k)] [(.int (1 : Int32))]))
      exact Go.retZ X0 hx hlk hret (by decide) (hb hby own_d7_22) (fun U hU hF => hP U _ _ (by rw [hU, e0]; exact ⟨congrArg some (congrArg Value.int (Eq.symm (by rw [own_f7]; rw [if_neg hc1]; rw [if_pos hc14]))), N0, rfl⟩) ⟨hF.1, hF.2.1, hF.2.2.mono (by decide) (by decide)⟩)
    · skip
      refine Go.s (fun kz => XS.ifYes X0.here hx rfl (pc0 := 14) (pc' := 21) rfl (hb hby own_d7_14) rfl (XT.ll_ne_t hc14) (by decide) (by decide) kz) ?_
      show Go p.tables e below P (s₁.setTop (mkF m 21 #[.val (.long d), .second, .val (.int k)] []))
      refine Go.s (fun kz => XS.iconst X0.here hx rfl (hb hby own_d7_21) kz) ?_
      show Go p.tables e below P (s₁.setTop (mkF m 22 #[.val (.long d), .second, .val (.int k)] [(.int (0 : Int32))]))
      exact Go.retZ X0 hx hlk hret (by decide) (hb hby own_d7_22) (fun U hU hF => hP U _ _ (by rw [hU, e0]; exact ⟨congrArg some (congrArg Value.int (Eq.symm (by rw [own_f7]; rw [if_neg hc1]; rw [if_neg hc14]))), N0, rfl⟩) ⟨hF.1, hF.2.1, hF.2.2.mono (by decide) (by decide)⟩)
theorem own_sub (k : Nat) (h : k ≤ 64) : (64 : Int32) - Int32.ofNat k = Int32.ofNat (64 - k) := by
  have : ∀ k : Fin 65, (64 : Int32) - Int32.ofNat k.val = Int32.ofNat (64 - k.val) := by decide +kernel
  exact this ⟨k, by omega⟩
theorem own_top (d : Int64) (k : Nat) (hk : k ≤ 64) : (∀ m, m < k → d.toBitVec.getLsbD (63 - m) = false) ∧ own_f7 d (Int32.ofNat k) = 1 ∨ ¬ (∀ m, m < k → d.toBitVec.getLsbD (63 - m) = false) ∧ own_f7 d (Int32.ofNat k) = 0 := by
  rw [own_f7]
  by_cases h0 : k = 0
  · subst h0
    exact Or.inl ⟨fun m hm => absurd hm (Nat.not_lt_zero m), rfl⟩
  · have h1 : ¬ Int32.ofNat k = 0 := by
      have : ∀ k : Fin 65, Int32.ofNat k.val = 0 → k.val = 0 := by decide +kernel
      exact fun q => h0 (this ⟨k, by omega⟩ q)
    rw [if_neg h1, own_sub k hk]
    have key : XT.ushrL d (Int32.ofNat (64 - k)) = 0 ↔ ∀ m, m < k → d.toBitVec.getLsbD (63 - m) = false := by
      constructor
      · intro h m hm
        have q := congrArg (fun z : Int64 => z.toBitVec.getLsbD (k - 1 - m)) h
        simp only [own_sh (64 - k) (by omega), BitVec.getLsbD_ushiftRight] at q
        rw [show 64 - k + (k - 1 - m) = 63 - m from by omega] at q
        rw [q]
        show (0 : BitVec 64).getLsbD _ = false
        simp
      · intro h
        apply Int64.toBitVec_inj.mp
        apply BitVec.eq_of_getLsbD_eq
        intro i hi
        rw [own_sh (64 - k) (by omega), BitVec.getLsbD_ushiftRight]
        by_cases q : i < k
        · have z := h (k - 1 - i) (by omega)
          rw [show 63 - (k - 1 - i) = 64 - k + i from by omega] at z
          rw [z]; show false = (0 : BitVec 64).getLsbD _; simp
        · rw [BitVec.getLsbD_of_ge _ _ (by omega)]; show false = (0 : BitVec 64).getLsbD _; simp
    by_cases z : XT.ushrL d (Int32.ofNat (64 - k)) = 0
    · exact Or.inl ⟨key.mp z, if_pos z⟩
    · exact Or.inr ⟨fun q => z (key.mpr q), if_neg z⟩
theorem own_xor (x y : Int64) (i : Nat) : (x ^^^ y).toBitVec.getLsbD i = false ↔ x.toBitVec.getLsbD i = y.toBitVec.getLsbD i := by
  rw [Int64.toBitVec_xor, BitVec.getLsbD_xor]
  cases x.toBitVec.getLsbD i <;> cases y.toBitVec.getLsbD i <;> simp
/-- what holds(..) asks -/
def own_good (g1 g2 : Nat → Int32) (bn : Nat) : Prop := (∀ j, j < bn / 8 → g2 j = g1 j) ∧ (bn % 8 ≠ 0 → (g2 (bn / 8) &&& (((255 : Int32) <<< (((8 : Int32) - Int32.ofNat (bn % 8)) &&& 31)) &&& 255)) = (g1 (bn / 8) &&& (((255 : Int32) <<< (((8 : Int32) - Int32.ofNat (bn % 8)) &&& 31)) &&& 255)))
theorem own_goodI (p0 p1 a0 a1 : Int64) (bn : Nat) (hb : bn ≤ 128) : own_good (own_g p0 p1) (own_g a0 a1) bn ↔ ∀ m, m < bn → own_bit a0 a1 m = own_bit p0 p1 m := by
  constructor
  · intro h m hm
    by_cases q : m / 8 < bn / 8
    · have z := (own_geq a0 a1 p0 p1 (m / 8) (by omega)).mp (h.1 _ q) (m % 8) (by omega)
      rw [show 8 * (m / 8) + m % 8 = m from by omega] at z; exact z
    · have e : m / 8 = bn / 8 := by omega
      have z := (own_meq a0 a1 p0 p1 (bn / 8) (by omega) (bn % 8) (by omega)).mp (h.2 (by omega)) (m % 8) (by omega)
      rw [show 8 * (bn / 8) + m % 8 = m from by omega] at z; exact z
  · intro h
    refine ⟨fun j hj => (own_geq a0 a1 p0 p1 j (by omega)).mpr fun t ht => h _ (by omega), fun hr => (own_meq a0 a1 p0 p1 (bn / 8) (by omega) (bn % 8) (by omega)).mpr fun t ht => h _ (by omega)⟩
theorem own_want (p0 p1 a0 a1 : Int64) (bn : Nat) (hb : bn ≤ 128) : own_good (own_g p0 p1) (own_g a0 a1) bn ↔ (own_f7 (p0 ^^^ a0) (Int32.ofNat (min bn 64)) = 1 ∧ own_f7 (p1 ^^^ a1) (Int32.ofNat (bn - min bn 64)) = 1) := by
  rw [own_goodI p0 p1 a0 a1 bn hb]
  have t1 := own_top (p0 ^^^ a0) (min bn 64) (by omega)
  have t2 := own_top (p1 ^^^ a1) (bn - min bn 64) (by omega)
  have d1 : ¬ (1 : Int32) = 0 := by decide
  have e1 : own_f7 (p0 ^^^ a0) (Int32.ofNat (min bn 64)) = 1 ↔ ∀ m, m < min bn 64 → (p0 ^^^ a0).toBitVec.getLsbD (63 - m) = false := by
    rcases t1 with ⟨a, b⟩ | ⟨a, b⟩
    · exact ⟨fun _ => a, fun _ => b⟩
    · exact ⟨fun q => absurd (q.symm.trans b) d1, fun q => absurd q a⟩
  have e2 : own_f7 (p1 ^^^ a1) (Int32.ofNat (bn - min bn 64)) = 1 ↔ ∀ m, m < bn - min bn 64 → (p1 ^^^ a1).toBitVec.getLsbD (63 - m) = false := by
    rcases t2 with ⟨a, b⟩ | ⟨a, b⟩
    · exact ⟨fun _ => a, fun _ => b⟩
    · exact ⟨fun q => absurd (q.symm.trans b) d1, fun q => absurd q a⟩
  rw [e1, e2]
  constructor
  · intro h
    refine ⟨fun m hm => ?_, fun m hm => ?_⟩
    · rw [own_xor]
      have z := h m (by omega)
      rw [own_bit, own_bit, if_pos (by omega), if_pos (by omega)] at z
      exact z.symm
    · rw [own_xor]
      have z := h (m + 64) (by omega)
      rw [own_bit, own_bit, if_neg (by omega), if_neg (by omega), show 127 - (m + 64) = 63 - m from by omega] at z
      exact z.symm
  · intro h m hm
    rw [own_bit, own_bit]
    by_cases q : m < 64
    · rw [if_pos q, if_pos q]
      have z := h.1 m (by omega)
      rw [own_xor] at z; exact z.symm
    · rw [if_neg q, if_neg q]
      have z := h.2 (m - 64) (by omega)
      rw [own_xor, show 63 - (m - 64) = 127 - m from by omega] at z; exact z.symm

theorem own_cl (i : Nat) (h : i < 2 ^ 31) : (Int32.ofNat i).toNatClampNeg = i := by
  have e : (Int32.ofNat i).toInt = i := Int32.toInt_ofNat_of_lt h
  simp only [Int32.toNatClampNeg, e]; rfl
theorem own_in {c : Cell} {N i : Nat} (S : c.slots.size = N) (hN : N ≤ 16) (h : i < N) : ¬ (Int32.ofNat i < 0 ∨ c.slots.size ≤ (Int32.ofNat i).toNatClampNeg) := by
  rw [S, own_cl i (by omega), Int32.lt_iff_toInt_lt, Int32.toInt_ofNat_of_lt (by omega)]
  have c0 : (0 : Int32).toInt = 0 := rfl
  omega
theorem own_at {c : Cell} {N i : Nat} {g : Nat → Int32} (hN : N ≤ 16) (H : ∀ j, j < N → c.slots[j]? = some (.int (g j))) (h : i < N) : c.slots[(Int32.ofNat i).toNatClampNeg]? = some (.int (g i)) := by
  rw [own_cl i (by omega)]; exact H i h
theorem own_div (bn : Nat) (h : bn ≤ 128) : Int32.ofNat bn / 8 = Int32.ofNat (bn / 8) := by
  have : ∀ k : Fin 129, Int32.ofNat k.val / 8 = Int32.ofNat (k.val / 8) := by decide +kernel
  exact this ⟨bn, by omega⟩
theorem own_rem (bn : Nat) (h : bn ≤ 128) : Int32.ofNat bn % 8 = Int32.ofNat (bn % 8) := by
  have : ∀ k : Fin 129, Int32.ofNat k.val % 8 = Int32.ofNat (k.val % 8) := by decide +kernel
  exact this ⟨bn, by omega⟩
theorem own_z8 (bn : Nat) (h : Int32.ofNat (bn % 8) = 0) : bn % 8 = 0 := by
  have : ∀ k : Fin 8, Int32.ofNat k.val = 0 → k.val = 0 := by decide +kernel
  exact this ⟨bn % 8, by omega⟩ h
theorem own_ilt (i j : Nat) (h : i < j) (hj : j ≤ 128) : Int32.ofNat i < Int32.ofNat j := by
  rw [Int32.lt_iff_toInt_lt, Int32.toInt_ofNat_of_lt (by omega), Int32.toInt_ofNat_of_lt (by omega)]; omega
theorem own_irr (x : Int32) : ¬ x < x := by rw [Int32.lt_iff_toInt_lt]; omega
theorem own_ef5_16_4 (m : MethodId) (a : Addr) (b2 : Addr) : entryFrame m #[(.ref a), (.ref b2)] 5 = mkF m 0 #[.val (.ref a), .val (.ref b2), .unset, .unset, .unset] [] := by
  (first | (simp [entryFrame, mkF, argsToLocals, Value.category]; done) | rfl)
theorem own_d5_0 : decode prog_43_method_3_code 0 = .ok (.aload_n 1, 1) := by decide +kernel
theorem own_d5_1 : decode prog_43_method_3_code 1 = .ok (.arraylength, 1) := by decide +kernel
theorem own_d5_2 : decode prog_43_method_3_code 2 = .ok (.aload_n 0, 1) := by decide +kernel
theorem own_d5_3 : decode prog_43_method_3_code 3 = .ok (.getfield 7, 3) := by decide +kernel
theorem own_d5_6 : decode prog_43_method_3_code 6 = .ok (.arraylength, 1) := by decide +kernel
theorem own_d5_7 : decode prog_43_method_3_code 7 = .ok (.if_icmp .eq 5, 3) := by decide +kernel
theorem own_d5_10 : decode prog_43_method_3_code 10 = .ok (.iconst 0, 1) := by decide +kernel
theorem own_d5_11 : decode prog_43_method_3_code 11 = .ok (.ireturn, 1) := by decide +kernel
set_option maxRecDepth 65536 in
set_option maxHeartbeats 40000000 in
theorem own_rm5_16_4 (l : Launch) (Z : State) (a0 : Array Value) (hw : ∀ d ∈ tables_1, d.before a0 Z = true) (ws : List Jvm.Cond) (a b1 b2 bn : Nat) (g1 g2 : Nat → Int32) (h0 : Heap) (n0 : Nat) (Z0 : n0 ≤ h0.size) (F_p : Fld Z h0 a "com/example/heraldmesh/heraldmesh/feed/Targets$Block" "prefix" "[B" (.ref b1)) (F_b : Fld Z h0 a "com/example/heraldmesh/heraldmesh/feed/Targets$Block" "bits" "I" (.int (Int32.ofNat bn))) (Gb_1 : own_Byt Z h0 b1 16 g1) (Gb_2 : own_Byt Z h0 b2 4 g2) :
    Con l Z (⟨"com/example/heraldmesh/heraldmesh/feed/Targets$Block", "holds", "([B)Z"⟩ : MethodName) prog_43_method_3_code 5 (some .boolean) ws ({ frames := 0, cells := 0, slots := 0, locals := 0 } : Room) #[(.ref a), (.ref b2)] h0 (fun v h L => v = some (.int 0) ∧ Fr n0 L ∧ h = h0) := by
  refine Con.intro (plainFor_of_name own_pn_2) ?_
  intro p e s m below meth c s₁ P hx hby hml hown hnm hret hlk hZ X0 e0 hP
  have N0 := Fr.nil n0
  have hown : s.vm.findClass "com/example/heraldmesh/heraldmesh/feed/Targets$Block" = some m.cls := hown
  refine Go.cast (own_ef5_16_4 m a b2) ?_
  show Go p.tables e below P (s₁.setTop (mkF m 0 #[.val (.ref a), .val (.ref b2), .unset, .unset, .unset] []))
  refine Go.s (fun kz => XS.aloadN X0.here hx rfl (hb hby own_d5_0) rfl rfl kz) ?_
  show Go p.tables e below P (s₁.setTop (mkF m 1 #[.val (.ref a), .val (.ref b2), .unset, .unset, .unset] [(.ref b2)]))
  obtain ⟨cl1, Ar1, Sz1, Ha1⟩ := id Gb_2
  refine Go.s (fun {t} kz => X0.arraylength hx (by rw [e0]; exact Ar1.1) (State.isArrayOf_alike hZ.alike Ar1.2.1) (g := (mkF m 1 #[.val (.ref a), .val (.ref b2), .unset, .unset, .unset] [(.ref b2)])) rfl rfl (hb hby own_d5_1) _ kz) ?_
  rw [Sz1]
  show Go p.tables e below P (s₁.setTop (mkF m 2 #[.val (.ref a), .val (.ref b2), .unset, .unset, .unset] [(.int (4 : Int32))]))
  refine Go.s (fun kz => XS.aloadN X0.here hx rfl (hb hby own_d5_2) rfl rfl kz) ?_
  show Go p.tables e below P (s₁.setTop (mkF m 3 #[.val (.ref a), .val (.ref b2), .unset, .unset, .unset] [(.ref a), (.int (4 : Int32))]))
  obtain ⟨T2, X2, e2, st2⟩ := getF X0 hx hZ hown (host := "") (Or.inl (hw _ (List.mem_of_getElem? (i := 27) rfl))) Via.refl e0 F_p (g := (mkF m 3 #[.val (.ref a), .val (.ref b2), .unset, .unset, .unset] [(.ref a), (.int (4 : Int32))])) rfl rfl (hb hby own_d5_3)
  refine Go.s (fun {t} => st2 t) ?_
  show Go p.tables e below P (T2.setTop (mkF m 6 #[.val (.ref a), .val (.ref b2), .unset, .unset, .unset] [(.ref b1), (.int (4 : Int32))]))
  obtain ⟨cl3, Ar3, Sz3, Ha3⟩ := id Gb_1
  refine Go.s (fun {t} kz => X2.arraylength hx (by rw [e2]; exact Ar3.1) (State.isArrayOf_alike hZ.alike Ar3.2.1) (g := (mkF m 6 #[.val (.ref a), .val (.ref b2), .unset, .unset, .unset] [(.ref b1), (.int (4 : Int32))])) rfl rfl (hb hby own_d5_6) _ kz) ?_
  rw [Sz3]
  show Go p.tables e below P (T2.setTop (mkF m 7 #[.val (.ref a), .val (.ref b2), .unset, .unset, .unset] [(.int (16 : Int32)), (.int (4 : Int32))]))
  refine Go.s (fun kz => XS.icmpNo X2.here hx rfl (hb hby own_d5_7) rfl (XT.ii_eq_f (by decide)) kz) ?_
  show Go p.tables e below P (T2.setTop (mkF m 10 #[.val (.ref a), .val (.ref b2), .unset, .unset, .unset] []))
  refine Go.s (fun kz => XS.iconst X2.here hx rfl (hb hby own_d5_10) kz) ?_
  show Go p.tables e below P (T2.setTop (mkF m 11 #[.val (.ref a), .val (.ref b2), .unset, .unset, .unset] [(.int (0 : Int32))]))
  exact Go.retZ X2 hx hlk hret (by decide) (hb hby own_d5_11) (fun U hU hF => hP U _ _ (by rw [hU, e2]; exact ⟨rfl, N0, rfl⟩) ⟨hF.1, hF.2.1, hF.2.2.mono (by decide) (by decide)⟩)
theorem own_ef5_4_16 (m : MethodId) (a : Addr) (b2 : Addr) : entryFrame m #[(.ref a), (.ref b2)] 5 = mkF m 0 #[.val (.ref a), .val (.ref b2), .unset, .unset, .unset] [] := by
  (first | (simp [entryFrame, mkF, argsToLocals, Value.category]; done) | rfl)
set_option maxRecDepth 65536 in
set_option maxHeartbeats 40000000 in
theorem own_rm5_4_16 (l : Launch) (Z : State) (a0 : Array Value) (hw : ∀ d ∈ tables_1, d.before a0 Z = true) (ws : List Jvm.Cond) (a b1 b2 bn : Nat) (g1 g2 : Nat → Int32) (h0 : Heap) (n0 : Nat) (Z0 : n0 ≤ h0.size) (F_p : Fld Z h0 a "com/example/heraldmesh/heraldmesh/feed/Targets$Block" "prefix" "[B" (.ref b1)) (F_b : Fld Z h0 a "com/example/heraldmesh/heraldmesh/feed/Targets$Block" "bits" "I" (.int (Int32.ofNat bn))) (Gb_1 : own_Byt Z h0 b1 4 g1) (Gb_2 : own_Byt Z h0 b2 16 g2) :
    Con l Z (⟨"com/example/heraldmesh/heraldmesh/feed/Targets$Block", "holds", "([B)Z"⟩ : MethodName) prog_43_method_3_code 5 (some .boolean) ws ({ frames := 0, cells := 0, slots := 0, locals := 0 } : Room) #[(.ref a), (.ref b2)] h0 (fun v h L => v = some (.int 0) ∧ Fr n0 L ∧ h = h0) := by
  refine Con.intro (plainFor_of_name own_pn_2) ?_
  intro p e s m below meth c s₁ P hx hby hml hown hnm hret hlk hZ X0 e0 hP
  have N0 := Fr.nil n0
  have hown : s.vm.findClass "com/example/heraldmesh/heraldmesh/feed/Targets$Block" = some m.cls := hown
  refine Go.cast (own_ef5_4_16 m a b2) ?_
  show Go p.tables e below P (s₁.setTop (mkF m 0 #[.val (.ref a), .val (.ref b2), .unset, .unset, .unset] []))
  refine Go.s (fun kz => XS.aloadN X0.here hx rfl (hb hby own_d5_0) rfl rfl kz) ?_
  show Go p.tables e below P (s₁.setTop (mkF m 1 #[.val (.ref a), .val (.ref b2), .unset, .unset, .unset] [(.ref b2)]))
  obtain ⟨cl1, Ar1, Sz1, Ha1⟩ := id Gb_2
  refine Go.s (fun {t} kz => X0.arraylength hx (by rw [e0]; exact Ar1.1) (State.isArrayOf_alike hZ.alike Ar1.2.1) (g := (mkF m 1 #[.val (.ref a), .val (.ref b2), .unset, .unset, .unset] [(.ref b2)])) rfl rfl (hb hby own_d5_1) _ kz) ?_
  rw [Sz1]
  show Go p.tables e below P (s₁.setTop (mkF m 2 #[.val (.ref a), .val (.ref b2), .unset, .unset, .unset] [(.int (16 : Int32))]))
  refine Go.s (fun kz => XS.aloadN X0.here hx rfl (hb hby own_d5_2) rfl rfl kz) ?_
  show Go p.tables e below P (s₁.setTop (mkF m 3 #[.val (.ref a), .val (.ref b2), .unset, .unset, .unset] [(.ref a), (.int (16 : Int32))]))
  obtain ⟨T2, X2, e2, st2⟩ := getF X0 hx hZ hown (host := "") (Or.inl (hw _ (List.mem_of_getElem? (i := 27) rfl))) Via.refl e0 F_p (g := (mkF m 3 #[.val (.ref a), .val (.ref b2), .unset, .unset, .unset] [(.ref a), (.int (16 : Int32))])) rfl rfl (hb hby own_d5_3)
  refine Go.s (fun {t} => st2 t) ?_
  show Go p.tables e below P (T2.setTop (mkF m 6 #[.val (.ref a), .val (.ref b2), .unset, .unset, .unset] [(.ref b1), (.int (16 : Int32))]))
  obtain ⟨cl3, Ar3, Sz3, Ha3⟩ := id Gb_1
  refine Go.s (fun {t} kz => X2.arraylength hx (by rw [e2]; exact Ar3.1) (State.isArrayOf_alike hZ.alike Ar3.2.1) (g := (mkF m 6 #[.val (.ref a), .val (.ref b2), .unset, .unset, .unset] [(.ref b1), (.int (16 : Int32))])) rfl rfl (hb hby own_d5_6) _ kz) ?_
  rw [Sz3]
  show Go p.tables e below P (T2.setTop (mkF m 7 #[.val (.ref a), .val (.ref b2), .unset, .unset, .unset] [(.int (4 : Int32)), (.int (16 : Int32))]))
  refine Go.s (fun kz => XS.icmpNo X2.here hx rfl (hb hby own_d5_7) rfl (XT.ii_eq_f (by decide)) kz) ?_
  show Go p.tables e below P (T2.setTop (mkF m 10 #[.val (.ref a), .val (.ref b2), .unset, .unset, .unset] []))
  refine Go.s (fun kz => XS.iconst X2.here hx rfl (hb hby own_d5_10) kz) ?_
  show Go p.tables e below P (T2.setTop (mkF m 11 #[.val (.ref a), .val (.ref b2), .unset, .unset, .unset] [(.int (0 : Int32))]))
  exact Go.retZ X2 hx hlk hret (by decide) (hb hby own_d5_11) (fun U hU hF => hP U _ _ (by rw [hU, e2]; exact ⟨rfl, N0, rfl⟩) ⟨hF.1, hF.2.1, hF.2.2.mono (by decide) (by decide)⟩)
theorem own_ef5_eq (m : MethodId) (a : Addr) (b2 : Addr) : entryFrame m #[(.ref a), (.ref b2)] 5 = mkF m 0 #[.val (.ref a), .val (.ref b2), .unset, .unset, .unset] [] := by
  (first | (simp [entryFrame, mkF, argsToLocals, Value.category]; done) | rfl)
theorem own_d5_12 : decode prog_43_method_3_code 12 = .ok (.aload_n 0, 1) := by decide +kernel
theorem own_d5_13 : decode prog_43_method_3_code 13 = .ok (.getfield 13, 3) := by decide +kernel
theorem own_d5_16 : decode prog_43_method_3_code 16 = .ok (.bipush 8, 2) := by decide +kernel
theorem own_d5_18 : decode prog_43_method_3_code 18 = .ok (.idiv, 1) := by decide +kernel
theorem own_d5_19 : decode prog_43_method_3_code 19 = .ok (.istore_n 2, 1) := by decide +kernel
theorem own_d5_20 : decode prog_43_method_3_code 20 = .ok (.iconst 0, 1) := by decide +kernel
theorem own_d5_21 : decode prog_43_method_3_code 21 = .ok (.istore_n 3, 1) := by decide +kernel
theorem own_d5_22 : decode prog_43_method_3_code 22 = .ok (.iload_n 3, 1) := by decide +kernel
theorem own_d5_23 : decode prog_43_method_3_code 23 = .ok (.iload_n 2, 1) := by decide +kernel
theorem own_d5_24 : decode prog_43_method_3_code 24 = .ok (.if_icmp .ge 23, 3) := by decide +kernel
theorem own_d5_47 : decode prog_43_method_3_code 47 = .ok (.aload_n 0, 1) := by decide +kernel
theorem own_d5_48 : decode prog_43_method_3_code 48 = .ok (.getfield 13, 3) := by decide +kernel
theorem own_d5_51 : decode prog_43_method_3_code 51 = .ok (.bipush 8, 2) := by decide +kernel
theorem own_d5_53 : decode prog_43_method_3_code 53 = .ok (.irem, 1) := by decide +kernel
theorem own_d5_54 : decode prog_43_method_3_code 54 = .ok (.istore_n 3, 1) := by decide +kernel
theorem own_d5_55 : decode prog_43_method_3_code 55 = .ok (.sipush 255, 3) := by decide +kernel
theorem own_d5_58 : decode prog_43_method_3_code 58 = .ok (.bipush 8, 2) := by decide +kernel
theorem own_d5_60 : decode prog_43_method_3_code 60 = .ok (.iload_n 3, 1) := by decide +kernel
theorem own_d5_61 : decode prog_43_method_3_code 61 = .ok (.isub, 1) := by decide +kernel
theorem own_d5_62 : decode prog_43_method_3_code 62 = .ok (.ishl, 1) := by decide +kernel
theorem own_d5_63 : decode prog_43_method_3_code 63 = .ok (.sipush 255, 3) := by decide +kernel
theorem own_d5_66 : decode prog_43_method_3_code 66 = .ok (.iand, 1) := by decide +kernel
theorem own_d5_67 : decode prog_43_method_3_code 67 = .ok (.istore 4, 2) := by decide +kernel
theorem own_d5_69 : decode prog_43_method_3_code 69 = .ok (.iload_n 3, 1) := by decide +kernel
theorem own_d5_70 : decode prog_43_method_3_code 70 = .ok (.ifCond .eq 21, 3) := by decide +kernel
theorem own_d5_91 : decode prog_43_method_3_code 91 = .ok (.iconst 1, 1) := by decide +kernel
theorem own_d5_92 : decode prog_43_method_3_code 92 = .ok (.goto 4, 3) := by decide +kernel
theorem own_d5_96 : decode prog_43_method_3_code 96 = .ok (.ireturn, 1) := by decide +kernel
theorem own_d5_73 : decode prog_43_method_3_code 73 = .ok (.aload_n 1, 1) := by decide +kernel
theorem own_d5_74 : decode prog_43_method_3_code 74 = .ok (.iload_n 2, 1) := by decide +kernel
theorem own_d5_75 : decode prog_43_method_3_code 75 = .ok (.baload, 1) := by decide +kernel
theorem own_d5_76 : decode prog_43_method_3_code 76 = .ok (.iload 4, 2) := by decide +kernel
theorem own_d5_78 : decode prog_43_method_3_code 78 = .ok (.iand, 1) := by decide +kernel
theorem own_d5_79 : decode prog_43_method_3_code 79 = .ok (.aload_n 0, 1) := by decide +kernel
theorem own_d5_80 : decode prog_43_method_3_code 80 = .ok (.getfield 7, 3) := by decide +kernel
theorem own_d5_83 : decode prog_43_method_3_code 83 = .ok (.iload_n 2, 1) := by decide +kernel
theorem own_d5_84 : decode prog_43_method_3_code 84 = .ok (.baload, 1) := by decide +kernel
theorem own_d5_85 : decode prog_43_method_3_code 85 = .ok (.iload 4, 2) := by decide +kernel
theorem own_d5_87 : decode prog_43_method_3_code 87 = .ok (.iand, 1) := by decide +kernel
theorem own_d5_88 : decode prog_43_method_3_code 88 = .ok (.if_icmp .ne 7, 3) := by decide +kernel
theorem own_d5_95 : decode prog_43_method_3_code 95 = .ok (.iconst 0, 1) := by decide +kernel
theorem own_d5_27 : decode prog_43_method_3_code 27 = .ok (.aload_n 1, 1) := by decide +kernel
theorem own_d5_28 : decode prog_43_method_3_code 28 = .ok (.iload_n 3, 1) := by decide +kernel
theorem own_d5_29 : decode prog_43_method_3_code 29 = .ok (.baload, 1) := by decide +kernel
theorem own_d5_30 : decode prog_43_method_3_code 30 = .ok (.aload_n 0, 1) := by decide +kernel
theorem own_d5_31 : decode prog_43_method_3_code 31 = .ok (.getfield 7, 3) := by decide +kernel
theorem own_d5_34 : decode prog_43_method_3_code 34 = .ok (.iload_n 3, 1) := by decide +kernel
theorem own_d5_35 : decode prog_43_method_3_code 35 = .ok (.baload, 1) := by decide +kernel
theorem own_d5_36 : decode prog_43_method_3_code 36 = .ok (.if_icmp .eq 5, 3) := by decide +kernel
theorem own_d5_41 : decode prog_43_method_3_code 41 = .ok (.iinc 3 1, 3) := by decide +kernel
theorem own_d5_44 : decode prog_43_method_3_code 44 = .ok (.goto (-22), 3) := by decide +kernel
theorem own_d5_39 : decode prog_43_method_3_code 39 = .ok (.iconst 0, 1) := by decide +kernel
theorem own_d5_40 : decode prog_43_method_3_code 40 = .ok (.ireturn, 1) := by decide +kernel
set_option maxRecDepth 65536 in
set_option maxHeartbeats 40000000 in
theorem own_rm5_eq (l : Launch) (Z : State) (a0 : Array Value) (hw : ∀ d ∈ tables_1, d.before a0 Z = true) (ws : List Jvm.Cond) (a b1 b2 bn N : Nat) (g1 g2 : Nat → Int32) (h0 : Heap) (n0 : Nat) (Z0 : n0 ≤ h0.size) (F_p : Fld Z h0 a "com/example/heraldmesh/heraldmesh/feed/Targets$Block" "prefix" "[B" (.ref b1)) (F_b : Fld Z h0 a "com/example/heraldmesh/heraldmesh/feed/Targets$Block" "bits" "I" (.int (Int32.ofNat bn))) (Gb_1 : own_Byt Z h0 b1 N g1) (Gb_2 : own_Byt Z h0 b2 N g2) (hN : N ≤ 16) (hbN : bn ≤ 8 * N) (hbn : bn ≤ 128) :
    Con l Z (⟨"com/example/heraldmesh/heraldmesh/feed/Targets$Block", "holds", "([B)Z"⟩ : MethodName) prog_43_method_3_code 5 (some .boolean) ws ({ frames := 0, cells := 0, slots := 0, locals := 0 } : Room) #[(.ref a), (.ref b2)] h0 (fun v h L => ((v = some (.int 1) ∧ own_good g1 g2 bn) ∨ (v = some (.int 0) ∧ ¬ own_good g1 g2 bn)) ∧ Fr n0 L ∧ h = h0) := by
  refine Con.intro (plainFor_of_name own_pn_2) ?_
  intro p e s m below meth c s₁ P hx hby hml hown hnm hret hlk hZ X0 e0 hP
  have N0 := Fr.nil n0
  have hown : s.vm.findClass "com/example/heraldmesh/heraldmesh/feed/Targets$Block" = some m.cls := hown
  refine Go.cast (own_ef5_eq m a b2) ?_
  show Go p.tables e below P (s₁.setTop (mkF m 0 #[.val (.ref a), .val (.ref b2), .unset, .unset, .unset] []))
  refine Go.s (fun kz => XS.aloadN X0.here hx rfl (hb hby own_d5_0) rfl rfl kz) ?_
  show Go p.tables e below P (s₁.setTop (mkF m 1 #[.val (.ref a), .val (.ref b2), .unset, .unset, .unset] [(.ref b2)]))
  obtain ⟨cl1, Ar1, Sz1, Ha1⟩ := id Gb_2
  refine Go.s (fun {t} kz => X0.arraylength hx (by rw [e0]; exact Ar1.1) (State.isArrayOf_alike hZ.alike Ar1.2.1) (g := (mkF m 1 #[.val (.ref a), .val (.ref b2), .unset, .unset, .unset] [(.ref b2)])) rfl rfl (hb hby own_d5_1) _ kz) ?_
  rw [Sz1]
  show Go p.tables e below P (s₁.setTop (mkF m 2 #[.val (.ref a), .val (.ref b2), .unset, .unset, .unset] [(.int (Nat.toInt32 N))]))
  refine Go.s (fun kz => XS.aloadN X0.here hx rfl (hb hby own_d5_2) rfl rfl kz) ?_
  show Go p.tables e below P (s₁.setTop (mkF m 3 #[.val (.ref a), .val (.ref b2), .unset, .unset, .unset] [(.ref a), (.int (Nat.toInt32 N))]))
  obtain ⟨T2, X2, e2, st2⟩ := getF X0 hx hZ hown (host := "") (Or.inl (hw _ (List.mem_of_getElem? (i := 27) rfl))) Via.refl e0 F_p (g := (mkF m 3 #[.val (.ref a), .val (.ref b2), .unset, .unset, .unset] [(.ref a), (.int (Nat.toInt32 N))])) rfl rfl (hb hby own_d5_3)
  refine Go.s (fun {t} => st2 t) ?_
  show Go p.tables e below P (T2.setTop (mkF m 6 #[.val (.ref a), .val (.ref b2), .unset, .unset, .unset] [(.ref b1), (.int (Nat.toInt32 N))]))
  obtain ⟨cl3, Ar3, Sz3, Ha3⟩ := id Gb_1
  refine Go.s (fun {t} kz => X2.arraylength hx (by rw [e2]; exact Ar3.1) (State.isArrayOf_alike hZ.alike Ar3.2.1) (g := (mkF m 6 #[.val (.ref a), .val (.ref b2), .unset, .unset, .unset] [(.ref b1), (.int (Nat.toInt32 N))])) rfl rfl (hb hby own_d5_6) _ kz) ?_
  rw [Sz3]
  show Go p.tables e below P (T2.setTop (mkF m 7 #[.val (.ref a), .val (.ref b2), .unset, .unset, .unset] [(.int (Nat.toInt32 N)), (.int (Nat.toInt32 N))]))
  refine Go.s (fun kz => XS.icmpYes X2.here hx rfl (pc0 := 7) (pc' := 12) rfl (hb hby own_d5_7) rfl (XT.ii_eq_t rfl) (by decide) (by decide) kz) ?_
  show Go p.tables e below P (T2.setTop (mkF m 12 #[.val (.ref a), .val (.ref b2), .unset, .unset, .unset] []))
  refine Go.s (fun kz => XS.aloadN X2.here hx rfl (hb hby own_d5_12) rfl rfl kz) ?_
  show Go p.tables e below P (T2.setTop (mkF m 13 #[.val (.ref a), .val (.ref b2), .unset, .unset, .unset] [(.ref a)]))
  obtain ⟨T4, X4, e4, st4⟩ := getF X2 hx hZ hown (host := "") (Or.inl (hw _ (List.mem_of_getElem? (i := 29) rfl))) Via.refl e2 F_b (g := (mkF m 13 #[.val (.ref a), .val (.ref b2), .unset, .unset, .unset] [(.ref a)])) rfl rfl (hb hby own_d5_13)
  refine Go.s (fun {t} => st4 t) ?_
  show Go p.tables e below P (T4.setTop (mkF m 16 #[.val (.ref a), .val (.ref b2), .unset, .unset, .unset] [(.int (Int32.ofNat bn))]))
  refine Go.s (fun kz => XS.bipush X4.here hx rfl (hb hby own_d5_16) kz) ?_
  show Go p.tables e below P (T4.setTop (mkF m 18 #[.val (.ref a), .val (.ref b2), .unset, .unset, .unset] [(.int (8 : Int32)), (.int (Int32.ofNat bn))]))
  refine Go.s (fun kz => XS.idiv X4.here hx rfl (hb hby own_d5_18) rfl (by decide) kz) ?_
  show Go p.tables e below P (T4.setTop (mkF m 19 #[.val (.ref a), .val (.ref b2), .unset, .unset, .unset] [(.int ((Int32.ofNat bn) / (8 : Int32)))]))
  refine Go.s (fun kz => XS.istoreN X4.here hx rfl (hb hby own_d5_19) rfl (l' := #[.val (.ref a), .val (.ref b2), .val (.int ((Int32.ofNat bn) / (8 : Int32))), .unset, .unset]) rfl kz) ?_
  show Go p.tables e below P (T4.setTop (mkF m 20 #[.val (.ref a), .val (.ref b2), .val (.int ((Int32.ofNat bn) / (8 : Int32))), .unset, .unset] []))
  rw [own_div bn hbn]
  show Go p.tables e below P (T4.setTop (mkF m 20 #[.val (.ref a), .val (.ref b2), .val (.int (Int32.ofNat (bn / 8))), .unset, .unset] []))
  refine Go.s (fun kz => XS.iconst X4.here hx rfl (hb hby own_d5_20) kz) ?_
  show Go p.tables e below P (T4.setTop (mkF m 21 #[.val (.ref a), .val (.ref b2), .val (.int (Int32.ofNat (bn / 8))), .unset, .unset] [(.int (0 : Int32))]))
  refine Go.s (fun kz => XS.istoreN X4.here hx rfl (hb hby own_d5_21) rfl (l' := #[.val (.ref a), .val (.ref b2), .val (.int (Int32.ofNat (bn / 8))), .val (.int (0 : Int32)), .unset]) rfl kz) ?_
  show Go p.tables e below P (T4.setTop (mkF m 22 #[.val (.ref a), .val (.ref b2), .val (.int (Int32.ofNat (bn / 8))), .val (.int (0 : Int32)), .unset] []))
  have LOOP : ∀ (r i : Nat) (T : State), Stand p l e ({ frames := 0, cells := 0, slots := 0, locals := 0 } : Room) s m #[(.ref a), (.ref b2)] below meth c T [] 0 0 → T.heap = h0 → i + r = bn / 8 → (∀ j, j < i → g2 j = g1 j) → Go p.tables e below P (T.setTop (mkF m 22 #[.val (.ref a), .val (.ref b2), .val (.int (Int32.ofNat (bn / 8))), .val (.int (Int32.ofNat i)), .unset] [])) := by
    intro r
    induction r with
    | zero =>
      intro i T X eT hk hj
      have hi : i = bn / 8 := by omega
      subst hi
      show Go p.tables e below P (T.setTop (mkF m 22 #[.val (.ref a), .val (.ref b2), .val (.int (Int32.ofNat (bn / 8))), .val (.int (Int32.ofNat (bn / 8))), .unset] []))
      refine Go.s (fun kz => XS.iloadN X.here hx rfl (hb hby own_d5_22) rfl kz) ?_
      show Go p.tables e below P (T.setTop (mkF m 23 #[.val (.ref a), .val (.ref b2), .val (.int (Int32.ofNat (bn / 8))), .val (.int (Int32.ofNat (bn / 8))), .unset] [(.int (Int32.ofNat (bn / 8)))]))
      refine Go.s (fun kz => XS.iloadN X.here hx rfl (hb hby own_d5_23) rfl kz) ?_
      show Go p.tables e below P (T.setTop (mkF m 24 #[.val (.ref a), .val (.ref b2), .val (.int (Int32.ofNat (bn / 8))), .val (.int (Int32.ofNat (bn / 8))), .unset] [(.int (Int32.ofNat (bn / 8))), (.int (Int32.ofNat (bn / 8)))]))
      refine Go.s (fun kz => XS.icmpYes X.here hx rfl (pc0 := 24) (pc' := 47) rfl (hb hby own_d5_24) rfl (XT.ii_ge_t (own_irr _)) (by decide) (by decide) kz) ?_
      show Go p.tables e below P (T.setTop (mkF m 47 #[.val (.ref a), .val (.ref b2), .val (.int (Int32.ofNat (bn / 8))), .val (.int (Int32.ofNat (bn / 8))), .unset] []))
      refine Go.s (fun kz => XS.aloadN X.here hx rfl (hb hby own_d5_47) rfl rfl kz) ?_
      show Go p.tables e below P (T.setTop (mkF m 48 #[.val (.ref a), .val (.ref b2), .val (.int (Int32.ofNat (bn / 8))), .val (.int (Int32.ofNat (bn / 8))), .unset] [(.ref a)]))
      obtain ⟨T5, X5, e5, st5⟩ := getF X hx hZ hown (host := "") (Or.inl (hw _ (List.mem_of_getElem? (i := 29) rfl))) Via.refl eT F_b (g := (mkF m 48 #[.val (.ref a), .val (.ref b2), .val (.int (Int32.ofNat (bn / 8))), .val (.int (Int32.ofNat (bn / 8))), .unset] [(.ref a)])) rfl rfl (hb hby own_d5_48)
      refine Go.s (fun {t} => st5 t) ?_
      show Go p.tables e below P (T5.setTop (mkF m 51 #[.val (.ref a), .val (.ref b2), .val (.int (Int32.ofNat (bn / 8))), .val (.int (Int32.ofNat (bn / 8))), .unset] [(.int (Int32.ofNat bn))]))
      refine Go.s (fun kz => XS.bipush X5.here hx rfl (hb hby own_d5_51) kz) ?_
      show Go p.tables e below P (T5.setTop (mkF m 53 #[.val (.ref a), .val (.ref b2), .val (.int (Int32.ofNat (bn / 8))), .val (.int (Int32.ofNat (bn / 8))), .unset] [(.int (8 : Int32)), (.int (Int32.ofNat bn))]))
      refine Go.s (fun kz => iremM X5 hx rfl (hb hby own_d5_53) rfl (by decide) kz) ?_
      show Go p.tables e below P (T5.setTop (mkF m 54 #[.val (.ref a), .val (.ref b2), .val (.int (Int32.ofNat (bn / 8))), .val (.int (Int32.ofNat (bn / 8))), .unset] [(.int ((Int32.ofNat bn) % (8 : Int32)))]))
      refine Go.s (fun kz => XS.istoreN X5.here hx rfl (hb hby own_d5_54) rfl (l' := #[.val (.ref a), .val (.ref b2), .val (.int (Int32.ofNat (bn / 8))), .val (.int ((Int32.ofNat bn) % (8 : Int32))), .unset]) rfl kz) ?_
      show Go p.tables e below P (T5.setTop (mkF m 55 #[.val (.ref a), .val (.ref b2), .val (.int (Int32.ofNat (bn / 8))), .val (.int ((Int32.ofNat bn) % (8 : Int32))), .unset] []))
      rw [own_rem bn hbn]
      show Go p.tables e below P (T5.setTop (mkF m 55 #[.val (.ref a), .val (.ref b2), .val (.int (Int32.ofNat (bn / 8))), .val (.int (Int32.ofNat (bn % 8))), .unset] []))
      refine Go.s (fun kz => XS.sipush X5.here hx rfl (hb hby own_d5_55) kz) ?_
      show Go p.tables e below P (T5.setTop (mkF m 58 #[.val (.ref a), .val (.ref b2), .val (.int (Int32.ofNat (bn / 8))), .val (.int (Int32.ofNat (bn % 8))), .unset] [(.int (255 : Int32))]))
      refine Go.s (fun kz => XS.bipush X5.here hx rfl (hb hby own_d5_58) kz) ?_
      show Go p.tables e below P (T5.setTop (mkF m 60 #[.val (.ref a), .val (.ref b2), .val (.int (Int32.ofNat (bn / 8))), .val (.int (Int32.ofNat (bn % 8))), .unset] [(.int (8 : Int32)), (.int (255 : Int32))]))
      refine Go.s (fun kz => XS.iloadN X5.here hx rfl (hb hby own_d5_60) rfl kz) ?_
      show Go p.tables e below P (T5.setTop (mkF m 61 #[.val (.ref a), .val (.ref b2), .val (.int (Int32.ofNat (bn / 8))), .val (.int (Int32.ofNat (bn % 8))), .unset] [(.int (Int32.ofNat (bn % 8))), (.int (8 : Int32)), (.int (255 : Int32))]))
      refine Go.s (fun kz => XS.isub X5.here hx rfl (hb hby own_d5_61) rfl kz) ?_
      show Go p.tables e below P (T5.setTop (mkF m 62 #[.val (.ref a), .val (.ref b2), .val (.int (Int32.ofNat (bn / 8))), .val (.int (Int32.ofNat (bn % 8))), .unset] [(.int ((8 : Int32) - (Int32.ofNat (bn % 8)))), (.int (255 : Int32))]))
      refine Go.s (fun kz => XT.ishl X5.here hx rfl (hb hby own_d5_62) rfl kz) ?_
      show Go p.tables e below P (T5.setTop (mkF m 63 #[.val (.ref a), .val (.ref b2), .val (.int (Int32.ofNat (bn / 8))), .val (.int (Int32.ofNat (bn % 8))), .unset] [(.int ((255 : Int32) <<< (((8 : Int32) - (Int32.ofNat (bn % 8))) &&& 31)))]))
      refine Go.s (fun kz => XS.sipush X5.here hx rfl (hb hby own_d5_63) kz) ?_
      show Go p.tables e below P (T5.setTop (mkF m 66 #[.val (.ref a), .val (.ref b2), .val (.int (Int32.ofNat (bn / 8))), .val (.int (Int32.ofNat (bn % 8))), .unset] [(.int (255 : Int32)), (.int ((255 : Int32) <<< (((8 : Int32) - (Int32.ofNat (bn % 8))) &&& 31)))]))
      refine Go.s (fun kz => XS.iand X5.here hx rfl (hb hby own_d5_66) rfl kz) ?_
      show Go p.tables e below P (T5.setTop (mkF m 67 #[.val (.ref a), .val (.ref b2), .val (.int (Int32.ofNat (bn / 8))), .val (.int (Int32.ofNat (bn % 8))), .unset] [(.int (((255 : Int32) <<< (((8 : Int32) - (Int32.ofNat (bn % 8))) &&& 31)) &&& (255 : Int32)))]))
      refine Go.s (fun kz => XS.istore X5.here hx rfl (hb hby own_d5_67) rfl (l' := #[.val (.ref a), .val (.ref b2), .val (.int (Int32.ofNat (bn / 8))), .val (.int (Int32.ofNat (bn % 8))), .val (.int (((255 : Int32) <<< (((8 : Int32) - (Int32.ofNat (bn % 8))) &&& 31)) &&& (255 : Int32)))]) rfl kz) ?_
      show Go p.tables e below P (T5.setTop (mkF m 69 #[.val (.ref a), .val (.ref b2), .val (.int (Int32.ofNat (bn / 8))), .val (.int (Int32.ofNat (bn % 8))), .val (.int (((255 : Int32) <<< (((8 : Int32) - (Int32.ofNat (bn % 8))) &&& 31)) &&& (255 : Int32)))] []))
      refine Go.s (fun kz => XS.iloadN X5.here hx rfl (hb hby own_d5_69) rfl kz) ?_
      show Go p.tables e below P (T5.setTop (mkF m 70 #[.val (.ref a), .val (.ref b2), .val (.int (Int32.ofNat (bn / 8))), .val (.int (Int32.ofNat (bn % 8))), .val (.int (((255 : Int32) <<< (((8 : Int32) - (Int32.ofNat (bn % 8))) &&& 31)) &&& (255 : Int32)))] [(.int (Int32.ofNat (bn % 8)))]))
      by_cases hc70 : (Int32.ofNat (bn % 8)) = 0
      · skip
        refine Go.s (fun kz => XS.ifYes X5.here hx rfl (pc0 := 70) (pc' := 91) rfl (hb hby own_d5_70) rfl (XT.i0_eq_t hc70) (by decide) (by decide) kz) ?_
        show Go p.tables e below P (T5.setTop (mkF m 91 #[.val (.ref a), .val (.ref b2), .val (.int (Int32.ofNat (bn / 8))), .val (.int (Int32.ofNat (bn % 8))), .val (.int (((255 : Int32) <<< (((8 : Int32) - (Int32.ofNat (bn % 8))) &&& 31)) &&& (255 : Int32)))] []))
        refine Go.s (fun kz => XS.iconst X5.here hx rfl (hb hby own_d5_91) kz) ?_
        show Go p.tables e below P (T5.setTop (mkF m 92 #[.val (.ref a), .val (.ref b2), .val (.int (Int32.ofNat (bn / 8))), .val (.int (Int32.ofNat (bn % 8))), .val (.int (((255 : Int32) <<< (((8 : Int32) - (Int32.ofNat (bn % 8))) &&& 31)) &&& (255 : Int32)))] [(.int (1 : Int32))]))
        refine Go.s (fun kz => XS.goto X5.here hx rfl (pc0 := 92) (pc' := 96) rfl (hb hby own_d5_92) (by decide) (by decide) kz) ?_
        show Go p.tables e below P (T5.setTop (mkF m 96 #[.val (.ref a), .val (.ref b2), .val (.int (Int32.ofNat (bn / 8))), .val (.int (Int32.ofNat (bn % 8))), .val (.int (((255 : Int32) <<< (((8 : Int32) - (Int32.ofNat (bn % 8))) &&& 31)) &&& (255 : Int32)))] [(.int (1 : Int32))]))
        exact Go.retZ X5 hx hlk hret (by decide) (hb hby own_d5_96) (fun U hU hF => hP U _ _ (by rw [hU, e5]; exact ⟨Or.inl ⟨rfl, hj, fun z => absurd (own_z8 bn hc70) z⟩, N0, rfl⟩) ⟨hF.1, hF.2.1, hF.2.2.mono (by decide) (by decide)⟩)
      · skip
        refine Go.s (fun kz => XS.ifNo X5.here hx rfl (hb hby own_d5_70) rfl (XT.i0_eq_f hc70) kz) ?_
        show Go p.tables e below P (T5.setTop (mkF m 73 #[.val (.ref a), .val (.ref b2), .val (.int (Int32.ofNat (bn / 8))), .val (.int (Int32.ofNat (bn % 8))), .val (.int (((255 : Int32) <<< (((8 : Int32) - (Int32.ofNat (bn % 8))) &&& 31)) &&& (255 : Int32)))] []))
        have hr0 : bn % 8 ≠ 0 := fun q => hc70 (by rw [q]; rfl)
        refine Go.s (fun kz => XS.aloadN X5.here hx rfl (hb hby own_d5_73) rfl rfl kz) ?_
        show Go p.tables e below P (T5.setTop (mkF m 74 #[.val (.ref a), .val (.ref b2), .val (.int (Int32.ofNat (bn / 8))), .val (.int (Int32.ofNat (bn % 8))), .val (.int (((255 : Int32) <<< (((8 : Int32) - (Int32.ofNat (bn % 8))) &&& 31)) &&& (255 : Int32)))] [(.ref b2)]))
        refine Go.s (fun kz => XS.iloadN X5.here hx rfl (hb hby own_d5_74) rfl kz) ?_
        show Go p.tables e below P (T5.setTop (mkF m 75 #[.val (.ref a), .val (.ref b2), .val (.int (Int32.ofNat (bn / 8))), .val (.int (Int32.ofNat (bn % 8))), .val (.int (((255 : Int32) <<< (((8 : Int32) - (Int32.ofNat (bn % 8))) &&& 31)) &&& (255 : Int32)))] [(.int (Int32.ofNat (bn / 8))), (.ref b2)]))
        obtain ⟨cl6, Ar6, Sz6, Ha6⟩ := id Gb_2
        have hin6 := own_in Sz6 hN (show bn / 8 < N by omega)
        have hat6 := own_at hN Ha6 (show bn / 8 < N by omega)
        refine Go.s (fun {t} kz => X5.baloadBytes hx (j := (Int32.ofNat (bn / 8))) (v := (.int (g2 (bn / 8)))) (by rw [e5]; exact Ar6.1) (State.isArrayOf_alike hZ.alike Ar6.2.1) Ar6.2.2 hin6 hat6 (g := (mkF m 75 #[.val (.ref a), .val (.ref b2), .val (.int (Int32.ofNat (bn / 8))), .val (.int (Int32.ofNat (bn % 8))), .val (.int (((255 : Int32) <<< (((8 : Int32) - (Int32.ofNat (bn % 8))) &&& 31)) &&& (255 : Int32)))] [(.int (Int32.ofNat (bn / 8))), (.ref b2)])) rfl rfl (hb hby own_d5_75) _ kz) ?_
        show Go p.tables e below P (T5.setTop (mkF m 76 #[.val (.ref a), .val (.ref b2), .val (.int (Int32.ofNat (bn / 8))), .val (.int (Int32.ofNat (bn % 8))), .val (.int (((255 : Int32) <<< (((8 : Int32) - (Int32.ofNat (bn % 8))) &&& 31)) &&& (255 : Int32)))] [(.int (g2 (bn / 8)))]))
        refine Go.s (fun kz => XS.iload X5.here hx rfl (hb hby own_d5_76) rfl kz) ?_
        show Go p.tables e below P (T5.setTop (mkF m 78 #[.val (.ref a), .val (.ref b2), .val (.int (Int32.ofNat (bn / 8))), .val (.int (Int32.ofNat (bn % 8))), .val (.int (((255 : Int32) <<< (((8 : Int32) - (Int32.ofNat (bn % 8))) &&& 31)) &&& (255 : Int32)))] [(.int (((255 : Int32) <<< (((8 : Int32) - (Int32.ofNat (bn % 8))) &&& 31)) &&& (255 : Int32))), (.int (g2 (bn / 8)))]))
        refine Go.s (fun kz => XS.iand X5.here hx rfl (hb hby own_d5_78) rfl kz) ?_
        show Go p.tables e below P (T5.setTop (mkF m 79 #[.val (.ref a), .val (.ref b2), .val (.int (Int32.ofNat (bn / 8))), .val (.int (Int32.ofNat (bn % 8))), .val (.int (((255 : Int32) <<< (((8 : Int32) - (Int32.ofNat (bn % 8))) &&& 31)) &&& (255 : Int32)))] [(.int ((g2 (bn / 8)) &&& (((255 : Int32) <<< (((8 : Int32) - (Int32.ofNat (bn % 8))) &&& 31)) &&& (255 : Int32))))]))
        refine Go.s (fun kz => XS.aloadN X5.here hx rfl (hb hby own_d5_79) rfl rfl kz) ?_
        show Go p.tables e below P (T5.setTop (mkF m 80 #[.val (.ref a), .val (.ref b2), .val (.int (Int32.ofNat (bn / 8))), .val (.int (Int32.ofNat (bn % 8))), .val (.int (((255 : Int32) <<< (((8 : Int32) - (Int32.ofNat (bn % 8))) &&& 31)) &&& (255 : Int32)))] [(.ref a), (.int ((g2 (bn / 8)) &&& (((255 : Int32) <<< (((8 : Int32) - (Int32.ofNat (bn % 8))) &&& 31)) &&& (255 : Int32))))]))
        obtain ⟨T7, X7, e7, st7⟩ := getF X5 hx hZ hown (host := "") (Or.inl (hw _ (List.mem_of_getElem? (i := 27) rfl))) Via.refl e5 F_p (g := (mkF m 80 #[.val (.ref a), .val (.ref b2), .val (.int (Int32.ofNat (bn / 8))), .val (.int (Int32.ofNat (bn % 8))), .val (.int (((255 : Int32) <<< (((8 : Int32) - (Int32.ofNat (bn % 8))) &&& 31)) &&& (255 : Int32)))] [(.ref a), (.int ((g2 (bn / 8)) &&& (((255 : Int32) <<< (((8 : Int32) - (Int32.ofNat (bn % 8))) &&& 31)) &&& (255 : Int32))))])) rfl rfl (hb hby own_d5_80)
        refine Go.s (fun {t} => st7 t) ?_
        show Go p.tables e below P (T7.setTop (mkF m 83 #[.val (.ref a), .val (.ref b2), .val (.int (Int32.ofNat (bn / 8))), .val (.int (Int32.ofNat (bn % 8))), .val (.int (((255 : Int32) <<< (((8 : Int32) - (Int32.ofNat (bn % 8))) &&& 31)) &&& (255 : Int32)))] [(.ref b1), (.int ((g2 (bn / 8)) &&& (((255 : Int32) <<< (((8 : Int32) - (Int32.ofNat (bn % 8))) &&& 31)) &&& (255 : Int32))))]))
        refine Go.s (fun kz => XS.iloadN X7.here hx rfl (hb hby own_d5_83) rfl kz) ?_
        show Go p.tables e below P (T7.setTop (mkF m 84 #[.val (.ref a), .val (.ref b2), .val (.int (Int32.ofNat (bn / 8))), .val (.int (Int32.ofNat (bn % 8))), .val (.int (((255 : Int32) <<< (((8 : Int32) - (Int32.ofNat (bn % 8))) &&& 31)) &&& (255 : Int32)))] [(.int (Int32.ofNat (bn / 8))), (.ref b1), (.int ((g2 (bn / 8)) &&& (((255 : Int32) <<< (((8 : Int32) - (Int32.ofNat (bn % 8))) &&& 31)) &&& (255 : Int32))))]))
        obtain ⟨cl8, Ar8, Sz8, Ha8⟩ := id Gb_1
        have hin8 := own_in Sz8 hN (show bn / 8 < N by omega)
        have hat8 := own_at hN Ha8 (show bn / 8 < N by omega)
        refine Go.s (fun {t} kz => X7.baloadBytes hx (j := (Int32.ofNat (bn / 8))) (v := (.int (g1 (bn / 8)))) (by rw [e7]; exact Ar8.1) (State.isArrayOf_alike hZ.alike Ar8.2.1) Ar8.2.2 hin8 hat8 (g := (mkF m 84 #[.val (.ref a), .val (.ref b2), .val (.int (Int32.ofNat (bn / 8))), .val (.int (Int32.ofNat (bn % 8))), .val (.int (((255 : Int32) <<< (((8 : Int32) - (Int32.ofNat (bn % 8))) &&& 31)) &&& (255 : Int32)))] [(.int (Int32.ofNat (bn / 8))), (.ref b1), (.int ((g2 (bn / 8)) &&& (((255 : Int32) <<< (((8 : Int32) - (Int32.ofNat (bn % 8))) &&& 31)) &&& (255 : Int32))))])) rfl rfl (hb hby own_d5_84) _ kz) ?_
        show Go p.tables e below P (T7.setTop (mkF m 85 #[.val (.ref a), .val (.ref b2), .val (.int (Int32.ofNat (bn / 8))), .val (.int (Int32.ofNat (bn % 8))), .val (.int (((255 : Int32) <<< (((8 : Int32) - (Int32.ofNat (bn % 8))) &&& 31)) &&& (255 : Int32)))] [(.int (g1 (bn / 8))), (.int ((g2 (bn / 8)) &&& (((255 : Int32) <<< (((8 : Int32) - (Int32.ofNat (bn % 8))) &&& 31)) &&& (255 : Int32))))]))
        refine Go.s (fun kz => XS.iload X7.here hx rfl (hb hby own_d5_85) rfl kz) ?_
        show Go p.tables e below P (T7.setTop (mkF m 87 #[.val (.ref a), .val (.ref b2), .val (.int (Int32.ofNat (bn / 8))), .val (.int (Int32.ofNat (bn % 8))), .val (.int (((255 : Int32) <<< (((8 : Int32) - (Int32.ofNat (bn % 8))) &&& 31)) &&& (255 : Int32)))] [(.int (((255 : Int32) <<< (((8 : Int32) - (Int32.ofNat (bn % 8))) &&& 31)) &&& (255 : Int32))), (.int (g1 (bn / 8))), (.int ((g2 (bn / 8)) &&& (((255 : Int32) <<< (((8 : Int32) - (Int32.ofNat (bn % 8))) &&& 31)) &&& (255 : Int32))))]))
        refine Go.s (fun kz => XS.iand X7.here hx rfl (hb hby own_d5_87) rfl kz) ?_
        show Go p.tables e below P (T7.setTop (mkF m 88 #[.val (.ref a), .val (.ref b2), .val (.int (Int32.ofNat (bn / 8))), .val (.int (Int32.ofNat (bn % 8))), .val (.int (((255 : Int32) <<< (((8 : Int32) - (Int32.ofNat (bn % 8))) &&& 31)) &&& (255 : Int32)))] [(.int ((g1 (bn / 8)) &&& (((255 : Int32) <<< (((8 : Int32) - (Int32.ofNat (bn % 8))) &&& 31)) &&& (255 : Int32)))), (.int ((g2 (bn / 8)) &&& (((255 : Int32) <<< (((8 : Int32) - (Int32.ofNat (bn % 8))) &&& 31)) &&& (255 : Int32))))]))
        by_cases hc88 : ((g2 (bn / 8)) &&& (((255 : Int32) <<< (((8 : Int32) - (Int32.ofNat (bn % 8))) &&& 31)) &&& (255 : Int32))) = ((g1 (bn / 8)) &&& (((255 : Int32) <<< (((8 : Int32) - (Int32.ofNat (bn % 8))) &&& 31)) &&& (255 : Int32)))
        · skip
          refine Go.s (fun kz => XS.icmpNo X7.here hx rfl (hb hby own_d5_88) rfl (XT.ii_ne_f hc88) kz) ?_
          show Go p.tables e below P (T7.setTop (mkF m 91 #[.val (.ref a), .val (.ref b2), .val (.int (Int32.ofNat (bn / 8))), .val (.int (Int32.ofNat (bn % 8))), .val (.int (((255 : Int32) <<< (((8 : Int32) - (Int32.ofNat (bn % 8))) &&& 31)) &&& (255 : Int32)))] []))
          refine Go.s (fun kz => XS.iconst X7.here hx rfl (hb hby own_d5_91) kz) ?_
          show Go p.tables e below P (T7.setTop (mkF m 92 #[.val (.ref a), .val (.ref b2), .val (.int (Int32.ofNat (bn / 8))), .val (.int (Int32.ofNat (bn % 8))), .val (.int (((255 : Int32) <<< (((8 : Int32) - (Int32.ofNat (bn % 8))) &&& 31)) &&& (255 : Int32)))] [(.int (1 : Int32))]))
          refine Go.s (fun kz => XS.goto X7.here hx rfl (pc0 := 92) (pc' := 96) rfl (hb hby own_d5_92) (by decide) (by decide) kz) ?_
          show Go p.tables e below P (T7.setTop (mkF m 96 #[.val (.ref a), .val (.ref b2), .val (.int (Int32.ofNat (bn / 8))), .val (.int (Int32.ofNat (bn % 8))), .val (.int (((255 : Int32) <<< (((8 : Int32) - (Int32.ofNat (bn % 8))) &&& 31)) &&& (255 : Int32)))] [(.int (1 : Int32))]))
          exact Go.retZ X7 hx hlk hret (by decide) (hb hby own_d5_96) (fun U hU hF => hP U _ _ (by rw [hU, e7]; exact ⟨Or.inl ⟨rfl, hj, fun _ => hc88⟩, N0, rfl⟩) ⟨hF.1, hF.2.1, hF.2.2.mono (by decide) (by decide)⟩)
        · skip
          refine Go.s (fun kz => XS.icmpYes X7.here hx rfl (pc0 := 88) (pc' := 95) rfl (hb hby own_d5_88) rfl (XT.ii_ne_t hc88) (by decide) (by decide) kz) ?_
          show Go p.tables e below P (T7.setTop (mkF m 95 #[.val (.ref a), .val (.ref b2), .val (.int (Int32.ofNat (bn / 8))), .val (.int (Int32.ofNat (bn % 8))), .val (.int (((255 : Int32) <<< (((8 : Int32) - (Int32.ofNat (bn % 8))) &&& 31)) &&& (255 : Int32)))] []))
          refine Go.s (fun kz => XS.iconst X7.here hx rfl (hb hby own_d5_95) kz) ?_
          show Go p.tables e below P (T7.setTop (mkF m 96 #[.val (.ref a), .val (.ref b2), .val (.int (Int32.ofNat (bn / 8))), .val (.int (Int32.ofNat (bn % 8))), .val (.int (((255 : Int32) <<< (((8 : Int32) - (Int32.ofNat (bn % 8))) &&& 31)) &&& (255 : Int32)))] [(.int (0 : Int32))]))
          exact Go.retZ X7 hx hlk hret (by decide) (hb hby own_d5_96) (fun U hU hF => hP U _ _ (by rw [hU, e7]; exact ⟨Or.inr ⟨rfl, fun z => hc88 (z.2 hr0)⟩, N0, rfl⟩) ⟨hF.1, hF.2.1, hF.2.2.mono (by decide) (by decide)⟩)
    | succ r ih =>
      intro i T X eT hk hj
      show Go p.tables e below P (T.setTop (mkF m 22 #[.val (.ref a), .val (.ref b2), .val (.int (Int32.ofNat (bn / 8))), .val (.int (Int32.ofNat i)), .unset] []))
      refine Go.s (fun kz => XS.iloadN X.here hx rfl (hb hby own_d5_22) rfl kz) ?_
      show Go p.tables e below P (T.setTop (mkF m 23 #[.val (.ref a), .val (.ref b2), .val (.int (Int32.ofNat (bn / 8))), .val (.int (Int32.ofNat i)), .unset] [(.int (Int32.ofNat i))]))
      refine Go.s (fun kz => XS.iloadN X.here hx rfl (hb hby own_d5_23) rfl kz) ?_
      show Go p.tables e below P (T.setTop (mkF m 24 #[.val (.ref a), .val (.ref b2), .val (.int (Int32.ofNat (bn / 8))), .val (.int (Int32.ofNat i)), .unset] [(.int (Int32.ofNat (bn / 8))), (.int (Int32.ofNat i))]))
      refine Go.s (fun kz => XS.icmpNo X.here hx rfl (hb hby own_d5_24) rfl (XT.ii_ge_f (own_ilt i (bn / 8) (by omega) (by omega))) kz) ?_
      show Go p.tables e below P (T.setTop (mkF m 27 #[.val (.ref a), .val (.ref b2), .val (.int (Int32.ofNat (bn / 8))), .val (.int (Int32.ofNat i)), .unset] []))
      refine Go.s (fun kz => XS.aloadN X.here hx rfl (hb hby own_d5_27) rfl rfl kz) ?_
      show Go p.tables e below P (T.setTop (mkF m 28 #[.val (.ref a), .val (.ref b2), .val (.int (Int32.ofNat (bn / 8))), .val (.int (Int32.ofNat i)), .unset] [(.ref b2)]))
      refine Go.s (fun kz => XS.iloadN X.here hx rfl (hb hby own_d5_28) rfl kz) ?_
      show Go p.tables e below P (T.setTop (mkF m 29 #[.val (.ref a), .val (.ref b2), .val (.int (Int32.ofNat (bn / 8))), .val (.int (Int32.ofNat i)), .unset] [(.int (Int32.ofNat i)), (.ref b2)]))
      obtain ⟨cl9, Ar9, Sz9, Ha9⟩ := id Gb_2
      have hin9 := own_in Sz9 hN (show i < N by omega)
      have hat9 := own_at hN Ha9 (show i < N by omega)
      refine Go.s (fun {t} kz => X.baloadBytes hx (j := (Int32.ofNat i)) (v := (.int (g2 i))) (by rw [eT]; exact Ar9.1) (State.isArrayOf_alike hZ.alike Ar9.2.1) Ar9.2.2 hin9 hat9 (g := (mkF m 29 #[.val (.ref a), .val (.ref b2), .val (.int (Int32.ofNat (bn / 8))), .val (.int (Int32.ofNat i)), .unset] [(.int (Int32.ofNat i)), (.ref b2)])) rfl rfl (hb hby own_d5_29) _ kz) ?_
      show Go p.tables e below P (T.setTop (mkF m 30 #[.val (.ref a), .val (.ref b2), .val (.int (Int32.ofNat (bn / 8))), .val (.int (Int32.ofNat i)), .unset] [(.int (g2 i))]))
      refine Go.s (fun kz => XS.aloadN X.here hx rfl (hb hby own_d5_30) rfl rfl kz) ?_
      show Go p.tables e below P (T.setTop (mkF m 31 #[.val (.ref a), .val (.ref b2), .val (.int (Int32.ofNat (bn / 8))), .val (.int (Int32.ofNat i)), .unset] [(.ref a), (.int (g2 i))]))
      obtain ⟨T10, X10, e10, st10⟩ := getF X hx hZ hown (host := "") (Or.inl (hw _ (List.mem_of_getElem? (i := 27) rfl))) Via.refl eT F_p (g := (mkF m 31 #[.val (.ref a), .val (.ref b2), .val (.int (Int32.ofNat (bn / 8))), .val (.int (Int32.ofNat i)), .unset] [(.ref a), (.int (g2 i))])) rfl rfl (hb hby own_d5_31)
      refine Go.s (fun {t} => st10 t) ?_
      show Go p.tables e below P (T10.setTop (mkF m 34 #[.val (.ref a), .val (.ref b2), .val (.int (Int32.ofNat (bn / 8))), .val (.int (Int32.ofNat i)), .unset] [(.ref b1), (.int (g2 i))]))
      refine Go.s (fun kz => XS.iloadN X10.here hx rfl (hb hby own_d5_34) rfl kz) ?_
      show Go p.tables e below P (T10.setTop (mkF m 35 #[.val (.ref a), .val (.ref b2), .val (.int (Int32.ofNat (bn / 8))), .val (.int (Int32.ofNat i)), .unset] [(.int (Int32.ofNat i)), (.ref b1), (.int (g2 i))]))
      obtain ⟨cl11, Ar11, Sz11, Ha11⟩ := id Gb_1
      have hin11 := own_in Sz11 hN (show i < N by omega)
      have hat11 := own_at hN Ha11 (show i < N by omega)
      refine Go.s (fun {t} kz => X10.baloadBytes hx (j := (Int32.ofNat i)) (v := (.int (g1 i))) (by rw [e10]; exact Ar11.1) (State.isArrayOf_alike hZ.alike Ar11.2.1) Ar11.2.2 hin11 hat11 (g := (mkF m 35 #[.val (.ref a), .val (.ref b2), .val (.int (Int32.ofNat (bn / 8))), .val (.int (Int32.ofNat i)), .unset] [(.int (Int32.ofNat i)), (.ref b1), (.int (g2 i))])) rfl rfl (hb hby own_d5_35) _ kz) ?_
      show Go p.tables e below P (T10.setTop (mkF m 36 #[.val (.ref a), .val (.ref b2), .val (.int (Int32.ofNat (bn / 8))), .val (.int (Int32.ofNat i)), .unset] [(.int (g1 i)), (.int (g2 i))]))
      by_cases hc36 : (g2 i) = (g1 i)
      · skip
        refine Go.s (fun kz => XS.icmpYes X10.here hx rfl (pc0 := 36) (pc' := 41) rfl (hb hby own_d5_36) rfl (XT.ii_eq_t hc36) (by decide) (by decide) kz) ?_
        show Go p.tables e below P (T10.setTop (mkF m 41 #[.val (.ref a), .val (.ref b2), .val (.int (Int32.ofNat (bn / 8))), .val (.int (Int32.ofNat i)), .unset] []))
        refine Go.s (fun kz => XS.iinc X10.here hx rfl (hb hby own_d5_41) rfl (l' := #[.val (.ref a), .val (.ref b2), .val (.int (Int32.ofNat (bn / 8))), .val (.int ((Int32.ofNat i) + (1 : Int32))), .unset]) rfl kz) ?_
        show Go p.tables e below P (T10.setTop (mkF m 44 #[.val (.ref a), .val (.ref b2), .val (.int (Int32.ofNat (bn / 8))), .val (.int ((Int32.ofNat i) + (1 : Int32))), .unset] []))
        refine Go.s (fun kz => XS.goto X10.here hx rfl (pc0 := 44) (pc' := 22) rfl (hb hby own_d5_44) (by decide) (by decide) kz) ?_
        show Go p.tables e below P (T10.setTop (mkF m 22 #[.val (.ref a), .val (.ref b2), .val (.int (Int32.ofNat (bn / 8))), .val (.int ((Int32.ofNat i) + (1 : Int32))), .unset] []))
        have ek : Int32.ofNat i + 1 = Int32.ofNat (i + 1) := ofNat_add_one32 i
        rw [ek]
        exact ih (i + 1) T10 X10 e10 (by omega) (fun j hj' => by
          rcases Nat.lt_succ_iff_lt_or_eq.mp hj' with q | rfl
          · exact hj j q
          · exact hc36)
      · skip
        refine Go.s (fun kz => XS.icmpNo X10.here hx rfl (hb hby own_d5_36) rfl (XT.ii_eq_f hc36) kz) ?_
        show Go p.tables e below P (T10.setTop (mkF m 39 #[.val (.ref a), .val (.ref b2), .val (.int (Int32.ofNat (bn / 8))), .val (.int (Int32.ofNat i)), .unset] []))
        refine Go.s (fun kz => XS.iconst X10.here hx rfl (hb hby own_d5_39) kz) ?_
        show Go p.tables e below P (T10.setTop (mkF m 40 #[.val (.ref a), .val (.ref b2), .val (.int (Int32.ofNat (bn / 8))), .val (.int (Int32.ofNat i)), .unset] [(.int (0 : Int32))]))
        exact Go.retZ X10 hx hlk hret (by decide) (hb hby own_d5_40) (fun U hU hF => hP U _ _ (by rw [hU, e10]; exact ⟨Or.inr ⟨rfl, fun z => hc36 (z.1 i (by omega))⟩, N0, rfl⟩) ⟨hF.1, hF.2.1, hF.2.2.mono (by decide) (by decide)⟩)
  have q0 := LOOP (bn / 8) 0 T4 X4 e4 (by omega) (fun j q => absurd q (Nat.not_lt_zero j))
  exact q0
theorem own_b129 (p : Int32) : ∃ bn : Nat, (p &&& 2147483647) % 129 = Int32.ofNat bn ∧ bn ≤ 128 := by
  have e := Jvm.Kit.i32_mask p 2147483647 (k := 31) (by decide) (by decide)
  have c1 : (129 : Int32).toInt = 129 := rfl
  have r : ((p &&& 2147483647) % 129).toInt = (p &&& 2147483647).toInt % 129 := by rw [Jvm.Kit.i32_rem_nonneg (by omega), c1]
  refine ⟨((p &&& 2147483647) % 129).toInt.toNat, Int32.toInt_inj.mp ?_, by omega⟩
  rw [Int32.toInt_ofNat_of_lt (by omega)]; omega
theorem own_b33 (p : Int32) : ∃ bn : Nat, (p &&& 2147483647) % 33 = Int32.ofNat bn ∧ bn ≤ 32 := by
  have e := Jvm.Kit.i32_mask p 2147483647 (k := 31) (by decide) (by decide)
  have c1 : (33 : Int32).toInt = 33 := rfl
  have r : ((p &&& 2147483647) % 33).toInt = (p &&& 2147483647).toInt % 33 := by rw [Jvm.Kit.i32_rem_nonneg (by omega), c1]
  refine ⟨((p &&& 2147483647) % 33).toInt.toNat, Int32.toInt_inj.mp ?_, by omega⟩
  rw [Int32.toInt_ofNat_of_lt (by omega)]; omega
theorem own_min (bn : Nat) (h : bn ≤ 128) : own_f6 (Int32.ofNat bn) 64 = Int32.ofNat (min bn 64) := by
  have : ∀ k : Fin 129, own_f6 (Int32.ofNat k.val) 64 = Int32.ofNat (min k.val 64) := by decide +kernel
  exact this ⟨bn, by omega⟩
theorem own_low (bn : Nat) (h : bn ≤ 128) : Int32.ofNat bn - Int32.ofNat (min bn 64) = Int32.ofNat (bn - min bn 64) := by
  have : ∀ k : Fin 129, Int32.ofNat k.val - Int32.ofNat (min k.val 64) = Int32.ofNat (k.val - min k.val 64) := by decide +kernel
  exact this ⟨bn, by omega⟩
theorem own_one (d : Int64) (k : Nat) (hk : k ≤ 64) (h : ¬ own_f7 d (Int32.ofNat k) = 0) : own_f7 d (Int32.ofNat k) = 1 := by
  rcases own_top d k hk with q | q
  · exact q.2
  · exact absurd q.2 h
theorem own_zero (d : Int64) (k : Nat) (hk : k ≤ 64) (h : ¬ own_f7 d (Int32.ofNat k) = 1) : own_f7 d (Int32.ofNat k) = 0 := by
  rcases own_top d k hk with q | q
  · exact absurd q.2 h
  · exact q.2
theorem own_n0 (x : Int32) (h : x = 1) : ¬ x = 0 := by rw [h]; decide
theorem own_ef0 (m : MethodId) (q0 : Int64) (q1 : Int64) (q2 : Int64) (q3 : Int64) (p8 : Int32) (p9 : Int32) : entryFrame m #[(.long q0), (.long q1), (.long q2), (.long q3), (.int p8), (.int p9)] maxLocals = mkF m 0 #[.val (.long q0), .second, .val (.long q1), .second, .val (.long q2), .second, .val (.long q3), .second, .val (.int p8), .val (.int p9), .unset, .unset, .unset, .unset, .unset, .unset, .unset, .unset, .unset, .unset, .unset, .unset, .unset, .unset] [] := by
  (first | (simp [entryFrame, mkF, argsToLocals, Value.category, maxLocals]; done) | rfl)
theorem own_pd_1 : parseMethodDescriptor "(JJZ)[B" = some ⟨[.long, .long, .boolean], some (.array .byte)⟩ := by decide +kernel
theorem own_pd_2 : parseMethodDescriptor "([BILjava/lang/String;)V" = some ⟨[(.array .byte), .int, (.object "java/lang/String")], none⟩ := by decide +kernel
theorem own_pd_3 : parseMethodDescriptor "([B)Z" = some ⟨[(.array .byte)], some .boolean⟩ := by decide +kernel
theorem own_pd_4 : parseMethodDescriptor "(II)I" = some ⟨[.int, .int], some .int⟩ := by decide +kernel
theorem own_pd_5 : parseMethodDescriptor "(JI)Z" = some ⟨[.long, .int], some .boolean⟩ := by decide +kernel
set_option maxRecDepth 65536 in
set_option maxHeartbeats 40000000 in
theorem own_rm0 (l : Launch) (Z : State) (a0 : Array Value) (hw : ∀ d ∈ tables_1, d.before a0 Z = true) (ws : List Jvm.Cond) (q0 : Int64) (q1 : Int64) (q2 : Int64) (q3 : Int64) (p8 : Int32) (p9 : Int32) (h0 : Heap) (n0 : Nat) (Z0 : n0 ≤ h0.size)  :
    ConW l Z x code maxLocals ret ws room_1 #[(.long q0), (.long q1), (.long q2), (.long q3), (.int p8), (.int p9)] h0 (fun v h L => v = some (.int 1) ∧ Fr n0 L) := by
  refine ConW.intro (plainFor_of_name own_pn_0) ?_
  intro p e s m below meth c s₁ P hx hby hml hown hnm hret hlk hZ X0 e0 hS hP
  have N0 := Fr.nil n0
  have hk := Nat.zero_le h0.size
  have hml : c.maxLocals = 24 := hml
  have hown : (s.setVm s.vm).vm.findClass "com/example/heraldmesh/heraldmesh/feed/BlockHoldsPinLaw" = some m.cls := hown
  have hret : meth.sig.returnType = some .boolean := hret
  refine Go.cast (own_ef0 m q0 q1 q2 q3 p8 p9) ?_
  show Go p.tables e below P (s₁.setTop (mkF m 0 #[.val (.long q0), .second, .val (.long q1), .second, .val (.long q2), .second, .val (.long q3), .second, .val (.int p8), .val (.int p9), .unset, .unset, .unset, .unset, .unset, .unset, .unset, .unset, .unset, .unset, .unset, .unset, .unset, .unset] []))
  refine Go.s (fun kz => XS.iload X0.here hx rfl (hb hby at_0) rfl kz) ?_
  refine Go.s (fun kz => XS.iconst X0.here hx rfl (hb hby at_2) kz) ?_
  refine Go.s (fun kz => XS.iand X0.here hx rfl (hb hby at_3) rfl kz) ?_
  show Go p.tables e below P (s₁.setTop (mkF m 4 #[.val (.long q0), .second, .val (.long q1), .second, .val (.long q2), .second, .val (.long q3), .second, .val (.int p8), .val (.int p9), .unset, .unset, .unset, .unset, .unset, .unset, .unset, .unset, .unset, .unset, .unset, .unset, .unset, .unset] [(.int (p9 &&& (1 : Int32)))]))
  by_cases hc4 : (p9 &&& (1 : Int32)) = 0
  · skip
    refine Go.s (fun kz => XS.ifNo X0.here hx rfl (hb hby at_4) rfl (XT.i0_ne_f hc4) kz) ?_
    show Go p.tables e below P (s₁.setTop (mkF m 7 #[.val (.long q0), .second, .val (.long q1), .second, .val (.long q2), .second, .val (.long q3), .second, .val (.int p8), .val (.int p9), .unset, .unset, .unset, .unset, .unset, .unset, .unset, .unset, .unset, .unset, .unset, .unset, .unset, .unset] []))
    refine Go.s (fun kz => XS.iconst X0.here hx rfl (hb hby at_7) kz) ?_
    refine Go.s (fun kz => XS.goto X0.here hx rfl (pc0 := 8) (pc' := 12) rfl (hb hby at_8) (by decide) (by decide) kz) ?_
    show Go p.tables e below P (s₁.setTop (mkF m 12 #[.val (.long q0), .second, .val (.long q1), .second, .val (.long q2), .second, .val (.long q3), .second, .val (.int p8), .val (.int p9), .unset, .unset, .unset, .unset, .unset, .unset, .unset, .unset, .unset, .unset, .unset, .unset, .unset, .unset] [(.int (1 : Int32))]))
    refine Go.s (fun kz => XS.istore X0.here hx rfl (hb hby at_12) rfl (l' := #[.val (.long q0), .second, .val (.long q1), .second, .val (.long q2), .second, .val (.long q3), .second, .val (.int p8), .val (.int p9), .val (.int (1 : Int32)), .unset, .unset, .unset, .unset, .unset, .unset, .unset, .unset, .unset, .unset, .unset, .unset, .unset]) rfl kz) ?_
    refine Go.s (fun kz => XS.iload X0.here hx rfl (hb hby at_14) rfl kz) ?_
    refine Go.s (fun kz => XS.iconst X0.here hx rfl (hb hby at_16) kz) ?_
    refine Go.s (fun kz => XS.iand X0.here hx rfl (hb hby at_17) rfl kz) ?_
    show Go p.tables e below P (s₁.setTop (mkF m 18 #[.val (.long q0), .second, .val (.long q1), .second, .val (.long q2), .second, .val (.long q3), .second, .val (.int p8), .val (.int p9), .val (.int (1 : Int32)), .unset, .unset, .unset, .unset, .unset, .unset, .unset, .unset, .unset, .unset, .unset, .unset, .unset] [(.int (p9 &&& (2 : Int32)))]))
    by_cases hc18 : (p9 &&& (2 : Int32)) = 0
    · skip
      refine Go.s (fun kz => XS.ifYes X0.here hx rfl (pc0 := 18) (pc' := 25) rfl (hb hby at_18) rfl (XT.i0_eq_t hc18) (by decide) (by decide) kz) ?_
      show Go p.tables e below P (s₁.setTop (mkF m 25 #[.val (.long q0), .second, .val (.long q1), .second, .val (.long q2), .second, .val (.long q3), .second, .val (.int p8), .val (.int p9), .val (.int (1 : Int32)), .unset, .unset, .unset, .unset, .unset, .unset, .unset, .unset, .unset, .unset, .unset, .unset, .unset] []))
      refine Go.s (fun kz => XS.iconst X0.here hx rfl (hb hby at_25) kz) ?_
      refine Go.s (fun kz => XS.istore X0.here hx rfl (hb hby at_26) rfl (l' := #[.val (.long q0), .second, .val (.long q1), .second, .val (.long q2), .second, .val (.long q3), .second, .val (.int p8), .val (.int p9), .val (.int (1 : Int32)), .val (.int (0 : Int32)), .unset, .unset, .unset, .unset, .unset, .unset, .unset, .unset, .unset, .unset, .unset, .unset]) rfl kz) ?_
      refine Go.s (fun kz => XS.iload X0.here hx rfl (hb hby at_28) rfl kz) ?_
      show Go p.tables e below P (s₁.setTop (mkF m 30 #[.val (.long q0), .second, .val (.long q1), .second, .val (.long q2), .second, .val (.long q3), .second, .val (.int p8), .val (.int p9), .val (.int (1 : Int32)), .val (.int (0 : Int32)), .unset, .unset, .unset, .unset, .unset, .unset, .unset, .unset, .unset, .unset, .unset, .unset] [(.int (1 : Int32))]))
      refine Go.s (fun kz => XS.ifNo X0.here hx rfl (hb hby at_30) rfl (XT.i0_eq_f (by decide)) kz) ?_
      show Go p.tables e below P (s₁.setTop (mkF m 33 #[.val (.long q0), .second, .val (.long q1), .second, .val (.long q2), .second, .val (.long q3), .second, .val (.int p8), .val (.int p9), .val (.int (1 : Int32)), .val (.int (0 : Int32)), .unset, .unset, .unset, .unset, .unset, .unset, .unset, .unset, .unset, .unset, .unset, .unset] []))
      refine Go.s (fun kz => XS.iload X0.here hx rfl (hb hby at_33) rfl kz) ?_
      refine Go.s (fun kz => X0.ldcI hx hown (mvT hZ (hw _ (List.mem_of_getElem? (i := 0) rfl))) rfl (hb hby at_35) kz) ?_
      refine Go.s (fun kz => XS.iand X0.here hx rfl (hb hby at_37) rfl kz) ?_
      refine Go.s (fun kz => XS.sipush X0.here hx rfl (hb hby at_38) kz) ?_
      show Go p.tables e below P (s₁.setTop (mkF m 41 #[.val (.long q0), .second, .val (.long q1), .second, .val (.long q2), .second, .val (.long q3), .second, .val (.int p8), .val (.int p9), .val (.int (1 : Int32)), .val (.int (0 : Int32)), .unset, .unset, .unset, .unset, .unset, .unset, .unset, .unset, .unset, .unset, .unset, .unset] [(.int (129 : Int32)), (.int (p8 &&& (2147483647 : Int32)))]))
      refine Go.s (fun kz => iremM X0 hx rfl (hb hby at_41) rfl (by decide) kz) ?_
      refine Go.s (fun kz => XS.goto X0.here hx rfl (pc0 := 42) (pc' := 53) rfl (hb hby at_42) (by decide) (by decide) kz) ?_
      show Go p.tables e below P (s₁.setTop (mkF m 53 #[.val (.long q0), .second, .val (.long q1), .second, .val (.long q2), .second, .val (.long q3), .second, .val (.int p8), .val (.int p9), .val (.int (1 : Int32)), .val (.int (0 : Int32)), .unset, .unset, .unset, .unset, .unset, .unset, .unset, .unset, .unset, .unset, .unset, .unset] [(.int ((p8 &&& (2147483647 : Int32)) % (129 : Int32)))]))
      refine Go.s (fun kz => XS.istore X0.here hx rfl (hb hby at_53) rfl (l' := #[.val (.long q0), .second, .val (.long q1), .second, .val (.long q2), .second, .val (.long q3), .second, .val (.int p8), .val (.int p9), .val (.int (1 : Int32)), .val (.int (0 : Int32)), .val (.int ((p8 &&& (2147483647 : Int32)) % (129 : Int32))), .unset, .unset, .unset, .unset, .unset, .unset, .unset, .unset, .unset, .unset, .unset]) rfl kz) ?_
      show Go p.tables e below P (s₁.setTop (mkF m 55 #[.val (.long q0), .second, .val (.long q1), .second, .val (.long q2), .second, .val (.long q3), .second, .val (.int p8), .val (.int p9), .val (.int (1 : Int32)), .val (.int (0 : Int32)), .val (.int ((p8 &&& (2147483647 : Int32)) % (129 : Int32))), .unset, .unset, .unset, .unset, .unset, .unset, .unset, .unset, .unset, .unset, .unset] []))
      obtain ⟨bn, ebn, hbn⟩ := own_b129 p8
      rw [ebn]
      show Go p.tables e below P (s₁.setTop (mkF m 55 #[.val (.long q0), .second, .val (.long q1), .second, .val (.long q2), .second, .val (.long q3), .second, .val (.int p8), .val (.int p9), .val (.int (1 : Int32)), .val (.int (0 : Int32)), .val (.int (Int32.ofNat bn)), .unset, .unset, .unset, .unset, .unset, .unset, .unset, .unset, .unset, .unset, .unset] []))
      refine Go.s (fun kz => XT.lloadN X0.here hx rfl (hb hby at_55) rfl kz) ?_
      refine Go.s (fun kz => XT.lload X0.here hx rfl (hb hby at_56) rfl kz) ?_
      refine Go.s (fun kz => XS.iload X0.here hx rfl (hb hby at_58) rfl kz) ?_
      refine Go.s (fun kz => XS.iconst X0.here hx rfl (hb hby at_60) kz) ?_
      refine Go.s (fun kz => XT.iushr X0.here hx rfl (hb hby at_61) rfl kz) ?_
      refine Go.s (fun kz => XS.bipush X0.here hx rfl (hb hby at_62) kz) ?_
      show Go p.tables e below P (s₁.setTop (mkF m 64 #[.val (.long q0), .second, .val (.long q1), .second, .val (.long q2), .second, .val (.long q3), .second, .val (.int p8), .val (.int p9), .val (.int (1 : Int32)), .val (.int (0 : Int32)), .val (.int (Int32.ofNat bn)), .unset, .unset, .unset, .unset, .unset, .unset, .unset, .unset, .unset, .unset, .unset] [(.int (63 : Int32)), (.int (XT.ushr p9 (2 : Int32))), (.long q2), (.long q0)]))
      refine Go.s (fun kz => XS.iand X0.here hx rfl (hb hby at_64) rfl kz) ?_
      refine Go.s (fun kz => XT.lushr X0.here hx rfl (hb hby at_65) rfl kz) ?_
      refine Go.s (fun kz => XT.lxor X0.here hx rfl (hb hby at_66) rfl kz) ?_
      refine Go.s (fun kz => XT.lstore X0.here hx rfl (hb hby at_67) rfl (l' := #[.val (.long q0), .second, .val (.long q1), .second, .val (.long q2), .second, .val (.long q3), .second, .val (.int p8), .val (.int p9), .val (.int (1 : Int32)), .val (.int (0 : Int32)), .val (.int (Int32.ofNat bn)), .val (.long (q0 ^^^ (XT.ushrL q2 ((XT.ushr p9 (2 : Int32)) &&& (63 : Int32))))), .second, .unset, .unset, .unset, .unset, .unset, .unset, .unset, .unset, .unset]) rfl kz) ?_
      show Go p.tables e below P (s₁.setTop (mkF m 69 #[.val (.long q0), .second, .val (.long q1), .second, .val (.long q2), .second, .val (.long q3), .second, .val (.int p8), .val (.int p9), .val (.int (1 : Int32)), .val (.int (0 : Int32)), .val (.int (Int32.ofNat bn)), .val (.long (q0 ^^^ (XT.ushrL q2 ((XT.ushr p9 (2 : Int32)) &&& (63 : Int32))))), .second, .unset, .unset, .unset, .unset, .unset, .unset, .unset, .unset, .unset] []))
      refine (?_ : ∀ x0 : Int64, x0 = (q0 ^^^ (XT.ushrL q2 ((XT.ushr p9 (2 : Int32)) &&& (63 : Int32)))) → Go p.tables e below P (s₁.setTop (mkF m 69 #[.val (.long q0), .second, .val (.long q1), .second, .val (.long q2), .second, .val (.long q3), .second, .val (.int p8), .val (.int p9), .val (.int (1 : Int32)), .val (.int (0 : Int32)), .val (.int (Int32.ofNat bn)), .val (.long x0), .second, .unset, .unset, .unset, .unset, .unset, .unset, .unset, .unset, .unset] []))) _ rfl
      intro x0 hx0
      refine Go.s (fun kz => XT.lloadN X0.here hx rfl (hb hby at_69) rfl kz) ?_
      refine Go.s (fun kz => XT.lload X0.here hx rfl (hb hby at_70) rfl kz) ?_
      refine Go.s (fun kz => XS.iload X0.here hx rfl (hb hby at_72) rfl kz) ?_
      refine Go.s (fun kz => XS.bipush X0.here hx rfl (hb hby at_74) kz) ?_
      refine Go.s (fun kz => XT.iushr X0.here hx rfl (hb hby at_76) rfl kz) ?_
      refine Go.s (fun kz => XS.bipush X0.here hx rfl (hb hby at_77) kz) ?_
      show Go p.tables e below P (s₁.setTop (mkF m 79 #[.val (.long q0), .second, .val (.long q1), .second, .val (.long q2), .second, .val (.long q3), .second, .val (.int p8), .val (.int p9), .val (.int (1 : Int32)), .val (.int (0 : Int32)), .val (.int (Int32.ofNat bn)), .val (.long x0), .second, .unset, .unset, .unset, .unset, .unset, .unset, .unset, .unset, .unset] [(.int (63 : Int32)), (.int (XT.ushr p9 (8 : Int32))), (.long q3), (.long q1)]))
      refine Go.s (fun kz => XS.iand X0.here hx rfl (hb hby at_79) rfl kz) ?_
      refine Go.s (fun kz => XT.lushr X0.here hx rfl (hb hby at_80) rfl kz) ?_
      refine Go.s (fun kz => XT.lxor X0.here hx rfl (hb hby at_81) rfl kz) ?_
      refine Go.s (fun kz => XT.lstore X0.here hx rfl (hb hby at_82) rfl (l' := #[.val (.long q0), .second, .val (.long q1), .second, .val (.long q2), .second, .val (.long q3), .second, .val (.int p8), .val (.int p9), .val (.int (1 : Int32)), .val (.int (0 : Int32)), .val (.int (Int32.ofNat bn)), .val (.long x0), .second, .val (.long (q1 ^^^ (XT.ushrL q3 ((XT.ushr p9 (8 : Int32)) &&& (63 : Int32))))), .second, .unset, .unset, .unset, .unset, .unset, .unset, .unset]) rfl kz) ?_
      show Go p.tables e below P (s₁.setTop (mkF m 84 #[.val (.long q0), .second, .val (.long q1), .second, .val (.long q2), .second, .val (.long q3), .second, .val (.int p8), .val (.int p9), .val (.int (1 : Int32)), .val (.int (0 : Int32)), .val (.int (Int32.ofNat bn)), .val (.long x0), .second, .val (.long (q1 ^^^ (XT.ushrL q3 ((XT.ushr p9 (8 : Int32)) &&& (63 : Int32))))), .second, .unset, .unset, .unset, .unset, .unset, .unset, .unset] []))
      refine (?_ : ∀ x1 : Int64, x1 = (q1 ^^^ (XT.ushrL q3 ((XT.ushr p9 (8 : Int32)) &&& (63 : Int32)))) → Go p.tables e below P (s₁.setTop (mkF m 84 #[.val (.long q0), .second, .val (.long q1), .second, .val (.long q2), .second, .val (.long q3), .second, .val (.int p8), .val (.int p9), .val (.int (1 : Int32)), .val (.int (0 : Int32)), .val (.int (Int32.ofNat bn)), .val (.long x0), .second, .val (.long x1), .second, .unset, .unset, .unset, .unset, .unset, .unset, .unset] []))) _ rfl
      intro x1 hx1
      refine Go.s (fun kz => XT.lloadN X0.here hx rfl (hb hby at_84) rfl kz) ?_
      refine Go.s (fun kz => XT.lloadN X0.here hx rfl (hb hby at_85) rfl kz) ?_
      refine Go.s (fun kz => XS.iload X0.here hx rfl (hb hby at_86) rfl kz) ?_
      show Go p.tables e below P (s₁.setTop (mkF m 88 #[.val (.long q0), .second, .val (.long q1), .second, .val (.long q2), .second, .val (.long q3), .second, .val (.int p8), .val (.int p9), .val (.int (1 : Int32)), .val (.int (0 : Int32)), .val (.int (Int32.ofNat bn)), .val (.long x0), .second, .val (.long x1), .second, .unset, .unset, .unset, .unset, .unset, .unset, .unset] [(.int (1 : Int32)), (.long q1), (.long q0)]))
      obtain ⟨v1, T1, L1, X1, Q1, st1⟩ := Con.static (own_rm1_1 l Z a0 hw [] q0 q1 h0 n0 Z0) X0 hx hZ (W := 0) hown (hw _ (List.mem_of_getElem? (i := 1) rfl)) (hw _ (List.mem_of_getElem? (i := 2) rfl)) (hw _ (List.mem_of_getElem? (i := 3) rfl)) (hw _ (List.mem_of_getElem? (i := 4) rfl)) (by decide) (by decide) (by decide) (by decide) (by decide) e0 (g := (mkF m 88 #[.val (.long q0), .second, .val (.long q1), .second, .val (.long q2), .second, .val (.long q3), .second, .val (.int p8), .val (.int p9), .val (.int (1 : Int32)), .val (.int (0 : Int32)), .val (.int (Int32.ofNat bn)), .val (.long x0), .second, .val (.long x1), .second, .unset, .unset, .unset, .unset, .unset, .unset, .unset] [(.int (1 : Int32)), (.long q1), (.long q0)])) rfl (by rw [hml]; rfl) (argsL := [(.long q0), (.long q1), (.int (1 : Int32))]) (rest := []) rfl (lenOf own_pd_1 rfl) rfl (by show 2 * 0 + _ ≤ _; exact Nat.le_of_eq rfl) (hb hby at_88)
      obtain ⟨H1, e1⟩ : ∃ z, T1.heap = z := ⟨_, rfl⟩
      rw [e1] at Q1
      obtain ⟨b1, rfl, Nq1, sz1, Kq1, Gb1⟩ := Q1
      have N1 := Fr.app N0 Nq1
      have G_b1 : n0 ≤ b1 := Nat.le_trans Z0 sz1
      have Zs1 := Nat.le_trans Z0 Kq1.1
      have hk := Nat.le_trans hk Kq1.1
      refine Go.s (fun {t} => st1) ?_
      refine Go.s (fun kz => XS.astore X1.here hx rfl (hb hby at_91) rfl rfl (l' := #[.val (.long q0), .second, .val (.long q1), .second, .val (.long q2), .second, .val (.long q3), .second, .val (.int p8), .val (.int p9), .val (.int (1 : Int32)), .val (.int (0 : Int32)), .val (.int (Int32.ofNat bn)), .val (.long x0), .second, .val (.long x1), .second, .val (.ref b1), .unset, .unset, .unset, .unset, .unset, .unset]) rfl kz) ?_
      refine Go.s (fun kz => XT.lload X1.here hx rfl (hb hby at_93) rfl kz) ?_
      refine Go.s (fun kz => XT.lload X1.here hx rfl (hb hby at_95) rfl kz) ?_
      refine Go.s (fun kz => XS.iload X1.here hx rfl (hb hby at_97) rfl kz) ?_
      show Go p.tables e below P (T1.setTop (mkF m 99 #[.val (.long q0), .second, .val (.long q1), .second, .val (.long q2), .second, .val (.long q3), .second, .val (.int p8), .val (.int p9), .val (.int (1 : Int32)), .val (.int (0 : Int32)), .val (.int (Int32.ofNat bn)), .val (.long x0), .second, .val (.long x1), .second, .val (.ref b1), .unset, .unset, .unset, .unset, .unset, .unset] [(.int (0 : Int32)), (.long x1), (.long x0)]))
      refine Go.s (fun kz => XS.ifYes X1.here hx rfl (pc0 := 99) (pc' := 115) rfl (hb hby at_99) rfl (XT.i0_eq_t (by decide)) (by decide) (by decide) kz) ?_
      show Go p.tables e below P (T1.setTop (mkF m 115 #[.val (.long q0), .second, .val (.long q1), .second, .val (.long q2), .second, .val (.long q3), .second, .val (.int p8), .val (.int p9), .val (.int (1 : Int32)), .val (.int (0 : Int32)), .val (.int (Int32.ofNat bn)), .val (.long x0), .second, .val (.long x1), .second, .val (.ref b1), .unset, .unset, .unset, .unset, .unset, .unset] [(.long x1), (.long x0)]))
      refine Go.s (fun kz => XS.iload X1.here hx rfl (hb hby at_115) rfl kz) ?_
      show Go p.tables e below P (T1.setTop (mkF m 117 #[.val (.long q0), .second, .val (.long q1), .second, .val (.long q2), .second, .val (.long q3), .second, .val (.int p8), .val (.int p9), .val (.int (1 : Int32)), .val (.int (0 : Int32)), .val (.int (Int32.ofNat bn)), .val (.long x0), .second, .val (.long x1), .second, .val (.ref b1), .unset, .unset, .unset, .unset, .unset, .unset] [(.int (1 : Int32)), (.long x1), (.long x0)]))
      obtain ⟨v2, T2, L2, X2, Q2, st2⟩ := Con.static (own_rm1_1 l Z a0 hw [] x0 x1 H1 n0 Zs1) X1 hx hZ (W := 0) hown (hw _ (List.mem_of_getElem? (i := 1) rfl)) (hw _ (List.mem_of_getElem? (i := 2) rfl)) (hw _ (List.mem_of_getElem? (i := 3) rfl)) (hw _ (List.mem_of_getElem? (i := 4) rfl)) (by decide) (by decide) (by decide) (by decide) (by decide) e1 (g := (mkF m 117 #[.val (.long q0), .second, .val (.long q1), .second, .val (.long q2), .second, .val (.long q3), .second, .val (.int p8), .val (.int p9), .val (.int (1 : Int32)), .val (.int (0 : Int32)), .val (.int (Int32.ofNat bn)), .val (.long x0), .second, .val (.long x1), .second, .val (.ref b1), .unset, .unset, .unset, .unset, .unset, .unset] [(.int (1 : Int32)), (.long x1), (.long x0)])) rfl (by rw [hml]; rfl) (argsL := [(.long x0), (.long x1), (.int (1 : Int32))]) (rest := []) rfl (lenOf own_pd_1 rfl) rfl (by show 2 * 0 + _ ≤ _; exact Nat.le_of_eq rfl) (hb hby at_117)
      obtain ⟨H2, e2⟩ : ∃ z, T2.heap = z := ⟨_, rfl⟩
      rw [e2] at Q2
      obtain ⟨b2, rfl, Nq2, sz2, Kq2, Gb2⟩ := Q2
      have N2 := Fr.app N1 Nq2
      have ne_b1_b2 : b1 ≠ b2 := Nat.ne_of_lt (Nat.lt_of_lt_of_le Gb1.lt sz2)
      have G_b2 : n0 ≤ b2 := Nat.le_trans Zs1 sz2
      have Zs2 := Nat.le_trans Zs1 Kq2.1
      have hk := Nat.le_trans hk Kq2.1
      have Gb1_3 := own_Byt.keep Gb1 Kq2 nin0
      refine Go.s (fun {t} => st2) ?_
      refine Go.s (fun kz => XS.astore X2.here hx rfl (hb hby at_120) rfl rfl (l' := #[.val (.long q0), .second, .val (.long q1), .second, .val (.long q2), .second, .val (.long q3), .second, .val (.int p8), .val (.int p9), .val (.int (1 : Int32)), .val (.int (0 : Int32)), .val (.int (Int32.ofNat bn)), .val (.long x0), .second, .val (.long x1), .second, .val (.ref b1), .val (.ref b2), .unset, .unset, .unset, .unset, .unset]) rfl kz) ?_
      show Go p.tables e below P (T2.setTop (mkF m 122 #[.val (.long q0), .second, .val (.long q1), .second, .val (.long q2), .second, .val (.long q3), .second, .val (.int p8), .val (.int p9), .val (.int (1 : Int32)), .val (.int (0 : Int32)), .val (.int (Int32.ofNat bn)), .val (.long x0), .second, .val (.long x1), .second, .val (.ref b1), .val (.ref b2), .unset, .unset, .unset, .unset, .unset] []))
      obtain ⟨T4, H4, X4, e4, E4, A4, D4, U4, st4⟩ := newO X2 hx hZ hown (hw _ (List.mem_of_getElem? (i := 6) rfl)) (hw _ (List.mem_of_getElem? (i := 7) rfl)) (hw _ (List.mem_of_getElem? (i := 8) rfl)) e2 (g := (mkF m 122 #[.val (.long q0), .second, .val (.long q1), .second, .val (.long q2), .second, .val (.long q3), .second, .val (.int p8), .val (.int p9), .val (.int (1 : Int32)), .val (.int (0 : Int32)), .val (.int (Int32.ofNat bn)), .val (.long x0), .second, .val (.long x1), .second, .val (.ref b1), .val (.ref b2), .unset, .unset, .unset, .unset, .unset] [])) rfl (hb hby at_122) (by decide) (by decide)
      refine Go.s (fun {t} => st4 t) ?_
      obtain ⟨b4, g4⟩ : ∃ z, z = H2.size := ⟨_, rfl⟩
      rw [← g4] at A4 D4 U4
      rw [← g4]
      have ne_b1_b4 : b1 ≠ b4 := Nat.ne_of_lt (Nat.lt_of_lt_of_le Gb1_3.lt (Nat.le_of_eq g4.symm))
      have ne_b2_b4 : b2 ≠ b4 := Nat.ne_of_lt (Nat.lt_of_lt_of_le Gb2.lt (Nat.le_of_eq g4.symm))
      have Gb1_5 := own_Byt.ext Gb1_3 E4
      have Gb2_6 := own_Byt.ext Gb2 E4
      have G_b4 : n0 ≤ b4 := Nat.le_trans Zs2 (Nat.le_of_eq g4.symm)
      have Zs4 := Nat.le_trans Zs2 E4.1
      have hk := Nat.le_trans hk E4.1
      have Kn4 := Kn.of_new U4
      refine Go.s (fun kz => XS.dup X4.here hx rfl (hb hby at_125) rfl rfl kz) ?_
      refine Go.s (fun kz => XS.aload X4.here hx rfl (hb hby at_126) rfl rfl kz) ?_
      refine Go.s (fun kz => XS.iload X4.here hx rfl (hb hby at_128) rfl kz) ?_
      obtain ⟨b7, T7, H7, ks7, X7, e7, E7, hS, hk, hZ, hown, st7⟩ := ldcS X4 hx hZ hown (hw _ (List.mem_of_getElem? (i := 9) rfl)) (own_wS hw) e4 hS hk (g := (mkF m 130 #[.val (.long q0), .second, .val (.long q1), .second, .val (.long q2), .second, .val (.long q3), .second, .val (.int p8), .val (.int p9), .val (.int (1 : Int32)), .val (.int (0 : Int32)), .val (.int (Int32.ofNat bn)), .val (.long x0), .second, .val (.long x1), .second, .val (.ref b1), .val (.ref b2), .unset, .unset, .unset, .unset, .unset] [(.int (Int32.ofNat bn)), (.ref b1), (.ref b4), (.ref b4)])) rfl (hb hby at_130) (n := 4) (by decide) (by decide) (by decide) (by decide)
      refine Go.s (fun {t} => st7 t) ?_
      have Gb1_8 := own_Byt.ext Gb1_5 E7
      have Gb2_9 := own_Byt.ext Gb2_6 E7
      have A4_10 := Exa.ext E7 A4
      have Kn4_11 := Kn.ext Kn4 E7
      have Zs7 := Nat.le_trans Zs4 E7.1
      show Go p.tables e below P (T7.setTop (mkF m 132 #[.val (.long q0), .second, .val (.long q1), .second, .val (.long q2), .second, .val (.long q3), .second, .val (.int p8), .val (.int p9), .val (.int (1 : Int32)), .val (.int (0 : Int32)), .val (.int (Int32.ofNat bn)), .val (.long x0), .second, .val (.long x1), .second, .val (.ref b1), .val (.ref b2), .unset, .unset, .unset, .unset, .unset] [(.ref b7), (.int (Int32.ofNat bn)), (.ref b1), (.ref b4), (.ref b4)]))
      obtain ⟨v12, T12, L12, X12, Q12, st12⟩ := Con.special (own_rm2 l Z a0 hw [] b4 (.ref b1) (Int32.ofNat bn) (.ref b7) H7 n0 Zs7 A4_10 Kn4_11 G_b4 rfl rfl ) rfl X7 hx hZ (W := 1) hown (hw _ (List.mem_of_getElem? (i := 16) rfl)) (hw _ (List.mem_of_getElem? (i := 17) rfl)) (hw _ (List.mem_of_getElem? (i := 8) rfl)) (hw _ (List.mem_of_getElem? (i := 18) rfl)) (by decide) (by decide) (by decide) (by decide) (by decide) e7 (g := (mkF m 132 #[.val (.long q0), .second, .val (.long q1), .second, .val (.long q2), .second, .val (.long q3), .second, .val (.int p8), .val (.int p9), .val (.int (1 : Int32)), .val (.int (0 : Int32)), .val (.int (Int32.ofNat bn)), .val (.long x0), .second, .val (.long x1), .second, .val (.ref b1), .val (.ref b2), .unset, .unset, .unset, .unset, .unset] [(.ref b7), (.int (Int32.ofNat bn)), (.ref b1), (.ref b4), (.ref b4)])) rfl (by rw [hml]; rfl) (argsL := [(.ref b1), (.int (Int32.ofNat bn)), (.ref b7)]) (rest := [(.ref b4)]) rfl (lenOf own_pd_2 rfl) rfl (by show 2 * 0 + _ ≤ _; exact Nat.le_of_eq rfl) (hb hby at_132)
      obtain ⟨H12, e12⟩ : ∃ z, T12.heap = z := ⟨_, rfl⟩
      rw [e12] at Q12
      obtain ⟨rfl, Nq12, Kq12, Fq12_bits, Fq12_prefix⟩ := Q12
      have N12 := Fr.app N2 Nq12
      have Zs12 := Nat.le_trans Zs7 Kq12.1
      have hk := Nat.le_trans hk Kq12.1
      have Gb1_13 := own_Byt.keep Gb1_8 Kq12 (ninS ne_b1_b4 nin0)
      have Gb2_14 := own_Byt.keep Gb2_9 Kq12 (ninS ne_b2_b4 nin0)
      have A4_15 := Exa.keep A4_10 Kq12
      have Kn4_16 := Kn.keep Kn4_11 Kq12
      refine Go.s (fun {t} => st12) ?_
      refine Go.s (fun kz => XS.astore X12.here hx rfl (hb hby at_135) rfl rfl (l' := #[.val (.long q0), .second, .val (.long q1), .second, .val (.long q2), .second, .val (.long q3), .second, .val (.int p8), .val (.int p9), .val (.int (1 : Int32)), .val (.int (0 : Int32)), .val (.int (Int32.ofNat bn)), .val (.long x0), .second, .val (.long x1), .second, .val (.ref b1), .val (.ref b2), .val (.ref b4), .unset, .unset, .unset, .unset]) rfl kz) ?_
      refine Go.s (fun kz => XS.aload X12.here hx rfl (hb hby at_137) rfl rfl kz) ?_
      refine Go.s (fun kz => XS.aload X12.here hx rfl (hb hby at_139) rfl rfl kz) ?_
      show Go p.tables e below P (T12.setTop (mkF m 141 #[.val (.long q0), .second, .val (.long q1), .second, .val (.long q2), .second, .val (.long q3), .second, .val (.int p8), .val (.int p9), .val (.int (1 : Int32)), .val (.int (0 : Int32)), .val (.int (Int32.ofNat bn)), .val (.long x0), .second, .val (.long x1), .second, .val (.ref b1), .val (.ref b2), .val (.ref b4), .unset, .unset, .unset, .unset] [(.ref b2), (.ref b4)]))
      obtain ⟨v17, T17, L17, X17, Q17, st17⟩ := Con.virtual (own_rm5_eq l Z a0 hw [] b4 b1 b2 bn 16 (own_g q0 q1) (own_g x0 x1) H12 n0 Zs12 Fq12_prefix Fq12_bits Gb1_13 Gb2_14 (by decide) (by omega) (by omega)) X12 hx hZ (W := 0) hown (hw _ (List.mem_of_getElem? (i := 33) rfl)) (hw _ (List.mem_of_getElem? (i := 34) rfl)) (hw _ (List.mem_of_getElem? (i := 36) rfl)) (hw _ (List.mem_of_getElem? (i := 35) rfl)) (hw _ (List.mem_of_getElem? (i := 8) rfl)) (hw _ (List.mem_of_getElem? (i := 37) rfl)) (by decide) (by decide) (by decide) (by decide) (by decide) e12 (g := (mkF m 141 #[.val (.long q0), .second, .val (.long q1), .second, .val (.long q2), .second, .val (.long q3), .second, .val (.int p8), .val (.int p9), .val (.int (1 : Int32)), .val (.int (0 : Int32)), .val (.int (Int32.ofNat bn)), .val (.long x0), .second, .val (.long x1), .second, .val (.ref b1), .val (.ref b2), .val (.ref b4), .unset, .unset, .unset, .unset] [(.ref b2), (.ref b4)])) rfl (by rw [hml]; rfl) A4_15 (argsL := [(.ref b2)]) (rest := []) rfl (lenOf own_pd_3 rfl) rfl (by show 2 * 0 + _ ≤ _; exact Nat.le_of_eq rfl) (hb hby at_141)
      obtain ⟨hd17, Nq17, e17⟩ := Q17
      have N17 := Fr.app N12 Nq17
      rcases hd17 with ⟨rfl, hg⟩ | ⟨rfl, hg⟩
      · skip
        refine Go.s (fun {t} => st17) ?_
        show Go p.tables e below P (T17.setTop (mkF m 144 #[.val (.long q0), .second, .val (.long q1), .second, .val (.long q2), .second, .val (.long q3), .second, .val (.int p8), .val (.int p9), .val (.int (1 : Int32)), .val (.int (0 : Int32)), .val (.int (Int32.ofNat bn)), .val (.long x0), .second, .val (.long x1), .second, .val (.ref b1), .val (.ref b2), .val (.ref b4), .unset, .unset, .unset, .unset] [(.int (1 : Int32))]))
        refine Go.s (fun kz => XS.istore X17.here hx rfl (hb hby at_144) rfl (l' := #[.val (.long q0), .second, .val (.long q1), .second, .val (.long q2), .second, .val (.long q3), .second, .val (.int p8), .val (.int p9), .val (.int (1 : Int32)), .val (.int (0 : Int32)), .val (.int (Int32.ofNat bn)), .val (.long x0), .second, .val (.long x1), .second, .val (.ref b1), .val (.ref b2), .val (.ref b4), .val (.int (1 : Int32)), .unset, .unset, .unset]) rfl kz) ?_
        refine Go.s (fun kz => XS.iload X17.here hx rfl (hb hby at_146) rfl kz) ?_
        show Go p.tables e below P (T17.setTop (mkF m 148 #[.val (.long q0), .second, .val (.long q1), .second, .val (.long q2), .second, .val (.long q3), .second, .val (.int p8), .val (.int p9), .val (.int (1 : Int32)), .val (.int (0 : Int32)), .val (.int (Int32.ofNat bn)), .val (.long x0), .second, .val (.long x1), .second, .val (.ref b1), .val (.ref b2), .val (.ref b4), .val (.int (1 : Int32)), .unset, .unset, .unset] [(.int (0 : Int32))]))
        refine Go.s (fun kz => XS.ifYes X17.here hx rfl (pc0 := 148) (pc' := 157) rfl (hb hby at_148) rfl (XT.i0_eq_t (by decide)) (by decide) (by decide) kz) ?_
        show Go p.tables e below P (T17.setTop (mkF m 157 #[.val (.long q0), .second, .val (.long q1), .second, .val (.long q2), .second, .val (.long q3), .second, .val (.int p8), .val (.int p9), .val (.int (1 : Int32)), .val (.int (0 : Int32)), .val (.int (Int32.ofNat bn)), .val (.long x0), .second, .val (.long x1), .second, .val (.ref b1), .val (.ref b2), .val (.ref b4), .val (.int (1 : Int32)), .unset, .unset, .unset] []))
        refine Go.s (fun kz => XS.iload X17.here hx rfl (hb hby at_157) rfl kz) ?_
        refine Go.s (fun kz => XS.bipush X17.here hx rfl (hb hby at_159) kz) ?_
        show Go p.tables e below P (T17.setTop (mkF m 161 #[.val (.long q0), .second, .val (.long q1), .second, .val (.long q2), .second, .val (.long q3), .second, .val (.int p8), .val (.int p9), .val (.int (1 : Int32)), .val (.int (0 : Int32)), .val (.int (Int32.ofNat bn)), .val (.long x0), .second, .val (.long x1), .second, .val (.ref b1), .val (.ref b2), .val (.ref b4), .val (.int (1 : Int32)), .unset, .unset, .unset] [(.int (64 : Int32)), (.int (Int32.ofNat bn))]))
        obtain ⟨v18, T18, L18, X18, Q18, st18⟩ := Con.static (own_rm6 l Z a0 hw [] (Int32.ofNat bn) (64 : Int32) H12 n0 Zs12  ) X17 hx hZ (W := 0) hown (hw _ (List.mem_of_getElem? (i := 38) rfl)) (hw _ (List.mem_of_getElem? (i := 39) rfl)) (hw _ (List.mem_of_getElem? (i := 40) rfl)) (hw _ (List.mem_of_getElem? (i := 41) rfl)) (by decide) (by decide) (by decide) (by decide) (by decide) e17 (g := (mkF m 161 #[.val (.long q0), .second, .val (.long q1), .second, .val (.long q2), .second, .val (.long q3), .second, .val (.int p8), .val (.int p9), .val (.int (1 : Int32)), .val (.int (0 : Int32)), .val (.int (Int32.ofNat bn)), .val (.long x0), .second, .val (.long x1), .second, .val (.ref b1), .val (.ref b2), .val (.ref b4), .val (.int (1 : Int32)), .unset, .unset, .unset] [(.int (64 : Int32)), (.int (Int32.ofNat bn))])) rfl (by rw [hml]; rfl) (argsL := [(.int (Int32.ofNat bn)), (.int (64 : Int32))]) (rest := []) rfl (lenOf own_pd_4 rfl) rfl (by show 2 * 0 + _ ≤ _; exact Nat.le_of_eq rfl) (hb hby at_161)
        obtain ⟨rfl, Nq18, e18⟩ := Q18
        have N18 := Fr.app N17 Nq18
        refine Go.s (fun {t} => st18) ?_
        refine Go.s (fun kz => XS.istore X18.here hx rfl (hb hby at_164) rfl (l' := #[.val (.long q0), .second, .val (.long q1), .second, .val (.long q2), .second, .val (.long q3), .second, .val (.int p8), .val (.int p9), .val (.int (1 : Int32)), .val (.int (0 : Int32)), .val (.int (Int32.ofNat bn)), .val (.long x0), .second, .val (.long x1), .second, .val (.ref b1), .val (.ref b2), .val (.ref b4), .val (.int (1 : Int32)), .unset, .val (.int (own_f6 (Int32.ofNat bn) (64 : Int32))), .unset]) rfl kz) ?_
        show Go p.tables e below P (T18.setTop (mkF m 166 #[.val (.long q0), .second, .val (.long q1), .second, .val (.long q2), .second, .val (.long q3), .second, .val (.int p8), .val (.int p9), .val (.int (1 : Int32)), .val (.int (0 : Int32)), .val (.int (Int32.ofNat bn)), .val (.long x0), .second, .val (.long x1), .second, .val (.ref b1), .val (.ref b2), .val (.ref b4), .val (.int (1 : Int32)), .unset, .val (.int (own_f6 (Int32.ofNat bn) (64 : Int32))), .unset] []))
        rw [own_min bn hbn]
        show Go p.tables e below P (T18.setTop (mkF m 166 #[.val (.long q0), .second, .val (.long q1), .second, .val (.long q2), .second, .val (.long q3), .second, .val (.int p8), .val (.int p9), .val (.int (1 : Int32)), .val (.int (0 : Int32)), .val (.int (Int32.ofNat bn)), .val (.long x0), .second, .val (.long x1), .second, .val (.ref b1), .val (.ref b2), .val (.ref b4), .val (.int (1 : Int32)), .unset, .val (.int (Int32.ofNat (min bn 64))), .unset] []))
        refine Go.s (fun kz => XS.iload X18.here hx rfl (hb hby at_166) rfl kz) ?_
        refine Go.s (fun kz => XS.iload X18.here hx rfl (hb hby at_168) rfl kz) ?_
        refine Go.s (fun kz => XS.isub X18.here hx rfl (hb hby at_170) rfl kz) ?_
        refine Go.s (fun kz => XS.istore X18.here hx rfl (hb hby at_171) rfl (l' := #[.val (.long q0), .second, .val (.long q1), .second, .val (.long q2), .second, .val (.long q3), .second, .val (.int p8), .val (.int p9), .val (.int (1 : Int32)), .val (.int (0 : Int32)), .val (.int (Int32.ofNat bn)), .val (.long x0), .second, .val (.long x1), .second, .val (.ref b1), .val (.ref b2), .val (.ref b4), .val (.int (1 : Int32)), .unset, .val (.int (Int32.ofNat (min bn 64))), .val (.int ((Int32.ofNat bn) - (Int32.ofNat (min bn 64))))]) rfl kz) ?_
        show Go p.tables e below P (T18.setTop (mkF m 173 #[.val (.long q0), .second, .val (.long q1), .second, .val (.long q2), .second, .val (.long q3), .second, .val (.int p8), .val (.int p9), .val (.int (1 : Int32)), .val (.int (0 : Int32)), .val (.int (Int32.ofNat bn)), .val (.long x0), .second, .val (.long x1), .second, .val (.ref b1), .val (.ref b2), .val (.ref b4), .val (.int (1 : Int32)), .unset, .val (.int (Int32.ofNat (min bn 64))), .val (.int ((Int32.ofNat bn) - (Int32.ofNat (min bn 64))))] []))
        rw [own_low bn hbn]
        show Go p.tables e below P (T18.setTop (mkF m 173 #[.val (.long q0), .second, .val (.long q1), .second, .val (.long q2), .second, .val (.long q3), .second, .val (.int p8), .val (.int p9), .val (.int (1 : Int32)), .val (.int (0 : Int32)), .val (.int (Int32.ofNat bn)), .val (.long x0), .second, .val (.long x1), .second, .val (.ref b1), .val (.ref b2), .val (.ref b4), .val (.int (1 : Int32)), .unset, .val (.int (Int32.ofNat (min bn 64))), .val (.int (Int32.ofNat (bn - min bn 64)))] []))
        refine Go.s (fun kz => XT.lloadN X18.here hx rfl (hb hby at_173) rfl kz) ?_
        refine Go.s (fun kz => XT.lload X18.here hx rfl (hb hby at_174) rfl kz) ?_
        refine Go.s (fun kz => XT.lxor X18.here hx rfl (hb hby at_176) rfl kz) ?_
        refine Go.s (fun kz => XS.iload X18.here hx rfl (hb hby at_177) rfl kz) ?_
        show Go p.tables e below P (T18.setTop (mkF m 179 #[.val (.long q0), .second, .val (.long q1), .second, .val (.long q2), .second, .val (.long q3), .second, .val (.int p8), .val (.int p9), .val (.int (1 : Int32)), .val (.int (0 : Int32)), .val (.int (Int32.ofNat bn)), .val (.long x0), .second, .val (.long x1), .second, .val (.ref b1), .val (.ref b2), .val (.ref b4), .val (.int (1 : Int32)), .unset, .val (.int (Int32.ofNat (min bn 64))), .val (.int (Int32.ofNat (bn - min bn 64)))] [(.int (Int32.ofNat (min bn 64))), (.long (q0 ^^^ x0))]))
        obtain ⟨v19, T19, L19, X19, Q19, st19⟩ := Con.static (own_rm7 l Z a0 hw [] (q0 ^^^ x0) (Int32.ofNat (min bn 64)) H12 n0 Zs12  ) X18 hx hZ (W := 0) hown (hw _ (List.mem_of_getElem? (i := 42) rfl)) (hw _ (List.mem_of_getElem? (i := 43) rfl)) (hw _ (List.mem_of_getElem? (i := 3) rfl)) (hw _ (List.mem_of_getElem? (i := 44) rfl)) (by decide) (by decide) (by decide) (by decide) (by decide) e18 (g := (mkF m 179 #[.val (.long q0), .second, .val (.long q1), .second, .val (.long q2), .second, .val (.long q3), .second, .val (.int p8), .val (.int p9), .val (.int (1 : Int32)), .val (.int (0 : Int32)), .val (.int (Int32.ofNat bn)), .val (.long x0), .second, .val (.long x1), .second, .val (.ref b1), .val (.ref b2), .val (.ref b4), .val (.int (1 : Int32)), .unset, .val (.int (Int32.ofNat (min bn 64))), .val (.int (Int32.ofNat (bn - min bn 64)))] [(.int (Int32.ofNat (min bn 64))), (.long (q0 ^^^ x0))])) rfl (by rw [hml]; rfl) (argsL := [(.long (q0 ^^^ x0)), (.int (Int32.ofNat (min bn 64)))]) (rest := []) rfl (lenOf own_pd_5 rfl) rfl (by show 2 * 0 + _ ≤ _; exact Nat.le_of_eq rfl) (hb hby at_179)
        obtain ⟨rfl, Nq19, e19⟩ := Q19
        have N19 := Fr.app N18 Nq19
        refine Go.s (fun {t} => st19) ?_
        show Go p.tables e below P (T19.setTop (mkF m 182 #[.val (.long q0), .second, .val (.long q1), .second, .val (.long q2), .second, .val (.long q3), .second, .val (.int p8), .val (.int p9), .val (.int (1 : Int32)), .val (.int (0 : Int32)), .val (.int (Int32.ofNat bn)), .val (.long x0), .second, .val (.long x1), .second, .val (.ref b1), .val (.ref b2), .val (.ref b4), .val (.int (1 : Int32)), .unset, .val (.int (Int32.ofNat (min bn 64))), .val (.int (Int32.ofNat (bn - min bn 64)))] [(.int (own_f7 (q0 ^^^ x0) (Int32.ofNat (min bn 64))))]))
        refine Go.s (fun kz => XS.ifNo X19.here hx rfl (hb hby at_182) rfl (XT.i0_eq_f (own_n0 _ ((own_want q0 q1 x0 x1 bn hbn).mp hg).1)) kz) ?_
        show Go p.tables e below P (T19.setTop (mkF m 185 #[.val (.long q0), .second, .val (.long q1), .second, .val (.long q2), .second, .val (.long q3), .second, .val (.int p8), .val (.int p9), .val (.int (1 : Int32)), .val (.int (0 : Int32)), .val (.int (Int32.ofNat bn)), .val (.long x0), .second, .val (.long x1), .second, .val (.ref b1), .val (.ref b2), .val (.ref b4), .val (.int (1 : Int32)), .unset, .val (.int (Int32.ofNat (min bn 64))), .val (.int (Int32.ofNat (bn - min bn 64)))] []))
        refine Go.s (fun kz => XT.lloadN X19.here hx rfl (hb hby at_185) rfl kz) ?_
        refine Go.s (fun kz => XT.lload X19.here hx rfl (hb hby at_186) rfl kz) ?_
        refine Go.s (fun kz => XT.lxor X19.here hx rfl (hb hby at_188) rfl kz) ?_
        refine Go.s (fun kz => XS.iload X19.here hx rfl (hb hby at_189) rfl kz) ?_
        show Go p.tables e below P (T19.setTop (mkF m 191 #[.val (.long q0), .second, .val (.long q1), .second, .val (.long q2), .second, .val (.long q3), .second, .val (.int p8), .val (.int p9), .val (.int (1 : Int32)), .val (.int (0 : Int32)), .val (.int (Int32.ofNat bn)), .val (.long x0), .second, .val (.long x1), .second, .val (.ref b1), .val (.ref b2), .val (.ref b4), .val (.int (1 : Int32)), .unset, .val (.int (Int32.ofNat (min bn 64))), .val (.int (Int32.ofNat (bn - min bn 64)))] [(.int (Int32.ofNat (bn - min bn 64))), (.long (q1 ^^^ x1))]))
        obtain ⟨v20, T20, L20, X20, Q20, st20⟩ := Con.static (own_rm7 l Z a0 hw [] (q1 ^^^ x1) (Int32.ofNat (bn - min bn 64)) H12 n0 Zs12  ) X19 hx hZ (W := 0) hown (hw _ (List.mem_of_getElem? (i := 42) rfl)) (hw _ (List.mem_of_getElem? (i := 43) rfl)) (hw _ (List.mem_of_getElem? (i := 3) rfl)) (hw _ (List.mem_of_getElem? (i := 44) rfl)) (by decide) (by decide) (by decide) (by decide) (by decide) e19 (g := (mkF m 191 #[.val (.long q0), .second, .val (.long q1), .second, .val (.long q2), .second, .val (.long q3), .second, .val (.int p8), .val (.int p9), .val (.int (1 : Int32)), .val (.int (0 : Int32)), .val (.int (Int32.ofNat bn)), .val (.long x0), .second, .val (.long x1), .second, .val (.ref b1), .val (.ref b2), .val (.ref b4), .val (.int (1 : Int32)), .unset, .val (.int (Int32.ofNat (min bn 64))), .val (.int (Int32.ofNat (bn - min bn 64)))] [(.int (Int32.ofNat (bn - min bn 64))), (.long (q1 ^^^ x1))])) rfl (by rw [hml]; rfl) (argsL := [(.long (q1 ^^^ x1)), (.int (Int32.ofNat (bn - min bn 64)))]) (rest := []) rfl (lenOf own_pd_5 rfl) rfl (by show 2 * 0 + _ ≤ _; exact Nat.le_of_eq rfl) (hb hby at_191)
        obtain ⟨rfl, Nq20, e20⟩ := Q20
        have N20 := Fr.app N19 Nq20
        refine Go.s (fun {t} => st20) ?_
        show Go p.tables e below P (T20.setTop (mkF m 194 #[.val (.long q0), .second, .val (.long q1), .second, .val (.long q2), .second, .val (.long q3), .second, .val (.int p8), .val (.int p9), .val (.int (1 : Int32)), .val (.int (0 : Int32)), .val (.int (Int32.ofNat bn)), .val (.long x0), .second, .val (.long x1), .second, .val (.ref b1), .val (.ref b2), .val (.ref b4), .val (.int (1 : Int32)), .unset, .val (.int (Int32.ofNat (min bn 64))), .val (.int (Int32.ofNat (bn - min bn 64)))] [(.int (own_f7 (q1 ^^^ x1) (Int32.ofNat (bn - min bn 64))))]))
        refine Go.s (fun kz => XS.ifNo X20.here hx rfl (hb hby at_194) rfl (XT.i0_eq_f (own_n0 _ ((own_want q0 q1 x0 x1 bn hbn).mp hg).2)) kz) ?_
        show Go p.tables e below P (T20.setTop (mkF m 197 #[.val (.long q0), .second, .val (.long q1), .second, .val (.long q2), .second, .val (.long q3), .second, .val (.int p8), .val (.int p9), .val (.int (1 : Int32)), .val (.int (0 : Int32)), .val (.int (Int32.ofNat bn)), .val (.long x0), .second, .val (.long x1), .second, .val (.ref b1), .val (.ref b2), .val (.ref b4), .val (.int (1 : Int32)), .unset, .val (.int (Int32.ofNat (min bn 64))), .val (.int (Int32.ofNat (bn - min bn 64)))] []))
        refine Go.s (fun kz => XS.iconst X20.here hx rfl (hb hby at_197) kz) ?_
        refine Go.s (fun kz => XS.goto X20.here hx rfl (pc0 := 198) (pc' := 202) rfl (hb hby at_198) (by decide) (by decide) kz) ?_
        show Go p.tables e below P (T20.setTop (mkF m 202 #[.val (.long q0), .second, .val (.long q1), .second, .val (.long q2), .second, .val (.long q3), .second, .val (.int p8), .val (.int p9), .val (.int (1 : Int32)), .val (.int (0 : Int32)), .val (.int (Int32.ofNat bn)), .val (.long x0), .second, .val (.long x1), .second, .val (.ref b1), .val (.ref b2), .val (.ref b4), .val (.int (1 : Int32)), .unset, .val (.int (Int32.ofNat (min bn 64))), .val (.int (Int32.ofNat (bn - min bn 64)))] [(.int (1 : Int32))]))
        refine Go.s (fun kz => XS.istore X20.here hx rfl (hb hby at_202) rfl (l' := #[.val (.long q0), .second, .val (.long q1), .second, .val (.long q2), .second, .val (.long q3), .second, .val (.int p8), .val (.int p9), .val (.int (1 : Int32)), .val (.int (0 : Int32)), .val (.int (Int32.ofNat bn)), .val (.long x0), .second, .val (.long x1), .second, .val (.ref b1), .val (.ref b2), .val (.ref b4), .val (.int (1 : Int32)), .val (.int (1 : Int32)), .val (.int (Int32.ofNat (min bn 64))), .val (.int (Int32.ofNat (bn - min bn 64)))]) rfl kz) ?_
        refine Go.s (fun kz => XS.iload X20.here hx rfl (hb hby at_204) rfl kz) ?_
        refine Go.s (fun kz => XS.iload X20.here hx rfl (hb hby at_206) rfl kz) ?_
        show Go p.tables e below P (T20.setTop (mkF m 208 #[.val (.long q0), .second, .val (.long q1), .second, .val (.long q2), .second, .val (.long q3), .second, .val (.int p8), .val (.int p9), .val (.int (1 : Int32)), .val (.int (0 : Int32)), .val (.int (Int32.ofNat bn)), .val (.long x0), .second, .val (.long x1), .second, .val (.ref b1), .val (.ref b2), .val (.ref b4), .val (.int (1 : Int32)), .val (.int (1 : Int32)), .val (.int (Int32.ofNat (min bn 64))), .val (.int (Int32.ofNat (bn - min bn 64)))] [(.int (1 : Int32)), (.int (1 : Int32))]))
        refine Go.s (fun kz => XS.icmpNo X20.here hx rfl (hb hby at_208) rfl (XT.ii_ne_f (by decide)) kz) ?_
        show Go p.tables e below P (T20.setTop (mkF m 211 #[.val (.long q0), .second, .val (.long q1), .second, .val (.long q2), .second, .val (.long q3), .second, .val (.int p8), .val (.int p9), .val (.int (1 : Int32)), .val (.int (0 : Int32)), .val (.int (Int32.ofNat bn)), .val (.long x0), .second, .val (.long x1), .second, .val (.ref b1), .val (.ref b2), .val (.ref b4), .val (.int (1 : Int32)), .val (.int (1 : Int32)), .val (.int (Int32.ofNat (min bn 64))), .val (.int (Int32.ofNat (bn - min bn 64)))] []))
        refine Go.s (fun kz => XS.iconst X20.here hx rfl (hb hby at_211) kz) ?_
        refine Go.s (fun kz => XS.goto X20.here hx rfl (pc0 := 212) (pc' := 216) rfl (hb hby at_212) (by decide) (by decide) kz) ?_
        show Go p.tables e below P (T20.setTop (mkF m 216 #[.val (.long q0), .second, .val (.long q1), .second, .val (.long q2), .second, .val (.long q3), .second, .val (.int p8), .val (.int p9), .val (.int (1 : Int32)), .val (.int (0 : Int32)), .val (.int (Int32.ofNat bn)), .val (.long x0), .second, .val (.long x1), .second, .val (.ref b1), .val (.ref b2), .val (.ref b4), .val (.int (1 : Int32)), .val (.int (1 : Int32)), .val (.int (Int32.ofNat (min bn 64))), .val (.int (Int32.ofNat (bn - min bn 64)))] [(.int (1 : Int32))]))
        exact Go.retZW X20 hx hlk hS (by rw [e20]; exact hk) hret (by decide) (hb hby at_216) (fun U hU hF => hP U _ _ ⟨rfl, N20⟩ ⟨hF.1, hF.2.1, hF.2.2.1, hF.2.2.2.mono (by decide) (by decide)⟩)
      · skip
        refine Go.s (fun {t} => st17) ?_
        show Go p.tables e below P (T17.setTop (mkF m 144 #[.val (.long q0), .second, .val (.long q1), .second, .val (.long q2), .second, .val (.long q3), .second, .val (.int p8), .val (.int p9), .val (.int (1 : Int32)), .val (.int (0 : Int32)), .val (.int (Int32.ofNat bn)), .val (.long x0), .second, .val (.long x1), .second, .val (.ref b1), .val (.ref b2), .val (.ref b4), .unset, .unset, .unset, .unset] [(.int (0 : Int32))]))
        refine Go.s (fun kz => XS.istore X17.here hx rfl (hb hby at_144) rfl (l' := #[.val (.long q0), .second, .val (.long q1), .second, .val (.long q2), .second, .val (.long q3), .second, .val (.int p8), .val (.int p9), .val (.int (1 : Int32)), .val (.int (0 : Int32)), .val (.int (Int32.ofNat bn)), .val (.long x0), .second, .val (.long x1), .second, .val (.ref b1), .val (.ref b2), .val (.ref b4), .val (.int (0 : Int32)), .unset, .unset, .unset]) rfl kz) ?_
        refine Go.s (fun kz => XS.iload X17.here hx rfl (hb hby at_146) rfl kz) ?_
        show Go p.tables e below P (T17.setTop (mkF m 148 #[.val (.long q0), .second, .val (.long q1), .second, .val (.long q2), .second, .val (.long q3), .second, .val (.int p8), .val (.int p9), .val (.int (1 : Int32)), .val (.int (0 : Int32)), .val (.int (Int32.ofNat bn)), .val (.long x0), .second, .val (.long x1), .second, .val (.ref b1), .val (.ref b2), .val (.ref b4), .val (.int (0 : Int32)), .unset, .unset, .unset] [(.int (0 : Int32))]))
        refine Go.s (fun kz => XS.ifYes X17.here hx rfl (pc0 := 148) (pc' := 157) rfl (hb hby at_148) rfl (XT.i0_eq_t (by decide)) (by decide) (by decide) kz) ?_
        show Go p.tables e below P (T17.setTop (mkF m 157 #[.val (.long q0), .second, .val (.long q1), .second, .val (.long q2), .second, .val (.long q3), .second, .val (.int p8), .val (.int p9), .val (.int (1 : Int32)), .val (.int (0 : Int32)), .val (.int (Int32.ofNat bn)), .val (.long x0), .second, .val (.long x1), .second, .val (.ref b1), .val (.ref b2), .val (.ref b4), .val (.int (0 : Int32)), .unset, .unset, .unset] []))
        refine Go.s (fun kz => XS.iload X17.here hx rfl (hb hby at_157) rfl kz) ?_
        refine Go.s (fun kz => XS.bipush X17.here hx rfl (hb hby at_159) kz) ?_
        show Go p.tables e below P (T17.setTop (mkF m 161 #[.val (.long q0), .second, .val (.long q1), .second, .val (.long q2), .second, .val (.long q3), .second, .val (.int p8), .val (.int p9), .val (.int (1 : Int32)), .val (.int (0 : Int32)), .val (.int (Int32.ofNat bn)), .val (.long x0), .second, .val (.long x1), .second, .val (.ref b1), .val (.ref b2), .val (.ref b4), .val (.int (0 : Int32)), .unset, .unset, .unset] [(.int (64 : Int32)), (.int (Int32.ofNat bn))]))
        obtain ⟨v21, T21, L21, X21, Q21, st21⟩ := Con.static (own_rm6 l Z a0 hw [] (Int32.ofNat bn) (64 : Int32) H12 n0 Zs12  ) X17 hx hZ (W := 0) hown (hw _ (List.mem_of_getElem? (i := 38) rfl)) (hw _ (List.mem_of_getElem? (i := 39) rfl)) (hw _ (List.mem_of_getElem? (i := 40) rfl)) (hw _ (List.mem_of_getElem? (i := 41) rfl)) (by decide) (by decide) (by decide) (by decide) (by decide) e17 (g := (mkF m 161 #[.val (.long q0), .second, .val (.long q1), .second, .val (.long q2), .second, .val (.long q3), .second, .val (.int p8), .val (.int p9), .val (.int (1 : Int32)), .val (.int (0 : Int32)), .val (.int (Int32.ofNat bn)), .val (.long x0), .second, .val (.long x1), .second, .val (.ref b1), .val (.ref b2), .val (.ref b4), .val (.int (0 : Int32)), .unset, .unset, .unset] [(.int (64 : Int32)), (.int (Int32.ofNat bn))])) rfl (by rw [hml]; rfl) (argsL := [(.int (Int32.ofNat bn)), (.int (64 : Int32))]) (rest := []) rfl (lenOf own_pd_4 rfl) rfl (by show 2 * 0 + _ ≤ _; exact Nat.le_of_eq rfl) (hb hby at_161)
        obtain ⟨rfl, Nq21, e21⟩ := Q21
        have N21 := Fr.app N17 Nq21
        refine Go.s (fun {t} => st21) ?_
        refine Go.s (fun kz => XS.istore X21.here hx rfl (hb hby at_164) rfl (l' := #[.val (.long q0), .second, .val (.long q1), .second, .val (.long q2), .second, .val (.long q3), .second, .val (.int p8), .val (.int p9), .val (.int (1 : Int32)), .val (.int (0 : Int32)), .val (.int (Int32.ofNat bn)), .val (.long x0), .second, .val (.long x1), .second, .val (.ref b1), .val (.ref b2), .val (.ref b4), .val (.int (0 : Int32)), .unset, .val (.int (own_f6 (Int32.ofNat bn) (64 : Int32))), .unset]) rfl kz) ?_
        show Go p.tables e below P (T21.setTop (mkF m 166 #[.val (.long q0), .second, .val (.long q1), .second, .val (.long q2), .second, .val (.long q3), .second, .val (.int p8), .val (.int p9), .val (.int (1 : Int32)), .val (.int (0 : Int32)), .val (.int (Int32.ofNat bn)), .val (.long x0), .second, .val (.long x1), .second, .val (.ref b1), .val (.ref b2), .val (.ref b4), .val (.int (0 : Int32)), .unset, .val (.int (own_f6 (Int32.ofNat bn) (64 : Int32))), .unset] []))
        rw [own_min bn hbn]
        show Go p.tables e below P (T21.setTop (mkF m 166 #[.val (.long q0), .second, .val (.long q1), .second, .val (.long q2), .second, .val (.long q3), .second, .val (.int p8), .val (.int p9), .val (.int (1 : Int32)), .val (.int (0 : Int32)), .val (.int (Int32.ofNat bn)), .val (.long x0), .second, .val (.long x1), .second, .val (.ref b1), .val (.ref b2), .val (.ref b4), .val (.int (0 : Int32)), .unset, .val (.int (Int32.ofNat (min bn 64))), .unset] []))
        refine Go.s (fun kz => XS.iload X21.here hx rfl (hb hby at_166) rfl kz) ?_
        refine Go.s (fun kz => XS.iload X21.here hx rfl (hb hby at_168) rfl kz) ?_
        refine Go.s (fun kz => XS.isub X21.here hx rfl (hb hby at_170) rfl kz) ?_
        refine Go.s (fun kz => XS.istore X21.here hx rfl (hb hby at_171) rfl (l' := #[.val (.long q0), .second, .val (.long q1), .second, .val (.long q2), .second, .val (.long q3), .second, .val (.int p8), .val (.int p9), .val (.int (1 : Int32)), .val (.int (0 : Int32)), .val (.int (Int32.ofNat bn)), .val (.long x0), .second, .val (.long x1), .second, .val (.ref b1), .val (.ref b2), .val (.ref b4), .val (.int (0 : Int32)), .unset, .val (.int (Int32.ofNat (min bn 64))), .val (.int ((Int32.ofNat bn) - (Int32.ofNat (min bn 64))))]) rfl kz) ?_
        show Go p.tables e below P (T21.setTop (mkF m 173 #[.val (.long q0), .second, .val (.long q1), .second, .val (.long q2), .second, .val (.long q3), .second, .val (.int p8), .val (.int p9), .val (.int (1 : Int32)), .val (.int (0 : Int32)), .val (.int (Int32.ofNat bn)), .val (.long x0), .second, .val (.long x1), .second, .val (.ref b1), .val (.ref b2), .val (.ref b4), .val (.int (0 : Int32)), .unset, .val (.int (Int32.ofNat (min bn 64))), .val (.int ((Int32.ofNat bn) - (Int32.ofNat (min bn 64))))] []))
        rw [own_low bn hbn]
        show Go p.tables e below P (T21.setTop (mkF m 173 #[.val (.long q0), .second, .val (.long q1), .second, .val (.long q2), .second, .val (.long q3), .second, .val (.int p8), .val (.int p9), .val (.int (1 : Int32)), .val (.int (0 : Int32)), .val (.int (Int32.ofNat bn)), .val (.long x0), .second, .val (.long x1), .second, .val (.ref b1), .val (.ref b2), .val (.ref b4), .val (.int (0 : Int32)), .unset, .val (.int (Int32.ofNat (min bn 64))), .val (.int (Int32.ofNat (bn - min bn 64)))] []))
        refine Go.s (fun kz => XT.lloadN X21.here hx rfl (hb hby at_173) rfl kz) ?_
        refine Go.s (fun kz => XT.lload X21.here hx rfl (hb hby at_174) rfl kz) ?_
        refine Go.s (fun kz => XT.lxor X21.here hx rfl (hb hby at_176) rfl kz) ?_
        refine Go.s (fun kz => XS.iload X21.here hx rfl (hb hby at_177) rfl kz) ?_
        show Go p.tables e below P (T21.setTop (mkF m 179 #[.val (.long q0), .second, .val (.long q1), .second, .val (.long q2), .second, .val (.long q3), .second, .val (.int p8), .val (.int p9), .val (.int (1 : Int32)), .val (.int (0 : Int32)), .val (.int (Int32.ofNat bn)), .val (.long x0), .second, .val (.long x1), .second, .val (.ref b1), .val (.ref b2), .val (.ref b4), .val (.int (0 : Int32)), .unset, .val (.int (Int32.ofNat (min bn 64))), .val (.int (Int32.ofNat (bn - min bn 64)))] [(.int (Int32.ofNat (min bn 64))), (.long (q0 ^^^ x0))]))
        obtain ⟨v22, T22, L22, X22, Q22, st22⟩ := Con.static (own_rm7 l Z a0 hw [] (q0 ^^^ x0) (Int32.ofNat (min bn 64)) H12 n0 Zs12  ) X21 hx hZ (W := 0) hown (hw _ (List.mem_of_getElem? (i := 42) rfl)) (hw _ (List.mem_of_getElem? (i := 43) rfl)) (hw _ (List.mem_of_getElem? (i := 3) rfl)) (hw _ (List.mem_of_getElem? (i := 44) rfl)) (by decide) (by decide) (by decide) (by decide) (by decide) e21 (g := (mkF m 179 #[.val (.long q0), .second, .val (.long q1), .second, .val (.long q2), .second, .val (.long q3), .second, .val (.int p8), .val (.int p9), .val (.int (1 : Int32)), .val (.int (0 : Int32)), .val (.int (Int32.ofNat bn)), .val (.long x0), .second, .val (.long x1), .second, .val (.ref b1), .val (.ref b2), .val (.ref b4), .val (.int (0 : Int32)), .unset, .val (.int (Int32.ofNat (min bn 64))), .val (.int (Int32.ofNat (bn - min bn 64)))] [(.int (Int32.ofNat (min bn 64))), (.long (q0 ^^^ x0))])) rfl (by rw [hml]; rfl) (argsL := [(.long (q0 ^^^ x0)), (.int (Int32.ofNat (min bn 64)))]) (rest := []) rfl (lenOf own_pd_5 rfl) rfl (by show 2 * 0 + _ ≤ _; exact Nat.le_of_eq rfl) (hb hby at_179)
        obtain ⟨rfl, Nq22, e22⟩ := Q22
        have N22 := Fr.app N21 Nq22
        refine Go.s (fun {t} => st22) ?_
        show Go p.tables e below P (T22.setTop (mkF m 182 #[.val (.long q0), .second, .val (.long q1), .second, .val (.long q2), .second, .val (.long q3), .second, .val (.int p8), .val (.int p9), .val (.int (1 : Int32)), .val (.int (0 : Int32)), .val (.int (Int32.ofNat bn)), .val (.long x0), .second, .val (.long x1), .second, .val (.ref b1), .val (.ref b2), .val (.ref b4), .val (.int (0 : Int32)), .unset, .val (.int (Int32.ofNat (min bn 64))), .val (.int (Int32.ofNat (bn - min bn 64)))] [(.int (own_f7 (q0 ^^^ x0) (Int32.ofNat (min bn 64))))]))
        by_cases hc182 : (own_f7 (q0 ^^^ x0) (Int32.ofNat (min bn 64))) = 0
        · skip
          refine Go.s (fun kz => XS.ifYes X22.here hx rfl (pc0 := 182) (pc' := 201) rfl (hb hby at_182) rfl (XT.i0_eq_t hc182) (by decide) (by decide) kz) ?_
          show Go p.tables e below P (T22.setTop (mkF m 201 #[.val (.long q0), .second, .val (.long q1), .second, .val (.long q2), .second, .val (.long q3), .second, .val (.int p8), .val (.int p9), .val (.int (1 : Int32)), .val (.int (0 : Int32)), .val (.int (Int32.ofNat bn)), .val (.long x0), .second, .val (.long x1), .second, .val (.ref b1), .val (.ref b2), .val (.ref b4), .val (.int (0 : Int32)), .unset, .val (.int (Int32.ofNat (min bn 64))), .val (.int (Int32.ofNat (bn - min bn 64)))] []))
          refine Go.s (fun kz => XS.iconst X22.here hx rfl (hb hby at_201) kz) ?_
          refine Go.s (fun kz => XS.istore X22.here hx rfl (hb hby at_202) rfl (l' := #[.val (.long q0), .second, .val (.long q1), .second, .val (.long q2), .second, .val (.long q3), .second, .val (.int p8), .val (.int p9), .val (.int (1 : Int32)), .val (.int (0 : Int32)), .val (.int (Int32.ofNat bn)), .val (.long x0), .second, .val (.long x1), .second, .val (.ref b1), .val (.ref b2), .val (.ref b4), .val (.int (0 : Int32)), .val (.int (0 : Int32)), .val (.int (Int32.ofNat (min bn 64))), .val (.int (Int32.ofNat (bn - min bn 64)))]) rfl kz) ?_
          refine Go.s (fun kz => XS.iload X22.here hx rfl (hb hby at_204) rfl kz) ?_
          refine Go.s (fun kz => XS.iload X22.here hx rfl (hb hby at_206) rfl kz) ?_
          show Go p.tables e below P (T22.setTop (mkF m 208 #[.val (.long q0), .second, .val (.long q1), .second, .val (.long q2), .second, .val (.long q3), .second, .val (.int p8), .val (.int p9), .val (.int (1 : Int32)), .val (.int (0 : Int32)), .val (.int (Int32.ofNat bn)), .val (.long x0), .second, .val (.long x1), .second, .val (.ref b1), .val (.ref b2), .val (.ref b4), .val (.int (0 : Int32)), .val (.int (0 : Int32)), .val (.int (Int32.ofNat (min bn 64))), .val (.int (Int32.ofNat (bn - min bn 64)))] [(.int (0 : Int32)), (.int (0 : Int32))]))
          refine Go.s (fun kz => XS.icmpNo X22.here hx rfl (hb hby at_208) rfl (XT.ii_ne_f (by decide)) kz) ?_
          show Go p.tables e below P (T22.setTop (mkF m 211 #[.val (.long q0), .second, .val (.long q1), .second, .val (.long q2), .second, .val (.long q3), .second, .val (.int p8), .val (.int p9), .val (.int (1 : Int32)), .val (.int (0 : Int32)), .val (.int (Int32.ofNat bn)), .val (.long x0), .second, .val (.long x1), .second, .val (.ref b1), .val (.ref b2), .val (.ref b4), .val (.int (0 : Int32)), .val (.int (0 : Int32)), .val (.int (Int32.ofNat (min bn 64))), .val (.int (Int32.ofNat (bn - min bn 64)))] []))
          refine Go.s (fun kz => XS.iconst X22.here hx rfl (hb hby at_211) kz) ?_
          refine Go.s (fun kz => XS.goto X22.here hx rfl (pc0 := 212) (pc' := 216) rfl (hb hby at_212) (by decide) (by decide) kz) ?_
          show Go p.tables e below P (T22.setTop (mkF m 216 #[.val (.long q0), .second, .val (.long q1), .second, .val (.long q2), .second, .val (.long q3), .second, .val (.int p8), .val (.int p9), .val (.int (1 : Int32)), .val (.int (0 : Int32)), .val (.int (Int32.ofNat bn)), .val (.long x0), .second, .val (.long x1), .second, .val (.ref b1), .val (.ref b2), .val (.ref b4), .val (.int (0 : Int32)), .val (.int (0 : Int32)), .val (.int (Int32.ofNat (min bn 64))), .val (.int (Int32.ofNat (bn - min bn 64)))] [(.int (1 : Int32))]))
          exact Go.retZW X22 hx hlk hS (by rw [e22]; exact hk) hret (by decide) (hb hby at_216) (fun U hU hF => hP U _ _ ⟨rfl, N22⟩ ⟨hF.1, hF.2.1, hF.2.2.1, hF.2.2.2.mono (by decide) (by decide)⟩)
        · skip
          refine Go.s (fun kz => XS.ifNo X22.here hx rfl (hb hby at_182) rfl (XT.i0_eq_f hc182) kz) ?_
          show Go p.tables e below P (T22.setTop (mkF m 185 #[.val (.long q0), .second, .val (.long q1), .second, .val (.long q2), .second, .val (.long q3), .second, .val (.int p8), .val (.int p9), .val (.int (1 : Int32)), .val (.int (0 : Int32)), .val (.int (Int32.ofNat bn)), .val (.long x0), .second, .val (.long x1), .second, .val (.ref b1), .val (.ref b2), .val (.ref b4), .val (.int (0 : Int32)), .unset, .val (.int (Int32.ofNat (min bn 64))), .val (.int (Int32.ofNat (bn - min bn 64)))] []))
          refine Go.s (fun kz => XT.lloadN X22.here hx rfl (hb hby at_185) rfl kz) ?_
          refine Go.s (fun kz => XT.lload X22.here hx rfl (hb hby at_186) rfl kz) ?_
          refine Go.s (fun kz => XT.lxor X22.here hx rfl (hb hby at_188) rfl kz) ?_
          refine Go.s (fun kz => XS.iload X22.here hx rfl (hb hby at_189) rfl kz) ?_
          show Go p.tables e below P (T22.setTop (mkF m 191 #[.val (.long q0), .second, .val (.long q1), .second, .val (.long q2), .second, .val (.long q3), .second, .val (.int p8), .val (.int p9), .val (.int (1 : Int32)), .val (.int (0 : Int32)), .val (.int (Int32.ofNat bn)), .val (.long x0), .second, .val (.long x1), .second, .val (.ref b1), .val (.ref b2), .val (.ref b4), .val (.int (0 : Int32)), .unset, .val (.int (Int32.ofNat (min bn 64))), .val (.int (Int32.ofNat (bn - min bn 64)))] [(.int (Int32.ofNat (bn - min bn 64))), (.long (q1 ^^^ x1))]))
          obtain ⟨v23, T23, L23, X23, Q23, st23⟩ := Con.static (own_rm7 l Z a0 hw [] (q1 ^^^ x1) (Int32.ofNat (bn - min bn 64)) H12 n0 Zs12  ) X22 hx hZ (W := 0) hown (hw _ (List.mem_of_getElem? (i := 42) rfl)) (hw _ (List.mem_of_getElem? (i := 43) rfl)) (hw _ (List.mem_of_getElem? (i := 3) rfl)) (hw _ (List.mem_of_getElem? (i := 44) rfl)) (by decide) (by decide) (by decide) (by decide) (by decide) e22 (g := (mkF m 191 #[.val (.long q0), .second, .val (.long q1), .second, .val (.long q2), .second, .val (.long q3), .second, .val (.int p8), .val (.int p9), .val (.int (1 : Int32)), .val (.int (0 : Int32)), .val (.int (Int32.ofNat bn)), .val (.long x0), .second, .val (.long x1), .second, .val (.ref b1), .val (.ref b2), .val (.ref b4), .val (.int (0 : Int32)), .unset, .val (.int (Int32.ofNat (min bn 64))), .val (.int (Int32.ofNat (bn - min bn 64)))] [(.int (Int32.ofNat (bn - min bn 64))), (.long (q1 ^^^ x1))])) rfl (by rw [hml]; rfl) (argsL := [(.long (q1 ^^^ x1)), (.int (Int32.ofNat (bn - min bn 64)))]) (rest := []) rfl (lenOf own_pd_5 rfl) rfl (by show 2 * 0 + _ ≤ _; exact Nat.le_of_eq rfl) (hb hby at_191)
          obtain ⟨rfl, Nq23, e23⟩ := Q23
          have N23 := Fr.app N22 Nq23
          refine Go.s (fun {t} => st23) ?_
          show Go p.tables e below P (T23.setTop (mkF m 194 #[.val (.long q0), .second, .val (.long q1), .second, .val (.long q2), .second, .val (.long q3), .second, .val (.int p8), .val (.int p9), .val (.int (1 : Int32)), .val (.int (0 : Int32)), .val (.int (Int32.ofNat bn)), .val (.long x0), .second, .val (.long x1), .second, .val (.ref b1), .val (.ref b2), .val (.ref b4), .val (.int (0 : Int32)), .unset, .val (.int (Int32.ofNat (min bn 64))), .val (.int (Int32.ofNat (bn - min bn 64)))] [(.int (own_f7 (q1 ^^^ x1) (Int32.ofNat (bn - min bn 64))))]))
          refine Go.s (fun kz => XS.ifYes X23.here hx rfl (pc0 := 194) (pc' := 201) rfl (hb hby at_194) rfl (XT.i0_eq_t (own_zero _ _ (by omega) fun z => hg ((own_want q0 q1 x0 x1 bn hbn).mpr ⟨own_one _ _ (by omega) hc182, z⟩))) (by decide) (by decide) kz) ?_
          show Go p.tables e below P (T23.setTop (mkF m 201 #[.val (.long q0), .second, .val (.long q1), .second, .val (.long q2), .second, .val (.long q3), .second, .val (.int p8), .val (.int p9), .val (.int (1 : Int32)), .val (.int (0 : Int32)), .val (.int (Int32.ofNat bn)), .val (.long x0), .second, .val (.long x1), .second, .val (.ref b1), .val (.ref b2), .val (.ref b4), .val (.int (0 : Int32)), .unset, .val (.int (Int32.ofNat (min bn 64))), .val (.int (Int32.ofNat (bn - min bn 64)))] []))
          refine Go.s (fun kz => XS.iconst X23.here hx rfl (hb hby at_201) kz) ?_
          refine Go.s (fun kz => XS.istore X23.here hx rfl (hb hby at_202) rfl (l' := #[.val (.long q0), .second, .val (.long q1), .second, .val (.long q2), .second, .val (.long q3), .second, .val (.int p8), .val (.int p9), .val (.int (1 : Int32)), .val (.int (0 : Int32)), .val (.int (Int32.ofNat bn)), .val (.long x0), .second, .val (.long x1), .second, .val (.ref b1), .val (.ref b2), .val (.ref b4), .val (.int (0 : Int32)), .val (.int (0 : Int32)), .val (.int (Int32.ofNat (min bn 64))), .val (.int (Int32.ofNat (bn - min bn 64)))]) rfl kz) ?_
          refine Go.s (fun kz => XS.iload X23.here hx rfl (hb hby at_204) rfl kz) ?_
          refine Go.s (fun kz => XS.iload X23.here hx rfl (hb hby at_206) rfl kz) ?_
          show Go p.tables e below P (T23.setTop (mkF m 208 #[.val (.long q0), .second, .val (.long q1), .second, .val (.long q2), .second, .val (.long q3), .second, .val (.int p8), .val (.int p9), .val (.int (1 : Int32)), .val (.int (0 : Int32)), .val (.int (Int32.ofNat bn)), .val (.long x0), .second, .val (.long x1), .second, .val (.ref b1), .val (.ref b2), .val (.ref b4), .val (.int (0 : Int32)), .val (.int (0 : Int32)), .val (.int (Int32.ofNat (min bn 64))), .val (.int (Int32.ofNat (bn - min bn 64)))] [(.int (0 : Int32)), (.int (0 : Int32))]))
          refine Go.s (fun kz => XS.icmpNo X23.here hx rfl (hb hby at_208) rfl (XT.ii_ne_f (by decide)) kz) ?_
          show Go p.tables e below P (T23.setTop (mkF m 211 #[.val (.long q0), .second, .val (.long q1), .second, .val (.long q2), .second, .val (.long q3), .second, .val (.int p8), .val (.int p9), .val (.int (1 : Int32)), .val (.int (0 : Int32)), .val (.int (Int32.ofNat bn)), .val (.long x0), .second, .val (.long x1), .second, .val (.ref b1), .val (.ref b2), .val (.ref b4), .val (.int (0 : Int32)), .val (.int (0 : Int32)), .val (.int (Int32.ofNat (min bn 64))), .val (.int (Int32.ofNat (bn - min bn 64)))] []))
          refine Go.s (fun kz => XS.iconst X23.here hx rfl (hb hby at_211) kz) ?_
          refine Go.s (fun kz => XS.goto X23.here hx rfl (pc0 := 212) (pc' := 216) rfl (hb hby at_212) (by decide) (by decide) kz) ?_
          show Go p.tables e below P (T23.setTop (mkF m 216 #[.val (.long q0), .second, .val (.long q1), .second, .val (.long q2), .second, .val (.long q3), .second, .val (.int p8), .val (.int p9), .val (.int (1 : Int32)), .val (.int (0 : Int32)), .val (.int (Int32.ofNat bn)), .val (.long x0), .second, .val (.long x1), .second, .val (.ref b1), .val (.ref b2), .val (.ref b4), .val (.int (0 : Int32)), .val (.int (0 : Int32)), .val (.int (Int32.ofNat (min bn 64))), .val (.int (Int32.ofNat (bn - min bn 64)))] [(.int (1 : Int32))]))
          exact Go.retZW X23 hx hlk hS (by rw [e23]; exact hk) hret (by decide) (hb hby at_216) (fun U hU hF => hP U _ _ ⟨rfl, N23⟩ ⟨hF.1, hF.2.1, hF.2.2.1, hF.2.2.2.mono (by decide) (by decide)⟩)
    · skip
      refine Go.s (fun kz => XS.ifNo X0.here hx rfl (hb hby at_18) rfl (XT.i0_eq_f hc18) kz) ?_
      show Go p.tables e below P (s₁.setTop (mkF m 21 #[.val (.long q0), .second, .val (.long q1), .second, .val (.long q2), .second, .val (.long q3), .second, .val (.int p8), .val (.int p9), .val (.int (1 : Int32)), .unset, .unset, .unset, .unset, .unset, .unset, .unset, .unset, .unset, .unset, .unset, .unset, .unset] []))
      refine Go.s (fun kz => XS.iconst X0.here hx rfl (hb hby at_21) kz) ?_
      refine Go.s (fun kz => XS.goto X0.here hx rfl (pc0 := 22) (pc' := 26) rfl (hb hby at_22) (by decide) (by decide) kz) ?_
      show Go p.tables e below P (s₁.setTop (mkF m 26 #[.val (.long q0), .second, .val (.long q1), .second, .val (.long q2), .second, .val (.long q3), .second, .val (.int p8), .val (.int p9), .val (.int (1 : Int32)), .unset, .unset, .unset, .unset, .unset, .unset, .unset, .unset, .unset, .unset, .unset, .unset, .unset] [(.int (1 : Int32))]))
      refine Go.s (fun kz => XS.istore X0.here hx rfl (hb hby at_26) rfl (l' := #[.val (.long q0), .second, .val (.long q1), .second, .val (.long q2), .second, .val (.long q3), .second, .val (.int p8), .val (.int p9), .val (.int (1 : Int32)), .val (.int (1 : Int32)), .unset, .unset, .unset, .unset, .unset, .unset, .unset, .unset, .unset, .unset, .unset, .unset]) rfl kz) ?_
      refine Go.s (fun kz => XS.iload X0.here hx rfl (hb hby at_28) rfl kz) ?_
      show Go p.tables e below P (s₁.setTop (mkF m 30 #[.val (.long q0), .second, .val (.long q1), .second, .val (.long q2), .second, .val (.long q3), .second, .val (.int p8), .val (.int p9), .val (.int (1 : Int32)), .val (.int (1 : Int32)), .unset, .unset, .unset, .unset, .unset, .unset, .unset, .unset, .unset, .unset, .unset, .unset] [(.int (1 : Int32))]))
      refine Go.s (fun kz => XS.ifNo X0.here hx rfl (hb hby at_30) rfl (XT.i0_eq_f (by decide)) kz) ?_
      show Go p.tables e below P (s₁.setTop (mkF m 33 #[.val (.long q0), .second, .val (.long q1), .second, .val (.long q2), .second, .val (.long q3), .second, .val (.int p8), .val (.int p9), .val (.int (1 : Int32)), .val (.int (1 : Int32)), .unset, .unset, .unset, .unset, .unset, .unset, .unset, .unset, .unset, .unset, .unset, .unset] []))
      refine Go.s (fun kz => XS.iload X0.here hx rfl (hb hby at_33) rfl kz) ?_
      refine Go.s (fun kz => X0.ldcI hx hown (mvT hZ (hw _ (List.mem_of_getElem? (i := 0) rfl))) rfl (hb hby at_35) kz) ?_
      refine Go.s (fun kz => XS.iand X0.here hx rfl (hb hby at_37) rfl kz) ?_
      refine Go.s (fun kz => XS.sipush X0.here hx rfl (hb hby at_38) kz) ?_
      show Go p.tables e below P (s₁.setTop (mkF m 41 #[.val (.long q0), .second, .val (.long q1), .second, .val (.long q2), .second, .val (.long q3), .second, .val (.int p8), .val (.int p9), .val (.int (1 : Int32)), .val (.int (1 : Int32)), .unset, .unset, .unset, .unset, .unset, .unset, .unset, .unset, .unset, .unset, .unset, .unset] [(.int (129 : Int32)), (.int (p8 &&& (2147483647 : Int32)))]))
      refine Go.s (fun kz => iremM X0 hx rfl (hb hby at_41) rfl (by decide) kz) ?_
      refine Go.s (fun kz => XS.goto X0.here hx rfl (pc0 := 42) (pc' := 53) rfl (hb hby at_42) (by decide) (by decide) kz) ?_
      show Go p.tables e below P (s₁.setTop (mkF m 53 #[.val (.long q0), .second, .val (.long q1), .second, .val (.long q2), .second, .val (.long q3), .second, .val (.int p8), .val (.int p9), .val (.int (1 : Int32)), .val (.int (1 : Int32)), .unset, .unset, .unset, .unset, .unset, .unset, .unset, .unset, .unset, .unset, .unset, .unset] [(.int ((p8 &&& (2147483647 : Int32)) % (129 : Int32)))]))
      refine Go.s (fun kz => XS.istore X0.here hx rfl (hb hby at_53) rfl (l' := #[.val (.long q0), .second, .val (.long q1), .second, .val (.long q2), .second, .val (.long q3), .second, .val (.int p8), .val (.int p9), .val (.int (1 : Int32)), .val (.int (1 : Int32)), .val (.int ((p8 &&& (2147483647 : Int32)) % (129 : Int32))), .unset, .unset, .unset, .unset, .unset, .unset, .unset, .unset, .unset, .unset, .unset]) rfl kz) ?_
      show Go p.tables e below P (s₁.setTop (mkF m 55 #[.val (.long q0), .second, .val (.long q1), .second, .val (.long q2), .second, .val (.long q3), .second, .val (.int p8), .val (.int p9), .val (.int (1 : Int32)), .val (.int (1 : Int32)), .val (.int ((p8 &&& (2147483647 : Int32)) % (129 : Int32))), .unset, .unset, .unset, .unset, .unset, .unset, .unset, .unset, .unset, .unset, .unset] []))
      obtain ⟨bn, ebn, hbn⟩ := own_b129 p8
      rw [ebn]
      show Go p.tables e below P (s₁.setTop (mkF m 55 #[.val (.long q0), .second, .val (.long q1), .second, .val (.long q2), .second, .val (.long q3), .second, .val (.int p8), .val (.int p9), .val (.int (1 : Int32)), .val (.int (1 : Int32)), .val (.int (Int32.ofNat bn)), .unset, .unset, .unset, .unset, .unset, .unset, .unset, .unset, .unset, .unset, .unset] []))
      refine Go.s (fun kz => XT.lloadN X0.here hx rfl (hb hby at_55) rfl kz) ?_
      refine Go.s (fun kz => XT.lload X0.here hx rfl (hb hby at_56) rfl kz) ?_
      refine Go.s (fun kz => XS.iload X0.here hx rfl (hb hby at_58) rfl kz) ?_
      refine Go.s (fun kz => XS.iconst X0.here hx rfl (hb hby at_60) kz) ?_
      refine Go.s (fun kz => XT.iushr X0.here hx rfl (hb hby at_61) rfl kz) ?_
      refine Go.s (fun kz => XS.bipush X0.here hx rfl (hb hby at_62) kz) ?_
      show Go p.tables e below P (s₁.setTop (mkF m 64 #[.val (.long q0), .second, .val (.long q1), .second, .val (.long q2), .second, .val (.long q3), .second, .val (.int p8), .val (.int p9), .val (.int (1 : Int32)), .val (.int (1 : Int32)), .val (.int (Int32.ofNat bn)), .unset, .unset, .unset, .unset, .unset, .unset, .unset, .unset, .unset, .unset, .unset] [(.int (63 : Int32)), (.int (XT.ushr p9 (2 : Int32))), (.long q2), (.long q0)]))
      refine Go.s (fun kz => XS.iand X0.here hx rfl (hb hby at_64) rfl kz) ?_
      refine Go.s (fun kz => XT.lushr X0.here hx rfl (hb hby at_65) rfl kz) ?_
      refine Go.s (fun kz => XT.lxor X0.here hx rfl (hb hby at_66) rfl kz) ?_
      refine Go.s (fun kz => XT.lstore X0.here hx rfl (hb hby at_67) rfl (l' := #[.val (.long q0), .second, .val (.long q1), .second, .val (.long q2), .second, .val (.long q3), .second, .val (.int p8), .val (.int p9), .val (.int (1 : Int32)), .val (.int (1 : Int32)), .val (.int (Int32.ofNat bn)), .val (.long (q0 ^^^ (XT.ushrL q2 ((XT.ushr p9 (2 : Int32)) &&& (63 : Int32))))), .second, .unset, .unset, .unset, .unset, .unset, .unset, .unset, .unset, .unset]) rfl kz) ?_
      show Go p.tables e below P (s₁.setTop (mkF m 69 #[.val (.long q0), .second, .val (.long q1), .second, .val (.long q2), .second, .val (.long q3), .second, .val (.int p8), .val (.int p9), .val (.int (1 : Int32)), .val (.int (1 : Int32)), .val (.int (Int32.ofNat bn)), .val (.long (q0 ^^^ (XT.ushrL q2 ((XT.ushr p9 (2 : Int32)) &&& (63 : Int32))))), .second, .unset, .unset, .unset, .unset, .unset, .unset, .unset, .unset, .unset] []))
      refine (?_ : ∀ x0 : Int64, x0 = (q0 ^^^ (XT.ushrL q2 ((XT.ushr p9 (2 : Int32)) &&& (63 : Int32)))) → Go p.tables e below P (s₁.setTop (mkF m 69 #[.val (.long q0), .second, .val (.long q1), .second, .val (.long q2), .second, .val (.long q3), .second, .val (.int p8), .val (.int p9), .val (.int (1 : Int32)), .val (.int (1 : Int32)), .val (.int (Int32.ofNat bn)), .val (.long x0), .second, .unset, .unset, .unset, .unset, .unset, .unset, .unset, .unset, .unset] []))) _ rfl
      intro x0 hx0
      refine Go.s (fun kz => XT.lloadN X0.here hx rfl (hb hby at_69) rfl kz) ?_
      refine Go.s (fun kz => XT.lload X0.here hx rfl (hb hby at_70) rfl kz) ?_
      refine Go.s (fun kz => XS.iload X0.here hx rfl (hb hby at_72) rfl kz) ?_
      refine Go.s (fun kz => XS.bipush X0.here hx rfl (hb hby at_74) kz) ?_
      refine Go.s (fun kz => XT.iushr X0.here hx rfl (hb hby at_76) rfl kz) ?_
      refine Go.s (fun kz => XS.bipush X0.here hx rfl (hb hby at_77) kz) ?_
      show Go p.tables e below P (s₁.setTop (mkF m 79 #[.val (.long q0), .second, .val (.long q1), .second, .val (.long q2), .second, .val (.long q3), .second, .val (.int p8), .val (.int p9), .val (.int (1 : Int32)), .val (.int (1 : Int32)), .val (.int (Int32.ofNat bn)), .val (.long x0), .second, .unset, .unset, .unset, .unset, .unset, .unset, .unset, .unset, .unset] [(.int (63 : Int32)), (.int (XT.ushr p9 (8 : Int32))), (.long q3), (.long q1)]))
      refine Go.s (fun kz => XS.iand X0.here hx rfl (hb hby at_79) rfl kz) ?_
      refine Go.s (fun kz => XT.lushr X0.here hx rfl (hb hby at_80) rfl kz) ?_
      refine Go.s (fun kz => XT.lxor X0.here hx rfl (hb hby at_81) rfl kz) ?_
      refine Go.s (fun kz => XT.lstore X0.here hx rfl (hb hby at_82) rfl (l' := #[.val (.long q0), .second, .val (.long q1), .second, .val (.long q2), .second, .val (.long q3), .second, .val (.int p8), .val (.int p9), .val (.int (1 : Int32)), .val (.int (1 : Int32)), .val (.int (Int32.ofNat bn)), .val (.long x0), .second, .val (.long (q1 ^^^ (XT.ushrL q3 ((XT.ushr p9 (8 : Int32)) &&& (63 : Int32))))), .second, .unset, .unset, .unset, .unset, .unset, .unset, .unset]) rfl kz) ?_
      show Go p.tables e below P (s₁.setTop (mkF m 84 #[.val (.long q0), .second, .val (.long q1), .second, .val (.long q2), .second, .val (.long q3), .second, .val (.int p8), .val (.int p9), .val (.int (1 : Int32)), .val (.int (1 : Int32)), .val (.int (Int32.ofNat bn)), .val (.long x0), .second, .val (.long (q1 ^^^ (XT.ushrL q3 ((XT.ushr p9 (8 : Int32)) &&& (63 : Int32))))), .second, .unset, .unset, .unset, .unset, .unset, .unset, .unset] []))
      refine (?_ : ∀ x1 : Int64, x1 = (q1 ^^^ (XT.ushrL q3 ((XT.ushr p9 (8 : Int32)) &&& (63 : Int32)))) → Go p.tables e below P (s₁.setTop (mkF m 84 #[.val (.long q0), .second, .val (.long q1), .second, .val (.long q2), .second, .val (.long q3), .second, .val (.int p8), .val (.int p9), .val (.int (1 : Int32)), .val (.int (1 : Int32)), .val (.int (Int32.ofNat bn)), .val (.long x0), .second, .val (.long x1), .second, .unset, .unset, .unset, .unset, .unset, .unset, .unset] []))) _ rfl
      intro x1 hx1
      refine Go.s (fun kz => XT.lloadN X0.here hx rfl (hb hby at_84) rfl kz) ?_
      refine Go.s (fun kz => XT.lloadN X0.here hx rfl (hb hby at_85) rfl kz) ?_
      refine Go.s (fun kz => XS.iload X0.here hx rfl (hb hby at_86) rfl kz) ?_
      show Go p.tables e below P (s₁.setTop (mkF m 88 #[.val (.long q0), .second, .val (.long q1), .second, .val (.long q2), .second, .val (.long q3), .second, .val (.int p8), .val (.int p9), .val (.int (1 : Int32)), .val (.int (1 : Int32)), .val (.int (Int32.ofNat bn)), .val (.long x0), .second, .val (.long x1), .second, .unset, .unset, .unset, .unset, .unset, .unset, .unset] [(.int (1 : Int32)), (.long q1), (.long q0)]))
      obtain ⟨v24, T24, L24, X24, Q24, st24⟩ := Con.static (own_rm1_1 l Z a0 hw [] q0 q1 h0 n0 Z0) X0 hx hZ (W := 0) hown (hw _ (List.mem_of_getElem? (i := 1) rfl)) (hw _ (List.mem_of_getElem? (i := 2) rfl)) (hw _ (List.mem_of_getElem? (i := 3) rfl)) (hw _ (List.mem_of_getElem? (i := 4) rfl)) (by decide) (by decide) (by decide) (by decide) (by decide) e0 (g := (mkF m 88 #[.val (.long q0), .second, .val (.long q1), .second, .val (.long q2), .second, .val (.long q3), .second, .val (.int p8), .val (.int p9), .val (.int (1 : Int32)), .val (.int (1 : Int32)), .val (.int (Int32.ofNat bn)), .val (.long x0), .second, .val (.long x1), .second, .unset, .unset, .unset, .unset, .unset, .unset, .unset] [(.int (1 : Int32)), (.long q1), (.long q0)])) rfl (by rw [hml]; rfl) (argsL := [(.long q0), (.long q1), (.int (1 : Int32))]) (rest := []) rfl (lenOf own_pd_1 rfl) rfl (by show 2 * 0 + _ ≤ _; exact Nat.le_of_eq rfl) (hb hby at_88)
      obtain ⟨H24, e24⟩ : ∃ z, T24.heap = z := ⟨_, rfl⟩
      rw [e24] at Q24
      obtain ⟨b24, rfl, Nq24, sz24, Kq24, Gb24⟩ := Q24
      have N24 := Fr.app N0 Nq24
      have G_b24 : n0 ≤ b24 := Nat.le_trans Z0 sz24
      have Zs24 := Nat.le_trans Z0 Kq24.1
      have hk := Nat.le_trans hk Kq24.1
      refine Go.s (fun {t} => st24) ?_
      refine Go.s (fun kz => XS.astore X24.here hx rfl (hb hby at_91) rfl rfl (l' := #[.val (.long q0), .second, .val (.long q1), .second, .val (.long q2), .second, .val (.long q3), .second, .val (.int p8), .val (.int p9), .val (.int (1 : Int32)), .val (.int (1 : Int32)), .val (.int (Int32.ofNat bn)), .val (.long x0), .second, .val (.long x1), .second, .val (.ref b24), .unset, .unset, .unset, .unset, .unset, .unset]) rfl kz) ?_
      refine Go.s (fun kz => XT.lload X24.here hx rfl (hb hby at_93) rfl kz) ?_
      refine Go.s (fun kz => XT.lload X24.here hx rfl (hb hby at_95) rfl kz) ?_
      refine Go.s (fun kz => XS.iload X24.here hx rfl (hb hby at_97) rfl kz) ?_
      show Go p.tables e below P (T24.setTop (mkF m 99 #[.val (.long q0), .second, .val (.long q1), .second, .val (.long q2), .second, .val (.long q3), .second, .val (.int p8), .val (.int p9), .val (.int (1 : Int32)), .val (.int (1 : Int32)), .val (.int (Int32.ofNat bn)), .val (.long x0), .second, .val (.long x1), .second, .val (.ref b24), .unset, .unset, .unset, .unset, .unset, .unset] [(.int (1 : Int32)), (.long x1), (.long x0)]))
      refine Go.s (fun kz => XS.ifNo X24.here hx rfl (hb hby at_99) rfl (XT.i0_eq_f (by decide)) kz) ?_
      show Go p.tables e below P (T24.setTop (mkF m 102 #[.val (.long q0), .second, .val (.long q1), .second, .val (.long q2), .second, .val (.long q3), .second, .val (.int p8), .val (.int p9), .val (.int (1 : Int32)), .val (.int (1 : Int32)), .val (.int (Int32.ofNat bn)), .val (.long x0), .second, .val (.long x1), .second, .val (.ref b24), .unset, .unset, .unset, .unset, .unset, .unset] [(.long x1), (.long x0)]))
      refine Go.s (fun kz => XS.iload X24.here hx rfl (hb hby at_102) rfl kz) ?_
      show Go p.tables e below P (T24.setTop (mkF m 104 #[.val (.long q0), .second, .val (.long q1), .second, .val (.long q2), .second, .val (.long q3), .second, .val (.int p8), .val (.int p9), .val (.int (1 : Int32)), .val (.int (1 : Int32)), .val (.int (Int32.ofNat bn)), .val (.long x0), .second, .val (.long x1), .second, .val (.ref b24), .unset, .unset, .unset, .unset, .unset, .unset] [(.int (1 : Int32)), (.long x1), (.long x0)]))
      refine Go.s (fun kz => XS.ifYes X24.here hx rfl (pc0 := 104) (pc' := 111) rfl (hb hby at_104) rfl (XT.i0_ne_t (by decide)) (by decide) (by decide) kz) ?_
      show Go p.tables e below P (T24.setTop (mkF m 111 #[.val (.long q0), .second, .val (.long q1), .second, .val (.long q2), .second, .val (.long q3), .second, .val (.int p8), .val (.int p9), .val (.int (1 : Int32)), .val (.int (1 : Int32)), .val (.int (Int32.ofNat bn)), .val (.long x0), .second, .val (.long x1), .second, .val (.ref b24), .unset, .unset, .unset, .unset, .unset, .unset] [(.long x1), (.long x0)]))
      refine Go.s (fun kz => XS.iconst X24.here hx rfl (hb hby at_111) kz) ?_
      refine Go.s (fun kz => XS.goto X24.here hx rfl (pc0 := 112) (pc' := 117) rfl (hb hby at_112) (by decide) (by decide) kz) ?_
      show Go p.tables e below P (T24.setTop (mkF m 117 #[.val (.long q0), .second, .val (.long q1), .second, .val (.long q2), .second, .val (.long q3), .second, .val (.int p8), .val (.int p9), .val (.int (1 : Int32)), .val (.int (1 : Int32)), .val (.int (Int32.ofNat bn)), .val (.long x0), .second, .val (.long x1), .second, .val (.ref b24), .unset, .unset, .unset, .unset, .unset, .unset] [(.int (0 : Int32)), (.long x1), (.long x0)]))
      obtain ⟨v25, T25, L25, X25, Q25, st25⟩ := Con.static (own_rm1_0 l Z a0 hw [] x0 x1 H24 n0 Zs24) X24 hx hZ (W := 0) hown (hw _ (List.mem_of_getElem? (i := 1) rfl)) (hw _ (List.mem_of_getElem? (i := 2) rfl)) (hw _ (List.mem_of_getElem? (i := 3) rfl)) (hw _ (List.mem_of_getElem? (i := 4) rfl)) (by decide) (by decide) (by decide) (by decide) (by decide) e24 (g := (mkF m 117 #[.val (.long q0), .second, .val (.long q1), .second, .val (.long q2), .second, .val (.long q3), .second, .val (.int p8), .val (.int p9), .val (.int (1 : Int32)), .val (.int (1 : Int32)), .val (.int (Int32.ofNat bn)), .val (.long x0), .second, .val (.long x1), .second, .val (.ref b24), .unset, .unset, .unset, .unset, .unset, .unset] [(.int (0 : Int32)), (.long x1), (.long x0)])) rfl (by rw [hml]; rfl) (argsL := [(.long x0), (.long x1), (.int (0 : Int32))]) (rest := []) rfl (lenOf own_pd_1 rfl) rfl (by show 2 * 0 + _ ≤ _; exact Nat.le_of_eq rfl) (hb hby at_117)
      obtain ⟨H25, e25⟩ : ∃ z, T25.heap = z := ⟨_, rfl⟩
      rw [e25] at Q25
      obtain ⟨b25, rfl, Nq25, sz25, Kq25, Gb25⟩ := Q25
      have N25 := Fr.app N24 Nq25
      have ne_b24_b25 : b24 ≠ b25 := Nat.ne_of_lt (Nat.lt_of_lt_of_le Gb24.lt sz25)
      have G_b25 : n0 ≤ b25 := Nat.le_trans Zs24 sz25
      have Zs25 := Nat.le_trans Zs24 Kq25.1
      have hk := Nat.le_trans hk Kq25.1
      have Gb24_26 := own_Byt.keep Gb24 Kq25 nin0
      refine Go.s (fun {t} => st25) ?_
      refine Go.s (fun kz => XS.astore X25.here hx rfl (hb hby at_120) rfl rfl (l' := #[.val (.long q0), .second, .val (.long q1), .second, .val (.long q2), .second, .val (.long q3), .second, .val (.int p8), .val (.int p9), .val (.int (1 : Int32)), .val (.int (1 : Int32)), .val (.int (Int32.ofNat bn)), .val (.long x0), .second, .val (.long x1), .second, .val (.ref b24), .val (.ref b25), .unset, .unset, .unset, .unset, .unset]) rfl kz) ?_
      show Go p.tables e below P (T25.setTop (mkF m 122 #[.val (.long q0), .second, .val (.long q1), .second, .val (.long q2), .second, .val (.long q3), .second, .val (.int p8), .val (.int p9), .val (.int (1 : Int32)), .val (.int (1 : Int32)), .val (.int (Int32.ofNat bn)), .val (.long x0), .second, .val (.long x1), .second, .val (.ref b24), .val (.ref b25), .unset, .unset, .unset, .unset, .unset] []))
      obtain ⟨T27, H27, X27, e27, E27, A27, D27, U27, st27⟩ := newO X25 hx hZ hown (hw _ (List.mem_of_getElem? (i := 6) rfl)) (hw _ (List.mem_of_getElem? (i := 7) rfl)) (hw _ (List.mem_of_getElem? (i := 8) rfl)) e25 (g := (mkF m 122 #[.val (.long q0), .second, .val (.long q1), .second, .val (.long q2), .second, .val (.long q3), .second, .val (.int p8), .val (.int p9), .val (.int (1 : Int32)), .val (.int (1 : Int32)), .val (.int (Int32.ofNat bn)), .val (.long x0), .second, .val (.long x1), .second, .val (.ref b24), .val (.ref b25), .unset, .unset, .unset, .unset, .unset] [])) rfl (hb hby at_122) (by decide) (by decide)
      refine Go.s (fun {t} => st27 t) ?_
      obtain ⟨b27, g27⟩ : ∃ z, z = H25.size := ⟨_, rfl⟩
      rw [← g27] at A27 D27 U27
      rw [← g27]
      have ne_b24_b27 : b24 ≠ b27 := Nat.ne_of_lt (Nat.lt_of_lt_of_le Gb24_26.lt (Nat.le_of_eq g27.symm))
      have ne_b25_b27 : b25 ≠ b27 := Nat.ne_of_lt (Nat.lt_of_lt_of_le Gb25.lt (Nat.le_of_eq g27.symm))
      have Gb24_28 := own_Byt.ext Gb24_26 E27
      have Gb25_29 := own_Byt.ext Gb25 E27
      have G_b27 : n0 ≤ b27 := Nat.le_trans Zs25 (Nat.le_of_eq g27.symm)
      have Zs27 := Nat.le_trans Zs25 E27.1
      have hk := Nat.le_trans hk E27.1
      have Kn27 := Kn.of_new U27
      refine Go.s (fun kz => XS.dup X27.here hx rfl (hb hby at_125) rfl rfl kz) ?_
      refine Go.s (fun kz => XS.aload X27.here hx rfl (hb hby at_126) rfl rfl kz) ?_
      refine Go.s (fun kz => XS.iload X27.here hx rfl (hb hby at_128) rfl kz) ?_
      obtain ⟨b30, T30, H30, ks30, X30, e30, E30, hS, hk, hZ, hown, st30⟩ := ldcS X27 hx hZ hown (hw _ (List.mem_of_getElem? (i := 9) rfl)) (own_wS hw) e27 hS hk (g := (mkF m 130 #[.val (.long q0), .second, .val (.long q1), .second, .val (.long q2), .second, .val (.long q3), .second, .val (.int p8), .val (.int p9), .val (.int (1 : Int32)), .val (.int (1 : Int32)), .val (.int (Int32.ofNat bn)), .val (.long x0), .second, .val (.long x1), .second, .val (.ref b24), .val (.ref b25), .unset, .unset, .unset, .unset, .unset] [(.int (Int32.ofNat bn)), (.ref b24), (.ref b27), (.ref b27)])) rfl (hb hby at_130) (n := 4) (by decide) (by decide) (by decide) (by decide)
      refine Go.s (fun {t} => st30 t) ?_
      have Gb24_31 := own_Byt.ext Gb24_28 E30
      have Gb25_32 := own_Byt.ext Gb25_29 E30
      have A27_33 := Exa.ext E30 A27
      have Kn27_34 := Kn.ext Kn27 E30
      have Zs30 := Nat.le_trans Zs27 E30.1
      show Go p.tables e below P (T30.setTop (mkF m 132 #[.val (.long q0), .second, .val (.long q1), .second, .val (.long q2), .second, .val (.long q3), .second, .val (.int p8), .val (.int p9), .val (.int (1 : Int32)), .val (.int (1 : Int32)), .val (.int (Int32.ofNat bn)), .val (.long x0), .second, .val (.long x1), .second, .val (.ref b24), .val (.ref b25), .unset, .unset, .unset, .unset, .unset] [(.ref b30), (.int (Int32.ofNat bn)), (.ref b24), (.ref b27), (.ref b27)]))
      obtain ⟨v35, T35, L35, X35, Q35, st35⟩ := Con.special (own_rm2 l Z a0 hw [] b27 (.ref b24) (Int32.ofNat bn) (.ref b30) H30 n0 Zs30 A27_33 Kn27_34 G_b27 rfl rfl ) rfl X30 hx hZ (W := 1) hown (hw _ (List.mem_of_getElem? (i := 16) rfl)) (hw _ (List.mem_of_getElem? (i := 17) rfl)) (hw _ (List.mem_of_getElem? (i := 8) rfl)) (hw _ (List.mem_of_getElem? (i := 18) rfl)) (by decide) (by decide) (by decide) (by decide) (by decide) e30 (g := (mkF m 132 #[.val (.long q0), .second, .val (.long q1), .second, .val (.long q2), .second, .val (.long q3), .second, .val (.int p8), .val (.int p9), .val (.int (1 : Int32)), .val (.int (1 : Int32)), .val (.int (Int32.ofNat bn)), .val (.long x0), .second, .val (.long x1), .second, .val (.ref b24), .val (.ref b25), .unset, .unset, .unset, .unset, .unset] [(.ref b30), (.int (Int32.ofNat bn)), (.ref b24), (.ref b27), (.ref b27)])) rfl (by rw [hml]; rfl) (argsL := [(.ref b24), (.int (Int32.ofNat bn)), (.ref b30)]) (rest := [(.ref b27)]) rfl (lenOf own_pd_2 rfl) rfl (by show 2 * 0 + _ ≤ _; exact Nat.le_of_eq rfl) (hb hby at_132)
      obtain ⟨H35, e35⟩ : ∃ z, T35.heap = z := ⟨_, rfl⟩
      rw [e35] at Q35
      obtain ⟨rfl, Nq35, Kq35, Fq35_bits, Fq35_prefix⟩ := Q35
      have N35 := Fr.app N25 Nq35
      have Zs35 := Nat.le_trans Zs30 Kq35.1
      have hk := Nat.le_trans hk Kq35.1
      have Gb24_36 := own_Byt.keep Gb24_31 Kq35 (ninS ne_b24_b27 nin0)
      have Gb25_37 := own_Byt.keep Gb25_32 Kq35 (ninS ne_b25_b27 nin0)
      have A27_38 := Exa.keep A27_33 Kq35
      have Kn27_39 := Kn.keep Kn27_34 Kq35
      refine Go.s (fun {t} => st35) ?_
      refine Go.s (fun kz => XS.astore X35.here hx rfl (hb hby at_135) rfl rfl (l' := #[.val (.long q0), .second, .val (.long q1), .second, .val (.long q2), .second, .val (.long q3), .second, .val (.int p8), .val (.int p9), .val (.int (1 : Int32)), .val (.int (1 : Int32)), .val (.int (Int32.ofNat bn)), .val (.long x0), .second, .val (.long x1), .second, .val (.ref b24), .val (.ref b25), .val (.ref b27), .unset, .unset, .unset, .unset]) rfl kz) ?_
      refine Go.s (fun kz => XS.aload X35.here hx rfl (hb hby at_137) rfl rfl kz) ?_
      refine Go.s (fun kz => XS.aload X35.here hx rfl (hb hby at_139) rfl rfl kz) ?_
      show Go p.tables e below P (T35.setTop (mkF m 141 #[.val (.long q0), .second, .val (.long q1), .second, .val (.long q2), .second, .val (.long q3), .second, .val (.int p8), .val (.int p9), .val (.int (1 : Int32)), .val (.int (1 : Int32)), .val (.int (Int32.ofNat bn)), .val (.long x0), .second, .val (.long x1), .second, .val (.ref b24), .val (.ref b25), .val (.ref b27), .unset, .unset, .unset, .unset] [(.ref b25), (.ref b27)]))
      obtain ⟨v40, T40, L40, X40, Q40, st40⟩ := Con.virtual (own_rm5_16_4 l Z a0 hw [] b27 b24 b25 bn (own_g q0 q1) (own_g x0 x1) H35 n0 Zs35 Fq35_prefix Fq35_bits Gb24_36 Gb25_37) X35 hx hZ (W := 0) hown (hw _ (List.mem_of_getElem? (i := 33) rfl)) (hw _ (List.mem_of_getElem? (i := 34) rfl)) (hw _ (List.mem_of_getElem? (i := 36) rfl)) (hw _ (List.mem_of_getElem? (i := 35) rfl)) (hw _ (List.mem_of_getElem? (i := 8) rfl)) (hw _ (List.mem_of_getElem? (i := 37) rfl)) (by decide) (by decide) (by decide) (by decide) (by decide) e35 (g := (mkF m 141 #[.val (.long q0), .second, .val (.long q1), .second, .val (.long q2), .second, .val (.long q3), .second, .val (.int p8), .val (.int p9), .val (.int (1 : Int32)), .val (.int (1 : Int32)), .val (.int (Int32.ofNat bn)), .val (.long x0), .second, .val (.long x1), .second, .val (.ref b24), .val (.ref b25), .val (.ref b27), .unset, .unset, .unset, .unset] [(.ref b25), (.ref b27)])) rfl (by rw [hml]; rfl) A27_38 (argsL := [(.ref b25)]) (rest := []) rfl (lenOf own_pd_3 rfl) rfl (by show 2 * 0 + _ ≤ _; exact Nat.le_of_eq rfl) (hb hby at_141)
      obtain ⟨rfl, Nq40, e40⟩ := Q40
      have N40 := Fr.app N35 Nq40
      refine Go.s (fun {t} => st40) ?_
      refine Go.s (fun kz => XS.istore X40.here hx rfl (hb hby at_144) rfl (l' := #[.val (.long q0), .second, .val (.long q1), .second, .val (.long q2), .second, .val (.long q3), .second, .val (.int p8), .val (.int p9), .val (.int (1 : Int32)), .val (.int (1 : Int32)), .val (.int (Int32.ofNat bn)), .val (.long x0), .second, .val (.long x1), .second, .val (.ref b24), .val (.ref b25), .val (.ref b27), .val (.int (0 : Int32)), .unset, .unset, .unset]) rfl kz) ?_
      refine Go.s (fun kz => XS.iload X40.here hx rfl (hb hby at_146) rfl kz) ?_
      show Go p.tables e below P (T40.setTop (mkF m 148 #[.val (.long q0), .second, .val (.long q1), .second, .val (.long q2), .second, .val (.long q3), .second, .val (.int p8), .val (.int p9), .val (.int (1 : Int32)), .val (.int (1 : Int32)), .val (.int (Int32.ofNat bn)), .val (.long x0), .second, .val (.long x1), .second, .val (.ref b24), .val (.ref b25), .val (.ref b27), .val (.int (0 : Int32)), .unset, .unset, .unset] [(.int (1 : Int32))]))
      refine Go.s (fun kz => XS.ifNo X40.here hx rfl (hb hby at_148) rfl (XT.i0_eq_f (by decide)) kz) ?_
      show Go p.tables e below P (T40.setTop (mkF m 151 #[.val (.long q0), .second, .val (.long q1), .second, .val (.long q2), .second, .val (.long q3), .second, .val (.int p8), .val (.int p9), .val (.int (1 : Int32)), .val (.int (1 : Int32)), .val (.int (Int32.ofNat bn)), .val (.long x0), .second, .val (.long x1), .second, .val (.ref b24), .val (.ref b25), .val (.ref b27), .val (.int (0 : Int32)), .unset, .unset, .unset] []))
      refine Go.s (fun kz => XS.iconst X40.here hx rfl (hb hby at_151) kz) ?_
      refine Go.s (fun kz => XS.istore X40.here hx rfl (hb hby at_152) rfl (l' := #[.val (.long q0), .second, .val (.long q1), .second, .val (.long q2), .second, .val (.long q3), .second, .val (.int p8), .val (.int p9), .val (.int (1 : Int32)), .val (.int (1 : Int32)), .val (.int (Int32.ofNat bn)), .val (.long x0), .second, .val (.long x1), .second, .val (.ref b24), .val (.ref b25), .val (.ref b27), .val (.int (0 : Int32)), .val (.int (0 : Int32)), .unset, .unset]) rfl kz) ?_
      refine Go.s (fun kz => XS.goto X40.here hx rfl (pc0 := 154) (pc' := 204) rfl (hb hby at_154) (by decide) (by decide) kz) ?_
      show Go p.tables e below P (T40.setTop (mkF m 204 #[.val (.long q0), .second, .val (.long q1), .second, .val (.long q2), .second, .val (.long q3), .second, .val (.int p8), .val (.int p9), .val (.int (1 : Int32)), .val (.int (1 : Int32)), .val (.int (Int32.ofNat bn)), .val (.long x0), .second, .val (.long x1), .second, .val (.ref b24), .val (.ref b25), .val (.ref b27), .val (.int (0 : Int32)), .val (.int (0 : Int32)), .unset, .unset] []))
      refine Go.s (fun kz => XS.iload X40.here hx rfl (hb hby at_204) rfl kz) ?_
      refine Go.s (fun kz => XS.iload X40.here hx rfl (hb hby at_206) rfl kz) ?_
      show Go p.tables e below P (T40.setTop (mkF m 208 #[.val (.long q0), .second, .val (.long q1), .second, .val (.long q2), .second, .val (.long q3), .second, .val (.int p8), .val (.int p9), .val (.int (1 : Int32)), .val (.int (1 : Int32)), .val (.int (Int32.ofNat bn)), .val (.long x0), .second, .val (.long x1), .second, .val (.ref b24), .val (.ref b25), .val (.ref b27), .val (.int (0 : Int32)), .val (.int (0 : Int32)), .unset, .unset] [(.int (0 : Int32)), (.int (0 : Int32))]))
      refine Go.s (fun kz => XS.icmpNo X40.here hx rfl (hb hby at_208) rfl (XT.ii_ne_f (by decide)) kz) ?_
      show Go p.tables e below P (T40.setTop (mkF m 211 #[.val (.long q0), .second, .val (.long q1), .second, .val (.long q2), .second, .val (.long q3), .second, .val (.int p8), .val (.int p9), .val (.int (1 : Int32)), .val (.int (1 : Int32)), .val (.int (Int32.ofNat bn)), .val (.long x0), .second, .val (.long x1), .second, .val (.ref b24), .val (.ref b25), .val (.ref b27), .val (.int (0 : Int32)), .val (.int (0 : Int32)), .unset, .unset] []))
      refine Go.s (fun kz => XS.iconst X40.here hx rfl (hb hby at_211) kz) ?_
      refine Go.s (fun kz => XS.goto X40.here hx rfl (pc0 := 212) (pc' := 216) rfl (hb hby at_212) (by decide) (by decide) kz) ?_
      show Go p.tables e below P (T40.setTop (mkF m 216 #[.val (.long q0), .second, .val (.long q1), .second, .val (.long q2), .second, .val (.long q3), .second, .val (.int p8), .val (.int p9), .val (.int (1 : Int32)), .val (.int (1 : Int32)), .val (.int (Int32.ofNat bn)), .val (.long x0), .second, .val (.long x1), .second, .val (.ref b24), .val (.ref b25), .val (.ref b27), .val (.int (0 : Int32)), .val (.int (0 : Int32)), .unset, .unset] [(.int (1 : Int32))]))
      exact Go.retZW X40 hx hlk hS (by rw [e40]; exact hk) hret (by decide) (hb hby at_216) (fun U hU hF => hP U _ _ ⟨rfl, N40⟩ ⟨hF.1, hF.2.1, hF.2.2.1, hF.2.2.2.mono (by decide) (by decide)⟩)
  · skip
    refine Go.s (fun kz => XS.ifYes X0.here hx rfl (pc0 := 4) (pc' := 11) rfl (hb hby at_4) rfl (XT.i0_ne_t hc4) (by decide) (by decide) kz) ?_
    show Go p.tables e below P (s₁.setTop (mkF m 11 #[.val (.long q0), .second, .val (.long q1), .second, .val (.long q2), .second, .val (.long q3), .second, .val (.int p8), .val (.int p9), .unset, .unset, .unset, .unset, .unset, .unset, .unset, .unset, .unset, .unset, .unset, .unset, .unset, .unset] []))
    refine Go.s (fun kz => XS.iconst X0.here hx rfl (hb hby at_11) kz) ?_
    refine Go.s (fun kz => XS.istore X0.here hx rfl (hb hby at_12) rfl (l' := #[.val (.long q0), .second, .val (.long q1), .second, .val (.long q2), .second, .val (.long q3), .second, .val (.int p8), .val (.int p9), .val (.int (0 : Int32)), .unset, .unset, .unset, .unset, .unset, .unset, .unset, .unset, .unset, .unset, .unset, .unset, .unset]) rfl kz) ?_
    refine Go.s (fun kz => XS.iload X0.here hx rfl (hb hby at_14) rfl kz) ?_
    refine Go.s (fun kz => XS.iconst X0.here hx rfl (hb hby at_16) kz) ?_
    refine Go.s (fun kz => XS.iand X0.here hx rfl (hb hby at_17) rfl kz) ?_
    show Go p.tables e below P (s₁.setTop (mkF m 18 #[.val (.long q0), .second, .val (.long q1), .second, .val (.long q2), .second, .val (.long q3), .second, .val (.int p8), .val (.int p9), .val (.int (0 : Int32)), .unset, .unset, .unset, .unset, .unset, .unset, .unset, .unset, .unset, .unset, .unset, .unset, .unset] [(.int (p9 &&& (2 : Int32)))]))
    by_cases hc18 : (p9 &&& (2 : Int32)) = 0
    · skip
      refine Go.s (fun kz => XS.ifYes X0.here hx rfl (pc0 := 18) (pc' := 25) rfl (hb hby at_18) rfl (XT.i0_eq_t hc18) (by decide) (by decide) kz) ?_
      show Go p.tables e below P (s₁.setTop (mkF m 25 #[.val (.long q0), .second, .val (.long q1), .second, .val (.long q2), .second, .val (.long q3), .second, .val (.int p8), .val (.int p9), .val (.int (0 : Int32)), .unset, .unset, .unset, .unset, .unset, .unset, .unset, .unset, .unset, .unset, .unset, .unset, .unset] []))
      refine Go.s (fun kz => XS.iconst X0.here hx rfl (hb hby at_25) kz) ?_
      refine Go.s (fun kz => XS.istore X0.here hx rfl (hb hby at_26) rfl (l' := #[.val (.long q0), .second, .val (.long q1), .second, .val (.long q2), .second, .val (.long q3), .second, .val (.int p8), .val (.int p9), .val (.int (0 : Int32)), .val (.int (0 : Int32)), .unset, .unset, .unset, .unset, .unset, .unset, .unset, .unset, .unset, .unset, .unset, .unset]) rfl kz) ?_
      refine Go.s (fun kz => XS.iload X0.here hx rfl (hb hby at_28) rfl kz) ?_
      show Go p.tables e below P (s₁.setTop (mkF m 30 #[.val (.long q0), .second, .val (.long q1), .second, .val (.long q2), .second, .val (.long q3), .second, .val (.int p8), .val (.int p9), .val (.int (0 : Int32)), .val (.int (0 : Int32)), .unset, .unset, .unset, .unset, .unset, .unset, .unset, .unset, .unset, .unset, .unset, .unset] [(.int (0 : Int32))]))
      refine Go.s (fun kz => XS.ifYes X0.here hx rfl (pc0 := 30) (pc' := 45) rfl (hb hby at_30) rfl (XT.i0_eq_t (by decide)) (by decide) (by decide) kz) ?_
      show Go p.tables e below P (s₁.setTop (mkF m 45 #[.val (.long q0), .second, .val (.long q1), .second, .val (.long q2), .second, .val (.long q3), .second, .val (.int p8), .val (.int p9), .val (.int (0 : Int32)), .val (.int (0 : Int32)), .unset, .unset, .unset, .unset, .unset, .unset, .unset, .unset, .unset, .unset, .unset, .unset] []))
      refine Go.s (fun kz => XS.iload X0.here hx rfl (hb hby at_45) rfl kz) ?_
      refine Go.s (fun kz => X0.ldcI hx hown (mvT hZ (hw _ (List.mem_of_getElem? (i := 0) rfl))) rfl (hb hby at_47) kz) ?_
      refine Go.s (fun kz => XS.iand X0.here hx rfl (hb hby at_49) rfl kz) ?_
      refine Go.s (fun kz => XS.bipush X0.here hx rfl (hb hby at_50) kz) ?_
      show Go p.tables e below P (s₁.setTop (mkF m 52 #[.val (.long q0), .second, .val (.long q1), .second, .val (.long q2), .second, .val (.long q3), .second, .val (.int p8), .val (.int p9), .val (.int (0 : Int32)), .val (.int (0 : Int32)), .unset, .unset, .unset, .unset, .unset, .unset, .unset, .unset, .unset, .unset, .unset, .unset] [(.int (33 : Int32)), (.int (p8 &&& (2147483647 : Int32)))]))
      refine Go.s (fun kz => iremM X0 hx rfl (hb hby at_52) rfl (by decide) kz) ?_
      refine Go.s (fun kz => XS.istore X0.here hx rfl (hb hby at_53) rfl (l' := #[.val (.long q0), .second, .val (.long q1), .second, .val (.long q2), .second, .val (.long q3), .second, .val (.int p8), .val (.int p9), .val (.int (0 : Int32)), .val (.int (0 : Int32)), .val (.int ((p8 &&& (2147483647 : Int32)) % (33 : Int32))), .unset, .unset, .unset, .unset, .unset, .unset, .unset, .unset, .unset, .unset, .unset]) rfl kz) ?_
      show Go p.tables e below P (s₁.setTop (mkF m 55 #[.val (.long q0), .second, .val (.long q1), .second, .val (.long q2), .second, .val (.long q3), .second, .val (.int p8), .val (.int p9), .val (.int (0 : Int32)), .val (.int (0 : Int32)), .val (.int ((p8 &&& (2147483647 : Int32)) % (33 : Int32))), .unset, .unset, .unset, .unset, .unset, .unset, .unset, .unset, .unset, .unset, .unset] []))
      obtain ⟨bn, ebn, hbn'⟩ := own_b33 p8
      have hbn : bn ≤ 128 := by omega
      rw [ebn]
      show Go p.tables e below P (s₁.setTop (mkF m 55 #[.val (.long q0), .second, .val (.long q1), .second, .val (.long q2), .second, .val (.long q3), .second, .val (.int p8), .val (.int p9), .val (.int (0 : Int32)), .val (.int (0 : Int32)), .val (.int (Int32.ofNat bn)), .unset, .unset, .unset, .unset, .unset, .unset, .unset, .unset, .unset, .unset, .unset] []))
      refine Go.s (fun kz => XT.lloadN X0.here hx rfl (hb hby at_55) rfl kz) ?_
      refine Go.s (fun kz => XT.lload X0.here hx rfl (hb hby at_56) rfl kz) ?_
      refine Go.s (fun kz => XS.iload X0.here hx rfl (hb hby at_58) rfl kz) ?_
      refine Go.s (fun kz => XS.iconst X0.here hx rfl (hb hby at_60) kz) ?_
      refine Go.s (fun kz => XT.iushr X0.here hx rfl (hb hby at_61) rfl kz) ?_
      refine Go.s (fun kz => XS.bipush X0.here hx rfl (hb hby at_62) kz) ?_
      show Go p.tables e below P (s₁.setTop (mkF m 64 #[.val (.long q0), .second, .val (.long q1), .second, .val (.long q2), .second, .val (.long q3), .second, .val (.int p8), .val (.int p9), .val (.int (0 : Int32)), .val (.int (0 : Int32)), .val (.int (Int32.ofNat bn)), .unset, .unset, .unset, .unset, .unset, .unset, .unset, .unset, .unset, .unset, .unset] [(.int (63 : Int32)), (.int (XT.ushr p9 (2 : Int32))), (.long q2), (.long q0)]))
      refine Go.s (fun kz => XS.iand X0.here hx rfl (hb hby at_64) rfl kz) ?_
      refine Go.s (fun kz => XT.lushr X0.here hx rfl (hb hby at_65) rfl kz) ?_
      refine Go.s (fun kz => XT.lxor X0.here hx rfl (hb hby at_66) rfl kz) ?_
      refine Go.s (fun kz => XT.lstore X0.here hx rfl (hb hby at_67) rfl (l' := #[.val (.long q0), .second, .val (.long q1), .second, .val (.long q2), .second, .val (.long q3), .second, .val (.int p8), .val (.int p9), .val (.int (0 : Int32)), .val (.int (0 : Int32)), .val (.int (Int32.ofNat bn)), .val (.long (q0 ^^^ (XT.ushrL q2 ((XT.ushr p9 (2 : Int32)) &&& (63 : Int32))))), .second, .unset, .unset, .unset, .unset, .unset, .unset, .unset, .unset, .unset]) rfl kz) ?_
      show Go p.tables e below P (s₁.setTop (mkF m 69 #[.val (.long q0), .second, .val (.long q1), .second, .val (.long q2), .second, .val (.long q3), .second, .val (.int p8), .val (.int p9), .val (.int (0 : Int32)), .val (.int (0 : Int32)), .val (.int (Int32.ofNat bn)), .val (.long (q0 ^^^ (XT.ushrL q2 ((XT.ushr p9 (2 : Int32)) &&& (63 : Int32))))), .second, .unset, .unset, .unset, .unset, .unset, .unset, .unset, .unset, .unset] []))
      refine (?_ : ∀ x0 : Int64, x0 = (q0 ^^^ (XT.ushrL q2 ((XT.ushr p9 (2 : Int32)) &&& (63 : Int32)))) → Go p.tables e below P (s₁.setTop (mkF m 69 #[.val (.long q0), .second, .val (.long q1), .second, .val (.long q2), .second, .val (.long q3), .second, .val (.int p8), .val (.int p9), .val (.int (0 : Int32)), .val (.int (0 : Int32)), .val (.int (Int32.ofNat bn)), .val (.long x0), .second, .unset, .unset, .unset, .unset, .unset, .unset, .unset, .unset, .unset] []))) _ rfl
      intro x0 hx0
      refine Go.s (fun kz => XT.lloadN X0.here hx rfl (hb hby at_69) rfl kz) ?_
      refine Go.s (fun kz => XT.lload X0.here hx rfl (hb hby at_70) rfl kz) ?_
      refine Go.s (fun kz => XS.iload X0.here hx rfl (hb hby at_72) rfl kz) ?_
      refine Go.s (fun kz => XS.bipush X0.here hx rfl (hb hby at_74) kz) ?_
      refine Go.s (fun kz => XT.iushr X0.here hx rfl (hb hby at_76) rfl kz) ?_
      refine Go.s (fun kz => XS.bipush X0.here hx rfl (hb hby at_77) kz) ?_
      show Go p.tables e below P (s₁.setTop (mkF m 79 #[.val (.long q0), .second, .val (.long q1), .second, .val (.long q2), .second, .val (.long q3), .second, .val (.int p8), .val (.int p9), .val (.int (0 : Int32)), .val (.int (0 : Int32)), .val (.int (Int32.ofNat bn)), .val (.long x0), .second, .unset, .unset, .unset, .unset, .unset, .unset, .unset, .unset, .unset] [(.int (63 : Int32)), (.int (XT.ushr p9 (8 : Int32))), (.long q3), (.long q1)]))
      refine Go.s (fun kz => XS.iand X0.here hx rfl (hb hby at_79) rfl kz) ?_
      refine Go.s (fun kz => XT.lushr X0.here hx rfl (hb hby at_80) rfl kz) ?_
      refine Go.s (fun kz => XT.lxor X0.here hx rfl (hb hby at_81) rfl kz) ?_
      refine Go.s (fun kz => XT.lstore X0.here hx rfl (hb hby at_82) rfl (l' := #[.val (.long q0), .second, .val (.long q1), .second, .val (.long q2), .second, .val (.long q3), .second, .val (.int p8), .val (.int p9), .val (.int (0 : Int32)), .val (.int (0 : Int32)), .val (.int (Int32.ofNat bn)), .val (.long x0), .second, .val (.long (q1 ^^^ (XT.ushrL q3 ((XT.ushr p9 (8 : Int32)) &&& (63 : Int32))))), .second, .unset, .unset, .unset, .unset, .unset, .unset, .unset]) rfl kz) ?_
      show Go p.tables e below P (s₁.setTop (mkF m 84 #[.val (.long q0), .second, .val (.long q1), .second, .val (.long q2), .second, .val (.long q3), .second, .val (.int p8), .val (.int p9), .val (.int (0 : Int32)), .val (.int (0 : Int32)), .val (.int (Int32.ofNat bn)), .val (.long x0), .second, .val (.long (q1 ^^^ (XT.ushrL q3 ((XT.ushr p9 (8 : Int32)) &&& (63 : Int32))))), .second, .unset, .unset, .unset, .unset, .unset, .unset, .unset] []))
      refine (?_ : ∀ x1 : Int64, x1 = (q1 ^^^ (XT.ushrL q3 ((XT.ushr p9 (8 : Int32)) &&& (63 : Int32)))) → Go p.tables e below P (s₁.setTop (mkF m 84 #[.val (.long q0), .second, .val (.long q1), .second, .val (.long q2), .second, .val (.long q3), .second, .val (.int p8), .val (.int p9), .val (.int (0 : Int32)), .val (.int (0 : Int32)), .val (.int (Int32.ofNat bn)), .val (.long x0), .second, .val (.long x1), .second, .unset, .unset, .unset, .unset, .unset, .unset, .unset] []))) _ rfl
      intro x1 hx1
      refine Go.s (fun kz => XT.lloadN X0.here hx rfl (hb hby at_84) rfl kz) ?_
      refine Go.s (fun kz => XT.lloadN X0.here hx rfl (hb hby at_85) rfl kz) ?_
      refine Go.s (fun kz => XS.iload X0.here hx rfl (hb hby at_86) rfl kz) ?_
      show Go p.tables e below P (s₁.setTop (mkF m 88 #[.val (.long q0), .second, .val (.long q1), .second, .val (.long q2), .second, .val (.long q3), .second, .val (.int p8), .val (.int p9), .val (.int (0 : Int32)), .val (.int (0 : Int32)), .val (.int (Int32.ofNat bn)), .val (.long x0), .second, .val (.long x1), .second, .unset, .unset, .unset, .unset, .unset, .unset, .unset] [(.int (0 : Int32)), (.long q1), (.long q0)]))
      obtain ⟨v41, T41, L41, X41, Q41, st41⟩ := Con.static (own_rm1_0 l Z a0 hw [] q0 q1 h0 n0 Z0) X0 hx hZ (W := 0) hown (hw _ (List.mem_of_getElem? (i := 1) rfl)) (hw _ (List.mem_of_getElem? (i := 2) rfl)) (hw _ (List.mem_of_getElem? (i := 3) rfl)) (hw _ (List.mem_of_getElem? (i := 4) rfl)) (by decide) (by decide) (by decide) (by decide) (by decide) e0 (g := (mkF m 88 #[.val (.long q0), .second, .val (.long q1), .second, .val (.long q2), .second, .val (.long q3), .second, .val (.int p8), .val (.int p9), .val (.int (0 : Int32)), .val (.int (0 : Int32)), .val (.int (Int32.ofNat bn)), .val (.long x0), .second, .val (.long x1), .second, .unset, .unset, .unset, .unset, .unset, .unset, .unset] [(.int (0 : Int32)), (.long q1), (.long q0)])) rfl (by rw [hml]; rfl) (argsL := [(.long q0), (.long q1), (.int (0 : Int32))]) (rest := []) rfl (lenOf own_pd_1 rfl) rfl (by show 2 * 0 + _ ≤ _; exact Nat.le_of_eq rfl) (hb hby at_88)
      obtain ⟨H41, e41⟩ : ∃ z, T41.heap = z := ⟨_, rfl⟩
      rw [e41] at Q41
      obtain ⟨b41, rfl, Nq41, sz41, Kq41, Gb41⟩ := Q41
      have N41 := Fr.app N0 Nq41
      have G_b41 : n0 ≤ b41 := Nat.le_trans Z0 sz41
      have Zs41 := Nat.le_trans Z0 Kq41.1
      have hk := Nat.le_trans hk Kq41.1
      refine Go.s (fun {t} => st41) ?_
      refine Go.s (fun kz => XS.astore X41.here hx rfl (hb hby at_91) rfl rfl (l' := #[.val (.long q0), .second, .val (.long q1), .second, .val (.long q2), .second, .val (.long q3), .second, .val (.int p8), .val (.int p9), .val (.int (0 : Int32)), .val (.int (0 : Int32)), .val (.int (Int32.ofNat bn)), .val (.long x0), .second, .val (.long x1), .second, .val (.ref b41), .unset, .unset, .unset, .unset, .unset, .unset]) rfl kz) ?_
      refine Go.s (fun kz => XT.lload X41.here hx rfl (hb hby at_93) rfl kz) ?_
      refine Go.s (fun kz => XT.lload X41.here hx rfl (hb hby at_95) rfl kz) ?_
      refine Go.s (fun kz => XS.iload X41.here hx rfl (hb hby at_97) rfl kz) ?_
      show Go p.tables e below P (T41.setTop (mkF m 99 #[.val (.long q0), .second, .val (.long q1), .second, .val (.long q2), .second, .val (.long q3), .second, .val (.int p8), .val (.int p9), .val (.int (0 : Int32)), .val (.int (0 : Int32)), .val (.int (Int32.ofNat bn)), .val (.long x0), .second, .val (.long x1), .second, .val (.ref b41), .unset, .unset, .unset, .unset, .unset, .unset] [(.int (0 : Int32)), (.long x1), (.long x0)]))
      refine Go.s (fun kz => XS.ifYes X41.here hx rfl (pc0 := 99) (pc' := 115) rfl (hb hby at_99) rfl (XT.i0_eq_t (by decide)) (by decide) (by decide) kz) ?_
      show Go p.tables e below P (T41.setTop (mkF m 115 #[.val (.long q0), .second, .val (.long q1), .second, .val (.long q2), .second, .val (.long q3), .second, .val (.int p8), .val (.int p9), .val (.int (0 : Int32)), .val (.int (0 : Int32)), .val (.int (Int32.ofNat bn)), .val (.long x0), .second, .val (.long x1), .second, .val (.ref b41), .unset, .unset, .unset, .unset, .unset, .unset] [(.long x1), (.long x0)]))
      refine Go.s (fun kz => XS.iload X41.here hx rfl (hb hby at_115) rfl kz) ?_
      show Go p.tables e below P (T41.setTop (mkF m 117 #[.val (.long q0), .second, .val (.long q1), .second, .val (.long q2), .second, .val (.long q3), .second, .val (.int p8), .val (.int p9), .val (.int (0 : Int32)), .val (.int (0 : Int32)), .val (.int (Int32.ofNat bn)), .val (.long x0), .second, .val (.long x1), .second, .val (.ref b41), .unset, .unset, .unset, .unset, .unset, .unset] [(.int (0 : Int32)), (.long x1), (.long x0)]))
      obtain ⟨v42, T42, L42, X42, Q42, st42⟩ := Con.static (own_rm1_0 l Z a0 hw [] x0 x1 H41 n0 Zs41) X41 hx hZ (W := 0) hown (hw _ (List.mem_of_getElem? (i := 1) rfl)) (hw _ (List.mem_of_getElem? (i := 2) rfl)) (hw _ (List.mem_of_getElem? (i := 3) rfl)) (hw _ (List.mem_of_getElem? (i := 4) rfl)) (by decide) (by decide) (by decide) (by decide) (by decide) e41 (g := (mkF m 117 #[.val (.long q0), .second, .val (.long q1), .second, .val (.long q2), .second, .val (.long q3), .second, .val (.int p8), .val (.int p9), .val (.int (0 : Int32)), .val (.int (0 : Int32)), .val (.int (Int32.ofNat bn)), .val (.long x0), .second, .val (.long x1), .second, .val (.ref b41), .unset, .unset, .unset, .unset, .unset, .unset] [(.int (0 : Int32)), (.long x1), (.long x0)])) rfl (by rw [hml]; rfl) (argsL := [(.long x0), (.long x1), (.int (0 : Int32))]) (rest := []) rfl (lenOf own_pd_1 rfl) rfl (by show 2 * 0 + _ ≤ _; exact Nat.le_of_eq rfl) (hb hby at_117)
      obtain ⟨H42, e42⟩ : ∃ z, T42.heap = z := ⟨_, rfl⟩
      rw [e42] at Q42
      obtain ⟨b42, rfl, Nq42, sz42, Kq42, Gb42⟩ := Q42
      have N42 := Fr.app N41 Nq42
      have ne_b41_b42 : b41 ≠ b42 := Nat.ne_of_lt (Nat.lt_of_lt_of_le Gb41.lt sz42)
      have G_b42 : n0 ≤ b42 := Nat.le_trans Zs41 sz42
      have Zs42 := Nat.le_trans Zs41 Kq42.1
      have hk := Nat.le_trans hk Kq42.1
      have Gb41_43 := own_Byt.keep Gb41 Kq42 nin0
      refine Go.s (fun {t} => st42) ?_
      refine Go.s (fun kz => XS.astore X42.here hx rfl (hb hby at_120) rfl rfl (l' := #[.val (.long q0), .second, .val (.long q1), .second, .val (.long q2), .second, .val (.long q3), .second, .val (.int p8), .val (.int p9), .val (.int (0 : Int32)), .val (.int (0 : Int32)), .val (.int (Int32.ofNat bn)), .val (.long x0), .second, .val (.long x1), .second, .val (.ref b41), .val (.ref b42), .unset, .unset, .unset, .unset, .unset]) rfl kz) ?_
      show Go p.tables e below P (T42.setTop (mkF m 122 #[.val (.long q0), .second, .val (.long q1), .second, .val (.long q2), .second, .val (.long q3), .second, .val (.int p8), .val (.int p9), .val (.int (0 : Int32)), .val (.int (0 : Int32)), .val (.int (Int32.ofNat bn)), .val (.long x0), .second, .val (.long x1), .second, .val (.ref b41), .val (.ref b42), .unset, .unset, .unset, .unset, .unset] []))
      obtain ⟨T44, H44, X44, e44, E44, A44, D44, U44, st44⟩ := newO X42 hx hZ hown (hw _ (List.mem_of_getElem? (i := 6) rfl)) (hw _ (List.mem_of_getElem? (i := 7) rfl)) (hw _ (List.mem_of_getElem? (i := 8) rfl)) e42 (g := (mkF m 122 #[.val (.long q0), .second, .val (.long q1), .second, .val (.long q2), .second, .val (.long q3), .second, .val (.int p8), .val (.int p9), .val (.int (0 : Int32)), .val (.int (0 : Int32)), .val (.int (Int32.ofNat bn)), .val (.long x0), .second, .val (.long x1), .second, .val (.ref b41), .val (.ref b42), .unset, .unset, .unset, .unset, .unset] [])) rfl (hb hby at_122) (by decide) (by decide)
      refine Go.s (fun {t} => st44 t) ?_
      obtain ⟨b44, g44⟩ : ∃ z, z = H42.size := ⟨_, rfl⟩
      rw [← g44] at A44 D44 U44
      rw [← g44]
      have ne_b41_b44 : b41 ≠ b44 := Nat.ne_of_lt (Nat.lt_of_lt_of_le Gb41_43.lt (Nat.le_of_eq g44.symm))
      have ne_b42_b44 : b42 ≠ b44 := Nat.ne_of_lt (Nat.lt_of_lt_of_le Gb42.lt (Nat.le_of_eq g44.symm))
      have Gb41_45 := own_Byt.ext Gb41_43 E44
      have Gb42_46 := own_Byt.ext Gb42 E44
      have G_b44 : n0 ≤ b44 := Nat.le_trans Zs42 (Nat.le_of_eq g44.symm)
      have Zs44 := Nat.le_trans Zs42 E44.1
      have hk := Nat.le_trans hk E44.1
      have Kn44 := Kn.of_new U44
      refine Go.s (fun kz => XS.dup X44.here hx rfl (hb hby at_125) rfl rfl kz) ?_
      refine Go.s (fun kz => XS.aload X44.here hx rfl (hb hby at_126) rfl rfl kz) ?_
      refine Go.s (fun kz => XS.iload X44.here hx rfl (hb hby at_128) rfl kz) ?_
      obtain ⟨b47, T47, H47, ks47, X47, e47, E47, hS, hk, hZ, hown, st47⟩ := ldcS X44 hx hZ hown (hw _ (List.mem_of_getElem? (i := 9) rfl)) (own_wS hw) e44 hS hk (g := (mkF m 130 #[.val (.long q0), .second, .val (.long q1), .second, .val (.long q2), .second, .val (.long q3), .second, .val (.int p8), .val (.int p9), .val (.int (0 : Int32)), .val (.int (0 : Int32)), .val (.int (Int32.ofNat bn)), .val (.long x0), .second, .val (.long x1), .second, .val (.ref b41), .val (.ref b42), .unset, .unset, .unset, .unset, .unset] [(.int (Int32.ofNat bn)), (.ref b41), (.ref b44), (.ref b44)])) rfl (hb hby at_130) (n := 4) (by decide) (by decide) (by decide) (by decide)
      refine Go.s (fun {t} => st47 t) ?_
      have Gb41_48 := own_Byt.ext Gb41_45 E47
      have Gb42_49 := own_Byt.ext Gb42_46 E47
      have A44_50 := Exa.ext E47 A44
      have Kn44_51 := Kn.ext Kn44 E47
      have Zs47 := Nat.le_trans Zs44 E47.1
      show Go p.tables e below P (T47.setTop (mkF m 132 #[.val (.long q0), .second, .val (.long q1), .second, .val (.long q2), .second, .val (.long q3), .second, .val (.int p8), .val (.int p9), .val (.int (0 : Int32)), .val (.int (0 : Int32)), .val (.int (Int32.ofNat bn)), .val (.long x0), .second, .val (.long x1), .second, .val (.ref b41), .val (.ref b42), .unset, .unset, .unset, .unset, .unset] [(.ref b47), (.int (Int32.ofNat bn)), (.ref b41), (.ref b44), (.ref b44)]))
      obtain ⟨v52, T52, L52, X52, Q52, st52⟩ := Con.special (own_rm2 l Z a0 hw [] b44 (.ref b41) (Int32.ofNat bn) (.ref b47) H47 n0 Zs47 A44_50 Kn44_51 G_b44 rfl rfl ) rfl X47 hx hZ (W := 1) hown (hw _ (List.mem_of_getElem? (i := 16) rfl)) (hw _ (List.mem_of_getElem? (i := 17) rfl)) (hw _ (List.mem_of_getElem? (i := 8) rfl)) (hw _ (List.mem_of_getElem? (i := 18) rfl)) (by decide) (by decide) (by decide) (by decide) (by decide) e47 (g := (mkF m 132 #[.val (.long q0), .second, .val (.long q1), .second, .val (.long q2), .second, .val (.long q3), .second, .val (.int p8), .val (.int p9), .val (.int (0 : Int32)), .val (.int (0 : Int32)), .val (.int (Int32.ofNat bn)), .val (.long x0), .second, .val (.long x1), .second, .val (.ref b41), .val (.ref b42), .unset, .unset, .unset, .unset, .unset] [(.ref b47), (.int (Int32.ofNat bn)), (.ref b41), (.ref b44), (.ref b44)])) rfl (by rw [hml]; rfl) (argsL := [(.ref b41), (.int (Int32.ofNat bn)), (.ref b47)]) (rest := [(.ref b44)]) rfl (lenOf own_pd_2 rfl) rfl (by show 2 * 0 + _ ≤ _; exact Nat.le_of_eq rfl) (hb hby at_132)
      obtain ⟨H52, e52⟩ : ∃ z, T52.heap = z := ⟨_, rfl⟩
      rw [e52] at Q52
      obtain ⟨rfl, Nq52, Kq52, Fq52_bits, Fq52_prefix⟩ := Q52
      have N52 := Fr.app N42 Nq52
      have Zs52 := Nat.le_trans Zs47 Kq52.1
      have hk := Nat.le_trans hk Kq52.1
      have Gb41_53 := own_Byt.keep Gb41_48 Kq52 (ninS ne_b41_b44 nin0)
      have Gb42_54 := own_Byt.keep Gb42_49 Kq52 (ninS ne_b42_b44 nin0)
      have A44_55 := Exa.keep A44_50 Kq52
      have Kn44_56 := Kn.keep Kn44_51 Kq52
      refine Go.s (fun {t} => st52) ?_
      refine Go.s (fun kz => XS.astore X52.here hx rfl (hb hby at_135) rfl rfl (l' := #[.val (.long q0), .second, .val (.long q1), .second, .val (.long q2), .second, .val (.long q3), .second, .val (.int p8), .val (.int p9), .val (.int (0 : Int32)), .val (.int (0 : Int32)), .val (.int (Int32.ofNat bn)), .val (.long x0), .second, .val (.long x1), .second, .val (.ref b41), .val (.ref b42), .val (.ref b44), .unset, .unset, .unset, .unset]) rfl kz) ?_
      refine Go.s (fun kz => XS.aload X52.here hx rfl (hb hby at_137) rfl rfl kz) ?_
      refine Go.s (fun kz => XS.aload X52.here hx rfl (hb hby at_139) rfl rfl kz) ?_
      show Go p.tables e below P (T52.setTop (mkF m 141 #[.val (.long q0), .second, .val (.long q1), .second, .val (.long q2), .second, .val (.long q3), .second, .val (.int p8), .val (.int p9), .val (.int (0 : Int32)), .val (.int (0 : Int32)), .val (.int (Int32.ofNat bn)), .val (.long x0), .second, .val (.long x1), .second, .val (.ref b41), .val (.ref b42), .val (.ref b44), .unset, .unset, .unset, .unset] [(.ref b42), (.ref b44)]))
      obtain ⟨v57, T57, L57, X57, Q57, st57⟩ := Con.virtual (own_rm5_eq l Z a0 hw [] b44 b41 b42 bn 4 (own_g q0 q1) (own_g x0 x1) H52 n0 Zs52 Fq52_prefix Fq52_bits Gb41_53 Gb42_54 (by decide) (by omega) (by omega)) X52 hx hZ (W := 0) hown (hw _ (List.mem_of_getElem? (i := 33) rfl)) (hw _ (List.mem_of_getElem? (i := 34) rfl)) (hw _ (List.mem_of_getElem? (i := 36) rfl)) (hw _ (List.mem_of_getElem? (i := 35) rfl)) (hw _ (List.mem_of_getElem? (i := 8) rfl)) (hw _ (List.mem_of_getElem? (i := 37) rfl)) (by decide) (by decide) (by decide) (by decide) (by decide) e52 (g := (mkF m 141 #[.val (.long q0), .second, .val (.long q1), .second, .val (.long q2), .second, .val (.long q3), .second, .val (.int p8), .val (.int p9), .val (.int (0 : Int32)), .val (.int (0 : Int32)), .val (.int (Int32.ofNat bn)), .val (.long x0), .second, .val (.long x1), .second, .val (.ref b41), .val (.ref b42), .val (.ref b44), .unset, .unset, .unset, .unset] [(.ref b42), (.ref b44)])) rfl (by rw [hml]; rfl) A44_55 (argsL := [(.ref b42)]) (rest := []) rfl (lenOf own_pd_3 rfl) rfl (by show 2 * 0 + _ ≤ _; exact Nat.le_of_eq rfl) (hb hby at_141)
      obtain ⟨hd57, Nq57, e57⟩ := Q57
      have N57 := Fr.app N52 Nq57
      rcases hd57 with ⟨rfl, hg⟩ | ⟨rfl, hg⟩
      · skip
        refine Go.s (fun {t} => st57) ?_
        show Go p.tables e below P (T57.setTop (mkF m 144 #[.val (.long q0), .second, .val (.long q1), .second, .val (.long q2), .second, .val (.long q3), .second, .val (.int p8), .val (.int p9), .val (.int (0 : Int32)), .val (.int (0 : Int32)), .val (.int (Int32.ofNat bn)), .val (.long x0), .second, .val (.long x1), .second, .val (.ref b41), .val (.ref b42), .val (.ref b44), .unset, .unset, .unset, .unset] [(.int (1 : Int32))]))
        refine Go.s (fun kz => XS.istore X57.here hx rfl (hb hby at_144) rfl (l' := #[.val (.long q0), .second, .val (.long q1), .second, .val (.long q2), .second, .val (.long q3), .second, .val (.int p8), .val (.int p9), .val (.int (0 : Int32)), .val (.int (0 : Int32)), .val (.int (Int32.ofNat bn)), .val (.long x0), .second, .val (.long x1), .second, .val (.ref b41), .val (.ref b42), .val (.ref b44), .val (.int (1 : Int32)), .unset, .unset, .unset]) rfl kz) ?_
        refine Go.s (fun kz => XS.iload X57.here hx rfl (hb hby at_146) rfl kz) ?_
        show Go p.tables e below P (T57.setTop (mkF m 148 #[.val (.long q0), .second, .val (.long q1), .second, .val (.long q2), .second, .val (.long q3), .second, .val (.int p8), .val (.int p9), .val (.int (0 : Int32)), .val (.int (0 : Int32)), .val (.int (Int32.ofNat bn)), .val (.long x0), .second, .val (.long x1), .second, .val (.ref b41), .val (.ref b42), .val (.ref b44), .val (.int (1 : Int32)), .unset, .unset, .unset] [(.int (0 : Int32))]))
        refine Go.s (fun kz => XS.ifYes X57.here hx rfl (pc0 := 148) (pc' := 157) rfl (hb hby at_148) rfl (XT.i0_eq_t (by decide)) (by decide) (by decide) kz) ?_
        show Go p.tables e below P (T57.setTop (mkF m 157 #[.val (.long q0), .second, .val (.long q1), .second, .val (.long q2), .second, .val (.long q3), .second, .val (.int p8), .val (.int p9), .val (.int (0 : Int32)), .val (.int (0 : Int32)), .val (.int (Int32.ofNat bn)), .val (.long x0), .second, .val (.long x1), .second, .val (.ref b41), .val (.ref b42), .val (.ref b44), .val (.int (1 : Int32)), .unset, .unset, .unset] []))
        refine Go.s (fun kz => XS.iload X57.here hx rfl (hb hby at_157) rfl kz) ?_
        refine Go.s (fun kz => XS.bipush X57.here hx rfl (hb hby at_159) kz) ?_
        show Go p.tables e below P (T57.setTop (mkF m 161 #[.val (.long q0), .second, .val (.long q1), .second, .val (.long q2), .second, .val (.long q3), .second, .val (.int p8), .val (.int p9), .val (.int (0 : Int32)), .val (.int (0 : Int32)), .val (.int (Int32.ofNat bn)), .val (.long x0), .second, .val (.long x1), .second, .val (.ref b41), .val (.ref b42), .val (.ref b44), .val (.int (1 : Int32)), .unset, .unset, .unset] [(.int (64 : Int32)), (.int (Int32.ofNat bn))]))
        obtain ⟨v58, T58, L58, X58, Q58, st58⟩ := Con.static (own_rm6 l Z a0 hw [] (Int32.ofNat bn) (64 : Int32) H52 n0 Zs52  ) X57 hx hZ (W := 0) hown (hw _ (List.mem_of_getElem? (i := 38) rfl)) (hw _ (List.mem_of_getElem? (i := 39) rfl)) (hw _ (List.mem_of_getElem? (i := 40) rfl)) (hw _ (List.mem_of_getElem? (i := 41) rfl)) (by decide) (by decide) (by decide) (by decide) (by decide) e57 (g := (mkF m 161 #[.val (.long q0), .second, .val (.long q1), .second, .val (.long q2), .second, .val (.long q3), .second, .val (.int p8), .val (.int p9), .val (.int (0 : Int32)), .val (.int (0 : Int32)), .val (.int (Int32.ofNat bn)), .val (.long x0), .second, .val (.long x1), .second, .val (.ref b41), .val (.ref b42), .val (.ref b44), .val (.int (1 : Int32)), .unset, .unset, .unset] [(.int (64 : Int32)), (.int (Int32.ofNat bn))])) rfl (by rw [hml]; rfl) (argsL := [(.int (Int32.ofNat bn)), (.int (64 : Int32))]) (rest := []) rfl (lenOf own_pd_4 rfl) rfl (by show 2 * 0 + _ ≤ _; exact Nat.le_of_eq rfl) (hb hby at_161)
        obtain ⟨rfl, Nq58, e58⟩ := Q58
        have N58 := Fr.app N57 Nq58
        refine Go.s (fun {t} => st58) ?_
        refine Go.s (fun kz => XS.istore X58.here hx rfl (hb hby at_164) rfl (l' := #[.val (.long q0), .second, .val (.long q1), .second, .val (.long q2), .second, .val (.long q3), .second, .val (.int p8), .val (.int p9), .val (.int (0 : Int32)), .val (.int (0 : Int32)), .val (.int (Int32.ofNat bn)), .val (.long x0), .second, .val (.long x1), .second, .val (.ref b41), .val (.ref b42), .val (.ref b44), .val (.int (1 : Int32)), .unset, .val (.int (own_f6 (Int32.ofNat bn) (64 : Int32))), .unset]) rfl kz) ?_
        show Go p.tables e below P (T58.setTop (mkF m 166 #[.val (.long q0), .second, .val (.long q1), .second, .val (.long q2), .second, .val (.long q3), .second, .val (.int p8), .val (.int p9), .val (.int (0 : Int32)), .val (.int (0 : Int32)), .val (.int (Int32.ofNat bn)), .val (.long x0), .second, .val (.long x1), .second, .val (.ref b41), .val (.ref b42), .val (.ref b44), .val (.int (1 : Int32)), .unset, .val (.int (own_f6 (Int32.ofNat bn) (64 : Int32))), .unset] []))
        rw [own_min bn hbn]
        show Go p.tables e below P (T58.setTop (mkF m 166 #[.val (.long q0), .second, .val (.long q1), .second, .val (.long q2), .second, .val (.long q3), .second, .val (.int p8), .val (.int p9), .val (.int (0 : Int32)), .val (.int (0 : Int32)), .val (.int (Int32.ofNat bn)), .val (.long x0), .second, .val (.long x1), .second, .val (.ref b41), .val (.ref b42), .val (.ref b44), .val (.int (1 : Int32)), .unset, .val (.int (Int32.ofNat (min bn 64))), .unset] []))
        refine Go.s (fun kz => XS.iload X58.here hx rfl (hb hby at_166) rfl kz) ?_
        refine Go.s (fun kz => XS.iload X58.here hx rfl (hb hby at_168) rfl kz) ?_
        refine Go.s (fun kz => XS.isub X58.here hx rfl (hb hby at_170) rfl kz) ?_
        refine Go.s (fun kz => XS.istore X58.here hx rfl (hb hby at_171) rfl (l' := #[.val (.long q0), .second, .val (.long q1), .second, .val (.long q2), .second, .val (.long q3), .second, .val (.int p8), .val (.int p9), .val (.int (0 : Int32)), .val (.int (0 : Int32)), .val (.int (Int32.ofNat bn)), .val (.long x0), .second, .val (.long x1), .second, .val (.ref b41), .val (.ref b42), .val (.ref b44), .val (.int (1 : Int32)), .unset, .val (.int (Int32.ofNat (min bn 64))), .val (.int ((Int32.ofNat bn) - (Int32.ofNat (min bn 64))))]) rfl kz) ?_
        show Go p.tables e below P (T58.setTop (mkF m 173 #[.val (.long q0), .second, .val (.long q1), .second, .val (.long q2), .second, .val (.long q3), .second, .val (.int p8), .val (.int p9), .val (.int (0 : Int32)), .val (.int (0 : Int32)), .val (.int (Int32.ofNat bn)), .val (.long x0), .second, .val (.long x1), .second, .val (.ref b41), .val (.ref b42), .val (.ref b44), .val (.int (1 : Int32)), .unset, .val (.int (Int32.ofNat (min bn 64))), .val (.int ((Int32.ofNat bn) - (Int32.ofNat (min bn 64))))] []))
        rw [own_low bn hbn]
        show Go p.tables e below P (T58.setTop (mkF m 173 #[.val (.long q0), .second, .val (.long q1), .second, .val (.long q2), .second, .val (.long q3), .second, .val (.int p8), .val (.int p9), .val (.int (0 : Int32)), .val (.int (0 : Int32)), .val (.int (Int32.ofNat bn)), .val (.long x0), .second, .val (.long x1), .second, .val (.ref b41), .val (.ref b42), .val (.ref b44), .val (.int (1 : Int32)), .unset, .val (.int (Int32.ofNat (min bn 64))), .val (.int (Int32.ofNat (bn - min bn 64)))] []))
        refine Go.s (fun kz => XT.lloadN X58.here hx rfl (hb hby at_173) rfl kz) ?_
        refine Go.s (fun kz => XT.lload X58.here hx rfl (hb hby at_174) rfl kz) ?_
        refine Go.s (fun kz => XT.lxor X58.here hx rfl (hb hby at_176) rfl kz) ?_
        refine Go.s (fun kz => XS.iload X58.here hx rfl (hb hby at_177) rfl kz) ?_
        show Go p.tables e below P (T58.setTop (mkF m 179 #[.val (.long q0), .second, .val (.long q1), .second, .val (.long q2), .second, .val (.long q3), .second, .val (.int p8), .val (.int p9), .val (.int (0 : Int32)), .val (.int (0 : Int32)), .val (.int (Int32.ofNat bn)), .val (.long x0), .second, .val (.long x1), .second, .val (.ref b41), .val (.ref b42), .val (.ref b44), .val (.int (1 : Int32)), .unset, .val (.int (Int32.ofNat (min bn 64))), .val (.int (Int32.ofNat (bn - min bn 64)))] [(.int (Int32.ofNat (min bn 64))), (.long (q0 ^^^ x0))]))
        obtain ⟨v59, T59, L59, X59, Q59, st59⟩ := Con.static (own_rm7 l Z a0 hw [] (q0 ^^^ x0) (Int32.ofNat (min bn 64)) H52 n0 Zs52  ) X58 hx hZ (W := 0) hown (hw _ (List.mem_of_getElem? (i := 42) rfl)) (hw _ (List.mem_of_getElem? (i := 43) rfl)) (hw _ (List.mem_of_getElem? (i := 3) rfl)) (hw _ (List.mem_of_getElem? (i := 44) rfl)) (by decide) (by decide) (by decide) (by decide) (by decide) e58 (g := (mkF m 179 #[.val (.long q0), .second, .val (.long q1), .second, .val (.long q2), .second, .val (.long q3), .second, .val (.int p8), .val (.int p9), .val (.int (0 : Int32)), .val (.int (0 : Int32)), .val (.int (Int32.ofNat bn)), .val (.long x0), .second, .val (.long x1), .second, .val (.ref b41), .val (.ref b42), .val (.ref b44), .val (.int (1 : Int32)), .unset, .val (.int (Int32.ofNat (min bn 64))), .val (.int (Int32.ofNat (bn - min bn 64)))] [(.int (Int32.ofNat (min bn 64))), (.long (q0 ^^^ x0))])) rfl (by rw [hml]; rfl) (argsL := [(.long (q0 ^^^ x0)), (.int (Int32.ofNat (min bn 64)))]) (rest := []) rfl (lenOf own_pd_5 rfl) rfl (by show 2 * 0 + _ ≤ _; exact Nat.le_of_eq rfl) (hb hby at_179)
        obtain ⟨rfl, Nq59, e59⟩ := Q59
        have N59 := Fr.app N58 Nq59
        refine Go.s (fun {t} => st59) ?_
        show Go p.tables e below P (T59.setTop (mkF m 182 #[.val (.long q0), .second, .val (.long q1), .second, .val (.long q2), .second, .val (.long q3), .second, .val (.int p8), .val (.int p9), .val (.int (0 : Int32)), .val (.int (0 : Int32)), .val (.int (Int32.ofNat bn)), .val (.long x0), .second, .val (.long x1), .second, .val (.ref b41), .val (.ref b42), .val (.ref b44), .val (.int (1 : Int32)), .unset, .val (.int (Int32.ofNat (min bn 64))), .val (.int (Int32.ofNat (bn - min bn 64)))] [(.int (own_f7 (q0 ^^^ x0) (Int32.ofNat (min bn 64))))]))
        refine Go.s (fun kz => XS.ifNo X59.here hx rfl (hb hby at_182) rfl (XT.i0_eq_f (own_n0 _ ((own_want q0 q1 x0 x1 bn hbn).mp hg).1)) kz) ?_
        show Go p.tables e below P (T59.setTop (mkF m 185 #[.val (.long q0), .second, .val (.long q1), .second, .val (.long q2), .second, .val (.long q3), .second, .val (.int p8), .val (.int p9), .val (.int (0 : Int32)), .val (.int (0 : Int32)), .val (.int (Int32.ofNat bn)), .val (.long x0), .second, .val (.long x1), .second, .val (.ref b41), .val (.ref b42), .val (.ref b44), .val (.int (1 : Int32)), .unset, .val (.int (Int32.ofNat (min bn 64))), .val (.int (Int32.ofNat (bn - min bn 64)))] []))
        refine Go.s (fun kz => XT.lloadN X59.here hx rfl (hb hby at_185) rfl kz) ?_
        refine Go.s (fun kz => XT.lload X59.here hx rfl (hb hby at_186) rfl kz) ?_
        refine Go.s (fun kz => XT.lxor X59.here hx rfl (hb hby at_188) rfl kz) ?_
        refine Go.s (fun kz => XS.iload X59.here hx rfl (hb hby at_189) rfl kz) ?_
        show Go p.tables e below P (T59.setTop (mkF m 191 #[.val (.long q0), .second, .val (.long q1), .second, .val (.long q2), .second, .val (.long q3), .second, .val (.int p8), .val (.int p9), .val (.int (0 : Int32)), .val (.int (0 : Int32)), .val (.int (Int32.ofNat bn)), .val (.long x0), .second, .val (.long x1), .second, .val (.ref b41), .val (.ref b42), .val (.ref b44), .val (.int (1 : Int32)), .unset, .val (.int (Int32.ofNat (min bn 64))), .val (.int (Int32.ofNat (bn - min bn 64)))] [(.int (Int32.ofNat (bn - min bn 64))), (.long (q1 ^^^ x1))]))
        obtain ⟨v60, T60, L60, X60, Q60, st60⟩ := Con.static (own_rm7 l Z a0 hw [] (q1 ^^^ x1) (Int32.ofNat (bn - min bn 64)) H52 n0 Zs52  ) X59 hx hZ (W := 0) hown (hw _ (List.mem_of_getElem? (i := 42) rfl)) (hw _ (List.mem_of_getElem? (i := 43) rfl)) (hw _ (List.mem_of_getElem? (i := 3) rfl)) (hw _ (List.mem_of_getElem? (i := 44) rfl)) (by decide) (by decide) (by decide) (by decide) (by decide) e59 (g := (mkF m 191 #[.val (.long q0), .second, .val (.long q1), .second, .val (.long q2), .second, .val (.long q3), .second, .val (.int p8), .val (.int p9), .val (.int (0 : Int32)), .val (.int (0 : Int32)), .val (.int (Int32.ofNat bn)), .val (.long x0), .second, .val (.long x1), .second, .val (.ref b41), .val (.ref b42), .val (.ref b44), .val (.int (1 : Int32)), .unset, .val (.int (Int32.ofNat (min bn 64))), .val (.int (Int32.ofNat (bn - min bn 64)))] [(.int (Int32.ofNat (bn - min bn 64))), (.long (q1 ^^^ x1))])) rfl (by rw [hml]; rfl) (argsL := [(.long (q1 ^^^ x1)), (.int (Int32.ofNat (bn - min bn 64)))]) (rest := []) rfl (lenOf own_pd_5 rfl) rfl (by show 2 * 0 + _ ≤ _; exact Nat.le_of_eq rfl) (hb hby at_191)
        obtain ⟨rfl, Nq60, e60⟩ := Q60
        have N60 := Fr.app N59 Nq60
        refine Go.s (fun {t} => st60) ?_
        show Go p.tables e below P (T60.setTop (mkF m 194 #[.val (.long q0), .second, .val (.long q1), .second, .val (.long q2), .second, .val (.long q3), .second, .val (.int p8), .val (.int p9), .val (.int (0 : Int32)), .val (.int (0 : Int32)), .val (.int (Int32.ofNat bn)), .val (.long x0), .second, .val (.long x1), .second, .val (.ref b41), .val (.ref b42), .val (.ref b44), .val (.int (1 : Int32)), .unset, .val (.int (Int32.ofNat (min bn 64))), .val (.int (Int32.ofNat (bn - min bn 64)))] [(.int (own_f7 (q1 ^^^ x1) (Int32.ofNat (bn - min bn 64))))]))
        refine Go.s (fun kz => XS.ifNo X60.here hx rfl (hb hby at_194) rfl (XT.i0_eq_f (own_n0 _ ((own_want q0 q1 x0 x1 bn hbn).mp hg).2)) kz) ?_
        show Go p.tables e below P (T60.setTop (mkF m 197 #[.val (.long q0), .second, .val (.long q1), .second, .val (.long q2), .second, .val (.long q3), .second, .val (.int p8), .val (.int p9), .val (.int (0 : Int32)), .val (.int (0 : Int32)), .val (.int (Int32.ofNat bn)), .val (.long x0), .second, .val (.long x1), .second, .val (.ref b41), .val (.ref b42), .val (.ref b44), .val (.int (1 : Int32)), .unset, .val (.int (Int32.ofNat (min bn 64))), .val (.int (Int32.ofNat (bn - min bn 64)))] []))
        refine Go.s (fun kz => XS.iconst X60.here hx rfl (hb hby at_197) kz) ?_
        refine Go.s (fun kz => XS.goto X60.here hx rfl (pc0 := 198) (pc' := 202) rfl (hb hby at_198) (by decide) (by decide) kz) ?_
        show Go p.tables e below P (T60.setTop (mkF m 202 #[.val (.long q0), .second, .val (.long q1), .second, .val (.long q2), .second, .val (.long q3), .second, .val (.int p8), .val (.int p9), .val (.int (0 : Int32)), .val (.int (0 : Int32)), .val (.int (Int32.ofNat bn)), .val (.long x0), .second, .val (.long x1), .second, .val (.ref b41), .val (.ref b42), .val (.ref b44), .val (.int (1 : Int32)), .unset, .val (.int (Int32.ofNat (min bn 64))), .val (.int (Int32.ofNat (bn - min bn 64)))] [(.int (1 : Int32))]))
        refine Go.s (fun kz => XS.istore X60.here hx rfl (hb hby at_202) rfl (l' := #[.val (.long q0), .second, .val (.long q1), .second, .val (.long q2), .second, .val (.long q3), .second, .val (.int p8), .val (.int p9), .val (.int (0 : Int32)), .val (.int (0 : Int32)), .val (.int (Int32.ofNat bn)), .val (.long x0), .second, .val (.long x1), .second, .val (.ref b41), .val (.ref b42), .val (.ref b44), .val (.int (1 : Int32)), .val (.int (1 : Int32)), .val (.int (Int32.ofNat (min bn 64))), .val (.int (Int32.ofNat (bn - min bn 64)))]) rfl kz) ?_
        refine Go.s (fun kz => XS.iload X60.here hx rfl (hb hby at_204) rfl kz) ?_
        refine Go.s (fun kz => XS.iload X60.here hx rfl (hb hby at_206) rfl kz) ?_
        show Go p.tables e below P (T60.setTop (mkF m 208 #[.val (.long q0), .second, .val (.long q1), .second, .val (.long q2), .second, .val (.long q3), .second, .val (.int p8), .val (.int p9), .val (.int (0 : Int32)), .val (.int (0 : Int32)), .val (.int (Int32.ofNat bn)), .val (.long x0), .second, .val (.long x1), .second, .val (.ref b41), .val (.ref b42), .val (.ref b44), .val (.int (1 : Int32)), .val (.int (1 : Int32)), .val (.int (Int32.ofNat (min bn 64))), .val (.int (Int32.ofNat (bn - min bn 64)))] [(.int (1 : Int32)), (.int (1 : Int32))]))
        refine Go.s (fun kz => XS.icmpNo X60.here hx rfl (hb hby at_208) rfl (XT.ii_ne_f (by decide)) kz) ?_
        show Go p.tables e below P (T60.setTop (mkF m 211 #[.val (.long q0), .second, .val (.long q1), .second, .val (.long q2), .second, .val (.long q3), .second, .val (.int p8), .val (.int p9), .val (.int (0 : Int32)), .val (.int (0 : Int32)), .val (.int (Int32.ofNat bn)), .val (.long x0), .second, .val (.long x1), .second, .val (.ref b41), .val (.ref b42), .val (.ref b44), .val (.int (1 : Int32)), .val (.int (1 : Int32)), .val (.int (Int32.ofNat (min bn 64))), .val (.int (Int32.ofNat (bn - min bn 64)))] []))
        refine Go.s (fun kz => XS.iconst X60.here hx rfl (hb hby at_211) kz) ?_
        refine Go.s (fun kz => XS.goto X60.here hx rfl (pc0 := 212) (pc' := 216) rfl (hb hby at_212) (by decide) (by decide) kz) ?_
        show Go p.tables e below P (T60.setTop (mkF m 216 #[.val (.long q0), .second, .val (.long q1), .second, .val (.long q2), .second, .val (.long q3), .second, .val (.int p8), .val (.int p9), .val (.int (0 : Int32)), .val (.int (0 : Int32)), .val (.int (Int32.ofNat bn)), .val (.long x0), .second, .val (.long x1), .second, .val (.ref b41), .val (.ref b42), .val (.ref b44), .val (.int (1 : Int32)), .val (.int (1 : Int32)), .val (.int (Int32.ofNat (min bn 64))), .val (.int (Int32.ofNat (bn - min bn 64)))] [(.int (1 : Int32))]))
        exact Go.retZW X60 hx hlk hS (by rw [e60]; exact hk) hret (by decide) (hb hby at_216) (fun U hU hF => hP U _ _ ⟨rfl, N60⟩ ⟨hF.1, hF.2.1, hF.2.2.1, hF.2.2.2.mono (by decide) (by decide)⟩)
      · skip
        refine Go.s (fun {t} => st57) ?_
        show Go p.tables e below P (T57.setTop (mkF m 144 #[.val (.long q0), .second, .val (.long q1), .second, .val (.long q2), .second, .val (.long q3), .second, .val (.int p8), .val (.int p9), .val (.int (0 : Int32)), .val (.int (0 : Int32)), .val (.int (Int32.ofNat bn)), .val (.long x0), .second, .val (.long x1), .second, .val (.ref b41), .val (.ref b42), .val (.ref b44), .unset, .unset, .unset, .unset] [(.int (0 : Int32))]))
        refine Go.s (fun kz => XS.istore X57.here hx rfl (hb hby at_144) rfl (l' := #[.val (.long q0), .second, .val (.long q1), .second, .val (.long q2), .second, .val (.long q3), .second, .val (.int p8), .val (.int p9), .val (.int (0 : Int32)), .val (.int (0 : Int32)), .val (.int (Int32.ofNat bn)), .val (.long x0), .second, .val (.long x1), .second, .val (.ref b41), .val (.ref b42), .val (.ref b44), .val (.int (0 : Int32)), .unset, .unset, .unset]) rfl kz) ?_
        refine Go.s (fun kz => XS.iload X57.here hx rfl (hb hby at_146) rfl kz) ?_
        show Go p.tables e below P (T57.setTop (mkF m 148 #[.val (.long q0), .second, .val (.long q1), .second, .val (.long q2), .second, .val (.long q3), .second, .val (.int p8), .val (.int p9), .val (.int (0 : Int32)), .val (.int (0 : Int32)), .val (.int (Int32.ofNat bn)), .val (.long x0), .second, .val (.long x1), .second, .val (.ref b41), .val (.ref b42), .val (.ref b44), .val (.int (0 : Int32)), .unset, .unset, .unset] [(.int (0 : Int32))]))
        refine Go.s (fun kz => XS.ifYes X57.here hx rfl (pc0 := 148) (pc' := 157) rfl (hb hby at_148) rfl (XT.i0_eq_t (by decide)) (by decide) (by decide) kz) ?_
        show Go p.tables e below P (T57.setTop (mkF m 157 #[.val (.long q0), .second, .val (.long q1), .second, .val (.long q2), .second, .val (.long q3), .second, .val (.int p8), .val (.int p9), .val (.int (0 : Int32)), .val (.int (0 : Int32)), .val (.int (Int32.ofNat bn)), .val (.long x0), .second, .val (.long x1), .second, .val (.ref b41), .val (.ref b42), .val (.ref b44), .val (.int (0 : Int32)), .unset, .unset, .unset] []))
        refine Go.s (fun kz => XS.iload X57.here hx rfl (hb hby at_157) rfl kz) ?_
        refine Go.s (fun kz => XS.bipush X57.here hx rfl (hb hby at_159) kz) ?_
        show Go p.tables e below P (T57.setTop (mkF m 161 #[.val (.long q0), .second, .val (.long q1), .second, .val (.long q2), .second, .val (.long q3), .second, .val (.int p8), .val (.int p9), .val (.int (0 : Int32)), .val (.int (0 : Int32)), .val (.int (Int32.ofNat bn)), .val (.long x0), .second, .val (.long x1), .second, .val (.ref b41), .val (.ref b42), .val (.ref b44), .val (.int (0 : Int32)), .unset, .unset, .unset] [(.int (64 : Int32)), (.int (Int32.ofNat bn))]))
        obtain ⟨v61, T61, L61, X61, Q61, st61⟩ := Con.static (own_rm6 l Z a0 hw [] (Int32.ofNat bn) (64 : Int32) H52 n0 Zs52  ) X57 hx hZ (W := 0) hown (hw _ (List.mem_of_getElem? (i := 38) rfl)) (hw _ (List.mem_of_getElem? (i := 39) rfl)) (hw _ (List.mem_of_getElem? (i := 40) rfl)) (hw _ (List.mem_of_getElem? (i := 41) rfl)) (by decide) (by decide) (by decide) (by decide) (by decide) e57 (g := (mkF m 161 #[.val (.long q0), .second, .val (.long q1), .second, .val (.long q2), .second, .val (.long q3), .second, .val (.int p8), .val (.int p9), .val (.int (0 : Int32)), .val (.int (0 : Int32)), .val (.int (Int32.ofNat bn)), .val (.long x0), .second, .val (.long x1), .second, .val (.ref b41), .val (.ref b42), .val (.ref b44), .val (.int (0 : Int32)), .unset, .unset, .unset] [(.int (64 : Int32)), (.int (Int32.ofNat bn))])) rfl (by rw [hml]; rfl) (argsL := [(.int (Int32.ofNat bn)), (.int (64 : Int32))]) (rest := []) rfl (lenOf own_pd_4 rfl) rfl (by show 2 * 0 + _ ≤ _; exact Nat.le_of_eq rfl) (hb hby at_161)
        obtain ⟨rfl, Nq61, e61⟩ := Q61
        have N61 := Fr.app N57 Nq61
        refine Go.s (fun {t} => st61) ?_
        refine Go.s (fun kz => XS.istore X61.here hx rfl (hb hby at_164) rfl (l' := #[.val (.long q0), .second, .val (.long q1), .second, .val (.long q2), .second, .val (.long q3), .second, .val (.int p8), .val (.int p9), .val (.int (0 : Int32)), .val (.int (0 : Int32)), .val (.int (Int32.ofNat bn)), .val (.long x0), .second, .val (.long x1), .second, .val (.ref b41), .val (.ref b42), .val (.ref b44), .val (.int (0 : Int32)), .unset, .val (.int (own_f6 (Int32.ofNat bn) (64 : Int32))), .unset]) rfl kz) ?_
        show Go p.tables e below P (T61.setTop (mkF m 166 #[.val (.long q0), .second, .val (.long q1), .second, .val (.long q2), .second, .val (.long q3), .second, .val (.int p8), .val (.int p9), .val (.int (0 : Int32)), .val (.int (0 : Int32)), .val (.int (Int32.ofNat bn)), .val (.long x0), .second, .val (.long x1), .second, .val (.ref b41), .val (.ref b42), .val (.ref b44), .val (.int (0 : Int32)), .unset, .val (.int (own_f6 (Int32.ofNat bn) (64 : Int32))), .unset] []))
        rw [own_min bn hbn]
        show Go p.tables e below P (T61.setTop (mkF m 166 #[.val (.long q0), .second, .val (.long q1), .second, .val (.long q2), .second, .val (.long q3), .second, .val (.int p8), .val (.int p9), .val (.int (0 : Int32)), .val (.int (0 : Int32)), .val (.int (Int32.ofNat bn)), .val (.long x0), .second, .val (.long x1), .second, .val (.ref b41), .val (.ref b42), .val (.ref b44), .val (.int (0 : Int32)), .unset, .val (.int (Int32.ofNat (min bn 64))), .unset] []))
        refine Go.s (fun kz => XS.iload X61.here hx rfl (hb hby at_166) rfl kz) ?_
        refine Go.s (fun kz => XS.iload X61.here hx rfl (hb hby at_168) rfl kz) ?_
        refine Go.s (fun kz => XS.isub X61.here hx rfl (hb hby at_170) rfl kz) ?_
        refine Go.s (fun kz => XS.istore X61.here hx rfl (hb hby at_171) rfl (l' := #[.val (.long q0), .second, .val (.long q1), .second, .val (.long q2), .second, .val (.long q3), .second, .val (.int p8), .val (.int p9), .val (.int (0 : Int32)), .val (.int (0 : Int32)), .val (.int (Int32.ofNat bn)), .val (.long x0), .second, .val (.long x1), .second, .val (.ref b41), .val (.ref b42), .val (.ref b44), .val (.int (0 : Int32)), .unset, .val (.int (Int32.ofNat (min bn 64))), .val (.int ((Int32.ofNat bn) - (Int32.ofNat (min bn 64))))]) rfl kz) ?_
        show Go p.tables e below P (T61.setTop (mkF m 173 #[.val (.long q0), .second, .val (.long q1), .second, .val (.long q2), .second, .val (.long q3), .second, .val (.int p8), .val (.int p9), .val (.int (0 : Int32)), .val (.int (0 : Int32)), .val (.int (Int32.ofNat bn)), .val (.long x0), .second, .val (.long x1), .second, .val (.ref b41), .val (.ref b42), .val (.ref b44), .val (.int (0 : Int32)), .unset, .val (.int (Int32.ofNat (min bn 64))), .val (.int ((Int32.ofNat bn) - (Int32.ofNat (min bn 64))))] []))
        rw [own_low bn hbn]
        show Go p.tables e below P (T61.setTop (mkF m 173 #[.val (.long q0), .second, .val (.long q1), .second, .val (.long q2), .second, .val (.long q3), .second, .val (.int p8), .val (.int p9), .val (.int (0 : Int32)), .val (.int (0 : Int32)), .val (.int (Int32.ofNat bn)), .val (.long x0), .second, .val (.long x1), .second, .val (.ref b41), .val (.ref b42), .val (.ref b44), .val (.int (0 : Int32)), .unset, .val (.int (Int32.ofNat (min bn 64))), .val (.int (Int32.ofNat (bn - min bn 64)))] []))
        refine Go.s (fun kz => XT.lloadN X61.here hx rfl (hb hby at_173) rfl kz) ?_
        refine Go.s (fun kz => XT.lload X61.here hx rfl (hb hby at_174) rfl kz) ?_
        refine Go.s (fun kz => XT.lxor X61.here hx rfl (hb hby at_176) rfl kz) ?_
        refine Go.s (fun kz => XS.iload X61.here hx rfl (hb hby at_177) rfl kz) ?_
        show Go p.tables e below P (T61.setTop (mkF m 179 #[.val (.long q0), .second, .val (.long q1), .second, .val (.long q2), .second, .val (.long q3), .second, .val (.int p8), .val (.int p9), .val (.int (0 : Int32)), .val (.int (0 : Int32)), .val (.int (Int32.ofNat bn)), .val (.long x0), .second, .val (.long x1), .second, .val (.ref b41), .val (.ref b42), .val (.ref b44), .val (.int (0 : Int32)), .unset, .val (.int (Int32.ofNat (min bn 64))), .val (.int (Int32.ofNat (bn - min bn 64)))] [(.int (Int32.ofNat (min bn 64))), (.long (q0 ^^^ x0))]))
        obtain ⟨v62, T62, L62, X62, Q62, st62⟩ := Con.static (own_rm7 l Z a0 hw [] (q0 ^^^ x0) (Int32.ofNat (min bn 64)) H52 n0 Zs52  ) X61 hx hZ (W := 0) hown (hw _ (List.mem_of_getElem? (i := 42) rfl)) (hw _ (List.mem_of_getElem? (i := 43) rfl)) (hw _ (List.mem_of_getElem? (i := 3) rfl)) (hw _ (List.mem_of_getElem? (i := 44) rfl)) (by decide) (by decide) (by decide) (by decide) (by decide) e61 (g := (mkF m 179 #[.val (.long q0), .second, .val (.long q1), .second, .val (.long q2), .second, .val (.long q3), .second, .val (.int p8), .val (.int p9), .val (.int (0 : Int32)), .val (.int (0 : Int32)), .val (.int (Int32.ofNat bn)), .val (.long x0), .second, .val (.long x1), .second, .val (.ref b41), .val (.ref b42), .val (.ref b44), .val (.int (0 : Int32)), .unset, .val (.int (Int32.ofNat (min bn 64))), .val (.int (Int32.ofNat (bn - min bn 64)))] [(.int (Int32.ofNat (min bn 64))), (.long (q0 ^^^ x0))])) rfl (by rw [hml]; rfl) (argsL := [(.long (q0 ^^^ x0)), (.int (Int32.ofNat (min bn 64)))]) (rest := []) rfl (lenOf own_pd_5 rfl) rfl (by show 2 * 0 + _ ≤ _; exact Nat.le_of_eq rfl) (hb hby at_179)
        obtain ⟨rfl, Nq62, e62⟩ := Q62
        have N62 := Fr.app N61 Nq62
        refine Go.s (fun {t} => st62) ?_
        show Go p.tables e below P (T62.setTop (mkF m 182 #[.val (.long q0), .second, .val (.long q1), .second, .val (.long q2), .second, .val (.long q3), .second, .val (.int p8), .val (.int p9), .val (.int (0 : Int32)), .val (.int (0 : Int32)), .val (.int (Int32.ofNat bn)), .val (.long x0), .second, .val (.long x1), .second, .val (.ref b41), .val (.ref b42), .val (.ref b44), .val (.int (0 : Int32)), .unset, .val (.int (Int32.ofNat (min bn 64))), .val (.int (Int32.ofNat (bn - min bn 64)))] [(.int (own_f7 (q0 ^^^ x0) (Int32.ofNat (min bn 64))))]))
        by_cases hc182 : (own_f7 (q0 ^^^ x0) (Int32.ofNat (min bn 64))) = 0
        · skip
          refine Go.s (fun kz => XS.ifYes X62.here hx rfl (pc0 := 182) (pc' := 201) rfl (hb hby at_182) rfl (XT.i0_eq_t hc182) (by decide) (by decide) kz) ?_
          show Go p.tables e below P (T62.setTop (mkF m 201 #[.val (.long q0), .second, .val (.long q1), .second, .val (.long q2), .second, .val (.long q3), .second, .val (.int p8), .val (.int p9), .val (.int (0 : Int32)), .val (.int (0 : Int32)), .val (.int (Int32.ofNat bn)), .val (.long x0), .second, .val (.long x1), .second, .val (.ref b41), .val (.ref b42), .val (.ref b44), .val (.int (0 : Int32)), .unset, .val (.int (Int32.ofNat (min bn 64))), .val (.int (Int32.ofNat (bn - min bn 64)))] []))
          refine Go.s (fun kz => XS.iconst X62.here hx rfl (hb hby at_201) kz) ?_
          refine Go.s (fun kz => XS.istore X62.here hx rfl (hb hby at_202) rfl (l' := #[.val (.long q0), .second, .val (.long q1), .second, .val (.long q2), .second, .val (.long q3), .second, .val (.int p8), .val (.int p9), .val (.int (0 : Int32)), .val (.int (0 : Int32)), .val (.int (Int32.ofNat bn)), .val (.long x0), .second, .val (.long x1), .second, .val (.ref b41), .val (.ref b42), .val (.ref b44), .val (.int (0 : Int32)), .val (.int (0 : Int32)), .val (.int (Int32.ofNat (min bn 64))), .val (.int (Int32.ofNat (bn - min bn 64)))]) rfl kz) ?_
          refine Go.s (fun kz => XS.iload X62.here hx rfl (hb hby at_204) rfl kz) ?_
          refine Go.s (fun kz => XS.iload X62.here hx rfl (hb hby at_206) rfl kz) ?_
          show Go p.tables e below P (T62.setTop (mkF m 208 #[.val (.long q0), .second, .val (.long q1), .second, .val (.long q2), .second, .val (.long q3), .second, .val (.int p8), .val (.int p9), .val (.int (0 : Int32)), .val (.int (0 : Int32)), .val (.int (Int32.ofNat bn)), .val (.long x0), .second, .val (.long x1), .second, .val (.ref b41), .val (.ref b42), .val (.ref b44), .val (.int (0 : Int32)), .val (.int (0 : Int32)), .val (.int (Int32.ofNat (min bn 64))), .val (.int (Int32.ofNat (bn - min bn 64)))] [(.int (0 : Int32)), (.int (0 : Int32))]))
          refine Go.s (fun kz => XS.icmpNo X62.here hx rfl (hb hby at_208) rfl (XT.ii_ne_f (by decide)) kz) ?_
          show Go p.tables e below P (T62.setTop (mkF m 211 #[.val (.long q0), .second, .val (.long q1), .second, .val (.long q2), .second, .val (.long q3), .second, .val (.int p8), .val (.int p9), .val (.int (0 : Int32)), .val (.int (0 : Int32)), .val (.int (Int32.ofNat bn)), .val (.long x0), .second, .val (.long x1), .second, .val (.ref b41), .val (.ref b42), .val (.ref b44), .val (.int (0 : Int32)), .val (.int (0 : Int32)), .val (.int (Int32.ofNat (min bn 64))), .val (.int (Int32.ofNat (bn - min bn 64)))] []))
          refine Go.s (fun kz => XS.iconst X62.here hx rfl (hb hby at_211) kz) ?_
          refine Go.s (fun kz => XS.goto X62.here hx rfl (pc0 := 212) (pc' := 216) rfl (hb hby at_212) (by decide) (by decide) kz) ?_
          show Go p.tables e below P (T62.setTop (mkF m 216 #[.val (.long q0), .second, .val (.long q1), .second, .val (.long q2), .second, .val (.long q3), .second, .val (.int p8), .val (.int p9), .val (.int (0 : Int32)), .val (.int (0 : Int32)), .val (.int (Int32.ofNat bn)), .val (.long x0), .second, .val (.long x1), .second, .val (.ref b41), .val (.ref b42), .val (.ref b44), .val (.int (0 : Int32)), .val (.int (0 : Int32)), .val (.int (Int32.ofNat (min bn 64))), .val (.int (Int32.ofNat (bn - min bn 64)))] [(.int (1 : Int32))]))
          exact Go.retZW X62 hx hlk hS (by rw [e62]; exact hk) hret (by decide) (hb hby at_216) (fun U hU hF => hP U _ _ ⟨rfl, N62⟩ ⟨hF.1, hF.2.1, hF.2.2.1, hF.2.2.2.mono (by decide) (by decide)⟩)
        · skip
          refine Go.s (fun kz => XS.ifNo X62.here hx rfl (hb hby at_182) rfl (XT.i0_eq_f hc182) kz) ?_
          show Go p.tables e below P (T62.setTop (mkF m 185 #[.val (.long q0), .second, .val (.long q1), .second, .val (.long q2), .second, .val (.long q3), .second, .val (.int p8), .val (.int p9), .val (.int (0 : Int32)), .val (.int (0 : Int32)), .val (.int (Int32.ofNat bn)), .val (.long x0), .second, .val (.long x1), .second, .val (.ref b41), .val (.ref b42), .val (.ref b44), .val (.int (0 : Int32)), .unset, .val (.int (Int32.ofNat (min bn 64))), .val (.int (Int32.ofNat (bn - min bn 64)))] []))
          refine Go.s (fun kz => XT.lloadN X62.here hx rfl (hb hby at_185) rfl kz) ?_
          refine Go.s (fun kz => XT.lload X62.here hx rfl (hb hby at_186) rfl kz) ?_
          refine Go.s (fun kz => XT.lxor X62.here hx rfl (hb hby at_188) rfl kz) ?_
          refine Go.s (fun kz => XS.iload X62.here hx rfl (hb hby at_189) rfl kz) ?_
          show Go p.tables e below P (T62.setTop (mkF m 191 #[.val (.long q0), .second, .val (.long q1), .second, .val (.long q2), .second, .val (.long q3), .second, .val (.int p8), .val (.int p9), .val (.int (0 : Int32)), .val (.int (0 : Int32)), .val (.int (Int32.ofNat bn)), .val (.long x0), .second, .val (.long x1), .second, .val (.ref b41), .val (.ref b42), .val (.ref b44), .val (.int (0 : Int32)), .unset, .val (.int (Int32.ofNat (min bn 64))), .val (.int (Int32.ofNat (bn - min bn 64)))] [(.int (Int32.ofNat (bn - min bn 64))), (.long (q1 ^^^ x1))]))
          obtain ⟨v63, T63, L63, X63, Q63, st63⟩ := Con.static (own_rm7 l Z a0 hw [] (q1 ^^^ x1) (Int32.ofNat (bn - min bn 64)) H52 n0 Zs52  ) X62 hx hZ (W := 0) hown (hw _ (List.mem_of_getElem? (i := 42) rfl)) (hw _ (List.mem_of_getElem? (i := 43) rfl)) (hw _ (List.mem_of_getElem? (i := 3) rfl)) (hw _ (List.mem_of_getElem? (i := 44) rfl)) (by decide) (by decide) (by decide) (by decide) (by decide) e62 (g := (mkF m 191 #[.val (.long q0), .second, .val (.long q1), .second, .val (.long q2), .second, .val (.long q3), .second, .val (.int p8), .val (.int p9), .val (.int (0 : Int32)), .val (.int (0 : Int32)), .val (.int (Int32.ofNat bn)), .val (.long x0), .second, .val (.long x1), .second, .val (.ref b41), .val (.ref b42), .val (.ref b44), .val (.int (0 : Int32)), .unset, .val (.int (Int32.ofNat (min bn 64))), .val (.int (Int32.ofNat (bn - min bn 64)))] [(.int (Int32.ofNat (bn - min bn 64))), (.long (q1 ^^^ x1))])) rfl (by rw [hml]; rfl) (argsL := [(.long (q1 ^^^ x1)), (.int (Int32.ofNat (bn - min bn 64)))]) (rest := []) rfl (lenOf own_pd_5 rfl) rfl (by show 2 * 0 + _ ≤ _; exact Nat.le_of_eq rfl) (hb hby at_191)
          obtain ⟨rfl, Nq63, e63⟩ := Q63
          have N63 := Fr.app N62 Nq63
          refine Go.s (fun {t} => st63) ?_
          show Go p.tables e below P (T63.setTop (mkF m 194 #[.val (.long q0), .second, .val (.long q1), .second, .val (.long q2), .second, .val (.long q3), .second, .val (.int p8), .val (.int p9), .val (.int (0 : Int32)), .val (.int (0 : Int32)), .val (.int (Int32.ofNat bn)), .val (.long x0), .second, .val (.long x1), .second, .val (.ref b41), .val (.ref b42), .val (.ref b44), .val (.int (0 : Int32)), .unset, .val (.int (Int32.ofNat (min bn 64))), .val (.int (Int32.ofNat (bn - min bn 64)))] [(.int (own_f7 (q1 ^^^ x1) (Int32.ofNat (bn - min bn 64))))]))
          refine Go.s (fun kz => XS.ifYes X63.here hx rfl (pc0 := 194) (pc' := 201) rfl (hb hby at_194) rfl (XT.i0_eq_t (own_zero _ _ (by omega) fun z => hg ((own_want q0 q1 x0 x1 bn hbn).mpr ⟨own_one _ _ (by omega) hc182, z⟩))) (by decide) (by decide) kz) ?_
          show Go p.tables e below P (T63.setTop (mkF m 201 #[.val (.long q0), .second, .val (.long q1), .second, .val (.long q2), .second, .val (.long q3), .second, .val (.int p8), .val (.int p9), .val (.int (0 : Int32)), .val (.int (0 : Int32)), .val (.int (Int32.ofNat bn)), .val (.long x0), .second, .val (.long x1), .second, .val (.ref b41), .val (.ref b42), .val (.ref b44), .val (.int (0 : Int32)), .unset, .val (.int (Int32.ofNat (min bn 64))), .val (.int (Int32.ofNat (bn - min bn 64)))] []))
          refine Go.s (fun kz => XS.iconst X63.here hx rfl (hb hby at_201) kz) ?_
          refine Go.s (fun kz => XS.istore X63.here hx rfl (hb hby at_202) rfl (l' := #[.val (.long q0), .second, .val (.long q1), .second, .val (.long q2), .second, .val (.long q3), .second, .val (.int p8), .val (.int p9), .val (.int (0 : Int32)), .val (.int (0 : Int32)), .val (.int (Int32.ofNat bn)), .val (.long x0), .second, .val (.long x1), .second, .val (.ref b41), .val (.ref b42), .val (.ref b44), .val (.int (0 : Int32)), .val (.int (0 : Int32)), .val (.int (Int32.ofNat (min bn 64))), .val (.int (Int32.ofNat (bn - min bn 64)))]) rfl kz) ?_
          refine Go.s (fun kz => XS.iload X63.here hx rfl (hb hby at_204) rfl kz) ?_
          refine Go.s (fun kz => XS.iload X63.here hx rfl (hb hby at_206) rfl kz) ?_
          show Go p.tables e below P (T63.setTop (mkF m 208 #[.val (.long q0), .second, .val (.long q1), .second, .val (.long q2), .second, .val (.long q3), .second, .val (.int p8), .val (.int p9), .val (.int (0 : Int32)), .val (.int (0 : Int32)), .val (.int (Int32.ofNat bn)), .val (.long x0), .second, .val (.long x1), .second, .val (.ref b41), .val (.ref b42), .val (.ref b44), .val (.int (0 : Int32)), .val (.int (0 : Int32)), .val (.int (Int32.ofNat (min bn 64))), .val (.int (Int32.ofNat (bn - min bn 64)))] [(.int (0 : Int32)), (.int (0 : Int32))]))
          refine Go.s (fun kz => XS.icmpNo X63.here hx rfl (hb hby at_208) rfl (XT.ii_ne_f (by decide)) kz) ?_
          show Go p.tables e below P (T63.setTop (mkF m 211 #[.val (.long q0), .second, .val (.long q1), .second, .val (.long q2), .second, .val (.long q3), .second, .val (.int p8), .val (.int p9), .val (.int (0 : Int32)), .val (.int (0 : Int32)), .val (.int (Int32.ofNat bn)), .val (.long x0), .second, .val (.long x1), .second, .val (.ref b41), .val (.ref b42), .val (.ref b44), .val (.int (0 : Int32)), .val (.int (0 : Int32)), .val (.int (Int32.ofNat (min bn 64))), .val (.int (Int32.ofNat (bn - min bn 64)))] []))
          refine Go.s (fun kz => XS.iconst X63.here hx rfl (hb hby at_211) kz) ?_
          refine Go.s (fun kz => XS.goto X63.here hx rfl (pc0 := 212) (pc' := 216) rfl (hb hby at_212) (by decide) (by decide) kz) ?_
          show Go p.tables e below P (T63.setTop (mkF m 216 #[.val (.long q0), .second, .val (.long q1), .second, .val (.long q2), .second, .val (.long q3), .second, .val (.int p8), .val (.int p9), .val (.int (0 : Int32)), .val (.int (0 : Int32)), .val (.int (Int32.ofNat bn)), .val (.long x0), .second, .val (.long x1), .second, .val (.ref b41), .val (.ref b42), .val (.ref b44), .val (.int (0 : Int32)), .val (.int (0 : Int32)), .val (.int (Int32.ofNat (min bn 64))), .val (.int (Int32.ofNat (bn - min bn 64)))] [(.int (1 : Int32))]))
          exact Go.retZW X63 hx hlk hS (by rw [e63]; exact hk) hret (by decide) (hb hby at_216) (fun U hU hF => hP U _ _ ⟨rfl, N63⟩ ⟨hF.1, hF.2.1, hF.2.2.1, hF.2.2.2.mono (by decide) (by decide)⟩)
    · skip
      refine Go.s (fun kz => XS.ifNo X0.here hx rfl (hb hby at_18) rfl (XT.i0_eq_f hc18) kz) ?_
      show Go p.tables e below P (s₁.setTop (mkF m 21 #[.val (.long q0), .second, .val (.long q1), .second, .val (.long q2), .second, .val (.long q3), .second, .val (.int p8), .val (.int p9), .val (.int (0 : Int32)), .unset, .unset, .unset, .unset, .unset, .unset, .unset, .unset, .unset, .unset, .unset, .unset, .unset] []))
      refine Go.s (fun kz => XS.iconst X0.here hx rfl (hb hby at_21) kz) ?_
      refine Go.s (fun kz => XS.goto X0.here hx rfl (pc0 := 22) (pc' := 26) rfl (hb hby at_22) (by decide) (by decide) kz) ?_
      show Go p.tables e below P (s₁.setTop (mkF m 26 #[.val (.long q0), .second, .val (.long q1), .second, .val (.long q2), .second, .val (.long q3), .second, .val (.int p8), .val (.int p9), .val (.int (0 : Int32)), .unset, .unset, .unset, .unset, .unset, .unset, .unset, .unset, .unset, .unset, .unset, .unset, .unset] [(.int (1 : Int32))]))
      refine Go.s (fun kz => XS.istore X0.here hx rfl (hb hby at_26) rfl (l' := #[.val (.long q0), .second, .val (.long q1), .second, .val (.long q2), .second, .val (.long q3), .second, .val (.int p8), .val (.int p9), .val (.int (0 : Int32)), .val (.int (1 : Int32)), .unset, .unset, .unset, .unset, .unset, .unset, .unset, .unset, .unset, .unset, .unset, .unset]) rfl kz) ?_
      refine Go.s (fun kz => XS.iload X0.here hx rfl (hb hby at_28) rfl kz) ?_
      show Go p.tables e below P (s₁.setTop (mkF m 30 #[.val (.long q0), .second, .val (.long q1), .second, .val (.long q2), .second, .val (.long q3), .second, .val (.int p8), .val (.int p9), .val (.int (0 : Int32)), .val (.int (1 : Int32)), .unset, .unset, .unset, .unset, .unset, .unset, .unset, .unset, .unset, .unset, .unset, .unset] [(.int (0 : Int32))]))
      refine Go.s (fun kz => XS.ifYes X0.here hx rfl (pc0 := 30) (pc' := 45) rfl (hb hby at_30) rfl (XT.i0_eq_t (by decide)) (by decide) (by decide) kz) ?_
      show Go p.tables e below P (s₁.setTop (mkF m 45 #[.val (.long q0), .second, .val (.long q1), .second, .val (.long q2), .second, .val (.long q3), .second, .val (.int p8), .val (.int p9), .val (.int (0 : Int32)), .val (.int (1 : Int32)), .unset, .unset, .unset, .unset, .unset, .unset, .unset, .unset, .unset, .unset, .unset, .unset] []))
      refine Go.s (fun kz => XS.iload X0.here hx rfl (hb hby at_45) rfl kz) ?_
      refine Go.s (fun kz => X0.ldcI hx hown (mvT hZ (hw _ (List.mem_of_getElem? (i := 0) rfl))) rfl (hb hby at_47) kz) ?_
      refine Go.s (fun kz => XS.iand X0.here hx rfl (hb hby at_49) rfl kz) ?_
      refine Go.s (fun kz => XS.bipush X0.here hx rfl (hb hby at_50) kz) ?_
      show Go p.tables e below P (s₁.setTop (mkF m 52 #[.val (.long q0), .second, .val (.long q1), .second, .val (.long q2), .second, .val (.long q3), .second, .val (.int p8), .val (.int p9), .val (.int (0 : Int32)), .val (.int (1 : Int32)), .unset, .unset, .unset, .unset, .unset, .unset, .unset, .unset, .unset, .unset, .unset, .unset] [(.int (33 : Int32)), (.int (p8 &&& (2147483647 : Int32)))]))
      refine Go.s (fun kz => iremM X0 hx rfl (hb hby at_52) rfl (by decide) kz) ?_
      refine Go.s (fun kz => XS.istore X0.here hx rfl (hb hby at_53) rfl (l' := #[.val (.long q0), .second, .val (.long q1), .second, .val (.long q2), .second, .val (.long q3), .second, .val (.int p8), .val (.int p9), .val (.int (0 : Int32)), .val (.int (1 : Int32)), .val (.int ((p8 &&& (2147483647 : Int32)) % (33 : Int32))), .unset, .unset, .unset, .unset, .unset, .unset, .unset, .unset, .unset, .unset, .unset]) rfl kz) ?_
      show Go p.tables e below P (s₁.setTop (mkF m 55 #[.val (.long q0), .second, .val (.long q1), .second, .val (.long q2), .second, .val (.long q3), .second, .val (.int p8), .val (.int p9), .val (.int (0 : Int32)), .val (.int (1 : Int32)), .val (.int ((p8 &&& (2147483647 : Int32)) % (33 : Int32))), .unset, .unset, .unset, .unset, .unset, .unset, .unset, .unset, .unset, .unset, .unset] []))
      obtain ⟨bn, ebn, hbn'⟩ := own_b33 p8
      have hbn : bn ≤ 128 := by omega
      rw [ebn]
      show Go p.tables e below P (s₁.setTop (mkF m 55 #[.val (.long q0), .second, .val (.long q1), .second, .val (.long q2), .second, .val (.long q3), .second, .val (.int p8), .val (.int p9), .val (.int (0 : Int32)), .val (.int (1 : Int32)), .val (.int (Int32.ofNat bn)), .unset, .unset, .unset, .unset, .unset, .unset, .unset, .unset, .unset, .unset, .unset] []))
      refine Go.s (fun kz => XT.lloadN X0.here hx rfl (hb hby at_55) rfl kz) ?_
      refine Go.s (fun kz => XT.lload X0.here hx rfl (hb hby at_56) rfl kz) ?_
      refine Go.s (fun kz => XS.iload X0.here hx rfl (hb hby at_58) rfl kz) ?_
      refine Go.s (fun kz => XS.iconst X0.here hx rfl (hb hby at_60) kz) ?_
      refine Go.s (fun kz => XT.iushr X0.here hx rfl (hb hby at_61) rfl kz) ?_
      refine Go.s (fun kz => XS.bipush X0.here hx rfl (hb hby at_62) kz) ?_
      show Go p.tables e below P (s₁.setTop (mkF m 64 #[.val (.long q0), .second, .val (.long q1), .second, .val (.long q2), .second, .val (.long q3), .second, .val (.int p8), .val (.int p9), .val (.int (0 : Int32)), .val (.int (1 : Int32)), .val (.int (Int32.ofNat bn)), .unset, .unset, .unset, .unset, .unset, .unset, .unset, .unset, .unset, .unset, .unset] [(.int (63 : Int32)), (.int (XT.ushr p9 (2 : Int32))), (.long q2), (.long q0)]))
      refine Go.s (fun kz => XS.iand X0.here hx rfl (hb hby at_64) rfl kz) ?_
      refine Go.s (fun kz => XT.lushr X0.here hx rfl (hb hby at_65) rfl kz) ?_
      refine Go.s (fun kz => XT.lxor X0.here hx rfl (hb hby at_66) rfl kz) ?_
      refine Go.s (fun kz => XT.lstore X0.here hx rfl (hb hby at_67) rfl (l' := #[.val (.long q0), .second, .val (.long q1), .second, .val (.long q2), .second, .val (.long q3), .second, .val (.int p8), .val (.int p9), .val (.int (0 : Int32)), .val (.int (1 : Int32)), .val (.int (Int32.ofNat bn)), .val (.long (q0 ^^^ (XT.ushrL q2 ((XT.ushr p9 (2 : Int32)) &&& (63 : Int32))))), .second, .unset, .unset, .unset, .unset, .unset, .unset, .unset, .unset, .unset]) rfl kz) ?_
      show Go p.tables e below P (s₁.setTop (mkF m 69 #[.val (.long q0), .second, .val (.long q1), .second, .val (.long q2), .second, .val (.long q3), .second, .val (.int p8), .val (.int p9), .val (.int (0 : Int32)), .val (.int (1 : Int32)), .val (.int (Int32.ofNat bn)), .val (.long (q0 ^^^ (XT.ushrL q2 ((XT.ushr p9 (2 : Int32)) &&& (63 : Int32))))), .second, .unset, .unset, .unset, .unset, .unset, .unset, .unset, .unset, .unset] []))
      refine (?_ : ∀ x0 : Int64, x0 = (q0 ^^^ (XT.ushrL q2 ((XT.ushr p9 (2 : Int32)) &&& (63 : Int32)))) → Go p.tables e below P (s₁.setTop (mkF m 69 #[.val (.long q0), .second, .val (.long q1), .second, .val (.long q2), .second, .val (.long q3), .second, .val (.int p8), .val (.int p9), .val (.int (0 : Int32)), .val (.int (1 : Int32)), .val (.int (Int32.ofNat bn)), .val (.long x0), .second, .unset, .unset, .unset, .unset, .unset, .unset, .unset, .unset, .unset] []))) _ rfl
      intro x0 hx0
      refine Go.s (fun kz => XT.lloadN X0.here hx rfl (hb hby at_69) rfl kz) ?_
      refine Go.s (fun kz => XT.lload X0.here hx rfl (hb hby at_70) rfl kz) ?_
      refine Go.s (fun kz => XS.iload X0.here hx rfl (hb hby at_72) rfl kz) ?_
      refine Go.s (fun kz => XS.bipush X0.here hx rfl (hb hby at_74) kz) ?_
      refine Go.s (fun kz => XT.iushr X0.here hx rfl (hb hby at_76) rfl kz) ?_
      refine Go.s (fun kz => XS.bipush X0.here hx rfl (hb hby at_77) kz) ?_
      show Go p.tables e below P (s₁.setTop (mkF m 79 #[.val (.long q0), .second, .val (.long q1), .second, .val (.long q2), .second, .val (.long q3), .second, .val (.int p8), .val (.int p9), .val (.int (0 : Int32)), .val (.int (1 : Int32)), .val (.int (Int32.ofNat bn)), .val (.long x0), .second, .unset, .unset, .unset, .unset, .unset, .unset, .unset, .unset, .unset] [(.int (63 : Int32)), (.int (XT.ushr p9 (8 : Int32))), (.long q3), (.long q1)]))
      refine Go.s (fun kz => XS.iand X0.here hx rfl (hb hby at_79) rfl kz) ?_
      refine Go.s (fun kz => XT.lushr X0.here hx rfl (hb hby at_80) rfl kz) ?_
      refine Go.s (fun kz => XT.lxor X0.here hx rfl (hb hby at_81) rfl kz) ?_
      refine Go.s (fun kz => XT.lstore X0.here hx rfl (hb hby at_82) rfl (l' := #[.val (.long q0), .second, .val (.long q1), .second, .val (.long q2), .second, .val (.long q3), .second, .val (.int p8), .val (.int p9), .val (.int (0 : Int32)), .val (.int (1 : Int32)), .val (.int (Int32.ofNat bn)), .val (.long x0), .second, .val (.long (q1 ^^^ (XT.ushrL q3 ((XT.ushr p9 (8 : Int32)) &&& (63 : Int32))))), .second, .unset, .unset, .unset, .unset, .unset, .unset, .unset]) rfl kz) ?_
      show Go p.tables e below P (s₁.setTop (mkF m 84 #[.val (.long q0), .second, .val (.long q1), .second, .val (.long q2), .second, .val (.long q3), .second, .val (.int p8), .val (.int p9), .val (.int (0 : Int32)), .val (.int (1 : Int32)), .val (.int (Int32.ofNat bn)), .val (.long x0), .second, .val (.long (q1 ^^^ (XT.ushrL q3 ((XT.ushr p9 (8 : Int32)) &&& (63 : Int32))))), .second, .unset, .unset, .unset, .unset, .unset, .unset, .unset] []))
      refine (?_ : ∀ x1 : Int64, x1 = (q1 ^^^ (XT.ushrL q3 ((XT.ushr p9 (8 : Int32)) &&& (63 : Int32)))) → Go p.tables e below P (s₁.setTop (mkF m 84 #[.val (.long q0), .second, .val (.long q1), .second, .val (.long q2), .second, .val (.long q3), .second, .val (.int p8), .val (.int p9), .val (.int (0 : Int32)), .val (.int (1 : Int32)), .val (.int (Int32.ofNat bn)), .val (.long x0), .second, .val (.long x1), .second, .unset, .unset, .unset, .unset, .unset, .unset, .unset] []))) _ rfl
      intro x1 hx1
      refine Go.s (fun kz => XT.lloadN X0.here hx rfl (hb hby at_84) rfl kz) ?_
      refine Go.s (fun kz => XT.lloadN X0.here hx rfl (hb hby at_85) rfl kz) ?_
      refine Go.s (fun kz => XS.iload X0.here hx rfl (hb hby at_86) rfl kz) ?_
      show Go p.tables e below P (s₁.setTop (mkF m 88 #[.val (.long q0), .second, .val (.long q1), .second, .val (.long q2), .second, .val (.long q3), .second, .val (.int p8), .val (.int p9), .val (.int (0 : Int32)), .val (.int (1 : Int32)), .val (.int (Int32.ofNat bn)), .val (.long x0), .second, .val (.long x1), .second, .unset, .unset, .unset, .unset, .unset, .unset, .unset] [(.int (0 : Int32)), (.long q1), (.long q0)]))
      obtain ⟨v64, T64, L64, X64, Q64, st64⟩ := Con.static (own_rm1_0 l Z a0 hw [] q0 q1 h0 n0 Z0) X0 hx hZ (W := 0) hown (hw _ (List.mem_of_getElem? (i := 1) rfl)) (hw _ (List.mem_of_getElem? (i := 2) rfl)) (hw _ (List.mem_of_getElem? (i := 3) rfl)) (hw _ (List.mem_of_getElem? (i := 4) rfl)) (by decide) (by decide) (by decide) (by decide) (by decide) e0 (g := (mkF m 88 #[.val (.long q0), .second, .val (.long q1), .second, .val (.long q2), .second, .val (.long q3), .second, .val (.int p8), .val (.int p9), .val (.int (0 : Int32)), .val (.int (1 : Int32)), .val (.int (Int32.ofNat bn)), .val (.long x0), .second, .val (.long x1), .second, .unset, .unset, .unset, .unset, .unset, .unset, .unset] [(.int (0 : Int32)), (.long q1), (.long q0)])) rfl (by rw [hml]; rfl) (argsL := [(.long q0), (.long q1), (.int (0 : Int32))]) (rest := []) rfl (lenOf own_pd_1 rfl) rfl (by show 2 * 0 + _ ≤ _; exact Nat.le_of_eq rfl) (hb hby at_88)
      obtain ⟨H64, e64⟩ : ∃ z, T64.heap = z := ⟨_, rfl⟩
      rw [e64] at Q64
      obtain ⟨b64, rfl, Nq64, sz64, Kq64, Gb64⟩ := Q64
      have N64 := Fr.app N0 Nq64
      have G_b64 : n0 ≤ b64 := Nat.le_trans Z0 sz64
      have Zs64 := Nat.le_trans Z0 Kq64.1
      have hk := Nat.le_trans hk Kq64.1
      refine Go.s (fun {t} => st64) ?_
      refine Go.s (fun kz => XS.astore X64.here hx rfl (hb hby at_91) rfl rfl (l' := #[.val (.long q0), .second, .val (.long q1), .second, .val (.long q2), .second, .val (.long q3), .second, .val (.int p8), .val (.int p9), .val (.int (0 : Int32)), .val (.int (1 : Int32)), .val (.int (Int32.ofNat bn)), .val (.long x0), .second, .val (.long x1), .second, .val (.ref b64), .unset, .unset, .unset, .unset, .unset, .unset]) rfl kz) ?_
      refine Go.s (fun kz => XT.lload X64.here hx rfl (hb hby at_93) rfl kz) ?_
      refine Go.s (fun kz => XT.lload X64.here hx rfl (hb hby at_95) rfl kz) ?_
      refine Go.s (fun kz => XS.iload X64.here hx rfl (hb hby at_97) rfl kz) ?_
      show Go p.tables e below P (T64.setTop (mkF m 99 #[.val (.long q0), .second, .val (.long q1), .second, .val (.long q2), .second, .val (.long q3), .second, .val (.int p8), .val (.int p9), .val (.int (0 : Int32)), .val (.int (1 : Int32)), .val (.int (Int32.ofNat bn)), .val (.long x0), .second, .val (.long x1), .second, .val (.ref b64), .unset, .unset, .unset, .unset, .unset, .unset] [(.int (1 : Int32)), (.long x1), (.long x0)]))
      refine Go.s (fun kz => XS.ifNo X64.here hx rfl (hb hby at_99) rfl (XT.i0_eq_f (by decide)) kz) ?_
      show Go p.tables e below P (T64.setTop (mkF m 102 #[.val (.long q0), .second, .val (.long q1), .second, .val (.long q2), .second, .val (.long q3), .second, .val (.int p8), .val (.int p9), .val (.int (0 : Int32)), .val (.int (1 : Int32)), .val (.int (Int32.ofNat bn)), .val (.long x0), .second, .val (.long x1), .second, .val (.ref b64), .unset, .unset, .unset, .unset, .unset, .unset] [(.long x1), (.long x0)]))
      refine Go.s (fun kz => XS.iload X64.here hx rfl (hb hby at_102) rfl kz) ?_
      show Go p.tables e below P (T64.setTop (mkF m 104 #[.val (.long q0), .second, .val (.long q1), .second, .val (.long q2), .second, .val (.long q3), .second, .val (.int p8), .val (.int p9), .val (.int (0 : Int32)), .val (.int (1 : Int32)), .val (.int (Int32.ofNat bn)), .val (.long x0), .second, .val (.long x1), .second, .val (.ref b64), .unset, .unset, .unset, .unset, .unset, .unset] [(.int (0 : Int32)), (.long x1), (.long x0)]))
      refine Go.s (fun kz => XS.ifNo X64.here hx rfl (hb hby at_104) rfl (XT.i0_ne_f (by decide)) kz) ?_
      show Go p.tables e below P (T64.setTop (mkF m 107 #[.val (.long q0), .second, .val (.long q1), .second, .val (.long q2), .second, .val (.long q3), .second, .val (.int p8), .val (.int p9), .val (.int (0 : Int32)), .val (.int (1 : Int32)), .val (.int (Int32.ofNat bn)), .val (.long x0), .second, .val (.long x1), .second, .val (.ref b64), .unset, .unset, .unset, .unset, .unset, .unset] [(.long x1), (.long x0)]))
      refine Go.s (fun kz => XS.iconst X64.here hx rfl (hb hby at_107) kz) ?_
      refine Go.s (fun kz => XS.goto X64.here hx rfl (pc0 := 108) (pc' := 117) rfl (hb hby at_108) (by decide) (by decide) kz) ?_
      show Go p.tables e below P (T64.setTop (mkF m 117 #[.val (.long q0), .second, .val (.long q1), .second, .val (.long q2), .second, .val (.long q3), .second, .val (.int p8), .val (.int p9), .val (.int (0 : Int32)), .val (.int (1 : Int32)), .val (.int (Int32.ofNat bn)), .val (.long x0), .second, .val (.long x1), .second, .val (.ref b64), .unset, .unset, .unset, .unset, .unset, .unset] [(.int (1 : Int32)), (.long x1), (.long x0)]))
      obtain ⟨v65, T65, L65, X65, Q65, st65⟩ := Con.static (own_rm1_1 l Z a0 hw [] x0 x1 H64 n0 Zs64) X64 hx hZ (W := 0) hown (hw _ (List.mem_of_getElem? (i := 1) rfl)) (hw _ (List.mem_of_getElem? (i := 2) rfl)) (hw _ (List.mem_of_getElem? (i := 3) rfl)) (hw _ (List.mem_of_getElem? (i := 4) rfl)) (by decide) (by decide) (by decide) (by decide) (by decide) e64 (g := (mkF m 117 #[.val (.long q0), .second, .val (.long q1), .second, .val (.long q2), .second, .val (.long q3), .second, .val (.int p8), .val (.int p9), .val (.int (0 : Int32)), .val (.int (1 : Int32)), .val (.int (Int32.ofNat bn)), .val (.long x0), .second, .val (.long x1), .second, .val (.ref b64), .unset, .unset, .unset, .unset, .unset, .unset] [(.int (1 : Int32)), (.long x1), (.long x0)])) rfl (by rw [hml]; rfl) (argsL := [(.long x0), (.long x1), (.int (1 : Int32))]) (rest := []) rfl (lenOf own_pd_1 rfl) rfl (by show 2 * 0 + _ ≤ _; exact Nat.le_of_eq rfl) (hb hby at_117)
      obtain ⟨H65, e65⟩ : ∃ z, T65.heap = z := ⟨_, rfl⟩
      rw [e65] at Q65
      obtain ⟨b65, rfl, Nq65, sz65, Kq65, Gb65⟩ := Q65
      have N65 := Fr.app N64 Nq65
      have ne_b64_b65 : b64 ≠ b65 := Nat.ne_of_lt (Nat.lt_of_lt_of_le Gb64.lt sz65)
      have G_b65 : n0 ≤ b65 := Nat.le_trans Zs64 sz65
      have Zs65 := Nat.le_trans Zs64 Kq65.1
      have hk := Nat.le_trans hk Kq65.1
      have Gb64_66 := own_Byt.keep Gb64 Kq65 nin0
      refine Go.s (fun {t} => st65) ?_
      refine Go.s (fun kz => XS.astore X65.here hx rfl (hb hby at_120) rfl rfl (l' := #[.val (.long q0), .second, .val (.long q1), .second, .val (.long q2), .second, .val (.long q3), .second, .val (.int p8), .val (.int p9), .val (.int (0 : Int32)), .val (.int (1 : Int32)), .val (.int (Int32.ofNat bn)), .val (.long x0), .second, .val (.long x1), .second, .val (.ref b64), .val (.ref b65), .unset, .unset, .unset, .unset, .unset]) rfl kz) ?_
      show Go p.tables e below P (T65.setTop (mkF m 122 #[.val (.long q0), .second, .val (.long q1), .second, .val (.long q2), .second, .val (.long q3), .second, .val (.int p8), .val (.int p9), .val (.int (0 : Int32)), .val (.int (1 : Int32)), .val (.int (Int32.ofNat bn)), .val (.long x0), .second, .val (.long x1), .second, .val (.ref b64), .val (.ref b65), .unset, .unset, .unset, .unset, .unset] []))
      obtain ⟨T67, H67, X67, e67, E67, A67, D67, U67, st67⟩ := newO X65 hx hZ hown (hw _ (List.mem_of_getElem? (i := 6) rfl)) (hw _ (List.mem_of_getElem? (i := 7) rfl)) (hw _ (List.mem_of_getElem? (i := 8) rfl)) e65 (g := (mkF m 122 #[.val (.long q0), .second, .val (.long q1), .second, .val (.long q2), .second, .val (.long q3), .second, .val (.int p8), .val (.int p9), .val (.int (0 : Int32)), .val (.int (1 : Int32)), .val (.int (Int32.ofNat bn)), .val (.long x0), .second, .val (.long x1), .second, .val (.ref b64), .val (.ref b65), .unset, .unset, .unset, .unset, .unset] [])) rfl (hb hby at_122) (by decide) (by decide)
      refine Go.s (fun {t} => st67 t) ?_
      obtain ⟨b67, g67⟩ : ∃ z, z = H65.size := ⟨_, rfl⟩
      rw [← g67] at A67 D67 U67
      rw [← g67]
      have ne_b64_b67 : b64 ≠ b67 := Nat.ne_of_lt (Nat.lt_of_lt_of_le Gb64_66.lt (Nat.le_of_eq g67.symm))
      have ne_b65_b67 : b65 ≠ b67 := Nat.ne_of_lt (Nat.lt_of_lt_of_le Gb65.lt (Nat.le_of_eq g67.symm))
      have Gb64_68 := own_Byt.ext Gb64_66 E67
      have Gb65_69 := own_Byt.ext Gb65 E67
      have G_b67 : n0 ≤ b67 := Nat.le_trans Zs65 (Nat.le_of_eq g67.symm)
      have Zs67 := Nat.le_trans Zs65 E67.1
      have hk := Nat.le_trans hk E67.1
      have Kn67 := Kn.of_new U67
      refine Go.s (fun kz => XS.dup X67.here hx rfl (hb hby at_125) rfl rfl kz) ?_
      refine Go.s (fun kz => XS.aload X67.here hx rfl (hb hby at_126) rfl rfl kz) ?_
      refine Go.s (fun kz => XS.iload X67.here hx rfl (hb hby at_128) rfl kz) ?_
      obtain ⟨b70, T70, H70, ks70, X70, e70, E70, hS, hk, hZ, hown, st70⟩ := ldcS X67 hx hZ hown (hw _ (List.mem_of_getElem? (i := 9) rfl)) (own_wS hw) e67 hS hk (g := (mkF m 130 #[.val (.long q0), .second, .val (.long q1), .second, .val (.long q2), .second, .val (.long q3), .second, .val (.int p8), .val (.int p9), .val (.int (0 : Int32)), .val (.int (1 : Int32)), .val (.int (Int32.ofNat bn)), .val (.long x0), .second, .val (.long x1), .second, .val (.ref b64), .val (.ref b65), .unset, .unset, .unset, .unset, .unset] [(.int (Int32.ofNat bn)), (.ref b64), (.ref b67), (.ref b67)])) rfl (hb hby at_130) (n := 4) (by decide) (by decide) (by decide) (by decide)
      refine Go.s (fun {t} => st70 t) ?_
      have Gb64_71 := own_Byt.ext Gb64_68 E70
      have Gb65_72 := own_Byt.ext Gb65_69 E70
      have A67_73 := Exa.ext E70 A67
      have Kn67_74 := Kn.ext Kn67 E70
      have Zs70 := Nat.le_trans Zs67 E70.1
      show Go p.tables e below P (T70.setTop (mkF m 132 #[.val (.long q0), .second, .val (.long q1), .second, .val (.long q2), .second, .val (.long q3), .second, .val (.int p8), .val (.int p9), .val (.int (0 : Int32)), .val (.int (1 : Int32)), .val (.int (Int32.ofNat bn)), .val (.long x0), .second, .val (.long x1), .second, .val (.ref b64), .val (.ref b65), .unset, .unset, .unset, .unset, .unset] [(.ref b70), (.int (Int32.ofNat bn)), (.ref b64), (.ref b67), (.ref b67)]))
      obtain ⟨v75, T75, L75, X75, Q75, st75⟩ := Con.special (own_rm2 l Z a0 hw [] b67 (.ref b64) (Int32.ofNat bn) (.ref b70) H70 n0 Zs70 A67_73 Kn67_74 G_b67 rfl rfl ) rfl X70 hx hZ (W := 1) hown (hw _ (List.mem_of_getElem? (i := 16) rfl)) (hw _ (List.mem_of_getElem? (i := 17) rfl)) (hw _ (List.mem_of_getElem? (i := 8) rfl)) (hw _ (List.mem_of_getElem? (i := 18) rfl)) (by decide) (by decide) (by decide) (by decide) (by decide) e70 (g := (mkF m 132 #[.val (.long q0), .second, .val (.long q1), .second, .val (.long q2), .second, .val (.long q3), .second, .val (.int p8), .val (.int p9), .val (.int (0 : Int32)), .val (.int (1 : Int32)), .val (.int (Int32.ofNat bn)), .val (.long x0), .second, .val (.long x1), .second, .val (.ref b64), .val (.ref b65), .unset, .unset, .unset, .unset, .unset] [(.ref b70), (.int (Int32.ofNat bn)), (.ref b64), (.ref b67), (.ref b67)])) rfl (by rw [hml]; rfl) (argsL := [(.ref b64), (.int (Int32.ofNat bn)), (.ref b70)]) (rest := [(.ref b67)]) rfl (lenOf own_pd_2 rfl) rfl (by show 2 * 0 + _ ≤ _; exact Nat.le_of_eq rfl) (hb hby at_132)
      obtain ⟨H75, e75⟩ : ∃ z, T75.heap = z := ⟨_, rfl⟩
      rw [e75] at Q75
      obtain ⟨rfl, Nq75, Kq75, Fq75_bits, Fq75_prefix⟩ := Q75
      have N75 := Fr.app N65 Nq75
      have Zs75 := Nat.le_trans Zs70 Kq75.1
      have hk := Nat.le_trans hk Kq75.1
      have Gb64_76 := own_Byt.keep Gb64_71 Kq75 (ninS ne_b64_b67 nin0)
      have Gb65_77 := own_Byt.keep Gb65_72 Kq75 (ninS ne_b65_b67 nin0)
      have A67_78 := Exa.keep A67_73 Kq75
      have Kn67_79 := Kn.keep Kn67_74 Kq75
      refine Go.s (fun {t} => st75) ?_
      refine Go.s (fun kz => XS.astore X75.here hx rfl (hb hby at_135) rfl rfl (l' := #[.val (.long q0), .second, .val (.long q1), .second, .val (.long q2), .second, .val (.long q3), .second, .val (.int p8), .val (.int p9), .val (.int (0 : Int32)), .val (.int (1 : Int32)), .val (.int (Int32.ofNat bn)), .val (.long x0), .second, .val (.long x1), .second, .val (.ref b64), .val (.ref b65), .val (.ref b67), .unset, .unset, .unset, .unset]) rfl kz) ?_
      refine Go.s (fun kz => XS.aload X75.here hx rfl (hb hby at_137) rfl rfl kz) ?_
      refine Go.s (fun kz => XS.aload X75.here hx rfl (hb hby at_139) rfl rfl kz) ?_
      show Go p.tables e below P (T75.setTop (mkF m 141 #[.val (.long q0), .second, .val (.long q1), .second, .val (.long q2), .second, .val (.long q3), .second, .val (.int p8), .val (.int p9), .val (.int (0 : Int32)), .val (.int (1 : Int32)), .val (.int (Int32.ofNat bn)), .val (.long x0), .second, .val (.long x1), .second, .val (.ref b64), .val (.ref b65), .val (.ref b67), .unset, .unset, .unset, .unset] [(.ref b65), (.ref b67)]))
      obtain ⟨v80, T80, L80, X80, Q80, st80⟩ := Con.virtual (own_rm5_4_16 l Z a0 hw [] b67 b64 b65 bn (own_g q0 q1) (own_g x0 x1) H75 n0 Zs75 Fq75_prefix Fq75_bits Gb64_76 Gb65_77) X75 hx hZ (W := 0) hown (hw _ (List.mem_of_getElem? (i := 33) rfl)) (hw _ (List.mem_of_getElem? (i := 34) rfl)) (hw _ (List.mem_of_getElem? (i := 36) rfl)) (hw _ (List.mem_of_getElem? (i := 35) rfl)) (hw _ (List.mem_of_getElem? (i := 8) rfl)) (hw _ (List.mem_of_getElem? (i := 37) rfl)) (by decide) (by decide) (by decide) (by decide) (by decide) e75 (g := (mkF m 141 #[.val (.long q0), .second, .val (.long q1), .second, .val (.long q2), .second, .val (.long q3), .second, .val (.int p8), .val (.int p9), .val (.int (0 : Int32)), .val (.int (1 : Int32)), .val (.int (Int32.ofNat bn)), .val (.long x0), .second, .val (.long x1), .second, .val (.ref b64), .val (.ref b65), .val (.ref b67), .unset, .unset, .unset, .unset] [(.ref b65), (.ref b67)])) rfl (by rw [hml]; rfl) A67_78 (argsL := [(.ref b65)]) (rest := []) rfl (lenOf own_pd_3 rfl) rfl (by show 2 * 0 + _ ≤ _; exact Nat.le_of_eq rfl) (hb hby at_141)
      obtain ⟨rfl, Nq80, e80⟩ := Q80
      have N80 := Fr.app N75 Nq80
      refine Go.s (fun {t} => st80) ?_
      refine Go.s (fun kz => XS.istore X80.here hx rfl (hb hby at_144) rfl (l' := #[.val (.long q0), .second, .val (.long q1), .second, .val (.long q2), .second, .val (.long q3), .second, .val (.int p8), .val (.int p9), .val (.int (0 : Int32)), .val (.int (1 : Int32)), .val (.int (Int32.ofNat bn)), .val (.long x0), .second, .val (.long x1), .second, .val (.ref b64), .val (.ref b65), .val (.ref b67), .val (.int (0 : Int32)), .unset, .unset, .unset]) rfl kz) ?_
      refine Go.s (fun kz => XS.iload X80.here hx rfl (hb hby at_146) rfl kz) ?_
      show Go p.tables e below P (T80.setTop (mkF m 148 #[.val (.long q0), .second, .val (.long q1), .second, .val (.long q2), .second, .val (.long q3), .second, .val (.int p8), .val (.int p9), .val (.int (0 : Int32)), .val (.int (1 : Int32)), .val (.int (Int32.ofNat bn)), .val (.long x0), .second, .val (.long x1), .second, .val (.ref b64), .val (.ref b65), .val (.ref b67), .val (.int (0 : Int32)), .unset, .unset, .unset] [(.int (1 : Int32))]))
      refine Go.s (fun kz => XS.ifNo X80.here hx rfl (hb hby at_148) rfl (XT.i0_eq_f (by decide)) kz) ?_
      show Go p.tables e below P (T80.setTop (mkF m 151 #[.val (.long q0), .second, .val (.long q1), .second, .val (.long q2), .second, .val (.long q3), .second, .val (.int p8), .val (.int p9), .val (.int (0 : Int32)), .val (.int (1 : Int32)), .val (.int (Int32.ofNat bn)), .val (.long x0), .second, .val (.long x1), .second, .val (.ref b64), .val (.ref b65), .val (.ref b67), .val (.int (0 : Int32)), .unset, .unset, .unset] []))
      refine Go.s (fun kz => XS.iconst X80.here hx rfl (hb hby at_151) kz) ?_
      refine Go.s (fun kz => XS.istore X80.here hx rfl (hb hby at_152) rfl (l' := #[.val (.long q0), .second, .val (.long q1), .second, .val (.long q2), .second, .val (.long q3), .second, .val (.int p8), .val (.int p9), .val (.int (0 : Int32)), .val (.int (1 : Int32)), .val (.int (Int32.ofNat bn)), .val (.long x0), .second, .val (.long x1), .second, .val (.ref b64), .val (.ref b65), .val (.ref b67), .val (.int (0 : Int32)), .val (.int (0 : Int32)), .unset, .unset]) rfl kz) ?_
      refine Go.s (fun kz => XS.goto X80.here hx rfl (pc0 := 154) (pc' := 204) rfl (hb hby at_154) (by decide) (by decide) kz) ?_
      show Go p.tables e below P (T80.setTop (mkF m 204 #[.val (.long q0), .second, .val (.long q1), .second, .val (.long q2), .second, .val (.long q3), .second, .val (.int p8), .val (.int p9), .val (.int (0 : Int32)), .val (.int (1 : Int32)), .val (.int (Int32.ofNat bn)), .val (.long x0), .second, .val (.long x1), .second, .val (.ref b64), .val (.ref b65), .val (.ref b67), .val (.int (0 : Int32)), .val (.int (0 : Int32)), .unset, .unset] []))
      refine Go.s (fun kz => XS.iload X80.here hx rfl (hb hby at_204) rfl kz) ?_
      refine Go.s (fun kz => XS.iload X80.here hx rfl (hb hby at_206) rfl kz) ?_
      show Go p.tables e below P (T80.setTop (mkF m 208 #[.val (.long q0), .second, .val (.long q1), .second, .val (.long q2), .second, .val (.long q3), .second, .val (.int p8), .val (.int p9), .val (.int (0 : Int32)), .val (.int (1 : Int32)), .val (.int (Int32.ofNat bn)), .val (.long x0), .second, .val (.long x1), .second, .val (.ref b64), .val (.ref b65), .val (.ref b67), .val (.int (0 : Int32)), .val (.int (0 : Int32)), .unset, .unset] [(.int (0 : Int32)), (.int (0 : Int32))]))
      refine Go.s (fun kz => XS.icmpNo X80.here hx rfl (hb hby at_208) rfl (XT.ii_ne_f (by decide)) kz) ?_
      show Go p.tables e below P (T80.setTop (mkF m 211 #[.val (.long q0), .second, .val (.long q1), .second, .val (.long q2), .second, .val (.long q3), .second, .val (.int p8), .val (.int p9), .val (.int (0 : Int32)), .val (.int (1 : Int32)), .val (.int (Int32.ofNat bn)), .val (.long x0), .second, .val (.long x1), .second, .val (.ref b64), .val (.ref b65), .val (.ref b67), .val (.int (0 : Int32)), .val (.int (0 : Int32)), .unset, .unset] []))
      refine Go.s (fun kz => XS.iconst X80.here hx rfl (hb hby at_211) kz) ?_
      refine Go.s (fun kz => XS.goto X80.here hx rfl (pc0 := 212) (pc' := 216) rfl (hb hby at_212) (by decide) (by decide) kz) ?_
      show Go p.tables e below P (T80.setTop (mkF m 216 #[.val (.long q0), .second, .val (.long q1), .second, .val (.long q2), .second, .val (.long q3), .second, .val (.int p8), .val (.int p9), .val (.int (0 : Int32)), .val (.int (1 : Int32)), .val (.int (Int32.ofNat bn)), .val (.long x0), .second, .val (.long x1), .second, .val (.ref b64), .val (.ref b65), .val (.ref b67), .val (.int (0 : Int32)), .val (.int (0 : Int32)), .unset, .unset] [(.int (1 : Int32))]))
      exact Go.retZW X80 hx hlk hS (by rw [e80]; exact hk) hret (by decide) (hb hby at_216) (fun U hU hF => hP U _ _ ⟨rfl, N80⟩ ⟨hF.1, hF.2.1, hF.2.2.1, hF.2.2.2.mono (by decide) (by decide)⟩)
set_option maxRecDepth 65536 in
set_option maxHeartbeats 40000000 in
theorem own_comes {Post : Tables → Env → Array Value → State → Outcome → State → Prop} (hpost : ∀ tb e args s v u, (limb_1_1.after args s (.returned v) u = true ∧ limb_1_2.after args s (.returned v) u = true ∧ True) → ReturnedEndW s (.returned v) u (Jvm.fieldLocs frame_1_writes args s ++ Jvm.arrayLocs frame_1_arrays args s ++ Jvm.staticLocs frame_1_statics s) 16 1216 → Post tb e args s (.returned v) u) :
    ArmFor flags0 classFile x code maxLocals ret World_1 tables_1 room_1 Calls_1 rest_1 Pre_1 Post := by
  intro l hfl _ _ p e ha hc hk s m args below hf hA hF happ hP
  obtain ⟨hcalls, hrest, hpre⟩ := hP
  obtain ⟨-, -, -, hnamed, -, -, -, hat⟩ := (Spec.applies_iff hf).mp happ
  obtain ⟨hg, hn⟩ := and_e (Cond.before_iff.mp (show (Jvm.Cond.and given_1 narrow_1).before args s = true from hpre))
  obtain ⟨h1, g1⟩ := and_e hg
  obtain ⟨w0, w1, w2, w3, w4, w5, rfl⟩ : ∃ w0 w1 w2 w3 w4 w5 : Value, args = #[w0, w1, w2, w3, w4, w5] := by
    have hs : args.size = 6 := by simpa [Cond.value, given_1] using h1
    obtain ⟨L⟩ := args
    match L, hs with
    | [w0, w1, w2, w3, w4, w5], _ => exact ⟨w0, w1, w2, w3, w4, w5, rfl⟩
  have hw := fun d (hd : d ∈ tables_1) => atoms_spec (ws := Jvm.Cond.code x code maxLocals ret :: tables_1) hat d (List.mem_cons_of_mem _ hd)
  have hfit : Fit s := fun {y c} hc i hi => by
    obtain ⟨ha, rfl⟩ := Array.getElem?_eq_some_iff.mp hc
    have q := List.all_eq_true.mp ((Array.all_eq_true_iff_forall_mem.mp hF) _ (Array.getElem_mem ha)) i (List.mem_range.mpr hi)
    simpa [Array.getElem?_eq_getElem hi] using q
  obtain ⟨a0, g2⟩ := and_e g1
  obtain ⟨i0, ee0⟩ := isL_v a0
  obtain rfl : w0 = (.long i0) := Option.some.inj ee0
  obtain ⟨a1, g3⟩ := and_e g2
  obtain ⟨i1, ee1⟩ := isL_v a1
  obtain rfl : w1 = (.long i1) := Option.some.inj ee1
  obtain ⟨a2, g4⟩ := and_e g3
  obtain ⟨i2, ee2⟩ := isL_v a2
  obtain rfl : w2 = (.long i2) := Option.some.inj ee2
  obtain ⟨a3, g5⟩ := and_e g4
  obtain ⟨i3, ee3⟩ := isL_v a3
  obtain rfl : w3 = (.long i3) := Option.some.inj ee3
  obtain ⟨a4, g6⟩ := and_e g5
  obtain ⟨i4, ee4⟩ := is_v a4
  obtain rfl : w4 = (.int i4) := Option.some.inj ee4
  obtain ⟨i5, ee5⟩ := is_v g6
  obtain rfl : w5 = (.int i5) := Option.some.inj ee5
  obtain ⟨n, o, h1, h2, h3, _, L, rfl, ⟨rfl, N⟩, hq⟩ := own_rm0 l s _ hw tables_1 i0 i1 i2 i3 i4 i5  s.heap s.heap.size (Nat.le_refl _)  p e ha hc hk s m _ below hf ((Spec.applies_iff_loose hf).mp happ).1 ⟨rfl, State.Warmed39.refl s, rfl⟩ trivial
  refine ⟨n, _, h1, h2, h3, hpost _ _ _ _ _ _ ⟨Cond.after_iff.mpr rfl, Cond.after_iff.mpr (eq_i res_at (Term.int_eval (1)) rfl), trivial⟩ ⟨hq.1, hq.2.1, hq.2.2.1, (hq.2.2.2.sift fun y hy => Or.inr (N y hy)).mono (by decide) (by decide)⟩⟩
theorem main_1_1 : Claimed_1_1 := own_comes fun _ _ _ _ _ _ h hF => ⟨h.1, hF⟩
theorem main_1_2 : Claimed_1_2 := own_comes fun _ _ _ _ _ _ h hF => ⟨h.2.1, hF⟩
end Jvm.Pilot.@@N@@
namespace Jvm.Pilot.@@N@@
open Jvm Jvm.ClassFile Sem Op Lib Jvm.Free Jvm.Stand Jvm.Pilot.@@N@@.Jvm.D
/-! MADE BY PROGRAM (witnessworld.py) out of the Statement's table words and the real class files: 16 classes; the members and pool entries that the words name. The judged class is class 1, her method 1. -/
namespace start1
open Jvm.ClassFile
def u (s : String) : CpInfo := .utf8 (stringToUtf16 s)
/-- a pool by its gaps: so many unusable entries, then the entry; so many at the end -/
def gap : Nat → List CpInfo → List CpInfo
  | 0, r => r
  | n + 1, r => .unusable :: gap n r
def poolList (es : List (Nat × CpInfo)) (last : Nat) : List CpInfo := es.foldr (fun e r => gap e.1 (e.2 :: r)) (gap last [])
def pool (es : List (Nat × CpInfo)) (last : Nat) : Array CpInfo := ⟨poolList es last⟩
def fileOf (pool : Array CpInfo) (this : Nat) (attrs : Array Attribute := #[]) (ms : Array MethodInfo := #[]) (fl : Nat := 33) (sup : Nat := 0) (ifs : Array Nat := #[]) (fds : Array FieldInfo := #[]) : ClassFile where
  minorVersion := 0
  majorVersion := 65
  constantPool := pool
  accessFlags := fl
  thisClass := this
  superClass := sup
  interfaces := ifs
  fields := fds
  methods := ms
  attributes := attrs
def plain (name : String) (sup : Option ClassId) : Class where
  name := name
  kind := .ordinary
  loader := none
  accessFlags := 33
  super := sup
  interfaces := #[]
  cf := none
  fields := #[]
  methods := #[]
  instanceTypes := #[]
  staticTypes := #[]
  resolved := #[]
  callSites := []
  init := .initialized
  statics := none
  mirror := none

def pool0 : Array CpInfo := pool [(5, u "<init>"), (0, u "()V"), (1, .class_ 10), (1, u "java/lang/Object")] 113

def k0c0 : Code := { maxStack := 0, maxLocals := 1, code := object_method_1_code, exceptionTable := #[], attributes := #[] }
def k0m0 : Method := { name := "<init>", desc := "()V", sig := { parameters := [], returnType := none }, accessFlags := 1, code := some k0c0 }
/-- java/lang/Object -/
def k0 : Class := { plain "java/lang/Object" none with
  accessFlags := 33
  interfaces := #[]
  cf := some (fileOf pool0 8 #[] #[{ accessFlags := 1, nameIndex := 5, descriptorIndex := 6, attributes := #[] }] 33 0 #[] #[])
  fields := #[]
  methods := #[k0m0]
  instanceTypes := #[]
  staticTypes := #[]
  resolved := Array.replicate 124 none
  statics := none }

def pool1 : Array CpInfo := pool [(2, .class_ 4), (1, u "java/lang/Object"), (0, u "<init>"), (0, u "()V"), (0, .integer 2147483647), (0, .methodref 9 10), (0, .class_ 11), (0, .nameAndType 12 13), (0, u "com/example/heraldmesh/heraldmesh/feed/BlockHoldsPinLaw"), (0, u "bytes"), (0, u "(JJZ)[B"), (0, .class_ 15), (0, u "com/example/heraldmesh/heraldmesh/feed/Targets$Block"), (0, .string 17), (0, u own_text), (0, .methodref 14 19), (0, .nameAndType 5 20), (0, u "([BILjava/lang/String;)V"), (0, .methodref 14 22), (0, .nameAndType 23 24), (0, u "holds"), (0, u "([B)Z"), (0, .methodref 26 27), (0, .class_ 28), (0, .nameAndType 29 30), (0, u "java/lang/Math"), (0, u "min"), (0, u "(II)I"), (0, .methodref 9 32), (0, .nameAndType 33 34), (0, u "top"), (0, u "(JI)Z"), (2, u "law"), (0, u "(JJJJII)Z")] 9

def k1m0 : Method := { name := "<init>", desc := "()V", sig := { parameters := [], returnType := none }, accessFlags := 2, code := none }
def k1c1 : Code := { maxStack := 6, maxLocals := 24, code := code, exceptionTable := #[], attributes := #[] }
def k1m1 : Method := { name := "law", desc := "(JJJJII)Z", sig := { parameters := [.long, .long, .long, .long, .int, .int], returnType := some .boolean }, accessFlags := 9, code := some k1c1 }
def k1c2 : Code := { maxStack := 4, maxLocals := 3, code := method_3_code, exceptionTable := #[], attributes := #[] }
def k1m2 : Method := { name := "top", desc := "(JI)Z", sig := { parameters := [.long, .int], returnType := some .boolean }, accessFlags := 10, code := some k1c2 }
def k1c3 : Code := { maxStack := 5, maxLocals := 6, code := method_4_code, exceptionTable := #[], attributes := #[] }
def k1m3 : Method := { name := "bytes", desc := "(JJZ)[B", sig := { parameters := [.long, .long, .boolean], returnType := some (.array .byte) }, accessFlags := 10, code := some k1c3 }
/-- com/example/heraldmesh/heraldmesh/feed/BlockHoldsPinLaw -/
def k1 : Class := { plain "com/example/heraldmesh/heraldmesh/feed/BlockHoldsPinLaw" (some 0) with
  accessFlags := 49
  interfaces := #[]
  cf := some (fileOf pool1 9 #[] #[{ accessFlags := 2, nameIndex := 5, descriptorIndex := 6, attributes := #[] }, { accessFlags := 9, nameIndex := 37, descriptorIndex := 38, attributes := #[] }, { accessFlags := 10, nameIndex := 33, descriptorIndex := 34, attributes := #[] }, { accessFlags := 10, nameIndex := 12, descriptorIndex := 13, attributes := #[] }] 49 2 #[] #[])
  fields := #[]
  methods := #[k1m0, k1m1, k1m2, k1m3]
  instanceTypes := #[]
  staticTypes := #[]
  resolved := Array.replicate 48 none
  statics := none }

def pool2 : Array CpInfo := pool [(1, .methodref 2 3), (0, .class_ 4), (0, .nameAndType 5 6), (0, u "java/lang/Object"), (0, u "<init>"), (0, u "()V"), (0, .class_ 8), (0, u "java/lang/Record")] 13

def k2c0 : Code := { maxStack := 1, maxLocals := 1, code := jdk_30_method_1_code, exceptionTable := #[], attributes := #[] }
def k2m0 : Method := { name := "<init>", desc := "()V", sig := { parameters := [], returnType := none }, accessFlags := 4, code := some k2c0 }
/-- java/lang/Record -/
def k2 : Class := { plain "java/lang/Record" (some 0) with
  accessFlags := 1057
  interfaces := #[]
  cf := some (fileOf pool2 7 #[] #[{ accessFlags := 4, nameIndex := 5, descriptorIndex := 6, attributes := #[] }] 1057 2 #[] #[])
  fields := #[]
  methods := #[k2m0]
  instanceTypes := #[]
  staticTypes := #[]
  resolved := Array.replicate 22 none
  statics := none }

def pool3 : Array CpInfo := pool [(1, .methodref 2 3), (0, .class_ 4), (0, .nameAndType 5 6), (0, u "java/lang/Record"), (0, u "<init>"), (0, u "()V"), (0, .fieldref 8 9), (0, .class_ 10), (0, .nameAndType 11 12), (0, u "com/example/heraldmesh/heraldmesh/feed/Targets$Block"), (0, u "prefix"), (0, u "[B"), (0, .fieldref 8 14), (0, .nameAndType 15 16), (0, u "bits"), (0, u "I"), (0, .fieldref 8 18), (0, .nameAndType 19 20), (0, u "kind"), (0, u "Ljava/lang/String;"), (52, u "([BILjava/lang/String;)V"), (25, u "holds"), (0, u "([B)Z"), (6, .class_ 108), (0, u "com/example/heraldmesh/heraldmesh/feed/Targets")] 29

def k3c0 : Code := { maxStack := 2, maxLocals := 4, code := prog_43_method_1_code, exceptionTable := #[], attributes := #[] }
def k3m0 : Method := { name := "<init>", desc := "([BILjava/lang/String;)V", sig := { parameters := [(.array .byte), .int, (.object "java/lang/String")], returnType := none }, accessFlags := 0, code := some k3c0 }
def k3c1 : Code := { maxStack := 3, maxLocals := 5, code := prog_43_method_3_code, exceptionTable := #[], attributes := #[] }
def k3m1 : Method := { name := "holds", desc := "([B)Z", sig := { parameters := [(.array .byte)], returnType := some .boolean }, accessFlags := 0, code := some k3c1 }
/-- com/example/heraldmesh/heraldmesh/feed/Targets$Block -/
def k3 : Class := { plain "com/example/heraldmesh/heraldmesh/feed/Targets$Block" (some 2) with
  accessFlags := 48
  interfaces := #[]
  cf := some (fileOf pool3 8 #[.nestHost 107] #[{ accessFlags := 0, nameIndex := 5, descriptorIndex := 73, attributes := #[] }, { accessFlags := 0, nameIndex := 99, descriptorIndex := 100, attributes := #[] }] 48 2 #[] #[{ accessFlags := 18, nameIndex := 11, descriptorIndex := 12, attributes := #[] }, { accessFlags := 18, nameIndex := 15, descriptorIndex := 16, attributes := #[] }, { accessFlags := 18, nameIndex := 19, descriptorIndex := 20, attributes := #[] }])
  fields := #[{ name := "prefix", type := (.array .byte), accessFlags := 18, slot := 0, constantValue := 0 }, { name := "bits", type := .int, accessFlags := 18, slot := 1, constantValue := 0 }, { name := "kind", type := (.object "java/lang/String"), accessFlags := 18, slot := 2, constantValue := 0 }]
  methods := #[k3m0, k3m1]
  instanceTypes := #[(.array .byte), .int, (.object "java/lang/String")]
  staticTypes := #[]
  resolved := Array.replicate 138 none
  statics := none }

def pool4 : Array CpInfo := pool [(1, .class_ 2), (0, u "java/io/Serializable"), (0, .class_ 4), (0, u "java/lang/Object")] 2

/-- java/io/Serializable -/
def k4 : Class := { plain "java/io/Serializable" (some 0) with
  accessFlags := 1537
  interfaces := #[]
  cf := some (fileOf pool4 1 #[] #[] 1537 3 #[] #[])
  fields := #[]
  methods := #[]
  instanceTypes := #[]
  staticTypes := #[]
  resolved := Array.replicate 7 none
  statics := none }

def pool5 : Array CpInfo := pool [(1, .class_ 2), (0, u "java/lang/Comparable"), (0, .class_ 4), (0, u "java/lang/Object")] 7

/-- java/lang/Comparable -/
def k5 : Class := { plain "java/lang/Comparable" (some 0) with
  accessFlags := 1537
  interfaces := #[]
  cf := some (fileOf pool5 1 #[] #[] 1537 3 #[] #[])
  fields := #[]
  methods := #[]
  instanceTypes := #[]
  staticTypes := #[]
  resolved := Array.replicate 12 none
  statics := none }

def pool6 : Array CpInfo := pool [(2, .class_ 4), (1, u "java/lang/CharSequence"), (42, .class_ 48), (0, u "java/lang/CharSequence$1CodePointIterator"), (10, .class_ 60), (0, u "java/lang/CharSequence$1CharIterator"), (5, .class_ 67), (0, u "java/lang/Object")] 63

/-- java/lang/CharSequence -/
def k6 : Class := { plain "java/lang/CharSequence" (some 0) with
  accessFlags := 1537
  interfaces := #[]
  cf := some (fileOf pool6 2 #[.nestMembers #[47, 59]] #[] 1537 66 #[] #[])
  fields := #[]
  methods := #[]
  instanceTypes := #[]
  staticTypes := #[]
  resolved := Array.replicate 131 none
  statics := none }

def pool7 : Array CpInfo := pool [(1, .class_ 2), (0, u "java/lang/constant/Constable"), (0, .class_ 4), (0, u "java/lang/Object")] 6

/-- java/lang/constant/Constable -/
def k7 : Class := { plain "java/lang/constant/Constable" (some 0) with
  accessFlags := 1537
  interfaces := #[]
  cf := some (fileOf pool7 1 #[] #[] 1537 3 #[] #[])
  fields := #[]
  methods := #[]
  instanceTypes := #[]
  staticTypes := #[]
  resolved := Array.replicate 11 none
  statics := none }

def pool8 : Array CpInfo := pool [(1, .class_ 2), (0, u "java/lang/constant/ConstantDesc"), (0, .class_ 4), (0, u "java/lang/Object")] 32

/-- java/lang/constant/ConstantDesc -/
def k8 : Class := { plain "java/lang/constant/ConstantDesc" (some 0) with
  accessFlags := 1537
  interfaces := #[]
  cf := some (fileOf pool8 1 #[] #[] 1537 3 #[] #[])
  fields := #[]
  methods := #[]
  instanceTypes := #[]
  staticTypes := #[]
  resolved := Array.replicate 37 none
  statics := none }

def pool9 : Array CpInfo := pool [(2, .class_ 4), (1, u "java/lang/Object"), (0, u "<init>"), (0, u "()V"), (3, .class_ 12), (1, u "java/lang/String"), (0, u "value"), (0, u "[B"), (2, u "coder"), (0, u "B"), (2, u "hash"), (0, u "I"), (2, u "hashIsZero"), (0, u "Z"), (13, u "COMPACT_STRINGS"), (534, .class_ 576), (0, u "java/lang/CharSequence"), (22, u "CASE_INSENSITIVE_ORDER"), (0, u "Ljava/util/Comparator;"), (500, u "serialPersistentFields"), (0, u "[Ljava/io/ObjectStreamField;"), (0, .class_ 1104), (0, u "java/lang/String$CaseInsensitiveComparator"), (1, .class_ 1107), (0, u "java/io/Serializable"), (0, .class_ 1109), (0, u "java/lang/Comparable"), (0, .class_ 1111), (0, u "java/lang/constant/Constable"), (0, .class_ 1113), (0, u "java/lang/constant/ConstantDesc"), (2, u "serialVersionUID"), (0, u "J"), (3, u "REPL"), (0, u "C"), (2, u "LATIN1"), (1, u "UTF16")] 323

def k9m0 : Method := { name := "<init>", desc := "()V", sig := { parameters := [], returnType := none }, accessFlags := 1, code := none }
/-- java/lang/String -/
def k9 : Class := { plain "java/lang/String" (some 0) with
  accessFlags := 49
  interfaces := #[4, 5, 6, 7, 8]
  cf := some (fileOf pool9 10 #[.nestMembers #[1103]] #[{ accessFlags := 1, nameIndex := 5, descriptorIndex := 6, attributes := #[] }] 49 2 #[1106, 1108, 575, 1110, 1112] #[{ accessFlags := 18, nameIndex := 13, descriptorIndex := 14, attributes := #[] }, { accessFlags := 18, nameIndex := 17, descriptorIndex := 18, attributes := #[] }, { accessFlags := 2, nameIndex := 21, descriptorIndex := 22, attributes := #[] }, { accessFlags := 2, nameIndex := 25, descriptorIndex := 26, attributes := #[] }, { accessFlags := 26, nameIndex := 1116, descriptorIndex := 1117, attributes := #[] }, { accessFlags := 24, nameIndex := 40, descriptorIndex := 26, attributes := #[] }, { accessFlags := 26, nameIndex := 1101, descriptorIndex := 1102, attributes := #[] }, { accessFlags := 26, nameIndex := 1121, descriptorIndex := 1122, attributes := #[] }, { accessFlags := 25, nameIndex := 599, descriptorIndex := 600, attributes := #[] }, { accessFlags := 24, nameIndex := 1125, descriptorIndex := 18, attributes := #[] }, { accessFlags := 24, nameIndex := 1127, descriptorIndex := 18, attributes := #[] }])
  fields := #[{ name := "value", type := (.array .byte), accessFlags := 18, slot := 0, constantValue := 0 }, { name := "coder", type := .byte, accessFlags := 18, slot := 1, constantValue := 0 }, { name := "hash", type := .int, accessFlags := 2, slot := 2, constantValue := 0 }, { name := "hashIsZero", type := .boolean, accessFlags := 2, slot := 3, constantValue := 0 }, { name := "serialVersionUID", type := .long, accessFlags := 26, slot := 0, constantValue := 0 }, { name := "COMPACT_STRINGS", type := .boolean, accessFlags := 24, slot := 1, constantValue := 0 }, { name := "serialPersistentFields", type := (.array (.object "java/io/ObjectStreamField")), accessFlags := 26, slot := 2, constantValue := 0 }, { name := "REPL", type := .char, accessFlags := 26, slot := 3, constantValue := 0 }, { name := "CASE_INSENSITIVE_ORDER", type := (.object "java/util/Comparator"), accessFlags := 25, slot := 4, constantValue := 0 }, { name := "LATIN1", type := .byte, accessFlags := 24, slot := 5, constantValue := 0 }, { name := "UTF16", type := .byte, accessFlags := 24, slot := 6, constantValue := 0 }]
  methods := #[k9m0]
  instanceTypes := #[(.array .byte), .byte, .int, .boolean]
  staticTypes := #[.long, .boolean, (.array (.object "java/io/ObjectStreamField")), .char, (.object "java/util/Comparator"), .byte, .byte]
  resolved := Array.replicate 1451 none
  statics := none }

def pool10 : Array CpInfo := pool [(1, .class_ 2), (0, u "java/lang/Math"), (1, .class_ 6), (1, u "java/lang/Object"), (0, u "<init>"), (0, u "()V"), (89, .class_ 100), (1, u "java/lang/Math$RandomNumberGeneratorHolder"), (71, u "negativeZeroFloatBits"), (0, u "J"), (2, u "negativeZeroDoubleBits"), (24, u "min"), (43, u "$assertionsDisabled"), (0, u "Z"), (88, u "(II)I"), (2, u "twoToTheDoubleScaleDown"), (0, u "D"), (4, u "twoToTheDoubleScaleUp"), (9, u "E"), (3, u "PI"), (2, u "TAU"), (2, u "DEGREES_TO_RADIANS"), (0, u "RADIANS_TO_DEGREES")] 94

def k10m0 : Method := { name := "<init>", desc := "()V", sig := { parameters := [], returnType := none }, accessFlags := 2, code := none }
def k10c1 : Code := { maxStack := 2, maxLocals := 2, code := jdk_29_method_69_code, exceptionTable := #[], attributes := #[] }
def k10m1 : Method := { name := "min", desc := "(II)I", sig := { parameters := [.int, .int], returnType := some .int }, accessFlags := 9, code := some k10c1 }
/-- java/lang/Math -/
def k10 : Class := { plain "java/lang/Math" (some 0) with
  accessFlags := 49
  interfaces := #[]
  cf := some (fileOf pool10 1 #[.nestMembers #[98]] #[{ accessFlags := 2, nameIndex := 7, descriptorIndex := 8, attributes := #[] }, { accessFlags := 9, nameIndex := 201, descriptorIndex := 335, attributes := #[] }] 49 4 #[] #[{ accessFlags := 25, nameIndex := 354, descriptorIndex := 339, attributes := #[] }, { accessFlags := 25, nameIndex := 358, descriptorIndex := 339, attributes := #[] }, { accessFlags := 25, nameIndex := 361, descriptorIndex := 339, attributes := #[] }, { accessFlags := 26, nameIndex := 364, descriptorIndex := 339, attributes := #[] }, { accessFlags := 26, nameIndex := 365, descriptorIndex := 339, attributes := #[] }, { accessFlags := 26, nameIndex := 172, descriptorIndex := 173, attributes := #[] }, { accessFlags := 26, nameIndex := 176, descriptorIndex := 173, attributes := #[] }, { accessFlags := 8, nameIndex := 344, descriptorIndex := 339, attributes := #[] }, { accessFlags := 8, nameIndex := 338, descriptorIndex := 339, attributes := #[] }, { accessFlags := 4120, nameIndex := 245, descriptorIndex := 246, attributes := #[] }])
  fields := #[{ name := "E", type := .double, accessFlags := 25, slot := 0, constantValue := 0 }, { name := "PI", type := .double, accessFlags := 25, slot := 1, constantValue := 0 }, { name := "TAU", type := .double, accessFlags := 25, slot := 2, constantValue := 0 }, { name := "DEGREES_TO_RADIANS", type := .double, accessFlags := 26, slot := 3, constantValue := 0 }, { name := "RADIANS_TO_DEGREES", type := .double, accessFlags := 26, slot := 4, constantValue := 0 }, { name := "negativeZeroFloatBits", type := .long, accessFlags := 26, slot := 5, constantValue := 0 }, { name := "negativeZeroDoubleBits", type := .long, accessFlags := 26, slot := 6, constantValue := 0 }, { name := "twoToTheDoubleScaleUp", type := .double, accessFlags := 8, slot := 7, constantValue := 0 }, { name := "twoToTheDoubleScaleDown", type := .double, accessFlags := 8, slot := 8, constantValue := 0 }, { name := "$assertionsDisabled", type := .boolean, accessFlags := 4120, slot := 9, constantValue := 0 }]
  methods := #[k10m0, k10m1]
  instanceTypes := #[]
  staticTypes := #[.double, .double, .double, .double, .double, .long, .long, .double, .double, .boolean]
  resolved := Array.replicate 460 none
  statics := none }

def pool11 : Array CpInfo := pool [(1, u "java/lang/Cloneable"), (0, .class_ 1), (0, u "java/lang/Object"), (0, .class_ 3)] 3

/-- java/lang/Cloneable -/
def k11 : Class := { plain "java/lang/Cloneable" (some 0) with
  accessFlags := 1537
  interfaces := #[]
  cf := some (fileOf pool11 2 #[] #[] 1537 4 #[] #[])
  fields := #[]
  methods := #[]
  instanceTypes := #[]
  staticTypes := #[]
  resolved := Array.replicate 8 none
  statics := none }

/-- the primitive byte -/
def k12 : Class := { plain "byte" none with kind := .primitive 'B', accessFlags := 0x411 }
/-- [B -/
def k13 : Class := { plain "[B" (some 0) with kind := .array 12 .byte, interfaces := #[11, 4], accessFlags := 1041 }

/-- the primitive int -/
def k14 : Class := { plain "int" none with kind := .primitive 'I', accessFlags := 0x411 }
/-- [I -/
def k15 : Class := { plain "[I" (some 0) with kind := .array 14 .int, interfaces := #[11, 4], accessFlags := 1041 }

def heap : Heap := #[]
def classes : Array Class := #[k0, k1, k2, k3, k4, k5, k6, k7, k8, k9, k10, k11, k12, k13, k14, k15]
def interned : List (Array UInt16 × Addr) := []
def slotsUsed : Nat := 0
def theMethod : MethodId := ⟨1, 1⟩
def args0 : Array Value := #[.long 5, .long 6, .long 7, .long 8, .int 20, .int 4]
def aboutOver (below : List Frame) : State where
  vm := { classes := classes, interned := interned.toArray }
  heap := heap
  slotsUsed := slotsUsed
  threads := #[{ frames := .invoking theMethod args0 :: below }]
def below0 : List Frame := [.native { method := ⟨0, 0⟩, args := #[] }]
def about1 : State := aboutOver below0
def p0 : Program := .bare "" "" ""
def e0 : Env := launch0.env 0 0 0
theorem w_frames : about1.frames = Frame.invoking theMethod args0 :: below0 := rfl
set_option maxRecDepth 65536 in
theorem w_args : argsFit about1.vm theMethod args0 = true := by decide +kernel
set_option maxRecDepth 65536 in
theorem w_heap : heapFits about1 = true := by decide +kernel
set_option maxRecDepth 65536 in
theorem w_runnable : about1.curStatus? = some .runnable := by decide +kernel
set_option maxRecDepth 65536 in
theorem w_alone : about1.alone = true := by decide +kernel
set_option maxRecDepth 65536 in
theorem w_named : about1.methodNamed? x = some theMethod := by decide +kernel
set_option maxRecDepth 65536 in
theorem w_hears : about1.hears theMethod below0 = true := by decide +kernel
set_option maxRecDepth 65536 in
theorem w_ripe : about1.ripe theMethod args0 below0 = true := by decide +kernel
theorem w_running : about1.status = .running := rfl
set_option maxRecDepth 65536 in
theorem w_room : about1.hasRoom e0.platform room_1 = true :=
  launch0.hasRoom_least _ room_1 (by decide +kernel) (by decide +kernel) (by decide +kernel) (by decide +kernel) (by decide +kernel) (by decide +kernel)
theorem allAtoms_all (ts : List Jvm.Cond) (a : Array Jvm.Value) (st : Jvm.State) : (allAtoms ts).before a st = ts.all (fun c => c.before a st) := by
  induction ts with
  | nil => rfl
  | cons c t ih =>
    show (Jvm.Cond.and c (allAtoms t)).before a st = _
    rw [Jvm.Cond.before_and, ih, List.all_cons]
def words1 : List Jvm.Cond := Jvm.Cond.code x code maxLocals ret :: tables_1
/-- a 'code' word, met by the world's own term for the bytes: nothing is compared byte by byte -/
theorem code_word {y : MethodName} {bytes : ByteArray} {mx : Nat} {rt : Option FieldType} {a : Array Value} {s : State} {m : MethodId} {meth : Method} {c : Code} (h1 : s.methodNamed? y = some m) (h2 : s.vm.method? m = some meth) (h3 : meth.code = some c) (h4 : c.code = bytes)
    (h5 : (c.maxLocals == mx && c.exceptionTable.isEmpty && decide (c.maxStack ≤ mostOperands) && decide (meth.sig.returnType = rt) && !meth.locks && decide (parseMethodDescriptor y.desc = some meth.sig)) = true) : (Jvm.Cond.code y bytes mx rt).before a s = true := by
  simp only [Bool.and_eq_true, beq_iff_eq, Bool.not_eq_true', decide_eq_true_eq] at h5
  obtain ⟨⟨⟨⟨⟨g1, g2⟩, g3⟩, g4⟩, g5⟩, g6⟩ := h5
  simp [Cond.before, Cond.holds, Cond.value, h1, h2, h3, h4, g1, g2, g3, g4, g5, g6]
def isCode : Jvm.Cond → Bool
  | .code _ _ _ _ => true
  | _ => false
theorem all_split {L : List Jvm.Cond} {P : Jvm.Cond → Bool} (h1 : L.all (fun c => isCode c || P c) = true) (h2 : ∀ c ∈ L.filter isCode, P c = true) : L.all P = true := by
  refine List.all_eq_true.mpr fun c hc => ?_
  have h := List.all_eq_true.mp h1 c hc
  rcases Bool.eq_false_or_eq_true (isCode c) with hi | hi
  · exact h2 c (List.mem_filter.mpr ⟨hc, hi⟩)
  · simpa [hi] using h
set_option maxRecDepth 65536 in
theorem w_c0 : (Jvm.Cond.code x code maxLocals ret).before args0 about1 = true := code_word (m := ⟨1, 1⟩) (meth := k1m1) (c := k1c1) (by decide +kernel) rfl rfl rfl (by decide +kernel)
set_option maxRecDepth 65536 in
theorem w_c1 : (Jvm.Cond.code ({ cls := "com/example/heraldmesh/heraldmesh/feed/BlockHoldsPinLaw", name := "bytes", desc := "(JJZ)[B" } : Jvm.MethodName) method_4_code (6 : Nat) (Option.some (Jvm.ClassFile.FieldType.array Jvm.ClassFile.FieldType.byte))).before args0 about1 = true := code_word (m := ⟨1, 3⟩) (meth := k1m3) (c := k1c3) (by decide +kernel) rfl rfl rfl (by decide +kernel)
set_option maxRecDepth 65536 in
theorem w_c2 : (Jvm.Cond.code ({ cls := "com/example/heraldmesh/heraldmesh/feed/Targets$Block", name := "<init>", desc := "([BILjava/lang/String;)V" } : Jvm.MethodName) prog_43_method_1_code (4 : Nat) (Option.none : Option Jvm.ClassFile.FieldType)).before args0 about1 = true := code_word (m := ⟨3, 0⟩) (meth := k3m0) (c := k3c0) (by decide +kernel) rfl rfl rfl (by decide +kernel)
set_option maxRecDepth 65536 in
theorem w_c3 : (Jvm.Cond.code ({ cls := "java/lang/Record", name := "<init>", desc := "()V" } : Jvm.MethodName) jdk_30_method_1_code (1 : Nat) (Option.none : Option Jvm.ClassFile.FieldType)).before args0 about1 = true := code_word (m := ⟨2, 0⟩) (meth := k2m0) (c := k2c0) (by decide +kernel) rfl rfl rfl (by decide +kernel)
set_option maxRecDepth 65536 in
theorem w_c4 : (Jvm.Cond.code ({ cls := "java/lang/Object", name := "<init>", desc := "()V" } : Jvm.MethodName) object_method_1_code (1 : Nat) (Option.none : Option Jvm.ClassFile.FieldType)).before args0 about1 = true := code_word (m := ⟨0, 0⟩) (meth := k0m0) (c := k0c0) (by decide +kernel) rfl rfl rfl (by decide +kernel)
set_option maxRecDepth 65536 in
theorem w_c5 : (Jvm.Cond.code ({ cls := "com/example/heraldmesh/heraldmesh/feed/Targets$Block", name := "holds", desc := "([B)Z" } : Jvm.MethodName) prog_43_method_3_code (5 : Nat) (Option.some Jvm.ClassFile.FieldType.boolean)).before args0 about1 = true := code_word (m := ⟨3, 1⟩) (meth := k3m1) (c := k3c1) (by decide +kernel) rfl rfl rfl (by decide +kernel)
set_option maxRecDepth 65536 in
theorem w_c6 : (Jvm.Cond.code ({ cls := "java/lang/Math", name := "min", desc := "(II)I" } : Jvm.MethodName) jdk_29_method_69_code (2 : Nat) (Option.some Jvm.ClassFile.FieldType.int)).before args0 about1 = true := code_word (m := ⟨10, 1⟩) (meth := k10m1) (c := k10c1) (by decide +kernel) rfl rfl rfl (by decide +kernel)
set_option maxRecDepth 65536 in
theorem w_c7 : (Jvm.Cond.code ({ cls := "com/example/heraldmesh/heraldmesh/feed/BlockHoldsPinLaw", name := "top", desc := "(JI)Z" } : Jvm.MethodName) method_3_code (3 : Nat) (Option.some Jvm.ClassFile.FieldType.boolean)).before args0 about1 = true := code_word (m := ⟨1, 2⟩) (meth := k1m2) (c := k1c2) (by decide +kernel) rfl rfl rfl (by decide +kernel)
def codes1 : List Jvm.Cond := [Jvm.Cond.code x code maxLocals ret, Jvm.Cond.code ({ cls := "com/example/heraldmesh/heraldmesh/feed/BlockHoldsPinLaw", name := "bytes", desc := "(JJZ)[B" } : Jvm.MethodName) method_4_code (6 : Nat) (Option.some (Jvm.ClassFile.FieldType.array Jvm.ClassFile.FieldType.byte)), Jvm.Cond.code ({ cls := "com/example/heraldmesh/heraldmesh/feed/Targets$Block", name := "<init>", desc := "([BILjava/lang/String;)V" } : Jvm.MethodName) prog_43_method_1_code (4 : Nat) (Option.none : Option Jvm.ClassFile.FieldType), Jvm.Cond.code ({ cls := "java/lang/Record", name := "<init>", desc := "()V" } : Jvm.MethodName) jdk_30_method_1_code (1 : Nat) (Option.none : Option Jvm.ClassFile.FieldType), Jvm.Cond.code ({ cls := "java/lang/Object", name := "<init>", desc := "()V" } : Jvm.MethodName) object_method_1_code (1 : Nat) (Option.none : Option Jvm.ClassFile.FieldType), Jvm.Cond.code ({ cls := "com/example/heraldmesh/heraldmesh/feed/Targets$Block", name := "holds", desc := "([B)Z" } : Jvm.MethodName) prog_43_method_3_code (5 : Nat) (Option.some Jvm.ClassFile.FieldType.boolean), Jvm.Cond.code ({ cls := "java/lang/Math", name := "min", desc := "(II)I" } : Jvm.MethodName) jdk_29_method_69_code (2 : Nat) (Option.some Jvm.ClassFile.FieldType.int), Jvm.Cond.code ({ cls := "com/example/heraldmesh/heraldmesh/feed/BlockHoldsPinLaw", name := "top", desc := "(JI)Z" } : Jvm.MethodName) method_3_code (3 : Nat) (Option.some Jvm.ClassFile.FieldType.boolean)]
set_option maxRecDepth 65536 in
theorem codes_eq : words1.filter isCode = codes1 := rfl
theorem w_codes : ∀ c ∈ words1.filter isCode, c.before args0 about1 = true := by
  rw [codes_eq]
  intro c hc
  simp only [codes1, List.mem_cons, List.not_mem_nil, or_false] at hc
  rcases hc with rfl | rfl | rfl | rfl | rfl | rfl | rfl | rfl
  · exact w_c0
  · exact w_c1
  · exact w_c2
  · exact w_c3
  · exact w_c4
  · exact w_c5
  · exact w_c6
  · exact w_c7
set_option maxRecDepth 65536 in
theorem w_t1 : (words1.take 24).all (fun c => isCode c || c.before args0 about1) = true := by decide +kernel
set_option maxRecDepth 65536 in
theorem w_t2 : (words1.drop 24).all (fun c => isCode c || c.before args0 about1) = true := by decide +kernel
theorem w_tables : (allAtoms (Jvm.Cond.code x code maxLocals ret :: tables_1)).before args0 about1 = true := by
  rw [allAtoms_all]
  show words1.all (fun c => c.before args0 about1) = true
  refine all_split ?_ w_codes
  rw [← List.take_append_drop 24 words1, List.all_append, w_t1, w_t2]
  rfl
set_option maxRecDepth 65536 in
theorem w_case : (Jvm.Cond.and given_1 narrow_1).before args0 about1 = true := by decide +kernel
theorem w_applies : (headSpec (Jvm.Cond.code x code maxLocals ret :: tables_1) room_1).applies x e0.platform about1 = true :=
  (Spec.applies_iff w_frames).mpr ⟨w_running, w_runnable, w_alone, w_named, w_hears, w_ripe, w_room, w_tables⟩
theorem atStart : AtStart classFile x code maxLocals ret World_1 tables_1 room_1 Calls_1 rest_1 Pre_1 launch0 p0 e0 about1 theMethod args0 below0 :=
  ⟨lists_1, trivial, launch0.admits_env _ _ _, launch0.least_env, fairChoices_fair.cas, fairChoices_fair.clock, w_frames, w_args, w_heap, w_applies, trivial, trivial, w_case⟩
end start1
theorem witness_1 : WitnessClaimed_1 := ⟨start1.p0, start1.e0, start1.about1, start1.theMethod, start1.args0, start1.below0, start1.atStart⟩
end Jvm.Pilot.@@N@@
