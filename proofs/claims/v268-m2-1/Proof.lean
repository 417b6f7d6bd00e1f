import JvmDerived
import JvmDerived.Pilot.@@N@@Statement
import JvmDerived.Pilot.@@N@@Code
set_option linter.unusedVariables false
set_option linter.unusedSimpArgs false
@@BLOCK:NumsL.lean.txt@@
namespace Jvm.OwnKit
open Sem ClassFile Op Lib Jvm.Stand Jvm.Free Jvm.LawKit Jvm.RoadKit
def Go (tb : Tables) (e : Env) (below : List Frame) (P : State → Outcome → Prop) (S : State) : Prop := ∃ U o, Steps tb e below S U ∧ U.status = .running ∧ Ended U below o ∧ P U o
theorem Go.s {tb : Tables} {e : Env} {below : List Frame} {P : State → Outcome → Prop} {S S' : State} (k : ∀ {t : State}, Steps tb e below S' t → Steps tb e below S t) (f : Go tb e below P S') : Go tb e below P S := by
  obtain ⟨U, o, h1, h2⟩ := f
  exact ⟨U, o, k h1, h2⟩
theorem Go.cast {tb : Tables} {e : Env} {below : List Frame} {P : State → Outcome → Prop} {T : State} {g g' : JFrame} (q : g = g') (f : Go tb e below P (T.setTop g')) : Go tb e below P (T.setTop g) := q ▸ f
/-- the contract of a body, at one heap and one list of arguments -/
def Con (l : Launch) (Z : State) (y : MethodName) (bytes : ByteArray) (maxL : Nat) (ret : Option FieldType) (ws : List Jvm.Cond) (rm : Room) (as' : Array Value) (h : Heap) (Q : Option Value → Heap → List Loc → Prop) : Prop :=
  MetFree l y (head1 (Cond.code y bytes maxL ret :: ws) rm) (fun a U => a = as' ∧ Z.Warmed39 U.vm ∧ U.heap = h) (fun _ _ _ _ _ => True) (fun _ U o U' => ∃ v L, o = .returned v ∧ Q v U'.heap L ∧ FrameEnd U o U' L rm.cells rm.slots)
theorem Con.intro {l : Launch} {Z : State} {y : MethodName} {bytes : ByteArray} {maxL : Nat} {ret : Option FieldType} {ws : List Jvm.Cond} {rm : Room} {as' : Array Value} {h : Heap} {Q : Option Value → Heap → List Loc → Prop} (hpn : plainFor y = true)
    (body : ∀ (p : Program) (e : Env) (s : State) (m : MethodId) (below : List Frame) (meth : Method) (c : Code) (s₁ : State) (P : State → Outcome → Prop), p.tables.exec = Jvm.exec → c.code = bytes → c.maxLocals = maxL → s.vm.findClass y.cls = some m.cls → meth.name = y.name → meth.sig.returnType = ret → meth.locks = false → Z.Warmed39 s.vm →
      Stand p l e rm s m as' below meth c s₁ [] 0 0 → s₁.heap = h → (∀ U v L, Q v U.heap L → FrameEnd s (.returned v) U L rm.cells rm.slots → P U (.returned v)) → Go p.tables e below P (s₁.setTop (entryFrame m as' maxL))) :
    Con l Z y bytes maxL ret ws rm as' h Q := by
  refine MetFree.of_bodySF hpn hisR ?_
  intro p e s m args below meth c s₁ Bd hml0 hP hK
  obtain ⟨rfl, hZ, hh⟩ := hP
  exact body p e s m below meth c s₁ _ Bd.exec Bd.bytes hml0 (findClass_of_methodNamed Bd.named) (name_of_methodNamed Bd.named Bd.method).1 Bd.returns (BodyLoose.notSynchronized Bd) hZ (Stand.of_body Bd) (by rw [← hh, Bd.state]; rfl) fun U v L q f => ⟨v, L, rfl, q, f⟩
theorem Con.mono {l : Launch} {Z : State} {y : MethodName} {bytes : ByteArray} {maxL : Nat} {ret : Option FieldType} {ws : List Jvm.Cond} {rm : Room} {as' : Array Value} {h : Heap} {Q Q' : Option Value → Heap → List Loc → Prop} (C : Con l Z y bytes maxL ret ws rm as' h Q) (q : ∀ v h L, Q v h L → Q' v h L) : Con l Z y bytes maxL ret ws rm as' h Q' := by
  intro p e ha hc hk s m args below hf happ hP hK
  obtain ⟨n, o, h1, h2, h3, v, L, h4, h5, h6⟩ := C p e ha hc hk s m args below hf happ hP hK
  exact ⟨n, o, h1, h2, h3, v, L, h4, q _ _ _ h5, h6⟩
def ConH (l : Launch) (Z : State) (y : MethodName) (bytes : ByteArray) (maxL : Nat) (ret : Option FieldType) (hs : List (Nat × Nat × Nat × Nat)) (ws : List Jvm.Cond) (rm : Room) (as' : Array Value) (h : Heap) (Q : Option Value → Heap → List Loc → Prop) : Prop :=
  MetFree l y (head1 (Cond.codeWith y bytes maxL ret hs :: ws) rm) (fun a U => a = as' ∧ Z.Warmed39 U.vm ∧ U.heap = h) (fun _ _ _ _ _ => True) (fun _ U o U' => ∃ v L, o = .returned v ∧ Q v U'.heap L ∧ FrameEnd U o U' L rm.cells rm.slots)
theorem ConH.intro {l : Launch} {Z : State} {y : MethodName} {bytes : ByteArray} {maxL : Nat} {ret : Option FieldType} {hs : List (Nat × Nat × Nat × Nat)} {ws : List Jvm.Cond} {rm : Room} {as' : Array Value} {h : Heap} {Q : Option Value → Heap → List Loc → Prop} (hpn : plainFor y = true)
    (body : ∀ (p : Program) (e : Env) (s : State) (m : MethodId) (below : List Frame) (meth : Method) (c : Code) (s₁ : State) (P : State → Outcome → Prop), p.tables.exec = Jvm.exec → c.code = bytes → c.maxLocals = maxL → s.vm.findClass y.cls = some m.cls → meth.name = y.name → meth.sig.returnType = ret → meth.locks = false → Z.Warmed39 s.vm →
      Stand p l e rm s m as' below meth c s₁ [] 0 0 → s₁.heap = h → (∀ U v L, Q v U.heap L → FrameEnd s (.returned v) U L rm.cells rm.slots → P U (.returned v)) → Go p.tables e below P (s₁.setTop (entryFrame m as' maxL))) :
    ConH l Z y bytes maxL ret hs ws rm as' h Q := by
  refine MetFree.of_bodySF hpn hisWith ?_
  intro p e s m args below meth c s₁ Bd hml0 hP hK
  obtain ⟨rfl, hZ, hh⟩ := hP
  exact body p e s m below meth c s₁ _ Bd.exec Bd.bytes hml0 (findClass_of_methodNamed Bd.named) (name_of_methodNamed Bd.named Bd.method).1 Bd.returns (BodyLoose.notSynchronized Bd) hZ (Stand.of_body Bd) (by rw [← hh, Bd.state]; rfl) fun U v L q f => ⟨v, L, rfl, q, f⟩
section Walk
variable {p : Program} {l : Launch} {e : Env} {R : Room} {s : State} {m : MethodId} {args : Array Value} {below : List Frame} {meth : Method} {c : Code} {T : State} {locs : List Loc} {cells slots : Nat} {P : State → Outcome → Prop} {Z : State} {a0 : Array Value} {h : Heap}
theorem Go.ret (X : Stand p l e R s m args below meth c T locs cells slots) (hx : p.tables.exec = Jvm.exec) (hlk : meth.locks = false) {pc : Nat} {Ls : Array Slot} {w : Value} {t : FieldType} {i : Instr} {rest : List Value} (hret : meth.sig.returnType = some t) (hn : narrow t w = w)
    (hi : (i = .ireturn ∧ (t = .int ∨ t = .boolean ∨ t = .byte ∨ t = .char ∨ t = .short) ∧ ∃ z, w = .int z) ∨ (i = .lreturn ∧ t = .long ∧ ∃ z, w = .long z) ∨ (i = .dreturn ∧ t = .double ∧ ∃ z, w = .double z) ∨ (i = .freturn ∧ t = .float ∧ ∃ z, w = .float z) ∨ (i = .areturn ∧ t.isReference = true ∧ w.isRef = true))
    (hd : decode c.code pc = .ok (i, 1)) (hP : ∀ U : State, U.heap = T.heap → FrameEnd s (.returned (some w)) U locs cells slots → P U (.returned (some w))) : Go p.tables e below P (T.setTop (mkF m pc Ls (w :: rest))) := by
  obtain ⟨fs, hr, hrun, hended, hW, hsame⟩ := X.leave (v := some w) (fun h => by rw [hret] at h; cases h) hlk
  exact ⟨_, _, retOut X hx hret hn hi hd hr, hrun, hended, hP _ rfl ⟨⟨_, rfl⟩, hW, hsame⟩⟩
theorem Go.retI (X : Stand p l e R s m args below meth c T locs cells slots) (hx : p.tables.exec = Jvm.exec) (hlk : meth.locks = false) {pc : Nat} {Ls : Array Slot} {z : Int32} {rest : List Value} (hret : meth.sig.returnType = some .int)
    (hd : decode c.code pc = .ok (.ireturn, 1)) (hP : ∀ U : State, U.heap = T.heap → FrameEnd s (.returned (some (.int z))) U locs cells slots → P U (.returned (some (.int z)))) : Go p.tables e below P (T.setTop (mkF m pc Ls (.int z :: rest))) :=
  Go.ret X hx hlk hret rfl (Or.inl ⟨rfl, Or.inl rfl, _, rfl⟩) hd hP
theorem Go.retZ (X : Stand p l e R s m args below meth c T locs cells slots) (hx : p.tables.exec = Jvm.exec) (hlk : meth.locks = false) {pc : Nat} {Ls : Array Slot} {z : Int32} {rest : List Value} (hret : meth.sig.returnType = some .boolean) (hz : z = 0 ∨ z = 1)
    (hd : decode c.code pc = .ok (.ireturn, 1)) (hP : ∀ U : State, U.heap = T.heap → FrameEnd s (.returned (some (.int z))) U locs cells slots → P U (.returned (some (.int z)))) : Go p.tables e below P (T.setTop (mkF m pc Ls (.int z :: rest))) :=
  Go.ret X hx hlk hret (by rcases hz with rfl | rfl <;> rfl) (Or.inl ⟨rfl, Or.inr (Or.inl rfl), _, rfl⟩) hd hP
theorem Go.retJ (X : Stand p l e R s m args below meth c T locs cells slots) (hx : p.tables.exec = Jvm.exec) (hlk : meth.locks = false) {pc : Nat} {Ls : Array Slot} {z : Int64} {rest : List Value} (hret : meth.sig.returnType = some .long)
    (hd : decode c.code pc = .ok (.lreturn, 1)) (hP : ∀ U : State, U.heap = T.heap → FrameEnd s (.returned (some (.long z))) U locs cells slots → P U (.returned (some (.long z)))) : Go p.tables e below P (T.setTop (mkF m pc Ls (.long z :: rest))) :=
  Go.ret X hx hlk hret rfl (Or.inr (Or.inl ⟨rfl, rfl, _, rfl⟩)) hd hP
theorem Go.retR (X : Stand p l e R s m args below meth c T locs cells slots) (hx : p.tables.exec = Jvm.exec) (hlk : meth.locks = false) {pc : Nat} {Ls : Array Slot} {w : Value} {t : FieldType} {rest : List Value} (hret : meth.sig.returnType = some t) (ht : t.isReference = true) (hw : w.isRef = true)
    (hd : decode c.code pc = .ok (.areturn, 1)) (hP : ∀ U : State, U.heap = T.heap → FrameEnd s (.returned (some w)) U locs cells slots → P U (.returned (some w))) : Go p.tables e below P (T.setTop (mkF m pc Ls (w :: rest))) :=
  Go.ret X hx hlk hret (by rcases ref_cases hw with rfl | ⟨z, rfl⟩ <;> cases t <;> first | rfl | (cases ht)) (Or.inr (Or.inr (Or.inr (Or.inr ⟨rfl, ht, hw⟩)))) hd hP
theorem Go.retV (X : Stand p l e R s m args below meth c T locs cells slots) (hx : p.tables.exec = Jvm.exec) (hlk : meth.locks = false) {pc : Nat} {Ls : Array Slot} (hret : meth.sig.returnType = none)
    (hd : decode c.code pc = .ok (.return_, 1)) (hP : ∀ U : State, U.heap = T.heap → FrameEnd s (.returned none) U locs cells slots → P U (.returned none)) : Go p.tables e below P (T.setTop (mkF m pc Ls [])) := by
  obtain ⟨fs, hr, hrun, hended, hW, hsame⟩ := X.leave (v := none) (fun _ => rfl) hlk
  exact ⟨_, _, X.returnOut hx hret hd hr, hrun, hended, hP _ rfl ⟨⟨_, rfl⟩, hW, hsame⟩⟩
theorem Con.static {y : MethodName} {bytes : ByteArray} {maxL : Nat} {ret : Option FieldType} {rm : Room} {as' : Array Value} {Q : Option Value → Heap → List Loc → Prop} (C : Con l Z y bytes maxL ret [] rm as' h Q)
    (X : Stand p l e R s m args below meth c T locs cells slots) (hx : p.tables.exec = Jvm.exec) (hZ : Z.Warmed39 s.vm) {own : String} {index W : Nat} (hown : s.vm.findClass own = some m.cls)
    (wl : (Cond.methodLink own index y).before a0 Z = true) (wst : (Cond.static y).before a0 Z = true) (wz : (Cond.initialized y.cls).before a0 Z = true) (wc : (Cond.code y bytes maxL ret).before a0 Z = true)
    (hy : y.cls ≠ "java/lang/invoke/MethodHandle" ∧ y.cls ≠ "java/lang/invoke/VarHandle") (hf : rm.frames + 1 ≤ R.frames) (hl : W + (maxL + 11) + rm.locals ≤ R.locals) (hce : cells + rm.cells ≤ R.cells) (hsl : slots + rm.slots ≤ R.slots) (eT : T.heap = h)
    {g : JFrame} (hg : g.method = m) (hsize : g.locals.size = c.maxLocals) {argsL rest : List Value} (has : argsL.toArray = as') (hlen : ∀ sig, parseMethodDescriptor y.desc = some sig → argsL.length = sig.parameters.length)
    (hstack : g.stack = argsL.reverse ++ rest) (hW : 2 * g.monitorRoom + (rest.map fun v => v.category).sum ≤ W) (hdg : decode c.code g.pc = .ok (.invokestatic index, 3)) :
    ∃ (v : Option Value) (T' : State) (L : List Loc), Stand p l e R s m args below meth c T' (locs ++ L) (cells + rm.cells) (slots + rm.slots) ∧ Q v T'.heap L ∧
      ∀ {t : State}, Steps p.tables e below (T'.setTop { g with pc := g.pc + 3, stack := v.toList ++ rest }) t → Steps p.tables e below (T.setTop g) t := by
  obtain ⟨v, vm₁, ⟨T', L', k', n'⟩, -, X', ⟨L, hQ, e1, e2, e3⟩, st⟩ := Jvm.LawKit.callS X hx hown (mvT hZ wl) (mvT hZ wst) (mvT hZ wz) (mvT hZ wc) hy (backOf (W := W) C hZ wc wz hf hl) hg hsize hlen hstack hW hdg (fun _ _ => ⟨has, eT, hce, hsl⟩)
  dsimp only [Pt.U, Pt.locs, Pt.cells, Pt.slots] at X' e1 e2 e3 st hQ
  subst e1 e2 e3
  exact ⟨v, T', L, X', hQ, fun {t} k => st t k⟩
theorem Con.special {y : MethodName} {bytes : ByteArray} {maxL : Nat} {rm : Room} {as' : Array Value} {Q : Option Value → Heap → List Loc → Prop} (C : Con l Z y bytes maxL none [] rm as' h Q) (hy1 : y.name = "<init>")
    (X : Stand p l e R s m args below meth c T locs cells slots) (hx : p.tables.exec = Jvm.exec) (hZ : Z.Warmed39 s.vm) {own : String} {index W : Nat} (hown : s.vm.findClass own = some m.cls)
    (wl : (Cond.methodLink own index y).before a0 Z = true) (wi : (Cond.instanceMethod y).before a0 Z = true) (wz : (Cond.initialized y.cls).before a0 Z = true) (wc : (Cond.code y bytes maxL none).before a0 Z = true)
    (hy : y.cls ≠ "java/lang/invoke/MethodHandle" ∧ y.cls ≠ "java/lang/invoke/VarHandle") (hf : rm.frames + 1 ≤ R.frames) (hl : W + (maxL + 11) + rm.locals ≤ R.locals) (hce : cells + rm.cells ≤ R.cells) (hsl : slots + rm.slots ≤ R.slots) (eT : T.heap = h)
    {g : JFrame} (hg : g.method = m) (hsize : g.locals.size = c.maxLocals) {a : Addr} {argsL rest : List Value} (has : (Value.ref a :: argsL).toArray = as') (hlen : ∀ sig, parseMethodDescriptor y.desc = some sig → argsL.length = sig.parameters.length)
    (hstack : g.stack = argsL.reverse ++ .ref a :: rest) (hW : 2 * g.monitorRoom + (rest.map fun v => v.category).sum ≤ W) (hdg : decode c.code g.pc = .ok (.invokespecial index, 3)) :
    ∃ (v : Option Value) (T' : State) (L : List Loc), Stand p l e R s m args below meth c T' (locs ++ L) (cells + rm.cells) (slots + rm.slots) ∧ Q v T'.heap L ∧
      ∀ {t : State}, Steps p.tables e below (T'.setTop { g with pc := g.pc + 3, stack := v.toList ++ rest }) t → Steps p.tables e below (T.setTop g) t := by
  obtain ⟨v, vm₁, ⟨T', L', k', n'⟩, -, X', ⟨L, hQ, e1, e2, e3⟩, st⟩ := X.specialBack hx hy1 hown (mvT hZ wl) (mvT hZ wi) (mvT hZ wc) hy (backOf (W := W) C hZ wc wz hf hl) hg hsize (Steps.refl _) hlen hstack hW hdg (fun _ _ => ⟨has, eT, hce, hsl⟩)
  dsimp only [Pt.U, Pt.locs, Pt.cells, Pt.slots] at X' e1 e2 e3 st hQ
  subst e1 e2 e3
  exact ⟨v, T', L, X', hQ, fun {t} k => st.trans k⟩
theorem ConH.special {y : MethodName} {bytes : ByteArray} {maxL : Nat} {rm : Room} {as' : Array Value} {Q : Option Value → Heap → List Loc → Prop} {hs : List (Nat × Nat × Nat × Nat)} (C : ConH l Z y bytes maxL none hs [] rm as' h Q) (hy1 : y.name = "<init>")
    (X : Stand p l e R s m args below meth c T locs cells slots) (hx : p.tables.exec = Jvm.exec) (hZ : Z.Warmed39 s.vm) {own : String} {index W : Nat} (hown : s.vm.findClass own = some m.cls)
    (wl : (Cond.methodLink own index y).before a0 Z = true) (wi : (Cond.instanceMethod y).before a0 Z = true) (wz : (Cond.initialized y.cls).before a0 Z = true) (wc : (Cond.codeWith y bytes maxL none hs).before a0 Z = true)
    (hy : y.cls ≠ "java/lang/invoke/MethodHandle" ∧ y.cls ≠ "java/lang/invoke/VarHandle") (hf : rm.frames + 1 ≤ R.frames) (hl : W + (maxL + 11) + rm.locals ≤ R.locals) (hce : cells + rm.cells ≤ R.cells) (hsl : slots + rm.slots ≤ R.slots) (eT : T.heap = h)
    {g : JFrame} (hg : g.method = m) (hsize : g.locals.size = c.maxLocals) {a : Addr} {argsL rest : List Value} (has : (Value.ref a :: argsL).toArray = as') (hlen : ∀ sig, parseMethodDescriptor y.desc = some sig → argsL.length = sig.parameters.length)
    (hstack : g.stack = argsL.reverse ++ .ref a :: rest) (hW : 2 * g.monitorRoom + (rest.map fun v => v.category).sum ≤ W) (hdg : decode c.code g.pc = .ok (.invokespecial index, 3)) :
    ∃ (v : Option Value) (T' : State) (L : List Loc), Stand p l e R s m args below meth c T' (locs ++ L) (cells + rm.cells) (slots + rm.slots) ∧ Q v T'.heap L ∧
      ∀ {t : State}, Steps p.tables e below (T'.setTop { g with pc := g.pc + 3, stack := v.toList ++ rest }) t → Steps p.tables e below (T.setTop g) t := by
  obtain ⟨v, vm₁, ⟨T', L', k', n'⟩, -, X', ⟨L, hQ, e1, e2, e3⟩, st⟩ := X.specialBackH hx hy1 hown (mvT hZ wl) (mvT hZ wi) (mvT hZ wc) hy (backOfWith (W := W) C hZ wc wz hf hl) hg hsize (Steps.refl _) hlen hstack hW hdg (fun _ _ => ⟨has, eT, hce, hsl⟩)
  dsimp only [Pt.U, Pt.locs, Pt.cells, Pt.slots] at X' e1 e2 e3 st hQ
  subst e1 e2 e3
  exact ⟨v, T', L, X', hQ, fun {t} k => st.trans k⟩
theorem Con.virtual {y : MethodName} {bytes : ByteArray} {maxL : Nat} {ret : Option FieldType} {rm : Room} {as' : Array Value} {Q : Option Value → Heap → List Loc → Prop} (K : Con l Z y bytes maxL ret [] rm as' h Q)
    (X : Stand p l e R s m args below meth c T locs cells slots) (hx : p.tables.exec = Jvm.exec) (hZ : Z.Warmed39 s.vm) {own C : String} {index W : Nat} (hown : s.vm.findClass own = some m.cls)
    (wl : (Cond.methodLink own index y).before a0 Z = true) (wd : (Cond.declares y).before a0 Z = true) (wsel : (Cond.selects C y y).before a0 Z = true) (wi : (Cond.instanceMethod y).before a0 Z = true) (wz : (Cond.initialized y.cls).before a0 Z = true) (wc : (Cond.code y bytes maxL ret).before a0 Z = true)
    (hy : y.cls ≠ "java/lang/invoke/MethodHandle" ∧ y.cls ≠ "java/lang/invoke/VarHandle") (hf : rm.frames + 1 ≤ R.frames) (hl : W + (maxL + 11) + rm.locals ≤ R.locals) (hce : cells + rm.cells ≤ R.cells) (hsl : slots + rm.slots ≤ R.slots) (eT : T.heap = h)
    {g : JFrame} (hg : g.method = m) (hsize : g.locals.size = c.maxLocals) {a : Addr} (E : Exa Z h a C) {argsL rest : List Value} (has : (Value.ref a :: argsL).toArray = as') (hlen : ∀ sig, parseMethodDescriptor y.desc = some sig → argsL.length = sig.parameters.length)
    (hstack : g.stack = argsL.reverse ++ .ref a :: rest) (hW : 2 * g.monitorRoom + (rest.map fun v => v.category).sum ≤ W) (hdg : decode c.code g.pc = .ok (.invokevirtual index, 3)) :
    ∃ (v : Option Value) (T' : State) (L : List Loc), Stand p l e R s m args below meth c T' (locs ++ L) (cells + rm.cells) (slots + rm.slots) ∧ Q v T'.heap L ∧
      ∀ {t : State}, Steps p.tables e below (T'.setTop { g with pc := g.pc + 3, stack := v.toList ++ rest }) t → Steps p.tables e below (T.setTop g) t := by
  obtain ⟨cq, kq, qa, qb, qc⟩ := isOf hZ eT E
  obtain ⟨v, vm₁, ⟨T', L', k', n'⟩, -, X', ⟨L, hQ, e1, e2, e3⟩, st⟩ := X.virtualBack hx hown (mvT hZ wl) (mvT hZ wd) (notFace_of_selects (args := #[]) (mvT hZ wsel)) (mvT hZ wsel) (mvT hZ wi) hy (backOf (W := W) K hZ wc wz hf hl) qa qc hg hsize (Steps.refl _) hlen hstack hW hdg (fun _ _ => ⟨has, eT, hce, hsl⟩)
  dsimp only [Pt.U, Pt.locs, Pt.cells, Pt.slots] at X' e1 e2 e3 st hQ
  subst e1 e2 e3
  exact ⟨v, T', L, X', hQ, fun {t} k => st.trans k⟩
theorem Con.priv {y : MethodName} {bytes : ByteArray} {maxL : Nat} {ret : Option FieldType} {rm : Room} {as' : Array Value} {Q : Option Value → Heap → List Loc → Prop} (K : Con l Z y bytes maxL ret [] rm as' h Q)
    (X : Stand p l e R s m args below meth c T locs cells slots) (hx : p.tables.exec = Jvm.exec) (hZ : Z.Warmed39 s.vm) {own C : String} {index W kk : Nat} (hown : s.vm.findClass own = some m.cls)
    (wl : (Cond.methodLink own index y).before a0 Z = true) (wn : (Cond.instantiable y.cls kk).before a0 Z = true) (wp : (Cond.privateMethod y).before a0 Z = true) (wi : (Cond.instanceMethod y).before a0 Z = true) (wz : (Cond.initialized y.cls).before a0 Z = true) (wc : (Cond.code y bytes maxL ret).before a0 Z = true)
    (hy : y.cls ≠ "java/lang/invoke/MethodHandle" ∧ y.cls ≠ "java/lang/invoke/VarHandle") (hf : rm.frames + 1 ≤ R.frames) (hl : W + (maxL + 11) + rm.locals ≤ R.locals) (hce : cells + rm.cells ≤ R.cells) (hsl : slots + rm.slots ≤ R.slots) (eT : T.heap = h)
    {g : JFrame} (hg : g.method = m) (hsize : g.locals.size = c.maxLocals) {a : Addr} (E : Exa Z h a C) {argsL rest : List Value} (has : (Value.ref a :: argsL).toArray = as') (hlen : ∀ sig, parseMethodDescriptor y.desc = some sig → argsL.length = sig.parameters.length)
    (hstack : g.stack = argsL.reverse ++ .ref a :: rest) (hW : 2 * g.monitorRoom + (rest.map fun v => v.category).sum ≤ W) (hdg : decode c.code g.pc = .ok (.invokevirtual index, 3)) :
    ∃ (v : Option Value) (T' : State) (L : List Loc), Stand p l e R s m args below meth c T' (locs ++ L) (cells + rm.cells) (slots + rm.slots) ∧ Q v T'.heap L ∧
      ∀ {t : State}, Steps p.tables e below (T'.setTop { g with pc := g.pc + 3, stack := v.toList ++ rest }) t → Steps p.tables e below (T.setTop g) t := by
  have hpa : s.PrivateAt y := Cond.privateMethod_at (mvP hZ wp (args := args))
  have win : (Cond.instanceMethod y).before args s = true := mvT hZ wi
  have wnn : (Cond.instantiable y.cls kk).before args s = true := mvT hZ wn
  obtain ⟨ci, ki, i1, i2, i3, i4, -⟩ := Cond.instantiable_spec wnn
  have hni : ki.isInterface = false := (Bool.or_eq_false_iff.mp i4).1
  obtain ⟨cl, hcl, hob⟩ := E.cell
  obtain ⟨v, vm₁, ⟨T', L', k', n'⟩, -, X', ⟨L, hQ, e1, e2, e3⟩, st⟩ := X.privateBack hx hown (mvT hZ wl) win (selects_self_of_private i1 i2 hni hpa win hy) hpa (mvT hZ wc) hy (backOf (W := W) K hZ wc wz hf hl) hg hsize (Steps.refl _) (by rw [eT]; exact hcl) hob hlen hstack hW hdg (fun _ _ => ⟨has, eT, hce, hsl⟩)
  dsimp only [Pt.U, Pt.locs, Pt.cells, Pt.slots] at X' e1 e2 e3 st hQ
  subst e1 e2 e3
  exact ⟨v, T', L, X', hQ, fun {t} k => st.trans k⟩
theorem Con.virtualUp {x z : MethodName} {bytes : ByteArray} {maxL : Nat} {ret : Option FieldType} {rm : Room} {as' : Array Value} {Q : Option Value → Heap → List Loc → Prop} (K : Con l Z z bytes maxL ret [] rm as' h Q)
    (X : Stand p l e R s m args below meth c T locs cells slots) (hx : p.tables.exec = Jvm.exec) (hZ : Z.Warmed39 s.vm) {own C owner : String} {index W : Nat} (hown : s.vm.findClass own = some m.cls)
    (wl : (Cond.methodLink own index x).before a0 Z = true) (wsm : (Cond.sameMethod x.cls owner x.name x.desc).before a0 Z = true) (wd : (Cond.declares ⟨owner, x.name, x.desc⟩).before a0 Z = true) (wsel : (Cond.selects C x z).before a0 Z = true) (wi : (Cond.instanceMethod z).before a0 Z = true) (wz : (Cond.initialized z.cls).before a0 Z = true) (wc : (Cond.code z bytes maxL ret).before a0 Z = true)
    (ho : owner ≠ "java/lang/invoke/MethodHandle" ∧ owner ≠ "java/lang/invoke/VarHandle") (hf : rm.frames + 1 ≤ R.frames) (hl : W + (maxL + 11) + rm.locals ≤ R.locals) (hce : cells + rm.cells ≤ R.cells) (hsl : slots + rm.slots ≤ R.slots) (eT : T.heap = h)
    {g : JFrame} (hg : g.method = m) (hsize : g.locals.size = c.maxLocals) {a : Addr} (E : Exa Z h a C) {argsL rest : List Value} (has : (Value.ref a :: argsL).toArray = as') (hlen : ∀ sig, parseMethodDescriptor x.desc = some sig → argsL.length = sig.parameters.length)
    (hstack : g.stack = argsL.reverse ++ .ref a :: rest) (hW : 2 * g.monitorRoom + (rest.map fun v => v.category).sum ≤ W) (hdg : decode c.code g.pc = .ok (.invokevirtual index, 3)) :
    ∃ (v : Option Value) (T' : State) (L : List Loc), Stand p l e R s m args below meth c T' (locs ++ L) (cells + rm.cells) (slots + rm.slots) ∧ Q v T'.heap L ∧
      ∀ {t : State}, Steps p.tables e below (T'.setTop { g with pc := g.pc + 3, stack := v.toList ++ rest }) t → Steps p.tables e below (T.setTop g) t := by
  obtain ⟨cq, kq, qa, qb, qc⟩ := isOf hZ eT E
  obtain ⟨v, vm₁, ⟨T', L', k', n'⟩, -, X', ⟨L, hQ, e1, e2, e3⟩, st⟩ := X.virtualBackUp hx hown (mvT hZ wl) (mvT hZ wsm) (mvT hZ wd) ho (mvT hZ wsel) (mvT hZ wi) (backOf (W := W) K hZ wc wz hf hl) qa qc hg hsize (Steps.refl _) hlen hstack hW hdg (fun _ _ => ⟨has, eT, hce, hsl⟩)
  dsimp only [Pt.U, Pt.locs, Pt.cells, Pt.slots] at X' e1 e2 e3 st hQ
  subst e1 e2 e3
  exact ⟨v, T', L, X', hQ, fun {t} k => st.trans k⟩
/-- the cell of an object is one that the model knows -/
def Kn (h : Heap) (a : Addr) : Prop := ∃ cell : Cell, h[a]? = some cell ∧ cell.vm ≠ .unknown
theorem Kn.of_new {h' : Heap} {a : Addr} (u : ∃ cell : Cell, h'[a]? = some cell ∧ cell.vm = .none ∧ cell.monitor = {}) : Kn h' a := by obtain ⟨c, h1, h2, -⟩ := u; exact ⟨c, h1, by rw [h2]; simp⟩
theorem Kn.ext {h h' : Heap} {a : Addr} (F : Kn h a) (E : Ext h h') : Kn h' a := by obtain ⟨c, h1, h2⟩ := F; exact ⟨c, E.2 _ _ h1, h2⟩
theorem Kn.keep {h h' : Heap} {a : Addr} {ws : List Addr} (F : Kn h a) (K : Keep h h' ws) : Kn h' a := by
  obtain ⟨c, h1, h2⟩ := F; obtain ⟨c', q, -, q2, -⟩ := K.2.2 a c h1; exact ⟨c', q, by rw [q2]; exact h2⟩
theorem Kn.wr {h h' : Heap} {a b : Addr} {sl : Nat} {v : Value} (F : Kn h a) (W : Wr h h' b sl v) : Kn h' a := F.keep (Keep.of_wr W)
theorem Kn.fld {h : Heap} {a : Addr} {O n d : String} {v : Value} {Z : State} (F : Fld Z h a O n d v) : Kn h a := by obtain ⟨c, _, _, _, _, h1, -, -, h4, -⟩ := F; exact ⟨c, h1, h4⟩
theorem lremM {g : JFrame} {target : State} (X : Stand p l e R s m args below meth c T locs cells slots) (hx : p.tables.exec = Jvm.exec) (hg : g.method = m) {x y : Int64} {rest : List Value} (hd : decode c.code g.pc = .ok (.lrem, 1)) (hs : g.stack = .long y :: .long x :: rest) (hy : y ≠ 0)
    (hr : Steps p.tables e below (T.setTop { g with pc := g.pc + 1, stack := .long (x % y) :: rest }) target) : Steps p.tables e below (T.setTop g) target := by
  exact XT.lrem X.here hx hg hd hs hy (by rw [lrem_mod]; exact hr)
theorem Sta.own_keep {Z : State} {h h' : Heap} {C n d : String} {v : Value} {ws : List Addr} (F : Sta Z h C n d v) (K : Keep h h' ws) (q : ∀ a ∈ ws, ∃ C', Exa Z h a C') : Sta Z h' C n d v := by
  obtain ⟨cf, i, k, f, st, cell, h1, h2, h3, h4, h5, h6, h7⟩ := F
  refine ⟨cf, i, k, f, st, cell, h1, h2, h3, h4, K.2.1 st cell h5 fun hm => ?_, h6, h7⟩
  obtain ⟨C', c2, _, g1, -, -, g4, -⟩ := q st hm
  cases h5.symm.trans g1
  rw [h6] at g4; cases g4
theorem own_nar {t : FieldType} {v : Value} (h : v.isRef = true) (ht : t.isReference = true) : narrow t v = v := by
  rcases ref_cases h with rfl | ⟨z, rfl⟩ <;> cases t <;> first | rfl | (cases ht)
theorem own_fit {t : FieldType} {v : Value} (h : v.isRef = true) (ht : t.isReference = true) : fits t v = true := by
  rcases ref_cases h with rfl | ⟨z, rfl⟩ <;> cases t <;> first | rfl | (cases ht)
theorem own_eq_int {t : Term} {k : Int32} {args : Array Value} {first s : State} {o : Option Outcome} {idx : List Nat} (h : (Cond.eq t (Term.int k)).value args first o s idx = some true) : t.eval args first o idx s = some (.int k) := by
  simp only [Cond.value, Term.eval] at h
  cases ht : t.eval args first o idx s with
  | none => simp [ht] at h
  | some x => cases x <;> simp [ht] at h ⊢; exact h
theorem pop2L {g : JFrame} {target : State} (X : Stand p l e R s m args below meth c T locs cells slots) (hx : p.tables.exec = Jvm.exec) (hg : g.method = m) {x : Int64} {rest : List Value} (hd : decode c.code g.pc = .ok (.pop2, 1)) (hs : g.stack = .long x :: rest)
    (hr : Steps p.tables e below (T.setTop { g with pc := g.pc + 1, stack := rest }) target) : Steps p.tables e below (T.setTop g) target := by
  subst hg
  jvm_step X.here [X.here.top, hx, hd, Op.pop2.wp_sem, hs, Value.category]
  exact hr
theorem own_tdiv (D k : Int) : (0 ≤ D ∧ D.tdiv k = D / k) ∨ (D < 0 ∧ D.tdiv k = -((-D) / k)) := by
  rcases Int.lt_or_le D 0 with h | h
  · refine Or.inr ⟨h, ?_⟩
    have e : D.tdiv k = -((-D).tdiv k) := by rw [Int.neg_tdiv]; omega
    rw [e, Int.tdiv_eq_ediv_of_nonneg (by omega)]
  · exact Or.inl ⟨h, Int.tdiv_eq_ediv_of_nonneg h⟩
theorem own_tmod (D k : Int) : (0 ≤ D ∧ D.tmod k = D % k) ∨ (D < 0 ∧ D.tmod k = -((-D) % k)) := by
  rcases Int.lt_or_le D 0 with h | h
  · refine Or.inr ⟨h, ?_⟩
    have e : D.tmod k = -((-D).tmod k) := by rw [Int.neg_tmod]; omega
    rw [e, Int.tmod_eq_emod_of_nonneg (by omega)]
  · exact Or.inl ⟨h, Int.tmod_eq_emod_of_nonneg h⟩
end Walk
end Jvm.OwnKit
namespace Jvm.Pilot.@@N@@
open Jvm Jvm.ClassFile Sem Op Lib Jvm.Free Jvm.Stand Jvm.LawKit Jvm.RoadKit Bundle Jvm.Pilot.@@N@@.Jvm.D Jvm.OwnKit
def own_f1 (c0 : Int32) : Int32 := (if c0 = (32 : Int32) then (1 : Int32) else (if c0 = (9 : Int32) then (1 : Int32) else (0 : Int32)))
theorem own_ef1 (m : MethodId) (c0 : Int32) : entryFrame m #[(.int c0)] 1 = mkF m 0 #[.val (.int c0)] [] := by
  (first | (simp [entryFrame, mkF, argsToLocals, Value.category]; done) | rfl)
theorem own_pn_0 : plainName "com/example/impart/impart/Statement" = true := by first | (simp [plainName, overriddenIn]; done) | decide +kernel
theorem own_d1_0 : decode prog_47_method_6_code 0 = .ok (.iload_n 0, 1) := by decide +kernel
theorem own_d1_1 : decode prog_47_method_6_code 1 = .ok (.bipush 32, 2) := by decide +kernel
theorem own_d1_3 : decode prog_47_method_6_code 3 = .ok (.if_icmp .eq 9, 3) := by decide +kernel
theorem own_d1_12 : decode prog_47_method_6_code 12 = .ok (.iconst 1, 1) := by decide +kernel
theorem own_d1_13 : decode prog_47_method_6_code 13 = .ok (.goto 4, 3) := by decide +kernel
theorem own_d1_17 : decode prog_47_method_6_code 17 = .ok (.ireturn, 1) := by decide +kernel
theorem own_d1_6 : decode prog_47_method_6_code 6 = .ok (.iload_n 0, 1) := by decide +kernel
theorem own_d1_7 : decode prog_47_method_6_code 7 = .ok (.bipush 9, 2) := by decide +kernel
theorem own_d1_9 : decode prog_47_method_6_code 9 = .ok (.if_icmp .ne 7, 3) := by decide +kernel
theorem own_d1_16 : decode prog_47_method_6_code 16 = .ok (.iconst 0, 1) := by decide +kernel
set_option maxRecDepth 65536 in
set_option maxHeartbeats 40000000 in
theorem own_rm1 (l : Launch) (Z : State) (a0 : Array Value) (hw : ∀ d ∈ tables_1, d.before a0 Z = true) (ws : List Jvm.Cond) (c0 : Int32) (h0 : Heap) (n0 : Nat) (Z0 : n0 ≤ h0.size)   :
    Con l Z (⟨"com/example/impart/impart/Statement", "isBlank", "(I)Z"⟩ : MethodName) prog_47_method_6_code 1 (some .boolean) ws ({ frames := 0, cells := 0, slots := 0, locals := 0 } : Room) #[(.int c0)] h0 (fun v h L => v = some (.int (own_f1 c0)) ∧ Fr n0 L ∧ h = h0) := by
  refine Con.intro (plainFor_of_name own_pn_0) ?_
  intro p e s m below meth c s₁ P hx hby hml hown hnm hret hlk hZ X0 e0 hP
  have N0 := Fr.nil n0
  have hown : s.vm.findClass "com/example/impart/impart/Statement" = some m.cls := hown
  refine Go.cast (own_ef1 m c0) ?_
  show Go p.tables e below P (s₁.setTop (mkF m 0 #[.val (.int c0)] []))
  refine Go.s (fun k => XS.iloadN X0.here hx rfl (hb hby own_d1_0) rfl k) ?_
  show Go p.tables e below P (s₁.setTop (mkF m 1 #[.val (.int c0)] [(.int c0)]))
  refine Go.s (fun k => XS.bipush X0.here hx rfl (hb hby own_d1_1) k) ?_
  show Go p.tables e below P (s₁.setTop (mkF m 3 #[.val (.int c0)] [(.int (32 : Int32)), (.int c0)]))
  by_cases hc3 : c0 = (32 : Int32)
  · skip
    refine Go.s (fun k => XS.icmpYes X0.here hx rfl (pc0 := 3) (pc' := 12) rfl (hb hby own_d1_3) rfl (XT.ii_eq_t hc3) (by decide) (by decide) k) ?_
    show Go p.tables e below P (s₁.setTop (mkF m 12 #[.val (.int c0)] []))
    refine Go.s (fun k => XS.iconst X0.here hx rfl (hb hby own_d1_12) k) ?_
    show Go p.tables e below P (s₁.setTop (mkF m 13 #[.val (.int c0)] [(.int (1 : Int32))]))
    refine Go.s (fun k => XS.goto X0.here hx rfl (pc0 := 13) (pc' := 17) rfl (hb hby own_d1_13) (by decide) (by decide) k) ?_
    show Go p.tables e below P (s₁.setTop (mkF m 17 #[.val (.int c0)] [(.int (1 : Int32))]))
    exact Go.retZ X0 hx hlk hret (by decide) (hb hby own_d1_17) (fun U hU hF => hP U _ _ (by rw [hU, e0]; exact ⟨congrArg some (congrArg Value.int (Eq.symm (by rw [own_f1]; rw [if_pos hc3]))), N0, rfl⟩) ⟨hF.1, hF.2.1, hF.2.2.mono (by decide) (by decide)⟩)
  · skip
    refine Go.s (fun k => XS.icmpNo X0.here hx rfl (hb hby own_d1_3) rfl (XT.ii_eq_f hc3) k) ?_
    show Go p.tables e below P (s₁.setTop (mkF m 6 #[.val (.int c0)] []))
    refine Go.s (fun k => XS.iloadN X0.here hx rfl (hb hby own_d1_6) rfl k) ?_
    show Go p.tables e below P (s₁.setTop (mkF m 7 #[.val (.int c0)] [(.int c0)]))
    refine Go.s (fun k => XS.bipush X0.here hx rfl (hb hby own_d1_7) k) ?_
    show Go p.tables e below P (s₁.setTop (mkF m 9 #[.val (.int c0)] [(.int (9 : Int32)), (.int c0)]))
    by_cases hc9 : c0 = (9 : Int32)
    · skip
      refine Go.s (fun k => XS.icmpNo X0.here hx rfl (hb hby own_d1_9) rfl (XT.ii_ne_f hc9) k) ?_
      show Go p.tables e below P (s₁.setTop (mkF m 12 #[.val (.int c0)] []))
      refine Go.s (fun k => XS.iconst X0.here hx rfl (hb hby own_d1_12) k) ?_
      show Go p.tables e below P (s₁.setTop (mkF m 13 #[.val (.int c0)] [(.int (1 : Int32))]))
      refine Go.s (fun k => XS.goto X0.here hx rfl (pc0 := 13) (pc' := 17) rfl (hb hby own_d1_13) (by decide) (by decide) k) ?_
      show Go p.tables e below P (s₁.setTop (mkF m 17 #[.val (.int c0)] [(.int (1 : Int32))]))
      exact Go.retZ X0 hx hlk hret (by decide) (hb hby own_d1_17) (fun U hU hF => hP U _ _ (by rw [hU, e0]; exact ⟨congrArg some (congrArg Value.int (Eq.symm (by rw [own_f1]; rw [if_neg hc3]; rw [if_pos hc9]))), N0, rfl⟩) ⟨hF.1, hF.2.1, hF.2.2.mono (by decide) (by decide)⟩)
    · skip
      refine Go.s (fun k => XS.icmpYes X0.here hx rfl (pc0 := 9) (pc' := 16) rfl (hb hby own_d1_9) rfl (XT.ii_ne_t hc9) (by decide) (by decide) k) ?_
      show Go p.tables e below P (s₁.setTop (mkF m 16 #[.val (.int c0)] []))
      refine Go.s (fun k => XS.iconst X0.here hx rfl (hb hby own_d1_16) k) ?_
      show Go p.tables e below P (s₁.setTop (mkF m 17 #[.val (.int c0)] [(.int (0 : Int32))]))
      exact Go.retZ X0 hx hlk hret (by decide) (hb hby own_d1_17) (fun U hU hF => hP U _ _ (by rw [hU, e0]; exact ⟨congrArg some (congrArg Value.int (Eq.symm (by rw [own_f1]; rw [if_neg hc3]; rw [if_neg hc9]))), N0, rfl⟩) ⟨hF.1, hF.2.1, hF.2.2.mono (by decide) (by decide)⟩)
theorem own_ef0 (m : MethodId) (cv : Int32) (dv : Int32) : entryFrame m #[(.int cv), (.int dv)] maxLocals = mkF m 0 #[.val (.int cv), .val (.int dv), .unset, .unset, .unset, .unset] [] := by
  (first | (simp [entryFrame, mkF, argsToLocals, Value.category, maxLocals]; done) | rfl)
theorem own_pn_1 : plainName "com/example/impart/impart/StatementIsBlankPinLaw" = true := by first | (simp [plainName, overriddenIn]; done) | decide +kernel
theorem own_pd_0 : parseMethodDescriptor "(I)Z" = some ⟨[.int], some .boolean⟩ := by decide +kernel
set_option maxRecDepth 65536 in
set_option maxHeartbeats 40000000 in
theorem own_rm0 (l : Launch) (Z : State) (a0 : Array Value) (hw : ∀ d ∈ tables_1, d.before a0 Z = true) (ws : List Jvm.Cond) (cv : Int32) (dv : Int32) (h0 : Heap) (n0 : Nat) (Z0 : n0 ≤ h0.size)  :
    Con l Z x code maxLocals ret ws room_1 #[(.int cv), (.int dv)] h0 (fun v h L => v = some (.int 1) ∧ Fr n0 L) := by
  refine Con.intro (plainFor_of_name own_pn_1) ?_
  intro p e s m below meth c s₁ P hx hby hml hown hnm hret hlk hZ X0 e0 hP
  have N0 := Fr.nil n0
  have hml : c.maxLocals = 6 := hml
  have hown : s.vm.findClass "com/example/impart/impart/StatementIsBlankPinLaw" = some m.cls := hown
  have hret : meth.sig.returnType = some .boolean := hret
  refine Go.cast (own_ef0 m cv dv) ?_
  show Go p.tables e below P (s₁.setTop (mkF m 0 #[.val (.int cv), .val (.int dv), .unset, .unset, .unset, .unset] []))
  refine Go.s (fun k => XS.bipush X0.here hx rfl (hb hby at_0) k) ?_
  show Go p.tables e below P (s₁.setTop (mkF m 2 #[.val (.int cv), .val (.int dv), .unset, .unset, .unset, .unset] [(.int (9 : Int32))]))
  obtain ⟨v1, T1, L1, X1, Q1, st1⟩ := Con.static (own_rm1 l Z a0 hw [] (9 : Int32) h0 n0 Z0  ) X0 hx hZ (W := 0) hown (hw _ (List.mem_of_getElem? (i := 0) rfl)) (hw _ (List.mem_of_getElem? (i := 1) rfl)) (hw _ (List.mem_of_getElem? (i := 2) rfl)) (hw _ (List.mem_of_getElem? (i := 3) rfl)) (by decide) (by decide) (by decide) (by decide) (by decide) e0 (g := (mkF m 2 #[.val (.int cv), .val (.int dv), .unset, .unset, .unset, .unset] [(.int (9 : Int32))])) rfl (by rw [hml]; rfl) (argsL := [(.int (9 : Int32))]) (rest := []) rfl (lenOf own_pd_0 rfl) rfl (by show 2 * 0 + _ ≤ _; exact Nat.le_of_eq rfl) (hb hby at_2)
  obtain ⟨rfl, Nq1, e1⟩ := Q1
  have N1 := Fr.app N0 Nq1
  refine Go.s (fun {t} => st1) ?_
  show Go p.tables e below P (T1.setTop (mkF m 5 #[.val (.int cv), .val (.int dv), .unset, .unset, .unset, .unset] [(.int (own_f1 (9 : Int32)))]))
  refine Go.s (fun k => XS.ifNo X1.here hx rfl (hb hby at_5) rfl (XT.i0_eq_f (by decide)) k) ?_
  show Go p.tables e below P (T1.setTop (mkF m 8 #[.val (.int cv), .val (.int dv), .unset, .unset, .unset, .unset] []))
  refine Go.s (fun k => XS.bipush X1.here hx rfl (hb hby at_8) k) ?_
  show Go p.tables e below P (T1.setTop (mkF m 10 #[.val (.int cv), .val (.int dv), .unset, .unset, .unset, .unset] [(.int (32 : Int32))]))
  obtain ⟨v2, T2, L2, X2, Q2, st2⟩ := Con.static (own_rm1 l Z a0 hw [] (32 : Int32) h0 n0 Z0  ) X1 hx hZ (W := 0) hown (hw _ (List.mem_of_getElem? (i := 0) rfl)) (hw _ (List.mem_of_getElem? (i := 1) rfl)) (hw _ (List.mem_of_getElem? (i := 2) rfl)) (hw _ (List.mem_of_getElem? (i := 3) rfl)) (by decide) (by decide) (by decide) (by decide) (by decide) e1 (g := (mkF m 10 #[.val (.int cv), .val (.int dv), .unset, .unset, .unset, .unset] [(.int (32 : Int32))])) rfl (by rw [hml]; rfl) (argsL := [(.int (32 : Int32))]) (rest := []) rfl (lenOf own_pd_0 rfl) rfl (by show 2 * 0 + _ ≤ _; exact Nat.le_of_eq rfl) (hb hby at_10)
  obtain ⟨rfl, Nq2, e2⟩ := Q2
  have N2 := Fr.app N1 Nq2
  refine Go.s (fun {t} => st2) ?_
  show Go p.tables e below P (T2.setTop (mkF m 13 #[.val (.int cv), .val (.int dv), .unset, .unset, .unset, .unset] [(.int (own_f1 (32 : Int32)))]))
  refine Go.s (fun k => XS.ifNo X2.here hx rfl (hb hby at_13) rfl (XT.i0_eq_f (by decide)) k) ?_
  show Go p.tables e below P (T2.setTop (mkF m 16 #[.val (.int cv), .val (.int dv), .unset, .unset, .unset, .unset] []))
  refine Go.s (fun k => XS.bipush X2.here hx rfl (hb hby at_16) k) ?_
  show Go p.tables e below P (T2.setTop (mkF m 18 #[.val (.int cv), .val (.int dv), .unset, .unset, .unset, .unset] [(.int (8 : Int32))]))
  obtain ⟨v3, T3, L3, X3, Q3, st3⟩ := Con.static (own_rm1 l Z a0 hw [] (8 : Int32) h0 n0 Z0  ) X2 hx hZ (W := 0) hown (hw _ (List.mem_of_getElem? (i := 0) rfl)) (hw _ (List.mem_of_getElem? (i := 1) rfl)) (hw _ (List.mem_of_getElem? (i := 2) rfl)) (hw _ (List.mem_of_getElem? (i := 3) rfl)) (by decide) (by decide) (by decide) (by decide) (by decide) e2 (g := (mkF m 18 #[.val (.int cv), .val (.int dv), .unset, .unset, .unset, .unset] [(.int (8 : Int32))])) rfl (by rw [hml]; rfl) (argsL := [(.int (8 : Int32))]) (rest := []) rfl (lenOf own_pd_0 rfl) rfl (by show 2 * 0 + _ ≤ _; exact Nat.le_of_eq rfl) (hb hby at_18)
  obtain ⟨rfl, Nq3, e3⟩ := Q3
  have N3 := Fr.app N2 Nq3
  refine Go.s (fun {t} => st3) ?_
  show Go p.tables e below P (T3.setTop (mkF m 21 #[.val (.int cv), .val (.int dv), .unset, .unset, .unset, .unset] [(.int (own_f1 (8 : Int32)))]))
  refine Go.s (fun k => XS.ifNo X3.here hx rfl (hb hby at_21) rfl (XT.i0_ne_f (by decide)) k) ?_
  show Go p.tables e below P (T3.setTop (mkF m 24 #[.val (.int cv), .val (.int dv), .unset, .unset, .unset, .unset] []))
  refine Go.s (fun k => XS.bipush X3.here hx rfl (hb hby at_24) k) ?_
  show Go p.tables e below P (T3.setTop (mkF m 26 #[.val (.int cv), .val (.int dv), .unset, .unset, .unset, .unset] [(.int (10 : Int32))]))
  obtain ⟨v4, T4, L4, X4, Q4, st4⟩ := Con.static (own_rm1 l Z a0 hw [] (10 : Int32) h0 n0 Z0  ) X3 hx hZ (W := 0) hown (hw _ (List.mem_of_getElem? (i := 0) rfl)) (hw _ (List.mem_of_getElem? (i := 1) rfl)) (hw _ (List.mem_of_getElem? (i := 2) rfl)) (hw _ (List.mem_of_getElem? (i := 3) rfl)) (by decide) (by decide) (by decide) (by decide) (by decide) e3 (g := (mkF m 26 #[.val (.int cv), .val (.int dv), .unset, .unset, .unset, .unset] [(.int (10 : Int32))])) rfl (by rw [hml]; rfl) (argsL := [(.int (10 : Int32))]) (rest := []) rfl (lenOf own_pd_0 rfl) rfl (by show 2 * 0 + _ ≤ _; exact Nat.le_of_eq rfl) (hb hby at_26)
  obtain ⟨rfl, Nq4, e4⟩ := Q4
  have N4 := Fr.app N3 Nq4
  refine Go.s (fun {t} => st4) ?_
  show Go p.tables e below P (T4.setTop (mkF m 29 #[.val (.int cv), .val (.int dv), .unset, .unset, .unset, .unset] [(.int (own_f1 (10 : Int32)))]))
  refine Go.s (fun k => XS.ifNo X4.here hx rfl (hb hby at_29) rfl (XT.i0_ne_f (by decide)) k) ?_
  show Go p.tables e below P (T4.setTop (mkF m 32 #[.val (.int cv), .val (.int dv), .unset, .unset, .unset, .unset] []))
  refine Go.s (fun k => XS.bipush X4.here hx rfl (hb hby at_32) k) ?_
  show Go p.tables e below P (T4.setTop (mkF m 34 #[.val (.int cv), .val (.int dv), .unset, .unset, .unset, .unset] [(.int (31 : Int32))]))
  obtain ⟨v5, T5, L5, X5, Q5, st5⟩ := Con.static (own_rm1 l Z a0 hw [] (31 : Int32) h0 n0 Z0  ) X4 hx hZ (W := 0) hown (hw _ (List.mem_of_getElem? (i := 0) rfl)) (hw _ (List.mem_of_getElem? (i := 1) rfl)) (hw _ (List.mem_of_getElem? (i := 2) rfl)) (hw _ (List.mem_of_getElem? (i := 3) rfl)) (by decide) (by decide) (by decide) (by decide) (by decide) e4 (g := (mkF m 34 #[.val (.int cv), .val (.int dv), .unset, .unset, .unset, .unset] [(.int (31 : Int32))])) rfl (by rw [hml]; rfl) (argsL := [(.int (31 : Int32))]) (rest := []) rfl (lenOf own_pd_0 rfl) rfl (by show 2 * 0 + _ ≤ _; exact Nat.le_of_eq rfl) (hb hby at_34)
  obtain ⟨rfl, Nq5, e5⟩ := Q5
  have N5 := Fr.app N4 Nq5
  refine Go.s (fun {t} => st5) ?_
  show Go p.tables e below P (T5.setTop (mkF m 37 #[.val (.int cv), .val (.int dv), .unset, .unset, .unset, .unset] [(.int (own_f1 (31 : Int32)))]))
  refine Go.s (fun k => XS.ifNo X5.here hx rfl (hb hby at_37) rfl (XT.i0_ne_f (by decide)) k) ?_
  show Go p.tables e below P (T5.setTop (mkF m 40 #[.val (.int cv), .val (.int dv), .unset, .unset, .unset, .unset] []))
  refine Go.s (fun k => XS.bipush X5.here hx rfl (hb hby at_40) k) ?_
  show Go p.tables e below P (T5.setTop (mkF m 42 #[.val (.int cv), .val (.int dv), .unset, .unset, .unset, .unset] [(.int (33 : Int32))]))
  obtain ⟨v6, T6, L6, X6, Q6, st6⟩ := Con.static (own_rm1 l Z a0 hw [] (33 : Int32) h0 n0 Z0  ) X5 hx hZ (W := 0) hown (hw _ (List.mem_of_getElem? (i := 0) rfl)) (hw _ (List.mem_of_getElem? (i := 1) rfl)) (hw _ (List.mem_of_getElem? (i := 2) rfl)) (hw _ (List.mem_of_getElem? (i := 3) rfl)) (by decide) (by decide) (by decide) (by decide) (by decide) e5 (g := (mkF m 42 #[.val (.int cv), .val (.int dv), .unset, .unset, .unset, .unset] [(.int (33 : Int32))])) rfl (by rw [hml]; rfl) (argsL := [(.int (33 : Int32))]) (rest := []) rfl (lenOf own_pd_0 rfl) rfl (by show 2 * 0 + _ ≤ _; exact Nat.le_of_eq rfl) (hb hby at_42)
  obtain ⟨rfl, Nq6, e6⟩ := Q6
  have N6 := Fr.app N5 Nq6
  refine Go.s (fun {t} => st6) ?_
  show Go p.tables e below P (T6.setTop (mkF m 45 #[.val (.int cv), .val (.int dv), .unset, .unset, .unset, .unset] [(.int (own_f1 (33 : Int32)))]))
  refine Go.s (fun k => XS.ifNo X6.here hx rfl (hb hby at_45) rfl (XT.i0_ne_f (by decide)) k) ?_
  show Go p.tables e below P (T6.setTop (mkF m 48 #[.val (.int cv), .val (.int dv), .unset, .unset, .unset, .unset] []))
  refine Go.s (fun k => XS.iconst X6.here hx rfl (hb hby at_48) k) ?_
  show Go p.tables e below P (T6.setTop (mkF m 49 #[.val (.int cv), .val (.int dv), .unset, .unset, .unset, .unset] [(.int (0 : Int32))]))
  obtain ⟨v7, T7, L7, X7, Q7, st7⟩ := Con.static (own_rm1 l Z a0 hw [] (0 : Int32) h0 n0 Z0  ) X6 hx hZ (W := 0) hown (hw _ (List.mem_of_getElem? (i := 0) rfl)) (hw _ (List.mem_of_getElem? (i := 1) rfl)) (hw _ (List.mem_of_getElem? (i := 2) rfl)) (hw _ (List.mem_of_getElem? (i := 3) rfl)) (by decide) (by decide) (by decide) (by decide) (by decide) e6 (g := (mkF m 49 #[.val (.int cv), .val (.int dv), .unset, .unset, .unset, .unset] [(.int (0 : Int32))])) rfl (by rw [hml]; rfl) (argsL := [(.int (0 : Int32))]) (rest := []) rfl (lenOf own_pd_0 rfl) rfl (by show 2 * 0 + _ ≤ _; exact Nat.le_of_eq rfl) (hb hby at_49)
  obtain ⟨rfl, Nq7, e7⟩ := Q7
  have N7 := Fr.app N6 Nq7
  refine Go.s (fun {t} => st7) ?_
  show Go p.tables e below P (T7.setTop (mkF m 52 #[.val (.int cv), .val (.int dv), .unset, .unset, .unset, .unset] [(.int (own_f1 (0 : Int32)))]))
  refine Go.s (fun k => XS.ifNo X7.here hx rfl (hb hby at_52) rfl (XT.i0_ne_f (by decide)) k) ?_
  show Go p.tables e below P (T7.setTop (mkF m 55 #[.val (.int cv), .val (.int dv), .unset, .unset, .unset, .unset] []))
  refine Go.s (fun k => XS.iconst X7.here hx rfl (hb hby at_55) k) ?_
  show Go p.tables e below P (T7.setTop (mkF m 56 #[.val (.int cv), .val (.int dv), .unset, .unset, .unset, .unset] [(.int (-1 : Int32))]))
  obtain ⟨v8, T8, L8, X8, Q8, st8⟩ := Con.static (own_rm1 l Z a0 hw [] (-1 : Int32) h0 n0 Z0  ) X7 hx hZ (W := 0) hown (hw _ (List.mem_of_getElem? (i := 0) rfl)) (hw _ (List.mem_of_getElem? (i := 1) rfl)) (hw _ (List.mem_of_getElem? (i := 2) rfl)) (hw _ (List.mem_of_getElem? (i := 3) rfl)) (by decide) (by decide) (by decide) (by decide) (by decide) e7 (g := (mkF m 56 #[.val (.int cv), .val (.int dv), .unset, .unset, .unset, .unset] [(.int (-1 : Int32))])) rfl (by rw [hml]; rfl) (argsL := [(.int (-1 : Int32))]) (rest := []) rfl (lenOf own_pd_0 rfl) rfl (by show 2 * 0 + _ ≤ _; exact Nat.le_of_eq rfl) (hb hby at_56)
  obtain ⟨rfl, Nq8, e8⟩ := Q8
  have N8 := Fr.app N7 Nq8
  refine Go.s (fun {t} => st8) ?_
  show Go p.tables e below P (T8.setTop (mkF m 59 #[.val (.int cv), .val (.int dv), .unset, .unset, .unset, .unset] [(.int (own_f1 (-1 : Int32)))]))
  refine Go.s (fun k => XS.ifNo X8.here hx rfl (hb hby at_59) rfl (XT.i0_ne_f (by decide)) k) ?_
  show Go p.tables e below P (T8.setTop (mkF m 62 #[.val (.int cv), .val (.int dv), .unset, .unset, .unset, .unset] []))
  refine Go.s (fun k => X8.ldcI hx hown (mvT hZ (hw _ (List.mem_of_getElem? (i := 4) rfl))) rfl (hb hby at_62) k) ?_
  show Go p.tables e below P (T8.setTop (mkF m 64 #[.val (.int cv), .val (.int dv), .unset, .unset, .unset, .unset] [(.int (65568 : Int32))]))
  obtain ⟨v9, T9, L9, X9, Q9, st9⟩ := Con.static (own_rm1 l Z a0 hw [] (65568 : Int32) h0 n0 Z0  ) X8 hx hZ (W := 0) hown (hw _ (List.mem_of_getElem? (i := 0) rfl)) (hw _ (List.mem_of_getElem? (i := 1) rfl)) (hw _ (List.mem_of_getElem? (i := 2) rfl)) (hw _ (List.mem_of_getElem? (i := 3) rfl)) (by decide) (by decide) (by decide) (by decide) (by decide) e8 (g := (mkF m 64 #[.val (.int cv), .val (.int dv), .unset, .unset, .unset, .unset] [(.int (65568 : Int32))])) rfl (by rw [hml]; rfl) (argsL := [(.int (65568 : Int32))]) (rest := []) rfl (lenOf own_pd_0 rfl) rfl (by show 2 * 0 + _ ≤ _; exact Nat.le_of_eq rfl) (hb hby at_64)
  obtain ⟨rfl, Nq9, e9⟩ := Q9
  have N9 := Fr.app N8 Nq9
  refine Go.s (fun {t} => st9) ?_
  show Go p.tables e below P (T9.setTop (mkF m 67 #[.val (.int cv), .val (.int dv), .unset, .unset, .unset, .unset] [(.int (own_f1 (65568 : Int32)))]))
  refine Go.s (fun k => XS.ifNo X9.here hx rfl (hb hby at_67) rfl (XT.i0_ne_f (by decide)) k) ?_
  show Go p.tables e below P (T9.setTop (mkF m 70 #[.val (.int cv), .val (.int dv), .unset, .unset, .unset, .unset] []))
  refine Go.s (fun k => X9.ldcI hx hown (mvT hZ (hw _ (List.mem_of_getElem? (i := 5) rfl))) rfl (hb hby at_70) k) ?_
  show Go p.tables e below P (T9.setTop (mkF m 72 #[.val (.int cv), .val (.int dv), .unset, .unset, .unset, .unset] [(.int (65545 : Int32))]))
  obtain ⟨v10, T10, L10, X10, Q10, st10⟩ := Con.static (own_rm1 l Z a0 hw [] (65545 : Int32) h0 n0 Z0  ) X9 hx hZ (W := 0) hown (hw _ (List.mem_of_getElem? (i := 0) rfl)) (hw _ (List.mem_of_getElem? (i := 1) rfl)) (hw _ (List.mem_of_getElem? (i := 2) rfl)) (hw _ (List.mem_of_getElem? (i := 3) rfl)) (by decide) (by decide) (by decide) (by decide) (by decide) e9 (g := (mkF m 72 #[.val (.int cv), .val (.int dv), .unset, .unset, .unset, .unset] [(.int (65545 : Int32))])) rfl (by rw [hml]; rfl) (argsL := [(.int (65545 : Int32))]) (rest := []) rfl (lenOf own_pd_0 rfl) rfl (by show 2 * 0 + _ ≤ _; exact Nat.le_of_eq rfl) (hb hby at_72)
  obtain ⟨rfl, Nq10, e10⟩ := Q10
  have N10 := Fr.app N9 Nq10
  refine Go.s (fun {t} => st10) ?_
  show Go p.tables e below P (T10.setTop (mkF m 75 #[.val (.int cv), .val (.int dv), .unset, .unset, .unset, .unset] [(.int (own_f1 (65545 : Int32)))]))
  refine Go.s (fun k => XS.ifNo X10.here hx rfl (hb hby at_75) rfl (XT.i0_ne_f (by decide)) k) ?_
  show Go p.tables e below P (T10.setTop (mkF m 78 #[.val (.int cv), .val (.int dv), .unset, .unset, .unset, .unset] []))
  refine Go.s (fun k => XS.iconst X10.here hx rfl (hb hby at_78) k) ?_
  show Go p.tables e below P (T10.setTop (mkF m 79 #[.val (.int cv), .val (.int dv), .unset, .unset, .unset, .unset] [(.int (1 : Int32))]))
  refine Go.s (fun k => XS.goto X10.here hx rfl (pc0 := 79) (pc' := 83) rfl (hb hby at_79) (by decide) (by decide) k) ?_
  show Go p.tables e below P (T10.setTop (mkF m 83 #[.val (.int cv), .val (.int dv), .unset, .unset, .unset, .unset] [(.int (1 : Int32))]))
  refine Go.s (fun k => XS.istoreN X10.here hx rfl (hb hby at_83) rfl (l' := #[.val (.int cv), .val (.int dv), .val (.int (1 : Int32)), .unset, .unset, .unset]) rfl k) ?_
  show Go p.tables e below P (T10.setTop (mkF m 84 #[.val (.int cv), .val (.int dv), .val (.int (1 : Int32)), .unset, .unset, .unset] []))
  refine Go.s (fun k => XS.iloadN X10.here hx rfl (hb hby at_84) rfl k) ?_
  show Go p.tables e below P (T10.setTop (mkF m 85 #[.val (.int cv), .val (.int dv), .val (.int (1 : Int32)), .unset, .unset, .unset] [(.int cv)]))
  refine Go.s (fun k => XS.bipush X10.here hx rfl (hb hby at_85) k) ?_
  show Go p.tables e below P (T10.setTop (mkF m 87 #[.val (.int cv), .val (.int dv), .val (.int (1 : Int32)), .unset, .unset, .unset] [(.int (9 : Int32)), (.int cv)]))
  by_cases hc87 : cv = (9 : Int32)
  · skip
    refine Go.s (fun k => XS.icmpNo X10.here hx rfl (hb hby at_87) rfl (XT.ii_ne_f hc87) k) ?_
    show Go p.tables e below P (T10.setTop (mkF m 90 #[.val (.int cv), .val (.int dv), .val (.int (1 : Int32)), .unset, .unset, .unset] []))
    refine Go.s (fun k => XS.iconst X10.here hx rfl (hb hby at_90) k) ?_
    show Go p.tables e below P (T10.setTop (mkF m 91 #[.val (.int cv), .val (.int dv), .val (.int (1 : Int32)), .unset, .unset, .unset] [(.int (1 : Int32))]))
    refine Go.s (fun k => XS.istoreN X10.here hx rfl (hb hby at_91) rfl (l' := #[.val (.int cv), .val (.int dv), .val (.int (1 : Int32)), .val (.int (1 : Int32)), .unset, .unset]) rfl k) ?_
    show Go p.tables e below P (T10.setTop (mkF m 92 #[.val (.int cv), .val (.int dv), .val (.int (1 : Int32)), .val (.int (1 : Int32)), .unset, .unset] []))
    refine Go.s (fun k => XS.goto X10.here hx rfl (pc0 := 92) (pc' := 108) rfl (hb hby at_92) (by decide) (by decide) k) ?_
    show Go p.tables e below P (T10.setTop (mkF m 108 #[.val (.int cv), .val (.int dv), .val (.int (1 : Int32)), .val (.int (1 : Int32)), .unset, .unset] []))
    refine Go.s (fun k => XS.iloadN X10.here hx rfl (hb hby at_108) rfl k) ?_
    show Go p.tables e below P (T10.setTop (mkF m 109 #[.val (.int cv), .val (.int dv), .val (.int (1 : Int32)), .val (.int (1 : Int32)), .unset, .unset] [(.int dv)]))
    refine Go.s (fun k => XS.sipush X10.here hx rfl (hb hby at_109) k) ?_
    show Go p.tables e below P (T10.setTop (mkF m 112 #[.val (.int cv), .val (.int dv), .val (.int (1 : Int32)), .val (.int (1 : Int32)), .unset, .unset] [(.int (255 : Int32)), (.int dv)]))
    refine Go.s (fun k => XS.iand X10.here hx rfl (hb hby at_112) rfl k) ?_
    show Go p.tables e below P (T10.setTop (mkF m 113 #[.val (.int cv), .val (.int dv), .val (.int (1 : Int32)), .val (.int (1 : Int32)), .unset, .unset] [(.int (dv &&& (255 : Int32)))]))
    refine Go.s (fun k => XS.istore X10.here hx rfl (hb hby at_113) rfl (l' := #[.val (.int cv), .val (.int dv), .val (.int (1 : Int32)), .val (.int (1 : Int32)), .val (.int (dv &&& (255 : Int32))), .unset]) rfl k) ?_
    show Go p.tables e below P (T10.setTop (mkF m 115 #[.val (.int cv), .val (.int dv), .val (.int (1 : Int32)), .val (.int (1 : Int32)), .val (.int (dv &&& (255 : Int32))), .unset] []))
    refine (?_ : ∀ ev : Int32, ev = (dv &&& (255 : Int32)) → Go p.tables e below P (T10.setTop (mkF m 115 #[.val (.int cv), .val (.int dv), .val (.int (1 : Int32)), .val (.int (1 : Int32)), .val (.int ev), .unset] []))) _ rfl
    intro ev hev
    refine Go.s (fun k => XS.iload X10.here hx rfl (hb hby at_115) rfl k) ?_
    show Go p.tables e below P (T10.setTop (mkF m 117 #[.val (.int cv), .val (.int dv), .val (.int (1 : Int32)), .val (.int (1 : Int32)), .val (.int ev), .unset] [(.int ev)]))
    refine Go.s (fun k => XS.bipush X10.here hx rfl (hb hby at_117) k) ?_
    show Go p.tables e below P (T10.setTop (mkF m 119 #[.val (.int cv), .val (.int dv), .val (.int (1 : Int32)), .val (.int (1 : Int32)), .val (.int ev), .unset] [(.int (9 : Int32)), (.int ev)]))
    by_cases hc119 : ev = (9 : Int32)
    · skip
      refine Go.s (fun k => XS.icmpNo X10.here hx rfl (hb hby at_119) rfl (XT.ii_ne_f hc119) k) ?_
      show Go p.tables e below P (T10.setTop (mkF m 122 #[.val (.int cv), .val (.int dv), .val (.int (1 : Int32)), .val (.int (1 : Int32)), .val (.int ev), .unset] []))
      refine Go.s (fun k => XS.iconst X10.here hx rfl (hb hby at_122) k) ?_
      show Go p.tables e below P (T10.setTop (mkF m 123 #[.val (.int cv), .val (.int dv), .val (.int (1 : Int32)), .val (.int (1 : Int32)), .val (.int ev), .unset] [(.int (1 : Int32))]))
      refine Go.s (fun k => XS.istore X10.here hx rfl (hb hby at_123) rfl (l' := #[.val (.int cv), .val (.int dv), .val (.int (1 : Int32)), .val (.int (1 : Int32)), .val (.int ev), .val (.int (1 : Int32))]) rfl k) ?_
      show Go p.tables e below P (T10.setTop (mkF m 125 #[.val (.int cv), .val (.int dv), .val (.int (1 : Int32)), .val (.int (1 : Int32)), .val (.int ev), .val (.int (1 : Int32))] []))
      refine Go.s (fun k => XS.goto X10.here hx rfl (pc0 := 125) (pc' := 144) rfl (hb hby at_125) (by decide) (by decide) k) ?_
      show Go p.tables e below P (T10.setTop (mkF m 144 #[.val (.int cv), .val (.int dv), .val (.int (1 : Int32)), .val (.int (1 : Int32)), .val (.int ev), .val (.int (1 : Int32))] []))
      refine Go.s (fun k => XS.iloadN X10.here hx rfl (hb hby at_144) rfl k) ?_
      show Go p.tables e below P (T10.setTop (mkF m 145 #[.val (.int cv), .val (.int dv), .val (.int (1 : Int32)), .val (.int (1 : Int32)), .val (.int ev), .val (.int (1 : Int32))] [(.int (1 : Int32))]))
      refine Go.s (fun k => XS.ifNo X10.here hx rfl (hb hby at_145) rfl (XT.i0_eq_f (by decide)) k) ?_
      show Go p.tables e below P (T10.setTop (mkF m 148 #[.val (.int cv), .val (.int dv), .val (.int (1 : Int32)), .val (.int (1 : Int32)), .val (.int ev), .val (.int (1 : Int32))] []))
      refine Go.s (fun k => XS.iloadN X10.here hx rfl (hb hby at_148) rfl k) ?_
      show Go p.tables e below P (T10.setTop (mkF m 149 #[.val (.int cv), .val (.int dv), .val (.int (1 : Int32)), .val (.int (1 : Int32)), .val (.int ev), .val (.int (1 : Int32))] [(.int cv)]))
      obtain ⟨v11, T11, L11, X11, Q11, st11⟩ := Con.static (own_rm1 l Z a0 hw [] cv h0 n0 Z0  ) X10 hx hZ (W := 0) hown (hw _ (List.mem_of_getElem? (i := 0) rfl)) (hw _ (List.mem_of_getElem? (i := 1) rfl)) (hw _ (List.mem_of_getElem? (i := 2) rfl)) (hw _ (List.mem_of_getElem? (i := 3) rfl)) (by decide) (by decide) (by decide) (by decide) (by decide) e10 (g := (mkF m 149 #[.val (.int cv), .val (.int dv), .val (.int (1 : Int32)), .val (.int (1 : Int32)), .val (.int ev), .val (.int (1 : Int32))] [(.int cv)])) rfl (by rw [hml]; rfl) (argsL := [(.int cv)]) (rest := []) rfl (lenOf own_pd_0 rfl) rfl (by show 2 * 0 + _ ≤ _; exact Nat.le_of_eq rfl) (hb hby at_149)
      obtain ⟨rfl, Nq11, e11⟩ := Q11
      have N11 := Fr.app N10 Nq11
      refine Go.s (fun {t} => st11) ?_
      show Go p.tables e below P (T11.setTop (mkF m 152 #[.val (.int cv), .val (.int dv), .val (.int (1 : Int32)), .val (.int (1 : Int32)), .val (.int ev), .val (.int (1 : Int32))] [(.int (own_f1 cv))]))
      refine Go.s (fun k => XS.iloadN X11.here hx rfl (hb hby at_152) rfl k) ?_
      show Go p.tables e below P (T11.setTop (mkF m 153 #[.val (.int cv), .val (.int dv), .val (.int (1 : Int32)), .val (.int (1 : Int32)), .val (.int ev), .val (.int (1 : Int32))] [(.int (1 : Int32)), (.int (own_f1 cv))]))
      refine Go.s (fun k => XS.icmpNo X11.here hx rfl (hb hby at_153) rfl (XT.ii_ne_f (by rw [own_f1, hc87]; decide)) k) ?_
      show Go p.tables e below P (T11.setTop (mkF m 156 #[.val (.int cv), .val (.int dv), .val (.int (1 : Int32)), .val (.int (1 : Int32)), .val (.int ev), .val (.int (1 : Int32))] []))
      refine Go.s (fun k => XS.iload X11.here hx rfl (hb hby at_156) rfl k) ?_
      show Go p.tables e below P (T11.setTop (mkF m 158 #[.val (.int cv), .val (.int dv), .val (.int (1 : Int32)), .val (.int (1 : Int32)), .val (.int ev), .val (.int (1 : Int32))] [(.int ev)]))
      obtain ⟨v12, T12, L12, X12, Q12, st12⟩ := Con.static (own_rm1 l Z a0 hw [] ev h0 n0 Z0  ) X11 hx hZ (W := 0) hown (hw _ (List.mem_of_getElem? (i := 0) rfl)) (hw _ (List.mem_of_getElem? (i := 1) rfl)) (hw _ (List.mem_of_getElem? (i := 2) rfl)) (hw _ (List.mem_of_getElem? (i := 3) rfl)) (by decide) (by decide) (by decide) (by decide) (by decide) e11 (g := (mkF m 158 #[.val (.int cv), .val (.int dv), .val (.int (1 : Int32)), .val (.int (1 : Int32)), .val (.int ev), .val (.int (1 : Int32))] [(.int ev)])) rfl (by rw [hml]; rfl) (argsL := [(.int ev)]) (rest := []) rfl (lenOf own_pd_0 rfl) rfl (by show 2 * 0 + _ ≤ _; exact Nat.le_of_eq rfl) (hb hby at_158)
      obtain ⟨rfl, Nq12, e12⟩ := Q12
      have N12 := Fr.app N11 Nq12
      refine Go.s (fun {t} => st12) ?_
      show Go p.tables e below P (T12.setTop (mkF m 161 #[.val (.int cv), .val (.int dv), .val (.int (1 : Int32)), .val (.int (1 : Int32)), .val (.int ev), .val (.int (1 : Int32))] [(.int (own_f1 ev))]))
      refine Go.s (fun k => XS.iload X12.here hx rfl (hb hby at_161) rfl k) ?_
      show Go p.tables e below P (T12.setTop (mkF m 163 #[.val (.int cv), .val (.int dv), .val (.int (1 : Int32)), .val (.int (1 : Int32)), .val (.int ev), .val (.int (1 : Int32))] [(.int (1 : Int32)), (.int (own_f1 ev))]))
      refine Go.s (fun k => XS.icmpNo X12.here hx rfl (hb hby at_163) rfl (XT.ii_ne_f (by rw [own_f1, hc119]; decide)) k) ?_
      show Go p.tables e below P (T12.setTop (mkF m 166 #[.val (.int cv), .val (.int dv), .val (.int (1 : Int32)), .val (.int (1 : Int32)), .val (.int ev), .val (.int (1 : Int32))] []))
      refine Go.s (fun k => XS.iconst X12.here hx rfl (hb hby at_166) k) ?_
      show Go p.tables e below P (T12.setTop (mkF m 167 #[.val (.int cv), .val (.int dv), .val (.int (1 : Int32)), .val (.int (1 : Int32)), .val (.int ev), .val (.int (1 : Int32))] [(.int (1 : Int32))]))
      refine Go.s (fun k => XS.goto X12.here hx rfl (pc0 := 167) (pc' := 171) rfl (hb hby at_167) (by decide) (by decide) k) ?_
      show Go p.tables e below P (T12.setTop (mkF m 171 #[.val (.int cv), .val (.int dv), .val (.int (1 : Int32)), .val (.int (1 : Int32)), .val (.int ev), .val (.int (1 : Int32))] [(.int (1 : Int32))]))
      exact Go.retZ X12 hx hlk hret (by decide) (hb hby at_171) (fun U hU hF => hP U _ _ ⟨rfl, N12⟩ ⟨hF.1, hF.2.1, hF.2.2.mono (by decide) (by decide)⟩)
    · skip
      refine Go.s (fun k => XS.icmpYes X10.here hx rfl (pc0 := 119) (pc' := 128) rfl (hb hby at_119) rfl (XT.ii_ne_t hc119) (by decide) (by decide) k) ?_
      show Go p.tables e below P (T10.setTop (mkF m 128 #[.val (.int cv), .val (.int dv), .val (.int (1 : Int32)), .val (.int (1 : Int32)), .val (.int ev), .unset] []))
      refine Go.s (fun k => XS.iload X10.here hx rfl (hb hby at_128) rfl k) ?_
      show Go p.tables e below P (T10.setTop (mkF m 130 #[.val (.int cv), .val (.int dv), .val (.int (1 : Int32)), .val (.int (1 : Int32)), .val (.int ev), .unset] [(.int ev)]))
      refine Go.s (fun k => XS.bipush X10.here hx rfl (hb hby at_130) k) ?_
      show Go p.tables e below P (T10.setTop (mkF m 132 #[.val (.int cv), .val (.int dv), .val (.int (1 : Int32)), .val (.int (1 : Int32)), .val (.int ev), .unset] [(.int (32 : Int32)), (.int ev)]))
      by_cases hc132 : ev = (32 : Int32)
      · skip
        refine Go.s (fun k => XS.icmpNo X10.here hx rfl (hb hby at_132) rfl (XT.ii_ne_f hc132) k) ?_
        show Go p.tables e below P (T10.setTop (mkF m 135 #[.val (.int cv), .val (.int dv), .val (.int (1 : Int32)), .val (.int (1 : Int32)), .val (.int ev), .unset] []))
        refine Go.s (fun k => XS.iconst X10.here hx rfl (hb hby at_135) k) ?_
        show Go p.tables e below P (T10.setTop (mkF m 136 #[.val (.int cv), .val (.int dv), .val (.int (1 : Int32)), .val (.int (1 : Int32)), .val (.int ev), .unset] [(.int (1 : Int32))]))
        refine Go.s (fun k => XS.istore X10.here hx rfl (hb hby at_136) rfl (l' := #[.val (.int cv), .val (.int dv), .val (.int (1 : Int32)), .val (.int (1 : Int32)), .val (.int ev), .val (.int (1 : Int32))]) rfl k) ?_
        show Go p.tables e below P (T10.setTop (mkF m 138 #[.val (.int cv), .val (.int dv), .val (.int (1 : Int32)), .val (.int (1 : Int32)), .val (.int ev), .val (.int (1 : Int32))] []))
        refine Go.s (fun k => XS.goto X10.here hx rfl (pc0 := 138) (pc' := 144) rfl (hb hby at_138) (by decide) (by decide) k) ?_
        show Go p.tables e below P (T10.setTop (mkF m 144 #[.val (.int cv), .val (.int dv), .val (.int (1 : Int32)), .val (.int (1 : Int32)), .val (.int ev), .val (.int (1 : Int32))] []))
        refine Go.s (fun k => XS.iloadN X10.here hx rfl (hb hby at_144) rfl k) ?_
        show Go p.tables e below P (T10.setTop (mkF m 145 #[.val (.int cv), .val (.int dv), .val (.int (1 : Int32)), .val (.int (1 : Int32)), .val (.int ev), .val (.int (1 : Int32))] [(.int (1 : Int32))]))
        refine Go.s (fun k => XS.ifNo X10.here hx rfl (hb hby at_145) rfl (XT.i0_eq_f (by decide)) k) ?_
        show Go p.tables e below P (T10.setTop (mkF m 148 #[.val (.int cv), .val (.int dv), .val (.int (1 : Int32)), .val (.int (1 : Int32)), .val (.int ev), .val (.int (1 : Int32))] []))
        refine Go.s (fun k => XS.iloadN X10.here hx rfl (hb hby at_148) rfl k) ?_
        show Go p.tables e below P (T10.setTop (mkF m 149 #[.val (.int cv), .val (.int dv), .val (.int (1 : Int32)), .val (.int (1 : Int32)), .val (.int ev), .val (.int (1 : Int32))] [(.int cv)]))
        obtain ⟨v13, T13, L13, X13, Q13, st13⟩ := Con.static (own_rm1 l Z a0 hw [] cv h0 n0 Z0  ) X10 hx hZ (W := 0) hown (hw _ (List.mem_of_getElem? (i := 0) rfl)) (hw _ (List.mem_of_getElem? (i := 1) rfl)) (hw _ (List.mem_of_getElem? (i := 2) rfl)) (hw _ (List.mem_of_getElem? (i := 3) rfl)) (by decide) (by decide) (by decide) (by decide) (by decide) e10 (g := (mkF m 149 #[.val (.int cv), .val (.int dv), .val (.int (1 : Int32)), .val (.int (1 : Int32)), .val (.int ev), .val (.int (1 : Int32))] [(.int cv)])) rfl (by rw [hml]; rfl) (argsL := [(.int cv)]) (rest := []) rfl (lenOf own_pd_0 rfl) rfl (by show 2 * 0 + _ ≤ _; exact Nat.le_of_eq rfl) (hb hby at_149)
        obtain ⟨rfl, Nq13, e13⟩ := Q13
        have N13 := Fr.app N10 Nq13
        refine Go.s (fun {t} => st13) ?_
        show Go p.tables e below P (T13.setTop (mkF m 152 #[.val (.int cv), .val (.int dv), .val (.int (1 : Int32)), .val (.int (1 : Int32)), .val (.int ev), .val (.int (1 : Int32))] [(.int (own_f1 cv))]))
        refine Go.s (fun k => XS.iloadN X13.here hx rfl (hb hby at_152) rfl k) ?_
        show Go p.tables e below P (T13.setTop (mkF m 153 #[.val (.int cv), .val (.int dv), .val (.int (1 : Int32)), .val (.int (1 : Int32)), .val (.int ev), .val (.int (1 : Int32))] [(.int (1 : Int32)), (.int (own_f1 cv))]))
        refine Go.s (fun k => XS.icmpNo X13.here hx rfl (hb hby at_153) rfl (XT.ii_ne_f (by rw [own_f1, hc87]; decide)) k) ?_
        show Go p.tables e below P (T13.setTop (mkF m 156 #[.val (.int cv), .val (.int dv), .val (.int (1 : Int32)), .val (.int (1 : Int32)), .val (.int ev), .val (.int (1 : Int32))] []))
        refine Go.s (fun k => XS.iload X13.here hx rfl (hb hby at_156) rfl k) ?_
        show Go p.tables e below P (T13.setTop (mkF m 158 #[.val (.int cv), .val (.int dv), .val (.int (1 : Int32)), .val (.int (1 : Int32)), .val (.int ev), .val (.int (1 : Int32))] [(.int ev)]))
        obtain ⟨v14, T14, L14, X14, Q14, st14⟩ := Con.static (own_rm1 l Z a0 hw [] ev h0 n0 Z0  ) X13 hx hZ (W := 0) hown (hw _ (List.mem_of_getElem? (i := 0) rfl)) (hw _ (List.mem_of_getElem? (i := 1) rfl)) (hw _ (List.mem_of_getElem? (i := 2) rfl)) (hw _ (List.mem_of_getElem? (i := 3) rfl)) (by decide) (by decide) (by decide) (by decide) (by decide) e13 (g := (mkF m 158 #[.val (.int cv), .val (.int dv), .val (.int (1 : Int32)), .val (.int (1 : Int32)), .val (.int ev), .val (.int (1 : Int32))] [(.int ev)])) rfl (by rw [hml]; rfl) (argsL := [(.int ev)]) (rest := []) rfl (lenOf own_pd_0 rfl) rfl (by show 2 * 0 + _ ≤ _; exact Nat.le_of_eq rfl) (hb hby at_158)
        obtain ⟨rfl, Nq14, e14⟩ := Q14
        have N14 := Fr.app N13 Nq14
        refine Go.s (fun {t} => st14) ?_
        show Go p.tables e below P (T14.setTop (mkF m 161 #[.val (.int cv), .val (.int dv), .val (.int (1 : Int32)), .val (.int (1 : Int32)), .val (.int ev), .val (.int (1 : Int32))] [(.int (own_f1 ev))]))
        refine Go.s (fun k => XS.iload X14.here hx rfl (hb hby at_161) rfl k) ?_
        show Go p.tables e below P (T14.setTop (mkF m 163 #[.val (.int cv), .val (.int dv), .val (.int (1 : Int32)), .val (.int (1 : Int32)), .val (.int ev), .val (.int (1 : Int32))] [(.int (1 : Int32)), (.int (own_f1 ev))]))
        refine Go.s (fun k => XS.icmpNo X14.here hx rfl (hb hby at_163) rfl (XT.ii_ne_f (by rw [own_f1, hc132]; decide)) k) ?_
        show Go p.tables e below P (T14.setTop (mkF m 166 #[.val (.int cv), .val (.int dv), .val (.int (1 : Int32)), .val (.int (1 : Int32)), .val (.int ev), .val (.int (1 : Int32))] []))
        refine Go.s (fun k => XS.iconst X14.here hx rfl (hb hby at_166) k) ?_
        show Go p.tables e below P (T14.setTop (mkF m 167 #[.val (.int cv), .val (.int dv), .val (.int (1 : Int32)), .val (.int (1 : Int32)), .val (.int ev), .val (.int (1 : Int32))] [(.int (1 : Int32))]))
        refine Go.s (fun k => XS.goto X14.here hx rfl (pc0 := 167) (pc' := 171) rfl (hb hby at_167) (by decide) (by decide) k) ?_
        show Go p.tables e below P (T14.setTop (mkF m 171 #[.val (.int cv), .val (.int dv), .val (.int (1 : Int32)), .val (.int (1 : Int32)), .val (.int ev), .val (.int (1 : Int32))] [(.int (1 : Int32))]))
        exact Go.retZ X14 hx hlk hret (by decide) (hb hby at_171) (fun U hU hF => hP U _ _ ⟨rfl, N14⟩ ⟨hF.1, hF.2.1, hF.2.2.mono (by decide) (by decide)⟩)
      · skip
        refine Go.s (fun k => XS.icmpYes X10.here hx rfl (pc0 := 132) (pc' := 141) rfl (hb hby at_132) rfl (XT.ii_ne_t hc132) (by decide) (by decide) k) ?_
        show Go p.tables e below P (T10.setTop (mkF m 141 #[.val (.int cv), .val (.int dv), .val (.int (1 : Int32)), .val (.int (1 : Int32)), .val (.int ev), .unset] []))
        refine Go.s (fun k => XS.iconst X10.here hx rfl (hb hby at_141) k) ?_
        show Go p.tables e below P (T10.setTop (mkF m 142 #[.val (.int cv), .val (.int dv), .val (.int (1 : Int32)), .val (.int (1 : Int32)), .val (.int ev), .unset] [(.int (0 : Int32))]))
        refine Go.s (fun k => XS.istore X10.here hx rfl (hb hby at_142) rfl (l' := #[.val (.int cv), .val (.int dv), .val (.int (1 : Int32)), .val (.int (1 : Int32)), .val (.int ev), .val (.int (0 : Int32))]) rfl k) ?_
        show Go p.tables e below P (T10.setTop (mkF m 144 #[.val (.int cv), .val (.int dv), .val (.int (1 : Int32)), .val (.int (1 : Int32)), .val (.int ev), .val (.int (0 : Int32))] []))
        refine Go.s (fun k => XS.iloadN X10.here hx rfl (hb hby at_144) rfl k) ?_
        show Go p.tables e below P (T10.setTop (mkF m 145 #[.val (.int cv), .val (.int dv), .val (.int (1 : Int32)), .val (.int (1 : Int32)), .val (.int ev), .val (.int (0 : Int32))] [(.int (1 : Int32))]))
        refine Go.s (fun k => XS.ifNo X10.here hx rfl (hb hby at_145) rfl (XT.i0_eq_f (by decide)) k) ?_
        show Go p.tables e below P (T10.setTop (mkF m 148 #[.val (.int cv), .val (.int dv), .val (.int (1 : Int32)), .val (.int (1 : Int32)), .val (.int ev), .val (.int (0 : Int32))] []))
        refine Go.s (fun k => XS.iloadN X10.here hx rfl (hb hby at_148) rfl k) ?_
        show Go p.tables e below P (T10.setTop (mkF m 149 #[.val (.int cv), .val (.int dv), .val (.int (1 : Int32)), .val (.int (1 : Int32)), .val (.int ev), .val (.int (0 : Int32))] [(.int cv)]))
        obtain ⟨v15, T15, L15, X15, Q15, st15⟩ := Con.static (own_rm1 l Z a0 hw [] cv h0 n0 Z0  ) X10 hx hZ (W := 0) hown (hw _ (List.mem_of_getElem? (i := 0) rfl)) (hw _ (List.mem_of_getElem? (i := 1) rfl)) (hw _ (List.mem_of_getElem? (i := 2) rfl)) (hw _ (List.mem_of_getElem? (i := 3) rfl)) (by decide) (by decide) (by decide) (by decide) (by decide) e10 (g := (mkF m 149 #[.val (.int cv), .val (.int dv), .val (.int (1 : Int32)), .val (.int (1 : Int32)), .val (.int ev), .val (.int (0 : Int32))] [(.int cv)])) rfl (by rw [hml]; rfl) (argsL := [(.int cv)]) (rest := []) rfl (lenOf own_pd_0 rfl) rfl (by show 2 * 0 + _ ≤ _; exact Nat.le_of_eq rfl) (hb hby at_149)
        obtain ⟨rfl, Nq15, e15⟩ := Q15
        have N15 := Fr.app N10 Nq15
        refine Go.s (fun {t} => st15) ?_
        show Go p.tables e below P (T15.setTop (mkF m 152 #[.val (.int cv), .val (.int dv), .val (.int (1 : Int32)), .val (.int (1 : Int32)), .val (.int ev), .val (.int (0 : Int32))] [(.int (own_f1 cv))]))
        refine Go.s (fun k => XS.iloadN X15.here hx rfl (hb hby at_152) rfl k) ?_
        show Go p.tables e below P (T15.setTop (mkF m 153 #[.val (.int cv), .val (.int dv), .val (.int (1 : Int32)), .val (.int (1 : Int32)), .val (.int ev), .val (.int (0 : Int32))] [(.int (1 : Int32)), (.int (own_f1 cv))]))
        refine Go.s (fun k => XS.icmpNo X15.here hx rfl (hb hby at_153) rfl (XT.ii_ne_f (by rw [own_f1, hc87]; decide)) k) ?_
        show Go p.tables e below P (T15.setTop (mkF m 156 #[.val (.int cv), .val (.int dv), .val (.int (1 : Int32)), .val (.int (1 : Int32)), .val (.int ev), .val (.int (0 : Int32))] []))
        refine Go.s (fun k => XS.iload X15.here hx rfl (hb hby at_156) rfl k) ?_
        show Go p.tables e below P (T15.setTop (mkF m 158 #[.val (.int cv), .val (.int dv), .val (.int (1 : Int32)), .val (.int (1 : Int32)), .val (.int ev), .val (.int (0 : Int32))] [(.int ev)]))
        obtain ⟨v16, T16, L16, X16, Q16, st16⟩ := Con.static (own_rm1 l Z a0 hw [] ev h0 n0 Z0  ) X15 hx hZ (W := 0) hown (hw _ (List.mem_of_getElem? (i := 0) rfl)) (hw _ (List.mem_of_getElem? (i := 1) rfl)) (hw _ (List.mem_of_getElem? (i := 2) rfl)) (hw _ (List.mem_of_getElem? (i := 3) rfl)) (by decide) (by decide) (by decide) (by decide) (by decide) e15 (g := (mkF m 158 #[.val (.int cv), .val (.int dv), .val (.int (1 : Int32)), .val (.int (1 : Int32)), .val (.int ev), .val (.int (0 : Int32))] [(.int ev)])) rfl (by rw [hml]; rfl) (argsL := [(.int ev)]) (rest := []) rfl (lenOf own_pd_0 rfl) rfl (by show 2 * 0 + _ ≤ _; exact Nat.le_of_eq rfl) (hb hby at_158)
        obtain ⟨rfl, Nq16, e16⟩ := Q16
        have N16 := Fr.app N15 Nq16
        refine Go.s (fun {t} => st16) ?_
        show Go p.tables e below P (T16.setTop (mkF m 161 #[.val (.int cv), .val (.int dv), .val (.int (1 : Int32)), .val (.int (1 : Int32)), .val (.int ev), .val (.int (0 : Int32))] [(.int (own_f1 ev))]))
        refine Go.s (fun k => XS.iload X16.here hx rfl (hb hby at_161) rfl k) ?_
        show Go p.tables e below P (T16.setTop (mkF m 163 #[.val (.int cv), .val (.int dv), .val (.int (1 : Int32)), .val (.int (1 : Int32)), .val (.int ev), .val (.int (0 : Int32))] [(.int (0 : Int32)), (.int (own_f1 ev))]))
        refine Go.s (fun k => XS.icmpNo X16.here hx rfl (hb hby at_163) rfl (XT.ii_ne_f (by rw [own_f1, if_neg hc132, if_neg hc119])) k) ?_
        show Go p.tables e below P (T16.setTop (mkF m 166 #[.val (.int cv), .val (.int dv), .val (.int (1 : Int32)), .val (.int (1 : Int32)), .val (.int ev), .val (.int (0 : Int32))] []))
        refine Go.s (fun k => XS.iconst X16.here hx rfl (hb hby at_166) k) ?_
        show Go p.tables e below P (T16.setTop (mkF m 167 #[.val (.int cv), .val (.int dv), .val (.int (1 : Int32)), .val (.int (1 : Int32)), .val (.int ev), .val (.int (0 : Int32))] [(.int (1 : Int32))]))
        refine Go.s (fun k => XS.goto X16.here hx rfl (pc0 := 167) (pc' := 171) rfl (hb hby at_167) (by decide) (by decide) k) ?_
        show Go p.tables e below P (T16.setTop (mkF m 171 #[.val (.int cv), .val (.int dv), .val (.int (1 : Int32)), .val (.int (1 : Int32)), .val (.int ev), .val (.int (0 : Int32))] [(.int (1 : Int32))]))
        exact Go.retZ X16 hx hlk hret (by decide) (hb hby at_171) (fun U hU hF => hP U _ _ ⟨rfl, N16⟩ ⟨hF.1, hF.2.1, hF.2.2.mono (by decide) (by decide)⟩)
  · skip
    refine Go.s (fun k => XS.icmpYes X10.here hx rfl (pc0 := 87) (pc' := 95) rfl (hb hby at_87) rfl (XT.ii_ne_t hc87) (by decide) (by decide) k) ?_
    show Go p.tables e below P (T10.setTop (mkF m 95 #[.val (.int cv), .val (.int dv), .val (.int (1 : Int32)), .unset, .unset, .unset] []))
    refine Go.s (fun k => XS.iloadN X10.here hx rfl (hb hby at_95) rfl k) ?_
    show Go p.tables e below P (T10.setTop (mkF m 96 #[.val (.int cv), .val (.int dv), .val (.int (1 : Int32)), .unset, .unset, .unset] [(.int cv)]))
    refine Go.s (fun k => XS.bipush X10.here hx rfl (hb hby at_96) k) ?_
    show Go p.tables e below P (T10.setTop (mkF m 98 #[.val (.int cv), .val (.int dv), .val (.int (1 : Int32)), .unset, .unset, .unset] [(.int (32 : Int32)), (.int cv)]))
    by_cases hc98 : cv = (32 : Int32)
    · skip
      refine Go.s (fun k => XS.icmpNo X10.here hx rfl (hb hby at_98) rfl (XT.ii_ne_f hc98) k) ?_
      show Go p.tables e below P (T10.setTop (mkF m 101 #[.val (.int cv), .val (.int dv), .val (.int (1 : Int32)), .unset, .unset, .unset] []))
      refine Go.s (fun k => XS.iconst X10.here hx rfl (hb hby at_101) k) ?_
      show Go p.tables e below P (T10.setTop (mkF m 102 #[.val (.int cv), .val (.int dv), .val (.int (1 : Int32)), .unset, .unset, .unset] [(.int (1 : Int32))]))
      refine Go.s (fun k => XS.istoreN X10.here hx rfl (hb hby at_102) rfl (l' := #[.val (.int cv), .val (.int dv), .val (.int (1 : Int32)), .val (.int (1 : Int32)), .unset, .unset]) rfl k) ?_
      show Go p.tables e below P (T10.setTop (mkF m 103 #[.val (.int cv), .val (.int dv), .val (.int (1 : Int32)), .val (.int (1 : Int32)), .unset, .unset] []))
      refine Go.s (fun k => XS.goto X10.here hx rfl (pc0 := 103) (pc' := 108) rfl (hb hby at_103) (by decide) (by decide) k) ?_
      show Go p.tables e below P (T10.setTop (mkF m 108 #[.val (.int cv), .val (.int dv), .val (.int (1 : Int32)), .val (.int (1 : Int32)), .unset, .unset] []))
      refine Go.s (fun k => XS.iloadN X10.here hx rfl (hb hby at_108) rfl k) ?_
      show Go p.tables e below P (T10.setTop (mkF m 109 #[.val (.int cv), .val (.int dv), .val (.int (1 : Int32)), .val (.int (1 : Int32)), .unset, .unset] [(.int dv)]))
      refine Go.s (fun k => XS.sipush X10.here hx rfl (hb hby at_109) k) ?_
      show Go p.tables e below P (T10.setTop (mkF m 112 #[.val (.int cv), .val (.int dv), .val (.int (1 : Int32)), .val (.int (1 : Int32)), .unset, .unset] [(.int (255 : Int32)), (.int dv)]))
      refine Go.s (fun k => XS.iand X10.here hx rfl (hb hby at_112) rfl k) ?_
      show Go p.tables e below P (T10.setTop (mkF m 113 #[.val (.int cv), .val (.int dv), .val (.int (1 : Int32)), .val (.int (1 : Int32)), .unset, .unset] [(.int (dv &&& (255 : Int32)))]))
      refine Go.s (fun k => XS.istore X10.here hx rfl (hb hby at_113) rfl (l' := #[.val (.int cv), .val (.int dv), .val (.int (1 : Int32)), .val (.int (1 : Int32)), .val (.int (dv &&& (255 : Int32))), .unset]) rfl k) ?_
      show Go p.tables e below P (T10.setTop (mkF m 115 #[.val (.int cv), .val (.int dv), .val (.int (1 : Int32)), .val (.int (1 : Int32)), .val (.int (dv &&& (255 : Int32))), .unset] []))
      refine (?_ : ∀ ev : Int32, ev = (dv &&& (255 : Int32)) → Go p.tables e below P (T10.setTop (mkF m 115 #[.val (.int cv), .val (.int dv), .val (.int (1 : Int32)), .val (.int (1 : Int32)), .val (.int ev), .unset] []))) _ rfl
      intro ev hev
      refine Go.s (fun k => XS.iload X10.here hx rfl (hb hby at_115) rfl k) ?_
      show Go p.tables e below P (T10.setTop (mkF m 117 #[.val (.int cv), .val (.int dv), .val (.int (1 : Int32)), .val (.int (1 : Int32)), .val (.int ev), .unset] [(.int ev)]))
      refine Go.s (fun k => XS.bipush X10.here hx rfl (hb hby at_117) k) ?_
      show Go p.tables e below P (T10.setTop (mkF m 119 #[.val (.int cv), .val (.int dv), .val (.int (1 : Int32)), .val (.int (1 : Int32)), .val (.int ev), .unset] [(.int (9 : Int32)), (.int ev)]))
      by_cases hc119 : ev = (9 : Int32)
      · skip
        refine Go.s (fun k => XS.icmpNo X10.here hx rfl (hb hby at_119) rfl (XT.ii_ne_f hc119) k) ?_
        show Go p.tables e below P (T10.setTop (mkF m 122 #[.val (.int cv), .val (.int dv), .val (.int (1 : Int32)), .val (.int (1 : Int32)), .val (.int ev), .unset] []))
        refine Go.s (fun k => XS.iconst X10.here hx rfl (hb hby at_122) k) ?_
        show Go p.tables e below P (T10.setTop (mkF m 123 #[.val (.int cv), .val (.int dv), .val (.int (1 : Int32)), .val (.int (1 : Int32)), .val (.int ev), .unset] [(.int (1 : Int32))]))
        refine Go.s (fun k => XS.istore X10.here hx rfl (hb hby at_123) rfl (l' := #[.val (.int cv), .val (.int dv), .val (.int (1 : Int32)), .val (.int (1 : Int32)), .val (.int ev), .val (.int (1 : Int32))]) rfl k) ?_
        show Go p.tables e below P (T10.setTop (mkF m 125 #[.val (.int cv), .val (.int dv), .val (.int (1 : Int32)), .val (.int (1 : Int32)), .val (.int ev), .val (.int (1 : Int32))] []))
        refine Go.s (fun k => XS.goto X10.here hx rfl (pc0 := 125) (pc' := 144) rfl (hb hby at_125) (by decide) (by decide) k) ?_
        show Go p.tables e below P (T10.setTop (mkF m 144 #[.val (.int cv), .val (.int dv), .val (.int (1 : Int32)), .val (.int (1 : Int32)), .val (.int ev), .val (.int (1 : Int32))] []))
        refine Go.s (fun k => XS.iloadN X10.here hx rfl (hb hby at_144) rfl k) ?_
        show Go p.tables e below P (T10.setTop (mkF m 145 #[.val (.int cv), .val (.int dv), .val (.int (1 : Int32)), .val (.int (1 : Int32)), .val (.int ev), .val (.int (1 : Int32))] [(.int (1 : Int32))]))
        refine Go.s (fun k => XS.ifNo X10.here hx rfl (hb hby at_145) rfl (XT.i0_eq_f (by decide)) k) ?_
        show Go p.tables e below P (T10.setTop (mkF m 148 #[.val (.int cv), .val (.int dv), .val (.int (1 : Int32)), .val (.int (1 : Int32)), .val (.int ev), .val (.int (1 : Int32))] []))
        refine Go.s (fun k => XS.iloadN X10.here hx rfl (hb hby at_148) rfl k) ?_
        show Go p.tables e below P (T10.setTop (mkF m 149 #[.val (.int cv), .val (.int dv), .val (.int (1 : Int32)), .val (.int (1 : Int32)), .val (.int ev), .val (.int (1 : Int32))] [(.int cv)]))
        obtain ⟨v17, T17, L17, X17, Q17, st17⟩ := Con.static (own_rm1 l Z a0 hw [] cv h0 n0 Z0  ) X10 hx hZ (W := 0) hown (hw _ (List.mem_of_getElem? (i := 0) rfl)) (hw _ (List.mem_of_getElem? (i := 1) rfl)) (hw _ (List.mem_of_getElem? (i := 2) rfl)) (hw _ (List.mem_of_getElem? (i := 3) rfl)) (by decide) (by decide) (by decide) (by decide) (by decide) e10 (g := (mkF m 149 #[.val (.int cv), .val (.int dv), .val (.int (1 : Int32)), .val (.int (1 : Int32)), .val (.int ev), .val (.int (1 : Int32))] [(.int cv)])) rfl (by rw [hml]; rfl) (argsL := [(.int cv)]) (rest := []) rfl (lenOf own_pd_0 rfl) rfl (by show 2 * 0 + _ ≤ _; exact Nat.le_of_eq rfl) (hb hby at_149)
        obtain ⟨rfl, Nq17, e17⟩ := Q17
        have N17 := Fr.app N10 Nq17
        refine Go.s (fun {t} => st17) ?_
        show Go p.tables e below P (T17.setTop (mkF m 152 #[.val (.int cv), .val (.int dv), .val (.int (1 : Int32)), .val (.int (1 : Int32)), .val (.int ev), .val (.int (1 : Int32))] [(.int (own_f1 cv))]))
        refine Go.s (fun k => XS.iloadN X17.here hx rfl (hb hby at_152) rfl k) ?_
        show Go p.tables e below P (T17.setTop (mkF m 153 #[.val (.int cv), .val (.int dv), .val (.int (1 : Int32)), .val (.int (1 : Int32)), .val (.int ev), .val (.int (1 : Int32))] [(.int (1 : Int32)), (.int (own_f1 cv))]))
        refine Go.s (fun k => XS.icmpNo X17.here hx rfl (hb hby at_153) rfl (XT.ii_ne_f (by rw [own_f1, hc98]; decide)) k) ?_
        show Go p.tables e below P (T17.setTop (mkF m 156 #[.val (.int cv), .val (.int dv), .val (.int (1 : Int32)), .val (.int (1 : Int32)), .val (.int ev), .val (.int (1 : Int32))] []))
        refine Go.s (fun k => XS.iload X17.here hx rfl (hb hby at_156) rfl k) ?_
        show Go p.tables e below P (T17.setTop (mkF m 158 #[.val (.int cv), .val (.int dv), .val (.int (1 : Int32)), .val (.int (1 : Int32)), .val (.int ev), .val (.int (1 : Int32))] [(.int ev)]))
        obtain ⟨v18, T18, L18, X18, Q18, st18⟩ := Con.static (own_rm1 l Z a0 hw [] ev h0 n0 Z0  ) X17 hx hZ (W := 0) hown (hw _ (List.mem_of_getElem? (i := 0) rfl)) (hw _ (List.mem_of_getElem? (i := 1) rfl)) (hw _ (List.mem_of_getElem? (i := 2) rfl)) (hw _ (List.mem_of_getElem? (i := 3) rfl)) (by decide) (by decide) (by decide) (by decide) (by decide) e17 (g := (mkF m 158 #[.val (.int cv), .val (.int dv), .val (.int (1 : Int32)), .val (.int (1 : Int32)), .val (.int ev), .val (.int (1 : Int32))] [(.int ev)])) rfl (by rw [hml]; rfl) (argsL := [(.int ev)]) (rest := []) rfl (lenOf own_pd_0 rfl) rfl (by show 2 * 0 + _ ≤ _; exact Nat.le_of_eq rfl) (hb hby at_158)
        obtain ⟨rfl, Nq18, e18⟩ := Q18
        have N18 := Fr.app N17 Nq18
        refine Go.s (fun {t} => st18) ?_
        show Go p.tables e below P (T18.setTop (mkF m 161 #[.val (.int cv), .val (.int dv), .val (.int (1 : Int32)), .val (.int (1 : Int32)), .val (.int ev), .val (.int (1 : Int32))] [(.int (own_f1 ev))]))
        refine Go.s (fun k => XS.iload X18.here hx rfl (hb hby at_161) rfl k) ?_
        show Go p.tables e below P (T18.setTop (mkF m 163 #[.val (.int cv), .val (.int dv), .val (.int (1 : Int32)), .val (.int (1 : Int32)), .val (.int ev), .val (.int (1 : Int32))] [(.int (1 : Int32)), (.int (own_f1 ev))]))
        refine Go.s (fun k => XS.icmpNo X18.here hx rfl (hb hby at_163) rfl (XT.ii_ne_f (by rw [own_f1, hc119]; decide)) k) ?_
        show Go p.tables e below P (T18.setTop (mkF m 166 #[.val (.int cv), .val (.int dv), .val (.int (1 : Int32)), .val (.int (1 : Int32)), .val (.int ev), .val (.int (1 : Int32))] []))
        refine Go.s (fun k => XS.iconst X18.here hx rfl (hb hby at_166) k) ?_
        show Go p.tables e below P (T18.setTop (mkF m 167 #[.val (.int cv), .val (.int dv), .val (.int (1 : Int32)), .val (.int (1 : Int32)), .val (.int ev), .val (.int (1 : Int32))] [(.int (1 : Int32))]))
        refine Go.s (fun k => XS.goto X18.here hx rfl (pc0 := 167) (pc' := 171) rfl (hb hby at_167) (by decide) (by decide) k) ?_
        show Go p.tables e below P (T18.setTop (mkF m 171 #[.val (.int cv), .val (.int dv), .val (.int (1 : Int32)), .val (.int (1 : Int32)), .val (.int ev), .val (.int (1 : Int32))] [(.int (1 : Int32))]))
        exact Go.retZ X18 hx hlk hret (by decide) (hb hby at_171) (fun U hU hF => hP U _ _ ⟨rfl, N18⟩ ⟨hF.1, hF.2.1, hF.2.2.mono (by decide) (by decide)⟩)
      · skip
        refine Go.s (fun k => XS.icmpYes X10.here hx rfl (pc0 := 119) (pc' := 128) rfl (hb hby at_119) rfl (XT.ii_ne_t hc119) (by decide) (by decide) k) ?_
        show Go p.tables e below P (T10.setTop (mkF m 128 #[.val (.int cv), .val (.int dv), .val (.int (1 : Int32)), .val (.int (1 : Int32)), .val (.int ev), .unset] []))
        refine Go.s (fun k => XS.iload X10.here hx rfl (hb hby at_128) rfl k) ?_
        show Go p.tables e below P (T10.setTop (mkF m 130 #[.val (.int cv), .val (.int dv), .val (.int (1 : Int32)), .val (.int (1 : Int32)), .val (.int ev), .unset] [(.int ev)]))
        refine Go.s (fun k => XS.bipush X10.here hx rfl (hb hby at_130) k) ?_
        show Go p.tables e below P (T10.setTop (mkF m 132 #[.val (.int cv), .val (.int dv), .val (.int (1 : Int32)), .val (.int (1 : Int32)), .val (.int ev), .unset] [(.int (32 : Int32)), (.int ev)]))
        by_cases hc132 : ev = (32 : Int32)
        · skip
          refine Go.s (fun k => XS.icmpNo X10.here hx rfl (hb hby at_132) rfl (XT.ii_ne_f hc132) k) ?_
          show Go p.tables e below P (T10.setTop (mkF m 135 #[.val (.int cv), .val (.int dv), .val (.int (1 : Int32)), .val (.int (1 : Int32)), .val (.int ev), .unset] []))
          refine Go.s (fun k => XS.iconst X10.here hx rfl (hb hby at_135) k) ?_
          show Go p.tables e below P (T10.setTop (mkF m 136 #[.val (.int cv), .val (.int dv), .val (.int (1 : Int32)), .val (.int (1 : Int32)), .val (.int ev), .unset] [(.int (1 : Int32))]))
          refine Go.s (fun k => XS.istore X10.here hx rfl (hb hby at_136) rfl (l' := #[.val (.int cv), .val (.int dv), .val (.int (1 : Int32)), .val (.int (1 : Int32)), .val (.int ev), .val (.int (1 : Int32))]) rfl k) ?_
          show Go p.tables e below P (T10.setTop (mkF m 138 #[.val (.int cv), .val (.int dv), .val (.int (1 : Int32)), .val (.int (1 : Int32)), .val (.int ev), .val (.int (1 : Int32))] []))
          refine Go.s (fun k => XS.goto X10.here hx rfl (pc0 := 138) (pc' := 144) rfl (hb hby at_138) (by decide) (by decide) k) ?_
          show Go p.tables e below P (T10.setTop (mkF m 144 #[.val (.int cv), .val (.int dv), .val (.int (1 : Int32)), .val (.int (1 : Int32)), .val (.int ev), .val (.int (1 : Int32))] []))
          refine Go.s (fun k => XS.iloadN X10.here hx rfl (hb hby at_144) rfl k) ?_
          show Go p.tables e below P (T10.setTop (mkF m 145 #[.val (.int cv), .val (.int dv), .val (.int (1 : Int32)), .val (.int (1 : Int32)), .val (.int ev), .val (.int (1 : Int32))] [(.int (1 : Int32))]))
          refine Go.s (fun k => XS.ifNo X10.here hx rfl (hb hby at_145) rfl (XT.i0_eq_f (by decide)) k) ?_
          show Go p.tables e below P (T10.setTop (mkF m 148 #[.val (.int cv), .val (.int dv), .val (.int (1 : Int32)), .val (.int (1 : Int32)), .val (.int ev), .val (.int (1 : Int32))] []))
          refine Go.s (fun k => XS.iloadN X10.here hx rfl (hb hby at_148) rfl k) ?_
          show Go p.tables e below P (T10.setTop (mkF m 149 #[.val (.int cv), .val (.int dv), .val (.int (1 : Int32)), .val (.int (1 : Int32)), .val (.int ev), .val (.int (1 : Int32))] [(.int cv)]))
          obtain ⟨v19, T19, L19, X19, Q19, st19⟩ := Con.static (own_rm1 l Z a0 hw [] cv h0 n0 Z0  ) X10 hx hZ (W := 0) hown (hw _ (List.mem_of_getElem? (i := 0) rfl)) (hw _ (List.mem_of_getElem? (i := 1) rfl)) (hw _ (List.mem_of_getElem? (i := 2) rfl)) (hw _ (List.mem_of_getElem? (i := 3) rfl)) (by decide) (by decide) (by decide) (by decide) (by decide) e10 (g := (mkF m 149 #[.val (.int cv), .val (.int dv), .val (.int (1 : Int32)), .val (.int (1 : Int32)), .val (.int ev), .val (.int (1 : Int32))] [(.int cv)])) rfl (by rw [hml]; rfl) (argsL := [(.int cv)]) (rest := []) rfl (lenOf own_pd_0 rfl) rfl (by show 2 * 0 + _ ≤ _; exact Nat.le_of_eq rfl) (hb hby at_149)
          obtain ⟨rfl, Nq19, e19⟩ := Q19
          have N19 := Fr.app N10 Nq19
          refine Go.s (fun {t} => st19) ?_
          show Go p.tables e below P (T19.setTop (mkF m 152 #[.val (.int cv), .val (.int dv), .val (.int (1 : Int32)), .val (.int (1 : Int32)), .val (.int ev), .val (.int (1 : Int32))] [(.int (own_f1 cv))]))
          refine Go.s (fun k => XS.iloadN X19.here hx rfl (hb hby at_152) rfl k) ?_
          show Go p.tables e below P (T19.setTop (mkF m 153 #[.val (.int cv), .val (.int dv), .val (.int (1 : Int32)), .val (.int (1 : Int32)), .val (.int ev), .val (.int (1 : Int32))] [(.int (1 : Int32)), (.int (own_f1 cv))]))
          refine Go.s (fun k => XS.icmpNo X19.here hx rfl (hb hby at_153) rfl (XT.ii_ne_f (by rw [own_f1, hc98]; decide)) k) ?_
          show Go p.tables e below P (T19.setTop (mkF m 156 #[.val (.int cv), .val (.int dv), .val (.int (1 : Int32)), .val (.int (1 : Int32)), .val (.int ev), .val (.int (1 : Int32))] []))
          refine Go.s (fun k => XS.iload X19.here hx rfl (hb hby at_156) rfl k) ?_
          show Go p.tables e below P (T19.setTop (mkF m 158 #[.val (.int cv), .val (.int dv), .val (.int (1 : Int32)), .val (.int (1 : Int32)), .val (.int ev), .val (.int (1 : Int32))] [(.int ev)]))
          obtain ⟨v20, T20, L20, X20, Q20, st20⟩ := Con.static (own_rm1 l Z a0 hw [] ev h0 n0 Z0  ) X19 hx hZ (W := 0) hown (hw _ (List.mem_of_getElem? (i := 0) rfl)) (hw _ (List.mem_of_getElem? (i := 1) rfl)) (hw _ (List.mem_of_getElem? (i := 2) rfl)) (hw _ (List.mem_of_getElem? (i := 3) rfl)) (by decide) (by decide) (by decide) (by decide) (by decide) e19 (g := (mkF m 158 #[.val (.int cv), .val (.int dv), .val (.int (1 : Int32)), .val (.int (1 : Int32)), .val (.int ev), .val (.int (1 : Int32))] [(.int ev)])) rfl (by rw [hml]; rfl) (argsL := [(.int ev)]) (rest := []) rfl (lenOf own_pd_0 rfl) rfl (by show 2 * 0 + _ ≤ _; exact Nat.le_of_eq rfl) (hb hby at_158)
          obtain ⟨rfl, Nq20, e20⟩ := Q20
          have N20 := Fr.app N19 Nq20
          refine Go.s (fun {t} => st20) ?_
          show Go p.tables e below P (T20.setTop (mkF m 161 #[.val (.int cv), .val (.int dv), .val (.int (1 : Int32)), .val (.int (1 : Int32)), .val (.int ev), .val (.int (1 : Int32))] [(.int (own_f1 ev))]))
          refine Go.s (fun k => XS.iload X20.here hx rfl (hb hby at_161) rfl k) ?_
          show Go p.tables e below P (T20.setTop (mkF m 163 #[.val (.int cv), .val (.int dv), .val (.int (1 : Int32)), .val (.int (1 : Int32)), .val (.int ev), .val (.int (1 : Int32))] [(.int (1 : Int32)), (.int (own_f1 ev))]))
          refine Go.s (fun k => XS.icmpNo X20.here hx rfl (hb hby at_163) rfl (XT.ii_ne_f (by rw [own_f1, hc132]; decide)) k) ?_
          show Go p.tables e below P (T20.setTop (mkF m 166 #[.val (.int cv), .val (.int dv), .val (.int (1 : Int32)), .val (.int (1 : Int32)), .val (.int ev), .val (.int (1 : Int32))] []))
          refine Go.s (fun k => XS.iconst X20.here hx rfl (hb hby at_166) k) ?_
          show Go p.tables e below P (T20.setTop (mkF m 167 #[.val (.int cv), .val (.int dv), .val (.int (1 : Int32)), .val (.int (1 : Int32)), .val (.int ev), .val (.int (1 : Int32))] [(.int (1 : Int32))]))
          refine Go.s (fun k => XS.goto X20.here hx rfl (pc0 := 167) (pc' := 171) rfl (hb hby at_167) (by decide) (by decide) k) ?_
          show Go p.tables e below P (T20.setTop (mkF m 171 #[.val (.int cv), .val (.int dv), .val (.int (1 : Int32)), .val (.int (1 : Int32)), .val (.int ev), .val (.int (1 : Int32))] [(.int (1 : Int32))]))
          exact Go.retZ X20 hx hlk hret (by decide) (hb hby at_171) (fun U hU hF => hP U _ _ ⟨rfl, N20⟩ ⟨hF.1, hF.2.1, hF.2.2.mono (by decide) (by decide)⟩)
        · skip
          refine Go.s (fun k => XS.icmpYes X10.here hx rfl (pc0 := 132) (pc' := 141) rfl (hb hby at_132) rfl (XT.ii_ne_t hc132) (by decide) (by decide) k) ?_
          show Go p.tables e below P (T10.setTop (mkF m 141 #[.val (.int cv), .val (.int dv), .val (.int (1 : Int32)), .val (.int (1 : Int32)), .val (.int ev), .unset] []))
          refine Go.s (fun k => XS.iconst X10.here hx rfl (hb hby at_141) k) ?_
          show Go p.tables e below P (T10.setTop (mkF m 142 #[.val (.int cv), .val (.int dv), .val (.int (1 : Int32)), .val (.int (1 : Int32)), .val (.int ev), .unset] [(.int (0 : Int32))]))
          refine Go.s (fun k => XS.istore X10.here hx rfl (hb hby at_142) rfl (l' := #[.val (.int cv), .val (.int dv), .val (.int (1 : Int32)), .val (.int (1 : Int32)), .val (.int ev), .val (.int (0 : Int32))]) rfl k) ?_
          show Go p.tables e below P (T10.setTop (mkF m 144 #[.val (.int cv), .val (.int dv), .val (.int (1 : Int32)), .val (.int (1 : Int32)), .val (.int ev), .val (.int (0 : Int32))] []))
          refine Go.s (fun k => XS.iloadN X10.here hx rfl (hb hby at_144) rfl k) ?_
          show Go p.tables e below P (T10.setTop (mkF m 145 #[.val (.int cv), .val (.int dv), .val (.int (1 : Int32)), .val (.int (1 : Int32)), .val (.int ev), .val (.int (0 : Int32))] [(.int (1 : Int32))]))
          refine Go.s (fun k => XS.ifNo X10.here hx rfl (hb hby at_145) rfl (XT.i0_eq_f (by decide)) k) ?_
          show Go p.tables e below P (T10.setTop (mkF m 148 #[.val (.int cv), .val (.int dv), .val (.int (1 : Int32)), .val (.int (1 : Int32)), .val (.int ev), .val (.int (0 : Int32))] []))
          refine Go.s (fun k => XS.iloadN X10.here hx rfl (hb hby at_148) rfl k) ?_
          show Go p.tables e below P (T10.setTop (mkF m 149 #[.val (.int cv), .val (.int dv), .val (.int (1 : Int32)), .val (.int (1 : Int32)), .val (.int ev), .val (.int (0 : Int32))] [(.int cv)]))
          obtain ⟨v21, T21, L21, X21, Q21, st21⟩ := Con.static (own_rm1 l Z a0 hw [] cv h0 n0 Z0  ) X10 hx hZ (W := 0) hown (hw _ (List.mem_of_getElem? (i := 0) rfl)) (hw _ (List.mem_of_getElem? (i := 1) rfl)) (hw _ (List.mem_of_getElem? (i := 2) rfl)) (hw _ (List.mem_of_getElem? (i := 3) rfl)) (by decide) (by decide) (by decide) (by decide) (by decide) e10 (g := (mkF m 149 #[.val (.int cv), .val (.int dv), .val (.int (1 : Int32)), .val (.int (1 : Int32)), .val (.int ev), .val (.int (0 : Int32))] [(.int cv)])) rfl (by rw [hml]; rfl) (argsL := [(.int cv)]) (rest := []) rfl (lenOf own_pd_0 rfl) rfl (by show 2 * 0 + _ ≤ _; exact Nat.le_of_eq rfl) (hb hby at_149)
          obtain ⟨rfl, Nq21, e21⟩ := Q21
          have N21 := Fr.app N10 Nq21
          refine Go.s (fun {t} => st21) ?_
          show Go p.tables e below P (T21.setTop (mkF m 152 #[.val (.int cv), .val (.int dv), .val (.int (1 : Int32)), .val (.int (1 : Int32)), .val (.int ev), .val (.int (0 : Int32))] [(.int (own_f1 cv))]))
          refine Go.s (fun k => XS.iloadN X21.here hx rfl (hb hby at_152) rfl k) ?_
          show Go p.tables e below P (T21.setTop (mkF m 153 #[.val (.int cv), .val (.int dv), .val (.int (1 : Int32)), .val (.int (1 : Int32)), .val (.int ev), .val (.int (0 : Int32))] [(.int (1 : Int32)), (.int (own_f1 cv))]))
          refine Go.s (fun k => XS.icmpNo X21.here hx rfl (hb hby at_153) rfl (XT.ii_ne_f (by rw [own_f1, hc98]; decide)) k) ?_
          show Go p.tables e below P (T21.setTop (mkF m 156 #[.val (.int cv), .val (.int dv), .val (.int (1 : Int32)), .val (.int (1 : Int32)), .val (.int ev), .val (.int (0 : Int32))] []))
          refine Go.s (fun k => XS.iload X21.here hx rfl (hb hby at_156) rfl k) ?_
          show Go p.tables e below P (T21.setTop (mkF m 158 #[.val (.int cv), .val (.int dv), .val (.int (1 : Int32)), .val (.int (1 : Int32)), .val (.int ev), .val (.int (0 : Int32))] [(.int ev)]))
          obtain ⟨v22, T22, L22, X22, Q22, st22⟩ := Con.static (own_rm1 l Z a0 hw [] ev h0 n0 Z0  ) X21 hx hZ (W := 0) hown (hw _ (List.mem_of_getElem? (i := 0) rfl)) (hw _ (List.mem_of_getElem? (i := 1) rfl)) (hw _ (List.mem_of_getElem? (i := 2) rfl)) (hw _ (List.mem_of_getElem? (i := 3) rfl)) (by decide) (by decide) (by decide) (by decide) (by decide) e21 (g := (mkF m 158 #[.val (.int cv), .val (.int dv), .val (.int (1 : Int32)), .val (.int (1 : Int32)), .val (.int ev), .val (.int (0 : Int32))] [(.int ev)])) rfl (by rw [hml]; rfl) (argsL := [(.int ev)]) (rest := []) rfl (lenOf own_pd_0 rfl) rfl (by show 2 * 0 + _ ≤ _; exact Nat.le_of_eq rfl) (hb hby at_158)
          obtain ⟨rfl, Nq22, e22⟩ := Q22
          have N22 := Fr.app N21 Nq22
          refine Go.s (fun {t} => st22) ?_
          show Go p.tables e below P (T22.setTop (mkF m 161 #[.val (.int cv), .val (.int dv), .val (.int (1 : Int32)), .val (.int (1 : Int32)), .val (.int ev), .val (.int (0 : Int32))] [(.int (own_f1 ev))]))
          refine Go.s (fun k => XS.iload X22.here hx rfl (hb hby at_161) rfl k) ?_
          show Go p.tables e below P (T22.setTop (mkF m 163 #[.val (.int cv), .val (.int dv), .val (.int (1 : Int32)), .val (.int (1 : Int32)), .val (.int ev), .val (.int (0 : Int32))] [(.int (0 : Int32)), (.int (own_f1 ev))]))
          refine Go.s (fun k => XS.icmpNo X22.here hx rfl (hb hby at_163) rfl (XT.ii_ne_f (by rw [own_f1, if_neg hc132, if_neg hc119])) k) ?_
          show Go p.tables e below P (T22.setTop (mkF m 166 #[.val (.int cv), .val (.int dv), .val (.int (1 : Int32)), .val (.int (1 : Int32)), .val (.int ev), .val (.int (0 : Int32))] []))
          refine Go.s (fun k => XS.iconst X22.here hx rfl (hb hby at_166) k) ?_
          show Go p.tables e below P (T22.setTop (mkF m 167 #[.val (.int cv), .val (.int dv), .val (.int (1 : Int32)), .val (.int (1 : Int32)), .val (.int ev), .val (.int (0 : Int32))] [(.int (1 : Int32))]))
          refine Go.s (fun k => XS.goto X22.here hx rfl (pc0 := 167) (pc' := 171) rfl (hb hby at_167) (by decide) (by decide) k) ?_
          show Go p.tables e below P (T22.setTop (mkF m 171 #[.val (.int cv), .val (.int dv), .val (.int (1 : Int32)), .val (.int (1 : Int32)), .val (.int ev), .val (.int (0 : Int32))] [(.int (1 : Int32))]))
          exact Go.retZ X22 hx hlk hret (by decide) (hb hby at_171) (fun U hU hF => hP U _ _ ⟨rfl, N22⟩ ⟨hF.1, hF.2.1, hF.2.2.mono (by decide) (by decide)⟩)
    · skip
      refine Go.s (fun k => XS.icmpYes X10.here hx rfl (pc0 := 98) (pc' := 106) rfl (hb hby at_98) rfl (XT.ii_ne_t hc98) (by decide) (by decide) k) ?_
      show Go p.tables e below P (T10.setTop (mkF m 106 #[.val (.int cv), .val (.int dv), .val (.int (1 : Int32)), .unset, .unset, .unset] []))
      refine Go.s (fun k => XS.iconst X10.here hx rfl (hb hby at_106) k) ?_
      show Go p.tables e below P (T10.setTop (mkF m 107 #[.val (.int cv), .val (.int dv), .val (.int (1 : Int32)), .unset, .unset, .unset] [(.int (0 : Int32))]))
      refine Go.s (fun k => XS.istoreN X10.here hx rfl (hb hby at_107) rfl (l' := #[.val (.int cv), .val (.int dv), .val (.int (1 : Int32)), .val (.int (0 : Int32)), .unset, .unset]) rfl k) ?_
      show Go p.tables e below P (T10.setTop (mkF m 108 #[.val (.int cv), .val (.int dv), .val (.int (1 : Int32)), .val (.int (0 : Int32)), .unset, .unset] []))
      refine Go.s (fun k => XS.iloadN X10.here hx rfl (hb hby at_108) rfl k) ?_
      show Go p.tables e below P (T10.setTop (mkF m 109 #[.val (.int cv), .val (.int dv), .val (.int (1 : Int32)), .val (.int (0 : Int32)), .unset, .unset] [(.int dv)]))
      refine Go.s (fun k => XS.sipush X10.here hx rfl (hb hby at_109) k) ?_
      show Go p.tables e below P (T10.setTop (mkF m 112 #[.val (.int cv), .val (.int dv), .val (.int (1 : Int32)), .val (.int (0 : Int32)), .unset, .unset] [(.int (255 : Int32)), (.int dv)]))
      refine Go.s (fun k => XS.iand X10.here hx rfl (hb hby at_112) rfl k) ?_
      show Go p.tables e below P (T10.setTop (mkF m 113 #[.val (.int cv), .val (.int dv), .val (.int (1 : Int32)), .val (.int (0 : Int32)), .unset, .unset] [(.int (dv &&& (255 : Int32)))]))
      refine Go.s (fun k => XS.istore X10.here hx rfl (hb hby at_113) rfl (l' := #[.val (.int cv), .val (.int dv), .val (.int (1 : Int32)), .val (.int (0 : Int32)), .val (.int (dv &&& (255 : Int32))), .unset]) rfl k) ?_
      show Go p.tables e below P (T10.setTop (mkF m 115 #[.val (.int cv), .val (.int dv), .val (.int (1 : Int32)), .val (.int (0 : Int32)), .val (.int (dv &&& (255 : Int32))), .unset] []))
      refine (?_ : ∀ ev : Int32, ev = (dv &&& (255 : Int32)) → Go p.tables e below P (T10.setTop (mkF m 115 #[.val (.int cv), .val (.int dv), .val (.int (1 : Int32)), .val (.int (0 : Int32)), .val (.int ev), .unset] []))) _ rfl
      intro ev hev
      refine Go.s (fun k => XS.iload X10.here hx rfl (hb hby at_115) rfl k) ?_
      show Go p.tables e below P (T10.setTop (mkF m 117 #[.val (.int cv), .val (.int dv), .val (.int (1 : Int32)), .val (.int (0 : Int32)), .val (.int ev), .unset] [(.int ev)]))
      refine Go.s (fun k => XS.bipush X10.here hx rfl (hb hby at_117) k) ?_
      show Go p.tables e below P (T10.setTop (mkF m 119 #[.val (.int cv), .val (.int dv), .val (.int (1 : Int32)), .val (.int (0 : Int32)), .val (.int ev), .unset] [(.int (9 : Int32)), (.int ev)]))
      by_cases hc119 : ev = (9 : Int32)
      · skip
        refine Go.s (fun k => XS.icmpNo X10.here hx rfl (hb hby at_119) rfl (XT.ii_ne_f hc119) k) ?_
        show Go p.tables e below P (T10.setTop (mkF m 122 #[.val (.int cv), .val (.int dv), .val (.int (1 : Int32)), .val (.int (0 : Int32)), .val (.int ev), .unset] []))
        refine Go.s (fun k => XS.iconst X10.here hx rfl (hb hby at_122) k) ?_
        show Go p.tables e below P (T10.setTop (mkF m 123 #[.val (.int cv), .val (.int dv), .val (.int (1 : Int32)), .val (.int (0 : Int32)), .val (.int ev), .unset] [(.int (1 : Int32))]))
        refine Go.s (fun k => XS.istore X10.here hx rfl (hb hby at_123) rfl (l' := #[.val (.int cv), .val (.int dv), .val (.int (1 : Int32)), .val (.int (0 : Int32)), .val (.int ev), .val (.int (1 : Int32))]) rfl k) ?_
        show Go p.tables e below P (T10.setTop (mkF m 125 #[.val (.int cv), .val (.int dv), .val (.int (1 : Int32)), .val (.int (0 : Int32)), .val (.int ev), .val (.int (1 : Int32))] []))
        refine Go.s (fun k => XS.goto X10.here hx rfl (pc0 := 125) (pc' := 144) rfl (hb hby at_125) (by decide) (by decide) k) ?_
        show Go p.tables e below P (T10.setTop (mkF m 144 #[.val (.int cv), .val (.int dv), .val (.int (1 : Int32)), .val (.int (0 : Int32)), .val (.int ev), .val (.int (1 : Int32))] []))
        refine Go.s (fun k => XS.iloadN X10.here hx rfl (hb hby at_144) rfl k) ?_
        show Go p.tables e below P (T10.setTop (mkF m 145 #[.val (.int cv), .val (.int dv), .val (.int (1 : Int32)), .val (.int (0 : Int32)), .val (.int ev), .val (.int (1 : Int32))] [(.int (1 : Int32))]))
        refine Go.s (fun k => XS.ifNo X10.here hx rfl (hb hby at_145) rfl (XT.i0_eq_f (by decide)) k) ?_
        show Go p.tables e below P (T10.setTop (mkF m 148 #[.val (.int cv), .val (.int dv), .val (.int (1 : Int32)), .val (.int (0 : Int32)), .val (.int ev), .val (.int (1 : Int32))] []))
        refine Go.s (fun k => XS.iloadN X10.here hx rfl (hb hby at_148) rfl k) ?_
        show Go p.tables e below P (T10.setTop (mkF m 149 #[.val (.int cv), .val (.int dv), .val (.int (1 : Int32)), .val (.int (0 : Int32)), .val (.int ev), .val (.int (1 : Int32))] [(.int cv)]))
        obtain ⟨v23, T23, L23, X23, Q23, st23⟩ := Con.static (own_rm1 l Z a0 hw [] cv h0 n0 Z0  ) X10 hx hZ (W := 0) hown (hw _ (List.mem_of_getElem? (i := 0) rfl)) (hw _ (List.mem_of_getElem? (i := 1) rfl)) (hw _ (List.mem_of_getElem? (i := 2) rfl)) (hw _ (List.mem_of_getElem? (i := 3) rfl)) (by decide) (by decide) (by decide) (by decide) (by decide) e10 (g := (mkF m 149 #[.val (.int cv), .val (.int dv), .val (.int (1 : Int32)), .val (.int (0 : Int32)), .val (.int ev), .val (.int (1 : Int32))] [(.int cv)])) rfl (by rw [hml]; rfl) (argsL := [(.int cv)]) (rest := []) rfl (lenOf own_pd_0 rfl) rfl (by show 2 * 0 + _ ≤ _; exact Nat.le_of_eq rfl) (hb hby at_149)
        obtain ⟨rfl, Nq23, e23⟩ := Q23
        have N23 := Fr.app N10 Nq23
        refine Go.s (fun {t} => st23) ?_
        show Go p.tables e below P (T23.setTop (mkF m 152 #[.val (.int cv), .val (.int dv), .val (.int (1 : Int32)), .val (.int (0 : Int32)), .val (.int ev), .val (.int (1 : Int32))] [(.int (own_f1 cv))]))
        refine Go.s (fun k => XS.iloadN X23.here hx rfl (hb hby at_152) rfl k) ?_
        show Go p.tables e below P (T23.setTop (mkF m 153 #[.val (.int cv), .val (.int dv), .val (.int (1 : Int32)), .val (.int (0 : Int32)), .val (.int ev), .val (.int (1 : Int32))] [(.int (0 : Int32)), (.int (own_f1 cv))]))
        refine Go.s (fun k => XS.icmpNo X23.here hx rfl (hb hby at_153) rfl (XT.ii_ne_f (by rw [own_f1, if_neg hc98, if_neg hc87])) k) ?_
        show Go p.tables e below P (T23.setTop (mkF m 156 #[.val (.int cv), .val (.int dv), .val (.int (1 : Int32)), .val (.int (0 : Int32)), .val (.int ev), .val (.int (1 : Int32))] []))
        refine Go.s (fun k => XS.iload X23.here hx rfl (hb hby at_156) rfl k) ?_
        show Go p.tables e below P (T23.setTop (mkF m 158 #[.val (.int cv), .val (.int dv), .val (.int (1 : Int32)), .val (.int (0 : Int32)), .val (.int ev), .val (.int (1 : Int32))] [(.int ev)]))
        obtain ⟨v24, T24, L24, X24, Q24, st24⟩ := Con.static (own_rm1 l Z a0 hw [] ev h0 n0 Z0  ) X23 hx hZ (W := 0) hown (hw _ (List.mem_of_getElem? (i := 0) rfl)) (hw _ (List.mem_of_getElem? (i := 1) rfl)) (hw _ (List.mem_of_getElem? (i := 2) rfl)) (hw _ (List.mem_of_getElem? (i := 3) rfl)) (by decide) (by decide) (by decide) (by decide) (by decide) e23 (g := (mkF m 158 #[.val (.int cv), .val (.int dv), .val (.int (1 : Int32)), .val (.int (0 : Int32)), .val (.int ev), .val (.int (1 : Int32))] [(.int ev)])) rfl (by rw [hml]; rfl) (argsL := [(.int ev)]) (rest := []) rfl (lenOf own_pd_0 rfl) rfl (by show 2 * 0 + _ ≤ _; exact Nat.le_of_eq rfl) (hb hby at_158)
        obtain ⟨rfl, Nq24, e24⟩ := Q24
        have N24 := Fr.app N23 Nq24
        refine Go.s (fun {t} => st24) ?_
        show Go p.tables e below P (T24.setTop (mkF m 161 #[.val (.int cv), .val (.int dv), .val (.int (1 : Int32)), .val (.int (0 : Int32)), .val (.int ev), .val (.int (1 : Int32))] [(.int (own_f1 ev))]))
        refine Go.s (fun k => XS.iload X24.here hx rfl (hb hby at_161) rfl k) ?_
        show Go p.tables e below P (T24.setTop (mkF m 163 #[.val (.int cv), .val (.int dv), .val (.int (1 : Int32)), .val (.int (0 : Int32)), .val (.int ev), .val (.int (1 : Int32))] [(.int (1 : Int32)), (.int (own_f1 ev))]))
        refine Go.s (fun k => XS.icmpNo X24.here hx rfl (hb hby at_163) rfl (XT.ii_ne_f (by rw [own_f1, hc119]; decide)) k) ?_
        show Go p.tables e below P (T24.setTop (mkF m 166 #[.val (.int cv), .val (.int dv), .val (.int (1 : Int32)), .val (.int (0 : Int32)), .val (.int ev), .val (.int (1 : Int32))] []))
        refine Go.s (fun k => XS.iconst X24.here hx rfl (hb hby at_166) k) ?_
        show Go p.tables e below P (T24.setTop (mkF m 167 #[.val (.int cv), .val (.int dv), .val (.int (1 : Int32)), .val (.int (0 : Int32)), .val (.int ev), .val (.int (1 : Int32))] [(.int (1 : Int32))]))
        refine Go.s (fun k => XS.goto X24.here hx rfl (pc0 := 167) (pc' := 171) rfl (hb hby at_167) (by decide) (by decide) k) ?_
        show Go p.tables e below P (T24.setTop (mkF m 171 #[.val (.int cv), .val (.int dv), .val (.int (1 : Int32)), .val (.int (0 : Int32)), .val (.int ev), .val (.int (1 : Int32))] [(.int (1 : Int32))]))
        exact Go.retZ X24 hx hlk hret (by decide) (hb hby at_171) (fun U hU hF => hP U _ _ ⟨rfl, N24⟩ ⟨hF.1, hF.2.1, hF.2.2.mono (by decide) (by decide)⟩)
      · skip
        refine Go.s (fun k => XS.icmpYes X10.here hx rfl (pc0 := 119) (pc' := 128) rfl (hb hby at_119) rfl (XT.ii_ne_t hc119) (by decide) (by decide) k) ?_
        show Go p.tables e below P (T10.setTop (mkF m 128 #[.val (.int cv), .val (.int dv), .val (.int (1 : Int32)), .val (.int (0 : Int32)), .val (.int ev), .unset] []))
        refine Go.s (fun k => XS.iload X10.here hx rfl (hb hby at_128) rfl k) ?_
        show Go p.tables e below P (T10.setTop (mkF m 130 #[.val (.int cv), .val (.int dv), .val (.int (1 : Int32)), .val (.int (0 : Int32)), .val (.int ev), .unset] [(.int ev)]))
        refine Go.s (fun k => XS.bipush X10.here hx rfl (hb hby at_130) k) ?_
        show Go p.tables e below P (T10.setTop (mkF m 132 #[.val (.int cv), .val (.int dv), .val (.int (1 : Int32)), .val (.int (0 : Int32)), .val (.int ev), .unset] [(.int (32 : Int32)), (.int ev)]))
        by_cases hc132 : ev = (32 : Int32)
        · skip
          refine Go.s (fun k => XS.icmpNo X10.here hx rfl (hb hby at_132) rfl (XT.ii_ne_f hc132) k) ?_
          show Go p.tables e below P (T10.setTop (mkF m 135 #[.val (.int cv), .val (.int dv), .val (.int (1 : Int32)), .val (.int (0 : Int32)), .val (.int ev), .unset] []))
          refine Go.s (fun k => XS.iconst X10.here hx rfl (hb hby at_135) k) ?_
          show Go p.tables e below P (T10.setTop (mkF m 136 #[.val (.int cv), .val (.int dv), .val (.int (1 : Int32)), .val (.int (0 : Int32)), .val (.int ev), .unset] [(.int (1 : Int32))]))
          refine Go.s (fun k => XS.istore X10.here hx rfl (hb hby at_136) rfl (l' := #[.val (.int cv), .val (.int dv), .val (.int (1 : Int32)), .val (.int (0 : Int32)), .val (.int ev), .val (.int (1 : Int32))]) rfl k) ?_
          show Go p.tables e below P (T10.setTop (mkF m 138 #[.val (.int cv), .val (.int dv), .val (.int (1 : Int32)), .val (.int (0 : Int32)), .val (.int ev), .val (.int (1 : Int32))] []))
          refine Go.s (fun k => XS.goto X10.here hx rfl (pc0 := 138) (pc' := 144) rfl (hb hby at_138) (by decide) (by decide) k) ?_
          show Go p.tables e below P (T10.setTop (mkF m 144 #[.val (.int cv), .val (.int dv), .val (.int (1 : Int32)), .val (.int (0 : Int32)), .val (.int ev), .val (.int (1 : Int32))] []))
          refine Go.s (fun k => XS.iloadN X10.here hx rfl (hb hby at_144) rfl k) ?_
          show Go p.tables e below P (T10.setTop (mkF m 145 #[.val (.int cv), .val (.int dv), .val (.int (1 : Int32)), .val (.int (0 : Int32)), .val (.int ev), .val (.int (1 : Int32))] [(.int (1 : Int32))]))
          refine Go.s (fun k => XS.ifNo X10.here hx rfl (hb hby at_145) rfl (XT.i0_eq_f (by decide)) k) ?_
          show Go p.tables e below P (T10.setTop (mkF m 148 #[.val (.int cv), .val (.int dv), .val (.int (1 : Int32)), .val (.int (0 : Int32)), .val (.int ev), .val (.int (1 : Int32))] []))
          refine Go.s (fun k => XS.iloadN X10.here hx rfl (hb hby at_148) rfl k) ?_
          show Go p.tables e below P (T10.setTop (mkF m 149 #[.val (.int cv), .val (.int dv), .val (.int (1 : Int32)), .val (.int (0 : Int32)), .val (.int ev), .val (.int (1 : Int32))] [(.int cv)]))
          obtain ⟨v25, T25, L25, X25, Q25, st25⟩ := Con.static (own_rm1 l Z a0 hw [] cv h0 n0 Z0  ) X10 hx hZ (W := 0) hown (hw _ (List.mem_of_getElem? (i := 0) rfl)) (hw _ (List.mem_of_getElem? (i := 1) rfl)) (hw _ (List.mem_of_getElem? (i := 2) rfl)) (hw _ (List.mem_of_getElem? (i := 3) rfl)) (by decide) (by decide) (by decide) (by decide) (by decide) e10 (g := (mkF m 149 #[.val (.int cv), .val (.int dv), .val (.int (1 : Int32)), .val (.int (0 : Int32)), .val (.int ev), .val (.int (1 : Int32))] [(.int cv)])) rfl (by rw [hml]; rfl) (argsL := [(.int cv)]) (rest := []) rfl (lenOf own_pd_0 rfl) rfl (by show 2 * 0 + _ ≤ _; exact Nat.le_of_eq rfl) (hb hby at_149)
          obtain ⟨rfl, Nq25, e25⟩ := Q25
          have N25 := Fr.app N10 Nq25
          refine Go.s (fun {t} => st25) ?_
          show Go p.tables e below P (T25.setTop (mkF m 152 #[.val (.int cv), .val (.int dv), .val (.int (1 : Int32)), .val (.int (0 : Int32)), .val (.int ev), .val (.int (1 : Int32))] [(.int (own_f1 cv))]))
          refine Go.s (fun k => XS.iloadN X25.here hx rfl (hb hby at_152) rfl k) ?_
          show Go p.tables e below P (T25.setTop (mkF m 153 #[.val (.int cv), .val (.int dv), .val (.int (1 : Int32)), .val (.int (0 : Int32)), .val (.int ev), .val (.int (1 : Int32))] [(.int (0 : Int32)), (.int (own_f1 cv))]))
          refine Go.s (fun k => XS.icmpNo X25.here hx rfl (hb hby at_153) rfl (XT.ii_ne_f (by rw [own_f1, if_neg hc98, if_neg hc87])) k) ?_
          show Go p.tables e below P (T25.setTop (mkF m 156 #[.val (.int cv), .val (.int dv), .val (.int (1 : Int32)), .val (.int (0 : Int32)), .val (.int ev), .val (.int (1 : Int32))] []))
          refine Go.s (fun k => XS.iload X25.here hx rfl (hb hby at_156) rfl k) ?_
          show Go p.tables e below P (T25.setTop (mkF m 158 #[.val (.int cv), .val (.int dv), .val (.int (1 : Int32)), .val (.int (0 : Int32)), .val (.int ev), .val (.int (1 : Int32))] [(.int ev)]))
          obtain ⟨v26, T26, L26, X26, Q26, st26⟩ := Con.static (own_rm1 l Z a0 hw [] ev h0 n0 Z0  ) X25 hx hZ (W := 0) hown (hw _ (List.mem_of_getElem? (i := 0) rfl)) (hw _ (List.mem_of_getElem? (i := 1) rfl)) (hw _ (List.mem_of_getElem? (i := 2) rfl)) (hw _ (List.mem_of_getElem? (i := 3) rfl)) (by decide) (by decide) (by decide) (by decide) (by decide) e25 (g := (mkF m 158 #[.val (.int cv), .val (.int dv), .val (.int (1 : Int32)), .val (.int (0 : Int32)), .val (.int ev), .val (.int (1 : Int32))] [(.int ev)])) rfl (by rw [hml]; rfl) (argsL := [(.int ev)]) (rest := []) rfl (lenOf own_pd_0 rfl) rfl (by show 2 * 0 + _ ≤ _; exact Nat.le_of_eq rfl) (hb hby at_158)
          obtain ⟨rfl, Nq26, e26⟩ := Q26
          have N26 := Fr.app N25 Nq26
          refine Go.s (fun {t} => st26) ?_
          show Go p.tables e below P (T26.setTop (mkF m 161 #[.val (.int cv), .val (.int dv), .val (.int (1 : Int32)), .val (.int (0 : Int32)), .val (.int ev), .val (.int (1 : Int32))] [(.int (own_f1 ev))]))
          refine Go.s (fun k => XS.iload X26.here hx rfl (hb hby at_161) rfl k) ?_
          show Go p.tables e below P (T26.setTop (mkF m 163 #[.val (.int cv), .val (.int dv), .val (.int (1 : Int32)), .val (.int (0 : Int32)), .val (.int ev), .val (.int (1 : Int32))] [(.int (1 : Int32)), (.int (own_f1 ev))]))
          refine Go.s (fun k => XS.icmpNo X26.here hx rfl (hb hby at_163) rfl (XT.ii_ne_f (by rw [own_f1, hc132]; decide)) k) ?_
          show Go p.tables e below P (T26.setTop (mkF m 166 #[.val (.int cv), .val (.int dv), .val (.int (1 : Int32)), .val (.int (0 : Int32)), .val (.int ev), .val (.int (1 : Int32))] []))
          refine Go.s (fun k => XS.iconst X26.here hx rfl (hb hby at_166) k) ?_
          show Go p.tables e below P (T26.setTop (mkF m 167 #[.val (.int cv), .val (.int dv), .val (.int (1 : Int32)), .val (.int (0 : Int32)), .val (.int ev), .val (.int (1 : Int32))] [(.int (1 : Int32))]))
          refine Go.s (fun k => XS.goto X26.here hx rfl (pc0 := 167) (pc' := 171) rfl (hb hby at_167) (by decide) (by decide) k) ?_
          show Go p.tables e below P (T26.setTop (mkF m 171 #[.val (.int cv), .val (.int dv), .val (.int (1 : Int32)), .val (.int (0 : Int32)), .val (.int ev), .val (.int (1 : Int32))] [(.int (1 : Int32))]))
          exact Go.retZ X26 hx hlk hret (by decide) (hb hby at_171) (fun U hU hF => hP U _ _ ⟨rfl, N26⟩ ⟨hF.1, hF.2.1, hF.2.2.mono (by decide) (by decide)⟩)
        · skip
          refine Go.s (fun k => XS.icmpYes X10.here hx rfl (pc0 := 132) (pc' := 141) rfl (hb hby at_132) rfl (XT.ii_ne_t hc132) (by decide) (by decide) k) ?_
          show Go p.tables e below P (T10.setTop (mkF m 141 #[.val (.int cv), .val (.int dv), .val (.int (1 : Int32)), .val (.int (0 : Int32)), .val (.int ev), .unset] []))
          refine Go.s (fun k => XS.iconst X10.here hx rfl (hb hby at_141) k) ?_
          show Go p.tables e below P (T10.setTop (mkF m 142 #[.val (.int cv), .val (.int dv), .val (.int (1 : Int32)), .val (.int (0 : Int32)), .val (.int ev), .unset] [(.int (0 : Int32))]))
          refine Go.s (fun k => XS.istore X10.here hx rfl (hb hby at_142) rfl (l' := #[.val (.int cv), .val (.int dv), .val (.int (1 : Int32)), .val (.int (0 : Int32)), .val (.int ev), .val (.int (0 : Int32))]) rfl k) ?_
          show Go p.tables e below P (T10.setTop (mkF m 144 #[.val (.int cv), .val (.int dv), .val (.int (1 : Int32)), .val (.int (0 : Int32)), .val (.int ev), .val (.int (0 : Int32))] []))
          refine Go.s (fun k => XS.iloadN X10.here hx rfl (hb hby at_144) rfl k) ?_
          show Go p.tables e below P (T10.setTop (mkF m 145 #[.val (.int cv), .val (.int dv), .val (.int (1 : Int32)), .val (.int (0 : Int32)), .val (.int ev), .val (.int (0 : Int32))] [(.int (1 : Int32))]))
          refine Go.s (fun k => XS.ifNo X10.here hx rfl (hb hby at_145) rfl (XT.i0_eq_f (by decide)) k) ?_
          show Go p.tables e below P (T10.setTop (mkF m 148 #[.val (.int cv), .val (.int dv), .val (.int (1 : Int32)), .val (.int (0 : Int32)), .val (.int ev), .val (.int (0 : Int32))] []))
          refine Go.s (fun k => XS.iloadN X10.here hx rfl (hb hby at_148) rfl k) ?_
          show Go p.tables e below P (T10.setTop (mkF m 149 #[.val (.int cv), .val (.int dv), .val (.int (1 : Int32)), .val (.int (0 : Int32)), .val (.int ev), .val (.int (0 : Int32))] [(.int cv)]))
          obtain ⟨v27, T27, L27, X27, Q27, st27⟩ := Con.static (own_rm1 l Z a0 hw [] cv h0 n0 Z0  ) X10 hx hZ (W := 0) hown (hw _ (List.mem_of_getElem? (i := 0) rfl)) (hw _ (List.mem_of_getElem? (i := 1) rfl)) (hw _ (List.mem_of_getElem? (i := 2) rfl)) (hw _ (List.mem_of_getElem? (i := 3) rfl)) (by decide) (by decide) (by decide) (by decide) (by decide) e10 (g := (mkF m 149 #[.val (.int cv), .val (.int dv), .val (.int (1 : Int32)), .val (.int (0 : Int32)), .val (.int ev), .val (.int (0 : Int32))] [(.int cv)])) rfl (by rw [hml]; rfl) (argsL := [(.int cv)]) (rest := []) rfl (lenOf own_pd_0 rfl) rfl (by show 2 * 0 + _ ≤ _; exact Nat.le_of_eq rfl) (hb hby at_149)
          obtain ⟨rfl, Nq27, e27⟩ := Q27
          have N27 := Fr.app N10 Nq27
          refine Go.s (fun {t} => st27) ?_
          show Go p.tables e below P (T27.setTop (mkF m 152 #[.val (.int cv), .val (.int dv), .val (.int (1 : Int32)), .val (.int (0 : Int32)), .val (.int ev), .val (.int (0 : Int32))] [(.int (own_f1 cv))]))
          refine Go.s (fun k => XS.iloadN X27.here hx rfl (hb hby at_152) rfl k) ?_
          show Go p.tables e below P (T27.setTop (mkF m 153 #[.val (.int cv), .val (.int dv), .val (.int (1 : Int32)), .val (.int (0 : Int32)), .val (.int ev), .val (.int (0 : Int32))] [(.int (0 : Int32)), (.int (own_f1 cv))]))
          refine Go.s (fun k => XS.icmpNo X27.here hx rfl (hb hby at_153) rfl (XT.ii_ne_f (by rw [own_f1, if_neg hc98, if_neg hc87])) k) ?_
          show Go p.tables e below P (T27.setTop (mkF m 156 #[.val (.int cv), .val (.int dv), .val (.int (1 : Int32)), .val (.int (0 : Int32)), .val (.int ev), .val (.int (0 : Int32))] []))
          refine Go.s (fun k => XS.iload X27.here hx rfl (hb hby at_156) rfl k) ?_
          show Go p.tables e below P (T27.setTop (mkF m 158 #[.val (.int cv), .val (.int dv), .val (.int (1 : Int32)), .val (.int (0 : Int32)), .val (.int ev), .val (.int (0 : Int32))] [(.int ev)]))
          obtain ⟨v28, T28, L28, X28, Q28, st28⟩ := Con.static (own_rm1 l Z a0 hw [] ev h0 n0 Z0  ) X27 hx hZ (W := 0) hown (hw _ (List.mem_of_getElem? (i := 0) rfl)) (hw _ (List.mem_of_getElem? (i := 1) rfl)) (hw _ (List.mem_of_getElem? (i := 2) rfl)) (hw _ (List.mem_of_getElem? (i := 3) rfl)) (by decide) (by decide) (by decide) (by decide) (by decide) e27 (g := (mkF m 158 #[.val (.int cv), .val (.int dv), .val (.int (1 : Int32)), .val (.int (0 : Int32)), .val (.int ev), .val (.int (0 : Int32))] [(.int ev)])) rfl (by rw [hml]; rfl) (argsL := [(.int ev)]) (rest := []) rfl (lenOf own_pd_0 rfl) rfl (by show 2 * 0 + _ ≤ _; exact Nat.le_of_eq rfl) (hb hby at_158)
          obtain ⟨rfl, Nq28, e28⟩ := Q28
          have N28 := Fr.app N27 Nq28
          refine Go.s (fun {t} => st28) ?_
          show Go p.tables e below P (T28.setTop (mkF m 161 #[.val (.int cv), .val (.int dv), .val (.int (1 : Int32)), .val (.int (0 : Int32)), .val (.int ev), .val (.int (0 : Int32))] [(.int (own_f1 ev))]))
          refine Go.s (fun k => XS.iload X28.here hx rfl (hb hby at_161) rfl k) ?_
          show Go p.tables e below P (T28.setTop (mkF m 163 #[.val (.int cv), .val (.int dv), .val (.int (1 : Int32)), .val (.int (0 : Int32)), .val (.int ev), .val (.int (0 : Int32))] [(.int (0 : Int32)), (.int (own_f1 ev))]))
          refine Go.s (fun k => XS.icmpNo X28.here hx rfl (hb hby at_163) rfl (XT.ii_ne_f (by rw [own_f1, if_neg hc132, if_neg hc119])) k) ?_
          show Go p.tables e below P (T28.setTop (mkF m 166 #[.val (.int cv), .val (.int dv), .val (.int (1 : Int32)), .val (.int (0 : Int32)), .val (.int ev), .val (.int (0 : Int32))] []))
          refine Go.s (fun k => XS.iconst X28.here hx rfl (hb hby at_166) k) ?_
          show Go p.tables e below P (T28.setTop (mkF m 167 #[.val (.int cv), .val (.int dv), .val (.int (1 : Int32)), .val (.int (0 : Int32)), .val (.int ev), .val (.int (0 : Int32))] [(.int (1 : Int32))]))
          refine Go.s (fun k => XS.goto X28.here hx rfl (pc0 := 167) (pc' := 171) rfl (hb hby at_167) (by decide) (by decide) k) ?_
          show Go p.tables e below P (T28.setTop (mkF m 171 #[.val (.int cv), .val (.int dv), .val (.int (1 : Int32)), .val (.int (0 : Int32)), .val (.int ev), .val (.int (0 : Int32))] [(.int (1 : Int32))]))
          exact Go.retZ X28 hx hlk hret (by decide) (hb hby at_171) (fun U hU hF => hP U _ _ ⟨rfl, N28⟩ ⟨hF.1, hF.2.1, hF.2.2.mono (by decide) (by decide)⟩)
set_option maxRecDepth 65536 in
set_option maxHeartbeats 40000000 in
theorem own_comes {Post : Tables → Env → Array Value → State → Outcome → State → Prop} (hpost : ∀ tb e args s v u, (limb_1_1.after args s (.returned v) u = true ∧ limb_1_2.after args s (.returned v) u = true ∧ True) → FrameEnd s (.returned v) u (Jvm.fieldLocs frame_1_writes args s ++ Jvm.arrayLocs frame_1_arrays args s ++ Jvm.staticLocs frame_1_statics s) 0 0 → Post tb e args s (.returned v) u) :
    ArmFor flags0 classFile x code maxLocals ret World_1 tables_1 room_1 Calls_1 rest_1 Pre_1 Post := by
  intro l hfl _ _ p e ha hc hk s m args below hf hA hF happ hP
  obtain ⟨hcalls, hrest, hpre⟩ := hP
  obtain ⟨-, -, -, hnamed, -, -, -, hat⟩ := (Spec.applies_iff hf).mp happ
  obtain ⟨hg, hn⟩ := and_e (Cond.before_iff.mp (show (Jvm.Cond.and given_1 narrow_1).before args s = true from hpre))
  obtain ⟨h1, g1⟩ := and_e hg
  obtain ⟨w0, w1, rfl⟩ : ∃ w0 w1 : Value, args = #[w0, w1] := by
    have hs : args.size = 2 := by simpa [Cond.value, given_1] using h1
    obtain ⟨L⟩ := args
    match L, hs with
    | [w0, w1], _ => exact ⟨w0, w1, rfl⟩
  have hw := fun d (hd : d ∈ tables_1) => atoms_spec (ws := Jvm.Cond.code x code maxLocals ret :: tables_1) hat d (List.mem_cons_of_mem _ hd)
  have hfit : Fit s := fun {y c} hc i hi => by
    obtain ⟨ha, rfl⟩ := Array.getElem?_eq_some_iff.mp hc
    have q := List.all_eq_true.mp ((Array.all_eq_true_iff_forall_mem.mp hF) _ (Array.getElem_mem ha)) i (List.mem_range.mpr hi)
    simpa [Array.getElem?_eq_getElem hi] using q
  obtain ⟨a0, g2⟩ := and_e g1
  obtain ⟨i0, ee0⟩ := is_v a0
  obtain rfl : w0 = (.int i0) := Option.some.inj ee0
  obtain ⟨i1, ee1⟩ := is_v g2
  obtain rfl : w1 = (.int i1) := Option.some.inj ee1
  obtain ⟨n, o, h1, h2, h3, _, L, rfl, ⟨rfl, N⟩, hq⟩ := own_rm0 l s _ hw tables_1 i0 i1  s.heap s.heap.size (Nat.le_refl _)  p e ha hc hk s m _ below hf ((Spec.applies_iff_loose hf).mp happ).1 ⟨rfl, State.Warmed39.refl s, rfl⟩ trivial
  refine ⟨n, _, h1, h2, h3, hpost _ _ _ _ _ _ ⟨Cond.after_iff.mpr rfl, Cond.after_iff.mpr (eq_i res_at (Term.int_eval (1)) rfl), trivial⟩ ⟨hq.1, hq.2.1, (hq.2.2.sift fun y hy => Or.inr (N y hy)).mono (by decide) (by decide)⟩⟩
theorem main_1_1 : Claimed_1_1 := own_comes fun _ _ _ _ _ _ h hF => ⟨h.1, hF⟩
theorem main_1_2 : Claimed_1_2 := own_comes fun _ _ _ _ _ _ h hF => ⟨h.2.1, hF⟩
end Jvm.Pilot.@@N@@
namespace Jvm.Pilot.@@N@@
open Jvm Jvm.ClassFile Sem Op Lib Jvm.Free Jvm.Stand Jvm.Pilot.@@N@@.Jvm.D
/-! MADE BY PROGRAM (witnessworld.py) out of the Statement's table words and the real class files: 10 classes; the members and pool entries that the words name. The judged class is class 1, her method 1. -/
namespace start1
open Jvm.ClassFile
def u (s : String) : CpInfo := .utf8 (stringToUtf16 s)
/-- a pool by its gaps: so many unusable entries, then the entry; so many at the end -/
def gap : Nat → List CpInfo → List CpInfo
  | 0, r => r
  | n + 1, r => .unusable :: gap n r
def poolList (es : List (Nat × CpInfo)) (last : Nat) : List CpInfo := es.foldr (fun e r => gap e.1 (e.2 :: r)) (gap last [])
def pool (es : List (Nat × CpInfo)) (last : Nat) : Array CpInfo := ⟨poolList es last⟩
def fileOf (pool : Array CpInfo) (this : Nat) (attrs : Array Attribute := #[]) (ms : Array MethodInfo := #[]) (fl : Nat := 33) (sup : Nat := 0) (ifs : Array Nat := #[]) (fds : Array FieldInfo := #[]) : ClassFile where
  minorVersion := 0
  majorVersion := 65
  constantPool := pool
  accessFlags := fl
  thisClass := this
  superClass := sup
  interfaces := ifs
  fields := fds
  methods := ms
  attributes := attrs
def plain (name : String) (sup : Option ClassId) : Class where
  name := name
  kind := .ordinary
  loader := none
  accessFlags := 33
  super := sup
  interfaces := #[]
  cf := none
  fields := #[]
  methods := #[]
  instanceTypes := #[]
  staticTypes := #[]
  resolved := #[]
  callSites := []
  init := .initialized
  statics := none
  mirror := none

def pool0 : Array CpInfo := pool [(5, u "<init>"), (0, u "()V"), (1, .class_ 10), (1, u "java/lang/Object")] 113

def k0m0 : Method := { name := "<init>", desc := "()V", sig := { parameters := [], returnType := none }, accessFlags := 1, code := none }
/-- java/lang/Object -/
def k0 : Class := { plain "java/lang/Object" none with
  accessFlags := 33
  interfaces := #[]
  cf := some (fileOf pool0 8 #[] #[{ accessFlags := 1, nameIndex := 5, descriptorIndex := 6, attributes := #[] }] 33 0 #[] #[])
  fields := #[]
  methods := #[k0m0]
  instanceTypes := #[]
  staticTypes := #[]
  resolved := Array.replicate 124 none
  statics := none }

def pool1 : Array CpInfo := pool [(2, .class_ 4), (1, u "java/lang/Object"), (0, u "<init>"), (0, u "()V"), (0, .methodref 8 9), (0, .class_ 10), (0, .nameAndType 11 12), (0, u "com/example/impart/impart/Statement"), (0, u "isBlank"), (0, u "(I)Z"), (0, .integer 65568), (0, .integer 65545), (0, .class_ 16), (0, u "com/example/impart/impart/StatementIsBlankPinLaw"), (2, u "law"), (0, u "(II)Z")] 3

def k1m0 : Method := { name := "<init>", desc := "()V", sig := { parameters := [], returnType := none }, accessFlags := 2, code := none }
def k1c1 : Code := { maxStack := 2, maxLocals := 6, code := code, exceptionTable := #[], attributes := #[] }
def k1m1 : Method := { name := "law", desc := "(II)Z", sig := { parameters := [.int, .int], returnType := some .boolean }, accessFlags := 9, code := some k1c1 }
/-- com/example/impart/impart/StatementIsBlankPinLaw -/
def k1 : Class := { plain "com/example/impart/impart/StatementIsBlankPinLaw" (some 0) with
  accessFlags := 49
  interfaces := #[]
  cf := some (fileOf pool1 15 #[] #[{ accessFlags := 2, nameIndex := 5, descriptorIndex := 6, attributes := #[] }, { accessFlags := 9, nameIndex := 19, descriptorIndex := 20, attributes := #[] }] 49 2 #[] #[])
  fields := #[]
  methods := #[k1m0, k1m1]
  instanceTypes := #[]
  staticTypes := #[]
  resolved := Array.replicate 24 none
  statics := none }

def pool2 : Array CpInfo := pool [(2, .class_ 4), (1, u "java/lang/Object"), (0, u "<init>"), (0, u "()V"), (0, .class_ 8), (0, u "java/lang/Record")] 13

def k2m0 : Method := { name := "<init>", desc := "()V", sig := { parameters := [], returnType := none }, accessFlags := 4, code := none }
/-- java/lang/Record -/
def k2 : Class := { plain "java/lang/Record" (some 0) with
  accessFlags := 1057
  interfaces := #[]
  cf := some (fileOf pool2 7 #[] #[{ accessFlags := 4, nameIndex := 5, descriptorIndex := 6, attributes := #[] }] 1057 2 #[] #[])
  fields := #[]
  methods := #[k2m0]
  instanceTypes := #[]
  staticTypes := #[]
  resolved := Array.replicate 22 none
  statics := none }

def pool3 : Array CpInfo := pool [(2, .class_ 4), (1, u "java/lang/Record"), (9, .class_ 16), (1, u "com/example/impart/impart/Statement"), (0, u "lines"), (0, u "Ljava/util/List;"), (4, .class_ 24), (0, u "com/example/impart/impart/Statement$Line"), (54, u "isBlank"), (0, u "(I)Z")] 54

def k3c0 : Code := { maxStack := 2, maxLocals := 1, code := prog_47_method_6_code, exceptionTable := #[], attributes := #[] }
def k3m0 : Method := { name := "isBlank", desc := "(I)Z", sig := { parameters := [.int], returnType := some .boolean }, accessFlags := 8, code := some k3c0 }
/-- com/example/impart/impart/Statement -/
def k3 : Class := { plain "com/example/impart/impart/Statement" (some 2) with
  accessFlags := 48
  interfaces := #[]
  cf := some (fileOf pool3 14 #[.nestMembers #[23]] #[{ accessFlags := 8, nameIndex := 79, descriptorIndex := 80, attributes := #[] }] 48 2 #[] #[{ accessFlags := 18, nameIndex := 17, descriptorIndex := 18, attributes := #[] }])
  fields := #[{ name := "lines", type := (.object "java/util/List"), accessFlags := 18, slot := 0, constantValue := 0 }]
  methods := #[k3m0]
  instanceTypes := #[(.object "java/util/List")]
  staticTypes := #[]
  resolved := Array.replicate 135 none
  statics := none }

def pool4 : Array CpInfo := pool [(1, u "java/lang/Cloneable"), (0, .class_ 1), (0, u "java/lang/Object"), (0, .class_ 3)] 3

/-- java/lang/Cloneable -/
def k4 : Class := { plain "java/lang/Cloneable" (some 0) with
  accessFlags := 1537
  interfaces := #[]
  cf := some (fileOf pool4 2 #[] #[] 1537 4 #[] #[])
  fields := #[]
  methods := #[]
  instanceTypes := #[]
  staticTypes := #[]
  resolved := Array.replicate 8 none
  statics := none }

def pool5 : Array CpInfo := pool [(1, u "java/io/Serializable"), (0, .class_ 1), (0, u "java/lang/Object"), (0, .class_ 3)] 3

/-- java/io/Serializable -/
def k5 : Class := { plain "java/io/Serializable" (some 0) with
  accessFlags := 1537
  interfaces := #[]
  cf := some (fileOf pool5 2 #[] #[] 1537 4 #[] #[])
  fields := #[]
  methods := #[]
  instanceTypes := #[]
  staticTypes := #[]
  resolved := Array.replicate 8 none
  statics := none }

/-- the primitive byte -/
def k6 : Class := { plain "byte" none with kind := .primitive 'B', accessFlags := 0x411 }
/-- [B -/
def k7 : Class := { plain "[B" (some 0) with kind := .array 6 .byte, interfaces := #[4, 5], accessFlags := 1041 }

/-- the primitive int -/
def k8 : Class := { plain "int" none with kind := .primitive 'I', accessFlags := 0x411 }
/-- [I -/
def k9 : Class := { plain "[I" (some 0) with kind := .array 8 .int, interfaces := #[4, 5], accessFlags := 1041 }

def heap : Heap := #[]
def classes : Array Class := #[k0, k1, k2, k3, k4, k5, k6, k7, k8, k9]
def interned : List (Array UInt16 × Addr) := []
def slotsUsed : Nat := 0
def theMethod : MethodId := ⟨1, 1⟩
def args0 : Array Value := #[.int 5, .int 3]
def aboutOver (below : List Frame) : State where
  vm := { classes := classes, interned := interned.toArray }
  heap := heap
  slotsUsed := slotsUsed
  threads := #[{ frames := .invoking theMethod args0 :: below }]
def below0 : List Frame := [.native { method := ⟨0, 0⟩, args := #[] }]
def about1 : State := aboutOver below0
def p0 : Program := .bare "" "" ""
def e0 : Env := launch0.env 0 0 0
theorem w_frames : about1.frames = Frame.invoking theMethod args0 :: below0 := rfl
set_option maxRecDepth 65536 in
theorem w_args : argsFit about1.vm theMethod args0 = true := by decide +kernel
set_option maxRecDepth 65536 in
theorem w_heap : heapFits about1 = true := by decide +kernel
set_option maxRecDepth 65536 in
theorem w_runnable : about1.curStatus? = some .runnable := by decide +kernel
set_option maxRecDepth 65536 in
theorem w_alone : about1.alone = true := by decide +kernel
set_option maxRecDepth 65536 in
theorem w_named : about1.methodNamed? x = some theMethod := by decide +kernel
set_option maxRecDepth 65536 in
theorem w_hears : about1.hears theMethod below0 = true := by decide +kernel
set_option maxRecDepth 65536 in
theorem w_ripe : about1.ripe theMethod args0 below0 = true := by decide +kernel
theorem w_running : about1.status = .running := rfl
set_option maxRecDepth 65536 in
theorem w_room : about1.hasRoom e0.platform room_1 = true :=
  launch0.hasRoom_least _ room_1 (by decide +kernel) (by decide +kernel) (by decide +kernel) (by decide +kernel) (by decide +kernel) (by decide +kernel)
theorem allAtoms_all (ts : List Jvm.Cond) (a : Array Jvm.Value) (st : Jvm.State) : (allAtoms ts).before a st = ts.all (fun c => c.before a st) := by
  induction ts with
  | nil => rfl
  | cons c t ih =>
    show (Jvm.Cond.and c (allAtoms t)).before a st = _
    rw [Jvm.Cond.before_and, ih, List.all_cons]
def words1 : List Jvm.Cond := Jvm.Cond.code x code maxLocals ret :: tables_1
/-- a 'code' word, met by the world's own term for the bytes: nothing is compared byte by byte -/
theorem code_word {y : MethodName} {bytes : ByteArray} {mx : Nat} {rt : Option FieldType} {a : Array Value} {s : State} {m : MethodId} {meth : Method} {c : Code} (h1 : s.methodNamed? y = some m) (h2 : s.vm.method? m = some meth) (h3 : meth.code = some c) (h4 : c.code = bytes)
    (h5 : (c.maxLocals == mx && c.exceptionTable.isEmpty && decide (c.maxStack ≤ mostOperands) && decide (meth.sig.returnType = rt) && !meth.locks && decide (parseMethodDescriptor y.desc = some meth.sig)) = true) : (Jvm.Cond.code y bytes mx rt).before a s = true := by
  simp only [Bool.and_eq_true, beq_iff_eq, Bool.not_eq_true', decide_eq_true_eq] at h5
  obtain ⟨⟨⟨⟨⟨g1, g2⟩, g3⟩, g4⟩, g5⟩, g6⟩ := h5
  simp [Cond.before, Cond.holds, Cond.value, h1, h2, h3, h4, g1, g2, g3, g4, g5, g6]
def isCode : Jvm.Cond → Bool
  | .code _ _ _ _ => true
  | _ => false
theorem all_split {L : List Jvm.Cond} {P : Jvm.Cond → Bool} (h1 : L.all (fun c => isCode c || P c) = true) (h2 : ∀ c ∈ L.filter isCode, P c = true) : L.all P = true := by
  refine List.all_eq_true.mpr fun c hc => ?_
  have h := List.all_eq_true.mp h1 c hc
  rcases Bool.eq_false_or_eq_true (isCode c) with hi | hi
  · exact h2 c (List.mem_filter.mpr ⟨hc, hi⟩)
  · simpa [hi] using h
set_option maxRecDepth 65536 in
theorem w_c0 : (Jvm.Cond.code x code maxLocals ret).before args0 about1 = true := code_word (m := ⟨1, 1⟩) (meth := k1m1) (c := k1c1) (by decide +kernel) rfl rfl rfl (by decide +kernel)
set_option maxRecDepth 65536 in
theorem w_c1 : (Jvm.Cond.code ({ cls := "com/example/impart/impart/Statement", name := "isBlank", desc := "(I)Z" } : Jvm.MethodName) prog_47_method_6_code (1 : Nat) (Option.some Jvm.ClassFile.FieldType.boolean)).before args0 about1 = true := code_word (m := ⟨3, 0⟩) (meth := k3m0) (c := k3c0) (by decide +kernel) rfl rfl rfl (by decide +kernel)
def codes1 : List Jvm.Cond := [Jvm.Cond.code x code maxLocals ret, Jvm.Cond.code ({ cls := "com/example/impart/impart/Statement", name := "isBlank", desc := "(I)Z" } : Jvm.MethodName) prog_47_method_6_code (1 : Nat) (Option.some Jvm.ClassFile.FieldType.boolean)]
set_option maxRecDepth 65536 in
theorem codes_eq : words1.filter isCode = codes1 := rfl
theorem w_codes : ∀ c ∈ words1.filter isCode, c.before args0 about1 = true := by
  rw [codes_eq]
  intro c hc
  simp only [codes1, List.mem_cons, List.not_mem_nil, or_false] at hc
  rcases hc with rfl | rfl
  · exact w_c0
  · exact w_c1
set_option maxRecDepth 65536 in
theorem w_t1 : words1.all (fun c => isCode c || c.before args0 about1) = true := by decide +kernel
theorem w_tables : (allAtoms (Jvm.Cond.code x code maxLocals ret :: tables_1)).before args0 about1 = true := by
  rw [allAtoms_all]
  show words1.all (fun c => c.before args0 about1) = true
  refine all_split ?_ w_codes
  rw [w_t1]
set_option maxRecDepth 65536 in
theorem w_case : (Jvm.Cond.and given_1 narrow_1).before args0 about1 = true := by decide +kernel
theorem w_applies : (headSpec (Jvm.Cond.code x code maxLocals ret :: tables_1) room_1).applies x e0.platform about1 = true :=
  (Spec.applies_iff w_frames).mpr ⟨w_running, w_runnable, w_alone, w_named, w_hears, w_ripe, w_room, w_tables⟩
theorem atStart : AtStart classFile x code maxLocals ret World_1 tables_1 room_1 Calls_1 rest_1 Pre_1 launch0 p0 e0 about1 theMethod args0 below0 :=
  ⟨lists_1, trivial, launch0.admits_env _ _ _, launch0.least_env, fairChoices_fair.cas, fairChoices_fair.clock, w_frames, w_args, w_heap, w_applies, trivial, trivial, w_case⟩
end start1
theorem witness_1 : WitnessClaimed_1 := ⟨start1.p0, start1.e0, start1.about1, start1.theMethod, start1.args0, start1.below0, start1.atStart⟩
end Jvm.Pilot.@@N@@
