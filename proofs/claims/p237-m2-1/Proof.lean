import JvmDerived
import JvmDerived.Pilot.@@N@@Statement
import JvmDerived.Pilot.@@N@@Code
set_option linter.unusedVariables false
set_option linter.unusedSimpArgs false
@@BLOCK:NumsL.lean.txt@@
namespace Jvm.Pilot.@@N@@
open Jvm Jvm.ClassFile Sem Op Lib Jvm.Free Jvm.Stand Jvm.LawKit Jvm.RoadKit Bundle Jvm.Pilot.@@N@@.Jvm.D
/-! my own layer: what stands still in a walk (own_Cx, own_Mx), where it stands (own_Sx), what is left of it (own_Fin) -/
abbrev own_Cx : Type := Program × Launch × Env × Room × State × MethodId × Array Value × List Frame × Method × Code
def own_Sx (n0 : Nat) : own_Cx → State → Heap → Nat → Nat → Prop
  | (p, l, e, R, s, m, args, below, meth, c), T, h, cl, sl => ∃ locs, Stand p l e R s m args below meth c T locs cl sl ∧ Fr n0 locs ∧ T.heap = h ∧ n0 ≤ s.heap.size ∧ cl ≤ R.cells ∧ sl ≤ R.slots
def own_Mx (Z : State) (a0 : Array Value) : own_Cx → ByteArray → String → Nat → Option FieldType → Room → Prop
  | (p, l, e, R, s, m, args, below, meth, c), code, own, mx, ret, rm => p.tables.exec = Jvm.exec ∧ c.code = code ∧ c.maxLocals = mx ∧ s.vm.findClass own = some m.cls ∧ meth.sig.returnType = ret ∧ meth.locks = false ∧ Z.Warmed39 s.vm ∧ R = rm ∧ (∀ d ∈ tables_1, d.before a0 Z = true)
def own_Fin (n0 : Nat) : own_Cx → (Option Value → Heap → Prop) → State → Nat → Array Slot → List Value → Prop
  | (p, l, e, R, s, m, args, below, meth, c), P, T, pc, L, S => ∃ s₂ o, Steps p.tables e below (T.setTop (mkF m pc L S)) s₂ ∧ s₂.status = .running ∧ Ended s₂ below o ∧ ∃ v L', o = .returned v ∧ (P v s₂.heap ∧ Fr n0 L') ∧ FrameEnd s o s₂ L' R.cells R.slots
/-- a method's contract: from these arguments and this heap it returns, and P says what and with which heap -/
def own_Met (l : Launch) (Z : State) (n0 : Nat) (y : MethodName) (code : ByteArray) (mx : Nat) (ret : Option FieldType) (rm : Room) (args : Array Value) (h0 : Heap) (P : Option Value → Heap → Prop) : Prop :=
  ∀ ws : List Jvm.Cond, MetFree l y (head1 (Jvm.Cond.code y code mx ret :: ws) rm) (fun a U => a = args ∧ Z.Warmed39 U.vm ∧ U.heap = h0) (fun _ _ _ _ _ => True) (fun _ U o U' => ∃ v L, o = .returned v ∧ (P v U'.heap ∧ Fr n0 L) ∧ FrameEnd U o U' L rm.cells rm.slots)
section OwnLayer
variable {Z : State} {a0 : Array Value} {n0 : Nat} {K : own_Cx} {code : ByteArray} {own : String} {mx : Nat} {ret : Option FieldType} {rm : Room} {P : Option Value → Heap → Prop} {T : State} {h : Heap} {cl sl pc pc' : Nat} {L L' : Array Slot} {S rest : List Value}
theorem own_enter {l : Launch} {y : MethodName} {args : Array Value} {h0 : Heap} (hpl : plainFor y = true) (hw : ∀ d ∈ tables_1, d.before a0 Z = true) (hn : n0 ≤ h0.size) (he : ∀ m, entryFrame m args mx = mkF m 0 L [])
    (body : ∀ (K : own_Cx) (T : State), K.2.2.2.2.2.2.2.2.1.name = y.name → own_Mx Z a0 K code y.cls mx ret rm → own_Sx n0 K T h0 0 0 → own_Fin n0 K P T 0 L []) : own_Met l Z n0 y code mx ret rm args h0 P := by
  intro ws
  refine MetFree.of_bodySF hpl hisR ?_
  intro p e s m args' below meth c s₁ Bd hml0 hP hK
  obtain ⟨rfl, hZ, hh⟩ := hP
  have hown : s.vm.findClass y.cls = some m.cls := findClass_of_methodNamed Bd.named
  have X0 : Stand p l e rm s m args' below meth c s₁ [] 0 0 := Stand.of_body Bd
  have e0 : s₁.heap = h0 := by rw [← hh, Bd.state]; rfl
  obtain ⟨s2, o, st, r⟩ := body (p, l, e, rm, s, m, args', below, meth, c) s₁ (name_of_methodNamed Bd.named Bd.method).1 ⟨Bd.exec, Bd.bytes, hml0, hown, Bd.returns, Bd.notSynchronized, hZ, rfl, hw⟩ ⟨[], X0, Fr.nil n0, e0, by rw [hh]; exact hn, Nat.zero_le _, Nat.zero_le _⟩
  exact ⟨s2, o, castTop (he m) st, r⟩
theorem own_Sx.size (X : own_Sx n0 K T h cl sl) : n0 ≤ h.size := by
  obtain ⟨p, l, e, R, s, m, args, below, meth, c⟩ := K
  obtain ⟨locs, X, -, rfl, hn, -⟩ := X
  exact Nat.le_trans hn X.same.2.1
theorem own_ret {t : FieldType} (M : own_Mx Z a0 K code own mx (some t) rm) (X : own_Sx n0 K T h cl sl) {w w' : Value} {i : Instr} (hd : decode code pc = .ok (i, 1))
    (hst : ∀ {p : Program} {l : Launch} {e : Env} {R : Room} {s : State} {m : MethodId} {args : Array Value} {below : List Frame} {meth : Method} {c : Code} {locs : List Loc} {fs : List Frame}, Stand p l e R s m args below meth c T locs cl sl → p.tables.exec = Jvm.exec → meth.sig.returnType = some t → decode c.code pc = .ok (i, 1) → (∀ (f : JFrame) (acts : List Action), f.method = m → f.locked = none → f.entered = [] → (doReturn e (T.setTop f) acts (some w')).1 = T.setFrames fs) → Steps p.tables e below (T.setTop (mkF m pc L (w :: S))) (T.setFrames fs)) (hP : P (some w') h) : own_Fin n0 K P T pc L (w :: S) := by
  obtain ⟨p, l, e, R, s, m, args, below, meth, c⟩ := K
  obtain ⟨hx, hby, hml, hown, hret, hlk, hZ, rfl, hw⟩ := M
  obtain ⟨locs, X, hN, rfl, hn, hc, hs⟩ := X
  obtain ⟨fs, hr, hrun, hended, hW, hsame⟩ := X.leave (v := some w') (fun q => by rw [hret] at q; cases q) hlk
  exact ⟨_, _, hst X hx hret (hb hby hd) hr, hrun, hended, _, _, rfl, ⟨hP, hN⟩, ⟨_, rfl⟩, hW, hsame.mono hc hs⟩
theorem own_retI (M : own_Mx Z a0 K code own mx (some .int) rm) (X : own_Sx n0 K T h cl sl) {z : Int32} (hd : decode code pc = .ok (.ireturn, 1)) (hP : P (some (.int z)) h) : own_Fin n0 K P T pc L (.int z :: S) :=
  own_ret M X hd (fun X hx hret hd hr => retOut X hx hret rfl (Or.inl ⟨rfl, Or.inl rfl, z, rfl⟩) hd hr) hP
theorem own_retJ (M : own_Mx Z a0 K code own mx (some .long) rm) (X : own_Sx n0 K T h cl sl) {z : Int64} (hd : decode code pc = .ok (.lreturn, 1)) (hP : P (some (.long z)) h) : own_Fin n0 K P T pc L (.long z :: S) :=
  own_ret M X hd (fun X hx hret hd hr => retOut X hx hret rfl (Or.inr (Or.inl ⟨rfl, rfl, z, rfl⟩)) hd hr) hP
theorem own_retA {t : FieldType} (M : own_Mx Z a0 K code own mx (some t) rm) (X : own_Sx n0 K T h cl sl) {a : Addr} (ht : t.isReference = true) (hna : narrow t (.ref a) = .ref a) (hd : decode code pc = .ok (.areturn, 1)) (hP : P (some (.ref a)) h) : own_Fin n0 K P T pc L (.ref a :: S) :=
  own_ret M X hd (fun X hx hret hd hr => retOut X hx hret hna (Or.inr (Or.inr (Or.inr (Or.inr ⟨rfl, ht, rfl⟩)))) hd hr) hP
theorem own_retN {t : FieldType} (M : own_Mx Z a0 K code own mx (some t) rm) (X : own_Sx n0 K T h cl sl) {z z' : Int32} (ht : t = .boolean ∨ t = .byte ∨ t = .char ∨ t = .short) (hd : decode code pc = .ok (.ireturn, 1)) (hz : nar t z = z') (hP : P (some (.int z')) h) : own_Fin n0 K P T pc L (.int z :: S) :=
  own_ret M X hd (fun X hx hret hd hr => retN X hx hret ht hd (by rw [hz]; exact hr)) hP
theorem own_retV (M : own_Mx Z a0 K code own mx none rm) (X : own_Sx n0 K T h cl sl) (hd : decode code pc = .ok (.return_, 1)) (hP : P none h) : own_Fin n0 K P T pc L [] := by
  obtain ⟨p, l, e, R, s, m, args, below, meth, c⟩ := K
  obtain ⟨hx, hby, hml, hown, hret, hlk, hZ, rfl, hw⟩ := M
  obtain ⟨locs, X, hN, rfl, hn, hc, hs⟩ := X
  obtain ⟨fs, hr, hrun, hended, hW, hsame⟩ := X.leave (v := none) (fun _ => rfl) hlk
  exact ⟨_, _, X.returnOut hx hret (hb hby hd) hr, hrun, hended, _, _, rfl, ⟨hP, hN⟩, ⟨_, rfl⟩, hW, hsame.mono hc hs⟩
theorem own_iload (M : own_Mx Z a0 K code own mx ret rm) (X : own_Sx n0 K T h cl sl) {k : Nat} {v : Int32} (hd : decode code pc = .ok (.iload k, 2)) (hl : L[k]? = some (.val (.int v))) (hp : pc + 2 = pc') (hr : own_Fin n0 K P T pc' L (.int v :: S)) : own_Fin n0 K P T pc L (S) := by
  obtain ⟨p, l, e, R, s, m, args, below, meth, c⟩ := K
  obtain ⟨hx, hby, hml, hown, hret, hlk, hZ, rfl, hw⟩ := M
  obtain ⟨locs, X, hN, eT, hn, hcl, hsl⟩ := X
  obtain ⟨s2, o2, st, r⟩ := hr
  subst hp
  exact ⟨s2, o2, XS.iload X.here hx rfl (hb hby hd) hl st, r⟩
theorem own_iloadN (M : own_Mx Z a0 K code own mx ret rm) (X : own_Sx n0 K T h cl sl) {k : Fin 4} {v : Int32} (hd : decode code pc = .ok (.iload_n k, 1)) (hl : L[k.val]? = some (.val (.int v))) (hp : pc + 1 = pc') (hr : own_Fin n0 K P T pc' L (.int v :: S)) : own_Fin n0 K P T pc L (S) := by
  obtain ⟨p, l, e, R, s, m, args, below, meth, c⟩ := K
  obtain ⟨hx, hby, hml, hown, hret, hlk, hZ, rfl, hw⟩ := M
  obtain ⟨locs, X, hN, eT, hn, hcl, hsl⟩ := X
  obtain ⟨s2, o2, st, r⟩ := hr
  subst hp
  exact ⟨s2, o2, XS.iloadN X.here hx rfl (hb hby hd) hl st, r⟩
theorem own_istore (M : own_Mx Z a0 K code own mx ret rm) (X : own_Sx n0 K T h cl sl) {k : Nat} {v : Int32} (hd : decode code pc = .ok (.istore k, 2)) (hl : storeLocals L k (.int v) = some L') (hp : pc + 2 = pc') (hr : own_Fin n0 K P T pc' L' (S)) : own_Fin n0 K P T pc L (.int v :: S) := by
  obtain ⟨p, l, e, R, s, m, args, below, meth, c⟩ := K
  obtain ⟨hx, hby, hml, hown, hret, hlk, hZ, rfl, hw⟩ := M
  obtain ⟨locs, X, hN, eT, hn, hcl, hsl⟩ := X
  obtain ⟨s2, o2, st, r⟩ := hr
  subst hp
  exact ⟨s2, o2, XS.istore X.here hx rfl (hb hby hd) rfl hl st, r⟩
theorem own_istoreN (M : own_Mx Z a0 K code own mx ret rm) (X : own_Sx n0 K T h cl sl) {k : Fin 4} {v : Int32} (hd : decode code pc = .ok (.istore_n k, 1)) (hl : storeLocals L k.val (.int v) = some L') (hp : pc + 1 = pc') (hr : own_Fin n0 K P T pc' L' (S)) : own_Fin n0 K P T pc L (.int v :: S) := by
  obtain ⟨p, l, e, R, s, m, args, below, meth, c⟩ := K
  obtain ⟨hx, hby, hml, hown, hret, hlk, hZ, rfl, hw⟩ := M
  obtain ⟨locs, X, hN, eT, hn, hcl, hsl⟩ := X
  obtain ⟨s2, o2, st, r⟩ := hr
  subst hp
  exact ⟨s2, o2, XS.istoreN X.here hx rfl (hb hby hd) rfl hl st, r⟩
theorem own_lload (M : own_Mx Z a0 K code own mx ret rm) (X : own_Sx n0 K T h cl sl) {k : Nat} {v : Int64} (hd : decode code pc = .ok (.lload k, 2)) (hl : L[k]? = some (.val (.long v))) (hp : pc + 2 = pc') (hr : own_Fin n0 K P T pc' L (.long v :: S)) : own_Fin n0 K P T pc L (S) := by
  obtain ⟨p, l, e, R, s, m, args, below, meth, c⟩ := K
  obtain ⟨hx, hby, hml, hown, hret, hlk, hZ, rfl, hw⟩ := M
  obtain ⟨locs, X, hN, eT, hn, hcl, hsl⟩ := X
  obtain ⟨s2, o2, st, r⟩ := hr
  subst hp
  exact ⟨s2, o2, XS.lload X.here hx rfl (hb hby hd) hl st, r⟩
theorem own_lloadN (M : own_Mx Z a0 K code own mx ret rm) (X : own_Sx n0 K T h cl sl) {k : Fin 4} {v : Int64} (hd : decode code pc = .ok (.lload_n k, 1)) (hl : L[k.val]? = some (.val (.long v))) (hp : pc + 1 = pc') (hr : own_Fin n0 K P T pc' L (.long v :: S)) : own_Fin n0 K P T pc L (S) := by
  obtain ⟨p, l, e, R, s, m, args, below, meth, c⟩ := K
  obtain ⟨hx, hby, hml, hown, hret, hlk, hZ, rfl, hw⟩ := M
  obtain ⟨locs, X, hN, eT, hn, hcl, hsl⟩ := X
  obtain ⟨s2, o2, st, r⟩ := hr
  subst hp
  exact ⟨s2, o2, XS.lloadN X.here hx rfl (hb hby hd) hl st, r⟩
theorem own_lstore (M : own_Mx Z a0 K code own mx ret rm) (X : own_Sx n0 K T h cl sl) {k : Nat} {v : Int64} (hd : decode code pc = .ok (.lstore k, 2)) (hl : storeLocals L k (.long v) = some L') (hp : pc + 2 = pc') (hr : own_Fin n0 K P T pc' L' (S)) : own_Fin n0 K P T pc L (.long v :: S) := by
  obtain ⟨p, l, e, R, s, m, args, below, meth, c⟩ := K
  obtain ⟨hx, hby, hml, hown, hret, hlk, hZ, rfl, hw⟩ := M
  obtain ⟨locs, X, hN, eT, hn, hcl, hsl⟩ := X
  obtain ⟨s2, o2, st, r⟩ := hr
  subst hp
  exact ⟨s2, o2, XS.lstore X.here hx rfl (hb hby hd) rfl hl st, r⟩
theorem own_lstoreN (M : own_Mx Z a0 K code own mx ret rm) (X : own_Sx n0 K T h cl sl) {k : Fin 4} {v : Int64} (hd : decode code pc = .ok (.lstore_n k, 1)) (hl : storeLocals L k.val (.long v) = some L') (hp : pc + 1 = pc') (hr : own_Fin n0 K P T pc' L' (S)) : own_Fin n0 K P T pc L (.long v :: S) := by
  obtain ⟨p, l, e, R, s, m, args, below, meth, c⟩ := K
  obtain ⟨hx, hby, hml, hown, hret, hlk, hZ, rfl, hw⟩ := M
  obtain ⟨locs, X, hN, eT, hn, hcl, hsl⟩ := X
  obtain ⟨s2, o2, st, r⟩ := hr
  subst hp
  exact ⟨s2, o2, XS.lstoreN X.here hx rfl (hb hby hd) rfl hl st, r⟩
theorem own_aload (M : own_Mx Z a0 K code own mx ret rm) (X : own_Sx n0 K T h cl sl) {k : Nat} {v : Value} (hd : decode code pc = .ok (.aload k, 2)) (hl : L[k]? = some (.val v)) (hv : v.isRef = true) (hp : pc + 2 = pc') (hr : own_Fin n0 K P T pc' L (v :: S)) : own_Fin n0 K P T pc L (S) := by
  obtain ⟨p, l, e, R, s, m, args, below, meth, c⟩ := K
  obtain ⟨hx, hby, hml, hown, hret, hlk, hZ, rfl, hw⟩ := M
  obtain ⟨locs, X, hN, eT, hn, hcl, hsl⟩ := X
  obtain ⟨s2, o2, st, r⟩ := hr
  subst hp
  exact ⟨s2, o2, XS.aload X.here hx rfl (hb hby hd) hl hv st, r⟩
theorem own_aloadN (M : own_Mx Z a0 K code own mx ret rm) (X : own_Sx n0 K T h cl sl) {k : Fin 4} {v : Value} (hd : decode code pc = .ok (.aload_n k, 1)) (hl : L[k.val]? = some (.val v)) (hv : v.isRef = true) (hp : pc + 1 = pc') (hr : own_Fin n0 K P T pc' L (v :: S)) : own_Fin n0 K P T pc L (S) := by
  obtain ⟨p, l, e, R, s, m, args, below, meth, c⟩ := K
  obtain ⟨hx, hby, hml, hown, hret, hlk, hZ, rfl, hw⟩ := M
  obtain ⟨locs, X, hN, eT, hn, hcl, hsl⟩ := X
  obtain ⟨s2, o2, st, r⟩ := hr
  subst hp
  exact ⟨s2, o2, XS.aloadN X.here hx rfl (hb hby hd) hl hv st, r⟩
theorem own_astore (M : own_Mx Z a0 K code own mx ret rm) (X : own_Sx n0 K T h cl sl) {k : Nat} {v : Value} (hd : decode code pc = .ok (.astore k, 2)) (hv : v.isRef = true) (hl : storeLocals L k v = some L') (hp : pc + 2 = pc') (hr : own_Fin n0 K P T pc' L' (S)) : own_Fin n0 K P T pc L (v :: S) := by
  obtain ⟨p, l, e, R, s, m, args, below, meth, c⟩ := K
  obtain ⟨hx, hby, hml, hown, hret, hlk, hZ, rfl, hw⟩ := M
  obtain ⟨locs, X, hN, eT, hn, hcl, hsl⟩ := X
  obtain ⟨s2, o2, st, r⟩ := hr
  subst hp
  exact ⟨s2, o2, XS.astore X.here hx rfl (hb hby hd) rfl hv hl st, r⟩
theorem own_astoreN (M : own_Mx Z a0 K code own mx ret rm) (X : own_Sx n0 K T h cl sl) {k : Fin 4} {v : Value} (hd : decode code pc = .ok (.astore_n k, 1)) (hv : v.isRef = true) (hl : storeLocals L k.val v = some L') (hp : pc + 1 = pc') (hr : own_Fin n0 K P T pc' L' (S)) : own_Fin n0 K P T pc L (v :: S) := by
  obtain ⟨p, l, e, R, s, m, args, below, meth, c⟩ := K
  obtain ⟨hx, hby, hml, hown, hret, hlk, hZ, rfl, hw⟩ := M
  obtain ⟨locs, X, hN, eT, hn, hcl, hsl⟩ := X
  obtain ⟨s2, o2, st, r⟩ := hr
  subst hp
  exact ⟨s2, o2, XS.astoreN X.here hx rfl (hb hby hd) rfl hv hl st, r⟩
theorem own_iconst (M : own_Mx Z a0 K code own mx ret rm) (X : own_Sx n0 K T h cl sl) {i : Int} {v : Int32} (hd : decode code pc = .ok (.iconst i, 1)) (hv : Int32.ofInt i = v) (hp : pc + 1 = pc') (hr : own_Fin n0 K P T pc' L (.int v :: S)) : own_Fin n0 K P T pc L (S) := by
  obtain ⟨p, l, e, R, s, m, args, below, meth, c⟩ := K
  obtain ⟨hx, hby, hml, hown, hret, hlk, hZ, rfl, hw⟩ := M
  obtain ⟨locs, X, hN, eT, hn, hcl, hsl⟩ := X
  obtain ⟨s2, o2, st, r⟩ := hr
  subst hp
  subst hv
  exact ⟨s2, o2, XS.iconst X.here hx rfl (hb hby hd) st, r⟩
theorem own_bipush (M : own_Mx Z a0 K code own mx ret rm) (X : own_Sx n0 K T h cl sl) {i : Int} {v : Int32} (hd : decode code pc = .ok (.bipush i, 2)) (hv : (Int8.ofInt i).toInt32 = v) (hp : pc + 2 = pc') (hr : own_Fin n0 K P T pc' L (.int v :: S)) : own_Fin n0 K P T pc L (S) := by
  obtain ⟨p, l, e, R, s, m, args, below, meth, c⟩ := K
  obtain ⟨hx, hby, hml, hown, hret, hlk, hZ, rfl, hw⟩ := M
  obtain ⟨locs, X, hN, eT, hn, hcl, hsl⟩ := X
  obtain ⟨s2, o2, st, r⟩ := hr
  subst hp
  subst hv
  exact ⟨s2, o2, XS.bipush X.here hx rfl (hb hby hd) st, r⟩
theorem own_sipush (M : own_Mx Z a0 K code own mx ret rm) (X : own_Sx n0 K T h cl sl) {i : Int} {v : Int32} (hd : decode code pc = .ok (.sipush i, 3)) (hv : (Int16.ofInt i).toInt32 = v) (hp : pc + 3 = pc') (hr : own_Fin n0 K P T pc' L (.int v :: S)) : own_Fin n0 K P T pc L (S) := by
  obtain ⟨p, l, e, R, s, m, args, below, meth, c⟩ := K
  obtain ⟨hx, hby, hml, hown, hret, hlk, hZ, rfl, hw⟩ := M
  obtain ⟨locs, X, hN, eT, hn, hcl, hsl⟩ := X
  obtain ⟨s2, o2, st, r⟩ := hr
  subst hp
  subst hv
  exact ⟨s2, o2, XS.sipush X.here hx rfl (hb hby hd) st, r⟩
theorem own_lconst (M : own_Mx Z a0 K code own mx ret rm) (X : own_Sx n0 K T h cl sl) {i : Fin 2} {v : Int64} (hd : decode code pc = .ok (.lconst i, 1)) (hv : Int64.ofNat i = v) (hp : pc + 1 = pc') (hr : own_Fin n0 K P T pc' L (.long v :: S)) : own_Fin n0 K P T pc L (S) := by
  obtain ⟨p, l, e, R, s, m, args, below, meth, c⟩ := K
  obtain ⟨hx, hby, hml, hown, hret, hlk, hZ, rfl, hw⟩ := M
  obtain ⟨locs, X, hN, eT, hn, hcl, hsl⟩ := X
  obtain ⟨s2, o2, st, r⟩ := hr
  subst hp
  subst hv
  exact ⟨s2, o2, XS.lconst X.here hx rfl (hb hby hd) st, r⟩
theorem own_aconst_null (M : own_Mx Z a0 K code own mx ret rm) (X : own_Sx n0 K T h cl sl)  (hd : decode code pc = .ok (.aconst_null, 1)) (hp : pc + 1 = pc') (hr : own_Fin n0 K P T pc' L (.null :: S)) : own_Fin n0 K P T pc L (S) := by
  obtain ⟨p, l, e, R, s, m, args, below, meth, c⟩ := K
  obtain ⟨hx, hby, hml, hown, hret, hlk, hZ, rfl, hw⟩ := M
  obtain ⟨locs, X, hN, eT, hn, hcl, hsl⟩ := X
  obtain ⟨s2, o2, st, r⟩ := hr
  subst hp
  exact ⟨s2, o2, XS.aconstNull X.here hx rfl (hb hby hd) st, r⟩
theorem own_iadd (M : own_Mx Z a0 K code own mx ret rm) (X : own_Sx n0 K T h cl sl) {x y : Int32} (hd : decode code pc = .ok (.iadd, 1)) (hp : pc + 1 = pc') (hr : own_Fin n0 K P T pc' L (.int (x + y) :: S)) : own_Fin n0 K P T pc L (.int y :: .int x :: S) := by
  obtain ⟨p, l, e, R, s, m, args, below, meth, c⟩ := K
  obtain ⟨hx, hby, hml, hown, hret, hlk, hZ, rfl, hw⟩ := M
  obtain ⟨locs, X, hN, eT, hn, hcl, hsl⟩ := X
  obtain ⟨s2, o2, st, r⟩ := hr
  subst hp
  exact ⟨s2, o2, XS.iadd X.here hx rfl (hb hby hd) rfl st, r⟩
theorem own_ladd (M : own_Mx Z a0 K code own mx ret rm) (X : own_Sx n0 K T h cl sl) {x y : Int64} (hd : decode code pc = .ok (.ladd, 1)) (hp : pc + 1 = pc') (hr : own_Fin n0 K P T pc' L (.long (x + y) :: S)) : own_Fin n0 K P T pc L (.long y :: .long x :: S) := by
  obtain ⟨p, l, e, R, s, m, args, below, meth, c⟩ := K
  obtain ⟨hx, hby, hml, hown, hret, hlk, hZ, rfl, hw⟩ := M
  obtain ⟨locs, X, hN, eT, hn, hcl, hsl⟩ := X
  obtain ⟨s2, o2, st, r⟩ := hr
  subst hp
  exact ⟨s2, o2, XS.ladd X.here hx rfl (hb hby hd) rfl st, r⟩
theorem own_isub (M : own_Mx Z a0 K code own mx ret rm) (X : own_Sx n0 K T h cl sl) {x y : Int32} (hd : decode code pc = .ok (.isub, 1)) (hp : pc + 1 = pc') (hr : own_Fin n0 K P T pc' L (.int (x - y) :: S)) : own_Fin n0 K P T pc L (.int y :: .int x :: S) := by
  obtain ⟨p, l, e, R, s, m, args, below, meth, c⟩ := K
  obtain ⟨hx, hby, hml, hown, hret, hlk, hZ, rfl, hw⟩ := M
  obtain ⟨locs, X, hN, eT, hn, hcl, hsl⟩ := X
  obtain ⟨s2, o2, st, r⟩ := hr
  subst hp
  exact ⟨s2, o2, XS.isub X.here hx rfl (hb hby hd) rfl st, r⟩
theorem own_lsub (M : own_Mx Z a0 K code own mx ret rm) (X : own_Sx n0 K T h cl sl) {x y : Int64} (hd : decode code pc = .ok (.lsub, 1)) (hp : pc + 1 = pc') (hr : own_Fin n0 K P T pc' L (.long (x - y) :: S)) : own_Fin n0 K P T pc L (.long y :: .long x :: S) := by
  obtain ⟨p, l, e, R, s, m, args, below, meth, c⟩ := K
  obtain ⟨hx, hby, hml, hown, hret, hlk, hZ, rfl, hw⟩ := M
  obtain ⟨locs, X, hN, eT, hn, hcl, hsl⟩ := X
  obtain ⟨s2, o2, st, r⟩ := hr
  subst hp
  exact ⟨s2, o2, XS.lsub X.here hx rfl (hb hby hd) rfl st, r⟩
theorem own_imul (M : own_Mx Z a0 K code own mx ret rm) (X : own_Sx n0 K T h cl sl) {x y : Int32} (hd : decode code pc = .ok (.imul, 1)) (hp : pc + 1 = pc') (hr : own_Fin n0 K P T pc' L (.int (x * y) :: S)) : own_Fin n0 K P T pc L (.int y :: .int x :: S) := by
  obtain ⟨p, l, e, R, s, m, args, below, meth, c⟩ := K
  obtain ⟨hx, hby, hml, hown, hret, hlk, hZ, rfl, hw⟩ := M
  obtain ⟨locs, X, hN, eT, hn, hcl, hsl⟩ := X
  obtain ⟨s2, o2, st, r⟩ := hr
  subst hp
  exact ⟨s2, o2, XS.imul X.here hx rfl (hb hby hd) rfl st, r⟩
theorem own_lmul (M : own_Mx Z a0 K code own mx ret rm) (X : own_Sx n0 K T h cl sl) {x y : Int64} (hd : decode code pc = .ok (.lmul, 1)) (hp : pc + 1 = pc') (hr : own_Fin n0 K P T pc' L (.long (x * y) :: S)) : own_Fin n0 K P T pc L (.long y :: .long x :: S) := by
  obtain ⟨p, l, e, R, s, m, args, below, meth, c⟩ := K
  obtain ⟨hx, hby, hml, hown, hret, hlk, hZ, rfl, hw⟩ := M
  obtain ⟨locs, X, hN, eT, hn, hcl, hsl⟩ := X
  obtain ⟨s2, o2, st, r⟩ := hr
  subst hp
  exact ⟨s2, o2, XS.lmul X.here hx rfl (hb hby hd) rfl st, r⟩
theorem own_iand (M : own_Mx Z a0 K code own mx ret rm) (X : own_Sx n0 K T h cl sl) {x y : Int32} (hd : decode code pc = .ok (.iand, 1)) (hp : pc + 1 = pc') (hr : own_Fin n0 K P T pc' L (.int (x &&& y) :: S)) : own_Fin n0 K P T pc L (.int y :: .int x :: S) := by
  obtain ⟨p, l, e, R, s, m, args, below, meth, c⟩ := K
  obtain ⟨hx, hby, hml, hown, hret, hlk, hZ, rfl, hw⟩ := M
  obtain ⟨locs, X, hN, eT, hn, hcl, hsl⟩ := X
  obtain ⟨s2, o2, st, r⟩ := hr
  subst hp
  exact ⟨s2, o2, XS.iand X.here hx rfl (hb hby hd) rfl st, r⟩
theorem own_land (M : own_Mx Z a0 K code own mx ret rm) (X : own_Sx n0 K T h cl sl) {x y : Int64} (hd : decode code pc = .ok (.land, 1)) (hp : pc + 1 = pc') (hr : own_Fin n0 K P T pc' L (.long (x &&& y) :: S)) : own_Fin n0 K P T pc L (.long y :: .long x :: S) := by
  obtain ⟨p, l, e, R, s, m, args, below, meth, c⟩ := K
  obtain ⟨hx, hby, hml, hown, hret, hlk, hZ, rfl, hw⟩ := M
  obtain ⟨locs, X, hN, eT, hn, hcl, hsl⟩ := X
  obtain ⟨s2, o2, st, r⟩ := hr
  subst hp
  exact ⟨s2, o2, XS.land X.here hx rfl (hb hby hd) rfl st, r⟩
theorem own_ior (M : own_Mx Z a0 K code own mx ret rm) (X : own_Sx n0 K T h cl sl) {x y : Int32} (hd : decode code pc = .ok (.ior, 1)) (hp : pc + 1 = pc') (hr : own_Fin n0 K P T pc' L (.int (x ||| y) :: S)) : own_Fin n0 K P T pc L (.int y :: .int x :: S) := by
  obtain ⟨p, l, e, R, s, m, args, below, meth, c⟩ := K
  obtain ⟨hx, hby, hml, hown, hret, hlk, hZ, rfl, hw⟩ := M
  obtain ⟨locs, X, hN, eT, hn, hcl, hsl⟩ := X
  obtain ⟨s2, o2, st, r⟩ := hr
  subst hp
  exact ⟨s2, o2, XS.ior X.here hx rfl (hb hby hd) rfl st, r⟩
theorem own_lor (M : own_Mx Z a0 K code own mx ret rm) (X : own_Sx n0 K T h cl sl) {x y : Int64} (hd : decode code pc = .ok (.lor, 1)) (hp : pc + 1 = pc') (hr : own_Fin n0 K P T pc' L (.long (x ||| y) :: S)) : own_Fin n0 K P T pc L (.long y :: .long x :: S) := by
  obtain ⟨p, l, e, R, s, m, args, below, meth, c⟩ := K
  obtain ⟨hx, hby, hml, hown, hret, hlk, hZ, rfl, hw⟩ := M
  obtain ⟨locs, X, hN, eT, hn, hcl, hsl⟩ := X
  obtain ⟨s2, o2, st, r⟩ := hr
  subst hp
  exact ⟨s2, o2, XS.lor X.here hx rfl (hb hby hd) rfl st, r⟩
theorem own_ixor (M : own_Mx Z a0 K code own mx ret rm) (X : own_Sx n0 K T h cl sl) {x y : Int32} (hd : decode code pc = .ok (.ixor, 1)) (hp : pc + 1 = pc') (hr : own_Fin n0 K P T pc' L (.int (x ^^^ y) :: S)) : own_Fin n0 K P T pc L (.int y :: .int x :: S) := by
  obtain ⟨p, l, e, R, s, m, args, below, meth, c⟩ := K
  obtain ⟨hx, hby, hml, hown, hret, hlk, hZ, rfl, hw⟩ := M
  obtain ⟨locs, X, hN, eT, hn, hcl, hsl⟩ := X
  obtain ⟨s2, o2, st, r⟩ := hr
  subst hp
  exact ⟨s2, o2, XS.ixor X.here hx rfl (hb hby hd) rfl st, r⟩
theorem own_lxor (M : own_Mx Z a0 K code own mx ret rm) (X : own_Sx n0 K T h cl sl) {x y : Int64} (hd : decode code pc = .ok (.lxor, 1)) (hp : pc + 1 = pc') (hr : own_Fin n0 K P T pc' L (.long (x ^^^ y) :: S)) : own_Fin n0 K P T pc L (.long y :: .long x :: S) := by
  obtain ⟨p, l, e, R, s, m, args, below, meth, c⟩ := K
  obtain ⟨hx, hby, hml, hown, hret, hlk, hZ, rfl, hw⟩ := M
  obtain ⟨locs, X, hN, eT, hn, hcl, hsl⟩ := X
  obtain ⟨s2, o2, st, r⟩ := hr
  subst hp
  exact ⟨s2, o2, XS.lxor X.here hx rfl (hb hby hd) rfl st, r⟩
theorem own_ishl (M : own_Mx Z a0 K code own mx ret rm) (X : own_Sx n0 K T h cl sl) {x y : Int32} (hd : decode code pc = .ok (.ishl, 1)) (hp : pc + 1 = pc') (hr : own_Fin n0 K P T pc' L (.int (x <<< (y &&& 31)) :: S)) : own_Fin n0 K P T pc L (.int y :: .int x :: S) := by
  obtain ⟨p, l, e, R, s, m, args, below, meth, c⟩ := K
  obtain ⟨hx, hby, hml, hown, hret, hlk, hZ, rfl, hw⟩ := M
  obtain ⟨locs, X, hN, eT, hn, hcl, hsl⟩ := X
  obtain ⟨s2, o2, st, r⟩ := hr
  subst hp
  exact ⟨s2, o2, XS.ishl X.here hx rfl (hb hby hd) rfl st, r⟩
theorem own_ishr (M : own_Mx Z a0 K code own mx ret rm) (X : own_Sx n0 K T h cl sl) {x y : Int32} (hd : decode code pc = .ok (.ishr, 1)) (hp : pc + 1 = pc') (hr : own_Fin n0 K P T pc' L (.int (x >>> (y &&& 31)) :: S)) : own_Fin n0 K P T pc L (.int y :: .int x :: S) := by
  obtain ⟨p, l, e, R, s, m, args, below, meth, c⟩ := K
  obtain ⟨hx, hby, hml, hown, hret, hlk, hZ, rfl, hw⟩ := M
  obtain ⟨locs, X, hN, eT, hn, hcl, hsl⟩ := X
  obtain ⟨s2, o2, st, r⟩ := hr
  subst hp
  exact ⟨s2, o2, XS.ishr X.here hx rfl (hb hby hd) rfl st, r⟩
theorem own_iushr (M : own_Mx Z a0 K code own mx ret rm) (X : own_Sx n0 K T h cl sl) {x y : Int32} (hd : decode code pc = .ok (.iushr, 1)) (hp : pc + 1 = pc') (hr : own_Fin n0 K P T pc' L (.int ((x.toUInt32 >>> (y &&& 31).toUInt32).toInt32) :: S)) : own_Fin n0 K P T pc L (.int y :: .int x :: S) := by
  obtain ⟨p, l, e, R, s, m, args, below, meth, c⟩ := K
  obtain ⟨hx, hby, hml, hown, hret, hlk, hZ, rfl, hw⟩ := M
  obtain ⟨locs, X, hN, eT, hn, hcl, hsl⟩ := X
  obtain ⟨s2, o2, st, r⟩ := hr
  subst hp
  exact ⟨s2, o2, XS.iushr X.here hx rfl (hb hby hd) rfl st, r⟩
theorem own_lshl (M : own_Mx Z a0 K code own mx ret rm) (X : own_Sx n0 K T h cl sl) {x : Int64} {y : Int32} (hd : decode code pc = .ok (.lshl, 1)) (hp : pc + 1 = pc') (hr : own_Fin n0 K P T pc' L (.long (x <<< (y &&& 0x3f).toInt64) :: S)) : own_Fin n0 K P T pc L (.int y :: .long x :: S) := by
  obtain ⟨p, l, e, R, s, m, args, below, meth, c⟩ := K
  obtain ⟨hx, hby, hml, hown, hret, hlk, hZ, rfl, hw⟩ := M
  obtain ⟨locs, X, hN, eT, hn, hcl, hsl⟩ := X
  obtain ⟨s2, o2, st, r⟩ := hr
  subst hp
  exact ⟨s2, o2, XS.lshl X.here hx rfl (hb hby hd) rfl st, r⟩
theorem own_lshr (M : own_Mx Z a0 K code own mx ret rm) (X : own_Sx n0 K T h cl sl) {x : Int64} {y : Int32} (hd : decode code pc = .ok (.lshr, 1)) (hp : pc + 1 = pc') (hr : own_Fin n0 K P T pc' L (.long (x >>> (y &&& 0x3f).toInt64) :: S)) : own_Fin n0 K P T pc L (.int y :: .long x :: S) := by
  obtain ⟨p, l, e, R, s, m, args, below, meth, c⟩ := K
  obtain ⟨hx, hby, hml, hown, hret, hlk, hZ, rfl, hw⟩ := M
  obtain ⟨locs, X, hN, eT, hn, hcl, hsl⟩ := X
  obtain ⟨s2, o2, st, r⟩ := hr
  subst hp
  exact ⟨s2, o2, XS.lshr X.here hx rfl (hb hby hd) rfl st, r⟩
theorem own_lushr (M : own_Mx Z a0 K code own mx ret rm) (X : own_Sx n0 K T h cl sl) {x : Int64} {y : Int32} (hd : decode code pc = .ok (.lushr, 1)) (hp : pc + 1 = pc') (hr : own_Fin n0 K P T pc' L (.long ((x.toUInt64 >>> (y &&& 0x3f).toInt64.toUInt64).toInt64) :: S)) : own_Fin n0 K P T pc L (.int y :: .long x :: S) := by
  obtain ⟨p, l, e, R, s, m, args, below, meth, c⟩ := K
  obtain ⟨hx, hby, hml, hown, hret, hlk, hZ, rfl, hw⟩ := M
  obtain ⟨locs, X, hN, eT, hn, hcl, hsl⟩ := X
  obtain ⟨s2, o2, st, r⟩ := hr
  subst hp
  exact ⟨s2, o2, XS.lushr X.here hx rfl (hb hby hd) rfl st, r⟩
theorem own_idiv (M : own_Mx Z a0 K code own mx ret rm) (X : own_Sx n0 K T h cl sl) {x y : Int32} (hd : decode code pc = .ok (.idiv, 1)) (hy : y ≠ 0) (hp : pc + 1 = pc') (hr : own_Fin n0 K P T pc' L (.int (x / y) :: S)) : own_Fin n0 K P T pc L (.int y :: .int x :: S) := by
  obtain ⟨p, l, e, R, s, m, args, below, meth, c⟩ := K
  obtain ⟨hx, hby, hml, hown, hret, hlk, hZ, rfl, hw⟩ := M
  obtain ⟨locs, X, hN, eT, hn, hcl, hsl⟩ := X
  obtain ⟨s2, o2, st, r⟩ := hr
  subst hp
  exact ⟨s2, o2, XS.idiv X.here hx rfl (hb hby hd) rfl hy st, r⟩
theorem own_irem (M : own_Mx Z a0 K code own mx ret rm) (X : own_Sx n0 K T h cl sl) {x y : Int32} (hd : decode code pc = .ok (.irem, 1)) (hy : y ≠ 0) (hp : pc + 1 = pc') (hr : own_Fin n0 K P T pc' L (.int (x % y) :: S)) : own_Fin n0 K P T pc L (.int y :: .int x :: S) := by
  obtain ⟨p, l, e, R, s, m, args, below, meth, c⟩ := K
  obtain ⟨hx, hby, hml, hown, hret, hlk, hZ, rfl, hw⟩ := M
  obtain ⟨locs, X, hN, eT, hn, hcl, hsl⟩ := X
  obtain ⟨s2, o2, st, r⟩ := hr
  subst hp
  exact ⟨s2, o2, iremM X hx rfl (hb hby hd) rfl hy st, r⟩
theorem own_ldiv (M : own_Mx Z a0 K code own mx ret rm) (X : own_Sx n0 K T h cl sl) {x y : Int64} (hd : decode code pc = .ok (.ldiv, 1)) (hy : y ≠ 0) (hp : pc + 1 = pc') (hr : own_Fin n0 K P T pc' L (.long (x / y) :: S)) : own_Fin n0 K P T pc L (.long y :: .long x :: S) := by
  obtain ⟨p, l, e, R, s, m, args, below, meth, c⟩ := K
  obtain ⟨hx, hby, hml, hown, hret, hlk, hZ, rfl, hw⟩ := M
  obtain ⟨locs, X, hN, eT, hn, hcl, hsl⟩ := X
  obtain ⟨s2, o2, st, r⟩ := hr
  subst hp
  exact ⟨s2, o2, XS.ldiv X.here hx rfl (hb hby hd) rfl hy st, r⟩
theorem own_lrem (M : own_Mx Z a0 K code own mx ret rm) (X : own_Sx n0 K T h cl sl) {x y : Int64} (hd : decode code pc = .ok (.lrem, 1)) (hy : y ≠ 0) (hp : pc + 1 = pc') (hr : own_Fin n0 K P T pc' L (.long (x - (x / y) * y) :: S)) : own_Fin n0 K P T pc L (.long y :: .long x :: S) := by
  obtain ⟨p, l, e, R, s, m, args, below, meth, c⟩ := K
  obtain ⟨hx, hby, hml, hown, hret, hlk, hZ, rfl, hw⟩ := M
  obtain ⟨locs, X, hN, eT, hn, hcl, hsl⟩ := X
  obtain ⟨s2, o2, st, r⟩ := hr
  subst hp
  exact ⟨s2, o2, XS.lrem X.here hx rfl (hb hby hd) rfl hy st, r⟩
theorem own_ineg (M : own_Mx Z a0 K code own mx ret rm) (X : own_Sx n0 K T h cl sl) {x : Int32} (hd : decode code pc = .ok (.ineg, 1)) (hp : pc + 1 = pc') (hr : own_Fin n0 K P T pc' L (.int (-x) :: S)) : own_Fin n0 K P T pc L (.int x :: S) := by
  obtain ⟨p, l, e, R, s, m, args, below, meth, c⟩ := K
  obtain ⟨hx, hby, hml, hown, hret, hlk, hZ, rfl, hw⟩ := M
  obtain ⟨locs, X, hN, eT, hn, hcl, hsl⟩ := X
  obtain ⟨s2, o2, st, r⟩ := hr
  subst hp
  exact ⟨s2, o2, XS.ineg X.here hx rfl (hb hby hd) rfl st, r⟩
theorem own_lneg (M : own_Mx Z a0 K code own mx ret rm) (X : own_Sx n0 K T h cl sl) {x : Int64} (hd : decode code pc = .ok (.lneg, 1)) (hp : pc + 1 = pc') (hr : own_Fin n0 K P T pc' L (.long (-x) :: S)) : own_Fin n0 K P T pc L (.long x :: S) := by
  obtain ⟨p, l, e, R, s, m, args, below, meth, c⟩ := K
  obtain ⟨hx, hby, hml, hown, hret, hlk, hZ, rfl, hw⟩ := M
  obtain ⟨locs, X, hN, eT, hn, hcl, hsl⟩ := X
  obtain ⟨s2, o2, st, r⟩ := hr
  subst hp
  exact ⟨s2, o2, XS.lneg X.here hx rfl (hb hby hd) rfl st, r⟩
theorem own_i2l (M : own_Mx Z a0 K code own mx ret rm) (X : own_Sx n0 K T h cl sl) {x : Int32} (hd : decode code pc = .ok (.i2l, 1)) (hp : pc + 1 = pc') (hr : own_Fin n0 K P T pc' L (.long (x.toInt64) :: S)) : own_Fin n0 K P T pc L (.int x :: S) := by
  obtain ⟨p, l, e, R, s, m, args, below, meth, c⟩ := K
  obtain ⟨hx, hby, hml, hown, hret, hlk, hZ, rfl, hw⟩ := M
  obtain ⟨locs, X, hN, eT, hn, hcl, hsl⟩ := X
  obtain ⟨s2, o2, st, r⟩ := hr
  subst hp
  exact ⟨s2, o2, XS.i2l X.here hx rfl (hb hby hd) rfl st, r⟩
theorem own_l2i (M : own_Mx Z a0 K code own mx ret rm) (X : own_Sx n0 K T h cl sl) {x : Int64} (hd : decode code pc = .ok (.l2i, 1)) (hp : pc + 1 = pc') (hr : own_Fin n0 K P T pc' L (.int (x.toInt32) :: S)) : own_Fin n0 K P T pc L (.long x :: S) := by
  obtain ⟨p, l, e, R, s, m, args, below, meth, c⟩ := K
  obtain ⟨hx, hby, hml, hown, hret, hlk, hZ, rfl, hw⟩ := M
  obtain ⟨locs, X, hN, eT, hn, hcl, hsl⟩ := X
  obtain ⟨s2, o2, st, r⟩ := hr
  subst hp
  exact ⟨s2, o2, XS.l2i X.here hx rfl (hb hby hd) rfl st, r⟩
theorem own_i2b (M : own_Mx Z a0 K code own mx ret rm) (X : own_Sx n0 K T h cl sl) {x : Int32} (hd : decode code pc = .ok (.i2b, 1)) (hp : pc + 1 = pc') (hr : own_Fin n0 K P T pc' L (.int (x.toInt8.toInt32) :: S)) : own_Fin n0 K P T pc L (.int x :: S) := by
  obtain ⟨p, l, e, R, s, m, args, below, meth, c⟩ := K
  obtain ⟨hx, hby, hml, hown, hret, hlk, hZ, rfl, hw⟩ := M
  obtain ⟨locs, X, hN, eT, hn, hcl, hsl⟩ := X
  obtain ⟨s2, o2, st, r⟩ := hr
  subst hp
  exact ⟨s2, o2, XS.i2b X.here hx rfl (hb hby hd) rfl st, r⟩
theorem own_i2s (M : own_Mx Z a0 K code own mx ret rm) (X : own_Sx n0 K T h cl sl) {x : Int32} (hd : decode code pc = .ok (.i2s, 1)) (hp : pc + 1 = pc') (hr : own_Fin n0 K P T pc' L (.int (x.toInt16.toInt32) :: S)) : own_Fin n0 K P T pc L (.int x :: S) := by
  obtain ⟨p, l, e, R, s, m, args, below, meth, c⟩ := K
  obtain ⟨hx, hby, hml, hown, hret, hlk, hZ, rfl, hw⟩ := M
  obtain ⟨locs, X, hN, eT, hn, hcl, hsl⟩ := X
  obtain ⟨s2, o2, st, r⟩ := hr
  subst hp
  exact ⟨s2, o2, XS.i2s X.here hx rfl (hb hby hd) rfl st, r⟩
theorem own_i2c (M : own_Mx Z a0 K code own mx ret rm) (X : own_Sx n0 K T h cl sl) {x : Int32} (hd : decode code pc = .ok (.i2c, 1)) (hp : pc + 1 = pc') (hr : own_Fin n0 K P T pc' L (.int (x.toUInt32.toUInt16.toUInt32.toInt32) :: S)) : own_Fin n0 K P T pc L (.int x :: S) := by
  obtain ⟨p, l, e, R, s, m, args, below, meth, c⟩ := K
  obtain ⟨hx, hby, hml, hown, hret, hlk, hZ, rfl, hw⟩ := M
  obtain ⟨locs, X, hN, eT, hn, hcl, hsl⟩ := X
  obtain ⟨s2, o2, st, r⟩ := hr
  subst hp
  exact ⟨s2, o2, XS.i2c X.here hx rfl (hb hby hd) rfl st, r⟩
theorem own_iinc (M : own_Mx Z a0 K code own mx ret rm) (X : own_Sx n0 K T h cl sl) {k : Nat} {i : Int} {x v : Int32} (hd : decode code pc = .ok (.iinc k i, 3)) (hl : L[k]? = some (.val (.int x))) (hv : x + Int32.ofInt i = v) (hl' : storeLocals L k (.int v) = some L') (hp : pc + 3 = pc') (hr : own_Fin n0 K P T pc' L' (S)) : own_Fin n0 K P T pc L (S) := by
  obtain ⟨p, l, e, R, s, m, args, below, meth, c⟩ := K
  obtain ⟨hx, hby, hml, hown, hret, hlk, hZ, rfl, hw⟩ := M
  obtain ⟨locs, X, hN, eT, hn, hcl, hsl⟩ := X
  obtain ⟨s2, o2, st, r⟩ := hr
  subst hp
  subst hv
  exact ⟨s2, o2, XS.iinc X.here hx rfl (hb hby hd) hl hl' st, r⟩
theorem own_dup (M : own_Mx Z a0 K code own mx ret rm) (X : own_Sx n0 K T h cl sl) {v : Value} (hd : decode code pc = .ok (.dup, 1)) (hc : v.category = 1) (hp : pc + 1 = pc') (hr : own_Fin n0 K P T pc' L (v :: v :: S)) : own_Fin n0 K P T pc L (v :: S) := by
  obtain ⟨p, l, e, R, s, m, args, below, meth, c⟩ := K
  obtain ⟨hx, hby, hml, hown, hret, hlk, hZ, rfl, hw⟩ := M
  obtain ⟨locs, X, hN, eT, hn, hcl, hsl⟩ := X
  obtain ⟨s2, o2, st, r⟩ := hr
  subst hp
  exact ⟨s2, o2, XS.dup X.here hx rfl (hb hby hd) rfl hc st, r⟩
theorem own_pop (M : own_Mx Z a0 K code own mx ret rm) (X : own_Sx n0 K T h cl sl) {v : Value} (hd : decode code pc = .ok (.pop, 1)) (hc : v.category = 1) (hp : pc + 1 = pc') (hr : own_Fin n0 K P T pc' L (S)) : own_Fin n0 K P T pc L (v :: S) := by
  obtain ⟨p, l, e, R, s, m, args, below, meth, c⟩ := K
  obtain ⟨hx, hby, hml, hown, hret, hlk, hZ, rfl, hw⟩ := M
  obtain ⟨locs, X, hN, eT, hn, hcl, hsl⟩ := X
  obtain ⟨s2, o2, st, r⟩ := hr
  subst hp
  exact ⟨s2, o2, XS.pop X.here hx rfl (hb hby hd) rfl hc st, r⟩
theorem own_dup_x1 (M : own_Mx Z a0 K code own mx ret rm) (X : own_Sx n0 K T h cl sl) {v w : Value} (hd : decode code pc = .ok (.dup_x1, 1)) (hc : v.category = 1) (hc' : w.category = 1) (hp : pc + 1 = pc') (hr : own_Fin n0 K P T pc' L (v :: w :: v :: S)) : own_Fin n0 K P T pc L (v :: w :: S) := by
  obtain ⟨p, l, e, R, s, m, args, below, meth, c⟩ := K
  obtain ⟨hx, hby, hml, hown, hret, hlk, hZ, rfl, hw⟩ := M
  obtain ⟨locs, X, hN, eT, hn, hcl, hsl⟩ := X
  obtain ⟨s2, o2, st, r⟩ := hr
  subst hp
  exact ⟨s2, o2, XS.dupX1 X.here hx rfl (hb hby hd) rfl hc hc' st, r⟩
theorem own_dup2 (M : own_Mx Z a0 K code own mx ret rm) (X : own_Sx n0 K T h cl sl) {v w : Value} (hd : decode code pc = .ok (.dup2, 1)) (hc : v.category = 1) (hc' : w.category = 1) (hp : pc + 1 = pc') (hr : own_Fin n0 K P T pc' L (v :: w :: v :: w :: S)) : own_Fin n0 K P T pc L (v :: w :: S) := by
  obtain ⟨p, l, e, R, s, m, args, below, meth, c⟩ := K
  obtain ⟨hx, hby, hml, hown, hret, hlk, hZ, rfl, hw⟩ := M
  obtain ⟨locs, X, hN, eT, hn, hcl, hsl⟩ := X
  obtain ⟨s2, o2, st, r⟩ := hr
  subst hp
  exact ⟨s2, o2, XT.dup2 X.here hx rfl (hb hby hd) rfl hc hc' st, r⟩
theorem own_goto (M : own_Mx Z a0 K code own mx ret rm) (X : own_Sx n0 K T h cl sl) {o : Int} (hd : decode code pc = .ok (.goto o, 3)) (ho : 0 ≤ (pc : Int) + o) (hp : ((pc : Int) + o).toNat = pc') (hr : own_Fin n0 K P T pc' L S) : own_Fin n0 K P T pc L S := by
  obtain ⟨p, l, e, R, s, m, args, below, meth, c⟩ := K
  obtain ⟨hx, hby, hml, hown, hret, hlk, hZ, rfl, hw⟩ := M
  obtain ⟨locs, X, hN, eT, hn, hcl, hsl⟩ := X
  obtain ⟨s2, o2, st, r⟩ := hr
  exact ⟨s2, o2, XS.goto X.here hx rfl (pc0 := pc) rfl (hb hby hd) ho hp st, r⟩
theorem own_ldc (M : own_Mx Z a0 K code own mx ret rm) (X : own_Sx n0 K T h cl sl) {k : Nat} {v : Int32} (w : (Jvm.Cond.constant own k v).before a0 Z = true) (hd : decode code pc = .ok (.ldc k, 2)) (hp : pc + 2 = pc') (hr : own_Fin n0 K P T pc' L (.int v :: S)) : own_Fin n0 K P T pc L (S) := by
  obtain ⟨p, l, e, R, s, m, args, below, meth, c⟩ := K
  obtain ⟨hx, hby, hml, hown, hret, hlk, hZ, rfl, hw⟩ := M
  obtain ⟨locs, X, hN, eT, hn, hcl, hsl⟩ := X
  obtain ⟨s2, o2, st, r⟩ := hr
  subst hp
  exact ⟨s2, o2, X.ldcInt hx hown (mvT hZ w) (g := mkF m pc L S) rfl (hb hby hd) _ st, r⟩
theorem own_ldc_w (M : own_Mx Z a0 K code own mx ret rm) (X : own_Sx n0 K T h cl sl) {k : Nat} {v : Int32} (w : (Jvm.Cond.constant own k v).before a0 Z = true) (hd : decode code pc = .ok (.ldc_w k, 3)) (hp : pc + 3 = pc') (hr : own_Fin n0 K P T pc' L (.int v :: S)) : own_Fin n0 K P T pc L (S) := by
  obtain ⟨p, l, e, R, s, m, args, below, meth, c⟩ := K
  obtain ⟨hx, hby, hml, hown, hret, hlk, hZ, rfl, hw⟩ := M
  obtain ⟨locs, X, hN, eT, hn, hcl, hsl⟩ := X
  obtain ⟨s2, o2, st, r⟩ := hr
  subst hp
  exact ⟨s2, o2, X.ldcwInt hx hown (mvT hZ w) (g := mkF m pc L S) rfl (hb hby hd) _ st, r⟩
theorem own_ldc2_w (M : own_Mx Z a0 K code own mx ret rm) (X : own_Sx n0 K T h cl sl) {k : Nat} {v : Int64} (w : (Jvm.Cond.constantLong own k v).before a0 Z = true) (hd : decode code pc = .ok (.ldc2_w k, 3)) (hp : pc + 3 = pc') (hr : own_Fin n0 K P T pc' L (.long v :: S)) : own_Fin n0 K P T pc L (S) := by
  obtain ⟨p, l, e, R, s, m, args, below, meth, c⟩ := K
  obtain ⟨hx, hby, hml, hown, hret, hlk, hZ, rfl, hw⟩ := M
  obtain ⟨locs, X, hN, eT, hn, hcl, hsl⟩ := X
  obtain ⟨s2, o2, st, r⟩ := hr
  subst hp
  exact ⟨s2, o2, X.ldc2Long hx hown (mvT hZ w) (g := mkF m pc L S) rfl (hb hby hd) _ st, r⟩
theorem own_icmp_lt (M : own_Mx Z a0 K code own mx ret rm) (X : own_Sx n0 K T h cl sl) {x y : Int32} {o : Int} {pcY pcN : Nat} (hd : decode code pc = .ok (.if_icmp .lt o, 3)) (ho : 0 ≤ (pc : Int) + o) (hY : ((pc : Int) + o).toNat = pcY) (hpN : pc + 3 = pcN) (yes : x < y → own_Fin n0 K P T pcY L S) (no : ¬ x < y → own_Fin n0 K P T pcN L S) : own_Fin n0 K P T pc L (.int y :: .int x :: S) := by
  obtain ⟨p, l, e, R, s, m, args, below, meth, c⟩ := K
  obtain ⟨hx, hby, hml, hown, hret, hlk, hZ, rfl, hw⟩ := M
  obtain ⟨locs, X, hN, eT, hn, hcl, hsl⟩ := X
  subst hpN
  by_cases q : x < y
  · obtain ⟨s2, o2, st, r⟩ := yes q
    exact ⟨s2, o2, XS.icmpYes X.here hx rfl (pc0 := pc) rfl (hb hby hd) rfl (tlt q).1 ho hY st, r⟩
  · obtain ⟨s2, o2, st, r⟩ := no q
    exact ⟨s2, o2, XS.icmpNo X.here hx rfl (hb hby hd) rfl (flt q).1 st, r⟩
theorem own_if_lt (M : own_Mx Z a0 K code own mx ret rm) (X : own_Sx n0 K T h cl sl) {x : Int32} {o : Int} {pcY pcN : Nat} (hd : decode code pc = .ok (.ifCond .lt o, 3)) (ho : 0 ≤ (pc : Int) + o) (hY : ((pc : Int) + o).toNat = pcY) (hpN : pc + 3 = pcN) (yes : x < 0 → own_Fin n0 K P T pcY L S) (no : ¬ x < 0 → own_Fin n0 K P T pcN L S) : own_Fin n0 K P T pc L (.int x :: S) := by
  obtain ⟨p, l, e, R, s, m, args, below, meth, c⟩ := K
  obtain ⟨hx, hby, hml, hown, hret, hlk, hZ, rfl, hw⟩ := M
  obtain ⟨locs, X, hN, eT, hn, hcl, hsl⟩ := X
  subst hpN
  by_cases q : x < 0
  · obtain ⟨s2, o2, st, r⟩ := yes q
    exact ⟨s2, o2, XS.ifYes X.here hx rfl (pc0 := pc) rfl (hb hby hd) rfl ((if0 _ _).trans (tlt q).1) ho hY st, r⟩
  · obtain ⟨s2, o2, st, r⟩ := no q
    exact ⟨s2, o2, XS.ifNo X.here hx rfl (hb hby hd) rfl ((if0 _ _).trans (flt q).1) st, r⟩
theorem own_lcmp_lt (M : own_Mx Z a0 K code own mx ret rm) (X : own_Sx n0 K T h cl sl) {x y : Int64} {pc1 : Nat} {o : Int} {pcY pcN : Nat} (hdc : decode code pc = .ok (.lcmp, 1)) (h1 : pc + 1 = pc1) (hd : decode code pc1 = .ok (.ifCond .lt o, 3)) (ho : 0 ≤ (pc1 : Int) + o) (hY : ((pc1 : Int) + o).toNat = pcY) (hpN : pc1 + 3 = pcN) (yes : x < y → own_Fin n0 K P T pcY L S) (no : ¬ x < y → own_Fin n0 K P T pcN L S) : own_Fin n0 K P T pc L (.long y :: .long x :: S) := by
  obtain ⟨p, l, e, R, s, m, args, below, meth, c⟩ := K
  obtain ⟨hx, hby, hml, hown, hret, hlk, hZ, rfl, hw⟩ := M
  obtain ⟨locs, X, hN, eT, hn, hcl, hsl⟩ := X
  subst hpN h1
  by_cases q : x < y
  · obtain ⟨s2, o2, st, r⟩ := yes q
    exact ⟨s2, o2, XS.lcmp X.here hx rfl (hb hby hdc) rfl (XS.ifYes (g := mkF m (pc + 1) L (.int (lcmpW x y) :: S)) X.here hx rfl (pc0 := pc + 1) rfl (hb hby hd) rfl ((if0 _ _).trans (tlt ((lw_lt x y).mpr q)).1) ho hY st), r⟩
  · obtain ⟨s2, o2, st, r⟩ := no q
    exact ⟨s2, o2, XS.lcmp X.here hx rfl (hb hby hdc) rfl (XS.ifNo (g := mkF m (pc + 1) L (.int (lcmpW x y) :: S)) X.here hx rfl (hb hby hd) rfl ((if0 _ _).trans (flt (fun z => q ((lw_lt x y).mp z))).1) st), r⟩
theorem own_icmp_ge (M : own_Mx Z a0 K code own mx ret rm) (X : own_Sx n0 K T h cl sl) {x y : Int32} {o : Int} {pcY pcN : Nat} (hd : decode code pc = .ok (.if_icmp .ge o, 3)) (ho : 0 ≤ (pc : Int) + o) (hY : ((pc : Int) + o).toNat = pcY) (hpN : pc + 3 = pcN) (yes : ¬ x < y → own_Fin n0 K P T pcY L S) (no : x < y → own_Fin n0 K P T pcN L S) : own_Fin n0 K P T pc L (.int y :: .int x :: S) := by
  obtain ⟨p, l, e, R, s, m, args, below, meth, c⟩ := K
  obtain ⟨hx, hby, hml, hown, hret, hlk, hZ, rfl, hw⟩ := M
  obtain ⟨locs, X, hN, eT, hn, hcl, hsl⟩ := X
  subst hpN
  by_cases q : x < y
  · obtain ⟨s2, o2, st, r⟩ := no q
    exact ⟨s2, o2, XS.icmpNo X.here hx rfl (hb hby hd) rfl (tlt q).2.1 st, r⟩
  · obtain ⟨s2, o2, st, r⟩ := yes q
    exact ⟨s2, o2, XS.icmpYes X.here hx rfl (pc0 := pc) rfl (hb hby hd) rfl (flt q).2.1 ho hY st, r⟩
theorem own_if_ge (M : own_Mx Z a0 K code own mx ret rm) (X : own_Sx n0 K T h cl sl) {x : Int32} {o : Int} {pcY pcN : Nat} (hd : decode code pc = .ok (.ifCond .ge o, 3)) (ho : 0 ≤ (pc : Int) + o) (hY : ((pc : Int) + o).toNat = pcY) (hpN : pc + 3 = pcN) (yes : ¬ x < 0 → own_Fin n0 K P T pcY L S) (no : x < 0 → own_Fin n0 K P T pcN L S) : own_Fin n0 K P T pc L (.int x :: S) := by
  obtain ⟨p, l, e, R, s, m, args, below, meth, c⟩ := K
  obtain ⟨hx, hby, hml, hown, hret, hlk, hZ, rfl, hw⟩ := M
  obtain ⟨locs, X, hN, eT, hn, hcl, hsl⟩ := X
  subst hpN
  by_cases q : x < 0
  · obtain ⟨s2, o2, st, r⟩ := no q
    exact ⟨s2, o2, XS.ifNo X.here hx rfl (hb hby hd) rfl ((if0 _ _).trans (tlt q).2.1) st, r⟩
  · obtain ⟨s2, o2, st, r⟩ := yes q
    exact ⟨s2, o2, XS.ifYes X.here hx rfl (pc0 := pc) rfl (hb hby hd) rfl ((if0 _ _).trans (flt q).2.1) ho hY st, r⟩
theorem own_lcmp_ge (M : own_Mx Z a0 K code own mx ret rm) (X : own_Sx n0 K T h cl sl) {x y : Int64} {pc1 : Nat} {o : Int} {pcY pcN : Nat} (hdc : decode code pc = .ok (.lcmp, 1)) (h1 : pc + 1 = pc1) (hd : decode code pc1 = .ok (.ifCond .ge o, 3)) (ho : 0 ≤ (pc1 : Int) + o) (hY : ((pc1 : Int) + o).toNat = pcY) (hpN : pc1 + 3 = pcN) (yes : ¬ x < y → own_Fin n0 K P T pcY L S) (no : x < y → own_Fin n0 K P T pcN L S) : own_Fin n0 K P T pc L (.long y :: .long x :: S) := by
  obtain ⟨p, l, e, R, s, m, args, below, meth, c⟩ := K
  obtain ⟨hx, hby, hml, hown, hret, hlk, hZ, rfl, hw⟩ := M
  obtain ⟨locs, X, hN, eT, hn, hcl, hsl⟩ := X
  subst hpN h1
  by_cases q : x < y
  · obtain ⟨s2, o2, st, r⟩ := no q
    exact ⟨s2, o2, XS.lcmp X.here hx rfl (hb hby hdc) rfl (XS.ifNo (g := mkF m (pc + 1) L (.int (lcmpW x y) :: S)) X.here hx rfl (hb hby hd) rfl ((if0 _ _).trans (tlt ((lw_lt x y).mpr q)).2.1) st), r⟩
  · obtain ⟨s2, o2, st, r⟩ := yes q
    exact ⟨s2, o2, XS.lcmp X.here hx rfl (hb hby hdc) rfl (XS.ifYes (g := mkF m (pc + 1) L (.int (lcmpW x y) :: S)) X.here hx rfl (pc0 := pc + 1) rfl (hb hby hd) rfl ((if0 _ _).trans (flt (fun z => q ((lw_lt x y).mp z))).2.1) ho hY st), r⟩
theorem own_icmp_gt (M : own_Mx Z a0 K code own mx ret rm) (X : own_Sx n0 K T h cl sl) {x y : Int32} {o : Int} {pcY pcN : Nat} (hd : decode code pc = .ok (.if_icmp .gt o, 3)) (ho : 0 ≤ (pc : Int) + o) (hY : ((pc : Int) + o).toNat = pcY) (hpN : pc + 3 = pcN) (yes : y < x → own_Fin n0 K P T pcY L S) (no : ¬ y < x → own_Fin n0 K P T pcN L S) : own_Fin n0 K P T pc L (.int y :: .int x :: S) := by
  obtain ⟨p, l, e, R, s, m, args, below, meth, c⟩ := K
  obtain ⟨hx, hby, hml, hown, hret, hlk, hZ, rfl, hw⟩ := M
  obtain ⟨locs, X, hN, eT, hn, hcl, hsl⟩ := X
  subst hpN
  by_cases q : y < x
  · obtain ⟨s2, o2, st, r⟩ := yes q
    exact ⟨s2, o2, XS.icmpYes X.here hx rfl (pc0 := pc) rfl (hb hby hd) rfl (tlt q).2.2.1 ho hY st, r⟩
  · obtain ⟨s2, o2, st, r⟩ := no q
    exact ⟨s2, o2, XS.icmpNo X.here hx rfl (hb hby hd) rfl (flt q).2.2.1 st, r⟩
theorem own_if_gt (M : own_Mx Z a0 K code own mx ret rm) (X : own_Sx n0 K T h cl sl) {x : Int32} {o : Int} {pcY pcN : Nat} (hd : decode code pc = .ok (.ifCond .gt o, 3)) (ho : 0 ≤ (pc : Int) + o) (hY : ((pc : Int) + o).toNat = pcY) (hpN : pc + 3 = pcN) (yes : 0 < x → own_Fin n0 K P T pcY L S) (no : ¬ 0 < x → own_Fin n0 K P T pcN L S) : own_Fin n0 K P T pc L (.int x :: S) := by
  obtain ⟨p, l, e, R, s, m, args, below, meth, c⟩ := K
  obtain ⟨hx, hby, hml, hown, hret, hlk, hZ, rfl, hw⟩ := M
  obtain ⟨locs, X, hN, eT, hn, hcl, hsl⟩ := X
  subst hpN
  by_cases q : 0 < x
  · obtain ⟨s2, o2, st, r⟩ := yes q
    exact ⟨s2, o2, XS.ifYes X.here hx rfl (pc0 := pc) rfl (hb hby hd) rfl ((if0 _ _).trans (tlt q).2.2.1) ho hY st, r⟩
  · obtain ⟨s2, o2, st, r⟩ := no q
    exact ⟨s2, o2, XS.ifNo X.here hx rfl (hb hby hd) rfl ((if0 _ _).trans (flt q).2.2.1) st, r⟩
theorem own_lcmp_gt (M : own_Mx Z a0 K code own mx ret rm) (X : own_Sx n0 K T h cl sl) {x y : Int64} {pc1 : Nat} {o : Int} {pcY pcN : Nat} (hdc : decode code pc = .ok (.lcmp, 1)) (h1 : pc + 1 = pc1) (hd : decode code pc1 = .ok (.ifCond .gt o, 3)) (ho : 0 ≤ (pc1 : Int) + o) (hY : ((pc1 : Int) + o).toNat = pcY) (hpN : pc1 + 3 = pcN) (yes : y < x → own_Fin n0 K P T pcY L S) (no : ¬ y < x → own_Fin n0 K P T pcN L S) : own_Fin n0 K P T pc L (.long y :: .long x :: S) := by
  obtain ⟨p, l, e, R, s, m, args, below, meth, c⟩ := K
  obtain ⟨hx, hby, hml, hown, hret, hlk, hZ, rfl, hw⟩ := M
  obtain ⟨locs, X, hN, eT, hn, hcl, hsl⟩ := X
  subst hpN h1
  by_cases q : y < x
  · obtain ⟨s2, o2, st, r⟩ := yes q
    exact ⟨s2, o2, XS.lcmp X.here hx rfl (hb hby hdc) rfl (XS.ifYes (g := mkF m (pc + 1) L (.int (lcmpW x y) :: S)) X.here hx rfl (pc0 := pc + 1) rfl (hb hby hd) rfl ((if0 _ _).trans (tlt ((lw_gt x y).mpr q)).2.2.1) ho hY st), r⟩
  · obtain ⟨s2, o2, st, r⟩ := no q
    exact ⟨s2, o2, XS.lcmp X.here hx rfl (hb hby hdc) rfl (XS.ifNo (g := mkF m (pc + 1) L (.int (lcmpW x y) :: S)) X.here hx rfl (hb hby hd) rfl ((if0 _ _).trans (flt (fun z => q ((lw_gt x y).mp z))).2.2.1) st), r⟩
theorem own_icmp_le (M : own_Mx Z a0 K code own mx ret rm) (X : own_Sx n0 K T h cl sl) {x y : Int32} {o : Int} {pcY pcN : Nat} (hd : decode code pc = .ok (.if_icmp .le o, 3)) (ho : 0 ≤ (pc : Int) + o) (hY : ((pc : Int) + o).toNat = pcY) (hpN : pc + 3 = pcN) (yes : ¬ y < x → own_Fin n0 K P T pcY L S) (no : y < x → own_Fin n0 K P T pcN L S) : own_Fin n0 K P T pc L (.int y :: .int x :: S) := by
  obtain ⟨p, l, e, R, s, m, args, below, meth, c⟩ := K
  obtain ⟨hx, hby, hml, hown, hret, hlk, hZ, rfl, hw⟩ := M
  obtain ⟨locs, X, hN, eT, hn, hcl, hsl⟩ := X
  subst hpN
  by_cases q : y < x
  · obtain ⟨s2, o2, st, r⟩ := no q
    exact ⟨s2, o2, XS.icmpNo X.here hx rfl (hb hby hd) rfl (tlt q).2.2.2 st, r⟩
  · obtain ⟨s2, o2, st, r⟩ := yes q
    exact ⟨s2, o2, XS.icmpYes X.here hx rfl (pc0 := pc) rfl (hb hby hd) rfl (flt q).2.2.2 ho hY st, r⟩
theorem own_if_le (M : own_Mx Z a0 K code own mx ret rm) (X : own_Sx n0 K T h cl sl) {x : Int32} {o : Int} {pcY pcN : Nat} (hd : decode code pc = .ok (.ifCond .le o, 3)) (ho : 0 ≤ (pc : Int) + o) (hY : ((pc : Int) + o).toNat = pcY) (hpN : pc + 3 = pcN) (yes : ¬ 0 < x → own_Fin n0 K P T pcY L S) (no : 0 < x → own_Fin n0 K P T pcN L S) : own_Fin n0 K P T pc L (.int x :: S) := by
  obtain ⟨p, l, e, R, s, m, args, below, meth, c⟩ := K
  obtain ⟨hx, hby, hml, hown, hret, hlk, hZ, rfl, hw⟩ := M
  obtain ⟨locs, X, hN, eT, hn, hcl, hsl⟩ := X
  subst hpN
  by_cases q : 0 < x
  · obtain ⟨s2, o2, st, r⟩ := no q
    exact ⟨s2, o2, XS.ifNo X.here hx rfl (hb hby hd) rfl ((if0 _ _).trans (tlt q).2.2.2) st, r⟩
  · obtain ⟨s2, o2, st, r⟩ := yes q
    exact ⟨s2, o2, XS.ifYes X.here hx rfl (pc0 := pc) rfl (hb hby hd) rfl ((if0 _ _).trans (flt q).2.2.2) ho hY st, r⟩
theorem own_lcmp_le (M : own_Mx Z a0 K code own mx ret rm) (X : own_Sx n0 K T h cl sl) {x y : Int64} {pc1 : Nat} {o : Int} {pcY pcN : Nat} (hdc : decode code pc = .ok (.lcmp, 1)) (h1 : pc + 1 = pc1) (hd : decode code pc1 = .ok (.ifCond .le o, 3)) (ho : 0 ≤ (pc1 : Int) + o) (hY : ((pc1 : Int) + o).toNat = pcY) (hpN : pc1 + 3 = pcN) (yes : ¬ y < x → own_Fin n0 K P T pcY L S) (no : y < x → own_Fin n0 K P T pcN L S) : own_Fin n0 K P T pc L (.long y :: .long x :: S) := by
  obtain ⟨p, l, e, R, s, m, args, below, meth, c⟩ := K
  obtain ⟨hx, hby, hml, hown, hret, hlk, hZ, rfl, hw⟩ := M
  obtain ⟨locs, X, hN, eT, hn, hcl, hsl⟩ := X
  subst hpN h1
  by_cases q : y < x
  · obtain ⟨s2, o2, st, r⟩ := no q
    exact ⟨s2, o2, XS.lcmp X.here hx rfl (hb hby hdc) rfl (XS.ifNo (g := mkF m (pc + 1) L (.int (lcmpW x y) :: S)) X.here hx rfl (hb hby hd) rfl ((if0 _ _).trans (tlt ((lw_gt x y).mpr q)).2.2.2) st), r⟩
  · obtain ⟨s2, o2, st, r⟩ := yes q
    exact ⟨s2, o2, XS.lcmp X.here hx rfl (hb hby hdc) rfl (XS.ifYes (g := mkF m (pc + 1) L (.int (lcmpW x y) :: S)) X.here hx rfl (pc0 := pc + 1) rfl (hb hby hd) rfl ((if0 _ _).trans (flt (fun z => q ((lw_gt x y).mp z))).2.2.2) ho hY st), r⟩
theorem own_icmp_eq (M : own_Mx Z a0 K code own mx ret rm) (X : own_Sx n0 K T h cl sl) {x y : Int32} {o : Int} {pcY pcN : Nat} (hd : decode code pc = .ok (.if_icmp .eq o, 3)) (ho : 0 ≤ (pc : Int) + o) (hY : ((pc : Int) + o).toNat = pcY) (hpN : pc + 3 = pcN) (yes : x = y → own_Fin n0 K P T pcY L S) (no : ¬ x = y → own_Fin n0 K P T pcN L S) : own_Fin n0 K P T pc L (.int y :: .int x :: S) := by
  obtain ⟨p, l, e, R, s, m, args, below, meth, c⟩ := K
  obtain ⟨hx, hby, hml, hown, hret, hlk, hZ, rfl, hw⟩ := M
  obtain ⟨locs, X, hN, eT, hn, hcl, hsl⟩ := X
  subst hpN
  by_cases q : x = y
  · obtain ⟨s2, o2, st, r⟩ := yes q
    exact ⟨s2, o2, XS.icmpYes X.here hx rfl (pc0 := pc) rfl (hb hby hd) rfl (teq q).1 ho hY st, r⟩
  · obtain ⟨s2, o2, st, r⟩ := no q
    exact ⟨s2, o2, XS.icmpNo X.here hx rfl (hb hby hd) rfl (feq q).1 st, r⟩
theorem own_if_eq (M : own_Mx Z a0 K code own mx ret rm) (X : own_Sx n0 K T h cl sl) {x : Int32} {o : Int} {pcY pcN : Nat} (hd : decode code pc = .ok (.ifCond .eq o, 3)) (ho : 0 ≤ (pc : Int) + o) (hY : ((pc : Int) + o).toNat = pcY) (hpN : pc + 3 = pcN) (yes : x = 0 → own_Fin n0 K P T pcY L S) (no : ¬ x = 0 → own_Fin n0 K P T pcN L S) : own_Fin n0 K P T pc L (.int x :: S) := by
  obtain ⟨p, l, e, R, s, m, args, below, meth, c⟩ := K
  obtain ⟨hx, hby, hml, hown, hret, hlk, hZ, rfl, hw⟩ := M
  obtain ⟨locs, X, hN, eT, hn, hcl, hsl⟩ := X
  subst hpN
  by_cases q : x = 0
  · obtain ⟨s2, o2, st, r⟩ := yes q
    exact ⟨s2, o2, XS.ifYes X.here hx rfl (pc0 := pc) rfl (hb hby hd) rfl ((if0 _ _).trans (teq q).1) ho hY st, r⟩
  · obtain ⟨s2, o2, st, r⟩ := no q
    exact ⟨s2, o2, XS.ifNo X.here hx rfl (hb hby hd) rfl ((if0 _ _).trans (feq q).1) st, r⟩
theorem own_lcmp_eq (M : own_Mx Z a0 K code own mx ret rm) (X : own_Sx n0 K T h cl sl) {x y : Int64} {pc1 : Nat} {o : Int} {pcY pcN : Nat} (hdc : decode code pc = .ok (.lcmp, 1)) (h1 : pc + 1 = pc1) (hd : decode code pc1 = .ok (.ifCond .eq o, 3)) (ho : 0 ≤ (pc1 : Int) + o) (hY : ((pc1 : Int) + o).toNat = pcY) (hpN : pc1 + 3 = pcN) (yes : x = y → own_Fin n0 K P T pcY L S) (no : ¬ x = y → own_Fin n0 K P T pcN L S) : own_Fin n0 K P T pc L (.long y :: .long x :: S) := by
  obtain ⟨p, l, e, R, s, m, args, below, meth, c⟩ := K
  obtain ⟨hx, hby, hml, hown, hret, hlk, hZ, rfl, hw⟩ := M
  obtain ⟨locs, X, hN, eT, hn, hcl, hsl⟩ := X
  subst hpN h1
  by_cases q : x = y
  · obtain ⟨s2, o2, st, r⟩ := yes q
    exact ⟨s2, o2, XS.lcmp X.here hx rfl (hb hby hdc) rfl (XS.ifYes (g := mkF m (pc + 1) L (.int (lcmpW x y) :: S)) X.here hx rfl (pc0 := pc + 1) rfl (hb hby hd) rfl ((if0 _ _).trans (teq ((lw_eq x y).mpr q)).1) ho hY st), r⟩
  · obtain ⟨s2, o2, st, r⟩ := no q
    exact ⟨s2, o2, XS.lcmp X.here hx rfl (hb hby hdc) rfl (XS.ifNo (g := mkF m (pc + 1) L (.int (lcmpW x y) :: S)) X.here hx rfl (hb hby hd) rfl ((if0 _ _).trans (feq (fun z => q ((lw_eq x y).mp z))).1) st), r⟩
theorem own_icmp_ne (M : own_Mx Z a0 K code own mx ret rm) (X : own_Sx n0 K T h cl sl) {x y : Int32} {o : Int} {pcY pcN : Nat} (hd : decode code pc = .ok (.if_icmp .ne o, 3)) (ho : 0 ≤ (pc : Int) + o) (hY : ((pc : Int) + o).toNat = pcY) (hpN : pc + 3 = pcN) (yes : ¬ x = y → own_Fin n0 K P T pcY L S) (no : x = y → own_Fin n0 K P T pcN L S) : own_Fin n0 K P T pc L (.int y :: .int x :: S) := by
  obtain ⟨p, l, e, R, s, m, args, below, meth, c⟩ := K
  obtain ⟨hx, hby, hml, hown, hret, hlk, hZ, rfl, hw⟩ := M
  obtain ⟨locs, X, hN, eT, hn, hcl, hsl⟩ := X
  subst hpN
  by_cases q : x = y
  · obtain ⟨s2, o2, st, r⟩ := no q
    exact ⟨s2, o2, XS.icmpNo X.here hx rfl (hb hby hd) rfl (teq q).2 st, r⟩
  · obtain ⟨s2, o2, st, r⟩ := yes q
    exact ⟨s2, o2, XS.icmpYes X.here hx rfl (pc0 := pc) rfl (hb hby hd) rfl (feq q).2 ho hY st, r⟩
theorem own_if_ne (M : own_Mx Z a0 K code own mx ret rm) (X : own_Sx n0 K T h cl sl) {x : Int32} {o : Int} {pcY pcN : Nat} (hd : decode code pc = .ok (.ifCond .ne o, 3)) (ho : 0 ≤ (pc : Int) + o) (hY : ((pc : Int) + o).toNat = pcY) (hpN : pc + 3 = pcN) (yes : ¬ x = 0 → own_Fin n0 K P T pcY L S) (no : x = 0 → own_Fin n0 K P T pcN L S) : own_Fin n0 K P T pc L (.int x :: S) := by
  obtain ⟨p, l, e, R, s, m, args, below, meth, c⟩ := K
  obtain ⟨hx, hby, hml, hown, hret, hlk, hZ, rfl, hw⟩ := M
  obtain ⟨locs, X, hN, eT, hn, hcl, hsl⟩ := X
  subst hpN
  by_cases q : x = 0
  · obtain ⟨s2, o2, st, r⟩ := no q
    exact ⟨s2, o2, XS.ifNo X.here hx rfl (hb hby hd) rfl ((if0 _ _).trans (teq q).2) st, r⟩
  · obtain ⟨s2, o2, st, r⟩ := yes q
    exact ⟨s2, o2, XS.ifYes X.here hx rfl (pc0 := pc) rfl (hb hby hd) rfl ((if0 _ _).trans (feq q).2) ho hY st, r⟩
theorem own_lcmp_ne (M : own_Mx Z a0 K code own mx ret rm) (X : own_Sx n0 K T h cl sl) {x y : Int64} {pc1 : Nat} {o : Int} {pcY pcN : Nat} (hdc : decode code pc = .ok (.lcmp, 1)) (h1 : pc + 1 = pc1) (hd : decode code pc1 = .ok (.ifCond .ne o, 3)) (ho : 0 ≤ (pc1 : Int) + o) (hY : ((pc1 : Int) + o).toNat = pcY) (hpN : pc1 + 3 = pcN) (yes : ¬ x = y → own_Fin n0 K P T pcY L S) (no : x = y → own_Fin n0 K P T pcN L S) : own_Fin n0 K P T pc L (.long y :: .long x :: S) := by
  obtain ⟨p, l, e, R, s, m, args, below, meth, c⟩ := K
  obtain ⟨hx, hby, hml, hown, hret, hlk, hZ, rfl, hw⟩ := M
  obtain ⟨locs, X, hN, eT, hn, hcl, hsl⟩ := X
  subst hpN h1
  by_cases q : x = y
  · obtain ⟨s2, o2, st, r⟩ := no q
    exact ⟨s2, o2, XS.lcmp X.here hx rfl (hb hby hdc) rfl (XS.ifNo (g := mkF m (pc + 1) L (.int (lcmpW x y) :: S)) X.here hx rfl (hb hby hd) rfl ((if0 _ _).trans (teq ((lw_eq x y).mpr q)).2) st), r⟩
  · obtain ⟨s2, o2, st, r⟩ := yes q
    exact ⟨s2, o2, XS.lcmp X.here hx rfl (hb hby hdc) rfl (XS.ifYes (g := mkF m (pc + 1) L (.int (lcmpW x y) :: S)) X.here hx rfl (pc0 := pc + 1) rfl (hb hby hd) rfl ((if0 _ _).trans (feq (fun z => q ((lw_eq x y).mp z))).2) ho hY st), r⟩
theorem own_callS (M : own_Mx Z a0 K code own mx ret rm) (X : own_Sx n0 K T h cl sl) {y : MethodName} {ycode : ByteArray} {ymx : Nat} {yret : Option FieldType} {yrm : Room} {idx : Nat} {Q : Option Value → Heap → Prop} {ps : List FieldType} {yr : Option FieldType} (argsL : List Value)
    (w1 : (Jvm.Cond.methodLink own idx y).before a0 Z = true) (w2 : (Jvm.Cond.static y).before a0 Z = true) (w3 : (Jvm.Cond.initialized y.cls).before a0 Z = true) (w4 : (Jvm.Cond.code y ycode ymx yret).before a0 Z = true) (hy : y.cls ≠ "java/lang/invoke/MethodHandle" ∧ y.cls ≠ "java/lang/invoke/VarHandle")
    (hM : own_Met K.2.1 Z n0 y ycode ymx yret yrm argsL.toArray h Q) (hL : L.size = mx) (hd : decode code pc = .ok (.invokestatic idx, 3)) (hp : pc + 3 = pc') (hpd : parseMethodDescriptor y.desc = some ⟨ps, yr⟩) (hlen : argsL.length = ps.length) (hS : S = argsL.reverse ++ rest)
    (W : Nat) (hW : (rest.map fun v => v.category).sum ≤ W) (hf : yrm.frames + 1 ≤ rm.frames) (hl : W + (ymx + 11) + yrm.locals ≤ rm.locals) (hc : cl + yrm.cells ≤ rm.cells) (hs : sl + yrm.slots ≤ rm.slots)
    (hr : ∀ T' h' v, own_Sx n0 K T' h' (cl + yrm.cells) (sl + yrm.slots) → Q v h' → own_Fin n0 K P T' pc' L (v.toList ++ rest)) : own_Fin n0 K P T pc L S := by
  obtain ⟨p, l, e, R, s, m, args, below, meth, c⟩ := K
  obtain ⟨hx, hby, hml, hown, hret, hlk, hZ, rfl, hw⟩ := M
  obtain ⟨locs, X, hN, eT, hn, hcl, hsl⟩ := X
  obtain ⟨v, vm1, ⟨T1, L1, k1, n1⟩, -, X1, ⟨Lc, hQ, l1, y1, z1⟩, st⟩ := Jvm.LawKit.callS X hx (y := y) hown (mvT hZ w1) (mvT hZ w2) (mvT hZ w3) (mvT hZ w4) hy (backOf (W := W) (Q := fun v h L => Q v h ∧ Fr n0 L) (hM []) hZ w4 w3 hf hl) (g := mkF m pc L S) rfl (by rw [hml]; exact hL) (argsL := argsL) (rest := rest) (lenOf hpd hlen) hS (by show 2 * 0 + _ ≤ W; omega) (hb hby hd) (fun _ _ => ⟨rfl, eT, hc, hs⟩)
  dsimp only [Pt.U, Pt.locs, Pt.cells, Pt.slots] at X1 l1 y1 z1 st hQ
  subst l1 y1 z1 hp
  obtain ⟨s2, o2, st2, r⟩ := hr T1 _ v ⟨_, X1, Fr.app hN hQ.2, rfl, hn, hc, hs⟩ hQ.1
  exact ⟨s2, o2, st _ st2, r⟩
theorem own_callP (M : own_Mx Z a0 K code own mx ret rm) (X : own_Sx n0 K T h cl sl) {y : MethodName} {ycode : ByteArray} {ymx : Nat} {yret : Option FieldType} {yrm : Room} {idx : Nat} {ps : List FieldType} {yr : Option FieldType} {w : Value} (argsL : List Value)
    (w1 : (Jvm.Cond.methodLink own idx y).before a0 Z = true) (w2 : (Jvm.Cond.static y).before a0 Z = true) (w3 : (Jvm.Cond.initialized y.cls).before a0 Z = true) (w4 : (Jvm.Cond.code y ycode ymx yret).before a0 Z = true) (hy : y.cls ≠ "java/lang/invoke/MethodHandle" ∧ y.cls ≠ "java/lang/invoke/VarHandle")
    (hM : own_Met K.2.1 Z n0 y ycode ymx yret yrm argsL.toArray h (fun v h' => v = some w ∧ h' = h)) (hL : L.size = mx) (hd : decode code pc = .ok (.invokestatic idx, 3)) (hp : pc + 3 = pc') (hpd : parseMethodDescriptor y.desc = some ⟨ps, yr⟩) (hlen : argsL.length = ps.length) (hS : S = argsL.reverse ++ rest)
    (W : Nat) (hW : (rest.map fun v => v.category).sum ≤ W) (hf : yrm.frames + 1 ≤ rm.frames) (hl : W + (ymx + 11) + yrm.locals ≤ rm.locals) (hc0 : yrm.cells = 0) (hs0 : yrm.slots = 0)
    (hr : ∀ T', own_Sx n0 K T' h cl sl → own_Fin n0 K P T' pc' L (w :: rest)) : own_Fin n0 K P T pc L S := by
  have hcs : cl ≤ rm.cells ∧ sl ≤ rm.slots := by
    obtain ⟨p, l, e, R, s, m, args, below, meth, c⟩ := K
    obtain ⟨hx, hby, hml, hown, hret, hlk, hZ, rfl, hw⟩ := M
    obtain ⟨locs, X, hN, eT, hn, hcl, hsl⟩ := X
    exact ⟨hcl, hsl⟩
  refine own_callS M X argsL w1 w2 w3 w4 hy hM hL hd hp hpd hlen hS W hW hf hl (by rw [hc0]; exact hcs.1) (by rw [hs0]; exact hcs.2) ?_
  rintro T' h' v X' ⟨rfl, rfl⟩
  rw [hc0, hs0] at X'
  exact hr T' X'
theorem own_callP0 (M : own_Mx Z a0 K code own mx ret rm) (X : own_Sx n0 K T h cl sl) {y : MethodName} {ycode : ByteArray} {ymx : Nat} {yret : Option FieldType} {yrm : Room} {idx : Nat} {ps : List FieldType} {yr : Option FieldType} (argsL : List Value)
    (w1 : (Jvm.Cond.methodLink own idx y).before a0 Z = true) (w2 : (Jvm.Cond.static y).before a0 Z = true) (w3 : (Jvm.Cond.initialized y.cls).before a0 Z = true) (w4 : (Jvm.Cond.code y ycode ymx yret).before a0 Z = true) (hy : y.cls ≠ "java/lang/invoke/MethodHandle" ∧ y.cls ≠ "java/lang/invoke/VarHandle")
    (hM : own_Met K.2.1 Z n0 y ycode ymx yret yrm argsL.toArray h (fun v h' => v = none ∧ h' = h)) (hL : L.size = mx) (hd : decode code pc = .ok (.invokestatic idx, 3)) (hp : pc + 3 = pc') (hpd : parseMethodDescriptor y.desc = some ⟨ps, yr⟩) (hlen : argsL.length = ps.length) (hS : S = argsL.reverse ++ rest)
    (W : Nat) (hW : (rest.map fun v => v.category).sum ≤ W) (hf : yrm.frames + 1 ≤ rm.frames) (hl : W + (ymx + 11) + yrm.locals ≤ rm.locals) (hc0 : yrm.cells = 0) (hs0 : yrm.slots = 0)
    (hr : ∀ T', own_Sx n0 K T' h cl sl → own_Fin n0 K P T' pc' L (rest)) : own_Fin n0 K P T pc L S := by
  have hcs : cl ≤ rm.cells ∧ sl ≤ rm.slots := by
    obtain ⟨p, l, e, R, s, m, args, below, meth, c⟩ := K
    obtain ⟨hx, hby, hml, hown, hret, hlk, hZ, rfl, hw⟩ := M
    obtain ⟨locs, X, hN, eT, hn, hcl, hsl⟩ := X
    exact ⟨hcl, hsl⟩
  refine own_callS M X argsL w1 w2 w3 w4 hy hM hL hd hp hpd hlen hS W hW hf hl (by rw [hc0]; exact hcs.1) (by rw [hs0]; exact hcs.2) ?_
  rintro T' h' v X' ⟨rfl, rfl⟩
  rw [hc0, hs0] at X'
  exact hr T' X'
/-! arrays: n places, place j holds f j -/
def own_Va (Z : State) (h : Heap) (a : Addr) (ty : FieldType) (n : Nat) (f : Nat → Value) : Prop :=
  ∃ c : Cell, Arr Z h a c ty ∧ c.slots.size = n ∧ n < 2 ^ 31 ∧ (∀ j, j < n → c.slots[j]? = some (f j)) ∧ ∀ j, j < n → fits ty (f j) = true
def own_upd (f : Nat → Value) (i : Nat) (v : Value) : Nat → Value := fun j => if j = i then v else f j
theorem own_Va.lt {a : Addr} {ty : FieldType} {n : Nat} {f : Nat → Value} (V : own_Va Z h a ty n f) : a < h.size := by obtain ⟨c, A, -⟩ := V; exact A.lt
theorem own_Va.small {a : Addr} {ty : FieldType} {n : Nat} {f : Nat → Value} (V : own_Va Z h a ty n f) : n < 2 ^ 31 := by obtain ⟨c, A, -, q, -⟩ := V; exact q
theorem own_Va.ext {h' : Heap} {a : Addr} {ty : FieldType} {n : Nat} {f : Nat → Value} (V : own_Va Z h a ty n f) (E : Ext h h') : own_Va Z h' a ty n f := by obtain ⟨c, A, r⟩ := V; exact ⟨c, A.ext E, r⟩
theorem own_Va.keep {h' : Heap} {ws : List Addr} {a : Addr} {ty : FieldType} {n : Nat} {f : Nat → Value} (V : own_Va Z h a ty n f) (K : Keep h h' ws) (q : a ∉ ws) : own_Va Z h' a ty n f := by obtain ⟨c, A, r⟩ := V; exact ⟨c, ⟨K.2.1 a c A.1 q, A.2⟩, r⟩
theorem own_Va.congr {a : Addr} {ty : FieldType} {n : Nat} {f g : Nat → Value} (V : own_Va Z h a ty n f) (q : ∀ j, j < n → f j = g j) : own_Va Z h a ty n g := by
  obtain ⟨c, A, r1, r2, r3, r4⟩ := V
  exact ⟨c, A, r1, r2, fun j hj => by rw [← q j hj]; exact r3 j hj, fun j hj => by rw [← q j hj]; exact r4 j hj⟩
theorem own_Va.wr {h' : Heap} {a : Addr} {ty : FieldType} {n i : Nat} {f : Nat → Value} {v : Value} (V : own_Va Z h a ty n f) (W : Wr h h' a i v) (hf : fits ty v = true) : own_Va Z h' a ty n (own_upd f i v) := by
  obtain ⟨c, A, r1, r2, r3, r4⟩ := V
  refine ⟨c.setSlot i v, A.same W, by rw [sz_set]; exact r1, r2, fun j hj => ?_, fun j hj => ?_⟩
  · have hj' : j < c.slots.size := by omega
    by_cases q : j = i
    · subst q; simp [Cell.setSlot, own_upd, hj']
    · have q' : ¬ i = j := fun z => q z.symm
      simp only [Cell.setSlot, own_upd, if_neg q, Array.getElem?_setIfInBounds, if_neg q']
      exact r3 j hj
  · by_cases q : j = i
    · simp only [own_upd, if_pos q]; exact hf
    · simp only [own_upd, if_neg q]; exact r4 j hj
theorem own_upd_eq {f : Nat → Value} {i : Nat} {v : Value} : own_upd f i v i = v := if_pos rfl
theorem own_upd_ne {f : Nat → Value} {i j : Nat} {v : Value} (q : j ≠ i) : own_upd f i v j = f j := if_neg q
/-- an array of ints (bytes) by the list of its values; of longs -/
def own_lsi (ws : List Int32) : Nat → Value := fun j => .int (ws.getD j 0)
def own_lsj (ws : List Int64) : Nat → Value := fun j => .long (ws.getD j 0)
theorem own_zeroi {ty : FieldType} (ws : List Int32) (n : Nat) (hw : ws = List.replicate n 0) (hd : defaultValue ty = .int 0 := by rfl) : ∀ j, j < n → (fun _ : Nat => defaultValue ty) j = own_lsi ws j := fun j hj => by
  show defaultValue ty = .int (ws.getD j 0)
  rw [hw, hd]; simp [List.getD, hj]
theorem own_zeroj {ty : FieldType} (ws : List Int64) (n : Nat) (hw : ws = List.replicate n 0) (hd : defaultValue ty = .long 0 := by rfl) : ∀ j, j < n → (fun _ : Nat => defaultValue ty) j = own_lsj ws j := fun j hj => by
  show defaultValue ty = .long (ws.getD j 0)
  rw [hw, hd]; simp [List.getD, hj]
theorem own_seti {ws ws' : List Int32} {i n : Nat} {v : Int32} (hs : ws.set i v = ws') (hi : i < ws.length) : ∀ j, j < n → own_upd (own_lsi ws) i (.int v) j = own_lsi ws' j := fun j hj => by
  subst hs
  by_cases q : j = i
  · subst q; simp [own_upd, own_lsi, List.getD, hi]
  · have q' : ¬ i = j := fun z => q z.symm
    simp [own_upd, own_lsi, List.getD, q, q']
theorem own_setj {ws ws' : List Int64} {i n : Nat} {v : Int64} (hs : ws.set i v = ws') (hi : i < ws.length) : ∀ j, j < n → own_upd (own_lsj ws) i (.long v) j = own_lsj ws' j := fun j hj => by
  subst hs
  by_cases q : j = i
  · subst q; simp [own_upd, own_lsj, List.getD, hi]
  · have q' : ¬ i = j := fun z => q z.symm
    simp [own_upd, own_lsj, List.getD, q, q']
theorem own_nat {j : Int32} {i : Nat} (hi : j.toInt = i) : j.toNatClampNeg = i := by simp [Int32.toNatClampNeg, hi]
theorem own_inb {c : Cell} {n i : Nat} {j : Int32} (hs : c.slots.size = n) (hi : j.toInt = i) (hin : i < n) : ¬ (j < 0 ∨ c.slots.size ≤ j.toNatClampNeg) := by
  rw [own_nat hi, hs, Int32.lt_iff_toInt_lt, hi, Int32.toInt_zero]; omega
theorem own_baload (M : own_Mx Z a0 K code own mx ret rm) (X : own_Sx n0 K T h cl sl) {a : Addr} {n i : Nat} {f : Nat → Value} {j : Int32} {v : Value} (V : own_Va Z h a .byte n f) (hi : j.toInt = i) (hin : i < n) (hv : f i = v) (hd : decode code pc = .ok (.baload, 1)) (hp : pc + 1 = pc') (hr : own_Fin n0 K P T pc' L (v :: S)) : own_Fin n0 K P T pc L (.int j :: .ref a :: S) := by
  obtain ⟨p, l, e, R, s, m, args, below, meth, c⟩ := K
  obtain ⟨hx, hby, hml, hown, hret, hlk, hZ, rfl, hw⟩ := M
  obtain ⟨locs, X, hN, eT, hn, hcl, hsl⟩ := X
  obtain ⟨s2, o2, st, r⟩ := hr
  obtain ⟨cc, A, hs, hlt, hg, -⟩ := V
  subst hp hv
  exact ⟨s2, o2, X.baloadBytes hx (j := j) (v := f i) (by rw [eT]; exact A.1) (State.isArrayOf_alike hZ.alike A.2.1) A.2.2 (own_inb hs hi hin) (by rw [own_nat hi]; exact hg i hin) (g := mkF m pc L (.int j :: .ref a :: S)) rfl rfl (hb hby hd) _ st, r⟩
theorem own_iaload (M : own_Mx Z a0 K code own mx ret rm) (X : own_Sx n0 K T h cl sl) {a : Addr} {n i : Nat} {f : Nat → Value} {j : Int32} {v : Value} (V : own_Va Z h a .int n f) (hi : j.toInt = i) (hin : i < n) (hv : f i = v) (hd : decode code pc = .ok (.iaload, 1)) (hp : pc + 1 = pc') (hr : own_Fin n0 K P T pc' L (v :: S)) : own_Fin n0 K P T pc L (.int j :: .ref a :: S) := by
  obtain ⟨p, l, e, R, s, m, args, below, meth, c⟩ := K
  obtain ⟨hx, hby, hml, hown, hret, hlk, hZ, rfl, hw⟩ := M
  obtain ⟨locs, X, hN, eT, hn, hcl, hsl⟩ := X
  obtain ⟨s2, o2, st, r⟩ := hr
  obtain ⟨cc, A, hs, hlt, hg, -⟩ := V
  subst hp hv
  exact ⟨s2, o2, X.iaload hx (j := j) (v := f i) (by rw [eT]; exact A.1) (State.isArrayOf_alike hZ.alike A.2.1) A.2.2 (own_inb hs hi hin) (by rw [own_nat hi]; exact hg i hin) (g := mkF m pc L (.int j :: .ref a :: S)) rfl rfl (hb hby hd) _ st, r⟩
theorem own_laload (M : own_Mx Z a0 K code own mx ret rm) (X : own_Sx n0 K T h cl sl) {a : Addr} {n i : Nat} {f : Nat → Value} {j : Int32} {v : Value} (V : own_Va Z h a .long n f) (hi : j.toInt = i) (hin : i < n) (hv : f i = v) (hd : decode code pc = .ok (.laload, 1)) (hp : pc + 1 = pc') (hr : own_Fin n0 K P T pc' L (v :: S)) : own_Fin n0 K P T pc L (.int j :: .ref a :: S) := by
  obtain ⟨p, l, e, R, s, m, args, below, meth, c⟩ := K
  obtain ⟨hx, hby, hml, hown, hret, hlk, hZ, rfl, hw⟩ := M
  obtain ⟨locs, X, hN, eT, hn, hcl, hsl⟩ := X
  obtain ⟨s2, o2, st, r⟩ := hr
  obtain ⟨cc, A, hs, hlt, hg, -⟩ := V
  subst hp hv
  exact ⟨s2, o2, X.laload hx (j := j) (v := f i) (by rw [eT]; exact A.1) (State.isArrayOf_alike hZ.alike A.2.1) A.2.2 (own_inb hs hi hin) (by rw [own_nat hi]; exact hg i hin) (g := mkF m pc L (.int j :: .ref a :: S)) rfl rfl (hb hby hd) _ st, r⟩
theorem own_bastore (M : own_Mx Z a0 K code own mx ret rm) (X : own_Sx n0 K T h cl sl) {a : Addr} {n i : Nat} {f : Nat → Value} {j : Int32} {x : Int32} (V : own_Va Z h a .byte n f) (hga : n0 ≤ a) (hi : j.toInt = i) (hin : i < n) (hd : decode code pc = .ok (.bastore, 1)) (hp : pc + 1 = pc') (hr : ∀ T' h', own_Sx n0 K T' h' cl sl → Keep h h' [a] → own_Va Z h' a .byte n (own_upd f i (.int x.toInt8.toInt32)) → own_Fin n0 K P T' pc' L S) : own_Fin n0 K P T pc L (.int x :: .int j :: .ref a :: S) := by
  obtain ⟨p, l, e, R, s, m, args, below, meth, c⟩ := K
  obtain ⟨hx, hby, hml, hown, hret, hlk, hZ, rfl, hw⟩ := M
  obtain ⟨locs, X, hN, eT, hn, hcl, hsl⟩ := X
  have V0 := V
  obtain ⟨cc, A, hs, hlt, hg, -⟩ := V
  obtain ⟨T1, h1, X1, e1, W1, st⟩ := stB X hx hZ eT A (j := j) (own_inb hs hi hin) (g := mkF m pc L (.int x :: .int j :: .ref a :: S)) rfl rfl (hb hby hd)
  rw [own_nat hi] at W1 X1
  subst hp
  obtain ⟨s2, o2, st2, r⟩ := hr T1 h1 ⟨_, X1, Fr.snoc X1 hN hga, e1, hn, hcl, hsl⟩ (Keep.of_wr W1) (V0.wr W1 (fits_nar_byte x))
  exact ⟨s2, o2, st _ st2, r⟩
theorem own_iastore (M : own_Mx Z a0 K code own mx ret rm) (X : own_Sx n0 K T h cl sl) {a : Addr} {n i : Nat} {f : Nat → Value} {j : Int32} {x : Int32} (V : own_Va Z h a .int n f) (hga : n0 ≤ a) (hi : j.toInt = i) (hin : i < n) (hd : decode code pc = .ok (.iastore, 1)) (hp : pc + 1 = pc') (hr : ∀ T' h', own_Sx n0 K T' h' cl sl → Keep h h' [a] → own_Va Z h' a .int n (own_upd f i (.int x)) → own_Fin n0 K P T' pc' L S) : own_Fin n0 K P T pc L (.int x :: .int j :: .ref a :: S) := by
  obtain ⟨p, l, e, R, s, m, args, below, meth, c⟩ := K
  obtain ⟨hx, hby, hml, hown, hret, hlk, hZ, rfl, hw⟩ := M
  obtain ⟨locs, X, hN, eT, hn, hcl, hsl⟩ := X
  have V0 := V
  obtain ⟨cc, A, hs, hlt, hg, -⟩ := V
  obtain ⟨T1, h1, X1, e1, W1, st⟩ := stI X hx hZ eT A (j := j) (own_inb hs hi hin) (g := mkF m pc L (.int x :: .int j :: .ref a :: S)) rfl rfl (hb hby hd)
  rw [own_nat hi] at W1 X1
  subst hp
  obtain ⟨s2, o2, st2, r⟩ := hr T1 h1 ⟨_, X1, Fr.snoc X1 hN hga, e1, hn, hcl, hsl⟩ (Keep.of_wr W1) (V0.wr W1 rfl)
  exact ⟨s2, o2, st _ st2, r⟩
theorem own_lastore (M : own_Mx Z a0 K code own mx ret rm) (X : own_Sx n0 K T h cl sl) {a : Addr} {n i : Nat} {f : Nat → Value} {j : Int32} {x : Int64} (V : own_Va Z h a .long n f) (hga : n0 ≤ a) (hi : j.toInt = i) (hin : i < n) (hd : decode code pc = .ok (.lastore, 1)) (hp : pc + 1 = pc') (hr : ∀ T' h', own_Sx n0 K T' h' cl sl → Keep h h' [a] → own_Va Z h' a .long n (own_upd f i (.long x)) → own_Fin n0 K P T' pc' L S) : own_Fin n0 K P T pc L (.long x :: .int j :: .ref a :: S) := by
  obtain ⟨p, l, e, R, s, m, args, below, meth, c⟩ := K
  obtain ⟨hx, hby, hml, hown, hret, hlk, hZ, rfl, hw⟩ := M
  obtain ⟨locs, X, hN, eT, hn, hcl, hsl⟩ := X
  have V0 := V
  obtain ⟨cc, A, hs, hlt, hg, -⟩ := V
  obtain ⟨T1, h1, X1, e1, W1, st⟩ := stJ X hx hZ eT A (j := j) (own_inb hs hi hin) (g := mkF m pc L (.long x :: .int j :: .ref a :: S)) rfl rfl (hb hby hd)
  rw [own_nat hi] at W1 X1
  subst hp
  obtain ⟨s2, o2, st2, r⟩ := hr T1 h1 ⟨_, X1, Fr.snoc X1 hN hga, e1, hn, hcl, hsl⟩ (Keep.of_wr W1) (V0.wr W1 rfl)
  exact ⟨s2, o2, st _ st2, r⟩
theorem own_arraylength (M : own_Mx Z a0 K code own mx ret rm) (X : own_Sx n0 K T h cl sl) {a : Addr} {ty : FieldType} {n : Nat} {f : Nat → Value} {z : Int32} (V : own_Va Z h a ty n f) (hz : z.toInt = n) (hd : decode code pc = .ok (.arraylength, 1)) (hp : pc + 1 = pc') (hr : own_Fin n0 K P T pc' L (.int z :: S)) : own_Fin n0 K P T pc L (.ref a :: S) := by
  obtain ⟨p, l, e, R, s, m, args, below, meth, c⟩ := K
  obtain ⟨hx, hby, hml, hown, hret, hlk, hZ, rfl, hw⟩ := M
  obtain ⟨locs, X, hN, eT, hn, hcl, hsl⟩ := X
  obtain ⟨s2, o2, st, r⟩ := hr
  obtain ⟨cc, A, hs, hlt, hg, -⟩ := V
  subst hp
  have e : cc.slots.size.toInt32 = z := by rw [hs]; exact Int32.toInt_inj.mp (by rw [len_toInt hlt, hz])
  exact ⟨s2, o2, X.arraylength hx (by rw [eT]; exact A.1) (State.isArrayOf_alike hZ.alike A.2.1) (g := mkF m pc L (.ref a :: S)) rfl rfl (hb hby hd) _ (by rw [e]; exact st), r⟩
theorem own_newarray (M : own_Mx Z a0 K code own mx ret rm) (X : own_Sx n0 K T h cl sl) {aty : ArrayType} {nn : Int32} {n : Nat} (cap : Nat) (w : (Jvm.Cond.arrayClass (newarray.typeOf aty)).before a0 Z = true) (hd : decode code pc = .ok (.newarray aty, 2)) (hp : pc + 2 = pc') (hnn : nn.toInt = n) (hcap : n ≤ cap) (hb8 : cap * 8 ≤ 536870912) (hc : cl + 1 ≤ rm.cells) (hs : sl + cap ≤ rm.slots)
    (hr : ∀ T' h' a, n0 ≤ a → h.size ≤ a → own_Sx n0 K T' h' (cl + 1) (sl + cap) → Ext h h' → own_Va Z h' a (newarray.typeOf aty) n (fun _ => defaultValue (newarray.typeOf aty)) → own_Fin n0 K P T' pc' L (.ref a :: S)) : own_Fin n0 K P T pc L (.int nn :: S) := by
  have hsz := X.size
  obtain ⟨p, l, e, R, s, m, args, below, meth, c⟩ := K
  obtain ⟨hx, hby, hml, hown, hret, hlk, hZ, rfl, hw⟩ := M
  obtain ⟨locs, X, hN, eT, hn, hcl, hsl⟩ := X
  obtain ⟨T1, h1, cA, X1, e1, E1, A1, st⟩ := newP X hx hZ w eT (g := mkF m pc L (.int nn :: S)) rfl (hb hby hd) rfl (by rw [Int32.lt_iff_toInt_lt, hnn, Int32.toInt_zero]; omega) (cap := cap) (by rw [own_nat hnn]; exact hcap) hb8 hc hs
  subst hp
  obtain ⟨s2, o2, st2, r⟩ := hr T1 h1 h.size hsz (Nat.le_refl _) ⟨_, X1, hN, e1, hn, hc, hs⟩ E1 ⟨_, A1, by rw [sz_new, own_nat hnn], by omega, fun j hj => by simp [newA, own_nat hnn, hj], fun j hj => by cases aty <;> rfl⟩
  exact ⟨s2, o2, st _ st2, r⟩
theorem own_new (M : own_Mx Z a0 K code own mx ret rm) (X : own_Sx n0 K T h cl sl) {C : String} {idx k : Nat} (w : (Jvm.Cond.classLink own idx C).before a0 Z = true) (wi : (Jvm.Cond.instantiable C k).before a0 Z = true) (wz : (Jvm.Cond.initialized C).before a0 Z = true) (hd : decode code pc = .ok (.new idx, 3)) (hp : pc + 3 = pc') (hc : cl + 1 ≤ rm.cells) (hs : sl + k ≤ rm.slots)
    (hr : ∀ T' h' a, n0 ≤ a → h.size ≤ a → own_Sx n0 K T' h' (cl + 1) (sl + k) → Ext h h' → Exa Z h' a C → (∀ {O nm d : String} {ty : FieldType}, Laid Z a0 C O nm d → parseFieldDescriptor d = some ty → Fld Z h' a O nm d (defaultValue ty)) → own_Fin n0 K P T' pc' L (.ref a :: S)) : own_Fin n0 K P T pc L S := by
  have hsz := X.size
  obtain ⟨p, l, e, R, s, m, args, below, meth, c⟩ := K
  obtain ⟨hx, hby, hml, hown, hret, hlk, hZ, rfl, hw⟩ := M
  obtain ⟨locs, X, hN, eT, hn, hcl, hsl⟩ := X
  obtain ⟨T1, h1, X1, e1, E1, A1, D1, -, st⟩ := newO X hx hZ hown w wi wz eT (g := mkF m pc L S) rfl (hb hby hd) hc hs
  subst hp
  obtain ⟨s2, o2, st2, r⟩ := hr T1 h1 h.size hsz (Nat.le_refl _) ⟨_, X1, hN, e1, hn, hc, hs⟩ E1 A1 D1
  exact ⟨s2, o2, st _ st2, r⟩
theorem own_getfield (M : own_Mx Z a0 K code own mx ret rm) (X : own_Sx n0 K T h cl sl) {O nm d : String} {idx : Nat} {a : Addr} {v : Value} (w : (Jvm.Cond.fieldLink own idx O nm d).before a0 Z = true) (F : Fld Z h a O nm d v) (hd : decode code pc = .ok (.getfield idx, 3)) (hp : pc + 3 = pc') (hr : ∀ T', own_Sx n0 K T' h cl sl → own_Fin n0 K P T' pc' L (v :: S)) : own_Fin n0 K P T pc L (.ref a :: S) := by
  obtain ⟨p, l, e, R, s, m, args, below, meth, c⟩ := K
  obtain ⟨hx, hby, hml, hown, hret, hlk, hZ, rfl, hw⟩ := M
  obtain ⟨locs, X, hN, eT, hn, hcl, hsl⟩ := X
  obtain ⟨T1, X1, e1, st⟩ := getF X hx hZ hown (host := "") (Or.inl w) Via.refl eT F (g := mkF m pc L (.ref a :: S)) rfl rfl (hb hby hd)
  subst hp
  obtain ⟨s2, o2, st2, r⟩ := hr T1 ⟨_, X1, hN, e1, hn, hcl, hsl⟩
  exact ⟨s2, o2, st _ st2, r⟩
theorem own_putfield (M : own_Mx Z a0 K code own mx ret rm) (X : own_Sx n0 K T h cl sl) {O nm d C : String} {idx k : Nat} {a : Addr} {v old : Value} {ty : FieldType} (w : (Jvm.Cond.fieldLink own idx O nm d).before a0 Z = true) (F : Fld Z h a O nm d old) (E : Exa Z h a C) (hL : (Jvm.Cond.lays C O nm d).before a0 Z = true ∨ ((Jvm.Cond.laysFinal C O nm d).before a0 Z = true ∧ own = O ∧ K.2.2.2.2.2.2.2.2.1.name = "<init>")) (wi : (Jvm.Cond.instantiable C k).before a0 Z = true) (hty : parseFieldDescriptor d = some ty) (hnv : narrow ty v = v) (hf : fits ty v = true) (hga : n0 ≤ a) (hd : decode code pc = .ok (.putfield idx, 3)) (hp : pc + 3 = pc')
    (hr : ∀ T' h', own_Sx n0 K T' h' cl sl → Wr h h' a (Jvm.RoadKit.slotOf Z O nm d) v → own_Fin n0 K P T' pc' L S) : own_Fin n0 K P T pc L (v :: .ref a :: S) := by
  obtain ⟨p, l, e, R, s, m, args, below, meth, c⟩ := K
  obtain ⟨hx, hby, hml, hown, hret, hlk, hZ, rfl, hw⟩ := M
  obtain ⟨locs, X, hN, eT, hn, hcl, hsl⟩ := X
  obtain ⟨T1, h1, X1, e1, W1, st⟩ := putF X hx hZ hown (host := "") (Or.inl w) Via.refl eT F E hL wi hty hnv hf (g := mkF m pc L (v :: .ref a :: S)) rfl rfl (hb hby hd)
  subst hp
  obtain ⟨s2, o2, st2, r⟩ := hr T1 h1 ⟨_, X1, Fr.snoc X1 hN hga, e1, hn, hcl, hsl⟩ W1
  exact ⟨s2, o2, st _ st2, r⟩
theorem own_initO (M : own_Mx Z a0 K code own mx ret rm) (X : own_Sx n0 K T h cl sl) {idx : Nat} {a : Addr} (w1 : (Jvm.Cond.methodLink own idx Lib.objectInit).before a0 Z = true) (w2 : (Jvm.Cond.instanceMethod Lib.objectInit).before a0 Z = true) (w3 : (Jvm.Cond.code Lib.objectInit ⟨#[0xb1]⟩ 1 none).before a0 Z = true) (hL : L.size = mx) (hd : decode code pc = .ok (.invokespecial idx, 3)) (hp : pc + 3 = pc') (hf : 1 ≤ rm.frames) (W : Nat) (hW : (S.map fun v => v.category).sum ≤ W) (hl : W + 12 ≤ rm.locals) (hr : ∀ T', own_Sx n0 K T' h cl sl → own_Fin n0 K P T' pc' L S) : own_Fin n0 K P T pc L (.ref a :: S) := by
  obtain ⟨p, l, e, R, s, m, args, below, meth, c⟩ := K
  obtain ⟨hx, hby, hml, hown, hret, hlk, hZ, rfl, hw⟩ := M
  obtain ⟨locs, X, hN, eT, hn, hcl, hsl⟩ := X
  obtain ⟨T1, X1, e1, st⟩ := initO X hx hZ hown w1 w2 w3 eT (g := mkF m pc L (.ref a :: S)) rfl (by rw [hml]; exact hL) rfl (hb hby hd) hf (W := W) (by show 2 * 0 + _ ≤ W; omega) hl
  subst hp
  obtain ⟨s2, o2, st2, r⟩ := hr T1 ⟨_, X1, hN, e1, hn, hcl, hsl⟩
  exact ⟨s2, o2, st _ st2, r⟩
theorem own_callN (M : own_Mx Z a0 K code own mx ret rm) (X : own_Sx n0 K T h cl sl) {y : MethodName} {ycode : ByteArray} {ymx : Nat} {yret : Option FieldType} {yrm : Room} {idx : Nat} {Q : Option Value → Heap → Prop} {ps : List FieldType} {yr : Option FieldType} {a : Addr} (argsL : List Value)
    (w1 : (Jvm.Cond.methodLink own idx y).before a0 Z = true) (w2 : (Jvm.Cond.instanceMethod y).before a0 Z = true) (w3 : (Jvm.Cond.initialized y.cls).before a0 Z = true) (w4 : (Jvm.Cond.code y ycode ymx yret).before a0 Z = true) (hy : y.cls ≠ "java/lang/invoke/MethodHandle" ∧ y.cls ≠ "java/lang/invoke/VarHandle") (hnm : y.name = "<init>") (hnr : yret = none)
    (hM : own_Met K.2.1 Z n0 y ycode ymx yret yrm (.ref a :: argsL).toArray h Q) (hL : L.size = mx) (hd : decode code pc = .ok (.invokespecial idx, 3)) (hp : pc + 3 = pc') (hpd : parseMethodDescriptor y.desc = some ⟨ps, yr⟩) (hlen : argsL.length = ps.length) (hS : S = argsL.reverse ++ .ref a :: rest)
    (W : Nat) (hW : (rest.map fun v => v.category).sum ≤ W) (hf : yrm.frames + 1 ≤ rm.frames) (hl : W + (ymx + 11) + yrm.locals ≤ rm.locals) (hc : cl + yrm.cells ≤ rm.cells) (hs : sl + yrm.slots ≤ rm.slots)
    (hr : ∀ T' h' v, own_Sx n0 K T' h' (cl + yrm.cells) (sl + yrm.slots) → Q v h' → own_Fin n0 K P T' pc' L (v.toList ++ rest)) : own_Fin n0 K P T pc L S := by
  obtain ⟨p, l, e, R, s, m, args, below, meth, c⟩ := K
  obtain ⟨hx, hby, hml, hown, hret, hlk, hZ, rfl, hw⟩ := M
  obtain ⟨locs, X, hN, eT, hn, hcl, hsl⟩ := X
  subst hnr
  obtain ⟨v, vm1, ⟨T1, L1, k1, n1⟩, -, X1, ⟨Lc, hQ, l1, y1, z1⟩, st⟩ := X.specialBack hx (y := y) hnm hown (mvT hZ w1) (mvT hZ w2) (mvT hZ w4) hy (backOf (W := W) (Q := fun v h L => Q v h ∧ Fr n0 L) (hM []) hZ w4 w3 hf hl) (g := mkF m pc L S) rfl (by rw [hml]; exact hL) (Steps.refl _) (a := a) (argsL := argsL) (rest := rest) (lenOf hpd hlen) hS (by show 2 * 0 + _ ≤ W; omega) (hb hby hd) (fun _ _ => ⟨rfl, eT, hc, hs⟩)
  dsimp only [Pt.U, Pt.locs, Pt.cells, Pt.slots] at X1 l1 y1 z1 st hQ
  subst l1 y1 z1 hp
  obtain ⟨s2, o2, st2, r⟩ := hr T1 _ v ⟨_, X1, Fr.app hN hQ.2, rfl, hn, hc, hs⟩ hQ.1
  exact ⟨s2, o2, st.trans st2, r⟩
theorem own_callV (M : own_Mx Z a0 K code own mx ret rm) (X : own_Sx n0 K T h cl sl) {y : MethodName} {ycode : ByteArray} {ymx : Nat} {yret : Option FieldType} {yrm : Room} {idx : Nat} {Q : Option Value → Heap → Prop} {ps : List FieldType} {yr : Option FieldType} {a : Addr} (argsL : List Value)
    (w1 : (Jvm.Cond.methodLink own idx y).before a0 Z = true) (w2 : (Jvm.Cond.instanceMethod y).before a0 Z = true) (w5 : (Jvm.Cond.declares y).before a0 Z = true) (w6 : (Jvm.Cond.selects y.cls y y).before a0 Z = true) (w3 : (Jvm.Cond.initialized y.cls).before a0 Z = true) (w4 : (Jvm.Cond.code y ycode ymx yret).before a0 Z = true) (hy : y.cls ≠ "java/lang/invoke/MethodHandle" ∧ y.cls ≠ "java/lang/invoke/VarHandle") (E : Exa Z h a y.cls)
    (hM : own_Met K.2.1 Z n0 y ycode ymx yret yrm (.ref a :: argsL).toArray h Q) (hL : L.size = mx) (hd : decode code pc = .ok (.invokevirtual idx, 3)) (hp : pc + 3 = pc') (hpd : parseMethodDescriptor y.desc = some ⟨ps, yr⟩) (hlen : argsL.length = ps.length) (hS : S = argsL.reverse ++ .ref a :: rest)
    (W : Nat) (hW : (rest.map fun v => v.category).sum ≤ W) (hf : yrm.frames + 1 ≤ rm.frames) (hl : W + (ymx + 11) + yrm.locals ≤ rm.locals) (hc : cl + yrm.cells ≤ rm.cells) (hs : sl + yrm.slots ≤ rm.slots)
    (hr : ∀ T' h' v, own_Sx n0 K T' h' (cl + yrm.cells) (sl + yrm.slots) → Q v h' → own_Fin n0 K P T' pc' L (v.toList ++ rest)) : own_Fin n0 K P T pc L S := by
  obtain ⟨p, l, e, R, s, m, args, below, meth, c⟩ := K
  obtain ⟨hx, hby, hml, hown, hret, hlk, hZ, rfl, hw⟩ := M
  obtain ⟨locs, X, hN, eT, hn, hcl, hsl⟩ := X
  obtain ⟨cq, kq, qa, qb, qc⟩ := isOf hZ eT E
  obtain ⟨v, vm1, ⟨T1, L1, k1, n1⟩, -, X1, ⟨Lc, hQ, l1, y1, z1⟩, st⟩ := X.virtualBack hx (y := y) (z := y) hown (mvT hZ w1) (mvT hZ w5) (notFace_of_selects (args := #[]) (mvT hZ w6)) (mvT hZ w6) (mvT hZ w2) hy (backOf (W := W) (Q := fun v h L => Q v h ∧ Fr n0 L) (hM []) hZ w4 w3 hf hl) qa qc (g := mkF m pc L S) rfl (by rw [hml]; exact hL) (Steps.refl _) (argsL := argsL) (rest := rest) (lenOf hpd hlen) hS (by show 2 * 0 + _ ≤ W; omega) (hb hby hd) (fun _ _ => ⟨rfl, eT, hc, hs⟩)
  dsimp only [Pt.U, Pt.locs, Pt.cells, Pt.slots] at X1 l1 y1 z1 st hQ
  subst l1 y1 z1 hp
  obtain ⟨s2, o2, st2, r⟩ := hr T1 _ v ⟨_, X1, Fr.app hN hQ.2, rfl, hn, hc, hs⟩ hQ.1
  exact ⟨s2, o2, st.trans st2, r⟩
theorem own_selPriv {s : State} {args : Array Value} {n : Nat} {y : MethodName} (hins : (Jvm.Cond.instantiable y.cls n).before args s = true) (hpriv : (Jvm.Cond.privateMethod y).before args s = true) (hinst : (Jvm.Cond.instanceMethod y).before args s = true) (hy : y.cls ≠ "java/lang/invoke/MethodHandle" ∧ y.cls ≠ "java/lang/invoke/VarHandle") : (Jvm.Cond.selects y.cls y y).before args s = true := by
  obtain ⟨c, k, hc, hk, -, hniab, -, -⟩ := Cond.instantiable_spec hins
  have hni : k.isInterface = false := (Bool.or_eq_false_iff.mp hniab).1
  obtain ⟨mk, methM, hnamed, hmethM, -, -⟩ := Cond.instanceMethod_spec hinst
  have hfound : s.methodFound? y.cls y.name y.desc = some mk := State.methodFound?_of_named hnamed hy
  have hcls : mk.cls = c := Option.some.inj ((findClass_of_methodNamed hnamed).symm.trans hc)
  have hsel : selectMethod {} s.vm c mk = .method mk := selectMethod_private hmethM (Cond.privateMethod_at hpriv mk methM hnamed hmethM)
  simp only [Cond.before, Cond.holds, Cond.value, hc, hfound, hnamed, hsel, hcls, hk]
  simp; exact hni
theorem own_callPriv (M : own_Mx Z a0 K code own mx ret rm) (X : own_Sx n0 K T h cl sl) {y : MethodName} {ycode : ByteArray} {ymx : Nat} {yret : Option FieldType} {yrm : Room} {idx : Nat} {Q : Option Value → Heap → Prop} {ps : List FieldType} {yr : Option FieldType} {a : Addr} (argsL : List Value)
    (w1 : (Jvm.Cond.methodLink own idx y).before a0 Z = true) (w2 : (Jvm.Cond.instanceMethod y).before a0 Z = true) (w5 : (Jvm.Cond.privateMethod y).before a0 Z = true) {kk : Nat} (w6 : (Jvm.Cond.instantiable y.cls kk).before a0 Z = true) (w3 : (Jvm.Cond.initialized y.cls).before a0 Z = true) (w4 : (Jvm.Cond.code y ycode ymx yret).before a0 Z = true) (hy : y.cls ≠ "java/lang/invoke/MethodHandle" ∧ y.cls ≠ "java/lang/invoke/VarHandle") (E : Exa Z h a y.cls)
    (hM : own_Met K.2.1 Z n0 y ycode ymx yret yrm (.ref a :: argsL).toArray h Q) (hL : L.size = mx) (hd : decode code pc = .ok (.invokevirtual idx, 3)) (hp : pc + 3 = pc') (hpd : parseMethodDescriptor y.desc = some ⟨ps, yr⟩) (hlen : argsL.length = ps.length) (hS : S = argsL.reverse ++ .ref a :: rest)
    (W : Nat) (hW : (rest.map fun v => v.category).sum ≤ W) (hf : yrm.frames + 1 ≤ rm.frames) (hl : W + (ymx + 11) + yrm.locals ≤ rm.locals) (hc : cl + yrm.cells ≤ rm.cells) (hs : sl + yrm.slots ≤ rm.slots)
    (hr : ∀ T' h' v, own_Sx n0 K T' h' (cl + yrm.cells) (sl + yrm.slots) → Q v h' → own_Fin n0 K P T' pc' L (v.toList ++ rest)) : own_Fin n0 K P T pc L S := by
  obtain ⟨p, l, e, R, s, m, args, below, meth, c⟩ := K
  obtain ⟨hx, hby, hml, hown, hret, hlk, hZ, rfl, hw⟩ := M
  obtain ⟨locs, X, hN, eT, hn, hcl, hsl⟩ := X
  obtain ⟨cq, qa, qb⟩ := E.cell
  obtain ⟨v, vm1, ⟨T1, L1, k1, n1⟩, -, X1, ⟨Lc, hQ, l1, y1, z1⟩, st⟩ := X.privateBack hx (y := y) hown (mvT hZ w1) (mvT hZ w2) (own_selPriv (mvT hZ w6) (mvP hZ w5) (mvT hZ w2) hy) (Cond.privateMethod_at (mvP hZ w5 (args := #[]))) (mvT hZ w4) hy (backOf (W := W) (Q := fun v h L => Q v h ∧ Fr n0 L) (hM []) hZ w4 w3 hf hl) (g := mkF m pc L S) rfl (by rw [hml]; exact hL) (Steps.refl _) (a := a) (by rw [eT]; exact qa) qb (argsL := argsL) (rest := rest) (lenOf hpd hlen) hS (by show 2 * 0 + _ ≤ W; omega) (hb hby hd) (fun _ _ => ⟨rfl, eT, hc, hs⟩)
  dsimp only [Pt.U, Pt.locs, Pt.cells, Pt.slots] at X1 l1 y1 z1 st hQ
  subst l1 y1 z1 hp
  obtain ⟨s2, o2, st2, r⟩ := hr T1 _ v ⟨_, X1, Fr.app hN hQ.2, rfl, hn, hc, hs⟩ hQ.1
  exact ⟨s2, o2, st.trans st2, r⟩
theorem own_callNP0 (M : own_Mx Z a0 K code own mx ret rm) (X : own_Sx n0 K T h cl sl) {y : MethodName} {ycode : ByteArray} {ymx : Nat} {yret : Option FieldType} {yrm : Room} {idx : Nat} {ps : List FieldType} {yr : Option FieldType} {a : Addr} (argsL : List Value)
    (w1 : (Jvm.Cond.methodLink own idx y).before a0 Z = true) (w2 : (Jvm.Cond.instanceMethod y).before a0 Z = true) (w3 : (Jvm.Cond.initialized y.cls).before a0 Z = true) (w4 : (Jvm.Cond.code y ycode ymx yret).before a0 Z = true) (hy : y.cls ≠ "java/lang/invoke/MethodHandle" ∧ y.cls ≠ "java/lang/invoke/VarHandle") (hnm : y.name = "<init>") (hnr : yret = none)
    (hM : own_Met K.2.1 Z n0 y ycode ymx yret yrm (.ref a :: argsL).toArray h (fun v h' => v = none ∧ h' = h)) (hL : L.size = mx) (hd : decode code pc = .ok (.invokespecial idx, 3)) (hp : pc + 3 = pc') (hpd : parseMethodDescriptor y.desc = some ⟨ps, yr⟩) (hlen : argsL.length = ps.length) (hS : S = argsL.reverse ++ .ref a :: rest)
    (W : Nat) (hW : (rest.map fun v => v.category).sum ≤ W) (hf : yrm.frames + 1 ≤ rm.frames) (hl : W + (ymx + 11) + yrm.locals ≤ rm.locals) (hc0 : yrm.cells = 0) (hs0 : yrm.slots = 0)
    (hr : ∀ T', own_Sx n0 K T' h cl sl → own_Fin n0 K P T' pc' L (rest)) : own_Fin n0 K P T pc L S := by
  have hcs : cl ≤ rm.cells ∧ sl ≤ rm.slots := by
    obtain ⟨p, l, e, R, s, m, args, below, meth, c⟩ := K
    obtain ⟨hx, hby, hml, hown, hret, hlk, hZ, rfl, hw⟩ := M
    obtain ⟨locs, X, hN, eT, hn, hcl, hsl⟩ := X
    exact ⟨hcl, hsl⟩
  refine own_callN M X argsL w1 w2 w3 w4 hy hnm hnr hM hL hd hp hpd hlen hS W hW hf hl (by rw [hc0]; exact hcs.1) (by rw [hs0]; exact hcs.2) ?_
  rintro T' h' v X' ⟨rfl, rfl⟩
  rw [hc0, hs0] at X'
  exact hr T' X'
theorem own_callVP (M : own_Mx Z a0 K code own mx ret rm) (X : own_Sx n0 K T h cl sl) {y : MethodName} {ycode : ByteArray} {ymx : Nat} {yret : Option FieldType} {yrm : Room} {idx : Nat} {ps : List FieldType} {yr : Option FieldType} {a : Addr} {w : Value} (argsL : List Value)
    (w1 : (Jvm.Cond.methodLink own idx y).before a0 Z = true) (w2 : (Jvm.Cond.instanceMethod y).before a0 Z = true) (w5 : (Jvm.Cond.declares y).before a0 Z = true) (w6 : (Jvm.Cond.selects y.cls y y).before a0 Z = true) (w3 : (Jvm.Cond.initialized y.cls).before a0 Z = true) (w4 : (Jvm.Cond.code y ycode ymx yret).before a0 Z = true) (hy : y.cls ≠ "java/lang/invoke/MethodHandle" ∧ y.cls ≠ "java/lang/invoke/VarHandle") (E : Exa Z h a y.cls)
    (hM : own_Met K.2.1 Z n0 y ycode ymx yret yrm (.ref a :: argsL).toArray h (fun v h' => v = some w ∧ h' = h)) (hL : L.size = mx) (hd : decode code pc = .ok (.invokevirtual idx, 3)) (hp : pc + 3 = pc') (hpd : parseMethodDescriptor y.desc = some ⟨ps, yr⟩) (hlen : argsL.length = ps.length) (hS : S = argsL.reverse ++ .ref a :: rest)
    (W : Nat) (hW : (rest.map fun v => v.category).sum ≤ W) (hf : yrm.frames + 1 ≤ rm.frames) (hl : W + (ymx + 11) + yrm.locals ≤ rm.locals) (hc0 : yrm.cells = 0) (hs0 : yrm.slots = 0)
    (hr : ∀ T', own_Sx n0 K T' h cl sl → own_Fin n0 K P T' pc' L (w :: rest)) : own_Fin n0 K P T pc L S := by
  have hcs : cl ≤ rm.cells ∧ sl ≤ rm.slots := by
    obtain ⟨p, l, e, R, s, m, args, below, meth, c⟩ := K
    obtain ⟨hx, hby, hml, hown, hret, hlk, hZ, rfl, hw⟩ := M
    obtain ⟨locs, X, hN, eT, hn, hcl, hsl⟩ := X
    exact ⟨hcl, hsl⟩
  refine own_callV M X argsL w1 w2 w5 w6 w3 w4 hy E hM hL hd hp hpd hlen hS W hW hf hl (by rw [hc0]; exact hcs.1) (by rw [hs0]; exact hcs.2) ?_
  rintro T' h' v X' ⟨rfl, rfl⟩
  rw [hc0, hs0] at X'
  exact hr T' X'
theorem own_callVP0 (M : own_Mx Z a0 K code own mx ret rm) (X : own_Sx n0 K T h cl sl) {y : MethodName} {ycode : ByteArray} {ymx : Nat} {yret : Option FieldType} {yrm : Room} {idx : Nat} {ps : List FieldType} {yr : Option FieldType} {a : Addr} (argsL : List Value)
    (w1 : (Jvm.Cond.methodLink own idx y).before a0 Z = true) (w2 : (Jvm.Cond.instanceMethod y).before a0 Z = true) (w5 : (Jvm.Cond.declares y).before a0 Z = true) (w6 : (Jvm.Cond.selects y.cls y y).before a0 Z = true) (w3 : (Jvm.Cond.initialized y.cls).before a0 Z = true) (w4 : (Jvm.Cond.code y ycode ymx yret).before a0 Z = true) (hy : y.cls ≠ "java/lang/invoke/MethodHandle" ∧ y.cls ≠ "java/lang/invoke/VarHandle") (E : Exa Z h a y.cls)
    (hM : own_Met K.2.1 Z n0 y ycode ymx yret yrm (.ref a :: argsL).toArray h (fun v h' => v = none ∧ h' = h)) (hL : L.size = mx) (hd : decode code pc = .ok (.invokevirtual idx, 3)) (hp : pc + 3 = pc') (hpd : parseMethodDescriptor y.desc = some ⟨ps, yr⟩) (hlen : argsL.length = ps.length) (hS : S = argsL.reverse ++ .ref a :: rest)
    (W : Nat) (hW : (rest.map fun v => v.category).sum ≤ W) (hf : yrm.frames + 1 ≤ rm.frames) (hl : W + (ymx + 11) + yrm.locals ≤ rm.locals) (hc0 : yrm.cells = 0) (hs0 : yrm.slots = 0)
    (hr : ∀ T', own_Sx n0 K T' h cl sl → own_Fin n0 K P T' pc' L (rest)) : own_Fin n0 K P T pc L S := by
  have hcs : cl ≤ rm.cells ∧ sl ≤ rm.slots := by
    obtain ⟨p, l, e, R, s, m, args, below, meth, c⟩ := K
    obtain ⟨hx, hby, hml, hown, hret, hlk, hZ, rfl, hw⟩ := M
    obtain ⟨locs, X, hN, eT, hn, hcl, hsl⟩ := X
    exact ⟨hcl, hsl⟩
  refine own_callV M X argsL w1 w2 w5 w6 w3 w4 hy E hM hL hd hp hpd hlen hS W hW hf hl (by rw [hc0]; exact hcs.1) (by rw [hs0]; exact hcs.2) ?_
  rintro T' h' v X' ⟨rfl, rfl⟩
  rw [hc0, hs0] at X'
  exact hr T' X'
theorem own_callPrivP (M : own_Mx Z a0 K code own mx ret rm) (X : own_Sx n0 K T h cl sl) {y : MethodName} {ycode : ByteArray} {ymx : Nat} {yret : Option FieldType} {yrm : Room} {idx : Nat} {ps : List FieldType} {yr : Option FieldType} {a : Addr} {w : Value} (argsL : List Value)
    (w1 : (Jvm.Cond.methodLink own idx y).before a0 Z = true) (w2 : (Jvm.Cond.instanceMethod y).before a0 Z = true) (w5 : (Jvm.Cond.privateMethod y).before a0 Z = true) {kk : Nat} (w6 : (Jvm.Cond.instantiable y.cls kk).before a0 Z = true) (w3 : (Jvm.Cond.initialized y.cls).before a0 Z = true) (w4 : (Jvm.Cond.code y ycode ymx yret).before a0 Z = true) (hy : y.cls ≠ "java/lang/invoke/MethodHandle" ∧ y.cls ≠ "java/lang/invoke/VarHandle") (E : Exa Z h a y.cls)
    (hM : own_Met K.2.1 Z n0 y ycode ymx yret yrm (.ref a :: argsL).toArray h (fun v h' => v = some w ∧ h' = h)) (hL : L.size = mx) (hd : decode code pc = .ok (.invokevirtual idx, 3)) (hp : pc + 3 = pc') (hpd : parseMethodDescriptor y.desc = some ⟨ps, yr⟩) (hlen : argsL.length = ps.length) (hS : S = argsL.reverse ++ .ref a :: rest)
    (W : Nat) (hW : (rest.map fun v => v.category).sum ≤ W) (hf : yrm.frames + 1 ≤ rm.frames) (hl : W + (ymx + 11) + yrm.locals ≤ rm.locals) (hc0 : yrm.cells = 0) (hs0 : yrm.slots = 0)
    (hr : ∀ T', own_Sx n0 K T' h cl sl → own_Fin n0 K P T' pc' L (w :: rest)) : own_Fin n0 K P T pc L S := by
  have hcs : cl ≤ rm.cells ∧ sl ≤ rm.slots := by
    obtain ⟨p, l, e, R, s, m, args, below, meth, c⟩ := K
    obtain ⟨hx, hby, hml, hown, hret, hlk, hZ, rfl, hw⟩ := M
    obtain ⟨locs, X, hN, eT, hn, hcl, hsl⟩ := X
    exact ⟨hcl, hsl⟩
  refine own_callPriv M X argsL w1 w2 w5 w6 w3 w4 hy E hM hL hd hp hpd hlen hS W hW hf hl (by rw [hc0]; exact hcs.1) (by rw [hs0]; exact hcs.2) ?_
  rintro T' h' v X' ⟨rfl, rfl⟩
  rw [hc0, hs0] at X'
  exact hr T' X'
theorem own_callPrivP0 (M : own_Mx Z a0 K code own mx ret rm) (X : own_Sx n0 K T h cl sl) {y : MethodName} {ycode : ByteArray} {ymx : Nat} {yret : Option FieldType} {yrm : Room} {idx : Nat} {ps : List FieldType} {yr : Option FieldType} {a : Addr} (argsL : List Value)
    (w1 : (Jvm.Cond.methodLink own idx y).before a0 Z = true) (w2 : (Jvm.Cond.instanceMethod y).before a0 Z = true) (w5 : (Jvm.Cond.privateMethod y).before a0 Z = true) {kk : Nat} (w6 : (Jvm.Cond.instantiable y.cls kk).before a0 Z = true) (w3 : (Jvm.Cond.initialized y.cls).before a0 Z = true) (w4 : (Jvm.Cond.code y ycode ymx yret).before a0 Z = true) (hy : y.cls ≠ "java/lang/invoke/MethodHandle" ∧ y.cls ≠ "java/lang/invoke/VarHandle") (E : Exa Z h a y.cls)
    (hM : own_Met K.2.1 Z n0 y ycode ymx yret yrm (.ref a :: argsL).toArray h (fun v h' => v = none ∧ h' = h)) (hL : L.size = mx) (hd : decode code pc = .ok (.invokevirtual idx, 3)) (hp : pc + 3 = pc') (hpd : parseMethodDescriptor y.desc = some ⟨ps, yr⟩) (hlen : argsL.length = ps.length) (hS : S = argsL.reverse ++ .ref a :: rest)
    (W : Nat) (hW : (rest.map fun v => v.category).sum ≤ W) (hf : yrm.frames + 1 ≤ rm.frames) (hl : W + (ymx + 11) + yrm.locals ≤ rm.locals) (hc0 : yrm.cells = 0) (hs0 : yrm.slots = 0)
    (hr : ∀ T', own_Sx n0 K T' h cl sl → own_Fin n0 K P T' pc' L (rest)) : own_Fin n0 K P T pc L S := by
  have hcs : cl ≤ rm.cells ∧ sl ≤ rm.slots := by
    obtain ⟨p, l, e, R, s, m, args, below, meth, c⟩ := K
    obtain ⟨hx, hby, hml, hown, hret, hlk, hZ, rfl, hw⟩ := M
    obtain ⟨locs, X, hN, eT, hn, hcl, hsl⟩ := X
    exact ⟨hcl, hsl⟩
  refine own_callPriv M X argsL w1 w2 w5 w6 w3 w4 hy E hM hL hd hp hpd hlen hS W hW hf hl (by rw [hc0]; exact hcs.1) (by rw [hs0]; exact hcs.2) ?_
  rintro T' h' v X' ⟨rfl, rfl⟩
  rw [hc0, hs0] at X'
  exact hr T' X'
theorem own_Va.arv {a : Addr} {ty : FieldType} {n : Nat} {f : Nat → Value} (V : own_Va Z h a ty n f) : ∃ k, ∀ dv, Arv Z h a k ty (Int32.ofNat n) ((List.range n).map f) dv := by
  obtain ⟨c, A, r1, r2, r3, r4⟩ := V
  have e : (Int32.ofNat n).toInt = n := Int32.toInt_ofNat_of_lt r2
  have g : ∀ dv j, j < n → ((List.range n).map f).getD j dv = f j := fun dv j hj => by simp [List.getD, hj]
  refine ⟨c.cls, fun dv => ⟨c, A, rfl, by rw [own_nat e]; exact r1, by rw [Int32.lt_iff_toInt_lt, e, Int32.toInt_zero]; omega, fun j hj => ?_, fun j hj => ?_⟩⟩
  · rw [g dv j (by omega)]; exact r3 j (by omega)
  · rw [g dv j (by omega)]; exact r4 j (by omega)
theorem own_Va.of_arv {a : Addr} {ty : FieldType} {n : Nat} {k : ClassId} {z : Int32} {vs : List Value} {dv : Value} {f : Nat → Value} (V : Arv Z h a k ty z vs dv) (hz : z.toInt = n) (hf : ∀ j, j < n → vs.getD j dv = f j) : own_Va Z h a ty n f := by
  obtain ⟨c, A, -, S, -, H, G⟩ := V
  rw [own_nat hz] at S
  exact ⟨c, A, S, by have := z.toInt_lt; omega, fun j hj => by rw [← hf j hj]; exact H j (by omega), fun j hj => by rw [← hf j hj]; exact G j (by omega)⟩
theorem own_cpl {α : Type} (f g : Nat → α) (na nb i j k t : Nat) (h4 : i + k ≤ na) (h5 : j + k ≤ nb) (ht : t < nb) (d : α) :
    (((List.range nb).map g).take j ++ (List.range k).map (fun q => ((List.range na).map f).getD (i + q) d) ++ ((List.range nb).map g).drop (j + k)).getD t d = if j ≤ t ∧ t < j + k then f (i + (t - j)) else g t := by
  have e1 : min j nb = j := by omega
  rw [List.getD_eq_getElem?_getD, List.getElem?_append, List.getElem?_append]
  simp only [List.length_append, List.length_take, List.length_map, List.length_range, e1]
  by_cases q1 : t < j
  · have n1 : ¬ (j ≤ t ∧ t < j + k) := by omega
    have n2 : t < j + k := by omega
    rw [if_neg n1, if_pos n2, if_pos q1, List.getElem?_take, if_pos q1]
    simp [ht]
  · by_cases q2 : t < j + k
    · have n1 : j ≤ t ∧ t < j + k := by omega
      have n2 : t - j < k := by omega
      have n3 : i + (t - j) < na := by omega
      rw [if_pos n1, if_pos q2, if_neg q1]
      simp [n2, n3]
    · have n1 : ¬ (j ≤ t ∧ t < j + k) := by omega
      have n3 : j + k + (t - (j + k)) = t := by omega
      rw [if_neg n1, if_neg q2, List.getElem?_drop, n3]
      simp [ht]
theorem own_arraycopy (M : own_Mx Z a0 K code own mx ret rm) (X : own_Sx n0 K T h cl sl) {idx : Nat} {a b : Addr} {ty : FieldType} {na nb i j k : Nat} {f g : Nat → Value} {sp dp nn : Int32}
    (w1 : (Jvm.Cond.methodLink own idx Jvm.Stand.acN).before a0 Z = true) (w2 : (Jvm.Cond.native Jvm.Stand.acN).before a0 Z = true) (w3 : (Jvm.Cond.static Jvm.Stand.acN).before a0 Z = true) (w4 : (Jvm.Cond.initialized "java/lang/System").before a0 Z = true)
    (A : own_Va Z h a ty na f) (B : own_Va Z h b ty nb g) (hty : refKind ty = false) (hsp : sp.toInt = i) (hdp : dp.toInt = j) (hnn : nn.toInt = k) (h4 : i + k ≤ na) (h5 : j + k ≤ nb) (hgb : n0 ≤ b) (hL : L.size = mx) (hd : decode code pc = .ok (.invokestatic idx, 3)) (hp : pc + 3 = pc')
    (hf : 1 ≤ rm.frames) (W : Nat) (hW : (S.map fun v => v.category).sum ≤ W) (hlo : W + 18 ≤ rm.locals)
    (hr : ∀ T' h', own_Sx n0 K T' h' cl sl → Keep h h' [b] → own_Va Z h' b ty nb (fun t => if j ≤ t ∧ t < j + k then f (i + (t - j)) else g t) → own_Fin n0 K P T' pc' L S) : own_Fin n0 K P T pc L (.int nn :: .int dp :: .ref b :: .int sp :: .ref a :: S) := by
  obtain ⟨p, l, e, R, s, m, args, below, meth, c⟩ := K
  obtain ⟨hx, hby, hml, hown, hret, hlk, hZ, rfl, hw⟩ := M
  obtain ⟨locs, X, hN, eT, hn, hcl, hsl⟩ := X
  have sa := A.small
  have sb := B.small
  obtain ⟨ka, A⟩ := A.arv
  obtain ⟨kb, B⟩ := B.arv
  have ea : (Int32.ofNat na).toInt = na := Int32.toInt_ofNat_of_lt sa
  have eb : (Int32.ofNat nb).toInt = nb := Int32.toInt_ofNat_of_lt sb
  have nneg : ∀ {x : Int32} {q : Nat}, x.toInt = q → ¬ x < 0 := fun {x q} z => by rw [Int32.lt_iff_toInt_lt, z, Int32.toInt_zero]; omega
  obtain ⟨T1, h1, L1, X1, e1, N1, K1, B1, st⟩ := cpA X hx hZ hown w1 w2 w3 w4 eT (A .null) (B .null) (Or.inl ⟨rfl, hty⟩) (nneg hsp) (nneg hdp) (nneg hnn) (by rw [own_nat hsp, own_nat hnn, own_nat ea]; exact h4) (by rw [own_nat hdp, own_nat hnn, own_nat eb]; exact h5) rfl (by simp [own_nat hdp, own_nat hnn]; exact h5) hN hgb (g := mkF m pc L (.int nn :: .int dp :: .ref b :: .int sp :: .ref a :: S)) rfl (by rw [hml]; exact hL) rfl (hb hby hd) hf (W := W) (by show 2 * 0 + _ ≤ W; omega) hlo
  subst hp
  obtain ⟨s2, o2, st2, r⟩ := hr T1 h1 ⟨_, X1, N1, e1, hn, hcl, hsl⟩ K1 (own_Va.of_arv B1 eb (fun t ht => by
    rw [own_nat hsp, own_nat hdp, own_nat hnn]
    exact own_cpl f g na nb i j k t h4 h5 ht .null))
  exact ⟨s2, o2, st _ st2, r⟩
end OwnLayer
theorem own_pd0 : parseMethodDescriptor "(II)I" = some ⟨[.int, .int], some .int⟩ := by decide +kernel
theorem own_pd1 : parseMethodDescriptor "([JI)[J" = some ⟨[(.array .long), .int], some (.array .long)⟩ := by decide +kernel
theorem own_pd2 : parseMethodDescriptor "(ZIZII)Z" = some ⟨[.boolean, .int, .boolean, .int, .int], some .boolean⟩ := by decide +kernel
theorem own_pd3 : parseMethodDescriptor "()V" = some ⟨[], none⟩ := by decide +kernel
theorem own_pd4 : parseMethodDescriptor "(I)V" = some ⟨[.int], none⟩ := by decide +kernel
theorem own_pd5 : parseMethodDescriptor "(I)Z" = some ⟨[.int], some .boolean⟩ := by decide +kernel
theorem own_pd6 : parseMethodDescriptor "(ZIZIII)Z" = some ⟨[.boolean, .int, .boolean, .int, .int, .int], some .boolean⟩ := by decide +kernel
theorem d8_0 : decode jdk_29_method_65_code 0 = .ok (.iload_n 0, 1) := by decide +kernel
theorem d8_1 : decode jdk_29_method_65_code 1 = .ok (.iload_n 1, 1) := by decide +kernel
theorem d8_2 : decode jdk_29_method_65_code 2 = .ok (.if_icmp .lt 7, 3) := by decide +kernel
theorem d8_5 : decode jdk_29_method_65_code 5 = .ok (.iload_n 0, 1) := by decide +kernel
theorem d8_6 : decode jdk_29_method_65_code 6 = .ok (.goto 4, 3) := by decide +kernel
theorem d8_9 : decode jdk_29_method_65_code 9 = .ok (.iload_n 1, 1) := by decide +kernel
theorem d8_10 : decode jdk_29_method_65_code 10 = .ok (.ireturn, 1) := by decide +kernel
def F8 (x0 : Int32) (x1 : Int32) : Int32 := (if x0 < x1 then x1 else x0)
set_option maxRecDepth 65536 in
set_option maxHeartbeats 40000000 in
theorem met_8 (l : Launch) (Z : State) (a0 : Array Value) (hw : ∀ d ∈ tables_1, d.before a0 Z = true) (h0 : Heap) (n0 : Nat) (hn : n0 ≤ h0.size) (x0 : Int32) (x1 : Int32) : own_Met l Z n0 (⟨"java/lang/Math", "max", "(II)I"⟩ : MethodName) jdk_29_method_65_code 2 (some .int) ({ frames := 0, cells := 0, slots := 0, locals := 0 } : Room) #[(.int x0), (.int x1)] h0 (fun v h => v = some (.int (F8 x0 x1)) ∧ h = h0) := by
  refine own_enter (L := #[.val (.int x0), .val (.int x1)]) (Jvm.Free.JP.mathPlain rfl (by decide +kernel)) hw hn (fun m => by first | (simp [entryFrame, mkF, argsToLocals, Value.category]; done) | rfl) (fun K T hK M X => ?_)
  refine own_iloadN M X d8_0 rfl rfl ?_
  refine own_iloadN M X d8_1 rfl rfl ?_
  refine own_icmp_lt M X d8_2 (by decide) rfl rfl (fun q1 => ?_) (fun q1 => ?_)
  · skip
    refine own_iloadN M X d8_9 rfl rfl ?_
    exact own_retI M X d8_10 ⟨by rw [F8, if_pos q1], rfl⟩
  · skip
    refine own_iloadN M X d8_5 rfl rfl ?_
    refine own_goto M X d8_6 (by decide) rfl ?_
    exact own_retI M X d8_10 ⟨by rw [F8, if_neg q1], rfl⟩
theorem d10_0 : decode jdk_29_method_69_code 0 = .ok (.iload_n 0, 1) := by decide +kernel
theorem d10_1 : decode jdk_29_method_69_code 1 = .ok (.iload_n 1, 1) := by decide +kernel
theorem d10_2 : decode jdk_29_method_69_code 2 = .ok (.if_icmp .gt 7, 3) := by decide +kernel
theorem d10_5 : decode jdk_29_method_69_code 5 = .ok (.iload_n 0, 1) := by decide +kernel
theorem d10_6 : decode jdk_29_method_69_code 6 = .ok (.goto 4, 3) := by decide +kernel
theorem d10_9 : decode jdk_29_method_69_code 9 = .ok (.iload_n 1, 1) := by decide +kernel
theorem d10_10 : decode jdk_29_method_69_code 10 = .ok (.ireturn, 1) := by decide +kernel
def F10 (x0 : Int32) (x1 : Int32) : Int32 := (if x1 < x0 then x1 else x0)
set_option maxRecDepth 65536 in
set_option maxHeartbeats 40000000 in
theorem met_10 (l : Launch) (Z : State) (a0 : Array Value) (hw : ∀ d ∈ tables_1, d.before a0 Z = true) (h0 : Heap) (n0 : Nat) (hn : n0 ≤ h0.size) (x0 : Int32) (x1 : Int32) : own_Met l Z n0 (⟨"java/lang/Math", "min", "(II)I"⟩ : MethodName) jdk_29_method_69_code 2 (some .int) ({ frames := 0, cells := 0, slots := 0, locals := 0 } : Room) #[(.int x0), (.int x1)] h0 (fun v h => v = some (.int (F10 x0 x1)) ∧ h = h0) := by
  refine own_enter (L := #[.val (.int x0), .val (.int x1)]) (Jvm.Free.JP.mathPlain rfl (by decide +kernel)) hw hn (fun m => by first | (simp [entryFrame, mkF, argsToLocals, Value.category]; done) | rfl) (fun K T hK M X => ?_)
  refine own_iloadN M X d10_0 rfl rfl ?_
  refine own_iloadN M X d10_1 rfl rfl ?_
  refine own_icmp_gt M X d10_2 (by decide) rfl rfl (fun q1 => ?_) (fun q1 => ?_)
  · skip
    refine own_iloadN M X d10_9 rfl rfl ?_
    exact own_retI M X d10_10 ⟨by rw [F10, if_pos q1], rfl⟩
  · skip
    refine own_iloadN M X d10_5 rfl rfl ?_
    refine own_goto M X d10_6 (by decide) rfl ?_
    exact own_retI M X d10_10 ⟨by rw [F10, if_neg q1], rfl⟩
def own_bit (w : Int64) (i : Nat) : Bool := w.toBitVec.getLsbD i
def own_add (S : Nat → Bool) (k : Nat) : Nat → Bool := fun q => decide (q = k) || S q
def own_del (S : Nat → Bool) (k : Nat) : Nat → Bool := fun q => S q && !decide (q = k)
def own_has (S : Nat → Bool) (k : Nat) : Int32 := if S k = true then 1 else 0
def own_Bs (Z : State) (h : Heap) (n0 : Nat) (a : Addr) (n : Nat) (S : Nat → Bool) : Prop :=
  Exa Z h a "com/example/mangrove/mangrove/reasoner/Bits" ∧ ∃ (b : Addr) (w : Nat → Int64), n0 ≤ b ∧ a ≠ b ∧ Fld Z h a "com/example/mangrove/mangrove/reasoner/Bits" "words" "[J" (.ref b) ∧ own_Va Z h b .long n (fun j => .long (w j)) ∧ 1 ≤ n ∧ ∀ q, S q = (decide (q / 64 < n) && own_bit (w (q / 64)) (q % 64))
theorem own_ofn {n : Nat} (h : n < 2 ^ 31) : (Int32.ofNat n).toInt = n := Int32.toInt_ofNat_of_lt h
theorem own_w6 (x : Int32) (h : 0 ≤ x.toInt) : (x >>> ((6 : Int32) &&& 31)).toInt = ((x.toInt.toNat / 64 : Nat) : Int) := by
  rw [Jvm.Kit.i32_shr x ((6 : Int32) &&& 31) (k := 6) (by decide)]
  omega
theorem own_k63 (x : Int32) (h : 0 ≤ x.toInt) : ∃ k : Fin 64, (x &&& 0x3f) = Int32.ofNat k.val ∧ k.val = x.toInt.toNat % 64 := by
  have e : (x &&& 0x3f).toInt = x.toInt % 2 ^ 6 := Jvm.Kit.i32_mask x 0x3f (k := 6) (by decide) (by decide)
  refine ⟨⟨x.toInt.toNat % 64, Nat.mod_lt _ (by decide)⟩, Int32.toInt_inj.mp ?_, rfl⟩
  rw [e, Int32.toInt_ofNat_of_lt (show x.toInt.toNat % 64 < 2 ^ 31 by omega)]
  show x.toInt % 2 ^ 6 = ((x.toInt.toNat % 64 : Nat) : Int)
  omega
theorem own_tw : ∀ k : Fin 64, ((1 : Int64) <<< (Int32.ofNat k.val).toInt64).toBitVec = BitVec.twoPow 64 k.val := by decide +kernel
theorem own_one (x : Int32) (h : 0 ≤ x.toInt) : ((1 : Int64) <<< (x &&& 0x3f).toInt64).toBitVec = BitVec.twoPow 64 (x.toInt.toNat % 64) := by
  obtain ⟨k, e1, e2⟩ := own_k63 x h
  rw [e1, own_tw, e2]
theorem own_bitL (w : Int64) (x : Int32) (h : 0 ≤ x.toInt) : ((w &&& ((1 : Int64) <<< (x &&& 0x3f).toInt64)) = (0 : Int64)) ↔ own_bit w (x.toInt.toNat % 64) = false := by
  have hk : x.toInt.toNat % 64 < 64 := Nat.mod_lt _ (by decide)
  rw [← Int64.toBitVec_inj, Int64.toBitVec_and, own_one x h, BitVec.and_twoPow]
  unfold own_bit
  generalize x.toInt.toNat % 64 = k at *
  cases hb : w.toBitVec.getLsbD k
  · simp
  · simp only [if_true]
    refine ⟨fun z => ?_, fun z => Bool.noConfusion z⟩
    have := congrArg (fun v : BitVec 64 => v.getLsbD k) z
    simp [BitVec.getLsbD_twoPow, hk] at this
theorem own_bitO (w : Int64) (x : Int32) (h : 0 ≤ x.toInt) (i : Nat) (hi : i < 64) : own_bit (w ||| ((1 : Int64) <<< (x &&& 0x3f).toInt64)) i = (decide (i = x.toInt.toNat % 64) || own_bit w i) := by
  have hk : x.toInt.toNat % 64 < 64 := Nat.mod_lt _ (by decide)
  unfold own_bit
  rw [Int64.toBitVec_or, own_one x h, BitVec.getLsbD_or, BitVec.getLsbD_twoPow]
  generalize x.toInt.toNat % 64 = k at *
  simp only [hk, decide_true, Bool.true_and, Bool.or_comm, eq_comm]
theorem own_bitA (w : Int64) (x : Int32) (h : 0 ≤ x.toInt) (i : Nat) (hi : i < 64) : own_bit (w &&& (((1 : Int64) <<< (x &&& 0x3f).toInt64) ^^^ (-1 : Int64))) i = (own_bit w i && !decide (i = x.toInt.toNat % 64)) := by
  have hk : x.toInt.toNat % 64 < 64 := Nat.mod_lt _ (by decide)
  unfold own_bit
  rw [Int64.toBitVec_and, Int64.toBitVec_xor, own_one x h, BitVec.getLsbD_and, BitVec.getLsbD_xor, BitVec.getLsbD_twoPow, show (-1 : Int64).toBitVec = BitVec.allOnes 64 from by decide, BitVec.getLsbD_allOnes]
  generalize x.toInt.toNat % 64 = k at *
  simp only [hk, hi, decide_true, Bool.true_and, Bool.xor_true, eq_comm]
theorem d9_0 : decode jdk_65_method_124_code 0 = .ok (.iload_n 1, 1) := by decide +kernel
theorem d9_1 : decode jdk_65_method_124_code 1 = .ok (.aload_n 0, 1) := by decide +kernel
theorem d9_2 : decode jdk_65_method_124_code 2 = .ok (.arraylength, 1) := by decide +kernel
theorem d9_3 : decode jdk_65_method_124_code 3 = .ok (.if_icmp .ne 11, 3) := by decide +kernel
theorem d9_14 : decode jdk_65_method_124_code 14 = .ok (.iload_n 1, 1) := by decide +kernel
theorem d9_15 : decode jdk_65_method_124_code 15 = .ok (.newarray .long, 2) := by decide +kernel
theorem d9_17 : decode jdk_65_method_124_code 17 = .ok (.astore_n 2, 1) := by decide +kernel
theorem d9_18 : decode jdk_65_method_124_code 18 = .ok (.aload_n 0, 1) := by decide +kernel
theorem d9_19 : decode jdk_65_method_124_code 19 = .ok (.iconst 0, 1) := by decide +kernel
theorem d9_20 : decode jdk_65_method_124_code 20 = .ok (.aload_n 2, 1) := by decide +kernel
theorem d9_21 : decode jdk_65_method_124_code 21 = .ok (.iconst 0, 1) := by decide +kernel
theorem d9_22 : decode jdk_65_method_124_code 22 = .ok (.aload_n 0, 1) := by decide +kernel
theorem d9_23 : decode jdk_65_method_124_code 23 = .ok (.arraylength, 1) := by decide +kernel
theorem d9_24 : decode jdk_65_method_124_code 24 = .ok (.iload_n 1, 1) := by decide +kernel
theorem d9_25 : decode jdk_65_method_124_code 25 = .ok (.invokestatic 304, 3) := by decide +kernel
theorem d9_28 : decode jdk_65_method_124_code 28 = .ok (.invokestatic 150, 3) := by decide +kernel
theorem d9_31 : decode jdk_65_method_124_code 31 = .ok (.aload_n 2, 1) := by decide +kernel
theorem d9_32 : decode jdk_65_method_124_code 32 = .ok (.areturn, 1) := by decide +kernel
theorem own_pn9 : plainName "java/util/Arrays" = true := by first | (simp [plainName, overriddenIn]; done) | decide +kernel
theorem own_min (x y : Int32) {n m : Nat} (hx : x.toInt = n) (hy : y.toInt = m) : (F10 x y).toInt = ((min n m : Nat) : Int) := by
  unfold F10
  simp only [Int32.lt_iff_toInt_lt, hx, hy]
  split <;> omega
set_option maxRecDepth 65536 in
set_option maxHeartbeats 40000000 in
theorem met_9 (l : Launch) (Z : State) (a0 : Array Value) (hw : ∀ d ∈ tables_1, d.before a0 Z = true) (h0 : Heap) (n0 : Nat) (hn : n0 ≤ h0.size) (o0 : Addr) (i1 : Int32) (cap nn mm : Nat) (f : Nat → Value) (V0 : own_Va Z h0 o0 .long nn f) (g1 : i1.toInt = mm) (g2 : nn ≠ mm) (g3 : mm ≤ cap) (g4 : cap * 8 ≤ 536870912) : own_Met l Z n0 (⟨"java/util/Arrays", "copyOf", "([JI)[J"⟩ : MethodName) jdk_65_method_124_code 3 (some (.array .long)) ({ frames := 1, cells := 1, slots := cap, locals := 20 } : Room) #[(.ref o0), (.int i1)] h0 (fun v h => ∃ b, v = some (.ref b) ∧ n0 ≤ b ∧ h0.size ≤ b ∧ Keep h0 h [] ∧ own_Va Z h b .long mm (fun t => if t < nn then f t else (.long 0))) := by
  refine own_enter (L := #[.val (.ref o0), .val (.int i1), .unset]) (plainFor_of_name own_pn9) hw hn (fun m => by first | (simp [entryFrame, mkF, argsToLocals, Value.category]; done) | rfl) (fun K T hK M X => ?_)
  refine own_iloadN M X d9_0 rfl rfl ?_
  refine own_aloadN M X d9_1 rfl rfl rfl ?_
  refine own_arraylength M X (z := (Int32.ofNat nn)) V0 (own_ofn V0.small) d9_2 rfl ?_
  refine own_icmp_ne M X d9_3 (by decide) rfl rfl (fun q1 => ?_) (fun q1 => ?_)
  · skip
    refine own_iloadN M X d9_14 rfl rfl ?_
    refine own_newarray M X (n := mm) cap (hw _ (List.mem_of_getElem? (i := 9) rfl)) d9_15 rfl g1 g3 (by first | exact g4 | (dsimp only; omega)) (by first | exact g4 | (dsimp only; omega)) (by first | exact g4 | (dsimp only; omega)) ?_
    intro T2 h3 a4 ge5 gs6 X7 E8 V9
    have ne10 : o0 ≠ a4 := Nat.ne_of_lt (Nat.lt_of_lt_of_le V0.lt gs6)
    have sz11 : h0.size ≤ a4 := Nat.le_trans (Keep.refl h0 []).1 gs6
    have KK12 := (Keep.refl h0 []).ext E8
    have V13 := V0.ext E8
    replace V9 : own_Va Z h3 a4 .long mm (fun _ => .long 0) := V9
    refine own_astoreN M X7 (L' := #[.val (.ref o0), .val (.int i1), .val (.ref a4)]) d9_17 rfl rfl rfl ?_
    refine own_aloadN M X7 d9_18 rfl rfl rfl ?_
    refine own_iconst M X7 (v := (0 : Int32)) d9_19 rfl rfl ?_
    refine own_aloadN M X7 d9_20 rfl rfl rfl ?_
    refine own_iconst M X7 (v := (0 : Int32)) d9_21 rfl rfl ?_
    refine own_aloadN M X7 d9_22 rfl rfl rfl ?_
    refine own_arraylength M X7 (z := (Int32.ofNat nn)) V13 (own_ofn V0.small) d9_23 rfl ?_
    refine own_iloadN M X7 d9_24 rfl rfl ?_
    refine own_callP M X7 (yrm := ({ frames := 0, cells := 0, slots := 0, locals := 0 } : Room)) [(.int (Int32.ofNat nn)), (.int i1)] (hw _ (List.mem_of_getElem? (i := 44) rfl)) (hw _ (List.mem_of_getElem? (i := 45) rfl)) (hw _ (List.mem_of_getElem? (i := 38) rfl)) (hw _ (List.mem_of_getElem? (i := 46) rfl)) (by decide) (met_10 _ Z a0 hw h3 n0 X7.size (Int32.ofNat nn) i1) rfl d9_25 rfl own_pd0 rfl rfl 4 (Nat.le_of_eq rfl) (by first | exact g4 | (dsimp only; omega)) (by first | exact g4 | (dsimp only; omega)) rfl rfl ?_
    intro T14 X15
    refine own_arraycopy M X15 (i := 0) (j := 0) (k := min nn mm) (hw _ (List.mem_of_getElem? (i := 47) rfl)) (hw _ (List.mem_of_getElem? (i := 50) rfl)) (hw _ (List.mem_of_getElem? (i := 48) rfl)) (hw _ (List.mem_of_getElem? (i := 49) rfl)) V13 V9 rfl (by decide) (by decide) (own_min _ _ (own_ofn V0.small) g1) (by omega) (by omega) ge5 rfl d9_28 rfl (by first | exact g4 | (dsimp only; omega)) 0 (Nat.le_of_eq rfl) (by first | exact g4 | (dsimp only; omega)) ?_
    intro T16 h17 X18 K19 V20
    have KK21 := (KK12).trans K19 (allS (Or.inr sz11) all0)
    have V22 := V13.keep K19 (ninS ne10 nin0)
    refine own_aloadN M X18 d9_31 rfl rfl rfl ?_
    exact own_retA M X18 rfl rfl d9_32 ⟨a4, rfl, ge5, sz11, KK21, V20.congr (fun t ht => by by_cases q : t < nn <;> simp [q] <;> omega)⟩
  · skip
    exfalso; rw [← Int32.toInt_inj, g1, own_ofn V0.small] at q1; omega
theorem d1_0 : decode prog_13_method_1_code 0 = .ok (.aload_n 0, 1) := by decide +kernel
theorem d1_1 : decode prog_13_method_1_code 1 = .ok (.invokespecial 1, 3) := by decide +kernel
theorem d1_4 : decode prog_13_method_1_code 4 = .ok (.aload_n 0, 1) := by decide +kernel
theorem d1_5 : decode prog_13_method_1_code 5 = .ok (.iconst 1, 1) := by decide +kernel
theorem d1_6 : decode prog_13_method_1_code 6 = .ok (.newarray .long, 2) := by decide +kernel
theorem d1_8 : decode prog_13_method_1_code 8 = .ok (.putfield 7, 3) := by decide +kernel
theorem d1_11 : decode prog_13_method_1_code 11 = .ok (.return_, 1) := by decide +kernel
theorem own_pn1 : plainName "com/example/mangrove/mangrove/reasoner/Bits" = true := by first | (simp [plainName, overriddenIn]; done) | decide +kernel
set_option maxRecDepth 65536 in
set_option maxHeartbeats 40000000 in
theorem met_1 (l : Launch) (Z : State) (a0 : Array Value) (hw : ∀ d ∈ tables_1, d.before a0 Z = true) (h0 : Heap) (n0 : Nat) (hn : n0 ≤ h0.size) (o0 : Addr) (ge0 : n0 ≤ o0) (E0 : Exa Z h0 o0 "com/example/mangrove/mangrove/reasoner/Bits") (F0 : Fld Z h0 o0 "com/example/mangrove/mangrove/reasoner/Bits" "words" "[J" .null) : own_Met l Z n0 (⟨"com/example/mangrove/mangrove/reasoner/Bits", "<init>", "()V"⟩ : MethodName) prog_13_method_1_code 1 none ({ frames := 1, cells := 1, slots := 1, locals := 12 } : Room) #[(.ref o0)] h0 (fun v h => v = none ∧ own_Bs Z h n0 o0 1 (fun _ => false) ∧ Keep h0 h [o0]) := by
  refine own_enter (L := #[.val (.ref o0)]) (plainFor_of_name own_pn1) hw hn (fun m => by first | (simp [entryFrame, mkF, argsToLocals, Value.category]; done) | rfl) (fun K T hK M X => ?_)
  refine own_aloadN M X d1_0 rfl rfl rfl ?_
  refine own_initO M X (hw _ (List.mem_of_getElem? (i := 6) rfl)) (hw _ (List.mem_of_getElem? (i := 7) rfl)) (hw _ (List.mem_of_getElem? (i := 8) rfl)) rfl d1_1 rfl (by decide) 0 (Nat.le_of_eq rfl) (by decide) ?_
  intro T1 X2
  refine own_aloadN M X2 d1_4 rfl rfl rfl ?_
  refine own_iconst M X2 (v := (1 : Int32)) d1_5 rfl rfl ?_
  refine own_newarray M X2 (n := 1) 1 (hw _ (List.mem_of_getElem? (i := 9) rfl)) d1_6 rfl (by decide) (by decide) (by decide) (by decide) (by decide) ?_
  intro T3 h4 a5 ge6 gs7 X8 E9 V10
  have ne11 : o0 ≠ a5 := Nat.ne_of_lt (Nat.lt_of_lt_of_le E0.lt gs7)
  have sz12 : h0.size ≤ a5 := Nat.le_trans (Keep.refl h0 [o0]).1 gs7
  have KK13 := (Keep.refl h0 [o0]).ext E9
  have E14 := E0.ext E9
  have F15 := F0.ext E9
  replace V10 : own_Va Z h4 a5 .long 1 (own_lsj [(0 : Int64)]) := V10.congr (own_zeroj _ _ rfl)
  refine own_putfield M X8 (hw _ (List.mem_of_getElem? (i := 10) rfl)) F15 E14 (Or.inl (hw _ (List.mem_of_getElem? (i := 11) rfl))) (hw _ (List.mem_of_getElem? (i := 1) rfl)) (ty := (.array .long)) (by decide) rfl rfl ge0 d1_8 rfl ?_
  intro T16 h17 X18 W19
  have F20 := Fld.same W19 F15
  have KK21 := (KK13).wr W19 (Or.inl (List.mem_of_getElem? (i := 0) rfl))
  have E22 := Exa.wr W19 E14
  have V23 := V10.keep (Keep.of_wr W19) (ninS (Ne.symm ne11) nin0)
  exact own_retV M X18 d1_11 ⟨rfl, ⟨E22, a5, _, ge6, ne11, F20, V23, Nat.le_refl _, fun q => by rcases q / 64 with _ | _ | _ <;> simp [own_bit]⟩, KK21⟩
theorem d5_0 : decode prog_13_method_2_code 0 = .ok (.iload_n 1, 1) := by decide +kernel
theorem d5_1 : decode prog_13_method_2_code 1 = .ok (.bipush 6, 2) := by decide +kernel
theorem d5_3 : decode prog_13_method_2_code 3 = .ok (.ishr, 1) := by decide +kernel
theorem d5_4 : decode prog_13_method_2_code 4 = .ok (.istore_n 2, 1) := by decide +kernel
theorem d5_5 : decode prog_13_method_2_code 5 = .ok (.iload_n 2, 1) := by decide +kernel
theorem d5_6 : decode prog_13_method_2_code 6 = .ok (.aload_n 0, 1) := by decide +kernel
theorem d5_7 : decode prog_13_method_2_code 7 = .ok (.getfield 7, 3) := by decide +kernel
theorem d5_10 : decode prog_13_method_2_code 10 = .ok (.arraylength, 1) := by decide +kernel
theorem d5_11 : decode prog_13_method_2_code 11 = .ok (.if_icmp .ge 22, 3) := by decide +kernel
theorem d5_14 : decode prog_13_method_2_code 14 = .ok (.aload_n 0, 1) := by decide +kernel
theorem d5_15 : decode prog_13_method_2_code 15 = .ok (.getfield 7, 3) := by decide +kernel
theorem d5_18 : decode prog_13_method_2_code 18 = .ok (.iload_n 2, 1) := by decide +kernel
theorem d5_19 : decode prog_13_method_2_code 19 = .ok (.laload, 1) := by decide +kernel
theorem d5_20 : decode prog_13_method_2_code 20 = .ok (.lconst 1, 1) := by decide +kernel
theorem d5_21 : decode prog_13_method_2_code 21 = .ok (.iload_n 1, 1) := by decide +kernel
theorem d5_22 : decode prog_13_method_2_code 22 = .ok (.lshl, 1) := by decide +kernel
theorem d5_23 : decode prog_13_method_2_code 23 = .ok (.land, 1) := by decide +kernel
theorem d5_24 : decode prog_13_method_2_code 24 = .ok (.lconst 0, 1) := by decide +kernel
theorem d5_25 : decode prog_13_method_2_code 25 = .ok (.lcmp, 1) := by decide +kernel
theorem d5_26 : decode prog_13_method_2_code 26 = .ok (.ifCond .eq 7, 3) := by decide +kernel
theorem d5_29 : decode prog_13_method_2_code 29 = .ok (.iconst 1, 1) := by decide +kernel
theorem d5_30 : decode prog_13_method_2_code 30 = .ok (.goto 4, 3) := by decide +kernel
theorem d5_33 : decode prog_13_method_2_code 33 = .ok (.iconst 0, 1) := by decide +kernel
theorem d5_34 : decode prog_13_method_2_code 34 = .ok (.ireturn, 1) := by decide +kernel
theorem own_pn5 : plainName "com/example/mangrove/mangrove/reasoner/Bits" = true := by first | (simp [plainName, overriddenIn]; done) | decide +kernel
set_option maxRecDepth 65536 in
set_option maxHeartbeats 40000000 in
theorem met_5 (l : Launch) (Z : State) (a0 : Array Value) (hw : ∀ d ∈ tables_1, d.before a0 Z = true) (h0 : Heap) (n0 : Nat) (hn : n0 ≤ h0.size) (o0 : Addr) (i1 : Int32) (nn : Nat) (S : Nat → Bool) (hB : own_Bs Z h0 n0 o0 nn S) (g1 : 0 ≤ i1.toInt) : own_Met l Z n0 (⟨"com/example/mangrove/mangrove/reasoner/Bits", "get", "(I)Z"⟩ : MethodName) prog_13_method_2_code 3 (some .boolean) ({ frames := 0, cells := 0, slots := 0, locals := 0 } : Room) #[(.ref o0), (.int i1)] h0 (fun v h => v = some (.int (own_has S i1.toInt.toNat)) ∧ h = h0) := by
  refine own_enter (L := #[.val (.ref o0), .val (.int i1), .unset]) (plainFor_of_name own_pn5) hw hn (fun m => by first | (simp [entryFrame, mkF, argsToLocals, Value.category]; done) | rfl) (fun K T hK M X => ?_)
  obtain ⟨E0, b, w, ge1, ne0, F0, V0, hn1, hS⟩ := hB
  refine own_iloadN M X d5_0 rfl rfl ?_
  refine own_bipush M X (v := (6 : Int32)) d5_1 rfl rfl ?_
  refine own_ishr M X d5_3 rfl ?_
  refine own_istoreN M X (L' := #[.val (.ref o0), .val (.int i1), .val (.int (i1 >>> ((6 : Int32) &&& 31)))]) d5_4 rfl rfl ?_
  refine own_iloadN M X d5_5 rfl rfl ?_
  refine own_aloadN M X d5_6 rfl rfl rfl ?_
  refine own_getfield M X (hw _ (List.mem_of_getElem? (i := 10) rfl)) F0 d5_7 rfl ?_
  intro T1 X2
  refine own_arraylength M X2 (z := (Int32.ofNat nn)) V0 (own_ofn V0.small) d5_10 rfl ?_
  refine own_icmp_ge M X2 d5_11 (by decide) rfl rfl (fun q3 => ?_) (fun q3 => ?_)
  · skip
    refine own_iconst M X2 (v := (0 : Int32)) d5_33 rfl rfl ?_
    exact own_retN M X2 (z' := (0 : Int32)) (by simp) d5_34 rfl ⟨by rw [own_has, hS, decide_eq_false (by have e := q3; rw [Int32.lt_iff_toInt_lt, own_w6 i1 g1, own_ofn V0.small] at e; omega)]; rfl, rfl⟩
  · skip
    refine own_aloadN M X2 d5_14 rfl rfl rfl ?_
    refine own_getfield M X2 (hw _ (List.mem_of_getElem? (i := 10) rfl)) F0 d5_15 rfl ?_
    intro T4 X5
    refine own_iloadN M X5 d5_18 rfl rfl ?_
    refine own_laload M X5 V0 (i := (i1.toInt.toNat / 64)) (own_w6 i1 g1) (by have e := q3; rw [Int32.lt_iff_toInt_lt, own_w6 i1 g1, own_ofn V0.small] at e; omega) rfl d5_19 rfl ?_
    refine own_lconst M X5 (v := (1 : Int64)) d5_20 rfl rfl ?_
    refine own_iloadN M X5 d5_21 rfl rfl ?_
    refine own_lshl M X5 d5_22 rfl ?_
    refine own_land M X5 d5_23 rfl ?_
    refine own_lconst M X5 (v := (0 : Int64)) d5_24 rfl rfl ?_
    refine own_lcmp_eq M X5 d5_25 rfl d5_26 (by decide) rfl rfl (fun q6 => ?_) (fun q6 => ?_)
    · skip
      refine own_iconst M X5 (v := (0 : Int32)) d5_33 rfl rfl ?_
      exact own_retN M X5 (z' := (0 : Int32)) (by simp) d5_34 rfl ⟨by rw [own_has, hS, decide_eq_true (by have e := q3; rw [Int32.lt_iff_toInt_lt, own_w6 i1 g1, own_ofn V0.small] at e; omega), (own_bitL _ i1 g1).mp q6]; rfl, rfl⟩
    · skip
      refine own_iconst M X5 (v := (1 : Int32)) d5_29 rfl rfl ?_
      refine own_goto M X5 d5_30 (by decide) rfl ?_
      exact own_retN M X5 (z' := (1 : Int32)) (by simp) d5_34 rfl ⟨by rw [own_has, hS, decide_eq_true (by have e := q3; rw [Int32.lt_iff_toInt_lt, own_w6 i1 g1, own_ofn V0.small] at e; omega), Bool.of_not_eq_false (fun z => q6 ((own_bitL _ i1 g1).mpr z))]; rfl, rfl⟩
def own_updL (w : Nat → Int64) (i : Nat) (v : Int64) : Nat → Int64 := fun j => if j = i then v else w j
theorem own_updLV {w : Nat → Int64} {i j : Nat} {v : Int64} : own_upd (fun j => .long (w j)) i (.long v) j = (fun j => .long (own_updL w i v j)) j := by
  by_cases q : j = i <;> simp [own_upd, own_updL, q]
theorem own_clrN {S : Nat → Bool} {n k : Nat} {w : Nat → Int64} (hS : ∀ q, S q = (decide (q / 64 < n) && own_bit (w (q / 64)) (q % 64))) (hk : ¬ k / 64 < n) : ∀ q, own_del S k q = (decide (q / 64 < n) && own_bit (w (q / 64)) (q % 64)) := fun q => by
  by_cases e : q = k
  · subst e; simp [own_del, hS, hk]
  · simp [own_del, hS, e]
theorem own_clrY {S : Nat → Bool} {n : Nat} {w : Nat → Int64} {x : Int32} (hS : ∀ q, S q = (decide (q / 64 < n) && own_bit (w (q / 64)) (q % 64))) (g1 : 0 ≤ x.toInt) : ∀ q, own_del S x.toInt.toNat q = (decide (q / 64 < n) && own_bit (own_updL w (x.toInt.toNat / 64) ((w (x.toInt.toNat / 64)) &&& (((1 : Int64) <<< (x &&& 0x3f).toInt64) ^^^ (-1 : Int64))) (q / 64)) (q % 64)) := fun q => by
  by_cases e : q / 64 = x.toInt.toNat / 64
  · rw [own_updL, if_pos e, own_bitA _ x g1 _ (Nat.mod_lt _ (by decide)), own_del, hS, e]
    have : decide (q = x.toInt.toNat) = decide (q % 64 = x.toInt.toNat % 64) := decide_eq_decide.mpr (by omega)
    rw [this, Bool.and_assoc]
  · have : ¬ q = x.toInt.toNat := fun z => e (by rw [z])
    rw [own_updL, if_neg e, own_del, hS, decide_eq_false this, Bool.not_false, Bool.and_true]
theorem own_setY {S : Nat → Bool} {n : Nat} {w : Nat → Int64} {x : Int32} (hS : ∀ q, S q = (decide (q / 64 < n) && own_bit (w (q / 64)) (q % 64))) (g1 : 0 ≤ x.toInt) (hk : x.toInt.toNat / 64 < n) : ∀ q, own_add S x.toInt.toNat q = (decide (q / 64 < n) && own_bit (own_updL w (x.toInt.toNat / 64) ((w (x.toInt.toNat / 64)) ||| ((1 : Int64) <<< (x &&& 0x3f).toInt64)) (q / 64)) (q % 64)) := fun q => by
  by_cases e : q / 64 = x.toInt.toNat / 64
  · rw [own_updL, if_pos e, own_bitO _ x g1 _ (Nat.mod_lt _ (by decide)), own_add, hS, e]
    have : decide (q = x.toInt.toNat) = decide (q % 64 = x.toInt.toNat % 64) := decide_eq_decide.mpr (by omega)
    rw [this, decide_eq_true hk, Bool.true_and, Bool.true_and]
  · have : ¬ q = x.toInt.toNat := fun z => e (by rw [z])
    rw [own_updL, if_neg e, own_add, hS, decide_eq_false this, Bool.false_or]
theorem own_grow {S : Nat → Bool} {n m : Nat} {w : Nat → Int64} (hS : ∀ q, S q = (decide (q / 64 < n) && own_bit (w (q / 64)) (q % 64))) (hm : n ≤ m) : ∀ q, S q = (decide (q / 64 < m) && own_bit ((fun t => if t < n then w t else 0) (q / 64)) (q % 64)) := fun q => by
  rw [hS]
  by_cases e : q / 64 < n
  · have : q / 64 < m := by omega
    simp [e, this]
  · simp [e, own_bit]
theorem d4_0 : decode prog_13_method_4_code 0 = .ok (.iload_n 1, 1) := by decide +kernel
theorem d4_1 : decode prog_13_method_4_code 1 = .ok (.bipush 6, 2) := by decide +kernel
theorem d4_3 : decode prog_13_method_4_code 3 = .ok (.ishr, 1) := by decide +kernel
theorem d4_4 : decode prog_13_method_4_code 4 = .ok (.istore_n 2, 1) := by decide +kernel
theorem d4_5 : decode prog_13_method_4_code 5 = .ok (.iload_n 2, 1) := by decide +kernel
theorem d4_6 : decode prog_13_method_4_code 6 = .ok (.aload_n 0, 1) := by decide +kernel
theorem d4_7 : decode prog_13_method_4_code 7 = .ok (.getfield 7, 3) := by decide +kernel
theorem d4_10 : decode prog_13_method_4_code 10 = .ok (.arraylength, 1) := by decide +kernel
theorem d4_11 : decode prog_13_method_4_code 11 = .ok (.if_icmp .ge 19, 3) := by decide +kernel
theorem d4_14 : decode prog_13_method_4_code 14 = .ok (.aload_n 0, 1) := by decide +kernel
theorem d4_15 : decode prog_13_method_4_code 15 = .ok (.getfield 7, 3) := by decide +kernel
theorem d4_18 : decode prog_13_method_4_code 18 = .ok (.iload_n 2, 1) := by decide +kernel
theorem d4_19 : decode prog_13_method_4_code 19 = .ok (.dup2, 1) := by decide +kernel
theorem d4_20 : decode prog_13_method_4_code 20 = .ok (.laload, 1) := by decide +kernel
theorem d4_21 : decode prog_13_method_4_code 21 = .ok (.lconst 1, 1) := by decide +kernel
theorem d4_22 : decode prog_13_method_4_code 22 = .ok (.iload_n 1, 1) := by decide +kernel
theorem d4_23 : decode prog_13_method_4_code 23 = .ok (.lshl, 1) := by decide +kernel
theorem d4_24 : decode prog_13_method_4_code 24 = .ok (.ldc2_w 25, 3) := by decide +kernel
theorem d4_27 : decode prog_13_method_4_code 27 = .ok (.lxor, 1) := by decide +kernel
theorem d4_28 : decode prog_13_method_4_code 28 = .ok (.land, 1) := by decide +kernel
theorem d4_29 : decode prog_13_method_4_code 29 = .ok (.lastore, 1) := by decide +kernel
theorem d4_30 : decode prog_13_method_4_code 30 = .ok (.return_, 1) := by decide +kernel
theorem own_pn4 : plainName "com/example/mangrove/mangrove/reasoner/Bits" = true := by first | (simp [plainName, overriddenIn]; done) | decide +kernel
set_option maxRecDepth 65536 in
set_option maxHeartbeats 40000000 in
theorem met_4 (l : Launch) (Z : State) (a0 : Array Value) (hw : ∀ d ∈ tables_1, d.before a0 Z = true) (h0 : Heap) (n0 : Nat) (hn : n0 ≤ h0.size) (o0 : Addr) (i1 : Int32) (nn : Nat) (S : Nat → Bool) (hB : own_Bs Z h0 n0 o0 nn S) (ge0 : n0 ≤ o0) (g1 : 0 ≤ i1.toInt) : own_Met l Z n0 (⟨"com/example/mangrove/mangrove/reasoner/Bits", "clear", "(I)V"⟩ : MethodName) prog_13_method_4_code 3 none ({ frames := 0, cells := 0, slots := 0, locals := 0 } : Room) #[(.ref o0), (.int i1)] h0 (fun v h => v = none ∧ own_Bs Z h n0 o0 nn (own_del S i1.toInt.toNat)) := by
  refine own_enter (L := #[.val (.ref o0), .val (.int i1), .unset]) (plainFor_of_name own_pn4) hw hn (fun m => by first | (simp [entryFrame, mkF, argsToLocals, Value.category]; done) | rfl) (fun K T hK M X => ?_)
  obtain ⟨E0, b, w, ge1, ne0, F0, V0, hn1, hS⟩ := hB
  refine own_iloadN M X d4_0 rfl rfl ?_
  refine own_bipush M X (v := (6 : Int32)) d4_1 rfl rfl ?_
  refine own_ishr M X d4_3 rfl ?_
  refine own_istoreN M X (L' := #[.val (.ref o0), .val (.int i1), .val (.int (i1 >>> ((6 : Int32) &&& 31)))]) d4_4 rfl rfl ?_
  refine own_iloadN M X d4_5 rfl rfl ?_
  refine own_aloadN M X d4_6 rfl rfl rfl ?_
  refine own_getfield M X (hw _ (List.mem_of_getElem? (i := 10) rfl)) F0 d4_7 rfl ?_
  intro T1 X2
  refine own_arraylength M X2 (z := (Int32.ofNat nn)) V0 (own_ofn V0.small) d4_10 rfl ?_
  refine own_icmp_ge M X2 d4_11 (by decide) rfl rfl (fun q3 => ?_) (fun q3 => ?_)
  · skip
    exact own_retV M X2 d4_30 ⟨rfl, ⟨E0, b, w, ge1, ne0, F0, V0, hn1, own_clrN hS (by have e := q3; rw [Int32.lt_iff_toInt_lt, own_w6 i1 g1, own_ofn V0.small] at e; omega)⟩⟩
  · skip
    refine own_aloadN M X2 d4_14 rfl rfl rfl ?_
    refine own_getfield M X2 (hw _ (List.mem_of_getElem? (i := 10) rfl)) F0 d4_15 rfl ?_
    intro T4 X5
    refine own_iloadN M X5 d4_18 rfl rfl ?_
    refine own_dup2 M X5 d4_19 rfl rfl rfl ?_
    refine own_laload M X5 V0 (i := (i1.toInt.toNat / 64)) (own_w6 i1 g1) (by have e := q3; rw [Int32.lt_iff_toInt_lt, own_w6 i1 g1, own_ofn V0.small] at e; omega) rfl d4_20 rfl ?_
    refine own_lconst M X5 (v := (1 : Int64)) d4_21 rfl rfl ?_
    refine own_iloadN M X5 d4_22 rfl rfl ?_
    refine own_lshl M X5 d4_23 rfl ?_
    refine own_ldc2_w M X5 (hw _ (List.mem_of_getElem? (i := 22) rfl)) d4_24 rfl ?_
    refine own_lxor M X5 d4_27 rfl ?_
    refine own_land M X5 d4_28 rfl ?_
    refine own_lastore M X5 V0 ge1 (i := (i1.toInt.toNat / 64)) (own_w6 i1 g1) (by have e := q3; rw [Int32.lt_iff_toInt_lt, own_w6 i1 g1, own_ofn V0.small] at e; omega) d4_29 rfl ?_
    intro T6 h7 X8 K9 V10
    have E11 := E0.keep K9
    have F12 := F0.keep K9 (ninS ne0 nin0)
    exact own_retV M X8 d4_30 ⟨rfl, ⟨E11, b, own_updL w (i1.toInt.toNat / 64) (((w (i1.toInt.toNat / 64)) &&& (((1 : Int64) <<< (i1 &&& 0x3f).toInt64) ^^^ (-1 : Int64)))), ge1, ne0, F12, V10.congr (fun j _ => own_updLV), hn1, own_clrY hS g1⟩⟩
theorem own_maxv {x : Int32} {n cap : Nat} (g1 : 0 ≤ x.toInt) (hn : n < 2 ^ 31) (hc : max (x.toInt.toNat / 64 + 1) (2 * n) ≤ cap) (hc4 : cap * 8 ≤ 536870912 := by assumption) : (F8 ((x >>> ((6 : Int32) &&& 31)) + (1 : Int32)) ((Int32.ofNat n) * (2 : Int32))).toInt = ((max (x.toInt.toNat / 64 + 1) (2 * n) : Nat) : Int) := by
  have e1 := own_w6 x g1
  have e2 := own_ofn hn
  have l1 : (1 : Int32).toInt = 1 := by decide
  have l2 : (2 : Int32).toInt = 2 := by decide
  have e3 : ((x >>> ((6 : Int32) &&& 31)) + (1 : Int32)).toInt = ((x.toInt.toNat / 64 + 1 : Nat) : Int) := by rw [Jvm.Kit.i32_add (by omega) (by omega), e1, l1]; omega
  have e4 : ((Int32.ofNat n) * (2 : Int32)).toInt = ((2 * n : Nat) : Int) := by rw [Jvm.Kit.i32_mul (by rw [e2, l2]; omega) (by rw [e2, l2]; omega), e2, l2]; omega
  unfold F8
  simp only [Int32.lt_iff_toInt_lt, e3, e4]
  split <;> omega
theorem d3_0 : decode prog_13_method_3_code 0 = .ok (.iload_n 1, 1) := by decide +kernel
theorem d3_1 : decode prog_13_method_3_code 1 = .ok (.bipush 6, 2) := by decide +kernel
theorem d3_3 : decode prog_13_method_3_code 3 = .ok (.ishr, 1) := by decide +kernel
theorem d3_4 : decode prog_13_method_3_code 4 = .ok (.istore_n 2, 1) := by decide +kernel
theorem d3_5 : decode prog_13_method_3_code 5 = .ok (.iload_n 2, 1) := by decide +kernel
theorem d3_6 : decode prog_13_method_3_code 6 = .ok (.aload_n 0, 1) := by decide +kernel
theorem d3_7 : decode prog_13_method_3_code 7 = .ok (.getfield 7, 3) := by decide +kernel
theorem d3_10 : decode prog_13_method_3_code 10 = .ok (.arraylength, 1) := by decide +kernel
theorem d3_11 : decode prog_13_method_3_code 11 = .ok (.if_icmp .lt 27, 3) := by decide +kernel
theorem d3_14 : decode prog_13_method_3_code 14 = .ok (.aload_n 0, 1) := by decide +kernel
theorem d3_15 : decode prog_13_method_3_code 15 = .ok (.aload_n 0, 1) := by decide +kernel
theorem d3_16 : decode prog_13_method_3_code 16 = .ok (.getfield 7, 3) := by decide +kernel
theorem d3_19 : decode prog_13_method_3_code 19 = .ok (.iload_n 2, 1) := by decide +kernel
theorem d3_20 : decode prog_13_method_3_code 20 = .ok (.iconst 1, 1) := by decide +kernel
theorem d3_21 : decode prog_13_method_3_code 21 = .ok (.iadd, 1) := by decide +kernel
theorem d3_22 : decode prog_13_method_3_code 22 = .ok (.aload_n 0, 1) := by decide +kernel
theorem d3_23 : decode prog_13_method_3_code 23 = .ok (.getfield 7, 3) := by decide +kernel
theorem d3_26 : decode prog_13_method_3_code 26 = .ok (.arraylength, 1) := by decide +kernel
theorem d3_27 : decode prog_13_method_3_code 27 = .ok (.iconst 2, 1) := by decide +kernel
theorem d3_28 : decode prog_13_method_3_code 28 = .ok (.imul, 1) := by decide +kernel
theorem d3_29 : decode prog_13_method_3_code 29 = .ok (.invokestatic 13, 3) := by decide +kernel
theorem d3_32 : decode prog_13_method_3_code 32 = .ok (.invokestatic 19, 3) := by decide +kernel
theorem d3_35 : decode prog_13_method_3_code 35 = .ok (.putfield 7, 3) := by decide +kernel
theorem d3_38 : decode prog_13_method_3_code 38 = .ok (.aload_n 0, 1) := by decide +kernel
theorem d3_39 : decode prog_13_method_3_code 39 = .ok (.getfield 7, 3) := by decide +kernel
theorem d3_42 : decode prog_13_method_3_code 42 = .ok (.iload_n 2, 1) := by decide +kernel
theorem d3_43 : decode prog_13_method_3_code 43 = .ok (.dup2, 1) := by decide +kernel
theorem d3_44 : decode prog_13_method_3_code 44 = .ok (.laload, 1) := by decide +kernel
theorem d3_45 : decode prog_13_method_3_code 45 = .ok (.lconst 1, 1) := by decide +kernel
theorem d3_46 : decode prog_13_method_3_code 46 = .ok (.iload_n 1, 1) := by decide +kernel
theorem d3_47 : decode prog_13_method_3_code 47 = .ok (.lshl, 1) := by decide +kernel
theorem d3_48 : decode prog_13_method_3_code 48 = .ok (.lor, 1) := by decide +kernel
theorem d3_49 : decode prog_13_method_3_code 49 = .ok (.lastore, 1) := by decide +kernel
theorem d3_50 : decode prog_13_method_3_code 50 = .ok (.return_, 1) := by decide +kernel
theorem own_pn3 : plainName "com/example/mangrove/mangrove/reasoner/Bits" = true := by first | (simp [plainName, overriddenIn]; done) | decide +kernel
set_option maxRecDepth 65536 in
set_option maxHeartbeats 40000000 in
theorem met_3 (l : Launch) (Z : State) (a0 : Array Value) (hw : ∀ d ∈ tables_1, d.before a0 Z = true) (h0 : Heap) (n0 : Nat) (hn : n0 ≤ h0.size) (o0 : Addr) (i1 : Int32) (nn cap : Nat) (S : Nat → Bool) (hB : own_Bs Z h0 n0 o0 nn S) (ge0 : n0 ≤ o0) (g1 : 0 ≤ i1.toInt) (g3 : max (i1.toInt.toNat / 64 + 1) (2 * nn) ≤ cap) (g4 : cap * 8 ≤ 536870912) : own_Met l Z n0 (⟨"com/example/mangrove/mangrove/reasoner/Bits", "set", "(I)V"⟩ : MethodName) prog_13_method_3_code 3 none ({ frames := 2, cells := 1, slots := cap, locals := 35 } : Room) #[(.ref o0), (.int i1)] h0 (fun v h => v = none ∧ ∃ n', n' ≤ cap ∧ own_Bs Z h n0 o0 n' (own_add S i1.toInt.toNat)) := by
  refine own_enter (L := #[.val (.ref o0), .val (.int i1), .unset]) (plainFor_of_name own_pn3) hw hn (fun m => by first | (simp [entryFrame, mkF, argsToLocals, Value.category]; done) | rfl) (fun K T hK M X => ?_)
  obtain ⟨E0, b, w, ge1, ne0, F0, V0, hn1, hS⟩ := hB
  refine own_iloadN M X d3_0 rfl rfl ?_
  refine own_bipush M X (v := (6 : Int32)) d3_1 rfl rfl ?_
  refine own_ishr M X d3_3 rfl ?_
  refine own_istoreN M X (L' := #[.val (.ref o0), .val (.int i1), .val (.int (i1 >>> ((6 : Int32) &&& 31)))]) d3_4 rfl rfl ?_
  refine own_iloadN M X d3_5 rfl rfl ?_
  refine own_aloadN M X d3_6 rfl rfl rfl ?_
  refine own_getfield M X (hw _ (List.mem_of_getElem? (i := 10) rfl)) F0 d3_7 rfl ?_
  intro T1 X2
  refine own_arraylength M X2 (z := (Int32.ofNat nn)) V0 (own_ofn V0.small) d3_10 rfl ?_
  refine own_icmp_lt M X2 d3_11 (by decide) rfl rfl (fun q3 => ?_) (fun q3 => ?_)
  · skip
    refine own_aloadN M X2 d3_38 rfl rfl rfl ?_
    refine own_getfield M X2 (hw _ (List.mem_of_getElem? (i := 10) rfl)) F0 d3_39 rfl ?_
    intro T4 X5
    refine own_iloadN M X5 d3_42 rfl rfl ?_
    refine own_dup2 M X5 d3_43 rfl rfl rfl ?_
    refine own_laload M X5 V0 (i := (i1.toInt.toNat / 64)) (own_w6 i1 g1) (by have e := q3; rw [Int32.lt_iff_toInt_lt, own_w6 i1 g1, own_ofn V0.small] at e; omega) rfl d3_44 rfl ?_
    refine own_lconst M X5 (v := (1 : Int64)) d3_45 rfl rfl ?_
    refine own_iloadN M X5 d3_46 rfl rfl ?_
    refine own_lshl M X5 d3_47 rfl ?_
    refine own_lor M X5 d3_48 rfl ?_
    refine own_lastore M X5 V0 ge1 (i := (i1.toInt.toNat / 64)) (own_w6 i1 g1) (by have e := q3; rw [Int32.lt_iff_toInt_lt, own_w6 i1 g1, own_ofn V0.small] at e; omega) d3_49 rfl ?_
    intro T6 h7 X8 K9 V10
    have E11 := E0.keep K9
    have F12 := F0.keep K9 (ninS ne0 nin0)
    exact own_retV M X8 d3_50 ⟨rfl, nn, (by omega), ⟨E11, b, own_updL w (i1.toInt.toNat / 64) ((w (i1.toInt.toNat / 64)) ||| ((1 : Int64) <<< (i1 &&& 0x3f).toInt64)), ge1, ne0, F12, V10.congr (fun j _ => own_updLV), hn1, own_setY hS g1 (by have e := q3; rw [Int32.lt_iff_toInt_lt, own_w6 i1 g1, own_ofn V0.small] at e; omega)⟩⟩
  · skip
    refine own_aloadN M X2 d3_14 rfl rfl rfl ?_
    refine own_aloadN M X2 d3_15 rfl rfl rfl ?_
    refine own_getfield M X2 (hw _ (List.mem_of_getElem? (i := 10) rfl)) F0 d3_16 rfl ?_
    intro T13 X14
    refine own_iloadN M X14 d3_19 rfl rfl ?_
    refine own_iconst M X14 (v := (1 : Int32)) d3_20 rfl rfl ?_
    refine own_iadd M X14 d3_21 rfl ?_
    refine own_aloadN M X14 d3_22 rfl rfl rfl ?_
    refine own_getfield M X14 (hw _ (List.mem_of_getElem? (i := 10) rfl)) F0 d3_23 rfl ?_
    intro T15 X16
    refine own_arraylength M X16 (z := (Int32.ofNat nn)) V0 (own_ofn V0.small) d3_26 rfl ?_
    refine own_iconst M X16 (v := (2 : Int32)) d3_27 rfl rfl ?_
    refine own_imul M X16 d3_28 rfl ?_
    refine own_callP M X16 (yrm := ({ frames := 0, cells := 0, slots := 0, locals := 0 } : Room)) [(.int ((i1 >>> ((6 : Int32) &&& 31)) + (1 : Int32))), (.int ((Int32.ofNat nn) * (2 : Int32)))] (hw _ (List.mem_of_getElem? (i := 36) rfl)) (hw _ (List.mem_of_getElem? (i := 37) rfl)) (hw _ (List.mem_of_getElem? (i := 38) rfl)) (hw _ (List.mem_of_getElem? (i := 39) rfl)) (by decide) (met_8 _ Z a0 hw h0 n0 X16.size ((i1 >>> ((6 : Int32) &&& 31)) + (1 : Int32)) ((Int32.ofNat nn) * (2 : Int32))) rfl d3_29 rfl own_pd0 rfl rfl 2 (Nat.le_of_eq rfl) (by first | exact g4 | (dsimp only; omega)) (by first | exact g4 | (dsimp only; omega)) rfl rfl ?_
    intro T17 X18
    refine own_callS M X18 (yrm := ({ frames := 1, cells := 1, slots := cap, locals := 20 } : Room)) [(.ref b), (.int (F8 ((i1 >>> ((6 : Int32) &&& 31)) + (1 : Int32)) ((Int32.ofNat nn) * (2 : Int32))))] (hw _ (List.mem_of_getElem? (i := 40) rfl)) (hw _ (List.mem_of_getElem? (i := 41) rfl)) (hw _ (List.mem_of_getElem? (i := 42) rfl)) (hw _ (List.mem_of_getElem? (i := 43) rfl)) (by decide) (met_9 _ Z a0 hw h0 n0 X18.size b (F8 ((i1 >>> ((6 : Int32) &&& 31)) + (1 : Int32)) ((Int32.ofNat nn) * (2 : Int32))) cap nn (max (i1.toInt.toNat / 64 + 1) (2 * nn)) _ V0 (own_maxv g1 V0.small g3) (by omega) g3 g4) rfl d3_32 rfl own_pd1 rfl rfl 1 (Nat.le_of_eq rfl) (by first | exact g4 | (dsimp only; omega)) (by first | exact g4 | (dsimp only; omega)) (by first | exact g4 | (dsimp only; omega)) (by first | exact g4 | (dsimp only; omega)) ?_
    rintro T24 h25 v26 X27 ⟨b19, rfl, ge20, sz21, K22, V23⟩
    have ne28 : o0 ≠ b19 := Nat.ne_of_lt (Nat.lt_of_lt_of_le E0.lt sz21)
    have ne29 : b ≠ b19 := Nat.ne_of_lt (Nat.lt_of_lt_of_le V0.lt sz21)
    have E30 := E0.keep K22
    have F31 := F0.keep K22 nin0
    have V32 := V0.keep K22 nin0
    replace V23 : own_Va Z h25 b19 .long (max (i1.toInt.toNat / 64 + 1) (2 * nn)) (fun j => .long ((fun t => if t < nn then w t else 0) j)) := V23.congr (fun t _ => by by_cases q : t < nn <;> simp [q])
    replace X27 : own_Sx n0 K T24 h25 1 (0 + cap) := X27
    show own_Fin n0 K _ T24 35 #[.val (.ref o0), .val (.int i1), .val (.int (i1 >>> ((6 : Int32) &&& 31)))] [(.ref b19), (.ref o0)]
    refine own_putfield M X27 (hw _ (List.mem_of_getElem? (i := 10) rfl)) F31 E30 (Or.inl (hw _ (List.mem_of_getElem? (i := 11) rfl))) (hw _ (List.mem_of_getElem? (i := 1) rfl)) (ty := (.array .long)) (by decide) rfl rfl ge0 d3_35 rfl ?_
    intro T33 h34 X35 W36
    have F37 := Fld.same W36 F31
    have E38 := Exa.wr W36 E30
    have V39 := V32.keep (Keep.of_wr W36) (ninS (Ne.symm ne0) nin0)
    have V40 := V23.keep (Keep.of_wr W36) (ninS (Ne.symm ne28) nin0)
    refine own_aloadN M X35 d3_38 rfl rfl rfl ?_
    refine own_getfield M X35 (hw _ (List.mem_of_getElem? (i := 10) rfl)) F37 d3_39 rfl ?_
    intro T41 X42
    refine own_iloadN M X42 d3_42 rfl rfl ?_
    refine own_dup2 M X42 d3_43 rfl rfl rfl ?_
    refine own_laload M X42 V40 (i := (i1.toInt.toNat / 64)) (own_w6 i1 g1) (by omega) rfl d3_44 rfl ?_
    refine own_lconst M X42 (v := (1 : Int64)) d3_45 rfl rfl ?_
    refine own_iloadN M X42 d3_46 rfl rfl ?_
    refine own_lshl M X42 d3_47 rfl ?_
    refine own_lor M X42 d3_48 rfl ?_
    refine own_lastore M X42 V40 ge20 (i := (i1.toInt.toNat / 64)) (own_w6 i1 g1) (by omega) d3_49 rfl ?_
    intro T43 h44 X45 K46 V47
    have E48 := E38.keep K46
    have F49 := F37.keep K46 (ninS ne28 nin0)
    have V50 := V39.keep K46 (ninS ne29 nin0)
    exact own_retV M X45 d3_50 ⟨rfl, _, g3, ⟨E48, b19, own_updL (fun t => if t < nn then w t else 0) (i1.toInt.toNat / 64) (((fun t => if t < nn then w t else 0) (i1.toInt.toNat / 64)) ||| ((1 : Int64) <<< (i1 &&& 0x3f).toInt64)), ge20, ne28, F49, (V47.congr (fun j _ => own_updLV)), (by omega), own_setY (own_grow hS (by omega)) g1 (by omega)⟩⟩
theorem own_n8 (x : Int32) : 0 ≤ (x &&& (255 : Int32)).toInt ∧ (x &&& (255 : Int32)).toInt ≤ 255 := by
  have e1 : (x &&& 255).toInt = x.toInt % 2 ^ 8 := Jvm.Kit.i32_mask x 255 (k := 8) (by decide) (by decide)
  omega
theorem own_n9 (x : Int32) : 0 ≤ (x &&& (511 : Int32)).toInt ∧ (x &&& (511 : Int32)).toInt ≤ 511 := by
  have e1 : (x &&& 511).toInt = x.toInt % 2 ^ 9 := Jvm.Kit.i32_mask x 511 (k := 9) (by decide) (by decide)
  omega
theorem own_n31 (x : Int32) : 0 ≤ (x &&& (2147483647 : Int32)).toInt ∧ (x &&& (2147483647 : Int32)).toInt ≤ 2147483647 := by
  have e1 : (x &&& 2147483647).toInt = x.toInt % 2 ^ 31 := Jvm.Kit.i32_mask x 2147483647 (k := 31) (by decide) (by decide)
  omega
theorem d7_0 : decode method_2_code 0 = .ok (.iload_n 0, 1) := by decide +kernel
theorem d7_1 : decode method_2_code 1 = .ok (.ifCond .eq 9, 3) := by decide +kernel
theorem d7_4 : decode method_2_code 4 = .ok (.iload 4, 2) := by decide +kernel
theorem d7_6 : decode method_2_code 6 = .ok (.iload_n 1, 1) := by decide +kernel
theorem d7_7 : decode method_2_code 7 = .ok (.if_icmp .eq 13, 3) := by decide +kernel
theorem d7_10 : decode method_2_code 10 = .ok (.iload_n 2, 1) := by decide +kernel
theorem d7_11 : decode method_2_code 11 = .ok (.ifCond .eq 13, 3) := by decide +kernel
theorem d7_14 : decode method_2_code 14 = .ok (.iload 4, 2) := by decide +kernel
theorem d7_16 : decode method_2_code 16 = .ok (.iload_n 3, 1) := by decide +kernel
theorem d7_17 : decode method_2_code 17 = .ok (.if_icmp .ne 7, 3) := by decide +kernel
theorem d7_20 : decode method_2_code 20 = .ok (.iconst 1, 1) := by decide +kernel
theorem d7_21 : decode method_2_code 21 = .ok (.goto 4, 3) := by decide +kernel
theorem d7_24 : decode method_2_code 24 = .ok (.iconst 0, 1) := by decide +kernel
theorem d7_25 : decode method_2_code 25 = .ok (.ireturn, 1) := by decide +kernel
def F7 (x0 : Int32) (x1 : Int32) (x2 : Int32) (x3 : Int32) (x4 : Int32) : Int32 := (if x0 = (0 : Int32) then (if x2 = (0 : Int32) then (0 : Int32) else (if x4 = x3 then (1 : Int32) else (0 : Int32))) else (if x4 = x1 then (1 : Int32) else (if x2 = (0 : Int32) then (0 : Int32) else (if x4 = x3 then (1 : Int32) else (0 : Int32)))))
theorem own_pn7 : plainName "com/example/mangrove/mangrove/reasoner/BitsClearPinLaw" = true := by first | (simp [plainName, overriddenIn]; done) | decide +kernel
set_option maxRecDepth 65536 in
set_option maxHeartbeats 40000000 in
theorem met_7 (l : Launch) (Z : State) (a0 : Array Value) (hw : ∀ d ∈ tables_1, d.before a0 Z = true) (h0 : Heap) (n0 : Nat) (hn : n0 ≤ h0.size) (x0 : Int32) (x1 : Int32) (x2 : Int32) (x3 : Int32) (x4 : Int32) : own_Met l Z n0 (⟨"com/example/mangrove/mangrove/reasoner/BitsClearPinLaw", "before", "(ZIZII)Z"⟩ : MethodName) method_2_code 5 (some .boolean) ({ frames := 0, cells := 0, slots := 0, locals := 0 } : Room) #[(.int x0), (.int x1), (.int x2), (.int x3), (.int x4)] h0 (fun v h => v = some (.int (F7 x0 x1 x2 x3 x4)) ∧ h = h0) := by
  refine own_enter (L := #[.val (.int x0), .val (.int x1), .val (.int x2), .val (.int x3), .val (.int x4)]) (plainFor_of_name own_pn7) hw hn (fun m => by first | (simp [entryFrame, mkF, argsToLocals, Value.category]; done) | rfl) (fun K T hK M X => ?_)
  refine own_iloadN M X d7_0 rfl rfl ?_
  refine own_if_eq M X d7_1 (by decide) rfl rfl (fun q1 => ?_) (fun q1 => ?_)
  · skip
    refine own_iloadN M X d7_10 rfl rfl ?_
    refine own_if_eq M X d7_11 (by decide) rfl rfl (fun q2 => ?_) (fun q2 => ?_)
    · skip
      refine own_iconst M X (v := (0 : Int32)) d7_24 rfl rfl ?_
      exact own_retN M X (z' := (0 : Int32)) (by simp) d7_25 rfl ⟨by rw [F7, if_pos q1, if_pos q2], rfl⟩
    · skip
      refine own_iload M X d7_14 rfl rfl ?_
      refine own_iloadN M X d7_16 rfl rfl ?_
      refine own_icmp_ne M X d7_17 (by decide) rfl rfl (fun q3 => ?_) (fun q3 => ?_)
      · skip
        refine own_iconst M X (v := (0 : Int32)) d7_24 rfl rfl ?_
        exact own_retN M X (z' := (0 : Int32)) (by simp) d7_25 rfl ⟨by rw [F7, if_pos q1, if_neg q2, if_neg q3], rfl⟩
      · skip
        refine own_iconst M X (v := (1 : Int32)) d7_20 rfl rfl ?_
        refine own_goto M X d7_21 (by decide) rfl ?_
        exact own_retN M X (z' := (1 : Int32)) (by simp) d7_25 rfl ⟨by rw [F7, if_pos q1, if_neg q2, if_pos q3], rfl⟩
  · skip
    refine own_iload M X d7_4 rfl rfl ?_
    refine own_iloadN M X d7_6 rfl rfl ?_
    refine own_icmp_eq M X d7_7 (by decide) rfl rfl (fun q4 => ?_) (fun q4 => ?_)
    · skip
      refine own_iconst M X (v := (1 : Int32)) d7_20 rfl rfl ?_
      refine own_goto M X d7_21 (by decide) rfl ?_
      exact own_retN M X (z' := (1 : Int32)) (by simp) d7_25 rfl ⟨by rw [F7, if_neg q1, if_pos q4], rfl⟩
    · skip
      refine own_iloadN M X d7_10 rfl rfl ?_
      refine own_if_eq M X d7_11 (by decide) rfl rfl (fun q5 => ?_) (fun q5 => ?_)
      · skip
        refine own_iconst M X (v := (0 : Int32)) d7_24 rfl rfl ?_
        exact own_retN M X (z' := (0 : Int32)) (by simp) d7_25 rfl ⟨by rw [F7, if_neg q1, if_neg q4, if_pos q5], rfl⟩
      · skip
        refine own_iload M X d7_14 rfl rfl ?_
        refine own_iloadN M X d7_16 rfl rfl ?_
        refine own_icmp_ne M X d7_17 (by decide) rfl rfl (fun q6 => ?_) (fun q6 => ?_)
        · skip
          refine own_iconst M X (v := (0 : Int32)) d7_24 rfl rfl ?_
          exact own_retN M X (z' := (0 : Int32)) (by simp) d7_25 rfl ⟨by rw [F7, if_neg q1, if_neg q4, if_neg q5, if_neg q6], rfl⟩
        · skip
          refine own_iconst M X (v := (1 : Int32)) d7_20 rfl rfl ?_
          refine own_goto M X d7_21 (by decide) rfl ?_
          exact own_retN M X (z' := (1 : Int32)) (by simp) d7_25 rfl ⟨by rw [F7, if_neg q1, if_neg q4, if_neg q5, if_pos q6], rfl⟩
theorem d6_0 : decode method_3_code 0 = .ok (.iload_n 0, 1) := by decide +kernel
theorem d6_1 : decode method_3_code 1 = .ok (.iload_n 1, 1) := by decide +kernel
theorem d6_2 : decode method_3_code 2 = .ok (.iload_n 2, 1) := by decide +kernel
theorem d6_3 : decode method_3_code 3 = .ok (.iload_n 3, 1) := by decide +kernel
theorem d6_4 : decode method_3_code 4 = .ok (.iload 5, 2) := by decide +kernel
theorem d6_6 : decode method_3_code 6 = .ok (.invokestatic 7, 3) := by decide +kernel
theorem d6_9 : decode method_3_code 9 = .ok (.ifCond .eq 14, 3) := by decide +kernel
theorem d6_12 : decode method_3_code 12 = .ok (.iload 5, 2) := by decide +kernel
theorem d6_14 : decode method_3_code 14 = .ok (.iload 4, 2) := by decide +kernel
theorem d6_16 : decode method_3_code 16 = .ok (.if_icmp .eq 7, 3) := by decide +kernel
theorem d6_19 : decode method_3_code 19 = .ok (.iconst 1, 1) := by decide +kernel
theorem d6_20 : decode method_3_code 20 = .ok (.goto 4, 3) := by decide +kernel
theorem d6_23 : decode method_3_code 23 = .ok (.iconst 0, 1) := by decide +kernel
theorem d6_24 : decode method_3_code 24 = .ok (.ireturn, 1) := by decide +kernel
def F6 (x0 : Int32) (x1 : Int32) (x2 : Int32) (x3 : Int32) (x4 : Int32) (x5 : Int32) : Int32 := (if (F7 x0 x1 x2 x3 x5) = (0 : Int32) then (0 : Int32) else (if x5 = x4 then (0 : Int32) else (1 : Int32)))
theorem own_pn6 : plainName "com/example/mangrove/mangrove/reasoner/BitsClearPinLaw" = true := by first | (simp [plainName, overriddenIn]; done) | decide +kernel
set_option maxRecDepth 65536 in
set_option maxHeartbeats 40000000 in
theorem met_6 (l : Launch) (Z : State) (a0 : Array Value) (hw : ∀ d ∈ tables_1, d.before a0 Z = true) (h0 : Heap) (n0 : Nat) (hn : n0 ≤ h0.size) (x0 : Int32) (x1 : Int32) (x2 : Int32) (x3 : Int32) (x4 : Int32) (x5 : Int32) : own_Met l Z n0 (⟨"com/example/mangrove/mangrove/reasoner/BitsClearPinLaw", "after", "(ZIZIII)Z"⟩ : MethodName) method_3_code 6 (some .boolean) ({ frames := 1, cells := 0, slots := 0, locals := 16 } : Room) #[(.int x0), (.int x1), (.int x2), (.int x3), (.int x4), (.int x5)] h0 (fun v h => v = some (.int (F6 x0 x1 x2 x3 x4 x5)) ∧ h = h0) := by
  refine own_enter (L := #[.val (.int x0), .val (.int x1), .val (.int x2), .val (.int x3), .val (.int x4), .val (.int x5)]) (plainFor_of_name own_pn6) hw hn (fun m => by first | (simp [entryFrame, mkF, argsToLocals, Value.category]; done) | rfl) (fun K T hK M X => ?_)
  refine own_iloadN M X d6_0 rfl rfl ?_
  refine own_iloadN M X d6_1 rfl rfl ?_
  refine own_iloadN M X d6_2 rfl rfl ?_
  refine own_iloadN M X d6_3 rfl rfl ?_
  refine own_iload M X d6_4 rfl rfl ?_
  refine own_callP M X (yrm := ({ frames := 0, cells := 0, slots := 0, locals := 0 } : Room)) [(.int x0), (.int x1), (.int x2), (.int x3), (.int x5)] (hw _ (List.mem_of_getElem? (i := 32) rfl)) (hw _ (List.mem_of_getElem? (i := 33) rfl)) (hw _ (List.mem_of_getElem? (i := 30) rfl)) (hw _ (List.mem_of_getElem? (i := 34) rfl)) (by decide) (met_7 _ Z a0 hw h0 n0 X.size x0 x1 x2 x3 x5) rfl d6_6 rfl own_pd2 rfl rfl 0 (Nat.le_of_eq rfl) (by decide) (by decide) rfl rfl ?_
  intro T1 X2
  refine own_if_eq M X2 d6_9 (by decide) rfl rfl (fun q3 => ?_) (fun q3 => ?_)
  · skip
    refine own_iconst M X2 (v := (0 : Int32)) d6_23 rfl rfl ?_
    exact own_retN M X2 (z' := (0 : Int32)) (by simp) d6_24 rfl ⟨by rw [F6, if_pos q3], rfl⟩
  · skip
    refine own_iload M X2 d6_12 rfl rfl ?_
    refine own_iload M X2 d6_14 rfl rfl ?_
    refine own_icmp_eq M X2 d6_16 (by decide) rfl rfl (fun q4 => ?_) (fun q4 => ?_)
    · skip
      refine own_iconst M X2 (v := (0 : Int32)) d6_23 rfl rfl ?_
      exact own_retN M X2 (z' := (0 : Int32)) (by simp) d6_24 rfl ⟨by rw [F6, if_neg q3, if_pos q4], rfl⟩
    · skip
      refine own_iconst M X2 (v := (1 : Int32)) d6_19 rfl rfl ?_
      refine own_goto M X2 d6_20 (by decide) rfl ?_
      exact own_retN M X2 (z' := (1 : Int32)) (by simp) d6_24 rfl ⟨by rw [F6, if_neg q3, if_neg q4], rfl⟩
def g0_14_l8 (u5 : Int32) : Int32 := (if (u5 &&& (1 : Int32)) = (0 : Int32) then (0 : Int32) else (1 : Int32))
set_option maxRecDepth 65536 in
set_option maxHeartbeats 40000000 in
theorem sg0_14 (l : Launch) (Z : State) (a0 : Array Value) (hw : ∀ d ∈ tables_1, d.before a0 Z = true) {n0 : Nat} {K : own_Cx} {P : Option Value → Heap → Prop} {T : State} {h : Heap} {cl sl : Nat} (M : own_Mx Z a0 K code "com/example/mangrove/mangrove/reasoner/BitsClearPinLaw" maxLocals ret room_1) (X : own_Sx n0 K T h cl sl) (u0 : Int32) (u1 : Int32) (u2 : Int32) (u3 : Int32) (u4 : Int32) (u5 : Int32) (u6 : Int32) (u7 : Int32)
    (hr : ∀ T', own_Sx n0 K T' h cl sl → own_Fin n0 K P T' 28 #[.val (.int u0), .val (.int u1), .val (.int u2), .val (.int u3), .val (.int u4), .val (.int u5), .val (.int u6), .val (.int u7), .val (.int (g0_14_l8 u5)), .unset, .unset, .unset, .unset, .unset, .unset] []) : own_Fin n0 K P T 14 #[.val (.int u0), .val (.int u1), .val (.int u2), .val (.int u3), .val (.int u4), .val (.int u5), .val (.int u6), .val (.int u7), .unset, .unset, .unset, .unset, .unset, .unset, .unset] [] := by
  refine own_iload M X at_14 rfl rfl ?_
  refine own_iconst M X (v := (1 : Int32)) at_16 rfl rfl ?_
  refine own_iand M X at_17 rfl ?_
  refine own_if_eq M X at_18 (by decide) rfl rfl (fun q1 => ?_) (fun q1 => ?_)
  · skip
    refine own_iconst M X (v := (0 : Int32)) at_25 rfl rfl ?_
    refine own_istore M X (L' := #[.val (.int u0), .val (.int u1), .val (.int u2), .val (.int u3), .val (.int u4), .val (.int u5), .val (.int u6), .val (.int u7), .val (.int (0 : Int32)), .unset, .unset, .unset, .unset, .unset, .unset]) at_26 rfl rfl ?_
    have hr1 := hr T X
    rw [g0_14_l8, if_pos q1] at hr1
    exact hr1
  · skip
    refine own_iconst M X (v := (1 : Int32)) at_21 rfl rfl ?_
    refine own_goto M X at_22 (by decide) rfl ?_
    refine own_istore M X (L' := #[.val (.int u0), .val (.int u1), .val (.int u2), .val (.int u3), .val (.int u4), .val (.int u5), .val (.int u6), .val (.int u7), .val (.int (1 : Int32)), .unset, .unset, .unset, .unset, .unset, .unset]) at_26 rfl rfl ?_
    have hr1 := hr T X
    rw [g0_14_l8, if_neg q1] at hr1
    exact hr1
def g0_28_l9 (u5 : Int32) : Int32 := (if (u5 &&& (2 : Int32)) = (0 : Int32) then (0 : Int32) else (1 : Int32))
set_option maxRecDepth 65536 in
set_option maxHeartbeats 40000000 in
theorem sg0_28 (l : Launch) (Z : State) (a0 : Array Value) (hw : ∀ d ∈ tables_1, d.before a0 Z = true) {n0 : Nat} {K : own_Cx} {P : Option Value → Heap → Prop} {T : State} {h : Heap} {cl sl : Nat} (M : own_Mx Z a0 K code "com/example/mangrove/mangrove/reasoner/BitsClearPinLaw" maxLocals ret room_1) (X : own_Sx n0 K T h cl sl) (u0 : Int32) (u1 : Int32) (u2 : Int32) (u3 : Int32) (u4 : Int32) (u5 : Int32) (u6 : Int32) (u7 : Int32) (u8 : Int32)
    (hr : ∀ T', own_Sx n0 K T' h cl sl → own_Fin n0 K P T' 42 #[.val (.int u0), .val (.int u1), .val (.int u2), .val (.int u3), .val (.int u4), .val (.int u5), .val (.int u6), .val (.int u7), .val (.int u8), .val (.int (g0_28_l9 u5)), .unset, .unset, .unset, .unset, .unset] []) : own_Fin n0 K P T 28 #[.val (.int u0), .val (.int u1), .val (.int u2), .val (.int u3), .val (.int u4), .val (.int u5), .val (.int u6), .val (.int u7), .val (.int u8), .unset, .unset, .unset, .unset, .unset, .unset] [] := by
  refine own_iload M X at_28 rfl rfl ?_
  refine own_iconst M X (v := (2 : Int32)) at_30 rfl rfl ?_
  refine own_iand M X at_31 rfl ?_
  refine own_if_eq M X at_32 (by decide) rfl rfl (fun q1 => ?_) (fun q1 => ?_)
  · skip
    refine own_iconst M X (v := (0 : Int32)) at_39 rfl rfl ?_
    refine own_istore M X (L' := #[.val (.int u0), .val (.int u1), .val (.int u2), .val (.int u3), .val (.int u4), .val (.int u5), .val (.int u6), .val (.int u7), .val (.int u8), .val (.int (0 : Int32)), .unset, .unset, .unset, .unset, .unset]) at_40 rfl rfl ?_
    have hr1 := hr T X
    rw [g0_28_l9, if_pos q1] at hr1
    exact hr1
  · skip
    refine own_iconst M X (v := (1 : Int32)) at_35 rfl rfl ?_
    refine own_goto M X at_36 (by decide) rfl ?_
    refine own_istore M X (L' := #[.val (.int u0), .val (.int u1), .val (.int u2), .val (.int u3), .val (.int u4), .val (.int u5), .val (.int u6), .val (.int u7), .val (.int u8), .val (.int (1 : Int32)), .unset, .unset, .unset, .unset, .unset]) at_40 rfl rfl ?_
    have hr1 := hr T X
    rw [g0_28_l9, if_neg q1] at hr1
    exact hr1
def g0_47_l11 (u3 : Int32) (u6 : Int32) (u7 : Int32) (u10 : Int32) : Int32 := (if u10 = (0 : Int32) then u6 else (if u10 = (1 : Int32) then u7 else (if u10 = (2 : Int32) then (u3 &&& (511 : Int32)) else (u3 &&& (2147483647 : Int32)))))
set_option maxRecDepth 65536 in
set_option maxHeartbeats 40000000 in
theorem sg0_47 (l : Launch) (Z : State) (a0 : Array Value) (hw : ∀ d ∈ tables_1, d.before a0 Z = true) {n0 : Nat} {K : own_Cx} {P : Option Value → Heap → Prop} {T : State} {h : Heap} {cl sl : Nat} (M : own_Mx Z a0 K code "com/example/mangrove/mangrove/reasoner/BitsClearPinLaw" maxLocals ret room_1) (X : own_Sx n0 K T h cl sl) (u0 : Int32) (u1 : Int32) (u2 : Int32) (u3 : Int32) (u4 : Int32) (u5 : Int32) (u6 : Int32) (u7 : Int32) (u8 : Int32) (u9 : Int32) (u10 : Int32)
    (hr : ∀ T', own_Sx n0 K T' h cl sl → own_Fin n0 K P T' 94 #[.val (.int u0), .val (.int u1), .val (.int u2), .val (.int u3), .val (.int u4), .val (.int u5), .val (.int u6), .val (.int u7), .val (.int u8), .val (.int u9), .val (.int u10), .val (.int (g0_47_l11 u3 u6 u7 u10)), .unset, .unset, .unset] []) : own_Fin n0 K P T 47 #[.val (.int u0), .val (.int u1), .val (.int u2), .val (.int u3), .val (.int u4), .val (.int u5), .val (.int u6), .val (.int u7), .val (.int u8), .val (.int u9), .val (.int u10), .unset, .unset, .unset, .unset] [] := by
  refine own_iload M X at_47 rfl rfl ?_
  refine own_if_ne M X at_49 (by decide) rfl rfl (fun q1 => ?_) (fun q1 => ?_)
  · skip
    refine own_iload M X at_59 rfl rfl ?_
    refine own_iconst M X (v := (1 : Int32)) at_61 rfl rfl ?_
    refine own_icmp_ne M X at_62 (by decide) rfl rfl (fun q2 => ?_) (fun q2 => ?_)
    · skip
      refine own_iload M X at_72 rfl rfl ?_
      refine own_iconst M X (v := (2 : Int32)) at_74 rfl rfl ?_
      refine own_icmp_ne M X at_75 (by decide) rfl rfl (fun q3 => ?_) (fun q3 => ?_)
      · skip
        refine own_iloadN M X at_88 rfl rfl ?_
        refine own_ldc M X (hw _ (List.mem_of_getElem? (i := 35) rfl)) at_89 rfl ?_
        refine own_iand M X at_91 rfl ?_
        refine own_istore M X (L' := #[.val (.int u0), .val (.int u1), .val (.int u2), .val (.int u3), .val (.int u4), .val (.int u5), .val (.int u6), .val (.int u7), .val (.int u8), .val (.int u9), .val (.int u10), .val (.int (u3 &&& (2147483647 : Int32))), .unset, .unset, .unset]) at_92 rfl rfl ?_
        have hr1 := hr T X
        rw [g0_47_l11, if_neg q1, if_neg q2, if_neg q3] at hr1
        exact hr1
      · skip
        refine own_iloadN M X at_78 rfl rfl ?_
        refine own_sipush M X (v := (511 : Int32)) at_79 rfl rfl ?_
        refine own_iand M X at_82 rfl ?_
        refine own_istore M X (L' := #[.val (.int u0), .val (.int u1), .val (.int u2), .val (.int u3), .val (.int u4), .val (.int u5), .val (.int u6), .val (.int u7), .val (.int u8), .val (.int u9), .val (.int u10), .val (.int (u3 &&& (511 : Int32))), .unset, .unset, .unset]) at_83 rfl rfl ?_
        refine own_goto M X at_85 (by decide) rfl ?_
        have hr1 := hr T X
        rw [g0_47_l11, if_neg q1, if_neg q2, if_pos q3] at hr1
        exact hr1
    · skip
      refine own_iload M X at_65 rfl rfl ?_
      refine own_istore M X (L' := #[.val (.int u0), .val (.int u1), .val (.int u2), .val (.int u3), .val (.int u4), .val (.int u5), .val (.int u6), .val (.int u7), .val (.int u8), .val (.int u9), .val (.int u10), .val (.int u7), .unset, .unset, .unset]) at_67 rfl rfl ?_
      refine own_goto M X at_69 (by decide) rfl ?_
      have hr1 := hr T X
      rw [g0_47_l11, if_neg q1, if_pos q2] at hr1
      exact hr1
  · skip
    refine own_iload M X at_52 rfl rfl ?_
    refine own_istore M X (L' := #[.val (.int u0), .val (.int u1), .val (.int u2), .val (.int u3), .val (.int u4), .val (.int u5), .val (.int u6), .val (.int u7), .val (.int u8), .val (.int u9), .val (.int u10), .val (.int u6), .unset, .unset, .unset]) at_54 rfl rfl ?_
    refine own_goto M X at_56 (by decide) rfl ?_
    have hr1 := hr T X
    rw [g0_47_l11, if_pos q1] at hr1
    exact hr1
theorem own_qn (x0 x1 x2 x3 : Int32) : 0 ≤ (g0_47_l11 x3 (x0 &&& (255 : Int32)) (x1 &&& (255 : Int32)) (x2 &&& (3 : Int32))).toInt := by
  have h1 := own_n8 x0; have h2 := own_n8 x1; have h3 := own_n9 x3; have h4 := own_n31 x3
  unfold g0_47_l11
  repeat' split
  all_goals omega
def F0 (x0 : Int32) (x1 : Int32) (x2 : Int32) (x3 : Int32) (x4 : Int32) (x5 : Int32) : Int32 := (if (g0_14_l8 x5) = (0 : Int32) then (if (g0_28_l9 x5) = (0 : Int32) then (if (own_has (own_del (fun _ => false) (g0_47_l11 x3 (x0 &&& (255 : Int32)) (x1 &&& (255 : Int32)) (x2 &&& (3 : Int32))).toInt.toNat) (g0_47_l11 x3 (x0 &&& (255 : Int32)) (x1 &&& (255 : Int32)) (x2 &&& (3 : Int32))).toInt.toNat) = (0 : Int32) then (if (own_has (own_del (fun _ => false) (g0_47_l11 x3 (x0 &&& (255 : Int32)) (x1 &&& (255 : Int32)) (x2 &&& (3 : Int32))).toInt.toNat) (x0 &&& (255 : Int32)).toInt.toNat) = (F6 (g0_14_l8 x5) (x0 &&& (255 : Int32)) (g0_28_l9 x5) (x1 &&& (255 : Int32)) (g0_47_l11 x3 (x0 &&& (255 : Int32)) (x1 &&& (255 : Int32)) (x2 &&& (3 : Int32))) (x0 &&& (255 : Int32))) then (if (own_has (own_del (fun _ => false) (g0_47_l11 x3 (x0 &&& (255 : Int32)) (x1 &&& (255 : Int32)) (x2 &&& (3 : Int32))).toInt.toNat) (x1 &&& (255 : Int32)).toInt.toNat) = (F6 (g0_14_l8 x5) (x0 &&& (255 : Int32)) (g0_28_l9 x5) (x1 &&& (255 : Int32)) (g0_47_l11 x3 (x0 &&& (255 : Int32)) (x1 &&& (255 : Int32)) (x2 &&& (3 : Int32))) (x1 &&& (255 : Int32))) then (if (own_has (own_del (fun _ => false) (g0_47_l11 x3 (x0 &&& (255 : Int32)) (x1 &&& (255 : Int32)) (x2 &&& (3 : Int32))).toInt.toNat) (x4 &&& (511 : Int32)).toInt.toNat) = (F6 (g0_14_l8 x5) (x0 &&& (255 : Int32)) (g0_28_l9 x5) (x1 &&& (255 : Int32)) (g0_47_l11 x3 (x0 &&& (255 : Int32)) (x1 &&& (255 : Int32)) (x2 &&& (3 : Int32))) (x4 &&& (511 : Int32))) then (1 : Int32) else (0 : Int32)) else (0 : Int32)) else (0 : Int32)) else (0 : Int32)) else (if (own_has (own_del (own_add (fun _ => false) (x1 &&& (255 : Int32)).toInt.toNat) (g0_47_l11 x3 (x0 &&& (255 : Int32)) (x1 &&& (255 : Int32)) (x2 &&& (3 : Int32))).toInt.toNat) (g0_47_l11 x3 (x0 &&& (255 : Int32)) (x1 &&& (255 : Int32)) (x2 &&& (3 : Int32))).toInt.toNat) = (0 : Int32) then (if (own_has (own_del (own_add (fun _ => false) (x1 &&& (255 : Int32)).toInt.toNat) (g0_47_l11 x3 (x0 &&& (255 : Int32)) (x1 &&& (255 : Int32)) (x2 &&& (3 : Int32))).toInt.toNat) (x0 &&& (255 : Int32)).toInt.toNat) = (F6 (g0_14_l8 x5) (x0 &&& (255 : Int32)) (g0_28_l9 x5) (x1 &&& (255 : Int32)) (g0_47_l11 x3 (x0 &&& (255 : Int32)) (x1 &&& (255 : Int32)) (x2 &&& (3 : Int32))) (x0 &&& (255 : Int32))) then (if (own_has (own_del (own_add (fun _ => false) (x1 &&& (255 : Int32)).toInt.toNat) (g0_47_l11 x3 (x0 &&& (255 : Int32)) (x1 &&& (255 : Int32)) (x2 &&& (3 : Int32))).toInt.toNat) (x1 &&& (255 : Int32)).toInt.toNat) = (F6 (g0_14_l8 x5) (x0 &&& (255 : Int32)) (g0_28_l9 x5) (x1 &&& (255 : Int32)) (g0_47_l11 x3 (x0 &&& (255 : Int32)) (x1 &&& (255 : Int32)) (x2 &&& (3 : Int32))) (x1 &&& (255 : Int32))) then (if (own_has (own_del (own_add (fun _ => false) (x1 &&& (255 : Int32)).toInt.toNat) (g0_47_l11 x3 (x0 &&& (255 : Int32)) (x1 &&& (255 : Int32)) (x2 &&& (3 : Int32))).toInt.toNat) (x4 &&& (511 : Int32)).toInt.toNat) = (F6 (g0_14_l8 x5) (x0 &&& (255 : Int32)) (g0_28_l9 x5) (x1 &&& (255 : Int32)) (g0_47_l11 x3 (x0 &&& (255 : Int32)) (x1 &&& (255 : Int32)) (x2 &&& (3 : Int32))) (x4 &&& (511 : Int32))) then (1 : Int32) else (0 : Int32)) else (0 : Int32)) else (0 : Int32)) else (0 : Int32))) else (if (g0_28_l9 x5) = (0 : Int32) then (if (own_has (own_del (own_add (fun _ => false) (x0 &&& (255 : Int32)).toInt.toNat) (g0_47_l11 x3 (x0 &&& (255 : Int32)) (x1 &&& (255 : Int32)) (x2 &&& (3 : Int32))).toInt.toNat) (g0_47_l11 x3 (x0 &&& (255 : Int32)) (x1 &&& (255 : Int32)) (x2 &&& (3 : Int32))).toInt.toNat) = (0 : Int32) then (if (own_has (own_del (own_add (fun _ => false) (x0 &&& (255 : Int32)).toInt.toNat) (g0_47_l11 x3 (x0 &&& (255 : Int32)) (x1 &&& (255 : Int32)) (x2 &&& (3 : Int32))).toInt.toNat) (x0 &&& (255 : Int32)).toInt.toNat) = (F6 (g0_14_l8 x5) (x0 &&& (255 : Int32)) (g0_28_l9 x5) (x1 &&& (255 : Int32)) (g0_47_l11 x3 (x0 &&& (255 : Int32)) (x1 &&& (255 : Int32)) (x2 &&& (3 : Int32))) (x0 &&& (255 : Int32))) then (if (own_has (own_del (own_add (fun _ => false) (x0 &&& (255 : Int32)).toInt.toNat) (g0_47_l11 x3 (x0 &&& (255 : Int32)) (x1 &&& (255 : Int32)) (x2 &&& (3 : Int32))).toInt.toNat) (x1 &&& (255 : Int32)).toInt.toNat) = (F6 (g0_14_l8 x5) (x0 &&& (255 : Int32)) (g0_28_l9 x5) (x1 &&& (255 : Int32)) (g0_47_l11 x3 (x0 &&& (255 : Int32)) (x1 &&& (255 : Int32)) (x2 &&& (3 : Int32))) (x1 &&& (255 : Int32))) then (if (own_has (own_del (own_add (fun _ => false) (x0 &&& (255 : Int32)).toInt.toNat) (g0_47_l11 x3 (x0 &&& (255 : Int32)) (x1 &&& (255 : Int32)) (x2 &&& (3 : Int32))).toInt.toNat) (x4 &&& (511 : Int32)).toInt.toNat) = (F6 (g0_14_l8 x5) (x0 &&& (255 : Int32)) (g0_28_l9 x5) (x1 &&& (255 : Int32)) (g0_47_l11 x3 (x0 &&& (255 : Int32)) (x1 &&& (255 : Int32)) (x2 &&& (3 : Int32))) (x4 &&& (511 : Int32))) then (1 : Int32) else (0 : Int32)) else (0 : Int32)) else (0 : Int32)) else (0 : Int32)) else (if (own_has (own_del (own_add (own_add (fun _ => false) (x0 &&& (255 : Int32)).toInt.toNat) (x1 &&& (255 : Int32)).toInt.toNat) (g0_47_l11 x3 (x0 &&& (255 : Int32)) (x1 &&& (255 : Int32)) (x2 &&& (3 : Int32))).toInt.toNat) (g0_47_l11 x3 (x0 &&& (255 : Int32)) (x1 &&& (255 : Int32)) (x2 &&& (3 : Int32))).toInt.toNat) = (0 : Int32) then (if (own_has (own_del (own_add (own_add (fun _ => false) (x0 &&& (255 : Int32)).toInt.toNat) (x1 &&& (255 : Int32)).toInt.toNat) (g0_47_l11 x3 (x0 &&& (255 : Int32)) (x1 &&& (255 : Int32)) (x2 &&& (3 : Int32))).toInt.toNat) (x0 &&& (255 : Int32)).toInt.toNat) = (F6 (g0_14_l8 x5) (x0 &&& (255 : Int32)) (g0_28_l9 x5) (x1 &&& (255 : Int32)) (g0_47_l11 x3 (x0 &&& (255 : Int32)) (x1 &&& (255 : Int32)) (x2 &&& (3 : Int32))) (x0 &&& (255 : Int32))) then (if (own_has (own_del (own_add (own_add (fun _ => false) (x0 &&& (255 : Int32)).toInt.toNat) (x1 &&& (255 : Int32)).toInt.toNat) (g0_47_l11 x3 (x0 &&& (255 : Int32)) (x1 &&& (255 : Int32)) (x2 &&& (3 : Int32))).toInt.toNat) (x1 &&& (255 : Int32)).toInt.toNat) = (F6 (g0_14_l8 x5) (x0 &&& (255 : Int32)) (g0_28_l9 x5) (x1 &&& (255 : Int32)) (g0_47_l11 x3 (x0 &&& (255 : Int32)) (x1 &&& (255 : Int32)) (x2 &&& (3 : Int32))) (x1 &&& (255 : Int32))) then (if (own_has (own_del (own_add (own_add (fun _ => false) (x0 &&& (255 : Int32)).toInt.toNat) (x1 &&& (255 : Int32)).toInt.toNat) (g0_47_l11 x3 (x0 &&& (255 : Int32)) (x1 &&& (255 : Int32)) (x2 &&& (3 : Int32))).toInt.toNat) (x4 &&& (511 : Int32)).toInt.toNat) = (F6 (g0_14_l8 x5) (x0 &&& (255 : Int32)) (g0_28_l9 x5) (x1 &&& (255 : Int32)) (g0_47_l11 x3 (x0 &&& (255 : Int32)) (x1 &&& (255 : Int32)) (x2 &&& (3 : Int32))) (x4 &&& (511 : Int32))) then (1 : Int32) else (0 : Int32)) else (0 : Int32)) else (0 : Int32)) else (0 : Int32))))
theorem own_pn0 : plainName "com/example/mangrove/mangrove/reasoner/BitsClearPinLaw" = true := by first | (simp [plainName, overriddenIn]; done) | decide +kernel
set_option maxRecDepth 65536 in
set_option maxHeartbeats 40000000 in
theorem met_0 (l : Launch) (Z : State) (a0 : Array Value) (hw : ∀ d ∈ tables_1, d.before a0 Z = true) (h0 : Heap) (n0 : Nat) (hn : n0 ≤ h0.size) (x0 : Int32) (x1 : Int32) (x2 : Int32) (x3 : Int32) (x4 : Int32) (x5 : Int32) : own_Met l Z n0 x code maxLocals ret room_1 #[(.int x0), (.int x1), (.int x2), (.int x3), (.int x4), (.int x5)] h0 (fun v h => v = some (.int (F0 x0 x1 x2 x3 x4 x5))) := by
  refine own_enter (L := #[.val (.int x0), .val (.int x1), .val (.int x2), .val (.int x3), .val (.int x4), .val (.int x5), .unset, .unset, .unset, .unset, .unset, .unset, .unset, .unset, .unset]) (plainFor_of_name own_pn0) hw hn (fun m => by first | (simp [entryFrame, mkF, argsToLocals, Value.category, maxLocals]; done) | rfl) (fun K T hK M X => ?_)
  refine own_iloadN M X at_0 rfl rfl ?_
  refine own_sipush M X (v := (255 : Int32)) at_1 rfl rfl ?_
  refine own_iand M X at_4 rfl ?_
  refine own_istore M X (L' := #[.val (.int x0), .val (.int x1), .val (.int x2), .val (.int x3), .val (.int x4), .val (.int x5), .val (.int (x0 &&& (255 : Int32))), .unset, .unset, .unset, .unset, .unset, .unset, .unset, .unset]) at_5 rfl rfl ?_
  refine own_iloadN M X at_7 rfl rfl ?_
  refine own_sipush M X (v := (255 : Int32)) at_8 rfl rfl ?_
  refine own_iand M X at_11 rfl ?_
  refine own_istore M X (L' := #[.val (.int x0), .val (.int x1), .val (.int x2), .val (.int x3), .val (.int x4), .val (.int x5), .val (.int (x0 &&& (255 : Int32))), .val (.int (x1 &&& (255 : Int32))), .unset, .unset, .unset, .unset, .unset, .unset, .unset]) at_12 rfl rfl ?_
  refine sg0_14 l Z a0 hw M X x0 x1 x2 x3 x4 x5 (x0 &&& (255 : Int32)) (x1 &&& (255 : Int32)) (fun T1 X2 => ?_)
  refine sg0_28 l Z a0 hw M X2 x0 x1 x2 x3 x4 x5 (x0 &&& (255 : Int32)) (x1 &&& (255 : Int32)) (g0_14_l8 x5) (fun T3 X4 => ?_)
  refine own_iloadN M X4 at_42 rfl rfl ?_
  refine own_iconst M X4 (v := (3 : Int32)) at_43 rfl rfl ?_
  refine own_iand M X4 at_44 rfl ?_
  refine own_istore M X4 (L' := #[.val (.int x0), .val (.int x1), .val (.int x2), .val (.int x3), .val (.int x4), .val (.int x5), .val (.int (x0 &&& (255 : Int32))), .val (.int (x1 &&& (255 : Int32))), .val (.int (g0_14_l8 x5)), .val (.int (g0_28_l9 x5)), .val (.int (x2 &&& (3 : Int32))), .unset, .unset, .unset, .unset]) at_45 rfl rfl ?_
  refine sg0_47 l Z a0 hw M X4 x0 x1 x2 x3 x4 x5 (x0 &&& (255 : Int32)) (x1 &&& (255 : Int32)) (g0_14_l8 x5) (g0_28_l9 x5) (x2 &&& (3 : Int32)) (fun T5 X6 => ?_)
  refine own_iload M X6 at_94 rfl rfl ?_
  refine own_sipush M X6 (v := (511 : Int32)) at_96 rfl rfl ?_
  refine own_iand M X6 at_99 rfl ?_
  refine own_istore M X6 (L' := #[.val (.int x0), .val (.int x1), .val (.int x2), .val (.int x3), .val (.int x4), .val (.int x5), .val (.int (x0 &&& (255 : Int32))), .val (.int (x1 &&& (255 : Int32))), .val (.int (g0_14_l8 x5)), .val (.int (g0_28_l9 x5)), .val (.int (x2 &&& (3 : Int32))), .val (.int (g0_47_l11 x3 (x0 &&& (255 : Int32)) (x1 &&& (255 : Int32)) (x2 &&& (3 : Int32)))), .val (.int (x4 &&& (511 : Int32))), .unset, .unset]) at_100 rfl rfl ?_
  refine own_new M X6 (hw _ (List.mem_of_getElem? (i := 0) rfl)) (hw _ (List.mem_of_getElem? (i := 1) rfl)) (hw _ (List.mem_of_getElem? (i := 2) rfl)) at_102 rfl (by decide) (by decide) ?_
  intro T7 h8 a9 ge10 gs11 X12 E13 A14 D15
  have F16 : Fld Z h8 a9 "com/example/mangrove/mangrove/reasoner/Bits" "words" "[J" .null := D15 (Or.inl (hw _ (List.mem_of_getElem? (i := 11) rfl))) (ty := (.array .long)) (by decide)
  refine own_dup M X12 at_105 rfl rfl ?_
  refine own_callN M X12 (yrm := ({ frames := 1, cells := 1, slots := 1, locals := 12 } : Room)) [] (hw _ (List.mem_of_getElem? (i := 3) rfl)) (hw _ (List.mem_of_getElem? (i := 4) rfl)) (hw _ (List.mem_of_getElem? (i := 2) rfl)) (hw _ (List.mem_of_getElem? (i := 5) rfl)) (by decide) rfl rfl (met_1 _ Z a0 hw h8 n0 X12.size a9 ge10 A14 F16) rfl at_106 rfl own_pd3 rfl rfl 1 (Nat.le_of_eq rfl) (by decide) (by decide) (by decide) (by decide) ?_
  rintro T19 h20 v21 X22 ⟨rfl, B17, K18⟩
  have E23 := B17.1
  replace X22 : own_Sx n0 K T19 h20 2 2 := X22
  show own_Fin n0 K _ T19 109 #[.val (.int x0), .val (.int x1), .val (.int x2), .val (.int x3), .val (.int x4), .val (.int x5), .val (.int (x0 &&& (255 : Int32))), .val (.int (x1 &&& (255 : Int32))), .val (.int (g0_14_l8 x5)), .val (.int (g0_28_l9 x5)), .val (.int (x2 &&& (3 : Int32))), .val (.int (g0_47_l11 x3 (x0 &&& (255 : Int32)) (x1 &&& (255 : Int32)) (x2 &&& (3 : Int32)))), .val (.int (x4 &&& (511 : Int32))), .unset, .unset] [(.ref a9)]
  refine own_astore M X22 (L' := #[.val (.int x0), .val (.int x1), .val (.int x2), .val (.int x3), .val (.int x4), .val (.int x5), .val (.int (x0 &&& (255 : Int32))), .val (.int (x1 &&& (255 : Int32))), .val (.int (g0_14_l8 x5)), .val (.int (g0_28_l9 x5)), .val (.int (x2 &&& (3 : Int32))), .val (.int (g0_47_l11 x3 (x0 &&& (255 : Int32)) (x1 &&& (255 : Int32)) (x2 &&& (3 : Int32)))), .val (.int (x4 &&& (511 : Int32))), .val (.ref a9), .unset]) at_109 rfl rfl rfl ?_
  refine own_iload M X22 at_111 rfl rfl ?_
  refine own_if_eq M X22 at_113 (by decide) rfl rfl (fun q24 => ?_) (fun q24 => ?_)
  · skip
    refine own_iload M X22 at_123 rfl rfl ?_
    refine own_if_eq M X22 at_125 (by decide) rfl rfl (fun q25 => ?_) (fun q25 => ?_)
    · skip
      refine own_aload M X22 at_135 rfl rfl rfl ?_
      refine own_iload M X22 at_137 rfl rfl ?_
      refine own_callV M X22 (yrm := ({ frames := 0, cells := 0, slots := 0, locals := 0 } : Room)) [(.int (g0_47_l11 x3 (x0 &&& (255 : Int32)) (x1 &&& (255 : Int32)) (x2 &&& (3 : Int32))))] (hw _ (List.mem_of_getElem? (i := 17) rfl)) (hw _ (List.mem_of_getElem? (i := 19) rfl)) (hw _ (List.mem_of_getElem? (i := 18) rfl)) (hw _ (List.mem_of_getElem? (i := 20) rfl)) (hw _ (List.mem_of_getElem? (i := 2) rfl)) (hw _ (List.mem_of_getElem? (i := 21) rfl)) (by decide) E23 (met_4 _ Z a0 hw h20 n0 X22.size a9 (g0_47_l11 x3 (x0 &&& (255 : Int32)) (x1 &&& (255 : Int32)) (x2 &&& (3 : Int32))) 1 (fun _ => false) B17 ge10 (own_qn x0 x1 x2 x3)) rfl at_139 rfl own_pd4 rfl rfl 0 (Nat.le_of_eq rfl) (by decide) (by decide) (by decide) (by decide) ?_
      rintro T27 h28 v29 X30 ⟨rfl, B26⟩
      have E31 := B26.1
      replace X30 : own_Sx n0 K T27 h28 2 2 := X30
      show own_Fin n0 K _ T27 142 #[.val (.int x0), .val (.int x1), .val (.int x2), .val (.int x3), .val (.int x4), .val (.int x5), .val (.int (x0 &&& (255 : Int32))), .val (.int (x1 &&& (255 : Int32))), .val (.int (g0_14_l8 x5)), .val (.int (g0_28_l9 x5)), .val (.int (x2 &&& (3 : Int32))), .val (.int (g0_47_l11 x3 (x0 &&& (255 : Int32)) (x1 &&& (255 : Int32)) (x2 &&& (3 : Int32)))), .val (.int (x4 &&& (511 : Int32))), .val (.ref a9), .unset] []
      refine own_aload M X30 at_142 rfl rfl rfl ?_
      refine own_iload M X30 at_144 rfl rfl ?_
      refine own_callVP M X30 (yrm := ({ frames := 0, cells := 0, slots := 0, locals := 0 } : Room)) [(.int (g0_47_l11 x3 (x0 &&& (255 : Int32)) (x1 &&& (255 : Int32)) (x2 &&& (3 : Int32))))] (hw _ (List.mem_of_getElem? (i := 23) rfl)) (hw _ (List.mem_of_getElem? (i := 25) rfl)) (hw _ (List.mem_of_getElem? (i := 24) rfl)) (hw _ (List.mem_of_getElem? (i := 26) rfl)) (hw _ (List.mem_of_getElem? (i := 2) rfl)) (hw _ (List.mem_of_getElem? (i := 27) rfl)) (by decide) E31 (met_5 _ Z a0 hw h28 n0 X30.size a9 (g0_47_l11 x3 (x0 &&& (255 : Int32)) (x1 &&& (255 : Int32)) (x2 &&& (3 : Int32))) 1 (own_del (fun _ => false) (g0_47_l11 x3 (x0 &&& (255 : Int32)) (x1 &&& (255 : Int32)) (x2 &&& (3 : Int32))).toInt.toNat) B26 (own_qn x0 x1 x2 x3)) rfl at_146 rfl own_pd5 rfl rfl 0 (Nat.le_of_eq rfl) (by decide) (by decide) rfl rfl ?_
      intro T32 X33
      refine own_if_ne M X33 at_149 (by decide) rfl rfl (fun q34 => ?_) (fun q34 => ?_)
      · skip
        refine own_iconst M X33 (v := (0 : Int32)) at_156 rfl rfl ?_
        refine own_istore M X33 (L' := #[.val (.int x0), .val (.int x1), .val (.int x2), .val (.int x3), .val (.int x4), .val (.int x5), .val (.int (x0 &&& (255 : Int32))), .val (.int (x1 &&& (255 : Int32))), .val (.int (g0_14_l8 x5)), .val (.int (g0_28_l9 x5)), .val (.int (x2 &&& (3 : Int32))), .val (.int (g0_47_l11 x3 (x0 &&& (255 : Int32)) (x1 &&& (255 : Int32)) (x2 &&& (3 : Int32)))), .val (.int (x4 &&& (511 : Int32))), .val (.ref a9), .val (.int (0 : Int32))]) at_157 rfl rfl ?_
        refine own_iload M X33 at_159 rfl rfl ?_
        refine own_if_eq M X33 at_161 (by decide) rfl rfl (fun q35 => ?_) (fun q35 => ?_)
        · skip
          refine own_iconst M X33 (v := (0 : Int32)) at_193 rfl rfl ?_
          refine own_istore M X33 (L' := #[.val (.int x0), .val (.int x1), .val (.int x2), .val (.int x3), .val (.int x4), .val (.int x5), .val (.int (x0 &&& (255 : Int32))), .val (.int (x1 &&& (255 : Int32))), .val (.int (g0_14_l8 x5)), .val (.int (g0_28_l9 x5)), .val (.int (x2 &&& (3 : Int32))), .val (.int (g0_47_l11 x3 (x0 &&& (255 : Int32)) (x1 &&& (255 : Int32)) (x2 &&& (3 : Int32)))), .val (.int (x4 &&& (511 : Int32))), .val (.ref a9), .val (.int (0 : Int32))]) at_194 rfl rfl ?_
          refine own_iload M X33 at_196 rfl rfl ?_
          refine own_if_eq M X33 at_198 (by decide) rfl rfl (fun q36 => ?_) (fun q36 => ?_)
          · skip
            refine own_iconst M X33 (v := (0 : Int32)) at_230 rfl rfl ?_
            refine own_istore M X33 (L' := #[.val (.int x0), .val (.int x1), .val (.int x2), .val (.int x3), .val (.int x4), .val (.int x5), .val (.int (x0 &&& (255 : Int32))), .val (.int (x1 &&& (255 : Int32))), .val (.int (g0_14_l8 x5)), .val (.int (g0_28_l9 x5)), .val (.int (x2 &&& (3 : Int32))), .val (.int (g0_47_l11 x3 (x0 &&& (255 : Int32)) (x1 &&& (255 : Int32)) (x2 &&& (3 : Int32)))), .val (.int (x4 &&& (511 : Int32))), .val (.ref a9), .val (.int (0 : Int32))]) at_231 rfl rfl ?_
            refine own_iload M X33 at_233 rfl rfl ?_
            refine own_if_eq M X33 at_235 (by decide) rfl rfl (fun q37 => ?_) (fun q37 => ?_)
            · skip
              refine own_iconst M X33 (v := (0 : Int32)) at_267 rfl rfl ?_
              refine own_istore M X33 (L' := #[.val (.int x0), .val (.int x1), .val (.int x2), .val (.int x3), .val (.int x4), .val (.int x5), .val (.int (x0 &&& (255 : Int32))), .val (.int (x1 &&& (255 : Int32))), .val (.int (g0_14_l8 x5)), .val (.int (g0_28_l9 x5)), .val (.int (x2 &&& (3 : Int32))), .val (.int (g0_47_l11 x3 (x0 &&& (255 : Int32)) (x1 &&& (255 : Int32)) (x2 &&& (3 : Int32)))), .val (.int (x4 &&& (511 : Int32))), .val (.ref a9), .val (.int (0 : Int32))]) at_268 rfl rfl ?_
              refine own_iload M X33 at_270 rfl rfl ?_
              exact own_retN M X33 (z' := (0 : Int32)) (by simp) at_272 rfl (by rw [F0, if_pos q24, if_pos q25, if_neg q34])
            · exact absurd (by decide) q37
          · exact absurd (by decide) q36
        · exact absurd (by decide) q35
      · skip
        refine own_iconst M X33 (v := (1 : Int32)) at_152 rfl rfl ?_
        refine own_goto M X33 at_153 (by decide) rfl ?_
        refine own_istore M X33 (L' := #[.val (.int x0), .val (.int x1), .val (.int x2), .val (.int x3), .val (.int x4), .val (.int x5), .val (.int (x0 &&& (255 : Int32))), .val (.int (x1 &&& (255 : Int32))), .val (.int (g0_14_l8 x5)), .val (.int (g0_28_l9 x5)), .val (.int (x2 &&& (3 : Int32))), .val (.int (g0_47_l11 x3 (x0 &&& (255 : Int32)) (x1 &&& (255 : Int32)) (x2 &&& (3 : Int32)))), .val (.int (x4 &&& (511 : Int32))), .val (.ref a9), .val (.int (1 : Int32))]) at_157 rfl rfl ?_
        refine own_iload M X33 at_159 rfl rfl ?_
        refine own_if_eq M X33 at_161 (by decide) rfl rfl (fun q38 => ?_) (fun q38 => ?_)
        · exact absurd q38 (by decide)
        · skip
          refine own_aload M X33 at_164 rfl rfl rfl ?_
          refine own_iload M X33 at_166 rfl rfl ?_
          refine own_callVP M X33 (yrm := ({ frames := 0, cells := 0, slots := 0, locals := 0 } : Room)) [(.int (x0 &&& (255 : Int32)))] (hw _ (List.mem_of_getElem? (i := 23) rfl)) (hw _ (List.mem_of_getElem? (i := 25) rfl)) (hw _ (List.mem_of_getElem? (i := 24) rfl)) (hw _ (List.mem_of_getElem? (i := 26) rfl)) (hw _ (List.mem_of_getElem? (i := 2) rfl)) (hw _ (List.mem_of_getElem? (i := 27) rfl)) (by decide) E31 (met_5 _ Z a0 hw h28 n0 X33.size a9 (x0 &&& (255 : Int32)) 1 (own_del (fun _ => false) (g0_47_l11 x3 (x0 &&& (255 : Int32)) (x1 &&& (255 : Int32)) (x2 &&& (3 : Int32))).toInt.toNat) B26 (own_n8 x0).1) rfl at_168 rfl own_pd5 rfl rfl 0 (Nat.le_of_eq rfl) (by decide) (by decide) rfl rfl ?_
          intro T39 X40
          refine own_iload M X40 at_171 rfl rfl ?_
          refine own_iload M X40 at_173 rfl rfl ?_
          refine own_iload M X40 at_175 rfl rfl ?_
          refine own_iload M X40 at_177 rfl rfl ?_
          refine own_iload M X40 at_179 rfl rfl ?_
          refine own_iload M X40 at_181 rfl rfl ?_
          refine own_callP M X40 (yrm := ({ frames := 1, cells := 0, slots := 0, locals := 16 } : Room)) [(.int (g0_14_l8 x5)), (.int (x0 &&& (255 : Int32))), (.int (g0_28_l9 x5)), (.int (x1 &&& (255 : Int32))), (.int (g0_47_l11 x3 (x0 &&& (255 : Int32)) (x1 &&& (255 : Int32)) (x2 &&& (3 : Int32)))), (.int (x0 &&& (255 : Int32)))] (hw _ (List.mem_of_getElem? (i := 28) rfl)) (hw _ (List.mem_of_getElem? (i := 29) rfl)) (hw _ (List.mem_of_getElem? (i := 30) rfl)) (hw _ (List.mem_of_getElem? (i := 31) rfl)) (by decide) (met_6 _ Z a0 hw h28 n0 X40.size (g0_14_l8 x5) (x0 &&& (255 : Int32)) (g0_28_l9 x5) (x1 &&& (255 : Int32)) (g0_47_l11 x3 (x0 &&& (255 : Int32)) (x1 &&& (255 : Int32)) (x2 &&& (3 : Int32))) (x0 &&& (255 : Int32))) rfl at_183 rfl own_pd6 rfl rfl 1 (Nat.le_of_eq rfl) (by decide) (by decide) rfl rfl ?_
          intro T41 X42
          refine own_icmp_ne M X42 at_186 (by decide) rfl rfl (fun q43 => ?_) (fun q43 => ?_)
          · skip
            refine own_iconst M X42 (v := (0 : Int32)) at_193 rfl rfl ?_
            refine own_istore M X42 (L' := #[.val (.int x0), .val (.int x1), .val (.int x2), .val (.int x3), .val (.int x4), .val (.int x5), .val (.int (x0 &&& (255 : Int32))), .val (.int (x1 &&& (255 : Int32))), .val (.int (g0_14_l8 x5)), .val (.int (g0_28_l9 x5)), .val (.int (x2 &&& (3 : Int32))), .val (.int (g0_47_l11 x3 (x0 &&& (255 : Int32)) (x1 &&& (255 : Int32)) (x2 &&& (3 : Int32)))), .val (.int (x4 &&& (511 : Int32))), .val (.ref a9), .val (.int (0 : Int32))]) at_194 rfl rfl ?_
            refine own_iload M X42 at_196 rfl rfl ?_
            refine own_if_eq M X42 at_198 (by decide) rfl rfl (fun q44 => ?_) (fun q44 => ?_)
            · skip
              refine own_iconst M X42 (v := (0 : Int32)) at_230 rfl rfl ?_
              refine own_istore M X42 (L' := #[.val (.int x0), .val (.int x1), .val (.int x2), .val (.int x3), .val (.int x4), .val (.int x5), .val (.int (x0 &&& (255 : Int32))), .val (.int (x1 &&& (255 : Int32))), .val (.int (g0_14_l8 x5)), .val (.int (g0_28_l9 x5)), .val (.int (x2 &&& (3 : Int32))), .val (.int (g0_47_l11 x3 (x0 &&& (255 : Int32)) (x1 &&& (255 : Int32)) (x2 &&& (3 : Int32)))), .val (.int (x4 &&& (511 : Int32))), .val (.ref a9), .val (.int (0 : Int32))]) at_231 rfl rfl ?_
              refine own_iload M X42 at_233 rfl rfl ?_
              refine own_if_eq M X42 at_235 (by decide) rfl rfl (fun q45 => ?_) (fun q45 => ?_)
              · skip
                refine own_iconst M X42 (v := (0 : Int32)) at_267 rfl rfl ?_
                refine own_istore M X42 (L' := #[.val (.int x0), .val (.int x1), .val (.int x2), .val (.int x3), .val (.int x4), .val (.int x5), .val (.int (x0 &&& (255 : Int32))), .val (.int (x1 &&& (255 : Int32))), .val (.int (g0_14_l8 x5)), .val (.int (g0_28_l9 x5)), .val (.int (x2 &&& (3 : Int32))), .val (.int (g0_47_l11 x3 (x0 &&& (255 : Int32)) (x1 &&& (255 : Int32)) (x2 &&& (3 : Int32)))), .val (.int (x4 &&& (511 : Int32))), .val (.ref a9), .val (.int (0 : Int32))]) at_268 rfl rfl ?_
                refine own_iload M X42 at_270 rfl rfl ?_
                exact own_retN M X42 (z' := (0 : Int32)) (by simp) at_272 rfl (by rw [F0, if_pos q24, if_pos q25, if_pos q34, if_neg q43])
              · exact absurd (by decide) q45
            · exact absurd (by decide) q44
          · skip
            refine own_iconst M X42 (v := (1 : Int32)) at_189 rfl rfl ?_
            refine own_goto M X42 at_190 (by decide) rfl ?_
            refine own_istore M X42 (L' := #[.val (.int x0), .val (.int x1), .val (.int x2), .val (.int x3), .val (.int x4), .val (.int x5), .val (.int (x0 &&& (255 : Int32))), .val (.int (x1 &&& (255 : Int32))), .val (.int (g0_14_l8 x5)), .val (.int (g0_28_l9 x5)), .val (.int (x2 &&& (3 : Int32))), .val (.int (g0_47_l11 x3 (x0 &&& (255 : Int32)) (x1 &&& (255 : Int32)) (x2 &&& (3 : Int32)))), .val (.int (x4 &&& (511 : Int32))), .val (.ref a9), .val (.int (1 : Int32))]) at_194 rfl rfl ?_
            refine own_iload M X42 at_196 rfl rfl ?_
            refine own_if_eq M X42 at_198 (by decide) rfl rfl (fun q46 => ?_) (fun q46 => ?_)
            · exact absurd q46 (by decide)
            · skip
              refine own_aload M X42 at_201 rfl rfl rfl ?_
              refine own_iload M X42 at_203 rfl rfl ?_
              refine own_callVP M X42 (yrm := ({ frames := 0, cells := 0, slots := 0, locals := 0 } : Room)) [(.int (x1 &&& (255 : Int32)))] (hw _ (List.mem_of_getElem? (i := 23) rfl)) (hw _ (List.mem_of_getElem? (i := 25) rfl)) (hw _ (List.mem_of_getElem? (i := 24) rfl)) (hw _ (List.mem_of_getElem? (i := 26) rfl)) (hw _ (List.mem_of_getElem? (i := 2) rfl)) (hw _ (List.mem_of_getElem? (i := 27) rfl)) (by decide) E31 (met_5 _ Z a0 hw h28 n0 X42.size a9 (x1 &&& (255 : Int32)) 1 (own_del (fun _ => false) (g0_47_l11 x3 (x0 &&& (255 : Int32)) (x1 &&& (255 : Int32)) (x2 &&& (3 : Int32))).toInt.toNat) B26 (own_n8 x1).1) rfl at_205 rfl own_pd5 rfl rfl 0 (Nat.le_of_eq rfl) (by decide) (by decide) rfl rfl ?_
              intro T47 X48
              refine own_iload M X48 at_208 rfl rfl ?_
              refine own_iload M X48 at_210 rfl rfl ?_
              refine own_iload M X48 at_212 rfl rfl ?_
              refine own_iload M X48 at_214 rfl rfl ?_
              refine own_iload M X48 at_216 rfl rfl ?_
              refine own_iload M X48 at_218 rfl rfl ?_
              refine own_callP M X48 (yrm := ({ frames := 1, cells := 0, slots := 0, locals := 16 } : Room)) [(.int (g0_14_l8 x5)), (.int (x0 &&& (255 : Int32))), (.int (g0_28_l9 x5)), (.int (x1 &&& (255 : Int32))), (.int (g0_47_l11 x3 (x0 &&& (255 : Int32)) (x1 &&& (255 : Int32)) (x2 &&& (3 : Int32)))), (.int (x1 &&& (255 : Int32)))] (hw _ (List.mem_of_getElem? (i := 28) rfl)) (hw _ (List.mem_of_getElem? (i := 29) rfl)) (hw _ (List.mem_of_getElem? (i := 30) rfl)) (hw _ (List.mem_of_getElem? (i := 31) rfl)) (by decide) (met_6 _ Z a0 hw h28 n0 X48.size (g0_14_l8 x5) (x0 &&& (255 : Int32)) (g0_28_l9 x5) (x1 &&& (255 : Int32)) (g0_47_l11 x3 (x0 &&& (255 : Int32)) (x1 &&& (255 : Int32)) (x2 &&& (3 : Int32))) (x1 &&& (255 : Int32))) rfl at_220 rfl own_pd6 rfl rfl 1 (Nat.le_of_eq rfl) (by decide) (by decide) rfl rfl ?_
              intro T49 X50
              refine own_icmp_ne M X50 at_223 (by decide) rfl rfl (fun q51 => ?_) (fun q51 => ?_)
              · skip
                refine own_iconst M X50 (v := (0 : Int32)) at_230 rfl rfl ?_
                refine own_istore M X50 (L' := #[.val (.int x0), .val (.int x1), .val (.int x2), .val (.int x3), .val (.int x4), .val (.int x5), .val (.int (x0 &&& (255 : Int32))), .val (.int (x1 &&& (255 : Int32))), .val (.int (g0_14_l8 x5)), .val (.int (g0_28_l9 x5)), .val (.int (x2 &&& (3 : Int32))), .val (.int (g0_47_l11 x3 (x0 &&& (255 : Int32)) (x1 &&& (255 : Int32)) (x2 &&& (3 : Int32)))), .val (.int (x4 &&& (511 : Int32))), .val (.ref a9), .val (.int (0 : Int32))]) at_231 rfl rfl ?_
                refine own_iload M X50 at_233 rfl rfl ?_
                refine own_if_eq M X50 at_235 (by decide) rfl rfl (fun q52 => ?_) (fun q52 => ?_)
                · skip
                  refine own_iconst M X50 (v := (0 : Int32)) at_267 rfl rfl ?_
                  refine own_istore M X50 (L' := #[.val (.int x0), .val (.int x1), .val (.int x2), .val (.int x3), .val (.int x4), .val (.int x5), .val (.int (x0 &&& (255 : Int32))), .val (.int (x1 &&& (255 : Int32))), .val (.int (g0_14_l8 x5)), .val (.int (g0_28_l9 x5)), .val (.int (x2 &&& (3 : Int32))), .val (.int (g0_47_l11 x3 (x0 &&& (255 : Int32)) (x1 &&& (255 : Int32)) (x2 &&& (3 : Int32)))), .val (.int (x4 &&& (511 : Int32))), .val (.ref a9), .val (.int (0 : Int32))]) at_268 rfl rfl ?_
                  refine own_iload M X50 at_270 rfl rfl ?_
                  exact own_retN M X50 (z' := (0 : Int32)) (by simp) at_272 rfl (by rw [F0, if_pos q24, if_pos q25, if_pos q34, if_pos q43, if_neg q51])
                · exact absurd (by decide) q52
              · skip
                refine own_iconst M X50 (v := (1 : Int32)) at_226 rfl rfl ?_
                refine own_goto M X50 at_227 (by decide) rfl ?_
                refine own_istore M X50 (L' := #[.val (.int x0), .val (.int x1), .val (.int x2), .val (.int x3), .val (.int x4), .val (.int x5), .val (.int (x0 &&& (255 : Int32))), .val (.int (x1 &&& (255 : Int32))), .val (.int (g0_14_l8 x5)), .val (.int (g0_28_l9 x5)), .val (.int (x2 &&& (3 : Int32))), .val (.int (g0_47_l11 x3 (x0 &&& (255 : Int32)) (x1 &&& (255 : Int32)) (x2 &&& (3 : Int32)))), .val (.int (x4 &&& (511 : Int32))), .val (.ref a9), .val (.int (1 : Int32))]) at_231 rfl rfl ?_
                refine own_iload M X50 at_233 rfl rfl ?_
                refine own_if_eq M X50 at_235 (by decide) rfl rfl (fun q53 => ?_) (fun q53 => ?_)
                · exact absurd q53 (by decide)
                · skip
                  refine own_aload M X50 at_238 rfl rfl rfl ?_
                  refine own_iload M X50 at_240 rfl rfl ?_
                  refine own_callVP M X50 (yrm := ({ frames := 0, cells := 0, slots := 0, locals := 0 } : Room)) [(.int (x4 &&& (511 : Int32)))] (hw _ (List.mem_of_getElem? (i := 23) rfl)) (hw _ (List.mem_of_getElem? (i := 25) rfl)) (hw _ (List.mem_of_getElem? (i := 24) rfl)) (hw _ (List.mem_of_getElem? (i := 26) rfl)) (hw _ (List.mem_of_getElem? (i := 2) rfl)) (hw _ (List.mem_of_getElem? (i := 27) rfl)) (by decide) E31 (met_5 _ Z a0 hw h28 n0 X50.size a9 (x4 &&& (511 : Int32)) 1 (own_del (fun _ => false) (g0_47_l11 x3 (x0 &&& (255 : Int32)) (x1 &&& (255 : Int32)) (x2 &&& (3 : Int32))).toInt.toNat) B26 (own_n9 x4).1) rfl at_242 rfl own_pd5 rfl rfl 0 (Nat.le_of_eq rfl) (by decide) (by decide) rfl rfl ?_
                  intro T54 X55
                  refine own_iload M X55 at_245 rfl rfl ?_
                  refine own_iload M X55 at_247 rfl rfl ?_
                  refine own_iload M X55 at_249 rfl rfl ?_
                  refine own_iload M X55 at_251 rfl rfl ?_
                  refine own_iload M X55 at_253 rfl rfl ?_
                  refine own_iload M X55 at_255 rfl rfl ?_
                  refine own_callP M X55 (yrm := ({ frames := 1, cells := 0, slots := 0, locals := 16 } : Room)) [(.int (g0_14_l8 x5)), (.int (x0 &&& (255 : Int32))), (.int (g0_28_l9 x5)), (.int (x1 &&& (255 : Int32))), (.int (g0_47_l11 x3 (x0 &&& (255 : Int32)) (x1 &&& (255 : Int32)) (x2 &&& (3 : Int32)))), (.int (x4 &&& (511 : Int32)))] (hw _ (List.mem_of_getElem? (i := 28) rfl)) (hw _ (List.mem_of_getElem? (i := 29) rfl)) (hw _ (List.mem_of_getElem? (i := 30) rfl)) (hw _ (List.mem_of_getElem? (i := 31) rfl)) (by decide) (met_6 _ Z a0 hw h28 n0 X55.size (g0_14_l8 x5) (x0 &&& (255 : Int32)) (g0_28_l9 x5) (x1 &&& (255 : Int32)) (g0_47_l11 x3 (x0 &&& (255 : Int32)) (x1 &&& (255 : Int32)) (x2 &&& (3 : Int32))) (x4 &&& (511 : Int32))) rfl at_257 rfl own_pd6 rfl rfl 1 (Nat.le_of_eq rfl) (by decide) (by decide) rfl rfl ?_
                  intro T56 X57
                  refine own_icmp_ne M X57 at_260 (by decide) rfl rfl (fun q58 => ?_) (fun q58 => ?_)
                  · skip
                    refine own_iconst M X57 (v := (0 : Int32)) at_267 rfl rfl ?_
                    refine own_istore M X57 (L' := #[.val (.int x0), .val (.int x1), .val (.int x2), .val (.int x3), .val (.int x4), .val (.int x5), .val (.int (x0 &&& (255 : Int32))), .val (.int (x1 &&& (255 : Int32))), .val (.int (g0_14_l8 x5)), .val (.int (g0_28_l9 x5)), .val (.int (x2 &&& (3 : Int32))), .val (.int (g0_47_l11 x3 (x0 &&& (255 : Int32)) (x1 &&& (255 : Int32)) (x2 &&& (3 : Int32)))), .val (.int (x4 &&& (511 : Int32))), .val (.ref a9), .val (.int (0 : Int32))]) at_268 rfl rfl ?_
                    refine own_iload M X57 at_270 rfl rfl ?_
                    exact own_retN M X57 (z' := (0 : Int32)) (by simp) at_272 rfl (by rw [F0, if_pos q24, if_pos q25, if_pos q34, if_pos q43, if_pos q51, if_neg q58])
                  · skip
                    refine own_iconst M X57 (v := (1 : Int32)) at_263 rfl rfl ?_
                    refine own_goto M X57 at_264 (by decide) rfl ?_
                    refine own_istore M X57 (L' := #[.val (.int x0), .val (.int x1), .val (.int x2), .val (.int x3), .val (.int x4), .val (.int x5), .val (.int (x0 &&& (255 : Int32))), .val (.int (x1 &&& (255 : Int32))), .val (.int (g0_14_l8 x5)), .val (.int (g0_28_l9 x5)), .val (.int (x2 &&& (3 : Int32))), .val (.int (g0_47_l11 x3 (x0 &&& (255 : Int32)) (x1 &&& (255 : Int32)) (x2 &&& (3 : Int32)))), .val (.int (x4 &&& (511 : Int32))), .val (.ref a9), .val (.int (1 : Int32))]) at_268 rfl rfl ?_
                    refine own_iload M X57 at_270 rfl rfl ?_
                    exact own_retN M X57 (z' := (1 : Int32)) (by simp) at_272 rfl (by rw [F0, if_pos q24, if_pos q25, if_pos q34, if_pos q43, if_pos q51, if_pos q58])
    · skip
      refine own_aload M X22 at_128 rfl rfl rfl ?_
      refine own_iload M X22 at_130 rfl rfl ?_
      have gqn59 : max ((x1 &&& (255 : Int32)).toInt.toNat / 64 + 1) (2 * 1) ≤ 4 := by have := own_n8 x1; omega
      refine own_callV M X22 (yrm := ({ frames := 2, cells := 1, slots := 4, locals := 35 } : Room)) [(.int (x1 &&& (255 : Int32)))] (hw _ (List.mem_of_getElem? (i := 12) rfl)) (hw _ (List.mem_of_getElem? (i := 14) rfl)) (hw _ (List.mem_of_getElem? (i := 13) rfl)) (hw _ (List.mem_of_getElem? (i := 15) rfl)) (hw _ (List.mem_of_getElem? (i := 2) rfl)) (hw _ (List.mem_of_getElem? (i := 16) rfl)) (by decide) E23 (met_3 _ Z a0 hw h20 n0 X22.size a9 (x1 &&& (255 : Int32)) 1 4 (fun _ => false) B17 ge10 (own_n8 x1).1 gqn59 (by decide)) rfl at_132 rfl own_pd4 rfl rfl 0 (Nat.le_of_eq rfl) (by decide) (by decide) (by decide) (by decide) ?_
      rintro T62 h63 v64 X65 ⟨rfl, n59, hn60, B61⟩
      have E66 := B61.1
      replace X65 : own_Sx n0 K T62 h63 3 6 := X65
      show own_Fin n0 K _ T62 135 #[.val (.int x0), .val (.int x1), .val (.int x2), .val (.int x3), .val (.int x4), .val (.int x5), .val (.int (x0 &&& (255 : Int32))), .val (.int (x1 &&& (255 : Int32))), .val (.int (g0_14_l8 x5)), .val (.int (g0_28_l9 x5)), .val (.int (x2 &&& (3 : Int32))), .val (.int (g0_47_l11 x3 (x0 &&& (255 : Int32)) (x1 &&& (255 : Int32)) (x2 &&& (3 : Int32)))), .val (.int (x4 &&& (511 : Int32))), .val (.ref a9), .unset] []
      refine own_aload M X65 at_135 rfl rfl rfl ?_
      refine own_iload M X65 at_137 rfl rfl ?_
      refine own_callV M X65 (yrm := ({ frames := 0, cells := 0, slots := 0, locals := 0 } : Room)) [(.int (g0_47_l11 x3 (x0 &&& (255 : Int32)) (x1 &&& (255 : Int32)) (x2 &&& (3 : Int32))))] (hw _ (List.mem_of_getElem? (i := 17) rfl)) (hw _ (List.mem_of_getElem? (i := 19) rfl)) (hw _ (List.mem_of_getElem? (i := 18) rfl)) (hw _ (List.mem_of_getElem? (i := 20) rfl)) (hw _ (List.mem_of_getElem? (i := 2) rfl)) (hw _ (List.mem_of_getElem? (i := 21) rfl)) (by decide) E66 (met_4 _ Z a0 hw h63 n0 X65.size a9 (g0_47_l11 x3 (x0 &&& (255 : Int32)) (x1 &&& (255 : Int32)) (x2 &&& (3 : Int32))) n59 (own_add (fun _ => false) (x1 &&& (255 : Int32)).toInt.toNat) B61 ge10 (own_qn x0 x1 x2 x3)) rfl at_139 rfl own_pd4 rfl rfl 0 (Nat.le_of_eq rfl) (by decide) (by decide) (by decide) (by decide) ?_
      rintro T68 h69 v70 X71 ⟨rfl, B67⟩
      have E72 := B67.1
      replace X71 : own_Sx n0 K T68 h69 3 6 := X71
      show own_Fin n0 K _ T68 142 #[.val (.int x0), .val (.int x1), .val (.int x2), .val (.int x3), .val (.int x4), .val (.int x5), .val (.int (x0 &&& (255 : Int32))), .val (.int (x1 &&& (255 : Int32))), .val (.int (g0_14_l8 x5)), .val (.int (g0_28_l9 x5)), .val (.int (x2 &&& (3 : Int32))), .val (.int (g0_47_l11 x3 (x0 &&& (255 : Int32)) (x1 &&& (255 : Int32)) (x2 &&& (3 : Int32)))), .val (.int (x4 &&& (511 : Int32))), .val (.ref a9), .unset] []
      refine own_aload M X71 at_142 rfl rfl rfl ?_
      refine own_iload M X71 at_144 rfl rfl ?_
      refine own_callVP M X71 (yrm := ({ frames := 0, cells := 0, slots := 0, locals := 0 } : Room)) [(.int (g0_47_l11 x3 (x0 &&& (255 : Int32)) (x1 &&& (255 : Int32)) (x2 &&& (3 : Int32))))] (hw _ (List.mem_of_getElem? (i := 23) rfl)) (hw _ (List.mem_of_getElem? (i := 25) rfl)) (hw _ (List.mem_of_getElem? (i := 24) rfl)) (hw _ (List.mem_of_getElem? (i := 26) rfl)) (hw _ (List.mem_of_getElem? (i := 2) rfl)) (hw _ (List.mem_of_getElem? (i := 27) rfl)) (by decide) E72 (met_5 _ Z a0 hw h69 n0 X71.size a9 (g0_47_l11 x3 (x0 &&& (255 : Int32)) (x1 &&& (255 : Int32)) (x2 &&& (3 : Int32))) n59 (own_del (own_add (fun _ => false) (x1 &&& (255 : Int32)).toInt.toNat) (g0_47_l11 x3 (x0 &&& (255 : Int32)) (x1 &&& (255 : Int32)) (x2 &&& (3 : Int32))).toInt.toNat) B67 (own_qn x0 x1 x2 x3)) rfl at_146 rfl own_pd5 rfl rfl 0 (Nat.le_of_eq rfl) (by decide) (by decide) rfl rfl ?_
      intro T73 X74
      refine own_if_ne M X74 at_149 (by decide) rfl rfl (fun q75 => ?_) (fun q75 => ?_)
      · skip
        refine own_iconst M X74 (v := (0 : Int32)) at_156 rfl rfl ?_
        refine own_istore M X74 (L' := #[.val (.int x0), .val (.int x1), .val (.int x2), .val (.int x3), .val (.int x4), .val (.int x5), .val (.int (x0 &&& (255 : Int32))), .val (.int (x1 &&& (255 : Int32))), .val (.int (g0_14_l8 x5)), .val (.int (g0_28_l9 x5)), .val (.int (x2 &&& (3 : Int32))), .val (.int (g0_47_l11 x3 (x0 &&& (255 : Int32)) (x1 &&& (255 : Int32)) (x2 &&& (3 : Int32)))), .val (.int (x4 &&& (511 : Int32))), .val (.ref a9), .val (.int (0 : Int32))]) at_157 rfl rfl ?_
        refine own_iload M X74 at_159 rfl rfl ?_
        refine own_if_eq M X74 at_161 (by decide) rfl rfl (fun q76 => ?_) (fun q76 => ?_)
        · skip
          refine own_iconst M X74 (v := (0 : Int32)) at_193 rfl rfl ?_
          refine own_istore M X74 (L' := #[.val (.int x0), .val (.int x1), .val (.int x2), .val (.int x3), .val (.int x4), .val (.int x5), .val (.int (x0 &&& (255 : Int32))), .val (.int (x1 &&& (255 : Int32))), .val (.int (g0_14_l8 x5)), .val (.int (g0_28_l9 x5)), .val (.int (x2 &&& (3 : Int32))), .val (.int (g0_47_l11 x3 (x0 &&& (255 : Int32)) (x1 &&& (255 : Int32)) (x2 &&& (3 : Int32)))), .val (.int (x4 &&& (511 : Int32))), .val (.ref a9), .val (.int (0 : Int32))]) at_194 rfl rfl ?_
          refine own_iload M X74 at_196 rfl rfl ?_
          refine own_if_eq M X74 at_198 (by decide) rfl rfl (fun q77 => ?_) (fun q77 => ?_)
          · skip
            refine own_iconst M X74 (v := (0 : Int32)) at_230 rfl rfl ?_
            refine own_istore M X74 (L' := #[.val (.int x0), .val (.int x1), .val (.int x2), .val (.int x3), .val (.int x4), .val (.int x5), .val (.int (x0 &&& (255 : Int32))), .val (.int (x1 &&& (255 : Int32))), .val (.int (g0_14_l8 x5)), .val (.int (g0_28_l9 x5)), .val (.int (x2 &&& (3 : Int32))), .val (.int (g0_47_l11 x3 (x0 &&& (255 : Int32)) (x1 &&& (255 : Int32)) (x2 &&& (3 : Int32)))), .val (.int (x4 &&& (511 : Int32))), .val (.ref a9), .val (.int (0 : Int32))]) at_231 rfl rfl ?_
            refine own_iload M X74 at_233 rfl rfl ?_
            refine own_if_eq M X74 at_235 (by decide) rfl rfl (fun q78 => ?_) (fun q78 => ?_)
            · skip
              refine own_iconst M X74 (v := (0 : Int32)) at_267 rfl rfl ?_
              refine own_istore M X74 (L' := #[.val (.int x0), .val (.int x1), .val (.int x2), .val (.int x3), .val (.int x4), .val (.int x5), .val (.int (x0 &&& (255 : Int32))), .val (.int (x1 &&& (255 : Int32))), .val (.int (g0_14_l8 x5)), .val (.int (g0_28_l9 x5)), .val (.int (x2 &&& (3 : Int32))), .val (.int (g0_47_l11 x3 (x0 &&& (255 : Int32)) (x1 &&& (255 : Int32)) (x2 &&& (3 : Int32)))), .val (.int (x4 &&& (511 : Int32))), .val (.ref a9), .val (.int (0 : Int32))]) at_268 rfl rfl ?_
              refine own_iload M X74 at_270 rfl rfl ?_
              exact own_retN M X74 (z' := (0 : Int32)) (by simp) at_272 rfl (by rw [F0, if_pos q24, if_neg q25, if_neg q75])
            · exact absurd (by decide) q78
          · exact absurd (by decide) q77
        · exact absurd (by decide) q76
      · skip
        refine own_iconst M X74 (v := (1 : Int32)) at_152 rfl rfl ?_
        refine own_goto M X74 at_153 (by decide) rfl ?_
        refine own_istore M X74 (L' := #[.val (.int x0), .val (.int x1), .val (.int x2), .val (.int x3), .val (.int x4), .val (.int x5), .val (.int (x0 &&& (255 : Int32))), .val (.int (x1 &&& (255 : Int32))), .val (.int (g0_14_l8 x5)), .val (.int (g0_28_l9 x5)), .val (.int (x2 &&& (3 : Int32))), .val (.int (g0_47_l11 x3 (x0 &&& (255 : Int32)) (x1 &&& (255 : Int32)) (x2 &&& (3 : Int32)))), .val (.int (x4 &&& (511 : Int32))), .val (.ref a9), .val (.int (1 : Int32))]) at_157 rfl rfl ?_
        refine own_iload M X74 at_159 rfl rfl ?_
        refine own_if_eq M X74 at_161 (by decide) rfl rfl (fun q79 => ?_) (fun q79 => ?_)
        · exact absurd q79 (by decide)
        · skip
          refine own_aload M X74 at_164 rfl rfl rfl ?_
          refine own_iload M X74 at_166 rfl rfl ?_
          refine own_callVP M X74 (yrm := ({ frames := 0, cells := 0, slots := 0, locals := 0 } : Room)) [(.int (x0 &&& (255 : Int32)))] (hw _ (List.mem_of_getElem? (i := 23) rfl)) (hw _ (List.mem_of_getElem? (i := 25) rfl)) (hw _ (List.mem_of_getElem? (i := 24) rfl)) (hw _ (List.mem_of_getElem? (i := 26) rfl)) (hw _ (List.mem_of_getElem? (i := 2) rfl)) (hw _ (List.mem_of_getElem? (i := 27) rfl)) (by decide) E72 (met_5 _ Z a0 hw h69 n0 X74.size a9 (x0 &&& (255 : Int32)) n59 (own_del (own_add (fun _ => false) (x1 &&& (255 : Int32)).toInt.toNat) (g0_47_l11 x3 (x0 &&& (255 : Int32)) (x1 &&& (255 : Int32)) (x2 &&& (3 : Int32))).toInt.toNat) B67 (own_n8 x0).1) rfl at_168 rfl own_pd5 rfl rfl 0 (Nat.le_of_eq rfl) (by decide) (by decide) rfl rfl ?_
          intro T80 X81
          refine own_iload M X81 at_171 rfl rfl ?_
          refine own_iload M X81 at_173 rfl rfl ?_
          refine own_iload M X81 at_175 rfl rfl ?_
          refine own_iload M X81 at_177 rfl rfl ?_
          refine own_iload M X81 at_179 rfl rfl ?_
          refine own_iload M X81 at_181 rfl rfl ?_
          refine own_callP M X81 (yrm := ({ frames := 1, cells := 0, slots := 0, locals := 16 } : Room)) [(.int (g0_14_l8 x5)), (.int (x0 &&& (255 : Int32))), (.int (g0_28_l9 x5)), (.int (x1 &&& (255 : Int32))), (.int (g0_47_l11 x3 (x0 &&& (255 : Int32)) (x1 &&& (255 : Int32)) (x2 &&& (3 : Int32)))), (.int (x0 &&& (255 : Int32)))] (hw _ (List.mem_of_getElem? (i := 28) rfl)) (hw _ (List.mem_of_getElem? (i := 29) rfl)) (hw _ (List.mem_of_getElem? (i := 30) rfl)) (hw _ (List.mem_of_getElem? (i := 31) rfl)) (by decide) (met_6 _ Z a0 hw h69 n0 X81.size (g0_14_l8 x5) (x0 &&& (255 : Int32)) (g0_28_l9 x5) (x1 &&& (255 : Int32)) (g0_47_l11 x3 (x0 &&& (255 : Int32)) (x1 &&& (255 : Int32)) (x2 &&& (3 : Int32))) (x0 &&& (255 : Int32))) rfl at_183 rfl own_pd6 rfl rfl 1 (Nat.le_of_eq rfl) (by decide) (by decide) rfl rfl ?_
          intro T82 X83
          refine own_icmp_ne M X83 at_186 (by decide) rfl rfl (fun q84 => ?_) (fun q84 => ?_)
          · skip
            refine own_iconst M X83 (v := (0 : Int32)) at_193 rfl rfl ?_
            refine own_istore M X83 (L' := #[.val (.int x0), .val (.int x1), .val (.int x2), .val (.int x3), .val (.int x4), .val (.int x5), .val (.int (x0 &&& (255 : Int32))), .val (.int (x1 &&& (255 : Int32))), .val (.int (g0_14_l8 x5)), .val (.int (g0_28_l9 x5)), .val (.int (x2 &&& (3 : Int32))), .val (.int (g0_47_l11 x3 (x0 &&& (255 : Int32)) (x1 &&& (255 : Int32)) (x2 &&& (3 : Int32)))), .val (.int (x4 &&& (511 : Int32))), .val (.ref a9), .val (.int (0 : Int32))]) at_194 rfl rfl ?_
            refine own_iload M X83 at_196 rfl rfl ?_
            refine own_if_eq M X83 at_198 (by decide) rfl rfl (fun q85 => ?_) (fun q85 => ?_)
            · skip
              refine own_iconst M X83 (v := (0 : Int32)) at_230 rfl rfl ?_
              refine own_istore M X83 (L' := #[.val (.int x0), .val (.int x1), .val (.int x2), .val (.int x3), .val (.int x4), .val (.int x5), .val (.int (x0 &&& (255 : Int32))), .val (.int (x1 &&& (255 : Int32))), .val (.int (g0_14_l8 x5)), .val (.int (g0_28_l9 x5)), .val (.int (x2 &&& (3 : Int32))), .val (.int (g0_47_l11 x3 (x0 &&& (255 : Int32)) (x1 &&& (255 : Int32)) (x2 &&& (3 : Int32)))), .val (.int (x4 &&& (511 : Int32))), .val (.ref a9), .val (.int (0 : Int32))]) at_231 rfl rfl ?_
              refine own_iload M X83 at_233 rfl rfl ?_
              refine own_if_eq M X83 at_235 (by decide) rfl rfl (fun q86 => ?_) (fun q86 => ?_)
              · skip
                refine own_iconst M X83 (v := (0 : Int32)) at_267 rfl rfl ?_
                refine own_istore M X83 (L' := #[.val (.int x0), .val (.int x1), .val (.int x2), .val (.int x3), .val (.int x4), .val (.int x5), .val (.int (x0 &&& (255 : Int32))), .val (.int (x1 &&& (255 : Int32))), .val (.int (g0_14_l8 x5)), .val (.int (g0_28_l9 x5)), .val (.int (x2 &&& (3 : Int32))), .val (.int (g0_47_l11 x3 (x0 &&& (255 : Int32)) (x1 &&& (255 : Int32)) (x2 &&& (3 : Int32)))), .val (.int (x4 &&& (511 : Int32))), .val (.ref a9), .val (.int (0 : Int32))]) at_268 rfl rfl ?_
                refine own_iload M X83 at_270 rfl rfl ?_
                exact own_retN M X83 (z' := (0 : Int32)) (by simp) at_272 rfl (by rw [F0, if_pos q24, if_neg q25, if_pos q75, if_neg q84])
              · exact absurd (by decide) q86
            · exact absurd (by decide) q85
          · skip
            refine own_iconst M X83 (v := (1 : Int32)) at_189 rfl rfl ?_
            refine own_goto M X83 at_190 (by decide) rfl ?_
            refine own_istore M X83 (L' := #[.val (.int x0), .val (.int x1), .val (.int x2), .val (.int x3), .val (.int x4), .val (.int x5), .val (.int (x0 &&& (255 : Int32))), .val (.int (x1 &&& (255 : Int32))), .val (.int (g0_14_l8 x5)), .val (.int (g0_28_l9 x5)), .val (.int (x2 &&& (3 : Int32))), .val (.int (g0_47_l11 x3 (x0 &&& (255 : Int32)) (x1 &&& (255 : Int32)) (x2 &&& (3 : Int32)))), .val (.int (x4 &&& (511 : Int32))), .val (.ref a9), .val (.int (1 : Int32))]) at_194 rfl rfl ?_
            refine own_iload M X83 at_196 rfl rfl ?_
            refine own_if_eq M X83 at_198 (by decide) rfl rfl (fun q87 => ?_) (fun q87 => ?_)
            · exact absurd q87 (by decide)
            · skip
              refine own_aload M X83 at_201 rfl rfl rfl ?_
              refine own_iload M X83 at_203 rfl rfl ?_
              refine own_callVP M X83 (yrm := ({ frames := 0, cells := 0, slots := 0, locals := 0 } : Room)) [(.int (x1 &&& (255 : Int32)))] (hw _ (List.mem_of_getElem? (i := 23) rfl)) (hw _ (List.mem_of_getElem? (i := 25) rfl)) (hw _ (List.mem_of_getElem? (i := 24) rfl)) (hw _ (List.mem_of_getElem? (i := 26) rfl)) (hw _ (List.mem_of_getElem? (i := 2) rfl)) (hw _ (List.mem_of_getElem? (i := 27) rfl)) (by decide) E72 (met_5 _ Z a0 hw h69 n0 X83.size a9 (x1 &&& (255 : Int32)) n59 (own_del (own_add (fun _ => false) (x1 &&& (255 : Int32)).toInt.toNat) (g0_47_l11 x3 (x0 &&& (255 : Int32)) (x1 &&& (255 : Int32)) (x2 &&& (3 : Int32))).toInt.toNat) B67 (own_n8 x1).1) rfl at_205 rfl own_pd5 rfl rfl 0 (Nat.le_of_eq rfl) (by decide) (by decide) rfl rfl ?_
              intro T88 X89
              refine own_iload M X89 at_208 rfl rfl ?_
              refine own_iload M X89 at_210 rfl rfl ?_
              refine own_iload M X89 at_212 rfl rfl ?_
              refine own_iload M X89 at_214 rfl rfl ?_
              refine own_iload M X89 at_216 rfl rfl ?_
              refine own_iload M X89 at_218 rfl rfl ?_
              refine own_callP M X89 (yrm := ({ frames := 1, cells := 0, slots := 0, locals := 16 } : Room)) [(.int (g0_14_l8 x5)), (.int (x0 &&& (255 : Int32))), (.int (g0_28_l9 x5)), (.int (x1 &&& (255 : Int32))), (.int (g0_47_l11 x3 (x0 &&& (255 : Int32)) (x1 &&& (255 : Int32)) (x2 &&& (3 : Int32)))), (.int (x1 &&& (255 : Int32)))] (hw _ (List.mem_of_getElem? (i := 28) rfl)) (hw _ (List.mem_of_getElem? (i := 29) rfl)) (hw _ (List.mem_of_getElem? (i := 30) rfl)) (hw _ (List.mem_of_getElem? (i := 31) rfl)) (by decide) (met_6 _ Z a0 hw h69 n0 X89.size (g0_14_l8 x5) (x0 &&& (255 : Int32)) (g0_28_l9 x5) (x1 &&& (255 : Int32)) (g0_47_l11 x3 (x0 &&& (255 : Int32)) (x1 &&& (255 : Int32)) (x2 &&& (3 : Int32))) (x1 &&& (255 : Int32))) rfl at_220 rfl own_pd6 rfl rfl 1 (Nat.le_of_eq rfl) (by decide) (by decide) rfl rfl ?_
              intro T90 X91
              refine own_icmp_ne M X91 at_223 (by decide) rfl rfl (fun q92 => ?_) (fun q92 => ?_)
              · skip
                refine own_iconst M X91 (v := (0 : Int32)) at_230 rfl rfl ?_
                refine own_istore M X91 (L' := #[.val (.int x0), .val (.int x1), .val (.int x2), .val (.int x3), .val (.int x4), .val (.int x5), .val (.int (x0 &&& (255 : Int32))), .val (.int (x1 &&& (255 : Int32))), .val (.int (g0_14_l8 x5)), .val (.int (g0_28_l9 x5)), .val (.int (x2 &&& (3 : Int32))), .val (.int (g0_47_l11 x3 (x0 &&& (255 : Int32)) (x1 &&& (255 : Int32)) (x2 &&& (3 : Int32)))), .val (.int (x4 &&& (511 : Int32))), .val (.ref a9), .val (.int (0 : Int32))]) at_231 rfl rfl ?_
                refine own_iload M X91 at_233 rfl rfl ?_
                refine own_if_eq M X91 at_235 (by decide) rfl rfl (fun q93 => ?_) (fun q93 => ?_)
                · skip
                  refine own_iconst M X91 (v := (0 : Int32)) at_267 rfl rfl ?_
                  refine own_istore M X91 (L' := #[.val (.int x0), .val (.int x1), .val (.int x2), .val (.int x3), .val (.int x4), .val (.int x5), .val (.int (x0 &&& (255 : Int32))), .val (.int (x1 &&& (255 : Int32))), .val (.int (g0_14_l8 x5)), .val (.int (g0_28_l9 x5)), .val (.int (x2 &&& (3 : Int32))), .val (.int (g0_47_l11 x3 (x0 &&& (255 : Int32)) (x1 &&& (255 : Int32)) (x2 &&& (3 : Int32)))), .val (.int (x4 &&& (511 : Int32))), .val (.ref a9), .val (.int (0 : Int32))]) at_268 rfl rfl ?_
                  refine own_iload M X91 at_270 rfl rfl ?_
                  exact own_retN M X91 (z' := (0 : Int32)) (by simp) at_272 rfl (by rw [F0, if_pos q24, if_neg q25, if_pos q75, if_pos q84, if_neg q92])
                · exact absurd (by decide) q93
              · skip
                refine own_iconst M X91 (v := (1 : Int32)) at_226 rfl rfl ?_
                refine own_goto M X91 at_227 (by decide) rfl ?_
                refine own_istore M X91 (L' := #[.val (.int x0), .val (.int x1), .val (.int x2), .val (.int x3), .val (.int x4), .val (.int x5), .val (.int (x0 &&& (255 : Int32))), .val (.int (x1 &&& (255 : Int32))), .val (.int (g0_14_l8 x5)), .val (.int (g0_28_l9 x5)), .val (.int (x2 &&& (3 : Int32))), .val (.int (g0_47_l11 x3 (x0 &&& (255 : Int32)) (x1 &&& (255 : Int32)) (x2 &&& (3 : Int32)))), .val (.int (x4 &&& (511 : Int32))), .val (.ref a9), .val (.int (1 : Int32))]) at_231 rfl rfl ?_
                refine own_iload M X91 at_233 rfl rfl ?_
                refine own_if_eq M X91 at_235 (by decide) rfl rfl (fun q94 => ?_) (fun q94 => ?_)
                · exact absurd q94 (by decide)
                · skip
                  refine own_aload M X91 at_238 rfl rfl rfl ?_
                  refine own_iload M X91 at_240 rfl rfl ?_
                  refine own_callVP M X91 (yrm := ({ frames := 0, cells := 0, slots := 0, locals := 0 } : Room)) [(.int (x4 &&& (511 : Int32)))] (hw _ (List.mem_of_getElem? (i := 23) rfl)) (hw _ (List.mem_of_getElem? (i := 25) rfl)) (hw _ (List.mem_of_getElem? (i := 24) rfl)) (hw _ (List.mem_of_getElem? (i := 26) rfl)) (hw _ (List.mem_of_getElem? (i := 2) rfl)) (hw _ (List.mem_of_getElem? (i := 27) rfl)) (by decide) E72 (met_5 _ Z a0 hw h69 n0 X91.size a9 (x4 &&& (511 : Int32)) n59 (own_del (own_add (fun _ => false) (x1 &&& (255 : Int32)).toInt.toNat) (g0_47_l11 x3 (x0 &&& (255 : Int32)) (x1 &&& (255 : Int32)) (x2 &&& (3 : Int32))).toInt.toNat) B67 (own_n9 x4).1) rfl at_242 rfl own_pd5 rfl rfl 0 (Nat.le_of_eq rfl) (by decide) (by decide) rfl rfl ?_
                  intro T95 X96
                  refine own_iload M X96 at_245 rfl rfl ?_
                  refine own_iload M X96 at_247 rfl rfl ?_
                  refine own_iload M X96 at_249 rfl rfl ?_
                  refine own_iload M X96 at_251 rfl rfl ?_
                  refine own_iload M X96 at_253 rfl rfl ?_
                  refine own_iload M X96 at_255 rfl rfl ?_
                  refine own_callP M X96 (yrm := ({ frames := 1, cells := 0, slots := 0, locals := 16 } : Room)) [(.int (g0_14_l8 x5)), (.int (x0 &&& (255 : Int32))), (.int (g0_28_l9 x5)), (.int (x1 &&& (255 : Int32))), (.int (g0_47_l11 x3 (x0 &&& (255 : Int32)) (x1 &&& (255 : Int32)) (x2 &&& (3 : Int32)))), (.int (x4 &&& (511 : Int32)))] (hw _ (List.mem_of_getElem? (i := 28) rfl)) (hw _ (List.mem_of_getElem? (i := 29) rfl)) (hw _ (List.mem_of_getElem? (i := 30) rfl)) (hw _ (List.mem_of_getElem? (i := 31) rfl)) (by decide) (met_6 _ Z a0 hw h69 n0 X96.size (g0_14_l8 x5) (x0 &&& (255 : Int32)) (g0_28_l9 x5) (x1 &&& (255 : Int32)) (g0_47_l11 x3 (x0 &&& (255 : Int32)) (x1 &&& (255 : Int32)) (x2 &&& (3 : Int32))) (x4 &&& (511 : Int32))) rfl at_257 rfl own_pd6 rfl rfl 1 (Nat.le_of_eq rfl) (by decide) (by decide) rfl rfl ?_
                  intro T97 X98
                  refine own_icmp_ne M X98 at_260 (by decide) rfl rfl (fun q99 => ?_) (fun q99 => ?_)
                  · skip
                    refine own_iconst M X98 (v := (0 : Int32)) at_267 rfl rfl ?_
                    refine own_istore M X98 (L' := #[.val (.int x0), .val (.int x1), .val (.int x2), .val (.int x3), .val (.int x4), .val (.int x5), .val (.int (x0 &&& (255 : Int32))), .val (.int (x1 &&& (255 : Int32))), .val (.int (g0_14_l8 x5)), .val (.int (g0_28_l9 x5)), .val (.int (x2 &&& (3 : Int32))), .val (.int (g0_47_l11 x3 (x0 &&& (255 : Int32)) (x1 &&& (255 : Int32)) (x2 &&& (3 : Int32)))), .val (.int (x4 &&& (511 : Int32))), .val (.ref a9), .val (.int (0 : Int32))]) at_268 rfl rfl ?_
                    refine own_iload M X98 at_270 rfl rfl ?_
                    exact own_retN M X98 (z' := (0 : Int32)) (by simp) at_272 rfl (by rw [F0, if_pos q24, if_neg q25, if_pos q75, if_pos q84, if_pos q92, if_neg q99])
                  · skip
                    refine own_iconst M X98 (v := (1 : Int32)) at_263 rfl rfl ?_
                    refine own_goto M X98 at_264 (by decide) rfl ?_
                    refine own_istore M X98 (L' := #[.val (.int x0), .val (.int x1), .val (.int x2), .val (.int x3), .val (.int x4), .val (.int x5), .val (.int (x0 &&& (255 : Int32))), .val (.int (x1 &&& (255 : Int32))), .val (.int (g0_14_l8 x5)), .val (.int (g0_28_l9 x5)), .val (.int (x2 &&& (3 : Int32))), .val (.int (g0_47_l11 x3 (x0 &&& (255 : Int32)) (x1 &&& (255 : Int32)) (x2 &&& (3 : Int32)))), .val (.int (x4 &&& (511 : Int32))), .val (.ref a9), .val (.int (1 : Int32))]) at_268 rfl rfl ?_
                    refine own_iload M X98 at_270 rfl rfl ?_
                    exact own_retN M X98 (z' := (1 : Int32)) (by simp) at_272 rfl (by rw [F0, if_pos q24, if_neg q25, if_pos q75, if_pos q84, if_pos q92, if_pos q99])
  · skip
    refine own_aload M X22 at_116 rfl rfl rfl ?_
    refine own_iload M X22 at_118 rfl rfl ?_
    have gqn100 : max ((x0 &&& (255 : Int32)).toInt.toNat / 64 + 1) (2 * 1) ≤ 4 := by have := own_n8 x0; omega
    refine own_callV M X22 (yrm := ({ frames := 2, cells := 1, slots := 4, locals := 35 } : Room)) [(.int (x0 &&& (255 : Int32)))] (hw _ (List.mem_of_getElem? (i := 12) rfl)) (hw _ (List.mem_of_getElem? (i := 14) rfl)) (hw _ (List.mem_of_getElem? (i := 13) rfl)) (hw _ (List.mem_of_getElem? (i := 15) rfl)) (hw _ (List.mem_of_getElem? (i := 2) rfl)) (hw _ (List.mem_of_getElem? (i := 16) rfl)) (by decide) E23 (met_3 _ Z a0 hw h20 n0 X22.size a9 (x0 &&& (255 : Int32)) 1 4 (fun _ => false) B17 ge10 (own_n8 x0).1 gqn100 (by decide)) rfl at_120 rfl own_pd4 rfl rfl 0 (Nat.le_of_eq rfl) (by decide) (by decide) (by decide) (by decide) ?_
    rintro T103 h104 v105 X106 ⟨rfl, n100, hn101, B102⟩
    have E107 := B102.1
    replace X106 : own_Sx n0 K T103 h104 3 6 := X106
    show own_Fin n0 K _ T103 123 #[.val (.int x0), .val (.int x1), .val (.int x2), .val (.int x3), .val (.int x4), .val (.int x5), .val (.int (x0 &&& (255 : Int32))), .val (.int (x1 &&& (255 : Int32))), .val (.int (g0_14_l8 x5)), .val (.int (g0_28_l9 x5)), .val (.int (x2 &&& (3 : Int32))), .val (.int (g0_47_l11 x3 (x0 &&& (255 : Int32)) (x1 &&& (255 : Int32)) (x2 &&& (3 : Int32)))), .val (.int (x4 &&& (511 : Int32))), .val (.ref a9), .unset] []
    refine own_iload M X106 at_123 rfl rfl ?_
    refine own_if_eq M X106 at_125 (by decide) rfl rfl (fun q108 => ?_) (fun q108 => ?_)
    · skip
      refine own_aload M X106 at_135 rfl rfl rfl ?_
      refine own_iload M X106 at_137 rfl rfl ?_
      refine own_callV M X106 (yrm := ({ frames := 0, cells := 0, slots := 0, locals := 0 } : Room)) [(.int (g0_47_l11 x3 (x0 &&& (255 : Int32)) (x1 &&& (255 : Int32)) (x2 &&& (3 : Int32))))] (hw _ (List.mem_of_getElem? (i := 17) rfl)) (hw _ (List.mem_of_getElem? (i := 19) rfl)) (hw _ (List.mem_of_getElem? (i := 18) rfl)) (hw _ (List.mem_of_getElem? (i := 20) rfl)) (hw _ (List.mem_of_getElem? (i := 2) rfl)) (hw _ (List.mem_of_getElem? (i := 21) rfl)) (by decide) E107 (met_4 _ Z a0 hw h104 n0 X106.size a9 (g0_47_l11 x3 (x0 &&& (255 : Int32)) (x1 &&& (255 : Int32)) (x2 &&& (3 : Int32))) n100 (own_add (fun _ => false) (x0 &&& (255 : Int32)).toInt.toNat) B102 ge10 (own_qn x0 x1 x2 x3)) rfl at_139 rfl own_pd4 rfl rfl 0 (Nat.le_of_eq rfl) (by decide) (by decide) (by decide) (by decide) ?_
      rintro T110 h111 v112 X113 ⟨rfl, B109⟩
      have E114 := B109.1
      replace X113 : own_Sx n0 K T110 h111 3 6 := X113
      show own_Fin n0 K _ T110 142 #[.val (.int x0), .val (.int x1), .val (.int x2), .val (.int x3), .val (.int x4), .val (.int x5), .val (.int (x0 &&& (255 : Int32))), .val (.int (x1 &&& (255 : Int32))), .val (.int (g0_14_l8 x5)), .val (.int (g0_28_l9 x5)), .val (.int (x2 &&& (3 : Int32))), .val (.int (g0_47_l11 x3 (x0 &&& (255 : Int32)) (x1 &&& (255 : Int32)) (x2 &&& (3 : Int32)))), .val (.int (x4 &&& (511 : Int32))), .val (.ref a9), .unset] []
      refine own_aload M X113 at_142 rfl rfl rfl ?_
      refine own_iload M X113 at_144 rfl rfl ?_
      refine own_callVP M X113 (yrm := ({ frames := 0, cells := 0, slots := 0, locals := 0 } : Room)) [(.int (g0_47_l11 x3 (x0 &&& (255 : Int32)) (x1 &&& (255 : Int32)) (x2 &&& (3 : Int32))))] (hw _ (List.mem_of_getElem? (i := 23) rfl)) (hw _ (List.mem_of_getElem? (i := 25) rfl)) (hw _ (List.mem_of_getElem? (i := 24) rfl)) (hw _ (List.mem_of_getElem? (i := 26) rfl)) (hw _ (List.mem_of_getElem? (i := 2) rfl)) (hw _ (List.mem_of_getElem? (i := 27) rfl)) (by decide) E114 (met_5 _ Z a0 hw h111 n0 X113.size a9 (g0_47_l11 x3 (x0 &&& (255 : Int32)) (x1 &&& (255 : Int32)) (x2 &&& (3 : Int32))) n100 (own_del (own_add (fun _ => false) (x0 &&& (255 : Int32)).toInt.toNat) (g0_47_l11 x3 (x0 &&& (255 : Int32)) (x1 &&& (255 : Int32)) (x2 &&& (3 : Int32))).toInt.toNat) B109 (own_qn x0 x1 x2 x3)) rfl at_146 rfl own_pd5 rfl rfl 0 (Nat.le_of_eq rfl) (by decide) (by decide) rfl rfl ?_
      intro T115 X116
      refine own_if_ne M X116 at_149 (by decide) rfl rfl (fun q117 => ?_) (fun q117 => ?_)
      · skip
        refine own_iconst M X116 (v := (0 : Int32)) at_156 rfl rfl ?_
        refine own_istore M X116 (L' := #[.val (.int x0), .val (.int x1), .val (.int x2), .val (.int x3), .val (.int x4), .val (.int x5), .val (.int (x0 &&& (255 : Int32))), .val (.int (x1 &&& (255 : Int32))), .val (.int (g0_14_l8 x5)), .val (.int (g0_28_l9 x5)), .val (.int (x2 &&& (3 : Int32))), .val (.int (g0_47_l11 x3 (x0 &&& (255 : Int32)) (x1 &&& (255 : Int32)) (x2 &&& (3 : Int32)))), .val (.int (x4 &&& (511 : Int32))), .val (.ref a9), .val (.int (0 : Int32))]) at_157 rfl rfl ?_
        refine own_iload M X116 at_159 rfl rfl ?_
        refine own_if_eq M X116 at_161 (by decide) rfl rfl (fun q118 => ?_) (fun q118 => ?_)
        · skip
          refine own_iconst M X116 (v := (0 : Int32)) at_193 rfl rfl ?_
          refine own_istore M X116 (L' := #[.val (.int x0), .val (.int x1), .val (.int x2), .val (.int x3), .val (.int x4), .val (.int x5), .val (.int (x0 &&& (255 : Int32))), .val (.int (x1 &&& (255 : Int32))), .val (.int (g0_14_l8 x5)), .val (.int (g0_28_l9 x5)), .val (.int (x2 &&& (3 : Int32))), .val (.int (g0_47_l11 x3 (x0 &&& (255 : Int32)) (x1 &&& (255 : Int32)) (x2 &&& (3 : Int32)))), .val (.int (x4 &&& (511 : Int32))), .val (.ref a9), .val (.int (0 : Int32))]) at_194 rfl rfl ?_
          refine own_iload M X116 at_196 rfl rfl ?_
          refine own_if_eq M X116 at_198 (by decide) rfl rfl (fun q119 => ?_) (fun q119 => ?_)
          · skip
            refine own_iconst M X116 (v := (0 : Int32)) at_230 rfl rfl ?_
            refine own_istore M X116 (L' := #[.val (.int x0), .val (.int x1), .val (.int x2), .val (.int x3), .val (.int x4), .val (.int x5), .val (.int (x0 &&& (255 : Int32))), .val (.int (x1 &&& (255 : Int32))), .val (.int (g0_14_l8 x5)), .val (.int (g0_28_l9 x5)), .val (.int (x2 &&& (3 : Int32))), .val (.int (g0_47_l11 x3 (x0 &&& (255 : Int32)) (x1 &&& (255 : Int32)) (x2 &&& (3 : Int32)))), .val (.int (x4 &&& (511 : Int32))), .val (.ref a9), .val (.int (0 : Int32))]) at_231 rfl rfl ?_
            refine own_iload M X116 at_233 rfl rfl ?_
            refine own_if_eq M X116 at_235 (by decide) rfl rfl (fun q120 => ?_) (fun q120 => ?_)
            · skip
              refine own_iconst M X116 (v := (0 : Int32)) at_267 rfl rfl ?_
              refine own_istore M X116 (L' := #[.val (.int x0), .val (.int x1), .val (.int x2), .val (.int x3), .val (.int x4), .val (.int x5), .val (.int (x0 &&& (255 : Int32))), .val (.int (x1 &&& (255 : Int32))), .val (.int (g0_14_l8 x5)), .val (.int (g0_28_l9 x5)), .val (.int (x2 &&& (3 : Int32))), .val (.int (g0_47_l11 x3 (x0 &&& (255 : Int32)) (x1 &&& (255 : Int32)) (x2 &&& (3 : Int32)))), .val (.int (x4 &&& (511 : Int32))), .val (.ref a9), .val (.int (0 : Int32))]) at_268 rfl rfl ?_
              refine own_iload M X116 at_270 rfl rfl ?_
              exact own_retN M X116 (z' := (0 : Int32)) (by simp) at_272 rfl (by rw [F0, if_neg q24, if_pos q108, if_neg q117])
            · exact absurd (by decide) q120
          · exact absurd (by decide) q119
        · exact absurd (by decide) q118
      · skip
        refine own_iconst M X116 (v := (1 : Int32)) at_152 rfl rfl ?_
        refine own_goto M X116 at_153 (by decide) rfl ?_
        refine own_istore M X116 (L' := #[.val (.int x0), .val (.int x1), .val (.int x2), .val (.int x3), .val (.int x4), .val (.int x5), .val (.int (x0 &&& (255 : Int32))), .val (.int (x1 &&& (255 : Int32))), .val (.int (g0_14_l8 x5)), .val (.int (g0_28_l9 x5)), .val (.int (x2 &&& (3 : Int32))), .val (.int (g0_47_l11 x3 (x0 &&& (255 : Int32)) (x1 &&& (255 : Int32)) (x2 &&& (3 : Int32)))), .val (.int (x4 &&& (511 : Int32))), .val (.ref a9), .val (.int (1 : Int32))]) at_157 rfl rfl ?_
        refine own_iload M X116 at_159 rfl rfl ?_
        refine own_if_eq M X116 at_161 (by decide) rfl rfl (fun q121 => ?_) (fun q121 => ?_)
        · exact absurd q121 (by decide)
        · skip
          refine own_aload M X116 at_164 rfl rfl rfl ?_
          refine own_iload M X116 at_166 rfl rfl ?_
          refine own_callVP M X116 (yrm := ({ frames := 0, cells := 0, slots := 0, locals := 0 } : Room)) [(.int (x0 &&& (255 : Int32)))] (hw _ (List.mem_of_getElem? (i := 23) rfl)) (hw _ (List.mem_of_getElem? (i := 25) rfl)) (hw _ (List.mem_of_getElem? (i := 24) rfl)) (hw _ (List.mem_of_getElem? (i := 26) rfl)) (hw _ (List.mem_of_getElem? (i := 2) rfl)) (hw _ (List.mem_of_getElem? (i := 27) rfl)) (by decide) E114 (met_5 _ Z a0 hw h111 n0 X116.size a9 (x0 &&& (255 : Int32)) n100 (own_del (own_add (fun _ => false) (x0 &&& (255 : Int32)).toInt.toNat) (g0_47_l11 x3 (x0 &&& (255 : Int32)) (x1 &&& (255 : Int32)) (x2 &&& (3 : Int32))).toInt.toNat) B109 (own_n8 x0).1) rfl at_168 rfl own_pd5 rfl rfl 0 (Nat.le_of_eq rfl) (by decide) (by decide) rfl rfl ?_
          intro T122 X123
          refine own_iload M X123 at_171 rfl rfl ?_
          refine own_iload M X123 at_173 rfl rfl ?_
          refine own_iload M X123 at_175 rfl rfl ?_
          refine own_iload M X123 at_177 rfl rfl ?_
          refine own_iload M X123 at_179 rfl rfl ?_
          refine own_iload M X123 at_181 rfl rfl ?_
          refine own_callP M X123 (yrm := ({ frames := 1, cells := 0, slots := 0, locals := 16 } : Room)) [(.int (g0_14_l8 x5)), (.int (x0 &&& (255 : Int32))), (.int (g0_28_l9 x5)), (.int (x1 &&& (255 : Int32))), (.int (g0_47_l11 x3 (x0 &&& (255 : Int32)) (x1 &&& (255 : Int32)) (x2 &&& (3 : Int32)))), (.int (x0 &&& (255 : Int32)))] (hw _ (List.mem_of_getElem? (i := 28) rfl)) (hw _ (List.mem_of_getElem? (i := 29) rfl)) (hw _ (List.mem_of_getElem? (i := 30) rfl)) (hw _ (List.mem_of_getElem? (i := 31) rfl)) (by decide) (met_6 _ Z a0 hw h111 n0 X123.size (g0_14_l8 x5) (x0 &&& (255 : Int32)) (g0_28_l9 x5) (x1 &&& (255 : Int32)) (g0_47_l11 x3 (x0 &&& (255 : Int32)) (x1 &&& (255 : Int32)) (x2 &&& (3 : Int32))) (x0 &&& (255 : Int32))) rfl at_183 rfl own_pd6 rfl rfl 1 (Nat.le_of_eq rfl) (by decide) (by decide) rfl rfl ?_
          intro T124 X125
          refine own_icmp_ne M X125 at_186 (by decide) rfl rfl (fun q126 => ?_) (fun q126 => ?_)
          · skip
            refine own_iconst M X125 (v := (0 : Int32)) at_193 rfl rfl ?_
            refine own_istore M X125 (L' := #[.val (.int x0), .val (.int x1), .val (.int x2), .val (.int x3), .val (.int x4), .val (.int x5), .val (.int (x0 &&& (255 : Int32))), .val (.int (x1 &&& (255 : Int32))), .val (.int (g0_14_l8 x5)), .val (.int (g0_28_l9 x5)), .val (.int (x2 &&& (3 : Int32))), .val (.int (g0_47_l11 x3 (x0 &&& (255 : Int32)) (x1 &&& (255 : Int32)) (x2 &&& (3 : Int32)))), .val (.int (x4 &&& (511 : Int32))), .val (.ref a9), .val (.int (0 : Int32))]) at_194 rfl rfl ?_
            refine own_iload M X125 at_196 rfl rfl ?_
            refine own_if_eq M X125 at_198 (by decide) rfl rfl (fun q127 => ?_) (fun q127 => ?_)
            · skip
              refine own_iconst M X125 (v := (0 : Int32)) at_230 rfl rfl ?_
              refine own_istore M X125 (L' := #[.val (.int x0), .val (.int x1), .val (.int x2), .val (.int x3), .val (.int x4), .val (.int x5), .val (.int (x0 &&& (255 : Int32))), .val (.int (x1 &&& (255 : Int32))), .val (.int (g0_14_l8 x5)), .val (.int (g0_28_l9 x5)), .val (.int (x2 &&& (3 : Int32))), .val (.int (g0_47_l11 x3 (x0 &&& (255 : Int32)) (x1 &&& (255 : Int32)) (x2 &&& (3 : Int32)))), .val (.int (x4 &&& (511 : Int32))), .val (.ref a9), .val (.int (0 : Int32))]) at_231 rfl rfl ?_
              refine own_iload M X125 at_233 rfl rfl ?_
              refine own_if_eq M X125 at_235 (by decide) rfl rfl (fun q128 => ?_) (fun q128 => ?_)
              · skip
                refine own_iconst M X125 (v := (0 : Int32)) at_267 rfl rfl ?_
                refine own_istore M X125 (L' := #[.val (.int x0), .val (.int x1), .val (.int x2), .val (.int x3), .val (.int x4), .val (.int x5), .val (.int (x0 &&& (255 : Int32))), .val (.int (x1 &&& (255 : Int32))), .val (.int (g0_14_l8 x5)), .val (.int (g0_28_l9 x5)), .val (.int (x2 &&& (3 : Int32))), .val (.int (g0_47_l11 x3 (x0 &&& (255 : Int32)) (x1 &&& (255 : Int32)) (x2 &&& (3 : Int32)))), .val (.int (x4 &&& (511 : Int32))), .val (.ref a9), .val (.int (0 : Int32))]) at_268 rfl rfl ?_
                refine own_iload M X125 at_270 rfl rfl ?_
                exact own_retN M X125 (z' := (0 : Int32)) (by simp) at_272 rfl (by rw [F0, if_neg q24, if_pos q108, if_pos q117, if_neg q126])
              · exact absurd (by decide) q128
            · exact absurd (by decide) q127
          · skip
            refine own_iconst M X125 (v := (1 : Int32)) at_189 rfl rfl ?_
            refine own_goto M X125 at_190 (by decide) rfl ?_
            refine own_istore M X125 (L' := #[.val (.int x0), .val (.int x1), .val (.int x2), .val (.int x3), .val (.int x4), .val (.int x5), .val (.int (x0 &&& (255 : Int32))), .val (.int (x1 &&& (255 : Int32))), .val (.int (g0_14_l8 x5)), .val (.int (g0_28_l9 x5)), .val (.int (x2 &&& (3 : Int32))), .val (.int (g0_47_l11 x3 (x0 &&& (255 : Int32)) (x1 &&& (255 : Int32)) (x2 &&& (3 : Int32)))), .val (.int (x4 &&& (511 : Int32))), .val (.ref a9), .val (.int (1 : Int32))]) at_194 rfl rfl ?_
            refine own_iload M X125 at_196 rfl rfl ?_
            refine own_if_eq M X125 at_198 (by decide) rfl rfl (fun q129 => ?_) (fun q129 => ?_)
            · exact absurd q129 (by decide)
            · skip
              refine own_aload M X125 at_201 rfl rfl rfl ?_
              refine own_iload M X125 at_203 rfl rfl ?_
              refine own_callVP M X125 (yrm := ({ frames := 0, cells := 0, slots := 0, locals := 0 } : Room)) [(.int (x1 &&& (255 : Int32)))] (hw _ (List.mem_of_getElem? (i := 23) rfl)) (hw _ (List.mem_of_getElem? (i := 25) rfl)) (hw _ (List.mem_of_getElem? (i := 24) rfl)) (hw _ (List.mem_of_getElem? (i := 26) rfl)) (hw _ (List.mem_of_getElem? (i := 2) rfl)) (hw _ (List.mem_of_getElem? (i := 27) rfl)) (by decide) E114 (met_5 _ Z a0 hw h111 n0 X125.size a9 (x1 &&& (255 : Int32)) n100 (own_del (own_add (fun _ => false) (x0 &&& (255 : Int32)).toInt.toNat) (g0_47_l11 x3 (x0 &&& (255 : Int32)) (x1 &&& (255 : Int32)) (x2 &&& (3 : Int32))).toInt.toNat) B109 (own_n8 x1).1) rfl at_205 rfl own_pd5 rfl rfl 0 (Nat.le_of_eq rfl) (by decide) (by decide) rfl rfl ?_
              intro T130 X131
              refine own_iload M X131 at_208 rfl rfl ?_
              refine own_iload M X131 at_210 rfl rfl ?_
              refine own_iload M X131 at_212 rfl rfl ?_
              refine own_iload M X131 at_214 rfl rfl ?_
              refine own_iload M X131 at_216 rfl rfl ?_
              refine own_iload M X131 at_218 rfl rfl ?_
              refine own_callP M X131 (yrm := ({ frames := 1, cells := 0, slots := 0, locals := 16 } : Room)) [(.int (g0_14_l8 x5)), (.int (x0 &&& (255 : Int32))), (.int (g0_28_l9 x5)), (.int (x1 &&& (255 : Int32))), (.int (g0_47_l11 x3 (x0 &&& (255 : Int32)) (x1 &&& (255 : Int32)) (x2 &&& (3 : Int32)))), (.int (x1 &&& (255 : Int32)))] (hw _ (List.mem_of_getElem? (i := 28) rfl)) (hw _ (List.mem_of_getElem? (i := 29) rfl)) (hw _ (List.mem_of_getElem? (i := 30) rfl)) (hw _ (List.mem_of_getElem? (i := 31) rfl)) (by decide) (met_6 _ Z a0 hw h111 n0 X131.size (g0_14_l8 x5) (x0 &&& (255 : Int32)) (g0_28_l9 x5) (x1 &&& (255 : Int32)) (g0_47_l11 x3 (x0 &&& (255 : Int32)) (x1 &&& (255 : Int32)) (x2 &&& (3 : Int32))) (x1 &&& (255 : Int32))) rfl at_220 rfl own_pd6 rfl rfl 1 (Nat.le_of_eq rfl) (by decide) (by decide) rfl rfl ?_
              intro T132 X133
              refine own_icmp_ne M X133 at_223 (by decide) rfl rfl (fun q134 => ?_) (fun q134 => ?_)
              · skip
                refine own_iconst M X133 (v := (0 : Int32)) at_230 rfl rfl ?_
                refine own_istore M X133 (L' := #[.val (.int x0), .val (.int x1), .val (.int x2), .val (.int x3), .val (.int x4), .val (.int x5), .val (.int (x0 &&& (255 : Int32))), .val (.int (x1 &&& (255 : Int32))), .val (.int (g0_14_l8 x5)), .val (.int (g0_28_l9 x5)), .val (.int (x2 &&& (3 : Int32))), .val (.int (g0_47_l11 x3 (x0 &&& (255 : Int32)) (x1 &&& (255 : Int32)) (x2 &&& (3 : Int32)))), .val (.int (x4 &&& (511 : Int32))), .val (.ref a9), .val (.int (0 : Int32))]) at_231 rfl rfl ?_
                refine own_iload M X133 at_233 rfl rfl ?_
                refine own_if_eq M X133 at_235 (by decide) rfl rfl (fun q135 => ?_) (fun q135 => ?_)
                · skip
                  refine own_iconst M X133 (v := (0 : Int32)) at_267 rfl rfl ?_
                  refine own_istore M X133 (L' := #[.val (.int x0), .val (.int x1), .val (.int x2), .val (.int x3), .val (.int x4), .val (.int x5), .val (.int (x0 &&& (255 : Int32))), .val (.int (x1 &&& (255 : Int32))), .val (.int (g0_14_l8 x5)), .val (.int (g0_28_l9 x5)), .val (.int (x2 &&& (3 : Int32))), .val (.int (g0_47_l11 x3 (x0 &&& (255 : Int32)) (x1 &&& (255 : Int32)) (x2 &&& (3 : Int32)))), .val (.int (x4 &&& (511 : Int32))), .val (.ref a9), .val (.int (0 : Int32))]) at_268 rfl rfl ?_
                  refine own_iload M X133 at_270 rfl rfl ?_
                  exact own_retN M X133 (z' := (0 : Int32)) (by simp) at_272 rfl (by rw [F0, if_neg q24, if_pos q108, if_pos q117, if_pos q126, if_neg q134])
                · exact absurd (by decide) q135
              · skip
                refine own_iconst M X133 (v := (1 : Int32)) at_226 rfl rfl ?_
                refine own_goto M X133 at_227 (by decide) rfl ?_
                refine own_istore M X133 (L' := #[.val (.int x0), .val (.int x1), .val (.int x2), .val (.int x3), .val (.int x4), .val (.int x5), .val (.int (x0 &&& (255 : Int32))), .val (.int (x1 &&& (255 : Int32))), .val (.int (g0_14_l8 x5)), .val (.int (g0_28_l9 x5)), .val (.int (x2 &&& (3 : Int32))), .val (.int (g0_47_l11 x3 (x0 &&& (255 : Int32)) (x1 &&& (255 : Int32)) (x2 &&& (3 : Int32)))), .val (.int (x4 &&& (511 : Int32))), .val (.ref a9), .val (.int (1 : Int32))]) at_231 rfl rfl ?_
                refine own_iload M X133 at_233 rfl rfl ?_
                refine own_if_eq M X133 at_235 (by decide) rfl rfl (fun q136 => ?_) (fun q136 => ?_)
                · exact absurd q136 (by decide)
                · skip
                  refine own_aload M X133 at_238 rfl rfl rfl ?_
                  refine own_iload M X133 at_240 rfl rfl ?_
                  refine own_callVP M X133 (yrm := ({ frames := 0, cells := 0, slots := 0, locals := 0 } : Room)) [(.int (x4 &&& (511 : Int32)))] (hw _ (List.mem_of_getElem? (i := 23) rfl)) (hw _ (List.mem_of_getElem? (i := 25) rfl)) (hw _ (List.mem_of_getElem? (i := 24) rfl)) (hw _ (List.mem_of_getElem? (i := 26) rfl)) (hw _ (List.mem_of_getElem? (i := 2) rfl)) (hw _ (List.mem_of_getElem? (i := 27) rfl)) (by decide) E114 (met_5 _ Z a0 hw h111 n0 X133.size a9 (x4 &&& (511 : Int32)) n100 (own_del (own_add (fun _ => false) (x0 &&& (255 : Int32)).toInt.toNat) (g0_47_l11 x3 (x0 &&& (255 : Int32)) (x1 &&& (255 : Int32)) (x2 &&& (3 : Int32))).toInt.toNat) B109 (own_n9 x4).1) rfl at_242 rfl own_pd5 rfl rfl 0 (Nat.le_of_eq rfl) (by decide) (by decide) rfl rfl ?_
                  intro T137 X138
                  refine own_iload M X138 at_245 rfl rfl ?_
                  refine own_iload M X138 at_247 rfl rfl ?_
                  refine own_iload M X138 at_249 rfl rfl ?_
                  refine own_iload M X138 at_251 rfl rfl ?_
                  refine own_iload M X138 at_253 rfl rfl ?_
                  refine own_iload M X138 at_255 rfl rfl ?_
                  refine own_callP M X138 (yrm := ({ frames := 1, cells := 0, slots := 0, locals := 16 } : Room)) [(.int (g0_14_l8 x5)), (.int (x0 &&& (255 : Int32))), (.int (g0_28_l9 x5)), (.int (x1 &&& (255 : Int32))), (.int (g0_47_l11 x3 (x0 &&& (255 : Int32)) (x1 &&& (255 : Int32)) (x2 &&& (3 : Int32)))), (.int (x4 &&& (511 : Int32)))] (hw _ (List.mem_of_getElem? (i := 28) rfl)) (hw _ (List.mem_of_getElem? (i := 29) rfl)) (hw _ (List.mem_of_getElem? (i := 30) rfl)) (hw _ (List.mem_of_getElem? (i := 31) rfl)) (by decide) (met_6 _ Z a0 hw h111 n0 X138.size (g0_14_l8 x5) (x0 &&& (255 : Int32)) (g0_28_l9 x5) (x1 &&& (255 : Int32)) (g0_47_l11 x3 (x0 &&& (255 : Int32)) (x1 &&& (255 : Int32)) (x2 &&& (3 : Int32))) (x4 &&& (511 : Int32))) rfl at_257 rfl own_pd6 rfl rfl 1 (Nat.le_of_eq rfl) (by decide) (by decide) rfl rfl ?_
                  intro T139 X140
                  refine own_icmp_ne M X140 at_260 (by decide) rfl rfl (fun q141 => ?_) (fun q141 => ?_)
                  · skip
                    refine own_iconst M X140 (v := (0 : Int32)) at_267 rfl rfl ?_
                    refine own_istore M X140 (L' := #[.val (.int x0), .val (.int x1), .val (.int x2), .val (.int x3), .val (.int x4), .val (.int x5), .val (.int (x0 &&& (255 : Int32))), .val (.int (x1 &&& (255 : Int32))), .val (.int (g0_14_l8 x5)), .val (.int (g0_28_l9 x5)), .val (.int (x2 &&& (3 : Int32))), .val (.int (g0_47_l11 x3 (x0 &&& (255 : Int32)) (x1 &&& (255 : Int32)) (x2 &&& (3 : Int32)))), .val (.int (x4 &&& (511 : Int32))), .val (.ref a9), .val (.int (0 : Int32))]) at_268 rfl rfl ?_
                    refine own_iload M X140 at_270 rfl rfl ?_
                    exact own_retN M X140 (z' := (0 : Int32)) (by simp) at_272 rfl (by rw [F0, if_neg q24, if_pos q108, if_pos q117, if_pos q126, if_pos q134, if_neg q141])
                  · skip
                    refine own_iconst M X140 (v := (1 : Int32)) at_263 rfl rfl ?_
                    refine own_goto M X140 at_264 (by decide) rfl ?_
                    refine own_istore M X140 (L' := #[.val (.int x0), .val (.int x1), .val (.int x2), .val (.int x3), .val (.int x4), .val (.int x5), .val (.int (x0 &&& (255 : Int32))), .val (.int (x1 &&& (255 : Int32))), .val (.int (g0_14_l8 x5)), .val (.int (g0_28_l9 x5)), .val (.int (x2 &&& (3 : Int32))), .val (.int (g0_47_l11 x3 (x0 &&& (255 : Int32)) (x1 &&& (255 : Int32)) (x2 &&& (3 : Int32)))), .val (.int (x4 &&& (511 : Int32))), .val (.ref a9), .val (.int (1 : Int32))]) at_268 rfl rfl ?_
                    refine own_iload M X140 at_270 rfl rfl ?_
                    exact own_retN M X140 (z' := (1 : Int32)) (by simp) at_272 rfl (by rw [F0, if_neg q24, if_pos q108, if_pos q117, if_pos q126, if_pos q134, if_pos q141])
    · skip
      refine own_aload M X106 at_128 rfl rfl rfl ?_
      refine own_iload M X106 at_130 rfl rfl ?_
      have gqn142 : max ((x1 &&& (255 : Int32)).toInt.toNat / 64 + 1) (2 * n100) ≤ 8 := by have := own_n8 x1; omega
      refine own_callV M X106 (yrm := ({ frames := 2, cells := 1, slots := 8, locals := 35 } : Room)) [(.int (x1 &&& (255 : Int32)))] (hw _ (List.mem_of_getElem? (i := 12) rfl)) (hw _ (List.mem_of_getElem? (i := 14) rfl)) (hw _ (List.mem_of_getElem? (i := 13) rfl)) (hw _ (List.mem_of_getElem? (i := 15) rfl)) (hw _ (List.mem_of_getElem? (i := 2) rfl)) (hw _ (List.mem_of_getElem? (i := 16) rfl)) (by decide) E107 (met_3 _ Z a0 hw h104 n0 X106.size a9 (x1 &&& (255 : Int32)) n100 8 (own_add (fun _ => false) (x0 &&& (255 : Int32)).toInt.toNat) B102 ge10 (own_n8 x1).1 gqn142 (by decide)) rfl at_132 rfl own_pd4 rfl rfl 0 (Nat.le_of_eq rfl) (by decide) (by decide) (by decide) (by decide) ?_
      rintro T145 h146 v147 X148 ⟨rfl, n142, hn143, B144⟩
      have E149 := B144.1
      replace X148 : own_Sx n0 K T145 h146 4 14 := X148
      show own_Fin n0 K _ T145 135 #[.val (.int x0), .val (.int x1), .val (.int x2), .val (.int x3), .val (.int x4), .val (.int x5), .val (.int (x0 &&& (255 : Int32))), .val (.int (x1 &&& (255 : Int32))), .val (.int (g0_14_l8 x5)), .val (.int (g0_28_l9 x5)), .val (.int (x2 &&& (3 : Int32))), .val (.int (g0_47_l11 x3 (x0 &&& (255 : Int32)) (x1 &&& (255 : Int32)) (x2 &&& (3 : Int32)))), .val (.int (x4 &&& (511 : Int32))), .val (.ref a9), .unset] []
      refine own_aload M X148 at_135 rfl rfl rfl ?_
      refine own_iload M X148 at_137 rfl rfl ?_
      refine own_callV M X148 (yrm := ({ frames := 0, cells := 0, slots := 0, locals := 0 } : Room)) [(.int (g0_47_l11 x3 (x0 &&& (255 : Int32)) (x1 &&& (255 : Int32)) (x2 &&& (3 : Int32))))] (hw _ (List.mem_of_getElem? (i := 17) rfl)) (hw _ (List.mem_of_getElem? (i := 19) rfl)) (hw _ (List.mem_of_getElem? (i := 18) rfl)) (hw _ (List.mem_of_getElem? (i := 20) rfl)) (hw _ (List.mem_of_getElem? (i := 2) rfl)) (hw _ (List.mem_of_getElem? (i := 21) rfl)) (by decide) E149 (met_4 _ Z a0 hw h146 n0 X148.size a9 (g0_47_l11 x3 (x0 &&& (255 : Int32)) (x1 &&& (255 : Int32)) (x2 &&& (3 : Int32))) n142 (own_add (own_add (fun _ => false) (x0 &&& (255 : Int32)).toInt.toNat) (x1 &&& (255 : Int32)).toInt.toNat) B144 ge10 (own_qn x0 x1 x2 x3)) rfl at_139 rfl own_pd4 rfl rfl 0 (Nat.le_of_eq rfl) (by decide) (by decide) (by decide) (by decide) ?_
      rintro T151 h152 v153 X154 ⟨rfl, B150⟩
      have E155 := B150.1
      replace X154 : own_Sx n0 K T151 h152 4 14 := X154
      show own_Fin n0 K _ T151 142 #[.val (.int x0), .val (.int x1), .val (.int x2), .val (.int x3), .val (.int x4), .val (.int x5), .val (.int (x0 &&& (255 : Int32))), .val (.int (x1 &&& (255 : Int32))), .val (.int (g0_14_l8 x5)), .val (.int (g0_28_l9 x5)), .val (.int (x2 &&& (3 : Int32))), .val (.int (g0_47_l11 x3 (x0 &&& (255 : Int32)) (x1 &&& (255 : Int32)) (x2 &&& (3 : Int32)))), .val (.int (x4 &&& (511 : Int32))), .val (.ref a9), .unset] []
      refine own_aload M X154 at_142 rfl rfl rfl ?_
      refine own_iload M X154 at_144 rfl rfl ?_
      refine own_callVP M X154 (yrm := ({ frames := 0, cells := 0, slots := 0, locals := 0 } : Room)) [(.int (g0_47_l11 x3 (x0 &&& (255 : Int32)) (x1 &&& (255 : Int32)) (x2 &&& (3 : Int32))))] (hw _ (List.mem_of_getElem? (i := 23) rfl)) (hw _ (List.mem_of_getElem? (i := 25) rfl)) (hw _ (List.mem_of_getElem? (i := 24) rfl)) (hw _ (List.mem_of_getElem? (i := 26) rfl)) (hw _ (List.mem_of_getElem? (i := 2) rfl)) (hw _ (List.mem_of_getElem? (i := 27) rfl)) (by decide) E155 (met_5 _ Z a0 hw h152 n0 X154.size a9 (g0_47_l11 x3 (x0 &&& (255 : Int32)) (x1 &&& (255 : Int32)) (x2 &&& (3 : Int32))) n142 (own_del (own_add (own_add (fun _ => false) (x0 &&& (255 : Int32)).toInt.toNat) (x1 &&& (255 : Int32)).toInt.toNat) (g0_47_l11 x3 (x0 &&& (255 : Int32)) (x1 &&& (255 : Int32)) (x2 &&& (3 : Int32))).toInt.toNat) B150 (own_qn x0 x1 x2 x3)) rfl at_146 rfl own_pd5 rfl rfl 0 (Nat.le_of_eq rfl) (by decide) (by decide) rfl rfl ?_
      intro T156 X157
      refine own_if_ne M X157 at_149 (by decide) rfl rfl (fun q158 => ?_) (fun q158 => ?_)
      · skip
        refine own_iconst M X157 (v := (0 : Int32)) at_156 rfl rfl ?_
        refine own_istore M X157 (L' := #[.val (.int x0), .val (.int x1), .val (.int x2), .val (.int x3), .val (.int x4), .val (.int x5), .val (.int (x0 &&& (255 : Int32))), .val (.int (x1 &&& (255 : Int32))), .val (.int (g0_14_l8 x5)), .val (.int (g0_28_l9 x5)), .val (.int (x2 &&& (3 : Int32))), .val (.int (g0_47_l11 x3 (x0 &&& (255 : Int32)) (x1 &&& (255 : Int32)) (x2 &&& (3 : Int32)))), .val (.int (x4 &&& (511 : Int32))), .val (.ref a9), .val (.int (0 : Int32))]) at_157 rfl rfl ?_
        refine own_iload M X157 at_159 rfl rfl ?_
        refine own_if_eq M X157 at_161 (by decide) rfl rfl (fun q159 => ?_) (fun q159 => ?_)
        · skip
          refine own_iconst M X157 (v := (0 : Int32)) at_193 rfl rfl ?_
          refine own_istore M X157 (L' := #[.val (.int x0), .val (.int x1), .val (.int x2), .val (.int x3), .val (.int x4), .val (.int x5), .val (.int (x0 &&& (255 : Int32))), .val (.int (x1 &&& (255 : Int32))), .val (.int (g0_14_l8 x5)), .val (.int (g0_28_l9 x5)), .val (.int (x2 &&& (3 : Int32))), .val (.int (g0_47_l11 x3 (x0 &&& (255 : Int32)) (x1 &&& (255 : Int32)) (x2 &&& (3 : Int32)))), .val (.int (x4 &&& (511 : Int32))), .val (.ref a9), .val (.int (0 : Int32))]) at_194 rfl rfl ?_
          refine own_iload M X157 at_196 rfl rfl ?_
          refine own_if_eq M X157 at_198 (by decide) rfl rfl (fun q160 => ?_) (fun q160 => ?_)
          · skip
            refine own_iconst M X157 (v := (0 : Int32)) at_230 rfl rfl ?_
            refine own_istore M X157 (L' := #[.val (.int x0), .val (.int x1), .val (.int x2), .val (.int x3), .val (.int x4), .val (.int x5), .val (.int (x0 &&& (255 : Int32))), .val (.int (x1 &&& (255 : Int32))), .val (.int (g0_14_l8 x5)), .val (.int (g0_28_l9 x5)), .val (.int (x2 &&& (3 : Int32))), .val (.int (g0_47_l11 x3 (x0 &&& (255 : Int32)) (x1 &&& (255 : Int32)) (x2 &&& (3 : Int32)))), .val (.int (x4 &&& (511 : Int32))), .val (.ref a9), .val (.int (0 : Int32))]) at_231 rfl rfl ?_
            refine own_iload M X157 at_233 rfl rfl ?_
            refine own_if_eq M X157 at_235 (by decide) rfl rfl (fun q161 => ?_) (fun q161 => ?_)
            · skip
              refine own_iconst M X157 (v := (0 : Int32)) at_267 rfl rfl ?_
              refine own_istore M X157 (L' := #[.val (.int x0), .val (.int x1), .val (.int x2), .val (.int x3), .val (.int x4), .val (.int x5), .val (.int (x0 &&& (255 : Int32))), .val (.int (x1 &&& (255 : Int32))), .val (.int (g0_14_l8 x5)), .val (.int (g0_28_l9 x5)), .val (.int (x2 &&& (3 : Int32))), .val (.int (g0_47_l11 x3 (x0 &&& (255 : Int32)) (x1 &&& (255 : Int32)) (x2 &&& (3 : Int32)))), .val (.int (x4 &&& (511 : Int32))), .val (.ref a9), .val (.int (0 : Int32))]) at_268 rfl rfl ?_
              refine own_iload M X157 at_270 rfl rfl ?_
              exact own_retN M X157 (z' := (0 : Int32)) (by simp) at_272 rfl (by rw [F0, if_neg q24, if_neg q108, if_neg q158])
            · exact absurd (by decide) q161
          · exact absurd (by decide) q160
        · exact absurd (by decide) q159
      · skip
        refine own_iconst M X157 (v := (1 : Int32)) at_152 rfl rfl ?_
        refine own_goto M X157 at_153 (by decide) rfl ?_
        refine own_istore M X157 (L' := #[.val (.int x0), .val (.int x1), .val (.int x2), .val (.int x3), .val (.int x4), .val (.int x5), .val (.int (x0 &&& (255 : Int32))), .val (.int (x1 &&& (255 : Int32))), .val (.int (g0_14_l8 x5)), .val (.int (g0_28_l9 x5)), .val (.int (x2 &&& (3 : Int32))), .val (.int (g0_47_l11 x3 (x0 &&& (255 : Int32)) (x1 &&& (255 : Int32)) (x2 &&& (3 : Int32)))), .val (.int (x4 &&& (511 : Int32))), .val (.ref a9), .val (.int (1 : Int32))]) at_157 rfl rfl ?_
        refine own_iload M X157 at_159 rfl rfl ?_
        refine own_if_eq M X157 at_161 (by decide) rfl rfl (fun q162 => ?_) (fun q162 => ?_)
        · exact absurd q162 (by decide)
        · skip
          refine own_aload M X157 at_164 rfl rfl rfl ?_
          refine own_iload M X157 at_166 rfl rfl ?_
          refine own_callVP M X157 (yrm := ({ frames := 0, cells := 0, slots := 0, locals := 0 } : Room)) [(.int (x0 &&& (255 : Int32)))] (hw _ (List.mem_of_getElem? (i := 23) rfl)) (hw _ (List.mem_of_getElem? (i := 25) rfl)) (hw _ (List.mem_of_getElem? (i := 24) rfl)) (hw _ (List.mem_of_getElem? (i := 26) rfl)) (hw _ (List.mem_of_getElem? (i := 2) rfl)) (hw _ (List.mem_of_getElem? (i := 27) rfl)) (by decide) E155 (met_5 _ Z a0 hw h152 n0 X157.size a9 (x0 &&& (255 : Int32)) n142 (own_del (own_add (own_add (fun _ => false) (x0 &&& (255 : Int32)).toInt.toNat) (x1 &&& (255 : Int32)).toInt.toNat) (g0_47_l11 x3 (x0 &&& (255 : Int32)) (x1 &&& (255 : Int32)) (x2 &&& (3 : Int32))).toInt.toNat) B150 (own_n8 x0).1) rfl at_168 rfl own_pd5 rfl rfl 0 (Nat.le_of_eq rfl) (by decide) (by decide) rfl rfl ?_
          intro T163 X164
          refine own_iload M X164 at_171 rfl rfl ?_
          refine own_iload M X164 at_173 rfl rfl ?_
          refine own_iload M X164 at_175 rfl rfl ?_
          refine own_iload M X164 at_177 rfl rfl ?_
          refine own_iload M X164 at_179 rfl rfl ?_
          refine own_iload M X164 at_181 rfl rfl ?_
          refine own_callP M X164 (yrm := ({ frames := 1, cells := 0, slots := 0, locals := 16 } : Room)) [(.int (g0_14_l8 x5)), (.int (x0 &&& (255 : Int32))), (.int (g0_28_l9 x5)), (.int (x1 &&& (255 : Int32))), (.int (g0_47_l11 x3 (x0 &&& (255 : Int32)) (x1 &&& (255 : Int32)) (x2 &&& (3 : Int32)))), (.int (x0 &&& (255 : Int32)))] (hw _ (List.mem_of_getElem? (i := 28) rfl)) (hw _ (List.mem_of_getElem? (i := 29) rfl)) (hw _ (List.mem_of_getElem? (i := 30) rfl)) (hw _ (List.mem_of_getElem? (i := 31) rfl)) (by decide) (met_6 _ Z a0 hw h152 n0 X164.size (g0_14_l8 x5) (x0 &&& (255 : Int32)) (g0_28_l9 x5) (x1 &&& (255 : Int32)) (g0_47_l11 x3 (x0 &&& (255 : Int32)) (x1 &&& (255 : Int32)) (x2 &&& (3 : Int32))) (x0 &&& (255 : Int32))) rfl at_183 rfl own_pd6 rfl rfl 1 (Nat.le_of_eq rfl) (by decide) (by decide) rfl rfl ?_
          intro T165 X166
          refine own_icmp_ne M X166 at_186 (by decide) rfl rfl (fun q167 => ?_) (fun q167 => ?_)
          · skip
            refine own_iconst M X166 (v := (0 : Int32)) at_193 rfl rfl ?_
            refine own_istore M X166 (L' := #[.val (.int x0), .val (.int x1), .val (.int x2), .val (.int x3), .val (.int x4), .val (.int x5), .val (.int (x0 &&& (255 : Int32))), .val (.int (x1 &&& (255 : Int32))), .val (.int (g0_14_l8 x5)), .val (.int (g0_28_l9 x5)), .val (.int (x2 &&& (3 : Int32))), .val (.int (g0_47_l11 x3 (x0 &&& (255 : Int32)) (x1 &&& (255 : Int32)) (x2 &&& (3 : Int32)))), .val (.int (x4 &&& (511 : Int32))), .val (.ref a9), .val (.int (0 : Int32))]) at_194 rfl rfl ?_
            refine own_iload M X166 at_196 rfl rfl ?_
            refine own_if_eq M X166 at_198 (by decide) rfl rfl (fun q168 => ?_) (fun q168 => ?_)
            · skip
              refine own_iconst M X166 (v := (0 : Int32)) at_230 rfl rfl ?_
              refine own_istore M X166 (L' := #[.val (.int x0), .val (.int x1), .val (.int x2), .val (.int x3), .val (.int x4), .val (.int x5), .val (.int (x0 &&& (255 : Int32))), .val (.int (x1 &&& (255 : Int32))), .val (.int (g0_14_l8 x5)), .val (.int (g0_28_l9 x5)), .val (.int (x2 &&& (3 : Int32))), .val (.int (g0_47_l11 x3 (x0 &&& (255 : Int32)) (x1 &&& (255 : Int32)) (x2 &&& (3 : Int32)))), .val (.int (x4 &&& (511 : Int32))), .val (.ref a9), .val (.int (0 : Int32))]) at_231 rfl rfl ?_
              refine own_iload M X166 at_233 rfl rfl ?_
              refine own_if_eq M X166 at_235 (by decide) rfl rfl (fun q169 => ?_) (fun q169 => ?_)
              · skip
                refine own_iconst M X166 (v := (0 : Int32)) at_267 rfl rfl ?_
                refine own_istore M X166 (L' := #[.val (.int x0), .val (.int x1), .val (.int x2), .val (.int x3), .val (.int x4), .val (.int x5), .val (.int (x0 &&& (255 : Int32))), .val (.int (x1 &&& (255 : Int32))), .val (.int (g0_14_l8 x5)), .val (.int (g0_28_l9 x5)), .val (.int (x2 &&& (3 : Int32))), .val (.int (g0_47_l11 x3 (x0 &&& (255 : Int32)) (x1 &&& (255 : Int32)) (x2 &&& (3 : Int32)))), .val (.int (x4 &&& (511 : Int32))), .val (.ref a9), .val (.int (0 : Int32))]) at_268 rfl rfl ?_
                refine own_iload M X166 at_270 rfl rfl ?_
                exact own_retN M X166 (z' := (0 : Int32)) (by simp) at_272 rfl (by rw [F0, if_neg q24, if_neg q108, if_pos q158, if_neg q167])
              · exact absurd (by decide) q169
            · exact absurd (by decide) q168
          · skip
            refine own_iconst M X166 (v := (1 : Int32)) at_189 rfl rfl ?_
            refine own_goto M X166 at_190 (by decide) rfl ?_
            refine own_istore M X166 (L' := #[.val (.int x0), .val (.int x1), .val (.int x2), .val (.int x3), .val (.int x4), .val (.int x5), .val (.int (x0 &&& (255 : Int32))), .val (.int (x1 &&& (255 : Int32))), .val (.int (g0_14_l8 x5)), .val (.int (g0_28_l9 x5)), .val (.int (x2 &&& (3 : Int32))), .val (.int (g0_47_l11 x3 (x0 &&& (255 : Int32)) (x1 &&& (255 : Int32)) (x2 &&& (3 : Int32)))), .val (.int (x4 &&& (511 : Int32))), .val (.ref a9), .val (.int (1 : Int32))]) at_194 rfl rfl ?_
            refine own_iload M X166 at_196 rfl rfl ?_
            refine own_if_eq M X166 at_198 (by decide) rfl rfl (fun q170 => ?_) (fun q170 => ?_)
            · exact absurd q170 (by decide)
            · skip
              refine own_aload M X166 at_201 rfl rfl rfl ?_
              refine own_iload M X166 at_203 rfl rfl ?_
              refine own_callVP M X166 (yrm := ({ frames := 0, cells := 0, slots := 0, locals := 0 } : Room)) [(.int (x1 &&& (255 : Int32)))] (hw _ (List.mem_of_getElem? (i := 23) rfl)) (hw _ (List.mem_of_getElem? (i := 25) rfl)) (hw _ (List.mem_of_getElem? (i := 24) rfl)) (hw _ (List.mem_of_getElem? (i := 26) rfl)) (hw _ (List.mem_of_getElem? (i := 2) rfl)) (hw _ (List.mem_of_getElem? (i := 27) rfl)) (by decide) E155 (met_5 _ Z a0 hw h152 n0 X166.size a9 (x1 &&& (255 : Int32)) n142 (own_del (own_add (own_add (fun _ => false) (x0 &&& (255 : Int32)).toInt.toNat) (x1 &&& (255 : Int32)).toInt.toNat) (g0_47_l11 x3 (x0 &&& (255 : Int32)) (x1 &&& (255 : Int32)) (x2 &&& (3 : Int32))).toInt.toNat) B150 (own_n8 x1).1) rfl at_205 rfl own_pd5 rfl rfl 0 (Nat.le_of_eq rfl) (by decide) (by decide) rfl rfl ?_
              intro T171 X172
              refine own_iload M X172 at_208 rfl rfl ?_
              refine own_iload M X172 at_210 rfl rfl ?_
              refine own_iload M X172 at_212 rfl rfl ?_
              refine own_iload M X172 at_214 rfl rfl ?_
              refine own_iload M X172 at_216 rfl rfl ?_
              refine own_iload M X172 at_218 rfl rfl ?_
              refine own_callP M X172 (yrm := ({ frames := 1, cells := 0, slots := 0, locals := 16 } : Room)) [(.int (g0_14_l8 x5)), (.int (x0 &&& (255 : Int32))), (.int (g0_28_l9 x5)), (.int (x1 &&& (255 : Int32))), (.int (g0_47_l11 x3 (x0 &&& (255 : Int32)) (x1 &&& (255 : Int32)) (x2 &&& (3 : Int32)))), (.int (x1 &&& (255 : Int32)))] (hw _ (List.mem_of_getElem? (i := 28) rfl)) (hw _ (List.mem_of_getElem? (i := 29) rfl)) (hw _ (List.mem_of_getElem? (i := 30) rfl)) (hw _ (List.mem_of_getElem? (i := 31) rfl)) (by decide) (met_6 _ Z a0 hw h152 n0 X172.size (g0_14_l8 x5) (x0 &&& (255 : Int32)) (g0_28_l9 x5) (x1 &&& (255 : Int32)) (g0_47_l11 x3 (x0 &&& (255 : Int32)) (x1 &&& (255 : Int32)) (x2 &&& (3 : Int32))) (x1 &&& (255 : Int32))) rfl at_220 rfl own_pd6 rfl rfl 1 (Nat.le_of_eq rfl) (by decide) (by decide) rfl rfl ?_
              intro T173 X174
              refine own_icmp_ne M X174 at_223 (by decide) rfl rfl (fun q175 => ?_) (fun q175 => ?_)
              · skip
                refine own_iconst M X174 (v := (0 : Int32)) at_230 rfl rfl ?_
                refine own_istore M X174 (L' := #[.val (.int x0), .val (.int x1), .val (.int x2), .val (.int x3), .val (.int x4), .val (.int x5), .val (.int (x0 &&& (255 : Int32))), .val (.int (x1 &&& (255 : Int32))), .val (.int (g0_14_l8 x5)), .val (.int (g0_28_l9 x5)), .val (.int (x2 &&& (3 : Int32))), .val (.int (g0_47_l11 x3 (x0 &&& (255 : Int32)) (x1 &&& (255 : Int32)) (x2 &&& (3 : Int32)))), .val (.int (x4 &&& (511 : Int32))), .val (.ref a9), .val (.int (0 : Int32))]) at_231 rfl rfl ?_
                refine own_iload M X174 at_233 rfl rfl ?_
                refine own_if_eq M X174 at_235 (by decide) rfl rfl (fun q176 => ?_) (fun q176 => ?_)
                · skip
                  refine own_iconst M X174 (v := (0 : Int32)) at_267 rfl rfl ?_
                  refine own_istore M X174 (L' := #[.val (.int x0), .val (.int x1), .val (.int x2), .val (.int x3), .val (.int x4), .val (.int x5), .val (.int (x0 &&& (255 : Int32))), .val (.int (x1 &&& (255 : Int32))), .val (.int (g0_14_l8 x5)), .val (.int (g0_28_l9 x5)), .val (.int (x2 &&& (3 : Int32))), .val (.int (g0_47_l11 x3 (x0 &&& (255 : Int32)) (x1 &&& (255 : Int32)) (x2 &&& (3 : Int32)))), .val (.int (x4 &&& (511 : Int32))), .val (.ref a9), .val (.int (0 : Int32))]) at_268 rfl rfl ?_
                  refine own_iload M X174 at_270 rfl rfl ?_
                  exact own_retN M X174 (z' := (0 : Int32)) (by simp) at_272 rfl (by rw [F0, if_neg q24, if_neg q108, if_pos q158, if_pos q167, if_neg q175])
                · exact absurd (by decide) q176
              · skip
                refine own_iconst M X174 (v := (1 : Int32)) at_226 rfl rfl ?_
                refine own_goto M X174 at_227 (by decide) rfl ?_
                refine own_istore M X174 (L' := #[.val (.int x0), .val (.int x1), .val (.int x2), .val (.int x3), .val (.int x4), .val (.int x5), .val (.int (x0 &&& (255 : Int32))), .val (.int (x1 &&& (255 : Int32))), .val (.int (g0_14_l8 x5)), .val (.int (g0_28_l9 x5)), .val (.int (x2 &&& (3 : Int32))), .val (.int (g0_47_l11 x3 (x0 &&& (255 : Int32)) (x1 &&& (255 : Int32)) (x2 &&& (3 : Int32)))), .val (.int (x4 &&& (511 : Int32))), .val (.ref a9), .val (.int (1 : Int32))]) at_231 rfl rfl ?_
                refine own_iload M X174 at_233 rfl rfl ?_
                refine own_if_eq M X174 at_235 (by decide) rfl rfl (fun q177 => ?_) (fun q177 => ?_)
                · exact absurd q177 (by decide)
                · skip
                  refine own_aload M X174 at_238 rfl rfl rfl ?_
                  refine own_iload M X174 at_240 rfl rfl ?_
                  refine own_callVP M X174 (yrm := ({ frames := 0, cells := 0, slots := 0, locals := 0 } : Room)) [(.int (x4 &&& (511 : Int32)))] (hw _ (List.mem_of_getElem? (i := 23) rfl)) (hw _ (List.mem_of_getElem? (i := 25) rfl)) (hw _ (List.mem_of_getElem? (i := 24) rfl)) (hw _ (List.mem_of_getElem? (i := 26) rfl)) (hw _ (List.mem_of_getElem? (i := 2) rfl)) (hw _ (List.mem_of_getElem? (i := 27) rfl)) (by decide) E155 (met_5 _ Z a0 hw h152 n0 X174.size a9 (x4 &&& (511 : Int32)) n142 (own_del (own_add (own_add (fun _ => false) (x0 &&& (255 : Int32)).toInt.toNat) (x1 &&& (255 : Int32)).toInt.toNat) (g0_47_l11 x3 (x0 &&& (255 : Int32)) (x1 &&& (255 : Int32)) (x2 &&& (3 : Int32))).toInt.toNat) B150 (own_n9 x4).1) rfl at_242 rfl own_pd5 rfl rfl 0 (Nat.le_of_eq rfl) (by decide) (by decide) rfl rfl ?_
                  intro T178 X179
                  refine own_iload M X179 at_245 rfl rfl ?_
                  refine own_iload M X179 at_247 rfl rfl ?_
                  refine own_iload M X179 at_249 rfl rfl ?_
                  refine own_iload M X179 at_251 rfl rfl ?_
                  refine own_iload M X179 at_253 rfl rfl ?_
                  refine own_iload M X179 at_255 rfl rfl ?_
                  refine own_callP M X179 (yrm := ({ frames := 1, cells := 0, slots := 0, locals := 16 } : Room)) [(.int (g0_14_l8 x5)), (.int (x0 &&& (255 : Int32))), (.int (g0_28_l9 x5)), (.int (x1 &&& (255 : Int32))), (.int (g0_47_l11 x3 (x0 &&& (255 : Int32)) (x1 &&& (255 : Int32)) (x2 &&& (3 : Int32)))), (.int (x4 &&& (511 : Int32)))] (hw _ (List.mem_of_getElem? (i := 28) rfl)) (hw _ (List.mem_of_getElem? (i := 29) rfl)) (hw _ (List.mem_of_getElem? (i := 30) rfl)) (hw _ (List.mem_of_getElem? (i := 31) rfl)) (by decide) (met_6 _ Z a0 hw h152 n0 X179.size (g0_14_l8 x5) (x0 &&& (255 : Int32)) (g0_28_l9 x5) (x1 &&& (255 : Int32)) (g0_47_l11 x3 (x0 &&& (255 : Int32)) (x1 &&& (255 : Int32)) (x2 &&& (3 : Int32))) (x4 &&& (511 : Int32))) rfl at_257 rfl own_pd6 rfl rfl 1 (Nat.le_of_eq rfl) (by decide) (by decide) rfl rfl ?_
                  intro T180 X181
                  refine own_icmp_ne M X181 at_260 (by decide) rfl rfl (fun q182 => ?_) (fun q182 => ?_)
                  · skip
                    refine own_iconst M X181 (v := (0 : Int32)) at_267 rfl rfl ?_
                    refine own_istore M X181 (L' := #[.val (.int x0), .val (.int x1), .val (.int x2), .val (.int x3), .val (.int x4), .val (.int x5), .val (.int (x0 &&& (255 : Int32))), .val (.int (x1 &&& (255 : Int32))), .val (.int (g0_14_l8 x5)), .val (.int (g0_28_l9 x5)), .val (.int (x2 &&& (3 : Int32))), .val (.int (g0_47_l11 x3 (x0 &&& (255 : Int32)) (x1 &&& (255 : Int32)) (x2 &&& (3 : Int32)))), .val (.int (x4 &&& (511 : Int32))), .val (.ref a9), .val (.int (0 : Int32))]) at_268 rfl rfl ?_
                    refine own_iload M X181 at_270 rfl rfl ?_
                    exact own_retN M X181 (z' := (0 : Int32)) (by simp) at_272 rfl (by rw [F0, if_neg q24, if_neg q108, if_pos q158, if_pos q167, if_pos q175, if_neg q182])
                  · skip
                    refine own_iconst M X181 (v := (1 : Int32)) at_263 rfl rfl ?_
                    refine own_goto M X181 at_264 (by decide) rfl ?_
                    refine own_istore M X181 (L' := #[.val (.int x0), .val (.int x1), .val (.int x2), .val (.int x3), .val (.int x4), .val (.int x5), .val (.int (x0 &&& (255 : Int32))), .val (.int (x1 &&& (255 : Int32))), .val (.int (g0_14_l8 x5)), .val (.int (g0_28_l9 x5)), .val (.int (x2 &&& (3 : Int32))), .val (.int (g0_47_l11 x3 (x0 &&& (255 : Int32)) (x1 &&& (255 : Int32)) (x2 &&& (3 : Int32)))), .val (.int (x4 &&& (511 : Int32))), .val (.ref a9), .val (.int (1 : Int32))]) at_268 rfl rfl ?_
                    refine own_iload M X181 at_270 rfl rfl ?_
                    exact own_retN M X181 (z' := (1 : Int32)) (by simp) at_272 rfl (by rw [F0, if_neg q24, if_neg q108, if_pos q158, if_pos q167, if_pos q175, if_pos q182])
theorem own_eqn {a b : Int32} (ha : 0 ≤ a.toInt) (hb : 0 ≤ b.toInt) : decide (a.toInt.toNat = b.toInt.toNat) = decide (a = b) := by
  rw [decide_eq_decide, ← Int32.toInt_inj]; omega
theorem own_s00 (sa sc A C X Y : Int32) (ha : sa = 0) (hc : sc = 0) (hA : 0 ≤ A.toInt) (hC : 0 ≤ C.toInt) (hX : 0 ≤ X.toInt) (hY : 0 ≤ Y.toInt) : own_has (own_del (fun _ => false) X.toInt.toNat) Y.toInt.toNat = F6 sa A sc C X Y := by
  have eA := own_eqn hY hA
  have eC := own_eqn hY hC
  have eX := own_eqn hY hX
  unfold own_has own_del F6 F7
  simp only [eX, if_pos ha, if_pos hc]
  by_cases q1 : Y = A
  · skip
    by_cases q2 : Y = C
    · skip
      by_cases q3 : Y = X
      · skip
        simp only [if_pos q1, decide_eq_true q1, if_pos q2, decide_eq_true q2, if_pos q3, decide_eq_true q3, Bool.true_or, Bool.false_or, Bool.or_false, Bool.or_true, Bool.not_true, Bool.not_false, Bool.and_true, Bool.and_false, Bool.true_and, Bool.false_and, if_true, if_false, Bool.false_eq_true]
        first | done | decide
      · skip
        simp only [if_pos q1, decide_eq_true q1, if_pos q2, decide_eq_true q2, if_neg q3, decide_eq_false q3, Bool.true_or, Bool.false_or, Bool.or_false, Bool.or_true, Bool.not_true, Bool.not_false, Bool.and_true, Bool.and_false, Bool.true_and, Bool.false_and, if_true, if_false, Bool.false_eq_true]
        first | done | decide
    · skip
      by_cases q3 : Y = X
      · skip
        simp only [if_pos q1, decide_eq_true q1, if_neg q2, decide_eq_false q2, if_pos q3, decide_eq_true q3, Bool.true_or, Bool.false_or, Bool.or_false, Bool.or_true, Bool.not_true, Bool.not_false, Bool.and_true, Bool.and_false, Bool.true_and, Bool.false_and, if_true, if_false, Bool.false_eq_true]
        first | done | decide
      · skip
        simp only [if_pos q1, decide_eq_true q1, if_neg q2, decide_eq_false q2, if_neg q3, decide_eq_false q3, Bool.true_or, Bool.false_or, Bool.or_false, Bool.or_true, Bool.not_true, Bool.not_false, Bool.and_true, Bool.and_false, Bool.true_and, Bool.false_and, if_true, if_false, Bool.false_eq_true]
        first | done | decide
  · skip
    by_cases q2 : Y = C
    · skip
      by_cases q3 : Y = X
      · skip
        simp only [if_neg q1, decide_eq_false q1, if_pos q2, decide_eq_true q2, if_pos q3, decide_eq_true q3, Bool.true_or, Bool.false_or, Bool.or_false, Bool.or_true, Bool.not_true, Bool.not_false, Bool.and_true, Bool.and_false, Bool.true_and, Bool.false_and, if_true, if_false, Bool.false_eq_true]
        first | done | decide
      · skip
        simp only [if_neg q1, decide_eq_false q1, if_pos q2, decide_eq_true q2, if_neg q3, decide_eq_false q3, Bool.true_or, Bool.false_or, Bool.or_false, Bool.or_true, Bool.not_true, Bool.not_false, Bool.and_true, Bool.and_false, Bool.true_and, Bool.false_and, if_true, if_false, Bool.false_eq_true]
        first | done | decide
    · skip
      by_cases q3 : Y = X
      · skip
        simp only [if_neg q1, decide_eq_false q1, if_neg q2, decide_eq_false q2, if_pos q3, decide_eq_true q3, Bool.true_or, Bool.false_or, Bool.or_false, Bool.or_true, Bool.not_true, Bool.not_false, Bool.and_true, Bool.and_false, Bool.true_and, Bool.false_and, if_true, if_false, Bool.false_eq_true]
        first | done | decide
      · skip
        simp only [if_neg q1, decide_eq_false q1, if_neg q2, decide_eq_false q2, if_neg q3, decide_eq_false q3, Bool.true_or, Bool.false_or, Bool.or_false, Bool.or_true, Bool.not_true, Bool.not_false, Bool.and_true, Bool.and_false, Bool.true_and, Bool.false_and, if_true, if_false, Bool.false_eq_true]
        first | done | decide
theorem own_s01 (sa sc A C X Y : Int32) (ha : sa = 0) (hc : ¬ sc = 0) (hA : 0 ≤ A.toInt) (hC : 0 ≤ C.toInt) (hX : 0 ≤ X.toInt) (hY : 0 ≤ Y.toInt) : own_has (own_del (own_add (fun _ => false) C.toInt.toNat) X.toInt.toNat) Y.toInt.toNat = F6 sa A sc C X Y := by
  have eA := own_eqn hY hA
  have eC := own_eqn hY hC
  have eX := own_eqn hY hX
  unfold own_has own_del own_add F6 F7
  simp only [eA, eC, eX, if_pos ha, if_neg hc]
  by_cases q1 : Y = A
  · skip
    by_cases q2 : Y = C
    · skip
      by_cases q3 : Y = X
      · skip
        simp only [if_pos q1, decide_eq_true q1, if_pos q2, decide_eq_true q2, if_pos q3, decide_eq_true q3, Bool.true_or, Bool.false_or, Bool.or_false, Bool.or_true, Bool.not_true, Bool.not_false, Bool.and_true, Bool.and_false, Bool.true_and, Bool.false_and, if_true, if_false, Bool.false_eq_true]
        first | done | decide
      · skip
        simp only [if_pos q1, decide_eq_true q1, if_pos q2, decide_eq_true q2, if_neg q3, decide_eq_false q3, Bool.true_or, Bool.false_or, Bool.or_false, Bool.or_true, Bool.not_true, Bool.not_false, Bool.and_true, Bool.and_false, Bool.true_and, Bool.false_and, if_true, if_false, Bool.false_eq_true]
        first | done | decide
    · skip
      by_cases q3 : Y = X
      · skip
        simp only [if_pos q1, decide_eq_true q1, if_neg q2, decide_eq_false q2, if_pos q3, decide_eq_true q3, Bool.true_or, Bool.false_or, Bool.or_false, Bool.or_true, Bool.not_true, Bool.not_false, Bool.and_true, Bool.and_false, Bool.true_and, Bool.false_and, if_true, if_false, Bool.false_eq_true]
        first | done | decide
      · skip
        simp only [if_pos q1, decide_eq_true q1, if_neg q2, decide_eq_false q2, if_neg q3, decide_eq_false q3, Bool.true_or, Bool.false_or, Bool.or_false, Bool.or_true, Bool.not_true, Bool.not_false, Bool.and_true, Bool.and_false, Bool.true_and, Bool.false_and, if_true, if_false, Bool.false_eq_true]
        first | done | decide
  · skip
    by_cases q2 : Y = C
    · skip
      by_cases q3 : Y = X
      · skip
        simp only [if_neg q1, decide_eq_false q1, if_pos q2, decide_eq_true q2, if_pos q3, decide_eq_true q3, Bool.true_or, Bool.false_or, Bool.or_false, Bool.or_true, Bool.not_true, Bool.not_false, Bool.and_true, Bool.and_false, Bool.true_and, Bool.false_and, if_true, if_false, Bool.false_eq_true]
        first | done | decide
      · skip
        simp only [if_neg q1, decide_eq_false q1, if_pos q2, decide_eq_true q2, if_neg q3, decide_eq_false q3, Bool.true_or, Bool.false_or, Bool.or_false, Bool.or_true, Bool.not_true, Bool.not_false, Bool.and_true, Bool.and_false, Bool.true_and, Bool.false_and, if_true, if_false, Bool.false_eq_true]
        first | done | decide
    · skip
      by_cases q3 : Y = X
      · skip
        simp only [if_neg q1, decide_eq_false q1, if_neg q2, decide_eq_false q2, if_pos q3, decide_eq_true q3, Bool.true_or, Bool.false_or, Bool.or_false, Bool.or_true, Bool.not_true, Bool.not_false, Bool.and_true, Bool.and_false, Bool.true_and, Bool.false_and, if_true, if_false, Bool.false_eq_true]
        first | done | decide
      · skip
        simp only [if_neg q1, decide_eq_false q1, if_neg q2, decide_eq_false q2, if_neg q3, decide_eq_false q3, Bool.true_or, Bool.false_or, Bool.or_false, Bool.or_true, Bool.not_true, Bool.not_false, Bool.and_true, Bool.and_false, Bool.true_and, Bool.false_and, if_true, if_false, Bool.false_eq_true]
        first | done | decide
theorem own_s10 (sa sc A C X Y : Int32) (ha : ¬ sa = 0) (hc : sc = 0) (hA : 0 ≤ A.toInt) (hC : 0 ≤ C.toInt) (hX : 0 ≤ X.toInt) (hY : 0 ≤ Y.toInt) : own_has (own_del (own_add (fun _ => false) A.toInt.toNat) X.toInt.toNat) Y.toInt.toNat = F6 sa A sc C X Y := by
  have eA := own_eqn hY hA
  have eC := own_eqn hY hC
  have eX := own_eqn hY hX
  unfold own_has own_del own_add F6 F7
  simp only [eA, eC, eX, if_neg ha, if_pos hc]
  by_cases q1 : Y = A
  · skip
    by_cases q2 : Y = C
    · skip
      by_cases q3 : Y = X
      · skip
        simp only [if_pos q1, decide_eq_true q1, if_pos q2, decide_eq_true q2, if_pos q3, decide_eq_true q3, Bool.true_or, Bool.false_or, Bool.or_false, Bool.or_true, Bool.not_true, Bool.not_false, Bool.and_true, Bool.and_false, Bool.true_and, Bool.false_and, if_true, if_false, Bool.false_eq_true]
        first | done | decide
      · skip
        simp only [if_pos q1, decide_eq_true q1, if_pos q2, decide_eq_true q2, if_neg q3, decide_eq_false q3, Bool.true_or, Bool.false_or, Bool.or_false, Bool.or_true, Bool.not_true, Bool.not_false, Bool.and_true, Bool.and_false, Bool.true_and, Bool.false_and, if_true, if_false, Bool.false_eq_true]
        first | done | decide
    · skip
      by_cases q3 : Y = X
      · skip
        simp only [if_pos q1, decide_eq_true q1, if_neg q2, decide_eq_false q2, if_pos q3, decide_eq_true q3, Bool.true_or, Bool.false_or, Bool.or_false, Bool.or_true, Bool.not_true, Bool.not_false, Bool.and_true, Bool.and_false, Bool.true_and, Bool.false_and, if_true, if_false, Bool.false_eq_true]
        first | done | decide
      · skip
        simp only [if_pos q1, decide_eq_true q1, if_neg q2, decide_eq_false q2, if_neg q3, decide_eq_false q3, Bool.true_or, Bool.false_or, Bool.or_false, Bool.or_true, Bool.not_true, Bool.not_false, Bool.and_true, Bool.and_false, Bool.true_and, Bool.false_and, if_true, if_false, Bool.false_eq_true]
        first | done | decide
  · skip
    by_cases q2 : Y = C
    · skip
      by_cases q3 : Y = X
      · skip
        simp only [if_neg q1, decide_eq_false q1, if_pos q2, decide_eq_true q2, if_pos q3, decide_eq_true q3, Bool.true_or, Bool.false_or, Bool.or_false, Bool.or_true, Bool.not_true, Bool.not_false, Bool.and_true, Bool.and_false, Bool.true_and, Bool.false_and, if_true, if_false, Bool.false_eq_true]
        first | done | decide
      · skip
        simp only [if_neg q1, decide_eq_false q1, if_pos q2, decide_eq_true q2, if_neg q3, decide_eq_false q3, Bool.true_or, Bool.false_or, Bool.or_false, Bool.or_true, Bool.not_true, Bool.not_false, Bool.and_true, Bool.and_false, Bool.true_and, Bool.false_and, if_true, if_false, Bool.false_eq_true]
        first | done | decide
    · skip
      by_cases q3 : Y = X
      · skip
        simp only [if_neg q1, decide_eq_false q1, if_neg q2, decide_eq_false q2, if_pos q3, decide_eq_true q3, Bool.true_or, Bool.false_or, Bool.or_false, Bool.or_true, Bool.not_true, Bool.not_false, Bool.and_true, Bool.and_false, Bool.true_and, Bool.false_and, if_true, if_false, Bool.false_eq_true]
        first | done | decide
      · skip
        simp only [if_neg q1, decide_eq_false q1, if_neg q2, decide_eq_false q2, if_neg q3, decide_eq_false q3, Bool.true_or, Bool.false_or, Bool.or_false, Bool.or_true, Bool.not_true, Bool.not_false, Bool.and_true, Bool.and_false, Bool.true_and, Bool.false_and, if_true, if_false, Bool.false_eq_true]
        first | done | decide
theorem own_s11 (sa sc A C X Y : Int32) (ha : ¬ sa = 0) (hc : ¬ sc = 0) (hA : 0 ≤ A.toInt) (hC : 0 ≤ C.toInt) (hX : 0 ≤ X.toInt) (hY : 0 ≤ Y.toInt) : own_has (own_del (own_add (own_add (fun _ => false) A.toInt.toNat) C.toInt.toNat) X.toInt.toNat) Y.toInt.toNat = F6 sa A sc C X Y := by
  have eA := own_eqn hY hA
  have eC := own_eqn hY hC
  have eX := own_eqn hY hX
  unfold own_has own_del own_add F6 F7
  simp only [eA, eC, eX, if_neg ha, if_neg hc]
  by_cases q1 : Y = A
  · skip
    by_cases q2 : Y = C
    · skip
      by_cases q3 : Y = X
      · skip
        simp only [if_pos q1, decide_eq_true q1, if_pos q2, decide_eq_true q2, if_pos q3, decide_eq_true q3, Bool.true_or, Bool.false_or, Bool.or_false, Bool.or_true, Bool.not_true, Bool.not_false, Bool.and_true, Bool.and_false, Bool.true_and, Bool.false_and, if_true, if_false, Bool.false_eq_true]
        first | done | decide
      · skip
        simp only [if_pos q1, decide_eq_true q1, if_pos q2, decide_eq_true q2, if_neg q3, decide_eq_false q3, Bool.true_or, Bool.false_or, Bool.or_false, Bool.or_true, Bool.not_true, Bool.not_false, Bool.and_true, Bool.and_false, Bool.true_and, Bool.false_and, if_true, if_false, Bool.false_eq_true]
        first | done | decide
    · skip
      by_cases q3 : Y = X
      · skip
        simp only [if_pos q1, decide_eq_true q1, if_neg q2, decide_eq_false q2, if_pos q3, decide_eq_true q3, Bool.true_or, Bool.false_or, Bool.or_false, Bool.or_true, Bool.not_true, Bool.not_false, Bool.and_true, Bool.and_false, Bool.true_and, Bool.false_and, if_true, if_false, Bool.false_eq_true]
        first | done | decide
      · skip
        simp only [if_pos q1, decide_eq_true q1, if_neg q2, decide_eq_false q2, if_neg q3, decide_eq_false q3, Bool.true_or, Bool.false_or, Bool.or_false, Bool.or_true, Bool.not_true, Bool.not_false, Bool.and_true, Bool.and_false, Bool.true_and, Bool.false_and, if_true, if_false, Bool.false_eq_true]
        first | done | decide
  · skip
    by_cases q2 : Y = C
    · skip
      by_cases q3 : Y = X
      · skip
        simp only [if_neg q1, decide_eq_false q1, if_pos q2, decide_eq_true q2, if_pos q3, decide_eq_true q3, Bool.true_or, Bool.false_or, Bool.or_false, Bool.or_true, Bool.not_true, Bool.not_false, Bool.and_true, Bool.and_false, Bool.true_and, Bool.false_and, if_true, if_false, Bool.false_eq_true]
        first | done | decide
      · skip
        simp only [if_neg q1, decide_eq_false q1, if_pos q2, decide_eq_true q2, if_neg q3, decide_eq_false q3, Bool.true_or, Bool.false_or, Bool.or_false, Bool.or_true, Bool.not_true, Bool.not_false, Bool.and_true, Bool.and_false, Bool.true_and, Bool.false_and, if_true, if_false, Bool.false_eq_true]
        first | done | decide
    · skip
      by_cases q3 : Y = X
      · skip
        simp only [if_neg q1, decide_eq_false q1, if_neg q2, decide_eq_false q2, if_pos q3, decide_eq_true q3, Bool.true_or, Bool.false_or, Bool.or_false, Bool.or_true, Bool.not_true, Bool.not_false, Bool.and_true, Bool.and_false, Bool.true_and, Bool.false_and, if_true, if_false, Bool.false_eq_true]
        first | done | decide
      · skip
        simp only [if_neg q1, decide_eq_false q1, if_neg q2, decide_eq_false q2, if_neg q3, decide_eq_false q3, Bool.true_or, Bool.false_or, Bool.or_false, Bool.or_true, Bool.not_true, Bool.not_false, Bool.and_true, Bool.and_false, Bool.true_and, Bool.false_and, if_true, if_false, Bool.false_eq_true]
        first | done | decide
theorem own_x (S : Nat → Bool) (k : Nat) : own_has (own_del S k) k = 0 := by
  unfold own_has own_del
  simp
theorem own_law (x0 x1 x2 x3 x4 x5 : Int32) : F0 x0 x1 x2 x3 x4 x5 = 1 := by
  have hA := (own_n8 x0).1
  have hC := (own_n8 x1).1
  have hX := own_qn x0 x1 x2 x3
  have hD := (own_n9 x4).1
  unfold F0
  generalize g0_47_l11 x3 (x0 &&& (255 : Int32)) (x1 &&& (255 : Int32)) (x2 &&& (3 : Int32)) = X at *
  generalize (x0 &&& (255 : Int32)) = A at *
  generalize (x1 &&& (255 : Int32)) = C at *
  generalize (x4 &&& (511 : Int32)) = D at *
  by_cases ha : g0_14_l8 x5 = 0
  · by_cases hc : g0_28_l9 x5 = 0
    · rw [if_pos ha, if_pos hc, if_pos (own_x _ _), if_pos (own_s00 _ _ A C X A ha hc hA hC hX hA), if_pos (own_s00 _ _ A C X C ha hc hA hC hX hC), if_pos (own_s00 _ _ A C X D ha hc hA hC hX hD)]
    · rw [if_pos ha, if_neg hc, if_pos (own_x _ _), if_pos (own_s01 _ _ A C X A ha hc hA hC hX hA), if_pos (own_s01 _ _ A C X C ha hc hA hC hX hC), if_pos (own_s01 _ _ A C X D ha hc hA hC hX hD)]
  · by_cases hc : g0_28_l9 x5 = 0
    · rw [if_neg ha, if_pos hc, if_pos (own_x _ _), if_pos (own_s10 _ _ A C X A ha hc hA hC hX hA), if_pos (own_s10 _ _ A C X C ha hc hA hC hX hC), if_pos (own_s10 _ _ A C X D ha hc hA hC hX hD)]
    · rw [if_neg ha, if_neg hc, if_pos (own_x _ _), if_pos (own_s11 _ _ A C X A ha hc hA hC hX hA), if_pos (own_s11 _ _ A C X C ha hc hA hC hX hC), if_pos (own_s11 _ _ A C X D ha hc hA hC hX hD)]
theorem own_result (x0 : Int32) (x1 : Int32) (x2 : Int32) (x3 : Int32) (x4 : Int32) (x5 : Int32) {v : Option Value} (hv : v = some (.int (F0 x0 x1 x2 x3 x4 x5))) : v = some (.int 1) := by rw [hv, own_law x0 x1 x2 x3 x4 x5]
set_option maxRecDepth 65536 in
set_option maxHeartbeats 40000000 in
theorem comes_1 {Post : Tables → Env → Array Value → State → Outcome → State → Prop} (hpost : ∀ tb e args s v u, (limb_1_1.after args s (.returned v) u = true ∧ limb_1_2.after args s (.returned v) u = true ∧ True) → FrameEnd s (.returned v) u (Jvm.fieldLocs frame_1_writes args s ++ Jvm.arrayLocs frame_1_arrays args s ++ Jvm.staticLocs frame_1_statics s) 16 128 → Post tb e args s (.returned v) u) :
    ArmFor flags0 classFile x code maxLocals ret World_1 tables_1 room_1 Calls_1 rest_1 Pre_1 Post := by
  intro l hfl _ _ p e ha hc hk s m args below hf hA hF happ hP
  obtain ⟨hcalls, hrest, hpre⟩ := hP
  obtain ⟨-, -, -, hnamed, -, -, -, hat⟩ := (Spec.applies_iff hf).mp happ
  obtain ⟨hg, hn⟩ := and_e (Cond.before_iff.mp (show (Jvm.Cond.and given_1 narrow_1).before args s = true from hpre))
  obtain ⟨g1, g2⟩ := and_e hg
  obtain ⟨g3, g4⟩ := and_e g2
  obtain ⟨g5, g6⟩ := and_e g4
  obtain ⟨g7, g8⟩ := and_e g6
  obtain ⟨g9, g10⟩ := and_e g8
  obtain ⟨g11, g12⟩ := and_e g10
  obtain ⟨w0, w1, w2, w3, w4, w5, rfl⟩ : ∃ w0 w1 w2 w3 w4 w5 : Value, args = #[w0, w1, w2, w3, w4, w5] := by
    have hs : args.size = 6 := by simpa [Cond.value, given_1] using g1
    obtain ⟨L⟩ := args
    match L, hs with
    | [w0, w1, w2, w3, w4, w5], _ => exact ⟨w0, w1, w2, w3, w4, w5, rfl⟩
  have hw := fun d (hd : d ∈ tables_1) => atoms_spec (ws := Jvm.Cond.code x code maxLocals ret :: tables_1) hat d (List.mem_cons_of_mem _ hd)
  obtain ⟨i0, ei0⟩ := is_v g3
  obtain rfl : w0 = (.int i0) := Option.some.inj ei0
  obtain ⟨i1, ei1⟩ := is_v g5
  obtain rfl : w1 = (.int i1) := Option.some.inj ei1
  obtain ⟨i2, ei2⟩ := is_v g7
  obtain rfl : w2 = (.int i2) := Option.some.inj ei2
  obtain ⟨i3, ei3⟩ := is_v g9
  obtain rfl : w3 = (.int i3) := Option.some.inj ei3
  obtain ⟨i4, ei4⟩ := is_v g11
  obtain rfl : w4 = (.int i4) := Option.some.inj ei4
  obtain ⟨i5, ei5⟩ := is_v g12
  obtain rfl : w5 = (.int i5) := Option.some.inj ei5
  obtain ⟨n, o, h1, h2, h3, v, L, rfl, ⟨hv, N⟩, hq⟩ := met_0 l s _ hw s.heap s.heap.size (Nat.le_refl _) i0 i1 i2 i3 i4 i5 tables_1 p e ha hc hk s m _ below hf ((Spec.applies_iff_loose hf).mp happ).1 ⟨rfl, State.Warmed39.refl s, rfl⟩ trivial
  obtain rfl : v = some (.int 1) := own_result i0 i1 i2 i3 i4 i5 hv
  refine ⟨n, _, h1, h2, h3, hpost _ _ _ _ _ _ ⟨Cond.after_iff.mpr rfl, Cond.after_iff.mpr (eq_i res_at (Term.int_eval (1)) rfl), trivial⟩ ⟨hq.1, hq.2.1, (hq.2.2.sift fun y hy => Or.inr (N y hy)).mono (by decide) (by decide)⟩⟩
theorem main_1_1 : Claimed_1_1 := comes_1 fun _ _ _ _ _ _ h hF => ⟨h.1, hF⟩
theorem main_1_2 : Claimed_1_2 := comes_1 fun _ _ _ _ _ _ h hF => ⟨h.2.1, hF⟩
end Jvm.Pilot.@@N@@
namespace Jvm.Pilot.@@N@@
open Jvm Jvm.ClassFile Sem Op Lib Jvm.Free Jvm.Stand Jvm.Pilot.@@N@@.Jvm.D
/-! MADE BY PROGRAM (witnessworld.py) out of the Statement's table words and the real class files: 14 classes; the members and pool entries that the words name. The judged class is class 1, her method 3. -/
namespace start1
open Jvm.ClassFile
def u (s : String) : CpInfo := .utf8 (stringToUtf16 s)
/-- a pool by its gaps: so many unusable entries, then the entry; so many at the end -/
def gap : Nat → List CpInfo → List CpInfo
  | 0, r => r
  | n + 1, r => .unusable :: gap n r
def poolList (es : List (Nat × CpInfo)) (last : Nat) : List CpInfo := es.foldr (fun e r => gap e.1 (e.2 :: r)) (gap last [])
def pool (es : List (Nat × CpInfo)) (last : Nat) : Array CpInfo := ⟨poolList es last⟩
def fileOf (pool : Array CpInfo) (this : Nat) (attrs : Array Attribute := #[]) (ms : Array MethodInfo := #[]) (fl : Nat := 33) (sup : Nat := 0) (ifs : Array Nat := #[]) (fds : Array FieldInfo := #[]) : ClassFile where
  minorVersion := 0
  majorVersion := 65
  constantPool := pool
  accessFlags := fl
  thisClass := this
  superClass := sup
  interfaces := ifs
  fields := fds
  methods := ms
  attributes := attrs
def plain (name : String) (sup : Option ClassId) : Class where
  name := name
  kind := .ordinary
  loader := none
  accessFlags := 33
  super := sup
  interfaces := #[]
  cf := none
  fields := #[]
  methods := #[]
  instanceTypes := #[]
  staticTypes := #[]
  resolved := #[]
  callSites := []
  init := .initialized
  statics := none
  mirror := none

def pool0 : Array CpInfo := pool [(5, u "<init>"), (0, u "()V"), (1, .class_ 10), (1, u "java/lang/Object")] 113

def k0c0 : Code := { maxStack := 0, maxLocals := 1, code := object_method_1_code, exceptionTable := #[], attributes := #[] }
def k0m0 : Method := { name := "<init>", desc := "()V", sig := { parameters := [], returnType := none }, accessFlags := 1, code := some k0c0 }
/-- java/lang/Object -/
def k0 : Class := { plain "java/lang/Object" none with
  accessFlags := 33
  interfaces := #[]
  cf := some (fileOf pool0 8 #[] #[{ accessFlags := 1, nameIndex := 5, descriptorIndex := 6, attributes := #[] }] 33 0 #[] #[])
  fields := #[]
  methods := #[k0m0]
  instanceTypes := #[]
  staticTypes := #[]
  resolved := Array.replicate 124 none
  statics := none }

def pool1 : Array CpInfo := pool [(2, .class_ 4), (0, .nameAndType 5 6), (0, u "java/lang/Object"), (0, u "<init>"), (0, u "()V"), (0, .methodref 8 9), (0, .class_ 10), (0, .nameAndType 11 12), (0, u "com/example/mangrove/mangrove/reasoner/BitsClearPinLaw"), (0, u "before"), (0, u "(ZIZII)Z"), (0, .integer 2147483647), (0, .class_ 15), (0, u "com/example/mangrove/mangrove/reasoner/Bits"), (0, .methodref 14 3), (0, .methodref 14 18), (0, .nameAndType 19 20), (0, u "set"), (0, u "(I)V"), (0, .methodref 14 22), (0, .nameAndType 23 20), (0, u "clear"), (0, .methodref 14 25), (0, .nameAndType 26 27), (0, u "get"), (0, u "(I)Z"), (0, .methodref 8 29), (0, .nameAndType 30 31), (0, u "after"), (0, u "(ZIZIII)Z"), (3, u "law"), (0, u "(IIIIII)Z")] 2

def k1m0 : Method := { name := "<init>", desc := "()V", sig := { parameters := [], returnType := none }, accessFlags := 1, code := none }
def k1c1 : Code := { maxStack := 2, maxLocals := 5, code := method_2_code, exceptionTable := #[], attributes := #[] }
def k1m1 : Method := { name := "before", desc := "(ZIZII)Z", sig := { parameters := [.boolean, .int, .boolean, .int, .int], returnType := some .boolean }, accessFlags := 10, code := some k1c1 }
def k1c2 : Code := { maxStack := 5, maxLocals := 6, code := method_3_code, exceptionTable := #[], attributes := #[] }
def k1m2 : Method := { name := "after", desc := "(ZIZIII)Z", sig := { parameters := [.boolean, .int, .boolean, .int, .int, .int], returnType := some .boolean }, accessFlags := 10, code := some k1c2 }
def k1c3 : Code := { maxStack := 7, maxLocals := 15, code := code, exceptionTable := #[], attributes := #[] }
def k1m3 : Method := { name := "law", desc := "(IIIIII)Z", sig := { parameters := [.int, .int, .int, .int, .int, .int], returnType := some .boolean }, accessFlags := 9, code := some k1c3 }
/-- com/example/mangrove/mangrove/reasoner/BitsClearPinLaw -/
def k1 : Class := { plain "com/example/mangrove/mangrove/reasoner/BitsClearPinLaw" (some 0) with
  accessFlags := 49
  interfaces := #[]
  cf := some (fileOf pool1 8 #[] #[{ accessFlags := 1, nameIndex := 5, descriptorIndex := 6, attributes := #[] }, { accessFlags := 10, nameIndex := 11, descriptorIndex := 12, attributes := #[] }, { accessFlags := 10, nameIndex := 30, descriptorIndex := 31, attributes := #[] }, { accessFlags := 9, nameIndex := 35, descriptorIndex := 36, attributes := #[] }] 49 2 #[] #[])
  fields := #[]
  methods := #[k1m0, k1m1, k1m2, k1m3]
  instanceTypes := #[]
  staticTypes := #[]
  resolved := Array.replicate 39 none
  statics := none }

def pool2 : Array CpInfo := pool [(1, .methodref 2 3), (0, .class_ 4), (0, .nameAndType 5 6), (0, u "java/lang/Object"), (0, u "<init>"), (0, u "()V"), (0, .fieldref 8 9), (0, .class_ 10), (0, .nameAndType 11 12), (0, u "com/example/mangrove/mangrove/reasoner/Bits"), (0, u "words"), (0, u "[J"), (0, .methodref 14 15), (0, .class_ 16), (0, .nameAndType 17 18), (0, u "java/lang/Math"), (0, u "max"), (0, u "(II)I"), (0, .methodref 20 21), (0, .class_ 22), (0, .nameAndType 23 24), (0, u "java/util/Arrays"), (0, u "copyOf"), (0, u "([JI)[J"), (0, .long 18446744073709551615), (3, u "get"), (0, u "(I)Z"), (1, u "set"), (0, u "(I)V"), (0, u "clear")] 2

def k2c0 : Code := { maxStack := 2, maxLocals := 1, code := prog_13_method_1_code, exceptionTable := #[], attributes := #[] }
def k2m0 : Method := { name := "<init>", desc := "()V", sig := { parameters := [], returnType := none }, accessFlags := 0, code := some k2c0 }
def k2c1 : Code := { maxStack := 5, maxLocals := 3, code := prog_13_method_2_code, exceptionTable := #[], attributes := #[] }
def k2m1 : Method := { name := "get", desc := "(I)Z", sig := { parameters := [.int], returnType := some .boolean }, accessFlags := 0, code := some k2c1 }
def k2c2 : Code := { maxStack := 7, maxLocals := 3, code := prog_13_method_3_code, exceptionTable := #[], attributes := #[] }
def k2m2 : Method := { name := "set", desc := "(I)V", sig := { parameters := [.int], returnType := none }, accessFlags := 0, code := some k2c2 }
def k2c3 : Code := { maxStack := 8, maxLocals := 3, code := prog_13_method_4_code, exceptionTable := #[], attributes := #[] }
def k2m3 : Method := { name := "clear", desc := "(I)V", sig := { parameters := [.int], returnType := none }, accessFlags := 0, code := some k2c3 }
/-- com/example/mangrove/mangrove/reasoner/Bits -/
def k2 : Class := { plain "com/example/mangrove/mangrove/reasoner/Bits" (some 0) with
  accessFlags := 32
  interfaces := #[]
  cf := some (fileOf pool2 8 #[] #[{ accessFlags := 0, nameIndex := 5, descriptorIndex := 6, attributes := #[] }, { accessFlags := 0, nameIndex := 29, descriptorIndex := 30, attributes := #[] }, { accessFlags := 0, nameIndex := 32, descriptorIndex := 33, attributes := #[] }, { accessFlags := 0, nameIndex := 34, descriptorIndex := 33, attributes := #[] }] 32 2 #[] #[{ accessFlags := 2, nameIndex := 11, descriptorIndex := 12, attributes := #[] }])
  fields := #[{ name := "words", type := (.array .long), accessFlags := 2, slot := 0, constantValue := 0 }]
  methods := #[k2m0, k2m1, k2m2, k2m3]
  instanceTypes := #[(.array .long)]
  staticTypes := #[]
  resolved := Array.replicate 37 none
  statics := none }

def pool3 : Array CpInfo := pool [(1, .class_ 2), (0, u "java/lang/Math"), (1, .class_ 6), (1, u "java/lang/Object"), (0, u "<init>"), (0, u "()V"), (89, .class_ 100), (1, u "java/lang/Math$RandomNumberGeneratorHolder"), (71, u "negativeZeroFloatBits"), (0, u "J"), (2, u "negativeZeroDoubleBits"), (21, u "max"), (2, u "min"), (43, u "$assertionsDisabled"), (0, u "Z"), (88, u "(II)I"), (2, u "twoToTheDoubleScaleDown"), (0, u "D"), (4, u "twoToTheDoubleScaleUp"), (9, u "E"), (3, u "PI"), (2, u "TAU"), (2, u "DEGREES_TO_RADIANS"), (0, u "RADIANS_TO_DEGREES")] 94

def k3m0 : Method := { name := "<init>", desc := "()V", sig := { parameters := [], returnType := none }, accessFlags := 2, code := none }
def k3c1 : Code := { maxStack := 2, maxLocals := 2, code := jdk_29_method_65_code, exceptionTable := #[], attributes := #[] }
def k3m1 : Method := { name := "max", desc := "(II)I", sig := { parameters := [.int, .int], returnType := some .int }, accessFlags := 9, code := some k3c1 }
def k3c2 : Code := { maxStack := 2, maxLocals := 2, code := jdk_29_method_69_code, exceptionTable := #[], attributes := #[] }
def k3m2 : Method := { name := "min", desc := "(II)I", sig := { parameters := [.int, .int], returnType := some .int }, accessFlags := 9, code := some k3c2 }
/-- java/lang/Math -/
def k3 : Class := { plain "java/lang/Math" (some 0) with
  accessFlags := 49
  interfaces := #[]
  cf := some (fileOf pool3 1 #[.nestMembers #[98]] #[{ accessFlags := 2, nameIndex := 7, descriptorIndex := 8, attributes := #[] }, { accessFlags := 9, nameIndex := 198, descriptorIndex := 335, attributes := #[] }, { accessFlags := 9, nameIndex := 201, descriptorIndex := 335, attributes := #[] }] 49 4 #[] #[{ accessFlags := 25, nameIndex := 354, descriptorIndex := 339, attributes := #[] }, { accessFlags := 25, nameIndex := 358, descriptorIndex := 339, attributes := #[] }, { accessFlags := 25, nameIndex := 361, descriptorIndex := 339, attributes := #[] }, { accessFlags := 26, nameIndex := 364, descriptorIndex := 339, attributes := #[] }, { accessFlags := 26, nameIndex := 365, descriptorIndex := 339, attributes := #[] }, { accessFlags := 26, nameIndex := 172, descriptorIndex := 173, attributes := #[] }, { accessFlags := 26, nameIndex := 176, descriptorIndex := 173, attributes := #[] }, { accessFlags := 8, nameIndex := 344, descriptorIndex := 339, attributes := #[] }, { accessFlags := 8, nameIndex := 338, descriptorIndex := 339, attributes := #[] }, { accessFlags := 4120, nameIndex := 245, descriptorIndex := 246, attributes := #[] }])
  fields := #[{ name := "E", type := .double, accessFlags := 25, slot := 0, constantValue := 0 }, { name := "PI", type := .double, accessFlags := 25, slot := 1, constantValue := 0 }, { name := "TAU", type := .double, accessFlags := 25, slot := 2, constantValue := 0 }, { name := "DEGREES_TO_RADIANS", type := .double, accessFlags := 26, slot := 3, constantValue := 0 }, { name := "RADIANS_TO_DEGREES", type := .double, accessFlags := 26, slot := 4, constantValue := 0 }, { name := "negativeZeroFloatBits", type := .long, accessFlags := 26, slot := 5, constantValue := 0 }, { name := "negativeZeroDoubleBits", type := .long, accessFlags := 26, slot := 6, constantValue := 0 }, { name := "twoToTheDoubleScaleUp", type := .double, accessFlags := 8, slot := 7, constantValue := 0 }, { name := "twoToTheDoubleScaleDown", type := .double, accessFlags := 8, slot := 8, constantValue := 0 }, { name := "$assertionsDisabled", type := .boolean, accessFlags := 4120, slot := 9, constantValue := 0 }]
  methods := #[k3m0, k3m1, k3m2]
  instanceTypes := #[]
  staticTypes := #[.double, .double, .double, .double, .double, .long, .long, .double, .double, .boolean]
  resolved := Array.replicate 460 none
  statics := none }

def pool4 : Array CpInfo := pool [(2, .class_ 4), (1, u "java/lang/Object"), (0, u "<init>"), (0, u "()V"), (7, .class_ 16), (1, u "java/util/Arrays"), (57, .class_ 76), (1, u "java/util/Arrays$NaturalOrder"), (36, .class_ 115), (1, u "java/util/Arrays$LegacyMergeSort"), (1, u "Z"), (32, .methodref 151 152), (0, .class_ 153), (0, .nameAndType 154 155), (0, u "java/lang/System"), (0, u "arraycopy"), (0, u "(Ljava/lang/Object;ILjava/lang/Object;II)V"), (146, u "copyOf"), (1, .methodref 305 306), (0, .class_ 307), (0, .nameAndType 308 309), (0, u "java/lang/Math"), (0, u "min"), (0, u "(II)I"), (65, .class_ 376), (0, u "java/util/Arrays$ArrayList"), (68, u "$assertionsDisabled"), (269, u "MIN_ARRAY_SORT_GRAN"), (0, u "I"), (2, u "INSERTIONSORT_THRESHOLD"), (152, u "([JI)[J"), (102, .class_ 976), (0, u "java/util/Arrays$ArrayItr")] 52

def k4m0 : Method := { name := "<init>", desc := "()V", sig := { parameters := [], returnType := none }, accessFlags := 2, code := none }
def k4c1 : Code := { maxStack := 6, maxLocals := 3, code := jdk_65_method_124_code, exceptionTable := #[], attributes := #[] }
def k4m1 : Method := { name := "copyOf", desc := "([JI)[J", sig := { parameters := [(.array .long), .int], returnType := some (.array .long) }, accessFlags := 9, code := some k4c1 }
/-- java/util/Arrays -/
def k4 : Class := { plain "java/util/Arrays" (some 0) with
  accessFlags := 49
  interfaces := #[]
  cf := some (fileOf pool4 14 #[.nestMembers #[975, 375, 113, 74]] #[{ accessFlags := 2, nameIndex := 5, descriptorIndex := 6, attributes := #[] }, { accessFlags := 9, nameIndex := 302, descriptorIndex := 872, attributes := #[] }] 49 2 #[] #[{ accessFlags := 26, nameIndex := 715, descriptorIndex := 716, attributes := #[] }, { accessFlags := 26, nameIndex := 719, descriptorIndex := 716, attributes := #[] }, { accessFlags := 4120, nameIndex := 445, descriptorIndex := 117, attributes := #[] }])
  fields := #[{ name := "MIN_ARRAY_SORT_GRAN", type := .int, accessFlags := 26, slot := 0, constantValue := 0 }, { name := "INSERTIONSORT_THRESHOLD", type := .int, accessFlags := 26, slot := 1, constantValue := 0 }, { name := "$assertionsDisabled", type := .boolean, accessFlags := 4120, slot := 2, constantValue := 0 }]
  methods := #[k4m0, k4m1]
  instanceTypes := #[]
  staticTypes := #[.int, .int, .boolean]
  resolved := Array.replicate 1029 none
  statics := none }

def pool5 : Array CpInfo := pool [(2, .class_ 4), (1, u "java/lang/Object"), (0, u "<init>"), (0, u "()V"), (1, .class_ 10), (1, u "java/lang/System"), (0, u "allowSecurityManager"), (0, u "I"), (16, u "cons"), (0, u "Ljava/io/Console;"), (77, .class_ 110), (1, u "java/lang/System$CallersHolder"), (43, u "initialErrStream"), (0, u "Ljava/io/PrintStream;"), (19, u "security"), (0, u "Ljava/lang/SecurityManager;"), (31, .class_ 209), (0, u "java/lang/System$1"), (7, u "props"), (0, u "Ljava/util/Properties;"), (2, u "lineSeparator"), (0, u "Ljava/lang/String;"), (96, .class_ 321), (1, u "java/lang/System$LoggerFinder"), (5, .class_ 328), (0, u "java/lang/System$Logger"), (67, u "err"), (2, u "out"), (91, u "notSupportedJnuEncoding"), (15, u "in"), (17, u "initialIn"), (0, u "Ljava/io/InputStream;"), (35, u "bootLayer"), (0, u "Ljava/lang/ModuleLayer;"), (99, .class_ 664), (0, u "java/lang/System$2"), (9, u "NEVER"), (2, u "MAYBE"), (49, u "arraycopy"), (0, u "(Ljava/lang/Object;ILjava/lang/Object;II)V"), (72, .class_ 802), (0, u "java/lang/System$Logger$Level")] 31

def k5m0 : Method := { name := "<init>", desc := "()V", sig := { parameters := [], returnType := none }, accessFlags := 2, code := none }
def k5m1 : Method := { name := "arraycopy", desc := "(Ljava/lang/Object;ILjava/lang/Object;II)V", sig := { parameters := [(.object "java/lang/Object"), .int, (.object "java/lang/Object"), .int, .int], returnType := none }, accessFlags := 265, code := none }
/-- java/lang/System -/
def k5 : Class := { plain "java/lang/System" (some 0) with
  accessFlags := 49
  interfaces := #[]
  cf := some (fileOf pool5 8 #[.nestMembers #[319, 327, 801, 108, 663, 208]] #[{ accessFlags := 2, nameIndex := 5, descriptorIndex := 6, attributes := #[] }, { accessFlags := 265, nameIndex := 727, descriptorIndex := 728, attributes := #[] }] 49 2 #[] #[{ accessFlags := 25, nameIndex := 507, descriptorIndex := 526, attributes := #[] }, { accessFlags := 25, nameIndex := 399, descriptorIndex := 155, attributes := #[] }, { accessFlags := 25, nameIndex := 396, descriptorIndex := 155, attributes := #[] }, { accessFlags := 10, nameIndex := 525, descriptorIndex := 526, attributes := #[] }, { accessFlags := 26, nameIndex := 674, descriptorIndex := 12, attributes := #[] }, { accessFlags := 26, nameIndex := 677, descriptorIndex := 12, attributes := #[] }, { accessFlags := 10, nameIndex := 11, descriptorIndex := 12, attributes := #[] }, { accessFlags := 74, nameIndex := 175, descriptorIndex := 176, attributes := #[] }, { accessFlags := 10, nameIndex := 491, descriptorIndex := 222, attributes := #[] }, { accessFlags := 74, nameIndex := 29, descriptorIndex := 30, attributes := #[] }, { accessFlags := 74, nameIndex := 154, descriptorIndex := 155, attributes := #[] }, { accessFlags := 10, nameIndex := 217, descriptorIndex := 218, attributes := #[] }, { accessFlags := 10, nameIndex := 221, descriptorIndex := 222, attributes := #[] }, { accessFlags := 8, nameIndex := 562, descriptorIndex := 563, attributes := #[] }])
  fields := #[{ name := "in", type := (.object "java/io/InputStream"), accessFlags := 25, slot := 0, constantValue := 0 }, { name := "out", type := (.object "java/io/PrintStream"), accessFlags := 25, slot := 1, constantValue := 0 }, { name := "err", type := (.object "java/io/PrintStream"), accessFlags := 25, slot := 2, constantValue := 0 }, { name := "initialIn", type := (.object "java/io/InputStream"), accessFlags := 10, slot := 3, constantValue := 0 }, { name := "NEVER", type := .int, accessFlags := 26, slot := 4, constantValue := 0 }, { name := "MAYBE", type := .int, accessFlags := 26, slot := 5, constantValue := 0 }, { name := "allowSecurityManager", type := .int, accessFlags := 10, slot := 6, constantValue := 0 }, { name := "security", type := (.object "java/lang/SecurityManager"), accessFlags := 74, slot := 7, constantValue := 0 }, { name := "notSupportedJnuEncoding", type := (.object "java/lang/String"), accessFlags := 10, slot := 8, constantValue := 0 }, { name := "cons", type := (.object "java/io/Console"), accessFlags := 74, slot := 9, constantValue := 0 }, { name := "initialErrStream", type := (.object "java/io/PrintStream"), accessFlags := 74, slot := 10, constantValue := 0 }, { name := "props", type := (.object "java/util/Properties"), accessFlags := 10, slot := 11, constantValue := 0 }, { name := "lineSeparator", type := (.object "java/lang/String"), accessFlags := 10, slot := 12, constantValue := 0 }, { name := "bootLayer", type := (.object "java/lang/ModuleLayer"), accessFlags := 8, slot := 13, constantValue := 0 }]
  methods := #[k5m0, k5m1]
  instanceTypes := #[]
  staticTypes := #[(.object "java/io/InputStream"), (.object "java/io/PrintStream"), (.object "java/io/PrintStream"), (.object "java/io/InputStream"), .int, .int, .int, (.object "java/lang/SecurityManager"), (.object "java/lang/String"), (.object "java/io/Console"), (.object "java/io/PrintStream"), (.object "java/util/Properties"), (.object "java/lang/String"), (.object "java/lang/ModuleLayer")]
  resolved := Array.replicate 834 none
  statics := none }

def pool6 : Array CpInfo := pool [(1, u "java/lang/Cloneable"), (0, .class_ 1), (0, u "java/lang/Object"), (0, .class_ 3)] 3

/-- java/lang/Cloneable -/
def k6 : Class := { plain "java/lang/Cloneable" (some 0) with
  accessFlags := 1537
  interfaces := #[]
  cf := some (fileOf pool6 2 #[] #[] 1537 4 #[] #[])
  fields := #[]
  methods := #[]
  instanceTypes := #[]
  staticTypes := #[]
  resolved := Array.replicate 8 none
  statics := none }

def pool7 : Array CpInfo := pool [(1, u "java/io/Serializable"), (0, .class_ 1), (0, u "java/lang/Object"), (0, .class_ 3)] 3

/-- java/io/Serializable -/
def k7 : Class := { plain "java/io/Serializable" (some 0) with
  accessFlags := 1537
  interfaces := #[]
  cf := some (fileOf pool7 2 #[] #[] 1537 4 #[] #[])
  fields := #[]
  methods := #[]
  instanceTypes := #[]
  staticTypes := #[]
  resolved := Array.replicate 8 none
  statics := none }

/-- the primitive byte -/
def k8 : Class := { plain "byte" none with kind := .primitive 'B', accessFlags := 0x411 }
/-- [B -/
def k9 : Class := { plain "[B" (some 0) with kind := .array 8 .byte, interfaces := #[6, 7], accessFlags := 1041 }

/-- the primitive int -/
def k10 : Class := { plain "int" none with kind := .primitive 'I', accessFlags := 0x411 }
/-- [I -/
def k11 : Class := { plain "[I" (some 0) with kind := .array 10 .int, interfaces := #[6, 7], accessFlags := 1041 }

/-- the primitive long -/
def k12 : Class := { plain "long" none with kind := .primitive 'J', accessFlags := 0x411 }
/-- [J -/
def k13 : Class := { plain "[J" (some 0) with kind := .array 12 .long, interfaces := #[6, 7], accessFlags := 1041 }

def heap : Heap := #[]
def classes : Array Class := #[k0, k1, k2, k3, k4, k5, k6, k7, k8, k9, k10, k11, k12, k13]
def interned : List (Array UInt16 × Addr) := []
def slotsUsed : Nat := 0
def theMethod : MethodId := ⟨1, 3⟩
def args0 : Array Value := #[.int 5, .int 7, .int 9, .int 9, .int 9, .int 9]
def aboutOver (below : List Frame) : State where
  vm := { classes := classes, interned := interned.toArray }
  heap := heap
  slotsUsed := slotsUsed
  threads := #[{ frames := .invoking theMethod args0 :: below }]
def below0 : List Frame := [.native { method := ⟨0, 0⟩, args := #[] }]
def about1 : State := aboutOver below0
def p0 : Program := .bare "" "" ""
def e0 : Env := launch0.env 0 0 0
theorem w_frames : about1.frames = Frame.invoking theMethod args0 :: below0 := rfl
set_option maxRecDepth 65536 in
theorem w_args : argsFit about1.vm theMethod args0 = true := by decide +kernel
set_option maxRecDepth 65536 in
theorem w_heap : heapFits about1 = true := by decide +kernel
set_option maxRecDepth 65536 in
theorem w_runnable : about1.curStatus? = some .runnable := by decide +kernel
set_option maxRecDepth 65536 in
theorem w_alone : about1.alone = true := by decide +kernel
set_option maxRecDepth 65536 in
theorem w_named : about1.methodNamed? x = some theMethod := by decide +kernel
set_option maxRecDepth 65536 in
theorem w_hears : about1.hears theMethod below0 = true := by decide +kernel
set_option maxRecDepth 65536 in
theorem w_ripe : about1.ripe theMethod args0 below0 = true := by decide +kernel
theorem w_running : about1.status = .running := rfl
set_option maxRecDepth 65536 in
theorem w_room : about1.hasRoom e0.platform room_1 = true :=
  launch0.hasRoom_least _ room_1 (by decide +kernel) (by decide +kernel) (by decide +kernel) (by decide +kernel) (by decide +kernel) (by decide +kernel)
theorem allAtoms_all (ts : List Jvm.Cond) (a : Array Jvm.Value) (st : Jvm.State) : (allAtoms ts).before a st = ts.all (fun c => c.before a st) := by
  induction ts with
  | nil => rfl
  | cons c t ih =>
    show (Jvm.Cond.and c (allAtoms t)).before a st = _
    rw [Jvm.Cond.before_and, ih, List.all_cons]
def words1 : List Jvm.Cond := Jvm.Cond.code x code maxLocals ret :: tables_1
/-- a 'code' word, met by the world's own term for the bytes: nothing is compared byte by byte -/
theorem code_word {y : MethodName} {bytes : ByteArray} {mx : Nat} {rt : Option FieldType} {a : Array Value} {s : State} {m : MethodId} {meth : Method} {c : Code} (h1 : s.methodNamed? y = some m) (h2 : s.vm.method? m = some meth) (h3 : meth.code = some c) (h4 : c.code = bytes)
    (h5 : (c.maxLocals == mx && c.exceptionTable.isEmpty && decide (c.maxStack ≤ mostOperands) && decide (meth.sig.returnType = rt) && !meth.locks && decide (parseMethodDescriptor y.desc = some meth.sig)) = true) : (Jvm.Cond.code y bytes mx rt).before a s = true := by
  simp only [Bool.and_eq_true, beq_iff_eq, Bool.not_eq_true', decide_eq_true_eq] at h5
  obtain ⟨⟨⟨⟨⟨g1, g2⟩, g3⟩, g4⟩, g5⟩, g6⟩ := h5
  simp [Cond.before, Cond.holds, Cond.value, h1, h2, h3, h4, g1, g2, g3, g4, g5, g6]
def isCode : Jvm.Cond → Bool
  | .code _ _ _ _ => true
  | _ => false
theorem all_split {L : List Jvm.Cond} {P : Jvm.Cond → Bool} (h1 : L.all (fun c => isCode c || P c) = true) (h2 : ∀ c ∈ L.filter isCode, P c = true) : L.all P = true := by
  refine List.all_eq_true.mpr fun c hc => ?_
  have h := List.all_eq_true.mp h1 c hc
  rcases Bool.eq_false_or_eq_true (isCode c) with hi | hi
  · exact h2 c (List.mem_filter.mpr ⟨hc, hi⟩)
  · simpa [hi] using h
set_option maxRecDepth 65536 in
theorem w_c0 : (Jvm.Cond.code x code maxLocals ret).before args0 about1 = true := code_word (m := ⟨1, 3⟩) (meth := k1m3) (c := k1c3) (by decide +kernel) rfl rfl rfl (by decide +kernel)
set_option maxRecDepth 65536 in
theorem w_c1 : (Jvm.Cond.code ({ cls := "com/example/mangrove/mangrove/reasoner/Bits", name := "<init>", desc := "()V" } : Jvm.MethodName) prog_13_method_1_code (1 : Nat) (Option.none : Option Jvm.ClassFile.FieldType)).before args0 about1 = true := code_word (m := ⟨2, 0⟩) (meth := k2m0) (c := k2c0) (by decide +kernel) rfl rfl rfl (by decide +kernel)
set_option maxRecDepth 65536 in
theorem w_c2 : (Jvm.Cond.code ({ cls := "java/lang/Object", name := "<init>", desc := "()V" } : Jvm.MethodName) object_method_1_code (1 : Nat) (Option.none : Option Jvm.ClassFile.FieldType)).before args0 about1 = true := code_word (m := ⟨0, 0⟩) (meth := k0m0) (c := k0c0) (by decide +kernel) rfl rfl rfl (by decide +kernel)
set_option maxRecDepth 65536 in
theorem w_c3 : (Jvm.Cond.code ({ cls := "com/example/mangrove/mangrove/reasoner/Bits", name := "set", desc := "(I)V" } : Jvm.MethodName) prog_13_method_3_code (3 : Nat) (Option.none : Option Jvm.ClassFile.FieldType)).before args0 about1 = true := code_word (m := ⟨2, 2⟩) (meth := k2m2) (c := k2c2) (by decide +kernel) rfl rfl rfl (by decide +kernel)
set_option maxRecDepth 65536 in
theorem w_c4 : (Jvm.Cond.code ({ cls := "com/example/mangrove/mangrove/reasoner/Bits", name := "clear", desc := "(I)V" } : Jvm.MethodName) prog_13_method_4_code (3 : Nat) (Option.none : Option Jvm.ClassFile.FieldType)).before args0 about1 = true := code_word (m := ⟨2, 3⟩) (meth := k2m3) (c := k2c3) (by decide +kernel) rfl rfl rfl (by decide +kernel)
set_option maxRecDepth 65536 in
theorem w_c5 : (Jvm.Cond.code ({ cls := "com/example/mangrove/mangrove/reasoner/Bits", name := "get", desc := "(I)Z" } : Jvm.MethodName) prog_13_method_2_code (3 : Nat) (Option.some Jvm.ClassFile.FieldType.boolean)).before args0 about1 = true := code_word (m := ⟨2, 1⟩) (meth := k2m1) (c := k2c1) (by decide +kernel) rfl rfl rfl (by decide +kernel)
set_option maxRecDepth 65536 in
theorem w_c6 : (Jvm.Cond.code ({ cls := "com/example/mangrove/mangrove/reasoner/BitsClearPinLaw", name := "after", desc := "(ZIZIII)Z" } : Jvm.MethodName) method_3_code (6 : Nat) (Option.some Jvm.ClassFile.FieldType.boolean)).before args0 about1 = true := code_word (m := ⟨1, 2⟩) (meth := k1m2) (c := k1c2) (by decide +kernel) rfl rfl rfl (by decide +kernel)
set_option maxRecDepth 65536 in
theorem w_c7 : (Jvm.Cond.code ({ cls := "com/example/mangrove/mangrove/reasoner/BitsClearPinLaw", name := "before", desc := "(ZIZII)Z" } : Jvm.MethodName) method_2_code (5 : Nat) (Option.some Jvm.ClassFile.FieldType.boolean)).before args0 about1 = true := code_word (m := ⟨1, 1⟩) (meth := k1m1) (c := k1c1) (by decide +kernel) rfl rfl rfl (by decide +kernel)
set_option maxRecDepth 65536 in
theorem w_c8 : (Jvm.Cond.code ({ cls := "java/lang/Math", name := "max", desc := "(II)I" } : Jvm.MethodName) jdk_29_method_65_code (2 : Nat) (Option.some Jvm.ClassFile.FieldType.int)).before args0 about1 = true := code_word (m := ⟨3, 1⟩) (meth := k3m1) (c := k3c1) (by decide +kernel) rfl rfl rfl (by decide +kernel)
set_option maxRecDepth 65536 in
theorem w_c9 : (Jvm.Cond.code ({ cls := "java/util/Arrays", name := "copyOf", desc := "([JI)[J" } : Jvm.MethodName) jdk_65_method_124_code (3 : Nat) (Option.some (Jvm.ClassFile.FieldType.array Jvm.ClassFile.FieldType.long))).before args0 about1 = true := code_word (m := ⟨4, 1⟩) (meth := k4m1) (c := k4c1) (by decide +kernel) rfl rfl rfl (by decide +kernel)
set_option maxRecDepth 65536 in
theorem w_c10 : (Jvm.Cond.code ({ cls := "java/lang/Math", name := "min", desc := "(II)I" } : Jvm.MethodName) jdk_29_method_69_code (2 : Nat) (Option.some Jvm.ClassFile.FieldType.int)).before args0 about1 = true := code_word (m := ⟨3, 2⟩) (meth := k3m2) (c := k3c2) (by decide +kernel) rfl rfl rfl (by decide +kernel)
def codes1 : List Jvm.Cond := [Jvm.Cond.code x code maxLocals ret, Jvm.Cond.code ({ cls := "com/example/mangrove/mangrove/reasoner/Bits", name := "<init>", desc := "()V" } : Jvm.MethodName) prog_13_method_1_code (1 : Nat) (Option.none : Option Jvm.ClassFile.FieldType), Jvm.Cond.code ({ cls := "java/lang/Object", name := "<init>", desc := "()V" } : Jvm.MethodName) object_method_1_code (1 : Nat) (Option.none : Option Jvm.ClassFile.FieldType), Jvm.Cond.code ({ cls := "com/example/mangrove/mangrove/reasoner/Bits", name := "set", desc := "(I)V" } : Jvm.MethodName) prog_13_method_3_code (3 : Nat) (Option.none : Option Jvm.ClassFile.FieldType), Jvm.Cond.code ({ cls := "com/example/mangrove/mangrove/reasoner/Bits", name := "clear", desc := "(I)V" } : Jvm.MethodName) prog_13_method_4_code (3 : Nat) (Option.none : Option Jvm.ClassFile.FieldType), Jvm.Cond.code ({ cls := "com/example/mangrove/mangrove/reasoner/Bits", name := "get", desc := "(I)Z" } : Jvm.MethodName) prog_13_method_2_code (3 : Nat) (Option.some Jvm.ClassFile.FieldType.boolean), Jvm.Cond.code ({ cls := "com/example/mangrove/mangrove/reasoner/BitsClearPinLaw", name := "after", desc := "(ZIZIII)Z" } : Jvm.MethodName) method_3_code (6 : Nat) (Option.some Jvm.ClassFile.FieldType.boolean), Jvm.Cond.code ({ cls := "com/example/mangrove/mangrove/reasoner/BitsClearPinLaw", name := "before", desc := "(ZIZII)Z" } : Jvm.MethodName) method_2_code (5 : Nat) (Option.some Jvm.ClassFile.FieldType.boolean), Jvm.Cond.code ({ cls := "java/lang/Math", name := "max", desc := "(II)I" } : Jvm.MethodName) jdk_29_method_65_code (2 : Nat) (Option.some Jvm.ClassFile.FieldType.int), Jvm.Cond.code ({ cls := "java/util/Arrays", name := "copyOf", desc := "([JI)[J" } : Jvm.MethodName) jdk_65_method_124_code (3 : Nat) (Option.some (Jvm.ClassFile.FieldType.array Jvm.ClassFile.FieldType.long)), Jvm.Cond.code ({ cls := "java/lang/Math", name := "min", desc := "(II)I" } : Jvm.MethodName) jdk_29_method_69_code (2 : Nat) (Option.some Jvm.ClassFile.FieldType.int)]
set_option maxRecDepth 65536 in
theorem codes_eq : words1.filter isCode = codes1 := rfl
theorem w_codes : ∀ c ∈ words1.filter isCode, c.before args0 about1 = true := by
  rw [codes_eq]
  intro c hc
  simp only [codes1, List.mem_cons, List.not_mem_nil, or_false] at hc
  rcases hc with rfl | rfl | rfl | rfl | rfl | rfl | rfl | rfl | rfl | rfl | rfl
  · exact w_c0
  · exact w_c1
  · exact w_c2
  · exact w_c3
  · exact w_c4
  · exact w_c5
  · exact w_c6
  · exact w_c7
  · exact w_c8
  · exact w_c9
  · exact w_c10
set_option maxRecDepth 65536 in
theorem w_t1 : (words1.take 24).all (fun c => isCode c || c.before args0 about1) = true := by decide +kernel
set_option maxRecDepth 65536 in
theorem w_t2 : ((words1.drop 24).take 24).all (fun c => isCode c || c.before args0 about1) = true := by decide +kernel
set_option maxRecDepth 65536 in
theorem w_t3 : ((words1.drop 24).drop 24).all (fun c => isCode c || c.before args0 about1) = true := by decide +kernel
theorem w_tables : (allAtoms (Jvm.Cond.code x code maxLocals ret :: tables_1)).before args0 about1 = true := by
  rw [allAtoms_all]
  show words1.all (fun c => c.before args0 about1) = true
  refine all_split ?_ w_codes
  rw [← List.take_append_drop 24 words1, List.all_append, w_t1, ← List.take_append_drop 24 (words1.drop 24), List.all_append, w_t2, w_t3]
  rfl
set_option maxRecDepth 65536 in
theorem w_case : (Jvm.Cond.and given_1 narrow_1).before args0 about1 = true := by decide +kernel
theorem w_applies : (headSpec (Jvm.Cond.code x code maxLocals ret :: tables_1) room_1).applies x e0.platform about1 = true :=
  (Spec.applies_iff w_frames).mpr ⟨w_running, w_runnable, w_alone, w_named, w_hears, w_ripe, w_room, w_tables⟩
theorem atStart : AtStart classFile x code maxLocals ret World_1 tables_1 room_1 Calls_1 rest_1 Pre_1 launch0 p0 e0 about1 theMethod args0 below0 :=
  ⟨lists_1, trivial, launch0.admits_env _ _ _, launch0.least_env, fairChoices_fair.cas, fairChoices_fair.clock, w_frames, w_args, w_heap, w_applies, trivial, trivial, w_case⟩
end start1
theorem witness_1 : WitnessClaimed_1 := ⟨start1.p0, start1.e0, start1.about1, start1.theMethod, start1.args0, start1.below0, start1.atStart⟩
end Jvm.Pilot.@@N@@
