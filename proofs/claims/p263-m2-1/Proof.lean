import JvmDerived
import JvmDerived.Pilot.@@N@@Statement
import JvmDerived.Pilot.@@N@@Code
set_option linter.unusedVariables false
set_option linter.unusedSimpArgs false
@@BLOCK:NumsL.lean.txt@@
namespace Jvm.Pilot.@@N@@
open Jvm Jvm.ClassFile Sem Op Lib Jvm.Free Jvm.Stand Jvm.LawKit Jvm.RoadKit Bundle Jvm.Pilot.@@N@@.Jvm.D
/-! my own layer: what stands still in a walk (own_Cx, own_Mx), where it stands (own_Sx), what is left of it (own_Fin) -/
abbrev own_Cx : Type := Program × Launch × Env × Room × State × MethodId × Array Value × List Frame × Method × Code
def own_Sx (n0 : Nat) : own_Cx → State → Heap → Nat → Nat → Prop
  | (p, l, e, R, s, m, args, below, meth, c), T, h, cl, sl => ∃ locs, Stand p l e R s m args below meth c T locs cl sl ∧ Fr n0 locs ∧ T.heap = h ∧ n0 ≤ s.heap.size ∧ cl ≤ R.cells ∧ sl ≤ R.slots
def own_Mx (Z : State) (a0 : Array Value) : own_Cx → ByteArray → String → Nat → Option FieldType → Room → Prop
  | (p, l, e, R, s, m, args, below, meth, c), code, own, mx, ret, rm => p.tables.exec = Jvm.exec ∧ c.code = code ∧ c.maxLocals = mx ∧ s.vm.findClass own = some m.cls ∧ meth.sig.returnType = ret ∧ meth.locks = false ∧ Z.Warmed39 s.vm ∧ R = rm ∧ (∀ d ∈ tables_1, d.before a0 Z = true)
def own_Fin (n0 : Nat) : own_Cx → (Option Value → Heap → Prop) → State → Nat → Array Slot → List Value → Prop
  | (p, l, e, R, s, m, args, below, meth, c), P, T, pc, L, S => ∃ s₂ o, Steps p.tables e below (T.setTop (mkF m pc L S)) s₂ ∧ s₂.status = .running ∧ Ended s₂ below o ∧ ∃ v L', o = .returned v ∧ (P v s₂.heap ∧ Fr n0 L') ∧ FrameEnd s o s₂ L' R.cells R.slots
/-- a method's contract: from these arguments and this heap it returns, and P says what and with which heap -/
def own_Met (l : Launch) (Z : State) (n0 : Nat) (y : MethodName) (code : ByteArray) (mx : Nat) (ret : Option FieldType) (rm : Room) (args : Array Value) (h0 : Heap) (P : Option Value → Heap → Prop) : Prop :=
  ∀ ws : List Jvm.Cond, MetFree l y (head1 (Jvm.Cond.code y code mx ret :: ws) rm) (fun a U => a = args ∧ Z.Warmed39 U.vm ∧ U.heap = h0) (fun _ _ _ _ _ => True) (fun _ U o U' => ∃ v L, o = .returned v ∧ (P v U'.heap ∧ Fr n0 L) ∧ FrameEnd U o U' L rm.cells rm.slots)
section OwnLayer
variable {Z : State} {a0 : Array Value} {n0 : Nat} {K : own_Cx} {code : ByteArray} {own : String} {mx : Nat} {ret : Option FieldType} {rm : Room} {P : Option Value → Heap → Prop} {T : State} {h : Heap} {cl sl pc pc' : Nat} {L L' : Array Slot} {S rest : List Value}
theorem own_enter {l : Launch} {y : MethodName} {args : Array Value} {h0 : Heap} (hpl : plainFor y = true) (hw : ∀ d ∈ tables_1, d.before a0 Z = true) (hn : n0 ≤ h0.size) (he : ∀ m, entryFrame m args mx = mkF m 0 L [])
    (body : ∀ (K : own_Cx) (T : State), K.2.2.2.2.2.2.2.2.1.name = y.name → own_Mx Z a0 K code y.cls mx ret rm → own_Sx n0 K T h0 0 0 → own_Fin n0 K P T 0 L []) : own_Met l Z n0 y code mx ret rm args h0 P := by
  intro ws
  refine MetFree.of_bodySF hpl hisR ?_
  intro p e s m args' below meth c s₁ Bd hml0 hP hK
  obtain ⟨rfl, hZ, hh⟩ := hP
  have hown : s.vm.findClass y.cls = some m.cls := findClass_of_methodNamed Bd.named
  have X0 : Stand p l e rm s m args' below meth c s₁ [] 0 0 := Stand.of_body Bd
  have e0 : s₁.heap = h0 := by rw [← hh, Bd.state]; rfl
  obtain ⟨s2, o, st, r⟩ := body (p, l, e, rm, s, m, args', below, meth, c) s₁ (name_of_methodNamed Bd.named Bd.method).1 ⟨Bd.exec, Bd.bytes, hml0, hown, Bd.returns, Bd.notSynchronized, hZ, rfl, hw⟩ ⟨[], X0, Fr.nil n0, e0, by rw [hh]; exact hn, Nat.zero_le _, Nat.zero_le _⟩
  exact ⟨s2, o, castTop (he m) st, r⟩
theorem own_Sx.size (X : own_Sx n0 K T h cl sl) : n0 ≤ h.size := by
  obtain ⟨p, l, e, R, s, m, args, below, meth, c⟩ := K
  obtain ⟨locs, X, -, rfl, hn, -⟩ := X
  exact Nat.le_trans hn X.same.2.1
theorem own_ret {t : FieldType} (M : own_Mx Z a0 K code own mx (some t) rm) (X : own_Sx n0 K T h cl sl) {w w' : Value} {i : Instr} (hd : decode code pc = .ok (i, 1))
    (hst : ∀ {p : Program} {l : Launch} {e : Env} {R : Room} {s : State} {m : MethodId} {args : Array Value} {below : List Frame} {meth : Method} {c : Code} {locs : List Loc} {fs : List Frame}, Stand p l e R s m args below meth c T locs cl sl → p.tables.exec = Jvm.exec → meth.sig.returnType = some t → decode c.code pc = .ok (i, 1) → (∀ (f : JFrame) (acts : List Action), f.method = m → f.locked = none → f.entered = [] → (doReturn e (T.setTop f) acts (some w')).1 = T.setFrames fs) → Steps p.tables e below (T.setTop (mkF m pc L (w :: S))) (T.setFrames fs)) (hP : P (some w') h) : own_Fin n0 K P T pc L (w :: S) := by
  obtain ⟨p, l, e, R, s, m, args, below, meth, c⟩ := K
  obtain ⟨hx, hby, hml, hown, hret, hlk, hZ, rfl, hw⟩ := M
  obtain ⟨locs, X, hN, rfl, hn, hc, hs⟩ := X
  obtain ⟨fs, hr, hrun, hended, hW, hsame⟩ := X.leave (v := some w') (fun q => by rw [hret] at q; cases q) hlk
  exact ⟨_, _, hst X hx hret (hb hby hd) hr, hrun, hended, _, _, rfl, ⟨hP, hN⟩, ⟨_, rfl⟩, hW, hsame.mono hc hs⟩
theorem own_retI (M : own_Mx Z a0 K code own mx (some .int) rm) (X : own_Sx n0 K T h cl sl) {z : Int32} (hd : decode code pc = .ok (.ireturn, 1)) (hP : P (some (.int z)) h) : own_Fin n0 K P T pc L (.int z :: S) :=
  own_ret M X hd (fun X hx hret hd hr => retOut X hx hret rfl (Or.inl ⟨rfl, Or.inl rfl, z, rfl⟩) hd hr) hP
theorem own_retJ (M : own_Mx Z a0 K code own mx (some .long) rm) (X : own_Sx n0 K T h cl sl) {z : Int64} (hd : decode code pc = .ok (.lreturn, 1)) (hP : P (some (.long z)) h) : own_Fin n0 K P T pc L (.long z :: S) :=
  own_ret M X hd (fun X hx hret hd hr => retOut X hx hret rfl (Or.inr (Or.inl ⟨rfl, rfl, z, rfl⟩)) hd hr) hP
theorem own_retA {t : FieldType} (M : own_Mx Z a0 K code own mx (some t) rm) (X : own_Sx n0 K T h cl sl) {a : Addr} (ht : t.isReference = true) (hna : narrow t (.ref a) = .ref a) (hd : decode code pc = .ok (.areturn, 1)) (hP : P (some (.ref a)) h) : own_Fin n0 K P T pc L (.ref a :: S) :=
  own_ret M X hd (fun X hx hret hd hr => retOut X hx hret hna (Or.inr (Or.inr (Or.inr (Or.inr ⟨rfl, ht, rfl⟩)))) hd hr) hP
theorem own_retN {t : FieldType} (M : own_Mx Z a0 K code own mx (some t) rm) (X : own_Sx n0 K T h cl sl) {z z' : Int32} (ht : t = .boolean ∨ t = .byte ∨ t = .char ∨ t = .short) (hd : decode code pc = .ok (.ireturn, 1)) (hz : nar t z = z') (hP : P (some (.int z')) h) : own_Fin n0 K P T pc L (.int z :: S) :=
  own_ret M X hd (fun X hx hret hd hr => retN X hx hret ht hd (by rw [hz]; exact hr)) hP
theorem own_retV (M : own_Mx Z a0 K code own mx none rm) (X : own_Sx n0 K T h cl sl) (hd : decode code pc = .ok (.return_, 1)) (hP : P none h) : own_Fin n0 K P T pc L [] := by
  obtain ⟨p, l, e, R, s, m, args, below, meth, c⟩ := K
  obtain ⟨hx, hby, hml, hown, hret, hlk, hZ, rfl, hw⟩ := M
  obtain ⟨locs, X, hN, rfl, hn, hc, hs⟩ := X
  obtain ⟨fs, hr, hrun, hended, hW, hsame⟩ := X.leave (v := none) (fun _ => rfl) hlk
  exact ⟨_, _, X.returnOut hx hret (hb hby hd) hr, hrun, hended, _, _, rfl, ⟨hP, hN⟩, ⟨_, rfl⟩, hW, hsame.mono hc hs⟩
theorem own_iload (M : own_Mx Z a0 K code own mx ret rm) (X : own_Sx n0 K T h cl sl) {k : Nat} {v : Int32} (hd : decode code pc = .ok (.iload k, 2)) (hl : L[k]? = some (.val (.int v))) (hp : pc + 2 = pc') (hr : own_Fin n0 K P T pc' L (.int v :: S)) : own_Fin n0 K P T pc L (S) := by
  obtain ⟨p, l, e, R, s, m, args, below, meth, c⟩ := K
  obtain ⟨hx, hby, hml, hown, hret, hlk, hZ, rfl, hw⟩ := M
  obtain ⟨locs, X, hN, eT, hn, hcl, hsl⟩ := X
  obtain ⟨s2, o2, st, r⟩ := hr
  subst hp
  exact ⟨s2, o2, XS.iload X.here hx rfl (hb hby hd) hl st, r⟩
theorem own_iloadN (M : own_Mx Z a0 K code own mx ret rm) (X : own_Sx n0 K T h cl sl) {k : Fin 4} {v : Int32} (hd : decode code pc = .ok (.iload_n k, 1)) (hl : L[k.val]? = some (.val (.int v))) (hp : pc + 1 = pc') (hr : own_Fin n0 K P T pc' L (.int v :: S)) : own_Fin n0 K P T pc L (S) := by
  obtain ⟨p, l, e, R, s, m, args, below, meth, c⟩ := K
  obtain ⟨hx, hby, hml, hown, hret, hlk, hZ, rfl, hw⟩ := M
  obtain ⟨locs, X, hN, eT, hn, hcl, hsl⟩ := X
  obtain ⟨s2, o2, st, r⟩ := hr
  subst hp
  exact ⟨s2, o2, XS.iloadN X.here hx rfl (hb hby hd) hl st, r⟩
theorem own_istore (M : own_Mx Z a0 K code own mx ret rm) (X : own_Sx n0 K T h cl sl) {k : Nat} {v : Int32} (hd : decode code pc = .ok (.istore k, 2)) (hl : storeLocals L k (.int v) = some L') (hp : pc + 2 = pc') (hr : own_Fin n0 K P T pc' L' (S)) : own_Fin n0 K P T pc L (.int v :: S) := by
  obtain ⟨p, l, e, R, s, m, args, below, meth, c⟩ := K
  obtain ⟨hx, hby, hml, hown, hret, hlk, hZ, rfl, hw⟩ := M
  obtain ⟨locs, X, hN, eT, hn, hcl, hsl⟩ := X
  obtain ⟨s2, o2, st, r⟩ := hr
  subst hp
  exact ⟨s2, o2, XS.istore X.here hx rfl (hb hby hd) rfl hl st, r⟩
theorem own_istoreN (M : own_Mx Z a0 K code own mx ret rm) (X : own_Sx n0 K T h cl sl) {k : Fin 4} {v : Int32} (hd : decode code pc = .ok (.istore_n k, 1)) (hl : storeLocals L k.val (.int v) = some L') (hp : pc + 1 = pc') (hr : own_Fin n0 K P T pc' L' (S)) : own_Fin n0 K P T pc L (.int v :: S) := by
  obtain ⟨p, l, e, R, s, m, args, below, meth, c⟩ := K
  obtain ⟨hx, hby, hml, hown, hret, hlk, hZ, rfl, hw⟩ := M
  obtain ⟨locs, X, hN, eT, hn, hcl, hsl⟩ := X
  obtain ⟨s2, o2, st, r⟩ := hr
  subst hp
  exact ⟨s2, o2, XS.istoreN X.here hx rfl (hb hby hd) rfl hl st, r⟩
theorem own_lload (M : own_Mx Z a0 K code own mx ret rm) (X : own_Sx n0 K T h cl sl) {k : Nat} {v : Int64} (hd : decode code pc = .ok (.lload k, 2)) (hl : L[k]? = some (.val (.long v))) (hp : pc + 2 = pc') (hr : own_Fin n0 K P T pc' L (.long v :: S)) : own_Fin n0 K P T pc L (S) := by
  obtain ⟨p, l, e, R, s, m, args, below, meth, c⟩ := K
  obtain ⟨hx, hby, hml, hown, hret, hlk, hZ, rfl, hw⟩ := M
  obtain ⟨locs, X, hN, eT, hn, hcl, hsl⟩ := X
  obtain ⟨s2, o2, st, r⟩ := hr
  subst hp
  exact ⟨s2, o2, XS.lload X.here hx rfl (hb hby hd) hl st, r⟩
theorem own_lloadN (M : own_Mx Z a0 K code own mx ret rm) (X : own_Sx n0 K T h cl sl) {k : Fin 4} {v : Int64} (hd : decode code pc = .ok (.lload_n k, 1)) (hl : L[k.val]? = some (.val (.long v))) (hp : pc + 1 = pc') (hr : own_Fin n0 K P T pc' L (.long v :: S)) : own_Fin n0 K P T pc L (S) := by
  obtain ⟨p, l, e, R, s, m, args, below, meth, c⟩ := K
  obtain ⟨hx, hby, hml, hown, hret, hlk, hZ, rfl, hw⟩ := M
  obtain ⟨locs, X, hN, eT, hn, hcl, hsl⟩ := X
  obtain ⟨s2, o2, st, r⟩ := hr
  subst hp
  exact ⟨s2, o2, XS.lloadN X.here hx rfl (hb hby hd) hl st, r⟩
theorem own_lstore (M : own_Mx Z a0 K code own mx ret rm) (X : own_Sx n0 K T h cl sl) {k : Nat} {v : Int64} (hd : decode code pc = .ok (.lstore k, 2)) (hl : storeLocals L k (.long v) = some L') (hp : pc + 2 = pc') (hr : own_Fin n0 K P T pc' L' (S)) : own_Fin n0 K P T pc L (.long v :: S) := by
  obtain ⟨p, l, e, R, s, m, args, below, meth, c⟩ := K
  obtain ⟨hx, hby, hml, hown, hret, hlk, hZ, rfl, hw⟩ := M
  obtain ⟨locs, X, hN, eT, hn, hcl, hsl⟩ := X
  obtain ⟨s2, o2, st, r⟩ := hr
  subst hp
  exact ⟨s2, o2, XS.lstore X.here hx rfl (hb hby hd) rfl hl st, r⟩
theorem own_lstoreN (M : own_Mx Z a0 K code own mx ret rm) (X : own_Sx n0 K T h cl sl) {k : Fin 4} {v : Int64} (hd : decode code pc = .ok (.lstore_n k, 1)) (hl : storeLocals L k.val (.long v) = some L') (hp : pc + 1 = pc') (hr : own_Fin n0 K P T pc' L' (S)) : own_Fin n0 K P T pc L (.long v :: S) := by
  obtain ⟨p, l, e, R, s, m, args, below, meth, c⟩ := K
  obtain ⟨hx, hby, hml, hown, hret, hlk, hZ, rfl, hw⟩ := M
  obtain ⟨locs, X, hN, eT, hn, hcl, hsl⟩ := X
  obtain ⟨s2, o2, st, r⟩ := hr
  subst hp
  exact ⟨s2, o2, XS.lstoreN X.here hx rfl (hb hby hd) rfl hl st, r⟩
theorem own_aload (M : own_Mx Z a0 K code own mx ret rm) (X : own_Sx n0 K T h cl sl) {k : Nat} {v : Value} (hd : decode code pc = .ok (.aload k, 2)) (hl : L[k]? = some (.val v)) (hv : v.isRef = true) (hp : pc + 2 = pc') (hr : own_Fin n0 K P T pc' L (v :: S)) : own_Fin n0 K P T pc L (S) := by
  obtain ⟨p, l, e, R, s, m, args, below, meth, c⟩ := K
  obtain ⟨hx, hby, hml, hown, hret, hlk, hZ, rfl, hw⟩ := M
  obtain ⟨locs, X, hN, eT, hn, hcl, hsl⟩ := X
  obtain ⟨s2, o2, st, r⟩ := hr
  subst hp
  exact ⟨s2, o2, XS.aload X.here hx rfl (hb hby hd) hl hv st, r⟩
theorem own_aloadN (M : own_Mx Z a0 K code own mx ret rm) (X : own_Sx n0 K T h cl sl) {k : Fin 4} {v : Value} (hd : decode code pc = .ok (.aload_n k, 1)) (hl : L[k.val]? = some (.val v)) (hv : v.isRef = true) (hp : pc + 1 = pc') (hr : own_Fin n0 K P T pc' L (v :: S)) : own_Fin n0 K P T pc L (S) := by
  obtain ⟨p, l, e, R, s, m, args, below, meth, c⟩ := K
  obtain ⟨hx, hby, hml, hown, hret, hlk, hZ, rfl, hw⟩ := M
  obtain ⟨locs, X, hN, eT, hn, hcl, hsl⟩ := X
  obtain ⟨s2, o2, st, r⟩ := hr
  subst hp
  exact ⟨s2, o2, XS.aloadN X.here hx rfl (hb hby hd) hl hv st, r⟩
theorem own_astore (M : own_Mx Z a0 K code own mx ret rm) (X : own_Sx n0 K T h cl sl) {k : Nat} {v : Value} (hd : decode code pc = .ok (.astore k, 2)) (hv : v.isRef = true) (hl : storeLocals L k v = some L') (hp : pc + 2 = pc') (hr : own_Fin n0 K P T pc' L' (S)) : own_Fin n0 K P T pc L (v :: S) := by
  obtain ⟨p, l, e, R, s, m, args, below, meth, c⟩ := K
  obtain ⟨hx, hby, hml, hown, hret, hlk, hZ, rfl, hw⟩ := M
  obtain ⟨locs, X, hN, eT, hn, hcl, hsl⟩ := X
  obtain ⟨s2, o2, st, r⟩ := hr
  subst hp
  exact ⟨s2, o2, XS.astore X.here hx rfl (hb hby hd) rfl hv hl st, r⟩
theorem own_astoreN (M : own_Mx Z a0 K code own mx ret rm) (X : own_Sx n0 K T h cl sl) {k : Fin 4} {v : Value} (hd : decode code pc = .ok (.astore_n k, 1)) (hv : v.isRef = true) (hl : storeLocals L k.val v = some L') (hp : pc + 1 = pc') (hr : own_Fin n0 K P T pc' L' (S)) : own_Fin n0 K P T pc L (v :: S) := by
  obtain ⟨p, l, e, R, s, m, args, below, meth, c⟩ := K
  obtain ⟨hx, hby, hml, hown, hret, hlk, hZ, rfl, hw⟩ := M
  obtain ⟨locs, X, hN, eT, hn, hcl, hsl⟩ := X
  obtain ⟨s2, o2, st, r⟩ := hr
  subst hp
  exact ⟨s2, o2, XS.astoreN X.here hx rfl (hb hby hd) rfl hv hl st, r⟩
theorem own_iconst (M : own_Mx Z a0 K code own mx ret rm) (X : own_Sx n0 K T h cl sl) {i : Int} {v : Int32} (hd : decode code pc = .ok (.iconst i, 1)) (hv : Int32.ofInt i = v) (hp : pc + 1 = pc') (hr : own_Fin n0 K P T pc' L (.int v :: S)) : own_Fin n0 K P T pc L (S) := by
  obtain ⟨p, l, e, R, s, m, args, below, meth, c⟩ := K
  obtain ⟨hx, hby, hml, hown, hret, hlk, hZ, rfl, hw⟩ := M
  obtain ⟨locs, X, hN, eT, hn, hcl, hsl⟩ := X
  obtain ⟨s2, o2, st, r⟩ := hr
  subst hp
  subst hv
  exact ⟨s2, o2, XS.iconst X.here hx rfl (hb hby hd) st, r⟩
theorem own_bipush (M : own_Mx Z a0 K code own mx ret rm) (X : own_Sx n0 K T h cl sl) {i : Int} {v : Int32} (hd : decode code pc = .ok (.bipush i, 2)) (hv : (Int8.ofInt i).toInt32 = v) (hp : pc + 2 = pc') (hr : own_Fin n0 K P T pc' L (.int v :: S)) : own_Fin n0 K P T pc L (S) := by
  obtain ⟨p, l, e, R, s, m, args, below, meth, c⟩ := K
  obtain ⟨hx, hby, hml, hown, hret, hlk, hZ, rfl, hw⟩ := M
  obtain ⟨locs, X, hN, eT, hn, hcl, hsl⟩ := X
  obtain ⟨s2, o2, st, r⟩ := hr
  subst hp
  subst hv
  exact ⟨s2, o2, XS.bipush X.here hx rfl (hb hby hd) st, r⟩
theorem own_sipush (M : own_Mx Z a0 K code own mx ret rm) (X : own_Sx n0 K T h cl sl) {i : Int} {v : Int32} (hd : decode code pc = .ok (.sipush i, 3)) (hv : (Int16.ofInt i).toInt32 = v) (hp : pc + 3 = pc') (hr : own_Fin n0 K P T pc' L (.int v :: S)) : own_Fin n0 K P T pc L (S) := by
  obtain ⟨p, l, e, R, s, m, args, below, meth, c⟩ := K
  obtain ⟨hx, hby, hml, hown, hret, hlk, hZ, rfl, hw⟩ := M
  obtain ⟨locs, X, hN, eT, hn, hcl, hsl⟩ := X
  obtain ⟨s2, o2, st, r⟩ := hr
  subst hp
  subst hv
  exact ⟨s2, o2, XS.sipush X.here hx rfl (hb hby hd) st, r⟩
theorem own_lconst (M : own_Mx Z a0 K code own mx ret rm) (X : own_Sx n0 K T h cl sl) {i : Fin 2} {v : Int64} (hd : decode code pc = .ok (.lconst i, 1)) (hv : Int64.ofNat i = v) (hp : pc + 1 = pc') (hr : own_Fin n0 K P T pc' L (.long v :: S)) : own_Fin n0 K P T pc L (S) := by
  obtain ⟨p, l, e, R, s, m, args, below, meth, c⟩ := K
  obtain ⟨hx, hby, hml, hown, hret, hlk, hZ, rfl, hw⟩ := M
  obtain ⟨locs, X, hN, eT, hn, hcl, hsl⟩ := X
  obtain ⟨s2, o2, st, r⟩ := hr
  subst hp
  subst hv
  exact ⟨s2, o2, XS.lconst X.here hx rfl (hb hby hd) st, r⟩
theorem own_aconst_null (M : own_Mx Z a0 K code own mx ret rm) (X : own_Sx n0 K T h cl sl)  (hd : decode code pc = .ok (.aconst_null, 1)) (hp : pc + 1 = pc') (hr : own_Fin n0 K P T pc' L (.null :: S)) : own_Fin n0 K P T pc L (S) := by
  obtain ⟨p, l, e, R, s, m, args, below, meth, c⟩ := K
  obtain ⟨hx, hby, hml, hown, hret, hlk, hZ, rfl, hw⟩ := M
  obtain ⟨locs, X, hN, eT, hn, hcl, hsl⟩ := X
  obtain ⟨s2, o2, st, r⟩ := hr
  subst hp
  exact ⟨s2, o2, XS.aconstNull X.here hx rfl (hb hby hd) st, r⟩
theorem own_iadd (M : own_Mx Z a0 K code own mx ret rm) (X : own_Sx n0 K T h cl sl) {x y : Int32} (hd : decode code pc = .ok (.iadd, 1)) (hp : pc + 1 = pc') (hr : own_Fin n0 K P T pc' L (.int (x + y) :: S)) : own_Fin n0 K P T pc L (.int y :: .int x :: S) := by
  obtain ⟨p, l, e, R, s, m, args, below, meth, c⟩ := K
  obtain ⟨hx, hby, hml, hown, hret, hlk, hZ, rfl, hw⟩ := M
  obtain ⟨locs, X, hN, eT, hn, hcl, hsl⟩ := X
  obtain ⟨s2, o2, st, r⟩ := hr
  subst hp
  exact ⟨s2, o2, XS.iadd X.here hx rfl (hb hby hd) rfl st, r⟩
theorem own_ladd (M : own_Mx Z a0 K code own mx ret rm) (X : own_Sx n0 K T h cl sl) {x y : Int64} (hd : decode code pc = .ok (.ladd, 1)) (hp : pc + 1 = pc') (hr : own_Fin n0 K P T pc' L (.long (x + y) :: S)) : own_Fin n0 K P T pc L (.long y :: .long x :: S) := by
  obtain ⟨p, l, e, R, s, m, args, below, meth, c⟩ := K
  obtain ⟨hx, hby, hml, hown, hret, hlk, hZ, rfl, hw⟩ := M
  obtain ⟨locs, X, hN, eT, hn, hcl, hsl⟩ := X
  obtain ⟨s2, o2, st, r⟩ := hr
  subst hp
  exact ⟨s2, o2, XS.ladd X.here hx rfl (hb hby hd) rfl st, r⟩
theorem own_isub (M : own_Mx Z a0 K code own mx ret rm) (X : own_Sx n0 K T h cl sl) {x y : Int32} (hd : decode code pc = .ok (.isub, 1)) (hp : pc + 1 = pc') (hr : own_Fin n0 K P T pc' L (.int (x - y) :: S)) : own_Fin n0 K P T pc L (.int y :: .int x :: S) := by
  obtain ⟨p, l, e, R, s, m, args, below, meth, c⟩ := K
  obtain ⟨hx, hby, hml, hown, hret, hlk, hZ, rfl, hw⟩ := M
  obtain ⟨locs, X, hN, eT, hn, hcl, hsl⟩ := X
  obtain ⟨s2, o2, st, r⟩ := hr
  subst hp
  exact ⟨s2, o2, XS.isub X.here hx rfl (hb hby hd) rfl st, r⟩
theorem own_lsub (M : own_Mx Z a0 K code own mx ret rm) (X : own_Sx n0 K T h cl sl) {x y : Int64} (hd : decode code pc = .ok (.lsub, 1)) (hp : pc + 1 = pc') (hr : own_Fin n0 K P T pc' L (.long (x - y) :: S)) : own_Fin n0 K P T pc L (.long y :: .long x :: S) := by
  obtain ⟨p, l, e, R, s, m, args, below, meth, c⟩ := K
  obtain ⟨hx, hby, hml, hown, hret, hlk, hZ, rfl, hw⟩ := M
  obtain ⟨locs, X, hN, eT, hn, hcl, hsl⟩ := X
  obtain ⟨s2, o2, st, r⟩ := hr
  subst hp
  exact ⟨s2, o2, XS.lsub X.here hx rfl (hb hby hd) rfl st, r⟩
theorem own_imul (M : own_Mx Z a0 K code own mx ret rm) (X : own_Sx n0 K T h cl sl) {x y : Int32} (hd : decode code pc = .ok (.imul, 1)) (hp : pc + 1 = pc') (hr : own_Fin n0 K P T pc' L (.int (x * y) :: S)) : own_Fin n0 K P T pc L (.int y :: .int x :: S) := by
  obtain ⟨p, l, e, R, s, m, args, below, meth, c⟩ := K
  obtain ⟨hx, hby, hml, hown, hret, hlk, hZ, rfl, hw⟩ := M
  obtain ⟨locs, X, hN, eT, hn, hcl, hsl⟩ := X
  obtain ⟨s2, o2, st, r⟩ := hr
  subst hp
  exact ⟨s2, o2, XS.imul X.here hx rfl (hb hby hd) rfl st, r⟩
theorem own_lmul (M : own_Mx Z a0 K code own mx ret rm) (X : own_Sx n0 K T h cl sl) {x y : Int64} (hd : decode code pc = .ok (.lmul, 1)) (hp : pc + 1 = pc') (hr : own_Fin n0 K P T pc' L (.long (x * y) :: S)) : own_Fin n0 K P T pc L (.long y :: .long x :: S) := by
  obtain ⟨p, l, e, R, s, m, args, below, meth, c⟩ := K
  obtain ⟨hx, hby, hml, hown, hret, hlk, hZ, rfl, hw⟩ := M
  obtain ⟨locs, X, hN, eT, hn, hcl, hsl⟩ := X
  obtain ⟨s2, o2, st, r⟩ := hr
  subst hp
  exact ⟨s2, o2, XS.lmul X.here hx rfl (hb hby hd) rfl st, r⟩
theorem own_iand (M : own_Mx Z a0 K code own mx ret rm) (X : own_Sx n0 K T h cl sl) {x y : Int32} (hd : decode code pc = .ok (.iand, 1)) (hp : pc + 1 = pc') (hr : own_Fin n0 K P T pc' L (.int (x &&& y) :: S)) : own_Fin n0 K P T pc L (.int y :: .int x :: S) := by
  obtain ⟨p, l, e, R, s, m, args, below, meth, c⟩ := K
  obtain ⟨hx, hby, hml, hown, hret, hlk, hZ, rfl, hw⟩ := M
  obtain ⟨locs, X, hN, eT, hn, hcl, hsl⟩ := X
  obtain ⟨s2, o2, st, r⟩ := hr
  subst hp
  exact ⟨s2, o2, XS.iand X.here hx rfl (hb hby hd) rfl st, r⟩
theorem own_land (M : own_Mx Z a0 K code own mx ret rm) (X : own_Sx n0 K T h cl sl) {x y : Int64} (hd : decode code pc = .ok (.land, 1)) (hp : pc + 1 = pc') (hr : own_Fin n0 K P T pc' L (.long (x &&& y) :: S)) : own_Fin n0 K P T pc L (.long y :: .long x :: S) := by
  obtain ⟨p, l, e, R, s, m, args, below, meth, c⟩ := K
  obtain ⟨hx, hby, hml, hown, hret, hlk, hZ, rfl, hw⟩ := M
  obtain ⟨locs, X, hN, eT, hn, hcl, hsl⟩ := X
  obtain ⟨s2, o2, st, r⟩ := hr
  subst hp
  exact ⟨s2, o2, XS.land X.here hx rfl (hb hby hd) rfl st, r⟩
theorem own_ior (M : own_Mx Z a0 K code own mx ret rm) (X : own_Sx n0 K T h cl sl) {x y : Int32} (hd : decode code pc = .ok (.ior, 1)) (hp : pc + 1 = pc') (hr : own_Fin n0 K P T pc' L (.int (x ||| y) :: S)) : own_Fin n0 K P T pc L (.int y :: .int x :: S) := by
  obtain ⟨p, l, e, R, s, m, args, below, meth, c⟩ := K
  obtain ⟨hx, hby, hml, hown, hret, hlk, hZ, rfl, hw⟩ := M
  obtain ⟨locs, X, hN, eT, hn, hcl, hsl⟩ := X
  obtain ⟨s2, o2, st, r⟩ := hr
  subst hp
  exact ⟨s2, o2, XS.ior X.here hx rfl (hb hby hd) rfl st, r⟩
theorem own_lor (M : own_Mx Z a0 K code own mx ret rm) (X : own_Sx n0 K T h cl sl) {x y : Int64} (hd : decode code pc = .ok (.lor, 1)) (hp : pc + 1 = pc') (hr : own_Fin n0 K P T pc' L (.long (x ||| y) :: S)) : own_Fin n0 K P T pc L (.long y :: .long x :: S) := by
  obtain ⟨p, l, e, R, s, m, args, below, meth, c⟩ := K
  obtain ⟨hx, hby, hml, hown, hret, hlk, hZ, rfl, hw⟩ := M
  obtain ⟨locs, X, hN, eT, hn, hcl, hsl⟩ := X
  obtain ⟨s2, o2, st, r⟩ := hr
  subst hp
  exact ⟨s2, o2, XS.lor X.here hx rfl (hb hby hd) rfl st, r⟩
theorem own_ixor (M : own_Mx Z a0 K code own mx ret rm) (X : own_Sx n0 K T h cl sl) {x y : Int32} (hd : decode code pc = .ok (.ixor, 1)) (hp : pc + 1 = pc') (hr : own_Fin n0 K P T pc' L (.int (x ^^^ y) :: S)) : own_Fin n0 K P T pc L (.int y :: .int x :: S) := by
  obtain ⟨p, l, e, R, s, m, args, below, meth, c⟩ := K
  obtain ⟨hx, hby, hml, hown, hret, hlk, hZ, rfl, hw⟩ := M
  obtain ⟨locs, X, hN, eT, hn, hcl, hsl⟩ := X
  obtain ⟨s2, o2, st, r⟩ := hr
  subst hp
  exact ⟨s2, o2, XS.ixor X.here hx rfl (hb hby hd) rfl st, r⟩
theorem own_lxor (M : own_Mx Z a0 K code own mx ret rm) (X : own_Sx n0 K T h cl sl) {x y : Int64} (hd : decode code pc = .ok (.lxor, 1)) (hp : pc + 1 = pc') (hr : own_Fin n0 K P T pc' L (.long (x ^^^ y) :: S)) : own_Fin n0 K P T pc L (.long y :: .long x :: S) := by
  obtain ⟨p, l, e, R, s, m, args, below, meth, c⟩ := K
  obtain ⟨hx, hby, hml, hown, hret, hlk, hZ, rfl, hw⟩ := M
  obtain ⟨locs, X, hN, eT, hn, hcl, hsl⟩ := X
  obtain ⟨s2, o2, st, r⟩ := hr
  subst hp
  exact ⟨s2, o2, XS.lxor X.here hx rfl (hb hby hd) rfl st, r⟩
theorem own_ishl (M : own_Mx Z a0 K code own mx ret rm) (X : own_Sx n0 K T h cl sl) {x y : Int32} (hd : decode code pc = .ok (.ishl, 1)) (hp : pc + 1 = pc') (hr : own_Fin n0 K P T pc' L (.int (x <<< (y &&& 31)) :: S)) : own_Fin n0 K P T pc L (.int y :: .int x :: S) := by
  obtain ⟨p, l, e, R, s, m, args, below, meth, c⟩ := K
  obtain ⟨hx, hby, hml, hown, hret, hlk, hZ, rfl, hw⟩ := M
  obtain ⟨locs, X, hN, eT, hn, hcl, hsl⟩ := X
  obtain ⟨s2, o2, st, r⟩ := hr
  subst hp
  exact ⟨s2, o2, XS.ishl X.here hx rfl (hb hby hd) rfl st, r⟩
theorem own_ishr (M : own_Mx Z a0 K code own mx ret rm) (X : own_Sx n0 K T h cl sl) {x y : Int32} (hd : decode code pc = .ok (.ishr, 1)) (hp : pc + 1 = pc') (hr : own_Fin n0 K P T pc' L (.int (x >>> (y &&& 31)) :: S)) : own_Fin n0 K P T pc L (.int y :: .int x :: S) := by
  obtain ⟨p, l, e, R, s, m, args, below, meth, c⟩ := K
  obtain ⟨hx, hby, hml, hown, hret, hlk, hZ, rfl, hw⟩ := M
  obtain ⟨locs, X, hN, eT, hn, hcl, hsl⟩ := X
  obtain ⟨s2, o2, st, r⟩ := hr
  subst hp
  exact ⟨s2, o2, XS.ishr X.here hx rfl (hb hby hd) rfl st, r⟩
theorem own_iushr (M : own_Mx Z a0 K code own mx ret rm) (X : own_Sx n0 K T h cl sl) {x y : Int32} (hd : decode code pc = .ok (.iushr, 1)) (hp : pc + 1 = pc') (hr : own_Fin n0 K P T pc' L (.int ((x.toUInt32 >>> (y &&& 31).toUInt32).toInt32) :: S)) : own_Fin n0 K P T pc L (.int y :: .int x :: S) := by
  obtain ⟨p, l, e, R, s, m, args, below, meth, c⟩ := K
  obtain ⟨hx, hby, hml, hown, hret, hlk, hZ, rfl, hw⟩ := M
  obtain ⟨locs, X, hN, eT, hn, hcl, hsl⟩ := X
  obtain ⟨s2, o2, st, r⟩ := hr
  subst hp
  exact ⟨s2, o2, XS.iushr X.here hx rfl (hb hby hd) rfl st, r⟩
theorem own_lshl (M : own_Mx Z a0 K code own mx ret rm) (X : own_Sx n0 K T h cl sl) {x : Int64} {y : Int32} (hd : decode code pc = .ok (.lshl, 1)) (hp : pc + 1 = pc') (hr : own_Fin n0 K P T pc' L (.long (x <<< (y &&& 0x3f).toInt64) :: S)) : own_Fin n0 K P T pc L (.int y :: .long x :: S) := by
  obtain ⟨p, l, e, R, s, m, args, below, meth, c⟩ := K
  obtain ⟨hx, hby, hml, hown, hret, hlk, hZ, rfl, hw⟩ := M
  obtain ⟨locs, X, hN, eT, hn, hcl, hsl⟩ := X
  obtain ⟨s2, o2, st, r⟩ := hr
  subst hp
  exact ⟨s2, o2, XS.lshl X.here hx rfl (hb hby hd) rfl st, r⟩
theorem own_lshr (M : own_Mx Z a0 K code own mx ret rm) (X : own_Sx n0 K T h cl sl) {x : Int64} {y : Int32} (hd : decode code pc = .ok (.lshr, 1)) (hp : pc + 1 = pc') (hr : own_Fin n0 K P T pc' L (.long (x >>> (y &&& 0x3f).toInt64) :: S)) : own_Fin n0 K P T pc L (.int y :: .long x :: S) := by
  obtain ⟨p, l, e, R, s, m, args, below, meth, c⟩ := K
  obtain ⟨hx, hby, hml, hown, hret, hlk, hZ, rfl, hw⟩ := M
  obtain ⟨locs, X, hN, eT, hn, hcl, hsl⟩ := X
  obtain ⟨s2, o2, st, r⟩ := hr
  subst hp
  exact ⟨s2, o2, XS.lshr X.here hx rfl (hb hby hd) rfl st, r⟩
theorem own_lushr (M : own_Mx Z a0 K code own mx ret rm) (X : own_Sx n0 K T h cl sl) {x : Int64} {y : Int32} (hd : decode code pc = .ok (.lushr, 1)) (hp : pc + 1 = pc') (hr : own_Fin n0 K P T pc' L (.long ((x.toUInt64 >>> (y &&& 0x3f).toInt64.toUInt64).toInt64) :: S)) : own_Fin n0 K P T pc L (.int y :: .long x :: S) := by
  obtain ⟨p, l, e, R, s, m, args, below, meth, c⟩ := K
  obtain ⟨hx, hby, hml, hown, hret, hlk, hZ, rfl, hw⟩ := M
  obtain ⟨locs, X, hN, eT, hn, hcl, hsl⟩ := X
  obtain ⟨s2, o2, st, r⟩ := hr
  subst hp
  exact ⟨s2, o2, XS.lushr X.here hx rfl (hb hby hd) rfl st, r⟩
theorem own_idiv (M : own_Mx Z a0 K code own mx ret rm) (X : own_Sx n0 K T h cl sl) {x y : Int32} (hd : decode code pc = .ok (.idiv, 1)) (hy : y ≠ 0) (hp : pc + 1 = pc') (hr : own_Fin n0 K P T pc' L (.int (x / y) :: S)) : own_Fin n0 K P T pc L (.int y :: .int x :: S) := by
  obtain ⟨p, l, e, R, s, m, args, below, meth, c⟩ := K
  obtain ⟨hx, hby, hml, hown, hret, hlk, hZ, rfl, hw⟩ := M
  obtain ⟨locs, X, hN, eT, hn, hcl, hsl⟩ := X
  obtain ⟨s2, o2, st, r⟩ := hr
  subst hp
  exact ⟨s2, o2, XS.idiv X.here hx rfl (hb hby hd) rfl hy st, r⟩
theorem own_irem (M : own_Mx Z a0 K code own mx ret rm) (X : own_Sx n0 K T h cl sl) {x y : Int32} (hd : decode code pc = .ok (.irem, 1)) (hy : y ≠ 0) (hp : pc + 1 = pc') (hr : own_Fin n0 K P T pc' L (.int (x % y) :: S)) : own_Fin n0 K P T pc L (.int y :: .int x :: S) := by
  obtain ⟨p, l, e, R, s, m, args, below, meth, c⟩ := K
  obtain ⟨hx, hby, hml, hown, hret, hlk, hZ, rfl, hw⟩ := M
  obtain ⟨locs, X, hN, eT, hn, hcl, hsl⟩ := X
  obtain ⟨s2, o2, st, r⟩ := hr
  subst hp
  exact ⟨s2, o2, iremM X hx rfl (hb hby hd) rfl hy st, r⟩
theorem own_ldiv (M : own_Mx Z a0 K code own mx ret rm) (X : own_Sx n0 K T h cl sl) {x y : Int64} (hd : decode code pc = .ok (.ldiv, 1)) (hy : y ≠ 0) (hp : pc + 1 = pc') (hr : own_Fin n0 K P T pc' L (.long (x / y) :: S)) : own_Fin n0 K P T pc L (.long y :: .long x :: S) := by
  obtain ⟨p, l, e, R, s, m, args, below, meth, c⟩ := K
  obtain ⟨hx, hby, hml, hown, hret, hlk, hZ, rfl, hw⟩ := M
  obtain ⟨locs, X, hN, eT, hn, hcl, hsl⟩ := X
  obtain ⟨s2, o2, st, r⟩ := hr
  subst hp
  exact ⟨s2, o2, XS.ldiv X.here hx rfl (hb hby hd) rfl hy st, r⟩
theorem own_lrem (M : own_Mx Z a0 K code own mx ret rm) (X : own_Sx n0 K T h cl sl) {x y : Int64} (hd : decode code pc = .ok (.lrem, 1)) (hy : y ≠ 0) (hp : pc + 1 = pc') (hr : own_Fin n0 K P T pc' L (.long (x - (x / y) * y) :: S)) : own_Fin n0 K P T pc L (.long y :: .long x :: S) := by
  obtain ⟨p, l, e, R, s, m, args, below, meth, c⟩ := K
  obtain ⟨hx, hby, hml, hown, hret, hlk, hZ, rfl, hw⟩ := M
  obtain ⟨locs, X, hN, eT, hn, hcl, hsl⟩ := X
  obtain ⟨s2, o2, st, r⟩ := hr
  subst hp
  exact ⟨s2, o2, XS.lrem X.here hx rfl (hb hby hd) rfl hy st, r⟩
theorem own_ineg (M : own_Mx Z a0 K code own mx ret rm) (X : own_Sx n0 K T h cl sl) {x : Int32} (hd : decode code pc = .ok (.ineg, 1)) (hp : pc + 1 = pc') (hr : own_Fin n0 K P T pc' L (.int (-x) :: S)) : own_Fin n0 K P T pc L (.int x :: S) := by
  obtain ⟨p, l, e, R, s, m, args, below, meth, c⟩ := K
  obtain ⟨hx, hby, hml, hown, hret, hlk, hZ, rfl, hw⟩ := M
  obtain ⟨locs, X, hN, eT, hn, hcl, hsl⟩ := X
  obtain ⟨s2, o2, st, r⟩ := hr
  subst hp
  exact ⟨s2, o2, XS.ineg X.here hx rfl (hb hby hd) rfl st, r⟩
theorem own_lneg (M : own_Mx Z a0 K code own mx ret rm) (X : own_Sx n0 K T h cl sl) {x : Int64} (hd : decode code pc = .ok (.lneg, 1)) (hp : pc + 1 = pc') (hr : own_Fin n0 K P T pc' L (.long (-x) :: S)) : own_Fin n0 K P T pc L (.long x :: S) := by
  obtain ⟨p, l, e, R, s, m, args, below, meth, c⟩ := K
  obtain ⟨hx, hby, hml, hown, hret, hlk, hZ, rfl, hw⟩ := M
  obtain ⟨locs, X, hN, eT, hn, hcl, hsl⟩ := X
  obtain ⟨s2, o2, st, r⟩ := hr
  subst hp
  exact ⟨s2, o2, XS.lneg X.here hx rfl (hb hby hd) rfl st, r⟩
theorem own_i2l (M : own_Mx Z a0 K code own mx ret rm) (X : own_Sx n0 K T h cl sl) {x : Int32} (hd : decode code pc = .ok (.i2l, 1)) (hp : pc + 1 = pc') (hr : own_Fin n0 K P T pc' L (.long (x.toInt64) :: S)) : own_Fin n0 K P T pc L (.int x :: S) := by
  obtain ⟨p, l, e, R, s, m, args, below, meth, c⟩ := K
  obtain ⟨hx, hby, hml, hown, hret, hlk, hZ, rfl, hw⟩ := M
  obtain ⟨locs, X, hN, eT, hn, hcl, hsl⟩ := X
  obtain ⟨s2, o2, st, r⟩ := hr
  subst hp
  exact ⟨s2, o2, XS.i2l X.here hx rfl (hb hby hd) rfl st, r⟩
theorem own_l2i (M : own_Mx Z a0 K code own mx ret rm) (X : own_Sx n0 K T h cl sl) {x : Int64} (hd : decode code pc = .ok (.l2i, 1)) (hp : pc + 1 = pc') (hr : own_Fin n0 K P T pc' L (.int (x.toInt32) :: S)) : own_Fin n0 K P T pc L (.long x :: S) := by
  obtain ⟨p, l, e, R, s, m, args, below, meth, c⟩ := K
  obtain ⟨hx, hby, hml, hown, hret, hlk, hZ, rfl, hw⟩ := M
  obtain ⟨locs, X, hN, eT, hn, hcl, hsl⟩ := X
  obtain ⟨s2, o2, st, r⟩ := hr
  subst hp
  exact ⟨s2, o2, XS.l2i X.here hx rfl (hb hby hd) rfl st, r⟩
theorem own_i2b (M : own_Mx Z a0 K code own mx ret rm) (X : own_Sx n0 K T h cl sl) {x : Int32} (hd : decode code pc = .ok (.i2b, 1)) (hp : pc + 1 = pc') (hr : own_Fin n0 K P T pc' L (.int (x.toInt8.toInt32) :: S)) : own_Fin n0 K P T pc L (.int x :: S) := by
  obtain ⟨p, l, e, R, s, m, args, below, meth, c⟩ := K
  obtain ⟨hx, hby, hml, hown, hret, hlk, hZ, rfl, hw⟩ := M
  obtain ⟨locs, X, hN, eT, hn, hcl, hsl⟩ := X
  obtain ⟨s2, o2, st, r⟩ := hr
  subst hp
  exact ⟨s2, o2, XS.i2b X.here hx rfl (hb hby hd) rfl st, r⟩
theorem own_i2s (M : own_Mx Z a0 K code own mx ret rm) (X : own_Sx n0 K T h cl sl) {x : Int32} (hd : decode code pc = .ok (.i2s, 1)) (hp : pc + 1 = pc') (hr : own_Fin n0 K P T pc' L (.int (x.toInt16.toInt32) :: S)) : own_Fin n0 K P T pc L (.int x :: S) := by
  obtain ⟨p, l, e, R, s, m, args, below, meth, c⟩ := K
  obtain ⟨hx, hby, hml, hown, hret, hlk, hZ, rfl, hw⟩ := M
  obtain ⟨locs, X, hN, eT, hn, hcl, hsl⟩ := X
  obtain ⟨s2, o2, st, r⟩ := hr
  subst hp
  exact ⟨s2, o2, XS.i2s X.here hx rfl (hb hby hd) rfl st, r⟩
theorem own_i2c (M : own_Mx Z a0 K code own mx ret rm) (X : own_Sx n0 K T h cl sl) {x : Int32} (hd : decode code pc = .ok (.i2c, 1)) (hp : pc + 1 = pc') (hr : own_Fin n0 K P T pc' L (.int (x.toUInt32.toUInt16.toUInt32.toInt32) :: S)) : own_Fin n0 K P T pc L (.int x :: S) := by
  obtain ⟨p, l, e, R, s, m, args, below, meth, c⟩ := K
  obtain ⟨hx, hby, hml, hown, hret, hlk, hZ, rfl, hw⟩ := M
  obtain ⟨locs, X, hN, eT, hn, hcl, hsl⟩ := X
  obtain ⟨s2, o2, st, r⟩ := hr
  subst hp
  exact ⟨s2, o2, XS.i2c X.here hx rfl (hb hby hd) rfl st, r⟩
theorem own_iinc (M : own_Mx Z a0 K code own mx ret rm) (X : own_Sx n0 K T h cl sl) {k : Nat} {i : Int} {x v : Int32} (hd : decode code pc = .ok (.iinc k i, 3)) (hl : L[k]? = some (.val (.int x))) (hv : x + Int32.ofInt i = v) (hl' : storeLocals L k (.int v) = some L') (hp : pc + 3 = pc') (hr : own_Fin n0 K P T pc' L' (S)) : own_Fin n0 K P T pc L (S) := by
  obtain ⟨p, l, e, R, s, m, args, below, meth, c⟩ := K
  obtain ⟨hx, hby, hml, hown, hret, hlk, hZ, rfl, hw⟩ := M
  obtain ⟨locs, X, hN, eT, hn, hcl, hsl⟩ := X
  obtain ⟨s2, o2, st, r⟩ := hr
  subst hp
  subst hv
  exact ⟨s2, o2, XS.iinc X.here hx rfl (hb hby hd) hl hl' st, r⟩
theorem own_dup (M : own_Mx Z a0 K code own mx ret rm) (X : own_Sx n0 K T h cl sl) {v : Value} (hd : decode code pc = .ok (.dup, 1)) (hc : v.category = 1) (hp : pc + 1 = pc') (hr : own_Fin n0 K P T pc' L (v :: v :: S)) : own_Fin n0 K P T pc L (v :: S) := by
  obtain ⟨p, l, e, R, s, m, args, below, meth, c⟩ := K
  obtain ⟨hx, hby, hml, hown, hret, hlk, hZ, rfl, hw⟩ := M
  obtain ⟨locs, X, hN, eT, hn, hcl, hsl⟩ := X
  obtain ⟨s2, o2, st, r⟩ := hr
  subst hp
  exact ⟨s2, o2, XS.dup X.here hx rfl (hb hby hd) rfl hc st, r⟩
theorem own_pop (M : own_Mx Z a0 K code own mx ret rm) (X : own_Sx n0 K T h cl sl) {v : Value} (hd : decode code pc = .ok (.pop, 1)) (hc : v.category = 1) (hp : pc + 1 = pc') (hr : own_Fin n0 K P T pc' L (S)) : own_Fin n0 K P T pc L (v :: S) := by
  obtain ⟨p, l, e, R, s, m, args, below, meth, c⟩ := K
  obtain ⟨hx, hby, hml, hown, hret, hlk, hZ, rfl, hw⟩ := M
  obtain ⟨locs, X, hN, eT, hn, hcl, hsl⟩ := X
  obtain ⟨s2, o2, st, r⟩ := hr
  subst hp
  exact ⟨s2, o2, XS.pop X.here hx rfl (hb hby hd) rfl hc st, r⟩
theorem own_dup_x1 (M : own_Mx Z a0 K code own mx ret rm) (X : own_Sx n0 K T h cl sl) {v w : Value} (hd : decode code pc = .ok (.dup_x1, 1)) (hc : v.category = 1) (hc' : w.category = 1) (hp : pc + 1 = pc') (hr : own_Fin n0 K P T pc' L (v :: w :: v :: S)) : own_Fin n0 K P T pc L (v :: w :: S) := by
  obtain ⟨p, l, e, R, s, m, args, below, meth, c⟩ := K
  obtain ⟨hx, hby, hml, hown, hret, hlk, hZ, rfl, hw⟩ := M
  obtain ⟨locs, X, hN, eT, hn, hcl, hsl⟩ := X
  obtain ⟨s2, o2, st, r⟩ := hr
  subst hp
  exact ⟨s2, o2, XS.dupX1 X.here hx rfl (hb hby hd) rfl hc hc' st, r⟩
theorem own_dup2 (M : own_Mx Z a0 K code own mx ret rm) (X : own_Sx n0 K T h cl sl) {v w : Value} (hd : decode code pc = .ok (.dup2, 1)) (hc : v.category = 1) (hc' : w.category = 1) (hp : pc + 1 = pc') (hr : own_Fin n0 K P T pc' L (v :: w :: v :: w :: S)) : own_Fin n0 K P T pc L (v :: w :: S) := by
  obtain ⟨p, l, e, R, s, m, args, below, meth, c⟩ := K
  obtain ⟨hx, hby, hml, hown, hret, hlk, hZ, rfl, hw⟩ := M
  obtain ⟨locs, X, hN, eT, hn, hcl, hsl⟩ := X
  obtain ⟨s2, o2, st, r⟩ := hr
  subst hp
  exact ⟨s2, o2, XT.dup2 X.here hx rfl (hb hby hd) rfl hc hc' st, r⟩
theorem own_goto (M : own_Mx Z a0 K code own mx ret rm) (X : own_Sx n0 K T h cl sl) {o : Int} (hd : decode code pc = .ok (.goto o, 3)) (ho : 0 ≤ (pc : Int) + o) (hp : ((pc : Int) + o).toNat = pc') (hr : own_Fin n0 K P T pc' L S) : own_Fin n0 K P T pc L S := by
  obtain ⟨p, l, e, R, s, m, args, below, meth, c⟩ := K
  obtain ⟨hx, hby, hml, hown, hret, hlk, hZ, rfl, hw⟩ := M
  obtain ⟨locs, X, hN, eT, hn, hcl, hsl⟩ := X
  obtain ⟨s2, o2, st, r⟩ := hr
  exact ⟨s2, o2, XS.goto X.here hx rfl (pc0 := pc) rfl (hb hby hd) ho hp st, r⟩
theorem own_ldc (M : own_Mx Z a0 K code own mx ret rm) (X : own_Sx n0 K T h cl sl) {k : Nat} {v : Int32} (w : (Jvm.Cond.constant own k v).before a0 Z = true) (hd : decode code pc = .ok (.ldc k, 2)) (hp : pc + 2 = pc') (hr : own_Fin n0 K P T pc' L (.int v :: S)) : own_Fin n0 K P T pc L (S) := by
  obtain ⟨p, l, e, R, s, m, args, below, meth, c⟩ := K
  obtain ⟨hx, hby, hml, hown, hret, hlk, hZ, rfl, hw⟩ := M
  obtain ⟨locs, X, hN, eT, hn, hcl, hsl⟩ := X
  obtain ⟨s2, o2, st, r⟩ := hr
  subst hp
  exact ⟨s2, o2, X.ldcInt hx hown (mvT hZ w) (g := mkF m pc L S) rfl (hb hby hd) _ st, r⟩
theorem own_ldc_w (M : own_Mx Z a0 K code own mx ret rm) (X : own_Sx n0 K T h cl sl) {k : Nat} {v : Int32} (w : (Jvm.Cond.constant own k v).before a0 Z = true) (hd : decode code pc = .ok (.ldc_w k, 3)) (hp : pc + 3 = pc') (hr : own_Fin n0 K P T pc' L (.int v :: S)) : own_Fin n0 K P T pc L (S) := by
  obtain ⟨p, l, e, R, s, m, args, below, meth, c⟩ := K
  obtain ⟨hx, hby, hml, hown, hret, hlk, hZ, rfl, hw⟩ := M
  obtain ⟨locs, X, hN, eT, hn, hcl, hsl⟩ := X
  obtain ⟨s2, o2, st, r⟩ := hr
  subst hp
  exact ⟨s2, o2, X.ldcwInt hx hown (mvT hZ w) (g := mkF m pc L S) rfl (hb hby hd) _ st, r⟩
theorem own_ldc2_w (M : own_Mx Z a0 K code own mx ret rm) (X : own_Sx n0 K T h cl sl) {k : Nat} {v : Int64} (w : (Jvm.Cond.constantLong own k v).before a0 Z = true) (hd : decode code pc = .ok (.ldc2_w k, 3)) (hp : pc + 3 = pc') (hr : own_Fin n0 K P T pc' L (.long v :: S)) : own_Fin n0 K P T pc L (S) := by
  obtain ⟨p, l, e, R, s, m, args, below, meth, c⟩ := K
  obtain ⟨hx, hby, hml, hown, hret, hlk, hZ, rfl, hw⟩ := M
  obtain ⟨locs, X, hN, eT, hn, hcl, hsl⟩ := X
  obtain ⟨s2, o2, st, r⟩ := hr
  subst hp
  exact ⟨s2, o2, X.ldc2Long hx hown (mvT hZ w) (g := mkF m pc L S) rfl (hb hby hd) _ st, r⟩
theorem own_icmp_lt (M : own_Mx Z a0 K code own mx ret rm) (X : own_Sx n0 K T h cl sl) {x y : Int32} {o : Int} {pcY pcN : Nat} (hd : decode code pc = .ok (.if_icmp .lt o, 3)) (ho : 0 ≤ (pc : Int) + o) (hY : ((pc : Int) + o).toNat = pcY) (hpN : pc + 3 = pcN) (yes : x < y → own_Fin n0 K P T pcY L S) (no : ¬ x < y → own_Fin n0 K P T pcN L S) : own_Fin n0 K P T pc L (.int y :: .int x :: S) := by
  obtain ⟨p, l, e, R, s, m, args, below, meth, c⟩ := K
  obtain ⟨hx, hby, hml, hown, hret, hlk, hZ, rfl, hw⟩ := M
  obtain ⟨locs, X, hN, eT, hn, hcl, hsl⟩ := X
  subst hpN
  by_cases q : x < y
  · obtain ⟨s2, o2, st, r⟩ := yes q
    exact ⟨s2, o2, XS.icmpYes X.here hx rfl (pc0 := pc) rfl (hb hby hd) rfl (tlt q).1 ho hY st, r⟩
  · obtain ⟨s2, o2, st, r⟩ := no q
    exact ⟨s2, o2, XS.icmpNo X.here hx rfl (hb hby hd) rfl (flt q).1 st, r⟩
theorem own_if_lt (M : own_Mx Z a0 K code own mx ret rm) (X : own_Sx n0 K T h cl sl) {x : Int32} {o : Int} {pcY pcN : Nat} (hd : decode code pc = .ok (.ifCond .lt o, 3)) (ho : 0 ≤ (pc : Int) + o) (hY : ((pc : Int) + o).toNat = pcY) (hpN : pc + 3 = pcN) (yes : x < 0 → own_Fin n0 K P T pcY L S) (no : ¬ x < 0 → own_Fin n0 K P T pcN L S) : own_Fin n0 K P T pc L (.int x :: S) := by
  obtain ⟨p, l, e, R, s, m, args, below, meth, c⟩ := K
  obtain ⟨hx, hby, hml, hown, hret, hlk, hZ, rfl, hw⟩ := M
  obtain ⟨locs, X, hN, eT, hn, hcl, hsl⟩ := X
  subst hpN
  by_cases q : x < 0
  · obtain ⟨s2, o2, st, r⟩ := yes q
    exact ⟨s2, o2, XS.ifYes X.here hx rfl (pc0 := pc) rfl (hb hby hd) rfl ((if0 _ _).trans (tlt q).1) ho hY st, r⟩
  · obtain ⟨s2, o2, st, r⟩ := no q
    exact ⟨s2, o2, XS.ifNo X.here hx rfl (hb hby hd) rfl ((if0 _ _).trans (flt q).1) st, r⟩
theorem own_lcmp_lt (M : own_Mx Z a0 K code own mx ret rm) (X : own_Sx n0 K T h cl sl) {x y : Int64} {pc1 : Nat} {o : Int} {pcY pcN : Nat} (hdc : decode code pc = .ok (.lcmp, 1)) (h1 : pc + 1 = pc1) (hd : decode code pc1 = .ok (.ifCond .lt o, 3)) (ho : 0 ≤ (pc1 : Int) + o) (hY : ((pc1 : Int) + o).toNat = pcY) (hpN : pc1 + 3 = pcN) (yes : x < y → own_Fin n0 K P T pcY L S) (no : ¬ x < y → own_Fin n0 K P T pcN L S) : own_Fin n0 K P T pc L (.long y :: .long x :: S) := by
  obtain ⟨p, l, e, R, s, m, args, below, meth, c⟩ := K
  obtain ⟨hx, hby, hml, hown, hret, hlk, hZ, rfl, hw⟩ := M
  obtain ⟨locs, X, hN, eT, hn, hcl, hsl⟩ := X
  subst hpN h1
  by_cases q : x < y
  · obtain ⟨s2, o2, st, r⟩ := yes q
    exact ⟨s2, o2, XS.lcmp X.here hx rfl (hb hby hdc) rfl (XS.ifYes (g := mkF m (pc + 1) L (.int (lcmpW x y) :: S)) X.here hx rfl (pc0 := pc + 1) rfl (hb hby hd) rfl ((if0 _ _).trans (tlt ((lw_lt x y).mpr q)).1) ho hY st), r⟩
  · obtain ⟨s2, o2, st, r⟩ := no q
    exact ⟨s2, o2, XS.lcmp X.here hx rfl (hb hby hdc) rfl (XS.ifNo (g := mkF m (pc + 1) L (.int (lcmpW x y) :: S)) X.here hx rfl (hb hby hd) rfl ((if0 _ _).trans (flt (fun z => q ((lw_lt x y).mp z))).1) st), r⟩
theorem own_icmp_ge (M : own_Mx Z a0 K code own mx ret rm) (X : own_Sx n0 K T h cl sl) {x y : Int32} {o : Int} {pcY pcN : Nat} (hd : decode code pc = .ok (.if_icmp .ge o, 3)) (ho : 0 ≤ (pc : Int) + o) (hY : ((pc : Int) + o).toNat = pcY) (hpN : pc + 3 = pcN) (yes : ¬ x < y → own_Fin n0 K P T pcY L S) (no : x < y → own_Fin n0 K P T pcN L S) : own_Fin n0 K P T pc L (.int y :: .int x :: S) := by
  obtain ⟨p, l, e, R, s, m, args, below, meth, c⟩ := K
  obtain ⟨hx, hby, hml, hown, hret, hlk, hZ, rfl, hw⟩ := M
  obtain ⟨locs, X, hN, eT, hn, hcl, hsl⟩ := X
  subst hpN
  by_cases q : x < y
  · obtain ⟨s2, o2, st, r⟩ := no q
    exact ⟨s2, o2, XS.icmpNo X.here hx rfl (hb hby hd) rfl (tlt q).2.1 st, r⟩
  · obtain ⟨s2, o2, st, r⟩ := yes q
    exact ⟨s2, o2, XS.icmpYes X.here hx rfl (pc0 := pc) rfl (hb hby hd) rfl (flt q).2.1 ho hY st, r⟩
theorem own_if_ge (M : own_Mx Z a0 K code own mx ret rm) (X : own_Sx n0 K T h cl sl) {x : Int32} {o : Int} {pcY pcN : Nat} (hd : decode code pc = .ok (.ifCond .ge o, 3)) (ho : 0 ≤ (pc : Int) + o) (hY : ((pc : Int) + o).toNat = pcY) (hpN : pc + 3 = pcN) (yes : ¬ x < 0 → own_Fin n0 K P T pcY L S) (no : x < 0 → own_Fin n0 K P T pcN L S) : own_Fin n0 K P T pc L (.int x :: S) := by
  obtain ⟨p, l, e, R, s, m, args, below, meth, c⟩ := K
  obtain ⟨hx, hby, hml, hown, hret, hlk, hZ, rfl, hw⟩ := M
  obtain ⟨locs, X, hN, eT, hn, hcl, hsl⟩ := X
  subst hpN
  by_cases q : x < 0
  · obtain ⟨s2, o2, st, r⟩ := no q
    exact ⟨s2, o2, XS.ifNo X.here hx rfl (hb hby hd) rfl ((if0 _ _).trans (tlt q).2.1) st, r⟩
  · obtain ⟨s2, o2, st, r⟩ := yes q
    exact ⟨s2, o2, XS.ifYes X.here hx rfl (pc0 := pc) rfl (hb hby hd) rfl ((if0 _ _).trans (flt q).2.1) ho hY st, r⟩
theorem own_lcmp_ge (M : own_Mx Z a0 K code own mx ret rm) (X : own_Sx n0 K T h cl sl) {x y : Int64} {pc1 : Nat} {o : Int} {pcY pcN : Nat} (hdc : decode code pc = .ok (.lcmp, 1)) (h1 : pc + 1 = pc1) (hd : decode code pc1 = .ok (.ifCond .ge o, 3)) (ho : 0 ≤ (pc1 : Int) + o) (hY : ((pc1 : Int) + o).toNat = pcY) (hpN : pc1 + 3 = pcN) (yes : ¬ x < y → own_Fin n0 K P T pcY L S) (no : x < y → own_Fin n0 K P T pcN L S) : own_Fin n0 K P T pc L (.long y :: .long x :: S) := by
  obtain ⟨p, l, e, R, s, m, args, below, meth, c⟩ := K
  obtain ⟨hx, hby, hml, hown, hret, hlk, hZ, rfl, hw⟩ := M
  obtain ⟨locs, X, hN, eT, hn, hcl, hsl⟩ := X
  subst hpN h1
  by_cases q : x < y
  · obtain ⟨s2, o2, st, r⟩ := no q
    exact ⟨s2, o2, XS.lcmp X.here hx rfl (hb hby hdc) rfl (XS.ifNo (g := mkF m (pc + 1) L (.int (lcmpW x y) :: S)) X.here hx rfl (hb hby hd) rfl ((if0 _ _).trans (tlt ((lw_lt x y).mpr q)).2.1) st), r⟩
  · obtain ⟨s2, o2, st, r⟩ := yes q
    exact ⟨s2, o2, XS.lcmp X.here hx rfl (hb hby hdc) rfl (XS.ifYes (g := mkF m (pc + 1) L (.int (lcmpW x y) :: S)) X.here hx rfl (pc0 := pc + 1) rfl (hb hby hd) rfl ((if0 _ _).trans (flt (fun z => q ((lw_lt x y).mp z))).2.1) ho hY st), r⟩
theorem own_icmp_gt (M : own_Mx Z a0 K code own mx ret rm) (X : own_Sx n0 K T h cl sl) {x y : Int32} {o : Int} {pcY pcN : Nat} (hd : decode code pc = .ok (.if_icmp .gt o, 3)) (ho : 0 ≤ (pc : Int) + o) (hY : ((pc : Int) + o).toNat = pcY) (hpN : pc + 3 = pcN) (yes : y < x → own_Fin n0 K P T pcY L S) (no : ¬ y < x → own_Fin n0 K P T pcN L S) : own_Fin n0 K P T pc L (.int y :: .int x :: S) := by
  obtain ⟨p, l, e, R, s, m, args, below, meth, c⟩ := K
  obtain ⟨hx, hby, hml, hown, hret, hlk, hZ, rfl, hw⟩ := M
  obtain ⟨locs, X, hN, eT, hn, hcl, hsl⟩ := X
  subst hpN
  by_cases q : y < x
  · obtain ⟨s2, o2, st, r⟩ := yes q
    exact ⟨s2, o2, XS.icmpYes X.here hx rfl (pc0 := pc) rfl (hb hby hd) rfl (tlt q).2.2.1 ho hY st, r⟩
  · obtain ⟨s2, o2, st, r⟩ := no q
    exact ⟨s2, o2, XS.icmpNo X.here hx rfl (hb hby hd) rfl (flt q).2.2.1 st, r⟩
theorem own_if_gt (M : own_Mx Z a0 K code own mx ret rm) (X : own_Sx n0 K T h cl sl) {x : Int32} {o : Int} {pcY pcN : Nat} (hd : decode code pc = .ok (.ifCond .gt o, 3)) (ho : 0 ≤ (pc : Int) + o) (hY : ((pc : Int) + o).toNat = pcY) (hpN : pc + 3 = pcN) (yes : 0 < x → own_Fin n0 K P T pcY L S) (no : ¬ 0 < x → own_Fin n0 K P T pcN L S) : own_Fin n0 K P T pc L (.int x :: S) := by
  obtain ⟨p, l, e, R, s, m, args, below, meth, c⟩ := K
  obtain ⟨hx, hby, hml, hown, hret, hlk, hZ, rfl, hw⟩ := M
  obtain ⟨locs, X, hN, eT, hn, hcl, hsl⟩ := X
  subst hpN
  by_cases q : 0 < x
  · obtain ⟨s2, o2, st, r⟩ := yes q
    exact ⟨s2, o2, XS.ifYes X.here hx rfl (pc0 := pc) rfl (hb hby hd) rfl ((if0 _ _).trans (tlt q).2.2.1) ho hY st, r⟩
  · obtain ⟨s2, o2, st, r⟩ := no q
    exact ⟨s2, o2, XS.ifNo X.here hx rfl (hb hby hd) rfl ((if0 _ _).trans (flt q).2.2.1) st, r⟩
theorem own_lcmp_gt (M : own_Mx Z a0 K code own mx ret rm) (X : own_Sx n0 K T h cl sl) {x y : Int64} {pc1 : Nat} {o : Int} {pcY pcN : Nat} (hdc : decode code pc = .ok (.lcmp, 1)) (h1 : pc + 1 = pc1) (hd : decode code pc1 = .ok (.ifCond .gt o, 3)) (ho : 0 ≤ (pc1 : Int) + o) (hY : ((pc1 : Int) + o).toNat = pcY) (hpN : pc1 + 3 = pcN) (yes : y < x → own_Fin n0 K P T pcY L S) (no : ¬ y < x → own_Fin n0 K P T pcN L S) : own_Fin n0 K P T pc L (.long y :: .long x :: S) := by
  obtain ⟨p, l, e, R, s, m, args, below, meth, c⟩ := K
  obtain ⟨hx, hby, hml, hown, hret, hlk, hZ, rfl, hw⟩ := M
  obtain ⟨locs, X, hN, eT, hn, hcl, hsl⟩ := X
  subst hpN h1
  by_cases q : y < x
  · obtain ⟨s2, o2, st, r⟩ := yes q
    exact ⟨s2, o2, XS.lcmp X.here hx rfl (hb hby hdc) rfl (XS.ifYes (g := mkF m (pc + 1) L (.int (lcmpW x y) :: S)) X.here hx rfl (pc0 := pc + 1) rfl (hb hby hd) rfl ((if0 _ _).trans (tlt ((lw_gt x y).mpr q)).2.2.1) ho hY st), r⟩
  · obtain ⟨s2, o2, st, r⟩ := no q
    exact ⟨s2, o2, XS.lcmp X.here hx rfl (hb hby hdc) rfl (XS.ifNo (g := mkF m (pc + 1) L (.int (lcmpW x y) :: S)) X.here hx rfl (hb hby hd) rfl ((if0 _ _).trans (flt (fun z => q ((lw_gt x y).mp z))).2.2.1) st), r⟩
theorem own_icmp_le (M : own_Mx Z a0 K code own mx ret rm) (X : own_Sx n0 K T h cl sl) {x y : Int32} {o : Int} {pcY pcN : Nat} (hd : decode code pc = .ok (.if_icmp .le o, 3)) (ho : 0 ≤ (pc : Int) + o) (hY : ((pc : Int) + o).toNat = pcY) (hpN : pc + 3 = pcN) (yes : ¬ y < x → own_Fin n0 K P T pcY L S) (no : y < x → own_Fin n0 K P T pcN L S) : own_Fin n0 K P T pc L (.int y :: .int x :: S) := by
  obtain ⟨p, l, e, R, s, m, args, below, meth, c⟩ := K
  obtain ⟨hx, hby, hml, hown, hret, hlk, hZ, rfl, hw⟩ := M
  obtain ⟨locs, X, hN, eT, hn, hcl, hsl⟩ := X
  subst hpN
  by_cases q : y < x
  · obtain ⟨s2, o2, st, r⟩ := no q
    exact ⟨s2, o2, XS.icmpNo X.here hx rfl (hb hby hd) rfl (tlt q).2.2.2 st, r⟩
  · obtain ⟨s2, o2, st, r⟩ := yes q
    exact ⟨s2, o2, XS.icmpYes X.here hx rfl (pc0 := pc) rfl (hb hby hd) rfl (flt q).2.2.2 ho hY st, r⟩
theorem own_if_le (M : own_Mx Z a0 K code own mx ret rm) (X : own_Sx n0 K T h cl sl) {x : Int32} {o : Int} {pcY pcN : Nat} (hd : decode code pc = .ok (.ifCond .le o, 3)) (ho : 0 ≤ (pc : Int) + o) (hY : ((pc : Int) + o).toNat = pcY) (hpN : pc + 3 = pcN) (yes : ¬ 0 < x → own_Fin n0 K P T pcY L S) (no : 0 < x → own_Fin n0 K P T pcN L S) : own_Fin n0 K P T pc L (.int x :: S) := by
  obtain ⟨p, l, e, R, s, m, args, below, meth, c⟩ := K
  obtain ⟨hx, hby, hml, hown, hret, hlk, hZ, rfl, hw⟩ := M
  obtain ⟨locs, X, hN, eT, hn, hcl, hsl⟩ := X
  subst hpN
  by_cases q : 0 < x
  · obtain ⟨s2, o2, st, r⟩ := no q
    exact ⟨s2, o2, XS.ifNo X.here hx rfl (hb hby hd) rfl ((if0 _ _).trans (tlt q).2.2.2) st, r⟩
  · obtain ⟨s2, o2, st, r⟩ := yes q
    exact ⟨s2, o2, XS.ifYes X.here hx rfl (pc0 := pc) rfl (hb hby hd) rfl ((if0 _ _).trans (flt q).2.2.2) ho hY st, r⟩
theorem own_lcmp_le (M : own_Mx Z a0 K code own mx ret rm) (X : own_Sx n0 K T h cl sl) {x y : Int64} {pc1 : Nat} {o : Int} {pcY pcN : Nat} (hdc : decode code pc = .ok (.lcmp, 1)) (h1 : pc + 1 = pc1) (hd : decode code pc1 = .ok (.ifCond .le o, 3)) (ho : 0 ≤ (pc1 : Int) + o) (hY : ((pc1 : Int) + o).toNat = pcY) (hpN : pc1 + 3 = pcN) (yes : ¬ y < x → own_Fin n0 K P T pcY L S) (no : y < x → own_Fin n0 K P T pcN L S) : own_Fin n0 K P T pc L (.long y :: .long x :: S) := by
  obtain ⟨p, l, e, R, s, m, args, below, meth, c⟩ := K
  obtain ⟨hx, hby, hml, hown, hret, hlk, hZ, rfl, hw⟩ := M
  obtain ⟨locs, X, hN, eT, hn, hcl, hsl⟩ := X
  subst hpN h1
  by_cases q : y < x
  · obtain ⟨s2, o2, st, r⟩ := no q
    exact ⟨s2, o2, XS.lcmp X.here hx rfl (hb hby hdc) rfl (XS.ifNo (g := mkF m (pc + 1) L (.int (lcmpW x y) :: S)) X.here hx rfl (hb hby hd) rfl ((if0 _ _).trans (tlt ((lw_gt x y).mpr q)).2.2.2) st), r⟩
  · obtain ⟨s2, o2, st, r⟩ := yes q
    exact ⟨s2, o2, XS.lcmp X.here hx rfl (hb hby hdc) rfl (XS.ifYes (g := mkF m (pc + 1) L (.int (lcmpW x y) :: S)) X.here hx rfl (pc0 := pc + 1) rfl (hb hby hd) rfl ((if0 _ _).trans (flt (fun z => q ((lw_gt x y).mp z))).2.2.2) ho hY st), r⟩
theorem own_icmp_eq (M : own_Mx Z a0 K code own mx ret rm) (X : own_Sx n0 K T h cl sl) {x y : Int32} {o : Int} {pcY pcN : Nat} (hd : decode code pc = .ok (.if_icmp .eq o, 3)) (ho : 0 ≤ (pc : Int) + o) (hY : ((pc : Int) + o).toNat = pcY) (hpN : pc + 3 = pcN) (yes : x = y → own_Fin n0 K P T pcY L S) (no : ¬ x = y → own_Fin n0 K P T pcN L S) : own_Fin n0 K P T pc L (.int y :: .int x :: S) := by
  obtain ⟨p, l, e, R, s, m, args, below, meth, c⟩ := K
  obtain ⟨hx, hby, hml, hown, hret, hlk, hZ, rfl, hw⟩ := M
  obtain ⟨locs, X, hN, eT, hn, hcl, hsl⟩ := X
  subst hpN
  by_cases q : x = y
  · obtain ⟨s2, o2, st, r⟩ := yes q
    exact ⟨s2, o2, XS.icmpYes X.here hx rfl (pc0 := pc) rfl (hb hby hd) rfl (teq q).1 ho hY st, r⟩
  · obtain ⟨s2, o2, st, r⟩ := no q
    exact ⟨s2, o2, XS.icmpNo X.here hx rfl (hb hby hd) rfl (feq q).1 st, r⟩
theorem own_if_eq (M : own_Mx Z a0 K code own mx ret rm) (X : own_Sx n0 K T h cl sl) {x : Int32} {o : Int} {pcY pcN : Nat} (hd : decode code pc = .ok (.ifCond .eq o, 3)) (ho : 0 ≤ (pc : Int) + o) (hY : ((pc : Int) + o).toNat = pcY) (hpN : pc + 3 = pcN) (yes : x = 0 → own_Fin n0 K P T pcY L S) (no : ¬ x = 0 → own_Fin n0 K P T pcN L S) : own_Fin n0 K P T pc L (.int x :: S) := by
  obtain ⟨p, l, e, R, s, m, args, below, meth, c⟩ := K
  obtain ⟨hx, hby, hml, hown, hret, hlk, hZ, rfl, hw⟩ := M
  obtain ⟨locs, X, hN, eT, hn, hcl, hsl⟩ := X
  subst hpN
  by_cases q : x = 0
  · obtain ⟨s2, o2, st, r⟩ := yes q
    exact ⟨s2, o2, XS.ifYes X.here hx rfl (pc0 := pc) rfl (hb hby hd) rfl ((if0 _ _).trans (teq q).1) ho hY st, r⟩
  · obtain ⟨s2, o2, st, r⟩ := no q
    exact ⟨s2, o2, XS.ifNo X.here hx rfl (hb hby hd) rfl ((if0 _ _).trans (feq q).1) st, r⟩
theorem own_lcmp_eq (M : own_Mx Z a0 K code own mx ret rm) (X : own_Sx n0 K T h cl sl) {x y : Int64} {pc1 : Nat} {o : Int} {pcY pcN : Nat} (hdc : decode code pc = .ok (.lcmp, 1)) (h1 : pc + 1 = pc1) (hd : decode code pc1 = .ok (.ifCond .eq o, 3)) (ho : 0 ≤ (pc1 : Int) + o) (hY : ((pc1 : Int) + o).toNat = pcY) (hpN : pc1 + 3 = pcN) (yes : x = y → own_Fin n0 K P T pcY L S) (no : ¬ x = y → own_Fin n0 K P T pcN L S) : own_Fin n0 K P T pc L (.long y :: .long x :: S) := by
  obtain ⟨p, l, e, R, s, m, args, below, meth, c⟩ := K
  obtain ⟨hx, hby, hml, hown, hret, hlk, hZ, rfl, hw⟩ := M
  obtain ⟨locs, X, hN, eT, hn, hcl, hsl⟩ := X
  subst hpN h1
  by_cases q : x = y
  · obtain ⟨s2, o2, st, r⟩ := yes q
    exact ⟨s2, o2, XS.lcmp X.here hx rfl (hb hby hdc) rfl (XS.ifYes (g := mkF m (pc + 1) L (.int (lcmpW x y) :: S)) X.here hx rfl (pc0 := pc + 1) rfl (hb hby hd) rfl ((if0 _ _).trans (teq ((lw_eq x y).mpr q)).1) ho hY st), r⟩
  · obtain ⟨s2, o2, st, r⟩ := no q
    exact ⟨s2, o2, XS.lcmp X.here hx rfl (hb hby hdc) rfl (XS.ifNo (g := mkF m (pc + 1) L (.int (lcmpW x y) :: S)) X.here hx rfl (hb hby hd) rfl ((if0 _ _).trans (feq (fun z => q ((lw_eq x y).mp z))).1) st), r⟩
theorem own_icmp_ne (M : own_Mx Z a0 K code own mx ret rm) (X : own_Sx n0 K T h cl sl) {x y : Int32} {o : Int} {pcY pcN : Nat} (hd : decode code pc = .ok (.if_icmp .ne o, 3)) (ho : 0 ≤ (pc : Int) + o) (hY : ((pc : Int) + o).toNat = pcY) (hpN : pc + 3 = pcN) (yes : ¬ x = y → own_Fin n0 K P T pcY L S) (no : x = y → own_Fin n0 K P T pcN L S) : own_Fin n0 K P T pc L (.int y :: .int x :: S) := by
  obtain ⟨p, l, e, R, s, m, args, below, meth, c⟩ := K
  obtain ⟨hx, hby, hml, hown, hret, hlk, hZ, rfl, hw⟩ := M
  obtain ⟨locs, X, hN, eT, hn, hcl, hsl⟩ := X
  subst hpN
  by_cases q : x = y
  · obtain ⟨s2, o2, st, r⟩ := no q
    exact ⟨s2, o2, XS.icmpNo X.here hx rfl (hb hby hd) rfl (teq q).2 st, r⟩
  · obtain ⟨s2, o2, st, r⟩ := yes q
    exact ⟨s2, o2, XS.icmpYes X.here hx rfl (pc0 := pc) rfl (hb hby hd) rfl (feq q).2 ho hY st, r⟩
theorem own_if_ne (M : own_Mx Z a0 K code own mx ret rm) (X : own_Sx n0 K T h cl sl) {x : Int32} {o : Int} {pcY pcN : Nat} (hd : decode code pc = .ok (.ifCond .ne o, 3)) (ho : 0 ≤ (pc : Int) + o) (hY : ((pc : Int) + o).toNat = pcY) (hpN : pc + 3 = pcN) (yes : ¬ x = 0 → own_Fin n0 K P T pcY L S) (no : x = 0 → own_Fin n0 K P T pcN L S) : own_Fin n0 K P T pc L (.int x :: S) := by
  obtain ⟨p, l, e, R, s, m, args, below, meth, c⟩ := K
  obtain ⟨hx, hby, hml, hown, hret, hlk, hZ, rfl, hw⟩ := M
  obtain ⟨locs, X, hN, eT, hn, hcl, hsl⟩ := X
  subst hpN
  by_cases q : x = 0
  · obtain ⟨s2, o2, st, r⟩ := no q
    exact ⟨s2, o2, XS.ifNo X.here hx rfl (hb hby hd) rfl ((if0 _ _).trans (teq q).2) st, r⟩
  · obtain ⟨s2, o2, st, r⟩ := yes q
    exact ⟨s2, o2, XS.ifYes X.here hx rfl (pc0 := pc) rfl (hb hby hd) rfl ((if0 _ _).trans (feq q).2) ho hY st, r⟩
theorem own_lcmp_ne (M : own_Mx Z a0 K code own mx ret rm) (X : own_Sx n0 K T h cl sl) {x y : Int64} {pc1 : Nat} {o : Int} {pcY pcN : Nat} (hdc : decode code pc = .ok (.lcmp, 1)) (h1 : pc + 1 = pc1) (hd : decode code pc1 = .ok (.ifCond .ne o, 3)) (ho : 0 ≤ (pc1 : Int) + o) (hY : ((pc1 : Int) + o).toNat = pcY) (hpN : pc1 + 3 = pcN) (yes : ¬ x = y → own_Fin n0 K P T pcY L S) (no : x = y → own_Fin n0 K P T pcN L S) : own_Fin n0 K P T pc L (.long y :: .long x :: S) := by
  obtain ⟨p, l, e, R, s, m, args, below, meth, c⟩ := K
  obtain ⟨hx, hby, hml, hown, hret, hlk, hZ, rfl, hw⟩ := M
  obtain ⟨locs, X, hN, eT, hn, hcl, hsl⟩ := X
  subst hpN h1
  by_cases q : x = y
  · obtain ⟨s2, o2, st, r⟩ := no q
    exact ⟨s2, o2, XS.lcmp X.here hx rfl (hb hby hdc) rfl (XS.ifNo (g := mkF m (pc + 1) L (.int (lcmpW x y) :: S)) X.here hx rfl (hb hby hd) rfl ((if0 _ _).trans (teq ((lw_eq x y).mpr q)).2) st), r⟩
  · obtain ⟨s2, o2, st, r⟩ := yes q
    exact ⟨s2, o2, XS.lcmp X.here hx rfl (hb hby hdc) rfl (XS.ifYes (g := mkF m (pc + 1) L (.int (lcmpW x y) :: S)) X.here hx rfl (pc0 := pc + 1) rfl (hb hby hd) rfl ((if0 _ _).trans (feq (fun z => q ((lw_eq x y).mp z))).2) ho hY st), r⟩
theorem own_callS (M : own_Mx Z a0 K code own mx ret rm) (X : own_Sx n0 K T h cl sl) {y : MethodName} {ycode : ByteArray} {ymx : Nat} {yret : Option FieldType} {yrm : Room} {idx : Nat} {Q : Option Value → Heap → Prop} {ps : List FieldType} {yr : Option FieldType} (argsL : List Value)
    (w1 : (Jvm.Cond.methodLink own idx y).before a0 Z = true) (w2 : (Jvm.Cond.static y).before a0 Z = true) (w3 : (Jvm.Cond.initialized y.cls).before a0 Z = true) (w4 : (Jvm.Cond.code y ycode ymx yret).before a0 Z = true) (hy : y.cls ≠ "java/lang/invoke/MethodHandle" ∧ y.cls ≠ "java/lang/invoke/VarHandle")
    (hM : own_Met K.2.1 Z n0 y ycode ymx yret yrm argsL.toArray h Q) (hL : L.size = mx) (hd : decode code pc = .ok (.invokestatic idx, 3)) (hp : pc + 3 = pc') (hpd : parseMethodDescriptor y.desc = some ⟨ps, yr⟩) (hlen : argsL.length = ps.length) (hS : S = argsL.reverse ++ rest)
    (W : Nat) (hW : (rest.map fun v => v.category).sum ≤ W) (hf : yrm.frames + 1 ≤ rm.frames) (hl : W + (ymx + 11) + yrm.locals ≤ rm.locals) (hc : cl + yrm.cells ≤ rm.cells) (hs : sl + yrm.slots ≤ rm.slots)
    (hr : ∀ T' h' v, own_Sx n0 K T' h' (cl + yrm.cells) (sl + yrm.slots) → Q v h' → own_Fin n0 K P T' pc' L (v.toList ++ rest)) : own_Fin n0 K P T pc L S := by
  obtain ⟨p, l, e, R, s, m, args, below, meth, c⟩ := K
  obtain ⟨hx, hby, hml, hown, hret, hlk, hZ, rfl, hw⟩ := M
  obtain ⟨locs, X, hN, eT, hn, hcl, hsl⟩ := X
  obtain ⟨v, vm1, ⟨T1, L1, k1, n1⟩, -, X1, ⟨Lc, hQ, l1, y1, z1⟩, st⟩ := Jvm.LawKit.callS X hx (y := y) hown (mvT hZ w1) (mvT hZ w2) (mvT hZ w3) (mvT hZ w4) hy (backOf (W := W) (Q := fun v h L => Q v h ∧ Fr n0 L) (hM []) hZ w4 w3 hf hl) (g := mkF m pc L S) rfl (by rw [hml]; exact hL) (argsL := argsL) (rest := rest) (lenOf hpd hlen) hS (by show 2 * 0 + _ ≤ W; omega) (hb hby hd) (fun _ _ => ⟨rfl, eT, hc, hs⟩)
  dsimp only [Pt.U, Pt.locs, Pt.cells, Pt.slots] at X1 l1 y1 z1 st hQ
  subst l1 y1 z1 hp
  obtain ⟨s2, o2, st2, r⟩ := hr T1 _ v ⟨_, X1, Fr.app hN hQ.2, rfl, hn, hc, hs⟩ hQ.1
  exact ⟨s2, o2, st _ st2, r⟩
theorem own_callP (M : own_Mx Z a0 K code own mx ret rm) (X : own_Sx n0 K T h cl sl) {y : MethodName} {ycode : ByteArray} {ymx : Nat} {yret : Option FieldType} {yrm : Room} {idx : Nat} {ps : List FieldType} {yr : Option FieldType} {w : Value} (argsL : List Value)
    (w1 : (Jvm.Cond.methodLink own idx y).before a0 Z = true) (w2 : (Jvm.Cond.static y).before a0 Z = true) (w3 : (Jvm.Cond.initialized y.cls).before a0 Z = true) (w4 : (Jvm.Cond.code y ycode ymx yret).before a0 Z = true) (hy : y.cls ≠ "java/lang/invoke/MethodHandle" ∧ y.cls ≠ "java/lang/invoke/VarHandle")
    (hM : own_Met K.2.1 Z n0 y ycode ymx yret yrm argsL.toArray h (fun v h' => v = some w ∧ h' = h)) (hL : L.size = mx) (hd : decode code pc = .ok (.invokestatic idx, 3)) (hp : pc + 3 = pc') (hpd : parseMethodDescriptor y.desc = some ⟨ps, yr⟩) (hlen : argsL.length = ps.length) (hS : S = argsL.reverse ++ rest)
    (W : Nat) (hW : (rest.map fun v => v.category).sum ≤ W) (hf : yrm.frames + 1 ≤ rm.frames) (hl : W + (ymx + 11) + yrm.locals ≤ rm.locals) (hc0 : yrm.cells = 0) (hs0 : yrm.slots = 0)
    (hr : ∀ T', own_Sx n0 K T' h cl sl → own_Fin n0 K P T' pc' L (w :: rest)) : own_Fin n0 K P T pc L S := by
  have hcs : cl ≤ rm.cells ∧ sl ≤ rm.slots := by
    obtain ⟨p, l, e, R, s, m, args, below, meth, c⟩ := K
    obtain ⟨hx, hby, hml, hown, hret, hlk, hZ, rfl, hw⟩ := M
    obtain ⟨locs, X, hN, eT, hn, hcl, hsl⟩ := X
    exact ⟨hcl, hsl⟩
  refine own_callS M X argsL w1 w2 w3 w4 hy hM hL hd hp hpd hlen hS W hW hf hl (by rw [hc0]; exact hcs.1) (by rw [hs0]; exact hcs.2) ?_
  rintro T' h' v X' ⟨rfl, rfl⟩
  rw [hc0, hs0] at X'
  exact hr T' X'
theorem own_callP0 (M : own_Mx Z a0 K code own mx ret rm) (X : own_Sx n0 K T h cl sl) {y : MethodName} {ycode : ByteArray} {ymx : Nat} {yret : Option FieldType} {yrm : Room} {idx : Nat} {ps : List FieldType} {yr : Option FieldType} (argsL : List Value)
    (w1 : (Jvm.Cond.methodLink own idx y).before a0 Z = true) (w2 : (Jvm.Cond.static y).before a0 Z = true) (w3 : (Jvm.Cond.initialized y.cls).before a0 Z = true) (w4 : (Jvm.Cond.code y ycode ymx yret).before a0 Z = true) (hy : y.cls ≠ "java/lang/invoke/MethodHandle" ∧ y.cls ≠ "java/lang/invoke/VarHandle")
    (hM : own_Met K.2.1 Z n0 y ycode ymx yret yrm argsL.toArray h (fun v h' => v = none ∧ h' = h)) (hL : L.size = mx) (hd : decode code pc = .ok (.invokestatic idx, 3)) (hp : pc + 3 = pc') (hpd : parseMethodDescriptor y.desc = some ⟨ps, yr⟩) (hlen : argsL.length = ps.length) (hS : S = argsL.reverse ++ rest)
    (W : Nat) (hW : (rest.map fun v => v.category).sum ≤ W) (hf : yrm.frames + 1 ≤ rm.frames) (hl : W + (ymx + 11) + yrm.locals ≤ rm.locals) (hc0 : yrm.cells = 0) (hs0 : yrm.slots = 0)
    (hr : ∀ T', own_Sx n0 K T' h cl sl → own_Fin n0 K P T' pc' L (rest)) : own_Fin n0 K P T pc L S := by
  have hcs : cl ≤ rm.cells ∧ sl ≤ rm.slots := by
    obtain ⟨p, l, e, R, s, m, args, below, meth, c⟩ := K
    obtain ⟨hx, hby, hml, hown, hret, hlk, hZ, rfl, hw⟩ := M
    obtain ⟨locs, X, hN, eT, hn, hcl, hsl⟩ := X
    exact ⟨hcl, hsl⟩
  refine own_callS M X argsL w1 w2 w3 w4 hy hM hL hd hp hpd hlen hS W hW hf hl (by rw [hc0]; exact hcs.1) (by rw [hs0]; exact hcs.2) ?_
  rintro T' h' v X' ⟨rfl, rfl⟩
  rw [hc0, hs0] at X'
  exact hr T' X'
end OwnLayer
theorem own_pd0 : parseMethodDescriptor "(II)J" = some ⟨[.int, .int], some .long⟩ := by decide +kernel
theorem own_pd1 : parseMethodDescriptor "(JI)J" = some ⟨[.long, .int], some .long⟩ := by decide +kernel
theorem own_pd2 : parseMethodDescriptor "()J" = some ⟨[], some .long⟩ := by decide +kernel
theorem own_pd3 : parseMethodDescriptor "(JJ)J" = some ⟨[.long, .long], some .long⟩ := by decide +kernel
theorem d1_0 : decode method_2_code 0 = .ok (.iload_n 0, 1) := by decide +kernel
theorem d1_1 : decode method_2_code 1 = .ok (.iload_n 1, 1) := by decide +kernel
theorem d1_2 : decode method_2_code 2 = .ok (.iushr, 1) := by decide +kernel
theorem d1_3 : decode method_2_code 3 = .ok (.iconst 1, 1) := by decide +kernel
theorem d1_4 : decode method_2_code 4 = .ok (.iand, 1) := by decide +kernel
theorem d1_5 : decode method_2_code 5 = .ok (.ifCond .eq 7, 3) := by decide +kernel
theorem d1_8 : decode method_2_code 8 = .ok (.lconst 0, 1) := by decide +kernel
theorem d1_9 : decode method_2_code 9 = .ok (.goto 11, 3) := by decide +kernel
theorem d1_12 : decode method_2_code 12 = .ok (.ldc2_w 7, 3) := by decide +kernel
theorem d1_15 : decode method_2_code 15 = .ok (.bipush 8, 2) := by decide +kernel
theorem d1_17 : decode method_2_code 17 = .ok (.iload_n 1, 1) := by decide +kernel
theorem d1_18 : decode method_2_code 18 = .ok (.imul, 1) := by decide +kernel
theorem d1_19 : decode method_2_code 19 = .ok (.lshl, 1) := by decide +kernel
theorem d1_20 : decode method_2_code 20 = .ok (.lreturn, 1) := by decide +kernel
def F1 (x0 : Int32) (x1 : Int32) : Int64 := (if (((x0.toUInt32 >>> (x1 &&& 31).toUInt32).toInt32) &&& (1 : Int32)) = (0 : Int32) then ((255 : Int64) <<< (((8 : Int32) * x1) &&& 0x3f).toInt64) else (0 : Int64))
theorem own_pn1 : plainName "com/example/sourcebill/sourcebill/scan/WordsZeroBytesPinLaw" = true := by first | (simp [plainName, overriddenIn]; done) | decide +kernel
set_option maxRecDepth 65536 in
set_option maxHeartbeats 40000000 in
theorem met_1 (l : Launch) (Z : State) (a0 : Array Value) (hw : ∀ d ∈ tables_1, d.before a0 Z = true) (h0 : Heap) (n0 : Nat) (hn : n0 ≤ h0.size) (x0 : Int32) (x1 : Int32) : own_Met l Z n0 (⟨"com/example/sourcebill/sourcebill/scan/WordsZeroBytesPinLaw", "keep", "(II)J"⟩ : MethodName) method_2_code 2 (some .long) ({ frames := 0, cells := 0, slots := 0, locals := 0 } : Room) #[(.int x0), (.int x1)] h0 (fun v h => v = some (.long (F1 x0 x1)) ∧ h = h0) := by
  refine own_enter (L := #[.val (.int x0), .val (.int x1)]) (plainFor_of_name own_pn1) hw hn (fun m => by first | (simp [entryFrame, mkF, argsToLocals, Value.category]; done) | rfl) (fun K T hK M X => ?_)
  refine own_iloadN M X d1_0 rfl rfl ?_
  refine own_iloadN M X d1_1 rfl rfl ?_
  refine own_iushr M X d1_2 rfl ?_
  refine own_iconst M X (v := (1 : Int32)) d1_3 rfl rfl ?_
  refine own_iand M X d1_4 rfl ?_
  refine own_if_eq M X d1_5 (by decide) rfl rfl (fun q1 => ?_) (fun q1 => ?_)
  · skip
    refine own_ldc2_w M X (hw _ (List.mem_of_getElem? (i := 4) rfl)) d1_12 rfl ?_
    refine own_bipush M X (v := (8 : Int32)) d1_15 rfl rfl ?_
    refine own_iloadN M X d1_17 rfl rfl ?_
    refine own_imul M X d1_18 rfl ?_
    refine own_lshl M X d1_19 rfl ?_
    exact own_retJ M X d1_20 ⟨by rw [F1, if_pos q1], rfl⟩
  · skip
    refine own_lconst M X (v := (0 : Int64)) d1_8 rfl rfl ?_
    refine own_goto M X d1_9 (by decide) rfl ?_
    exact own_retJ M X d1_20 ⟨by rw [F1, if_neg q1], rfl⟩
theorem d2_0 : decode method_3_code 0 = .ok (.lload_n 0, 1) := by decide +kernel
theorem d2_1 : decode method_3_code 1 = .ok (.bipush 8, 2) := by decide +kernel
theorem d2_3 : decode method_3_code 3 = .ok (.iload_n 2, 1) := by decide +kernel
theorem d2_4 : decode method_3_code 4 = .ok (.imul, 1) := by decide +kernel
theorem d2_5 : decode method_3_code 5 = .ok (.lushr, 1) := by decide +kernel
theorem d2_6 : decode method_3_code 6 = .ok (.ldc2_w 7, 3) := by decide +kernel
theorem d2_9 : decode method_3_code 9 = .ok (.land, 1) := by decide +kernel
theorem d2_10 : decode method_3_code 10 = .ok (.lconst 0, 1) := by decide +kernel
theorem d2_11 : decode method_3_code 11 = .ok (.lcmp, 1) := by decide +kernel
theorem d2_12 : decode method_3_code 12 = .ok (.ifCond .ne 14, 3) := by decide +kernel
theorem d2_15 : decode method_3_code 15 = .ok (.ldc2_w 9, 3) := by decide +kernel
theorem d2_18 : decode method_3_code 18 = .ok (.bipush 8, 2) := by decide +kernel
theorem d2_20 : decode method_3_code 20 = .ok (.iload_n 2, 1) := by decide +kernel
theorem d2_21 : decode method_3_code 21 = .ok (.imul, 1) := by decide +kernel
theorem d2_22 : decode method_3_code 22 = .ok (.lshl, 1) := by decide +kernel
theorem d2_23 : decode method_3_code 23 = .ok (.goto 4, 3) := by decide +kernel
theorem d2_26 : decode method_3_code 26 = .ok (.lconst 0, 1) := by decide +kernel
theorem d2_27 : decode method_3_code 27 = .ok (.lreturn, 1) := by decide +kernel
def F2 (x0 : Int64) (x1 : Int32) : Int64 := (if (((x0.toUInt64 >>> (((8 : Int32) * x1) &&& 0x3f).toInt64.toUInt64).toInt64) &&& (255 : Int64)) = (0 : Int64) then ((128 : Int64) <<< (((8 : Int32) * x1) &&& 0x3f).toInt64) else (0 : Int64))
theorem own_pn2 : plainName "com/example/sourcebill/sourcebill/scan/WordsZeroBytesPinLaw" = true := by first | (simp [plainName, overriddenIn]; done) | decide +kernel
set_option maxRecDepth 65536 in
set_option maxHeartbeats 40000000 in
theorem met_2 (l : Launch) (Z : State) (a0 : Array Value) (hw : ∀ d ∈ tables_1, d.before a0 Z = true) (h0 : Heap) (n0 : Nat) (hn : n0 ≤ h0.size) (x0 : Int64) (x1 : Int32) : own_Met l Z n0 (⟨"com/example/sourcebill/sourcebill/scan/WordsZeroBytesPinLaw", "mark", "(JI)J"⟩ : MethodName) method_3_code 3 (some .long) ({ frames := 0, cells := 0, slots := 0, locals := 0 } : Room) #[(.long x0), (.int x1)] h0 (fun v h => v = some (.long (F2 x0 x1)) ∧ h = h0) := by
  refine own_enter (L := #[.val (.long x0), .second, .val (.int x1)]) (plainFor_of_name own_pn2) hw hn (fun m => by first | (simp [entryFrame, mkF, argsToLocals, Value.category]; done) | rfl) (fun K T hK M X => ?_)
  refine own_lloadN M X d2_0 rfl rfl ?_
  refine own_bipush M X (v := (8 : Int32)) d2_1 rfl rfl ?_
  refine own_iloadN M X d2_3 rfl rfl ?_
  refine own_imul M X d2_4 rfl ?_
  refine own_lushr M X d2_5 rfl ?_
  refine own_ldc2_w M X (hw _ (List.mem_of_getElem? (i := 4) rfl)) d2_6 rfl ?_
  refine own_land M X d2_9 rfl ?_
  refine own_lconst M X (v := (0 : Int64)) d2_10 rfl rfl ?_
  refine own_lcmp_ne M X d2_11 rfl d2_12 (by decide) rfl rfl (fun q1 => ?_) (fun q1 => ?_)
  · skip
    refine own_lconst M X (v := (0 : Int64)) d2_26 rfl rfl ?_
    exact own_retJ M X d2_27 ⟨by rw [F2, if_neg q1], rfl⟩
  · skip
    refine own_ldc2_w M X (hw _ (List.mem_of_getElem? (i := 8) rfl)) d2_15 rfl ?_
    refine own_bipush M X (v := (8 : Int32)) d2_18 rfl rfl ?_
    refine own_iloadN M X d2_20 rfl rfl ?_
    refine own_imul M X d2_21 rfl ?_
    refine own_lshl M X d2_22 rfl ?_
    refine own_goto M X d2_23 (by decide) rfl ?_
    exact own_retJ M X d2_27 ⟨by rw [F2, if_pos q1], rfl⟩
theorem d3_0 : decode prog_96_method_2_code 0 = .ok (.ldc2_w 9, 3) := by decide +kernel
theorem d3_3 : decode prog_96_method_2_code 3 = .ok (.lreturn, 1) := by decide +kernel
def F3  : Int64 := (72340172838076673 : Int64)
theorem own_pn3 : plainName "com/example/sourcebill/sourcebill/scan/Words" = true := by first | (simp [plainName, overriddenIn]; done) | decide +kernel
set_option maxRecDepth 65536 in
set_option maxHeartbeats 40000000 in
theorem met_3 (l : Launch) (Z : State) (a0 : Array Value) (hw : ∀ d ∈ tables_1, d.before a0 Z = true) (h0 : Heap) (n0 : Nat) (hn : n0 ≤ h0.size)  : own_Met l Z n0 (⟨"com/example/sourcebill/sourcebill/scan/Words", "ones", "()J"⟩ : MethodName) prog_96_method_2_code 0 (some .long) ({ frames := 0, cells := 0, slots := 0, locals := 0 } : Room) #[] h0 (fun v h => v = some (.long (F3 )) ∧ h = h0) := by
  refine own_enter (L := #[]) (plainFor_of_name own_pn3) hw hn (fun m => by first | (simp [entryFrame, mkF, argsToLocals, Value.category]; done) | rfl) (fun K T hK M X => ?_)
  refine own_ldc2_w M X (hw _ (List.mem_of_getElem? (i := 13) rfl)) d3_0 rfl ?_
  exact own_retJ M X d3_3 ⟨by rw [F3], rfl⟩
theorem d4_0 : decode prog_96_method_6_code 0 = .ok (.lload_n 2, 1) := by decide +kernel
theorem d4_1 : decode prog_96_method_6_code 1 = .ok (.ldc2_w 23, 3) := by decide +kernel
theorem d4_4 : decode prog_96_method_6_code 4 = .ok (.lmul, 1) := by decide +kernel
theorem d4_5 : decode prog_96_method_6_code 5 = .ok (.lstore 4, 2) := by decide +kernel
theorem d4_7 : decode prog_96_method_6_code 7 = .ok (.lload_n 0, 1) := by decide +kernel
theorem d4_8 : decode prog_96_method_6_code 8 = .ok (.lload 4, 2) := by decide +kernel
theorem d4_10 : decode prog_96_method_6_code 10 = .ok (.land, 1) := by decide +kernel
theorem d4_11 : decode prog_96_method_6_code 11 = .ok (.lload 4, 2) := by decide +kernel
theorem d4_13 : decode prog_96_method_6_code 13 = .ok (.ladd, 1) := by decide +kernel
theorem d4_14 : decode prog_96_method_6_code 14 = .ok (.lload_n 0, 1) := by decide +kernel
theorem d4_15 : decode prog_96_method_6_code 15 = .ok (.lor, 1) := by decide +kernel
theorem d4_16 : decode prog_96_method_6_code 16 = .ok (.lload 4, 2) := by decide +kernel
theorem d4_18 : decode prog_96_method_6_code 18 = .ok (.lor, 1) := by decide +kernel
theorem d4_19 : decode prog_96_method_6_code 19 = .ok (.ldc2_w 21, 3) := by decide +kernel
theorem d4_22 : decode prog_96_method_6_code 22 = .ok (.lxor, 1) := by decide +kernel
theorem d4_23 : decode prog_96_method_6_code 23 = .ok (.lreturn, 1) := by decide +kernel
def F4 (x0 : Int64) (x1 : Int64) : Int64 := (((((x0 &&& (x1 * (127 : Int64))) + (x1 * (127 : Int64))) ||| x0) ||| (x1 * (127 : Int64))) ^^^ (-1 : Int64))
theorem own_pn4 : plainName "com/example/sourcebill/sourcebill/scan/Words" = true := by first | (simp [plainName, overriddenIn]; done) | decide +kernel
set_option maxRecDepth 65536 in
set_option maxHeartbeats 40000000 in
theorem met_4 (l : Launch) (Z : State) (a0 : Array Value) (hw : ∀ d ∈ tables_1, d.before a0 Z = true) (h0 : Heap) (n0 : Nat) (hn : n0 ≤ h0.size) (x0 : Int64) (x1 : Int64) : own_Met l Z n0 (⟨"com/example/sourcebill/sourcebill/scan/Words", "zeroBytes", "(JJ)J"⟩ : MethodName) prog_96_method_6_code 6 (some .long) ({ frames := 0, cells := 0, slots := 0, locals := 0 } : Room) #[(.long x0), (.long x1)] h0 (fun v h => v = some (.long (F4 x0 x1)) ∧ h = h0) := by
  refine own_enter (L := #[.val (.long x0), .second, .val (.long x1), .second, .unset, .unset]) (plainFor_of_name own_pn4) hw hn (fun m => by first | (simp [entryFrame, mkF, argsToLocals, Value.category]; done) | rfl) (fun K T hK M X => ?_)
  refine own_lloadN M X d4_0 rfl rfl ?_
  refine own_ldc2_w M X (hw _ (List.mem_of_getElem? (i := 17) rfl)) d4_1 rfl ?_
  refine own_lmul M X d4_4 rfl ?_
  refine own_lstore M X (L' := #[.val (.long x0), .second, .val (.long x1), .second, .val (.long (x1 * (127 : Int64))), .second]) d4_5 rfl rfl ?_
  refine own_lloadN M X d4_7 rfl rfl ?_
  refine own_lload M X d4_8 rfl rfl ?_
  refine own_land M X d4_10 rfl ?_
  refine own_lload M X d4_11 rfl rfl ?_
  refine own_ladd M X d4_13 rfl ?_
  refine own_lloadN M X d4_14 rfl rfl ?_
  refine own_lor M X d4_15 rfl ?_
  refine own_lload M X d4_16 rfl rfl ?_
  refine own_lor M X d4_18 rfl ?_
  refine own_ldc2_w M X (hw _ (List.mem_of_getElem? (i := 18) rfl)) d4_19 rfl ?_
  refine own_lxor M X d4_22 rfl ?_
  exact own_retJ M X d4_23 ⟨by rw [F4], rfl⟩
def F0 (x0 : Int64) (x1 : Int32) : Int32 := (if (F4 ((((((((x0 &&& (F1 x1 (0 : Int32))) &&& (F1 x1 (1 : Int32))) &&& (F1 x1 (2 : Int32))) &&& (F1 x1 (3 : Int32))) &&& (F1 x1 (4 : Int32))) &&& (F1 x1 (5 : Int32))) &&& (F1 x1 (6 : Int32))) &&& (F1 x1 (7 : Int32))) (F3)) = ((((((((F2 ((((((((x0 &&& (F1 x1 (0 : Int32))) &&& (F1 x1 (1 : Int32))) &&& (F1 x1 (2 : Int32))) &&& (F1 x1 (3 : Int32))) &&& (F1 x1 (4 : Int32))) &&& (F1 x1 (5 : Int32))) &&& (F1 x1 (6 : Int32))) &&& (F1 x1 (7 : Int32))) (0 : Int32)) ||| (F2 ((((((((x0 &&& (F1 x1 (0 : Int32))) &&& (F1 x1 (1 : Int32))) &&& (F1 x1 (2 : Int32))) &&& (F1 x1 (3 : Int32))) &&& (F1 x1 (4 : Int32))) &&& (F1 x1 (5 : Int32))) &&& (F1 x1 (6 : Int32))) &&& (F1 x1 (7 : Int32))) (1 : Int32))) ||| (F2 ((((((((x0 &&& (F1 x1 (0 : Int32))) &&& (F1 x1 (1 : Int32))) &&& (F1 x1 (2 : Int32))) &&& (F1 x1 (3 : Int32))) &&& (F1 x1 (4 : Int32))) &&& (F1 x1 (5 : Int32))) &&& (F1 x1 (6 : Int32))) &&& (F1 x1 (7 : Int32))) (2 : Int32))) ||| (F2 ((((((((x0 &&& (F1 x1 (0 : Int32))) &&& (F1 x1 (1 : Int32))) &&& (F1 x1 (2 : Int32))) &&& (F1 x1 (3 : Int32))) &&& (F1 x1 (4 : Int32))) &&& (F1 x1 (5 : Int32))) &&& (F1 x1 (6 : Int32))) &&& (F1 x1 (7 : Int32))) (3 : Int32))) ||| (F2 ((((((((x0 &&& (F1 x1 (0 : Int32))) &&& (F1 x1 (1 : Int32))) &&& (F1 x1 (2 : Int32))) &&& (F1 x1 (3 : Int32))) &&& (F1 x1 (4 : Int32))) &&& (F1 x1 (5 : Int32))) &&& (F1 x1 (6 : Int32))) &&& (F1 x1 (7 : Int32))) (4 : Int32))) ||| (F2 ((((((((x0 &&& (F1 x1 (0 : Int32))) &&& (F1 x1 (1 : Int32))) &&& (F1 x1 (2 : Int32))) &&& (F1 x1 (3 : Int32))) &&& (F1 x1 (4 : Int32))) &&& (F1 x1 (5 : Int32))) &&& (F1 x1 (6 : Int32))) &&& (F1 x1 (7 : Int32))) (5 : Int32))) ||| (F2 ((((((((x0 &&& (F1 x1 (0 : Int32))) &&& (F1 x1 (1 : Int32))) &&& (F1 x1 (2 : Int32))) &&& (F1 x1 (3 : Int32))) &&& (F1 x1 (4 : Int32))) &&& (F1 x1 (5 : Int32))) &&& (F1 x1 (6 : Int32))) &&& (F1 x1 (7 : Int32))) (6 : Int32))) ||| (F2 ((((((((x0 &&& (F1 x1 (0 : Int32))) &&& (F1 x1 (1 : Int32))) &&& (F1 x1 (2 : Int32))) &&& (F1 x1 (3 : Int32))) &&& (F1 x1 (4 : Int32))) &&& (F1 x1 (5 : Int32))) &&& (F1 x1 (6 : Int32))) &&& (F1 x1 (7 : Int32))) (7 : Int32))) then (1 : Int32) else (0 : Int32))
theorem own_pn0 : plainName "com/example/sourcebill/sourcebill/scan/WordsZeroBytesPinLaw" = true := by first | (simp [plainName, overriddenIn]; done) | decide +kernel
set_option maxRecDepth 65536 in
set_option maxHeartbeats 40000000 in
theorem met_0 (l : Launch) (Z : State) (a0 : Array Value) (hw : ∀ d ∈ tables_1, d.before a0 Z = true) (h0 : Heap) (n0 : Nat) (hn : n0 ≤ h0.size) (x0 : Int64) (x1 : Int32) : own_Met l Z n0 x code maxLocals ret room_1 #[(.long x0), (.int x1)] h0 (fun v h => v = some (.int (F0 x0 x1)) ∧ h = h0) := by
  refine own_enter (L := #[.val (.long x0), .second, .val (.int x1), .unset, .unset, .unset, .unset, .unset, .unset]) (plainFor_of_name own_pn0) hw hn (fun m => by first | (simp [entryFrame, mkF, argsToLocals, Value.category, maxLocals]; done) | rfl) (fun K T hK M X => ?_)
  refine own_lloadN M X at_0 rfl rfl ?_
  refine own_iloadN M X at_1 rfl rfl ?_
  refine own_iconst M X (v := (0 : Int32)) at_2 rfl rfl ?_
  refine own_callP M X (yrm := ({ frames := 0, cells := 0, slots := 0, locals := 0 } : Room)) [(.int x1), (.int (0 : Int32))] (hw _ (List.mem_of_getElem? (i := 0) rfl)) (hw _ (List.mem_of_getElem? (i := 1) rfl)) (hw _ (List.mem_of_getElem? (i := 2) rfl)) (hw _ (List.mem_of_getElem? (i := 3) rfl)) (by decide) (met_1 _ Z a0 hw h0 n0 X.size x1 (0 : Int32)) rfl at_3 rfl own_pd0 rfl rfl 2 (Nat.le_of_eq rfl) (by decide) (by decide) rfl rfl ?_
  intro T1 X2
  refine own_land M X2 at_6 rfl ?_
  refine own_iloadN M X2 at_7 rfl rfl ?_
  refine own_iconst M X2 (v := (1 : Int32)) at_8 rfl rfl ?_
  refine own_callP M X2 (yrm := ({ frames := 0, cells := 0, slots := 0, locals := 0 } : Room)) [(.int x1), (.int (1 : Int32))] (hw _ (List.mem_of_getElem? (i := 0) rfl)) (hw _ (List.mem_of_getElem? (i := 1) rfl)) (hw _ (List.mem_of_getElem? (i := 2) rfl)) (hw _ (List.mem_of_getElem? (i := 3) rfl)) (by decide) (met_1 _ Z a0 hw h0 n0 X2.size x1 (1 : Int32)) rfl at_9 rfl own_pd0 rfl rfl 2 (Nat.le_of_eq rfl) (by decide) (by decide) rfl rfl ?_
  intro T3 X4
  refine own_land M X4 at_12 rfl ?_
  refine own_iloadN M X4 at_13 rfl rfl ?_
  refine own_iconst M X4 (v := (2 : Int32)) at_14 rfl rfl ?_
  refine own_callP M X4 (yrm := ({ frames := 0, cells := 0, slots := 0, locals := 0 } : Room)) [(.int x1), (.int (2 : Int32))] (hw _ (List.mem_of_getElem? (i := 0) rfl)) (hw _ (List.mem_of_getElem? (i := 1) rfl)) (hw _ (List.mem_of_getElem? (i := 2) rfl)) (hw _ (List.mem_of_getElem? (i := 3) rfl)) (by decide) (met_1 _ Z a0 hw h0 n0 X4.size x1 (2 : Int32)) rfl at_15 rfl own_pd0 rfl rfl 2 (Nat.le_of_eq rfl) (by decide) (by decide) rfl rfl ?_
  intro T5 X6
  refine own_land M X6 at_18 rfl ?_
  refine own_iloadN M X6 at_19 rfl rfl ?_
  refine own_iconst M X6 (v := (3 : Int32)) at_20 rfl rfl ?_
  refine own_callP M X6 (yrm := ({ frames := 0, cells := 0, slots := 0, locals := 0 } : Room)) [(.int x1), (.int (3 : Int32))] (hw _ (List.mem_of_getElem? (i := 0) rfl)) (hw _ (List.mem_of_getElem? (i := 1) rfl)) (hw _ (List.mem_of_getElem? (i := 2) rfl)) (hw _ (List.mem_of_getElem? (i := 3) rfl)) (by decide) (met_1 _ Z a0 hw h0 n0 X6.size x1 (3 : Int32)) rfl at_21 rfl own_pd0 rfl rfl 2 (Nat.le_of_eq rfl) (by decide) (by decide) rfl rfl ?_
  intro T7 X8
  refine own_land M X8 at_24 rfl ?_
  refine own_iloadN M X8 at_25 rfl rfl ?_
  refine own_iconst M X8 (v := (4 : Int32)) at_26 rfl rfl ?_
  refine own_callP M X8 (yrm := ({ frames := 0, cells := 0, slots := 0, locals := 0 } : Room)) [(.int x1), (.int (4 : Int32))] (hw _ (List.mem_of_getElem? (i := 0) rfl)) (hw _ (List.mem_of_getElem? (i := 1) rfl)) (hw _ (List.mem_of_getElem? (i := 2) rfl)) (hw _ (List.mem_of_getElem? (i := 3) rfl)) (by decide) (met_1 _ Z a0 hw h0 n0 X8.size x1 (4 : Int32)) rfl at_27 rfl own_pd0 rfl rfl 2 (Nat.le_of_eq rfl) (by decide) (by decide) rfl rfl ?_
  intro T9 X10
  refine own_land M X10 at_30 rfl ?_
  refine own_iloadN M X10 at_31 rfl rfl ?_
  refine own_iconst M X10 (v := (5 : Int32)) at_32 rfl rfl ?_
  refine own_callP M X10 (yrm := ({ frames := 0, cells := 0, slots := 0, locals := 0 } : Room)) [(.int x1), (.int (5 : Int32))] (hw _ (List.mem_of_getElem? (i := 0) rfl)) (hw _ (List.mem_of_getElem? (i := 1) rfl)) (hw _ (List.mem_of_getElem? (i := 2) rfl)) (hw _ (List.mem_of_getElem? (i := 3) rfl)) (by decide) (met_1 _ Z a0 hw h0 n0 X10.size x1 (5 : Int32)) rfl at_33 rfl own_pd0 rfl rfl 2 (Nat.le_of_eq rfl) (by decide) (by decide) rfl rfl ?_
  intro T11 X12
  refine own_land M X12 at_36 rfl ?_
  refine own_iloadN M X12 at_37 rfl rfl ?_
  refine own_bipush M X12 (v := (6 : Int32)) at_38 rfl rfl ?_
  refine own_callP M X12 (yrm := ({ frames := 0, cells := 0, slots := 0, locals := 0 } : Room)) [(.int x1), (.int (6 : Int32))] (hw _ (List.mem_of_getElem? (i := 0) rfl)) (hw _ (List.mem_of_getElem? (i := 1) rfl)) (hw _ (List.mem_of_getElem? (i := 2) rfl)) (hw _ (List.mem_of_getElem? (i := 3) rfl)) (by decide) (met_1 _ Z a0 hw h0 n0 X12.size x1 (6 : Int32)) rfl at_40 rfl own_pd0 rfl rfl 2 (Nat.le_of_eq rfl) (by decide) (by decide) rfl rfl ?_
  intro T13 X14
  refine own_land M X14 at_43 rfl ?_
  refine own_iloadN M X14 at_44 rfl rfl ?_
  refine own_bipush M X14 (v := (7 : Int32)) at_45 rfl rfl ?_
  refine own_callP M X14 (yrm := ({ frames := 0, cells := 0, slots := 0, locals := 0 } : Room)) [(.int x1), (.int (7 : Int32))] (hw _ (List.mem_of_getElem? (i := 0) rfl)) (hw _ (List.mem_of_getElem? (i := 1) rfl)) (hw _ (List.mem_of_getElem? (i := 2) rfl)) (hw _ (List.mem_of_getElem? (i := 3) rfl)) (by decide) (met_1 _ Z a0 hw h0 n0 X14.size x1 (7 : Int32)) rfl at_47 rfl own_pd0 rfl rfl 2 (Nat.le_of_eq rfl) (by decide) (by decide) rfl rfl ?_
  intro T15 X16
  refine own_land M X16 at_50 rfl ?_
  refine own_lstoreN M X16 (L' := #[.val (.long x0), .second, .val (.int x1), .val (.long ((((((((x0 &&& (F1 x1 (0 : Int32))) &&& (F1 x1 (1 : Int32))) &&& (F1 x1 (2 : Int32))) &&& (F1 x1 (3 : Int32))) &&& (F1 x1 (4 : Int32))) &&& (F1 x1 (5 : Int32))) &&& (F1 x1 (6 : Int32))) &&& (F1 x1 (7 : Int32)))), .second, .unset, .unset, .unset, .unset]) at_51 rfl rfl ?_
  refine own_lloadN M X16 at_52 rfl rfl ?_
  refine own_iconst M X16 (v := (0 : Int32)) at_53 rfl rfl ?_
  refine own_callP M X16 (yrm := ({ frames := 0, cells := 0, slots := 0, locals := 0 } : Room)) [(.long ((((((((x0 &&& (F1 x1 (0 : Int32))) &&& (F1 x1 (1 : Int32))) &&& (F1 x1 (2 : Int32))) &&& (F1 x1 (3 : Int32))) &&& (F1 x1 (4 : Int32))) &&& (F1 x1 (5 : Int32))) &&& (F1 x1 (6 : Int32))) &&& (F1 x1 (7 : Int32)))), (.int (0 : Int32))] (hw _ (List.mem_of_getElem? (i := 5) rfl)) (hw _ (List.mem_of_getElem? (i := 6) rfl)) (hw _ (List.mem_of_getElem? (i := 2) rfl)) (hw _ (List.mem_of_getElem? (i := 7) rfl)) (by decide) (met_2 _ Z a0 hw h0 n0 X16.size ((((((((x0 &&& (F1 x1 (0 : Int32))) &&& (F1 x1 (1 : Int32))) &&& (F1 x1 (2 : Int32))) &&& (F1 x1 (3 : Int32))) &&& (F1 x1 (4 : Int32))) &&& (F1 x1 (5 : Int32))) &&& (F1 x1 (6 : Int32))) &&& (F1 x1 (7 : Int32))) (0 : Int32)) rfl at_54 rfl own_pd1 rfl rfl 0 (Nat.le_of_eq rfl) (by decide) (by decide) rfl rfl ?_
  intro T17 X18
  refine own_lloadN M X18 at_57 rfl rfl ?_
  refine own_iconst M X18 (v := (1 : Int32)) at_58 rfl rfl ?_
  refine own_callP M X18 (yrm := ({ frames := 0, cells := 0, slots := 0, locals := 0 } : Room)) [(.long ((((((((x0 &&& (F1 x1 (0 : Int32))) &&& (F1 x1 (1 : Int32))) &&& (F1 x1 (2 : Int32))) &&& (F1 x1 (3 : Int32))) &&& (F1 x1 (4 : Int32))) &&& (F1 x1 (5 : Int32))) &&& (F1 x1 (6 : Int32))) &&& (F1 x1 (7 : Int32)))), (.int (1 : Int32))] (hw _ (List.mem_of_getElem? (i := 5) rfl)) (hw _ (List.mem_of_getElem? (i := 6) rfl)) (hw _ (List.mem_of_getElem? (i := 2) rfl)) (hw _ (List.mem_of_getElem? (i := 7) rfl)) (by decide) (met_2 _ Z a0 hw h0 n0 X18.size ((((((((x0 &&& (F1 x1 (0 : Int32))) &&& (F1 x1 (1 : Int32))) &&& (F1 x1 (2 : Int32))) &&& (F1 x1 (3 : Int32))) &&& (F1 x1 (4 : Int32))) &&& (F1 x1 (5 : Int32))) &&& (F1 x1 (6 : Int32))) &&& (F1 x1 (7 : Int32))) (1 : Int32)) rfl at_59 rfl own_pd1 rfl rfl 2 (Nat.le_of_eq rfl) (by decide) (by decide) rfl rfl ?_
  intro T19 X20
  refine own_lor M X20 at_62 rfl ?_
  refine own_lloadN M X20 at_63 rfl rfl ?_
  refine own_iconst M X20 (v := (2 : Int32)) at_64 rfl rfl ?_
  refine own_callP M X20 (yrm := ({ frames := 0, cells := 0, slots := 0, locals := 0 } : Room)) [(.long ((((((((x0 &&& (F1 x1 (0 : Int32))) &&& (F1 x1 (1 : Int32))) &&& (F1 x1 (2 : Int32))) &&& (F1 x1 (3 : Int32))) &&& (F1 x1 (4 : Int32))) &&& (F1 x1 (5 : Int32))) &&& (F1 x1 (6 : Int32))) &&& (F1 x1 (7 : Int32)))), (.int (2 : Int32))] (hw _ (List.mem_of_getElem? (i := 5) rfl)) (hw _ (List.mem_of_getElem? (i := 6) rfl)) (hw _ (List.mem_of_getElem? (i := 2) rfl)) (hw _ (List.mem_of_getElem? (i := 7) rfl)) (by decide) (met_2 _ Z a0 hw h0 n0 X20.size ((((((((x0 &&& (F1 x1 (0 : Int32))) &&& (F1 x1 (1 : Int32))) &&& (F1 x1 (2 : Int32))) &&& (F1 x1 (3 : Int32))) &&& (F1 x1 (4 : Int32))) &&& (F1 x1 (5 : Int32))) &&& (F1 x1 (6 : Int32))) &&& (F1 x1 (7 : Int32))) (2 : Int32)) rfl at_65 rfl own_pd1 rfl rfl 2 (Nat.le_of_eq rfl) (by decide) (by decide) rfl rfl ?_
  intro T21 X22
  refine own_lor M X22 at_68 rfl ?_
  refine own_lloadN M X22 at_69 rfl rfl ?_
  refine own_iconst M X22 (v := (3 : Int32)) at_70 rfl rfl ?_
  refine own_callP M X22 (yrm := ({ frames := 0, cells := 0, slots := 0, locals := 0 } : Room)) [(.long ((((((((x0 &&& (F1 x1 (0 : Int32))) &&& (F1 x1 (1 : Int32))) &&& (F1 x1 (2 : Int32))) &&& (F1 x1 (3 : Int32))) &&& (F1 x1 (4 : Int32))) &&& (F1 x1 (5 : Int32))) &&& (F1 x1 (6 : Int32))) &&& (F1 x1 (7 : Int32)))), (.int (3 : Int32))] (hw _ (List.mem_of_getElem? (i := 5) rfl)) (hw _ (List.mem_of_getElem? (i := 6) rfl)) (hw _ (List.mem_of_getElem? (i := 2) rfl)) (hw _ (List.mem_of_getElem? (i := 7) rfl)) (by decide) (met_2 _ Z a0 hw h0 n0 X22.size ((((((((x0 &&& (F1 x1 (0 : Int32))) &&& (F1 x1 (1 : Int32))) &&& (F1 x1 (2 : Int32))) &&& (F1 x1 (3 : Int32))) &&& (F1 x1 (4 : Int32))) &&& (F1 x1 (5 : Int32))) &&& (F1 x1 (6 : Int32))) &&& (F1 x1 (7 : Int32))) (3 : Int32)) rfl at_71 rfl own_pd1 rfl rfl 2 (Nat.le_of_eq rfl) (by decide) (by decide) rfl rfl ?_
  intro T23 X24
  refine own_lor M X24 at_74 rfl ?_
  refine own_lloadN M X24 at_75 rfl rfl ?_
  refine own_iconst M X24 (v := (4 : Int32)) at_76 rfl rfl ?_
  refine own_callP M X24 (yrm := ({ frames := 0, cells := 0, slots := 0, locals := 0 } : Room)) [(.long ((((((((x0 &&& (F1 x1 (0 : Int32))) &&& (F1 x1 (1 : Int32))) &&& (F1 x1 (2 : Int32))) &&& (F1 x1 (3 : Int32))) &&& (F1 x1 (4 : Int32))) &&& (F1 x1 (5 : Int32))) &&& (F1 x1 (6 : Int32))) &&& (F1 x1 (7 : Int32)))), (.int (4 : Int32))] (hw _ (List.mem_of_getElem? (i := 5) rfl)) (hw _ (List.mem_of_getElem? (i := 6) rfl)) (hw _ (List.mem_of_getElem? (i := 2) rfl)) (hw _ (List.mem_of_getElem? (i := 7) rfl)) (by decide) (met_2 _ Z a0 hw h0 n0 X24.size ((((((((x0 &&& (F1 x1 (0 : Int32))) &&& (F1 x1 (1 : Int32))) &&& (F1 x1 (2 : Int32))) &&& (F1 x1 (3 : Int32))) &&& (F1 x1 (4 : Int32))) &&& (F1 x1 (5 : Int32))) &&& (F1 x1 (6 : Int32))) &&& (F1 x1 (7 : Int32))) (4 : Int32)) rfl at_77 rfl own_pd1 rfl rfl 2 (Nat.le_of_eq rfl) (by decide) (by decide) rfl rfl ?_
  intro T25 X26
  refine own_lor M X26 at_80 rfl ?_
  refine own_lloadN M X26 at_81 rfl rfl ?_
  refine own_iconst M X26 (v := (5 : Int32)) at_82 rfl rfl ?_
  refine own_callP M X26 (yrm := ({ frames := 0, cells := 0, slots := 0, locals := 0 } : Room)) [(.long ((((((((x0 &&& (F1 x1 (0 : Int32))) &&& (F1 x1 (1 : Int32))) &&& (F1 x1 (2 : Int32))) &&& (F1 x1 (3 : Int32))) &&& (F1 x1 (4 : Int32))) &&& (F1 x1 (5 : Int32))) &&& (F1 x1 (6 : Int32))) &&& (F1 x1 (7 : Int32)))), (.int (5 : Int32))] (hw _ (List.mem_of_getElem? (i := 5) rfl)) (hw _ (List.mem_of_getElem? (i := 6) rfl)) (hw _ (List.mem_of_getElem? (i := 2) rfl)) (hw _ (List.mem_of_getElem? (i := 7) rfl)) (by decide) (met_2 _ Z a0 hw h0 n0 X26.size ((((((((x0 &&& (F1 x1 (0 : Int32))) &&& (F1 x1 (1 : Int32))) &&& (F1 x1 (2 : Int32))) &&& (F1 x1 (3 : Int32))) &&& (F1 x1 (4 : Int32))) &&& (F1 x1 (5 : Int32))) &&& (F1 x1 (6 : Int32))) &&& (F1 x1 (7 : Int32))) (5 : Int32)) rfl at_83 rfl own_pd1 rfl rfl 2 (Nat.le_of_eq rfl) (by decide) (by decide) rfl rfl ?_
  intro T27 X28
  refine own_lor M X28 at_86 rfl ?_
  refine own_lloadN M X28 at_87 rfl rfl ?_
  refine own_bipush M X28 (v := (6 : Int32)) at_88 rfl rfl ?_
  refine own_callP M X28 (yrm := ({ frames := 0, cells := 0, slots := 0, locals := 0 } : Room)) [(.long ((((((((x0 &&& (F1 x1 (0 : Int32))) &&& (F1 x1 (1 : Int32))) &&& (F1 x1 (2 : Int32))) &&& (F1 x1 (3 : Int32))) &&& (F1 x1 (4 : Int32))) &&& (F1 x1 (5 : Int32))) &&& (F1 x1 (6 : Int32))) &&& (F1 x1 (7 : Int32)))), (.int (6 : Int32))] (hw _ (List.mem_of_getElem? (i := 5) rfl)) (hw _ (List.mem_of_getElem? (i := 6) rfl)) (hw _ (List.mem_of_getElem? (i := 2) rfl)) (hw _ (List.mem_of_getElem? (i := 7) rfl)) (by decide) (met_2 _ Z a0 hw h0 n0 X28.size ((((((((x0 &&& (F1 x1 (0 : Int32))) &&& (F1 x1 (1 : Int32))) &&& (F1 x1 (2 : Int32))) &&& (F1 x1 (3 : Int32))) &&& (F1 x1 (4 : Int32))) &&& (F1 x1 (5 : Int32))) &&& (F1 x1 (6 : Int32))) &&& (F1 x1 (7 : Int32))) (6 : Int32)) rfl at_90 rfl own_pd1 rfl rfl 2 (Nat.le_of_eq rfl) (by decide) (by decide) rfl rfl ?_
  intro T29 X30
  refine own_lor M X30 at_93 rfl ?_
  refine own_lloadN M X30 at_94 rfl rfl ?_
  refine own_bipush M X30 (v := (7 : Int32)) at_95 rfl rfl ?_
  refine own_callP M X30 (yrm := ({ frames := 0, cells := 0, slots := 0, locals := 0 } : Room)) [(.long ((((((((x0 &&& (F1 x1 (0 : Int32))) &&& (F1 x1 (1 : Int32))) &&& (F1 x1 (2 : Int32))) &&& (F1 x1 (3 : Int32))) &&& (F1 x1 (4 : Int32))) &&& (F1 x1 (5 : Int32))) &&& (F1 x1 (6 : Int32))) &&& (F1 x1 (7 : Int32)))), (.int (7 : Int32))] (hw _ (List.mem_of_getElem? (i := 5) rfl)) (hw _ (List.mem_of_getElem? (i := 6) rfl)) (hw _ (List.mem_of_getElem? (i := 2) rfl)) (hw _ (List.mem_of_getElem? (i := 7) rfl)) (by decide) (met_2 _ Z a0 hw h0 n0 X30.size ((((((((x0 &&& (F1 x1 (0 : Int32))) &&& (F1 x1 (1 : Int32))) &&& (F1 x1 (2 : Int32))) &&& (F1 x1 (3 : Int32))) &&& (F1 x1 (4 : Int32))) &&& (F1 x1 (5 : Int32))) &&& (F1 x1 (6 : Int32))) &&& (F1 x1 (7 : Int32))) (7 : Int32)) rfl at_97 rfl own_pd1 rfl rfl 2 (Nat.le_of_eq rfl) (by decide) (by decide) rfl rfl ?_
  intro T31 X32
  refine own_lor M X32 at_100 rfl ?_
  refine own_lstore M X32 (L' := #[.val (.long x0), .second, .val (.int x1), .val (.long ((((((((x0 &&& (F1 x1 (0 : Int32))) &&& (F1 x1 (1 : Int32))) &&& (F1 x1 (2 : Int32))) &&& (F1 x1 (3 : Int32))) &&& (F1 x1 (4 : Int32))) &&& (F1 x1 (5 : Int32))) &&& (F1 x1 (6 : Int32))) &&& (F1 x1 (7 : Int32)))), .second, .val (.long ((((((((F2 ((((((((x0 &&& (F1 x1 (0 : Int32))) &&& (F1 x1 (1 : Int32))) &&& (F1 x1 (2 : Int32))) &&& (F1 x1 (3 : Int32))) &&& (F1 x1 (4 : Int32))) &&& (F1 x1 (5 : Int32))) &&& (F1 x1 (6 : Int32))) &&& (F1 x1 (7 : Int32))) (0 : Int32)) ||| (F2 ((((((((x0 &&& (F1 x1 (0 : Int32))) &&& (F1 x1 (1 : Int32))) &&& (F1 x1 (2 : Int32))) &&& (F1 x1 (3 : Int32))) &&& (F1 x1 (4 : Int32))) &&& (F1 x1 (5 : Int32))) &&& (F1 x1 (6 : Int32))) &&& (F1 x1 (7 : Int32))) (1 : Int32))) ||| (F2 ((((((((x0 &&& (F1 x1 (0 : Int32))) &&& (F1 x1 (1 : Int32))) &&& (F1 x1 (2 : Int32))) &&& (F1 x1 (3 : Int32))) &&& (F1 x1 (4 : Int32))) &&& (F1 x1 (5 : Int32))) &&& (F1 x1 (6 : Int32))) &&& (F1 x1 (7 : Int32))) (2 : Int32))) ||| (F2 ((((((((x0 &&& (F1 x1 (0 : Int32))) &&& (F1 x1 (1 : Int32))) &&& (F1 x1 (2 : Int32))) &&& (F1 x1 (3 : Int32))) &&& (F1 x1 (4 : Int32))) &&& (F1 x1 (5 : Int32))) &&& (F1 x1 (6 : Int32))) &&& (F1 x1 (7 : Int32))) (3 : Int32))) ||| (F2 ((((((((x0 &&& (F1 x1 (0 : Int32))) &&& (F1 x1 (1 : Int32))) &&& (F1 x1 (2 : Int32))) &&& (F1 x1 (3 : Int32))) &&& (F1 x1 (4 : Int32))) &&& (F1 x1 (5 : Int32))) &&& (F1 x1 (6 : Int32))) &&& (F1 x1 (7 : Int32))) (4 : Int32))) ||| (F2 ((((((((x0 &&& (F1 x1 (0 : Int32))) &&& (F1 x1 (1 : Int32))) &&& (F1 x1 (2 : Int32))) &&& (F1 x1 (3 : Int32))) &&& (F1 x1 (4 : Int32))) &&& (F1 x1 (5 : Int32))) &&& (F1 x1 (6 : Int32))) &&& (F1 x1 (7 : Int32))) (5 : Int32))) ||| (F2 ((((((((x0 &&& (F1 x1 (0 : Int32))) &&& (F1 x1 (1 : Int32))) &&& (F1 x1 (2 : Int32))) &&& (F1 x1 (3 : Int32))) &&& (F1 x1 (4 : Int32))) &&& (F1 x1 (5 : Int32))) &&& (F1 x1 (6 : Int32))) &&& (F1 x1 (7 : Int32))) (6 : Int32))) ||| (F2 ((((((((x0 &&& (F1 x1 (0 : Int32))) &&& (F1 x1 (1 : Int32))) &&& (F1 x1 (2 : Int32))) &&& (F1 x1 (3 : Int32))) &&& (F1 x1 (4 : Int32))) &&& (F1 x1 (5 : Int32))) &&& (F1 x1 (6 : Int32))) &&& (F1 x1 (7 : Int32))) (7 : Int32)))), .second, .unset, .unset]) at_101 rfl rfl ?_
  refine own_callP M X32 (yrm := ({ frames := 0, cells := 0, slots := 0, locals := 0 } : Room)) [] (hw _ (List.mem_of_getElem? (i := 9) rfl)) (hw _ (List.mem_of_getElem? (i := 10) rfl)) (hw _ (List.mem_of_getElem? (i := 11) rfl)) (hw _ (List.mem_of_getElem? (i := 12) rfl)) (by decide) (met_3 _ Z a0 hw h0 n0 X32.size) rfl at_103 rfl own_pd2 rfl rfl 0 (Nat.le_of_eq rfl) (by decide) (by decide) rfl rfl ?_
  intro T33 X34
  refine own_lstore M X34 (L' := #[.val (.long x0), .second, .val (.int x1), .val (.long ((((((((x0 &&& (F1 x1 (0 : Int32))) &&& (F1 x1 (1 : Int32))) &&& (F1 x1 (2 : Int32))) &&& (F1 x1 (3 : Int32))) &&& (F1 x1 (4 : Int32))) &&& (F1 x1 (5 : Int32))) &&& (F1 x1 (6 : Int32))) &&& (F1 x1 (7 : Int32)))), .second, .val (.long ((((((((F2 ((((((((x0 &&& (F1 x1 (0 : Int32))) &&& (F1 x1 (1 : Int32))) &&& (F1 x1 (2 : Int32))) &&& (F1 x1 (3 : Int32))) &&& (F1 x1 (4 : Int32))) &&& (F1 x1 (5 : Int32))) &&& (F1 x1 (6 : Int32))) &&& (F1 x1 (7 : Int32))) (0 : Int32)) ||| (F2 ((((((((x0 &&& (F1 x1 (0 : Int32))) &&& (F1 x1 (1 : Int32))) &&& (F1 x1 (2 : Int32))) &&& (F1 x1 (3 : Int32))) &&& (F1 x1 (4 : Int32))) &&& (F1 x1 (5 : Int32))) &&& (F1 x1 (6 : Int32))) &&& (F1 x1 (7 : Int32))) (1 : Int32))) ||| (F2 ((((((((x0 &&& (F1 x1 (0 : Int32))) &&& (F1 x1 (1 : Int32))) &&& (F1 x1 (2 : Int32))) &&& (F1 x1 (3 : Int32))) &&& (F1 x1 (4 : Int32))) &&& (F1 x1 (5 : Int32))) &&& (F1 x1 (6 : Int32))) &&& (F1 x1 (7 : Int32))) (2 : Int32))) ||| (F2 ((((((((x0 &&& (F1 x1 (0 : Int32))) &&& (F1 x1 (1 : Int32))) &&& (F1 x1 (2 : Int32))) &&& (F1 x1 (3 : Int32))) &&& (F1 x1 (4 : Int32))) &&& (F1 x1 (5 : Int32))) &&& (F1 x1 (6 : Int32))) &&& (F1 x1 (7 : Int32))) (3 : Int32))) ||| (F2 ((((((((x0 &&& (F1 x1 (0 : Int32))) &&& (F1 x1 (1 : Int32))) &&& (F1 x1 (2 : Int32))) &&& (F1 x1 (3 : Int32))) &&& (F1 x1 (4 : Int32))) &&& (F1 x1 (5 : Int32))) &&& (F1 x1 (6 : Int32))) &&& (F1 x1 (7 : Int32))) (4 : Int32))) ||| (F2 ((((((((x0 &&& (F1 x1 (0 : Int32))) &&& (F1 x1 (1 : Int32))) &&& (F1 x1 (2 : Int32))) &&& (F1 x1 (3 : Int32))) &&& (F1 x1 (4 : Int32))) &&& (F1 x1 (5 : Int32))) &&& (F1 x1 (6 : Int32))) &&& (F1 x1 (7 : Int32))) (5 : Int32))) ||| (F2 ((((((((x0 &&& (F1 x1 (0 : Int32))) &&& (F1 x1 (1 : Int32))) &&& (F1 x1 (2 : Int32))) &&& (F1 x1 (3 : Int32))) &&& (F1 x1 (4 : Int32))) &&& (F1 x1 (5 : Int32))) &&& (F1 x1 (6 : Int32))) &&& (F1 x1 (7 : Int32))) (6 : Int32))) ||| (F2 ((((((((x0 &&& (F1 x1 (0 : Int32))) &&& (F1 x1 (1 : Int32))) &&& (F1 x1 (2 : Int32))) &&& (F1 x1 (3 : Int32))) &&& (F1 x1 (4 : Int32))) &&& (F1 x1 (5 : Int32))) &&& (F1 x1 (6 : Int32))) &&& (F1 x1 (7 : Int32))) (7 : Int32)))), .second, .val (.long (F3)), .second]) at_106 rfl rfl ?_
  refine own_lloadN M X34 at_108 rfl rfl ?_
  refine own_lload M X34 at_109 rfl rfl ?_
  refine own_callP M X34 (yrm := ({ frames := 0, cells := 0, slots := 0, locals := 0 } : Room)) [(.long ((((((((x0 &&& (F1 x1 (0 : Int32))) &&& (F1 x1 (1 : Int32))) &&& (F1 x1 (2 : Int32))) &&& (F1 x1 (3 : Int32))) &&& (F1 x1 (4 : Int32))) &&& (F1 x1 (5 : Int32))) &&& (F1 x1 (6 : Int32))) &&& (F1 x1 (7 : Int32)))), (.long (F3))] (hw _ (List.mem_of_getElem? (i := 14) rfl)) (hw _ (List.mem_of_getElem? (i := 15) rfl)) (hw _ (List.mem_of_getElem? (i := 11) rfl)) (hw _ (List.mem_of_getElem? (i := 16) rfl)) (by decide) (met_4 _ Z a0 hw h0 n0 X34.size ((((((((x0 &&& (F1 x1 (0 : Int32))) &&& (F1 x1 (1 : Int32))) &&& (F1 x1 (2 : Int32))) &&& (F1 x1 (3 : Int32))) &&& (F1 x1 (4 : Int32))) &&& (F1 x1 (5 : Int32))) &&& (F1 x1 (6 : Int32))) &&& (F1 x1 (7 : Int32))) (F3)) rfl at_111 rfl own_pd3 rfl rfl 0 (Nat.le_of_eq rfl) (by decide) (by decide) rfl rfl ?_
  intro T35 X36
  refine own_lload M X36 at_114 rfl rfl ?_
  refine own_lcmp_ne M X36 at_116 rfl at_117 (by decide) rfl rfl (fun q37 => ?_) (fun q37 => ?_)
  · skip
    refine own_iconst M X36 (v := (0 : Int32)) at_124 rfl rfl ?_
    exact own_retN M X36 (z' := (0 : Int32)) (by simp) at_125 rfl ⟨by rw [F0, if_neg q37], rfl⟩
  · skip
    refine own_iconst M X36 (v := (1 : Int32)) at_120 rfl rfl ?_
    refine own_goto M X36 at_121 (by decide) rfl ?_
    exact own_retN M X36 (z' := (1 : Int32)) (by simp) at_125 rfl ⟨by rw [F0, if_pos q37], rfl⟩
theorem own_z0 (n x : Nat) (h1 : x / 1 % 256 = n / 1 % 128) (h2 : x % 1 ≤ 0) : ((x + 9187201950435737471) / 128 % 2 = 0 ∧ n / 128 % 2 = 0) ↔ n / 1 % 256 = 0 := by omega
theorem own_y0 (n : Nat) : (n &&& 9187201950435737471) / 1 % 256 = n / 1 % 128 ∧ (n &&& 9187201950435737471) % 1 ≤ 0 := by
  refine ⟨?_, ?_⟩
  · rw [show 1 = 2 ^ 0 from by decide, ← Nat.shiftRight_eq_div_pow, Nat.shiftRight_and_distrib, show 256 = 2 ^ 8 from rfl, Nat.and_mod_two_pow, show (9187201950435737471 >>> 0) % 2 ^ 8 = 2 ^ 7 - 1 from by decide, Nat.and_two_pow_sub_one_eq_mod]
    omega
  · rw [show 1 = 2 ^ 0 from by decide, Nat.and_mod_two_pow, show 9187201950435737471 % 2 ^ 0 = 0 from by decide]
    exact Nat.and_le_right
theorem own_x0 (v : BitVec 64) : decide (v &&& 255#64 = 0#64) = !(((v &&& 9187201950435737471#64) + 9187201950435737471#64).getLsbD 7 || v.getLsbD 7) := by
  have y := own_y0 v.toNat
  have z := own_z0 v.toNat _ y.1 y.2
  have hv := v.isLt
  have hle : v.toNat &&& 9187201950435737471 ≤ 9187201950435737471 := Nat.and_le_right
  have e1 : (v &&& 255#64 = 0#64) ↔ v.toNat / 1 % 256 = 0 := by
    rw [← BitVec.toNat_inj, BitVec.toNat_and, show (255#64).toNat = 2 ^ 8 - 1 from by decide, Nat.and_two_pow_sub_one_eq_mod, Nat.div_one]
    rfl
  have e2 : (((v &&& 9187201950435737471#64) + 9187201950435737471#64).getLsbD 7 = false) ↔ ((v.toNat &&& 9187201950435737471) + 9187201950435737471) / 128 % 2 = 0 := by
    rw [BitVec.getLsbD, BitVec.toNat_add, BitVec.toNat_and, show (9187201950435737471#64).toNat = 9187201950435737471 from by decide, Nat.mod_eq_of_lt (by omega), Nat.testBit_eq_decide_div_mod_eq, decide_eq_false_iff_not]
    omega
  have e3 : (v.getLsbD 7 = false) ↔ v.toNat / 128 % 2 = 0 := by
    rw [BitVec.getLsbD, Nat.testBit_eq_decide_div_mod_eq, decide_eq_false_iff_not]
    omega
  rw [Bool.eq_iff_iff, decide_eq_true_iff, Bool.not_eq_true', Bool.or_eq_false_iff, e1, e2, e3]
  exact z.symm
theorem own_z1 (n x : Nat) (h1 : x / 256 % 256 = n / 256 % 128) (h2 : x % 256 ≤ 127) : ((x + 9187201950435737471) / 32768 % 2 = 0 ∧ n / 32768 % 2 = 0) ↔ n / 256 % 256 = 0 := by omega
theorem own_y1 (n : Nat) : (n &&& 9187201950435737471) / 256 % 256 = n / 256 % 128 ∧ (n &&& 9187201950435737471) % 256 ≤ 127 := by
  refine ⟨?_, ?_⟩
  · rw [show 256 = 2 ^ 8 from by decide, ← Nat.shiftRight_eq_div_pow, Nat.shiftRight_and_distrib, Nat.and_mod_two_pow, show (9187201950435737471 >>> 8) % 2 ^ 8 = 2 ^ 7 - 1 from by decide, Nat.and_two_pow_sub_one_eq_mod]
    omega
  · rw [show 256 = 2 ^ 8 from by decide, Nat.and_mod_two_pow, show 9187201950435737471 % 2 ^ 8 = 127 from by decide]
    exact Nat.and_le_right
theorem own_x1 (v : BitVec 64) : decide ((v >>> 8) &&& 255#64 = 0#64) = !(((v &&& 9187201950435737471#64) + 9187201950435737471#64).getLsbD 15 || v.getLsbD 15) := by
  have y := own_y1 v.toNat
  have z := own_z1 v.toNat _ y.1 y.2
  have hv := v.isLt
  have hle : v.toNat &&& 9187201950435737471 ≤ 9187201950435737471 := Nat.and_le_right
  have e1 : ((v >>> 8) &&& 255#64 = 0#64) ↔ v.toNat / 256 % 256 = 0 := by
    rw [← BitVec.toNat_inj, BitVec.toNat_and, BitVec.toNat_ushiftRight, show (255#64).toNat = 2 ^ 8 - 1 from by decide, Nat.and_two_pow_sub_one_eq_mod, Nat.shiftRight_eq_div_pow]
    rfl
  have e2 : (((v &&& 9187201950435737471#64) + 9187201950435737471#64).getLsbD 15 = false) ↔ ((v.toNat &&& 9187201950435737471) + 9187201950435737471) / 32768 % 2 = 0 := by
    rw [BitVec.getLsbD, BitVec.toNat_add, BitVec.toNat_and, show (9187201950435737471#64).toNat = 9187201950435737471 from by decide, Nat.mod_eq_of_lt (by omega), Nat.testBit_eq_decide_div_mod_eq, decide_eq_false_iff_not]
    omega
  have e3 : (v.getLsbD 15 = false) ↔ v.toNat / 32768 % 2 = 0 := by
    rw [BitVec.getLsbD, Nat.testBit_eq_decide_div_mod_eq, decide_eq_false_iff_not]
    omega
  rw [Bool.eq_iff_iff, decide_eq_true_iff, Bool.not_eq_true', Bool.or_eq_false_iff, e1, e2, e3]
  exact z.symm
theorem own_z2 (n x : Nat) (h1 : x / 65536 % 256 = n / 65536 % 128) (h2 : x % 65536 ≤ 32639) : ((x + 9187201950435737471) / 8388608 % 2 = 0 ∧ n / 8388608 % 2 = 0) ↔ n / 65536 % 256 = 0 := by omega
theorem own_y2 (n : Nat) : (n &&& 9187201950435737471) / 65536 % 256 = n / 65536 % 128 ∧ (n &&& 9187201950435737471) % 65536 ≤ 32639 := by
  refine ⟨?_, ?_⟩
  · rw [show 65536 = 2 ^ 16 from by decide, ← Nat.shiftRight_eq_div_pow, Nat.shiftRight_and_distrib, show 256 = 2 ^ 8 from rfl, Nat.and_mod_two_pow, show (9187201950435737471 >>> 16) % 2 ^ 8 = 2 ^ 7 - 1 from by decide, Nat.and_two_pow_sub_one_eq_mod]
    omega
  · rw [show 65536 = 2 ^ 16 from by decide, Nat.and_mod_two_pow, show 9187201950435737471 % 2 ^ 16 = 32639 from by decide]
    exact Nat.and_le_right
theorem own_x2 (v : BitVec 64) : decide ((v >>> 16) &&& 255#64 = 0#64) = !(((v &&& 9187201950435737471#64) + 9187201950435737471#64).getLsbD 23 || v.getLsbD 23) := by
  have y := own_y2 v.toNat
  have z := own_z2 v.toNat _ y.1 y.2
  have hv := v.isLt
  have hle : v.toNat &&& 9187201950435737471 ≤ 9187201950435737471 := Nat.and_le_right
  have e1 : ((v >>> 16) &&& 255#64 = 0#64) ↔ v.toNat / 65536 % 256 = 0 := by
    rw [← BitVec.toNat_inj, BitVec.toNat_and, BitVec.toNat_ushiftRight, show (255#64).toNat = 2 ^ 8 - 1 from by decide, Nat.and_two_pow_sub_one_eq_mod, Nat.shiftRight_eq_div_pow]
    rfl
  have e2 : (((v &&& 9187201950435737471#64) + 9187201950435737471#64).getLsbD 23 = false) ↔ ((v.toNat &&& 9187201950435737471) + 9187201950435737471) / 8388608 % 2 = 0 := by
    rw [BitVec.getLsbD, BitVec.toNat_add, BitVec.toNat_and, show (9187201950435737471#64).toNat = 9187201950435737471 from by decide, Nat.mod_eq_of_lt (by omega), Nat.testBit_eq_decide_div_mod_eq, decide_eq_false_iff_not]
    omega
  have e3 : (v.getLsbD 23 = false) ↔ v.toNat / 8388608 % 2 = 0 := by
    rw [BitVec.getLsbD, Nat.testBit_eq_decide_div_mod_eq, decide_eq_false_iff_not]
    omega
  rw [Bool.eq_iff_iff, decide_eq_true_iff, Bool.not_eq_true', Bool.or_eq_false_iff, e1, e2, e3]
  exact z.symm
theorem own_z3 (n x : Nat) (h1 : x / 16777216 % 256 = n / 16777216 % 128) (h2 : x % 16777216 ≤ 8355711) : ((x + 9187201950435737471) / 2147483648 % 2 = 0 ∧ n / 2147483648 % 2 = 0) ↔ n / 16777216 % 256 = 0 := by omega
theorem own_y3 (n : Nat) : (n &&& 9187201950435737471) / 16777216 % 256 = n / 16777216 % 128 ∧ (n &&& 9187201950435737471) % 16777216 ≤ 8355711 := by
  refine ⟨?_, ?_⟩
  · rw [show 16777216 = 2 ^ 24 from by decide, ← Nat.shiftRight_eq_div_pow, Nat.shiftRight_and_distrib, show 256 = 2 ^ 8 from rfl, Nat.and_mod_two_pow, show (9187201950435737471 >>> 24) % 2 ^ 8 = 2 ^ 7 - 1 from by decide, Nat.and_two_pow_sub_one_eq_mod]
    omega
  · rw [show 16777216 = 2 ^ 24 from by decide, Nat.and_mod_two_pow, show 9187201950435737471 % 2 ^ 24 = 8355711 from by decide]
    exact Nat.and_le_right
theorem own_x3 (v : BitVec 64) : decide ((v >>> 24) &&& 255#64 = 0#64) = !(((v &&& 9187201950435737471#64) + 9187201950435737471#64).getLsbD 31 || v.getLsbD 31) := by
  have y := own_y3 v.toNat
  have z := own_z3 v.toNat _ y.1 y.2
  have hv := v.isLt
  have hle : v.toNat &&& 9187201950435737471 ≤ 9187201950435737471 := Nat.and_le_right
  have e1 : ((v >>> 24) &&& 255#64 = 0#64) ↔ v.toNat / 16777216 % 256 = 0 := by
    rw [← BitVec.toNat_inj, BitVec.toNat_and, BitVec.toNat_ushiftRight, show (255#64).toNat = 2 ^ 8 - 1 from by decide, Nat.and_two_pow_sub_one_eq_mod, Nat.shiftRight_eq_div_pow]
    rfl
  have e2 : (((v &&& 9187201950435737471#64) + 9187201950435737471#64).getLsbD 31 = false) ↔ ((v.toNat &&& 9187201950435737471) + 9187201950435737471) / 2147483648 % 2 = 0 := by
    rw [BitVec.getLsbD, BitVec.toNat_add, BitVec.toNat_and, show (9187201950435737471#64).toNat = 9187201950435737471 from by decide, Nat.mod_eq_of_lt (by omega), Nat.testBit_eq_decide_div_mod_eq, decide_eq_false_iff_not]
    omega
  have e3 : (v.getLsbD 31 = false) ↔ v.toNat / 2147483648 % 2 = 0 := by
    rw [BitVec.getLsbD, Nat.testBit_eq_decide_div_mod_eq, decide_eq_false_iff_not]
    omega
  rw [Bool.eq_iff_iff, decide_eq_true_iff, Bool.not_eq_true', Bool.or_eq_false_iff, e1, e2, e3]
  exact z.symm
theorem own_z4 (n x : Nat) (h1 : x / 4294967296 % 256 = n / 4294967296 % 128) (h2 : x % 4294967296 ≤ 2139062143) : ((x + 9187201950435737471) / 549755813888 % 2 = 0 ∧ n / 549755813888 % 2 = 0) ↔ n / 4294967296 % 256 = 0 := by omega
theorem own_y4 (n : Nat) : (n &&& 9187201950435737471) / 4294967296 % 256 = n / 4294967296 % 128 ∧ (n &&& 9187201950435737471) % 4294967296 ≤ 2139062143 := by
  refine ⟨?_, ?_⟩
  · rw [show 4294967296 = 2 ^ 32 from by decide, ← Nat.shiftRight_eq_div_pow, Nat.shiftRight_and_distrib, show 256 = 2 ^ 8 from rfl, Nat.and_mod_two_pow, show (9187201950435737471 >>> 32) % 2 ^ 8 = 2 ^ 7 - 1 from by decide, Nat.and_two_pow_sub_one_eq_mod]
    omega
  · rw [show 4294967296 = 2 ^ 32 from by decide, Nat.and_mod_two_pow, show 9187201950435737471 % 2 ^ 32 = 2139062143 from by decide]
    exact Nat.and_le_right
theorem own_x4 (v : BitVec 64) : decide ((v >>> 32) &&& 255#64 = 0#64) = !(((v &&& 9187201950435737471#64) + 9187201950435737471#64).getLsbD 39 || v.getLsbD 39) := by
  have y := own_y4 v.toNat
  have z := own_z4 v.toNat _ y.1 y.2
  have hv := v.isLt
  have hle : v.toNat &&& 9187201950435737471 ≤ 9187201950435737471 := Nat.and_le_right
  have e1 : ((v >>> 32) &&& 255#64 = 0#64) ↔ v.toNat / 4294967296 % 256 = 0 := by
    rw [← BitVec.toNat_inj, BitVec.toNat_and, BitVec.toNat_ushiftRight, show (255#64).toNat = 2 ^ 8 - 1 from by decide, Nat.and_two_pow_sub_one_eq_mod, Nat.shiftRight_eq_div_pow]
    rfl
  have e2 : (((v &&& 9187201950435737471#64) + 9187201950435737471#64).getLsbD 39 = false) ↔ ((v.toNat &&& 9187201950435737471) + 9187201950435737471) / 549755813888 % 2 = 0 := by
    rw [BitVec.getLsbD, BitVec.toNat_add, BitVec.toNat_and, show (9187201950435737471#64).toNat = 9187201950435737471 from by decide, Nat.mod_eq_of_lt (by omega), Nat.testBit_eq_decide_div_mod_eq, decide_eq_false_iff_not]
    omega
  have e3 : (v.getLsbD 39 = false) ↔ v.toNat / 549755813888 % 2 = 0 := by
    rw [BitVec.getLsbD, Nat.testBit_eq_decide_div_mod_eq, decide_eq_false_iff_not]
    omega
  rw [Bool.eq_iff_iff, decide_eq_true_iff, Bool.not_eq_true', Bool.or_eq_false_iff, e1, e2, e3]
  exact z.symm
theorem own_z5 (n x : Nat) (h1 : x / 1099511627776 % 256 = n / 1099511627776 % 128) (h2 : x % 1099511627776 ≤ 547599908735) : ((x + 9187201950435737471) / 140737488355328 % 2 = 0 ∧ n / 140737488355328 % 2 = 0) ↔ n / 1099511627776 % 256 = 0 := by omega
theorem own_y5 (n : Nat) : (n &&& 9187201950435737471) / 1099511627776 % 256 = n / 1099511627776 % 128 ∧ (n &&& 9187201950435737471) % 1099511627776 ≤ 547599908735 := by
  refine ⟨?_, ?_⟩
  · rw [show 1099511627776 = 2 ^ 40 from by decide, ← Nat.shiftRight_eq_div_pow, Nat.shiftRight_and_distrib, show 256 = 2 ^ 8 from rfl, Nat.and_mod_two_pow, show (9187201950435737471 >>> 40) % 2 ^ 8 = 2 ^ 7 - 1 from by decide, Nat.and_two_pow_sub_one_eq_mod]
    omega
  · rw [show 1099511627776 = 2 ^ 40 from by decide, Nat.and_mod_two_pow, show 9187201950435737471 % 2 ^ 40 = 547599908735 from by decide]
    exact Nat.and_le_right
theorem own_x5 (v : BitVec 64) : decide ((v >>> 40) &&& 255#64 = 0#64) = !(((v &&& 9187201950435737471#64) + 9187201950435737471#64).getLsbD 47 || v.getLsbD 47) := by
  have y := own_y5 v.toNat
  have z := own_z5 v.toNat _ y.1 y.2
  have hv := v.isLt
  have hle : v.toNat &&& 9187201950435737471 ≤ 9187201950435737471 := Nat.and_le_right
  have e1 : ((v >>> 40) &&& 255#64 = 0#64) ↔ v.toNat / 1099511627776 % 256 = 0 := by
    rw [← BitVec.toNat_inj, BitVec.toNat_and, BitVec.toNat_ushiftRight, show (255#64).toNat = 2 ^ 8 - 1 from by decide, Nat.and_two_pow_sub_one_eq_mod, Nat.shiftRight_eq_div_pow]
    rfl
  have e2 : (((v &&& 9187201950435737471#64) + 9187201950435737471#64).getLsbD 47 = false) ↔ ((v.toNat &&& 9187201950435737471) + 9187201950435737471) / 140737488355328 % 2 = 0 := by
    rw [BitVec.getLsbD, BitVec.toNat_add, BitVec.toNat_and, show (9187201950435737471#64).toNat = 9187201950435737471 from by decide, Nat.mod_eq_of_lt (by omega), Nat.testBit_eq_decide_div_mod_eq, decide_eq_false_iff_not]
    omega
  have e3 : (v.getLsbD 47 = false) ↔ v.toNat / 140737488355328 % 2 = 0 := by
    rw [BitVec.getLsbD, Nat.testBit_eq_decide_div_mod_eq, decide_eq_false_iff_not]
    omega
  rw [Bool.eq_iff_iff, decide_eq_true_iff, Bool.not_eq_true', Bool.or_eq_false_iff, e1, e2, e3]
  exact z.symm
theorem own_z6 (n x : Nat) (h1 : x / 281474976710656 % 256 = n / 281474976710656 % 128) (h2 : x % 281474976710656 ≤ 140185576636287) : ((x + 9187201950435737471) / 36028797018963968 % 2 = 0 ∧ n / 36028797018963968 % 2 = 0) ↔ n / 281474976710656 % 256 = 0 := by omega
theorem own_y6 (n : Nat) : (n &&& 9187201950435737471) / 281474976710656 % 256 = n / 281474976710656 % 128 ∧ (n &&& 9187201950435737471) % 281474976710656 ≤ 140185576636287 := by
  refine ⟨?_, ?_⟩
  · rw [show 281474976710656 = 2 ^ 48 from by decide, ← Nat.shiftRight_eq_div_pow, Nat.shiftRight_and_distrib, show 256 = 2 ^ 8 from rfl, Nat.and_mod_two_pow, show (9187201950435737471 >>> 48) % 2 ^ 8 = 2 ^ 7 - 1 from by decide, Nat.and_two_pow_sub_one_eq_mod]
    omega
  · rw [show 281474976710656 = 2 ^ 48 from by decide, Nat.and_mod_two_pow, show 9187201950435737471 % 2 ^ 48 = 140185576636287 from by decide]
    exact Nat.and_le_right
theorem own_x6 (v : BitVec 64) : decide ((v >>> 48) &&& 255#64 = 0#64) = !(((v &&& 9187201950435737471#64) + 9187201950435737471#64).getLsbD 55 || v.getLsbD 55) := by
  have y := own_y6 v.toNat
  have z := own_z6 v.toNat _ y.1 y.2
  have hv := v.isLt
  have hle : v.toNat &&& 9187201950435737471 ≤ 9187201950435737471 := Nat.and_le_right
  have e1 : ((v >>> 48) &&& 255#64 = 0#64) ↔ v.toNat / 281474976710656 % 256 = 0 := by
    rw [← BitVec.toNat_inj, BitVec.toNat_and, BitVec.toNat_ushiftRight, show (255#64).toNat = 2 ^ 8 - 1 from by decide, Nat.and_two_pow_sub_one_eq_mod, Nat.shiftRight_eq_div_pow]
    rfl
  have e2 : (((v &&& 9187201950435737471#64) + 9187201950435737471#64).getLsbD 55 = false) ↔ ((v.toNat &&& 9187201950435737471) + 9187201950435737471) / 36028797018963968 % 2 = 0 := by
    rw [BitVec.getLsbD, BitVec.toNat_add, BitVec.toNat_and, show (9187201950435737471#64).toNat = 9187201950435737471 from by decide, Nat.mod_eq_of_lt (by omega), Nat.testBit_eq_decide_div_mod_eq, decide_eq_false_iff_not]
    omega
  have e3 : (v.getLsbD 55 = false) ↔ v.toNat / 36028797018963968 % 2 = 0 := by
    rw [BitVec.getLsbD, Nat.testBit_eq_decide_div_mod_eq, decide_eq_false_iff_not]
    omega
  rw [Bool.eq_iff_iff, decide_eq_true_iff, Bool.not_eq_true', Bool.or_eq_false_iff, e1, e2, e3]
  exact z.symm
theorem own_z7 (n x : Nat) (h1 : x / 72057594037927936 % 256 = n / 72057594037927936 % 128) (h2 : x % 72057594037927936 ≤ 35887507618889599) : ((x + 9187201950435737471) / 9223372036854775808 % 2 = 0 ∧ n / 9223372036854775808 % 2 = 0) ↔ n / 72057594037927936 % 256 = 0 := by omega
theorem own_y7 (n : Nat) : (n &&& 9187201950435737471) / 72057594037927936 % 256 = n / 72057594037927936 % 128 ∧ (n &&& 9187201950435737471) % 72057594037927936 ≤ 35887507618889599 := by
  refine ⟨?_, ?_⟩
  · rw [show 72057594037927936 = 2 ^ 56 from by decide, ← Nat.shiftRight_eq_div_pow, Nat.shiftRight_and_distrib, show 256 = 2 ^ 8 from rfl, Nat.and_mod_two_pow, show (9187201950435737471 >>> 56) % 2 ^ 8 = 2 ^ 7 - 1 from by decide, Nat.and_two_pow_sub_one_eq_mod]
    omega
  · rw [show 72057594037927936 = 2 ^ 56 from by decide, Nat.and_mod_two_pow, show 9187201950435737471 % 2 ^ 56 = 35887507618889599 from by decide]
    exact Nat.and_le_right
theorem own_x7 (v : BitVec 64) : decide ((v >>> 56) &&& 255#64 = 0#64) = !(((v &&& 9187201950435737471#64) + 9187201950435737471#64).getLsbD 63 || v.getLsbD 63) := by
  have y := own_y7 v.toNat
  have z := own_z7 v.toNat _ y.1 y.2
  have hv := v.isLt
  have hle : v.toNat &&& 9187201950435737471 ≤ 9187201950435737471 := Nat.and_le_right
  have e1 : ((v >>> 56) &&& 255#64 = 0#64) ↔ v.toNat / 72057594037927936 % 256 = 0 := by
    rw [← BitVec.toNat_inj, BitVec.toNat_and, BitVec.toNat_ushiftRight, show (255#64).toNat = 2 ^ 8 - 1 from by decide, Nat.and_two_pow_sub_one_eq_mod, Nat.shiftRight_eq_div_pow]
    rfl
  have e2 : (((v &&& 9187201950435737471#64) + 9187201950435737471#64).getLsbD 63 = false) ↔ ((v.toNat &&& 9187201950435737471) + 9187201950435737471) / 9223372036854775808 % 2 = 0 := by
    rw [BitVec.getLsbD, BitVec.toNat_add, BitVec.toNat_and, show (9187201950435737471#64).toNat = 9187201950435737471 from by decide, Nat.mod_eq_of_lt (by omega), Nat.testBit_eq_decide_div_mod_eq, decide_eq_false_iff_not]
    omega
  have e3 : (v.getLsbD 63 = false) ↔ v.toNat / 9223372036854775808 % 2 = 0 := by
    rw [BitVec.getLsbD, Nat.testBit_eq_decide_div_mod_eq, decide_eq_false_iff_not]
    omega
  rw [Bool.eq_iff_iff, decide_eq_true_iff, Bool.not_eq_true', Bool.or_eq_false_iff, e1, e2, e3]
  exact z.symm
def own_M (v : BitVec 64) (i : Nat) : BitVec 64 := if (v >>> (8 * i)) &&& 255#64 = 0#64 then BitVec.twoPow 64 (8 * i + 7) else 0#64
theorem own_Mb (v : BitVec 64) (i j : Nat) (hi : i < 8) : (own_M v i).getLsbD j = (decide ((v >>> (8 * i)) &&& 255#64 = 0#64) && decide (8 * i + 7 = j)) := by
  unfold own_M
  by_cases q : (v >>> (8 * i)) &&& 255#64 = 0#64
  · rw [if_pos q, BitVec.getLsbD_twoPow]; simp [q]; omega
  · rw [if_neg q]; simp [q]
theorem own_zb (v : BitVec 64) : ((((v &&& 9187201950435737471#64) + 9187201950435737471#64) ||| v) ||| 9187201950435737471#64) ^^^ BitVec.allOnes 64 = (((((((own_M v 0 ||| own_M v 1) ||| own_M v 2) ||| own_M v 3) ||| own_M v 4) ||| own_M v 5) ||| own_M v 6) ||| own_M v 7) := by
  apply BitVec.eq_of_getLsbD_eq
  intro j hj
  simp only [BitVec.getLsbD_xor, BitVec.getLsbD_or, BitVec.getLsbD_allOnes, hj, decide_true, Bool.xor_true, own_Mb _ 0 _ (by decide), own_Mb _ 1 _ (by decide), own_Mb _ 2 _ (by decide), own_Mb _ 3 _ (by decide), own_Mb _ 4 _ (by decide), own_Mb _ 5 _ (by decide), own_Mb _ 6 _ (by decide), own_Mb _ 7 _ (by decide)]
  have hL : ∀ k : Fin 64, (9187201950435737471#64).getLsbD k.val = !decide (k.val % 8 = 7) := by decide +kernel
  have hLj := hL ⟨j, hj⟩
  simp only at hLj
  rw [hLj]
  by_cases q : j % 8 = 7
  · have c : j = 7 ∨ j = 15 ∨ j = 23 ∨ j = 31 ∨ j = 39 ∨ j = 47 ∨ j = 55 ∨ j = 63 := by omega
    rcases c with rfl | rfl | rfl | rfl | rfl | rfl | rfl | rfl
    · simp [own_x0]
    · simp [own_x1]
    · simp [own_x2]
    · simp [own_x3]
    · simp [own_x4]
    · simp [own_x5]
    · simp [own_x6]
    · simp [own_x7]
  · have n0 : ¬ 7 = j ∧ ¬ 15 = j ∧ ¬ 23 = j ∧ ¬ 31 = j ∧ ¬ 39 = j ∧ ¬ 47 = j ∧ ¬ 55 = j ∧ ¬ 63 = j := by omega
    simp [q, n0]
theorem own_F2 (w : Int64) : (F2 w (0 : Int32)).toBitVec = own_M w.toBitVec 0 ∧ (F2 w (1 : Int32)).toBitVec = own_M w.toBitVec 1 ∧ (F2 w (2 : Int32)).toBitVec = own_M w.toBitVec 2 ∧ (F2 w (3 : Int32)).toBitVec = own_M w.toBitVec 3 ∧ (F2 w (4 : Int32)).toBitVec = own_M w.toBitVec 4 ∧ (F2 w (5 : Int32)).toBitVec = own_M w.toBitVec 5 ∧ (F2 w (6 : Int32)).toBitVec = own_M w.toBitVec 6 ∧ (F2 w (7 : Int32)).toBitVec = own_M w.toBitVec 7 := by
  refine ⟨?_, ?_, ?_, ?_, ?_, ?_, ?_, ?_⟩
  · unfold F2 own_M
    have e : ((((w.toUInt64 >>> (((8 : Int32) * (0 : Int32)) &&& 0x3f).toInt64.toUInt64).toInt64) &&& (255 : Int64)) = (0 : Int64)) ↔ (w.toBitVec >>> (8 * 0)) &&& 255#64 = 0#64 := by
      rw [← Int64.toBitVec_inj, Int64.toBitVec_and]
      rfl
    by_cases q : (w.toBitVec >>> (8 * 0)) &&& 255#64 = 0#64
    · rw [if_pos (e.mpr q), if_pos q]; decide
    · rw [if_neg (fun z => q (e.mp z)), if_neg q]; decide
  · unfold F2 own_M
    have e : ((((w.toUInt64 >>> (((8 : Int32) * (1 : Int32)) &&& 0x3f).toInt64.toUInt64).toInt64) &&& (255 : Int64)) = (0 : Int64)) ↔ (w.toBitVec >>> (8 * 1)) &&& 255#64 = 0#64 := by
      rw [← Int64.toBitVec_inj, Int64.toBitVec_and]
      rfl
    by_cases q : (w.toBitVec >>> (8 * 1)) &&& 255#64 = 0#64
    · rw [if_pos (e.mpr q), if_pos q]; decide
    · rw [if_neg (fun z => q (e.mp z)), if_neg q]; decide
  · unfold F2 own_M
    have e : ((((w.toUInt64 >>> (((8 : Int32) * (2 : Int32)) &&& 0x3f).toInt64.toUInt64).toInt64) &&& (255 : Int64)) = (0 : Int64)) ↔ (w.toBitVec >>> (8 * 2)) &&& 255#64 = 0#64 := by
      rw [← Int64.toBitVec_inj, Int64.toBitVec_and]
      rfl
    by_cases q : (w.toBitVec >>> (8 * 2)) &&& 255#64 = 0#64
    · rw [if_pos (e.mpr q), if_pos q]; decide
    · rw [if_neg (fun z => q (e.mp z)), if_neg q]; decide
  · unfold F2 own_M
    have e : ((((w.toUInt64 >>> (((8 : Int32) * (3 : Int32)) &&& 0x3f).toInt64.toUInt64).toInt64) &&& (255 : Int64)) = (0 : Int64)) ↔ (w.toBitVec >>> (8 * 3)) &&& 255#64 = 0#64 := by
      rw [← Int64.toBitVec_inj, Int64.toBitVec_and]
      rfl
    by_cases q : (w.toBitVec >>> (8 * 3)) &&& 255#64 = 0#64
    · rw [if_pos (e.mpr q), if_pos q]; decide
    · rw [if_neg (fun z => q (e.mp z)), if_neg q]; decide
  · unfold F2 own_M
    have e : ((((w.toUInt64 >>> (((8 : Int32) * (4 : Int32)) &&& 0x3f).toInt64.toUInt64).toInt64) &&& (255 : Int64)) = (0 : Int64)) ↔ (w.toBitVec >>> (8 * 4)) &&& 255#64 = 0#64 := by
      rw [← Int64.toBitVec_inj, Int64.toBitVec_and]
      rfl
    by_cases q : (w.toBitVec >>> (8 * 4)) &&& 255#64 = 0#64
    · rw [if_pos (e.mpr q), if_pos q]; decide
    · rw [if_neg (fun z => q (e.mp z)), if_neg q]; decide
  · unfold F2 own_M
    have e : ((((w.toUInt64 >>> (((8 : Int32) * (5 : Int32)) &&& 0x3f).toInt64.toUInt64).toInt64) &&& (255 : Int64)) = (0 : Int64)) ↔ (w.toBitVec >>> (8 * 5)) &&& 255#64 = 0#64 := by
      rw [← Int64.toBitVec_inj, Int64.toBitVec_and]
      rfl
    by_cases q : (w.toBitVec >>> (8 * 5)) &&& 255#64 = 0#64
    · rw [if_pos (e.mpr q), if_pos q]; decide
    · rw [if_neg (fun z => q (e.mp z)), if_neg q]; decide
  · unfold F2 own_M
    have e : ((((w.toUInt64 >>> (((8 : Int32) * (6 : Int32)) &&& 0x3f).toInt64.toUInt64).toInt64) &&& (255 : Int64)) = (0 : Int64)) ↔ (w.toBitVec >>> (8 * 6)) &&& 255#64 = 0#64 := by
      rw [← Int64.toBitVec_inj, Int64.toBitVec_and]
      rfl
    by_cases q : (w.toBitVec >>> (8 * 6)) &&& 255#64 = 0#64
    · rw [if_pos (e.mpr q), if_pos q]; decide
    · rw [if_neg (fun z => q (e.mp z)), if_neg q]; decide
  · unfold F2 own_M
    have e : ((((w.toUInt64 >>> (((8 : Int32) * (7 : Int32)) &&& 0x3f).toInt64.toUInt64).toInt64) &&& (255 : Int64)) = (0 : Int64)) ↔ (w.toBitVec >>> (8 * 7)) &&& 255#64 = 0#64 := by
      rw [← Int64.toBitVec_inj, Int64.toBitVec_and]
      rfl
    by_cases q : (w.toBitVec >>> (8 * 7)) &&& 255#64 = 0#64
    · rw [if_pos (e.mpr q), if_pos q]; decide
    · rw [if_neg (fun z => q (e.mp z)), if_neg q]; decide
theorem own_eq (w : Int64) : F4 w F3 = (((((((F2 w (0 : Int32) ||| F2 w (1 : Int32)) ||| F2 w (2 : Int32)) ||| F2 w (3 : Int32)) ||| F2 w (4 : Int32)) ||| F2 w (5 : Int32)) ||| F2 w (6 : Int32)) ||| F2 w (7 : Int32)) := by
  refine Int64.toBitVec_inj.mp ?_
  obtain ⟨e0, e1, e2, e3, e4, e5, e6, e7⟩ := own_F2 w
  simp only [Int64.toBitVec_or, e0, e1, e2, e3, e4, e5, e6, e7]
  rw [← own_zb]
  unfold F4 F3
  rw [show ((72340172838076673 : Int64) * 127) = 9187201950435737471 from by decide]
  rfl
theorem own_law (x0 : Int64) (x1 : Int32) : F0 x0 x1 = 1 := by
  unfold F0
  rw [own_eq, if_pos rfl]
theorem own_result (x0 : Int64) (x1 : Int32) {v : Option Value} {h h0 : Heap} (hv : v = some (.int (F0 x0 x1)) ∧ h = h0) : v = some (.int 1) := by rw [hv.1, own_law x0 x1]
set_option maxRecDepth 65536 in
set_option maxHeartbeats 40000000 in
theorem comes_1 {Post : Tables → Env → Array Value → State → Outcome → State → Prop} (hpost : ∀ tb e args s v u, (limb_1_1.after args s (.returned v) u = true ∧ limb_1_2.after args s (.returned v) u = true ∧ True) → FrameEnd s (.returned v) u (Jvm.fieldLocs frame_1_writes args s ++ Jvm.arrayLocs frame_1_arrays args s ++ Jvm.staticLocs frame_1_statics s) 0 0 → Post tb e args s (.returned v) u) :
    ArmFor flags0 classFile x code maxLocals ret World_1 tables_1 room_1 Calls_1 rest_1 Pre_1 Post := by
  intro l hfl _ _ p e ha hc hk s m args below hf hA hF happ hP
  obtain ⟨hcalls, hrest, hpre⟩ := hP
  obtain ⟨-, -, -, hnamed, -, -, -, hat⟩ := (Spec.applies_iff hf).mp happ
  obtain ⟨hg, hn⟩ := and_e (Cond.before_iff.mp (show (Jvm.Cond.and given_1 narrow_1).before args s = true from hpre))
  obtain ⟨g1, g2⟩ := and_e hg
  obtain ⟨g3, g4⟩ := and_e g2
  obtain ⟨w0, w1, rfl⟩ : ∃ w0 w1 : Value, args = #[w0, w1] := by
    have hs : args.size = 2 := by simpa [Cond.value, given_1] using g1
    obtain ⟨L⟩ := args
    match L, hs with
    | [w0, w1], _ => exact ⟨w0, w1, rfl⟩
  have hw := fun d (hd : d ∈ tables_1) => atoms_spec (ws := Jvm.Cond.code x code maxLocals ret :: tables_1) hat d (List.mem_cons_of_mem _ hd)
  obtain ⟨i0, ei0⟩ := isL_v g3
  obtain rfl : w0 = (.long i0) := Option.some.inj ei0
  obtain ⟨i1, ei1⟩ := is_v g4
  obtain rfl : w1 = (.int i1) := Option.some.inj ei1
  obtain ⟨n, o, h1, h2, h3, v, L, rfl, ⟨hv, N⟩, hq⟩ := met_0 l s _ hw s.heap s.heap.size (Nat.le_refl _) i0 i1 tables_1 p e ha hc hk s m _ below hf ((Spec.applies_iff_loose hf).mp happ).1 ⟨rfl, State.Warmed39.refl s, rfl⟩ trivial
  obtain rfl : v = some (.int 1) := own_result i0 i1 hv
  refine ⟨n, _, h1, h2, h3, hpost _ _ _ _ _ _ ⟨Cond.after_iff.mpr rfl, Cond.after_iff.mpr (eq_i res_at (Term.int_eval (1)) rfl), trivial⟩ ⟨hq.1, hq.2.1, (hq.2.2.sift fun y hy => Or.inr (N y hy)).mono (by decide) (by decide)⟩⟩
theorem main_1_1 : Claimed_1_1 := comes_1 fun _ _ _ _ _ _ h hF => ⟨h.1, hF⟩
theorem main_1_2 : Claimed_1_2 := comes_1 fun _ _ _ _ _ _ h hF => ⟨h.2.1, hF⟩
end Jvm.Pilot.@@N@@
namespace Jvm.Pilot.@@N@@
open Jvm Jvm.ClassFile Sem Op Lib Jvm.Free Jvm.Stand Jvm.Pilot.@@N@@.Jvm.D
/-! MADE BY PROGRAM (witnessworld.py) out of the Statement's table words and the real class files: 9 classes; the members and pool entries that the words name. The judged class is class 1, her method 3. -/
namespace start1
open Jvm.ClassFile
def u (s : String) : CpInfo := .utf8 (stringToUtf16 s)
/-- a pool by its gaps: so many unusable entries, then the entry; so many at the end -/
def gap : Nat → List CpInfo → List CpInfo
  | 0, r => r
  | n + 1, r => .unusable :: gap n r
def poolList (es : List (Nat × CpInfo)) (last : Nat) : List CpInfo := es.foldr (fun e r => gap e.1 (e.2 :: r)) (gap last [])
def pool (es : List (Nat × CpInfo)) (last : Nat) : Array CpInfo := ⟨poolList es last⟩
def fileOf (pool : Array CpInfo) (this : Nat) (attrs : Array Attribute := #[]) (ms : Array MethodInfo := #[]) (fl : Nat := 33) (sup : Nat := 0) (ifs : Array Nat := #[]) (fds : Array FieldInfo := #[]) : ClassFile where
  minorVersion := 0
  majorVersion := 65
  constantPool := pool
  accessFlags := fl
  thisClass := this
  superClass := sup
  interfaces := ifs
  fields := fds
  methods := ms
  attributes := attrs
def plain (name : String) (sup : Option ClassId) : Class where
  name := name
  kind := .ordinary
  loader := none
  accessFlags := 33
  super := sup
  interfaces := #[]
  cf := none
  fields := #[]
  methods := #[]
  instanceTypes := #[]
  staticTypes := #[]
  resolved := #[]
  callSites := []
  init := .initialized
  statics := none
  mirror := none

def pool0 : Array CpInfo := pool [(5, u "<init>"), (0, u "()V"), (1, .class_ 10), (1, u "java/lang/Object")] 113

def k0m0 : Method := { name := "<init>", desc := "()V", sig := { parameters := [], returnType := none }, accessFlags := 1, code := none }
/-- java/lang/Object -/
def k0 : Class := { plain "java/lang/Object" none with
  accessFlags := 33
  interfaces := #[]
  cf := some (fileOf pool0 8 #[] #[{ accessFlags := 1, nameIndex := 5, descriptorIndex := 6, attributes := #[] }] 33 0 #[] #[])
  fields := #[]
  methods := #[k0m0]
  instanceTypes := #[]
  staticTypes := #[]
  resolved := Array.replicate 124 none
  statics := none }

def pool1 : Array CpInfo := pool [(2, .class_ 4), (1, u "java/lang/Object"), (0, u "<init>"), (0, u "()V"), (0, .long 255), (1, .long 128), (1, .methodref 12 13), (0, .class_ 14), (0, .nameAndType 15 16), (0, u "com/example/sourcebill/sourcebill/scan/WordsZeroBytesPinLaw"), (0, u "keep"), (0, u "(II)J"), (0, .methodref 12 18), (0, .nameAndType 19 20), (0, u "mark"), (0, u "(JI)J"), (0, .methodref 22 23), (0, .class_ 24), (0, .nameAndType 25 26), (0, u "com/example/sourcebill/sourcebill/scan/Words"), (0, u "ones"), (0, u "()J"), (0, .methodref 22 28), (0, .nameAndType 29 30), (0, u "zeroBytes"), (0, u "(JJ)J"), (3, u "law"), (0, u "(JI)Z")] 2

def k1m0 : Method := { name := "<init>", desc := "()V", sig := { parameters := [], returnType := none }, accessFlags := 2, code := none }
def k1c1 : Code := { maxStack := 4, maxLocals := 2, code := method_2_code, exceptionTable := #[], attributes := #[] }
def k1m1 : Method := { name := "keep", desc := "(II)J", sig := { parameters := [.int, .int], returnType := some .long }, accessFlags := 10, code := some k1c1 }
def k1c2 : Code := { maxStack := 4, maxLocals := 3, code := method_3_code, exceptionTable := #[], attributes := #[] }
def k1m2 : Method := { name := "mark", desc := "(JI)J", sig := { parameters := [.long, .int], returnType := some .long }, accessFlags := 10, code := some k1c2 }
def k1c3 : Code := { maxStack := 5, maxLocals := 9, code := code, exceptionTable := #[], attributes := #[] }
def k1m3 : Method := { name := "law", desc := "(JI)Z", sig := { parameters := [.long, .int], returnType := some .boolean }, accessFlags := 9, code := some k1c3 }
/-- com/example/sourcebill/sourcebill/scan/WordsZeroBytesPinLaw -/
def k1 : Class := { plain "com/example/sourcebill/sourcebill/scan/WordsZeroBytesPinLaw" (some 0) with
  accessFlags := 49
  interfaces := #[]
  cf := some (fileOf pool1 12 #[] #[{ accessFlags := 2, nameIndex := 5, descriptorIndex := 6, attributes := #[] }, { accessFlags := 10, nameIndex := 15, descriptorIndex := 16, attributes := #[] }, { accessFlags := 10, nameIndex := 19, descriptorIndex := 20, attributes := #[] }, { accessFlags := 9, nameIndex := 34, descriptorIndex := 35, attributes := #[] }] 49 2 #[] #[])
  fields := #[]
  methods := #[k1m0, k1m1, k1m2, k1m3]
  instanceTypes := #[]
  staticTypes := #[]
  resolved := Array.replicate 38 none
  statics := none }

def pool2 : Array CpInfo := pool [(2, .class_ 4), (1, u "java/lang/Object"), (0, u "<init>"), (0, u "()V"), (0, .class_ 8), (0, u "com/example/sourcebill/sourcebill/scan/Words"), (0, .long 72340172838076673), (3, u "LONGS"), (0, u "Ljava/lang/invoke/VarHandle;"), (6, .long 18446744073709551615), (1, .long 127), (21, u "ONES"), (0, u "J"), (3, u "ones"), (0, u "()J"), (4, u "(JJ)J"), (0, u "zeroBytes")] 4

def k2m0 : Method := { name := "<init>", desc := "()V", sig := { parameters := [], returnType := none }, accessFlags := 2, code := none }
def k2c1 : Code := { maxStack := 2, maxLocals := 0, code := prog_96_method_2_code, exceptionTable := #[], attributes := #[] }
def k2m1 : Method := { name := "ones", desc := "()J", sig := { parameters := [], returnType := some .long }, accessFlags := 8, code := some k2c1 }
def k2c2 : Code := { maxStack := 4, maxLocals := 6, code := prog_96_method_6_code, exceptionTable := #[], attributes := #[] }
def k2m2 : Method := { name := "zeroBytes", desc := "(JJ)J", sig := { parameters := [.long, .long], returnType := some .long }, accessFlags := 8, code := some k2c2 }
/-- com/example/sourcebill/sourcebill/scan/Words -/
def k2 : Class := { plain "com/example/sourcebill/sourcebill/scan/Words" (some 0) with
  accessFlags := 48
  interfaces := #[]
  cf := some (fileOf pool2 7 #[] #[{ accessFlags := 2, nameIndex := 5, descriptorIndex := 6, attributes := #[] }, { accessFlags := 8, nameIndex := 50, descriptorIndex := 51, attributes := #[] }, { accessFlags := 8, nameIndex := 57, descriptorIndex := 56, attributes := #[] }] 48 2 #[] #[{ accessFlags := 26, nameIndex := 45, descriptorIndex := 46, attributes := #[] }, { accessFlags := 26, nameIndex := 13, descriptorIndex := 14, attributes := #[] }])
  fields := #[{ name := "ONES", type := .long, accessFlags := 26, slot := 0, constantValue := 0 }, { name := "LONGS", type := (.object "java/lang/invoke/VarHandle"), accessFlags := 26, slot := 1, constantValue := 0 }]
  methods := #[k2m0, k2m1, k2m2]
  instanceTypes := #[]
  staticTypes := #[.long, (.object "java/lang/invoke/VarHandle")]
  resolved := Array.replicate 62 none
  statics := none }

def pool3 : Array CpInfo := pool [(1, u "java/lang/Cloneable"), (0, .class_ 1), (0, u "java/lang/Object"), (0, .class_ 3)] 3

/-- java/lang/Cloneable -/
def k3 : Class := { plain "java/lang/Cloneable" (some 0) with
  accessFlags := 1537
  interfaces := #[]
  cf := some (fileOf pool3 2 #[] #[] 1537 4 #[] #[])
  fields := #[]
  methods := #[]
  instanceTypes := #[]
  staticTypes := #[]
  resolved := Array.replicate 8 none
  statics := none }

def pool4 : Array CpInfo := pool [(1, u "java/io/Serializable"), (0, .class_ 1), (0, u "java/lang/Object"), (0, .class_ 3)] 3

/-- java/io/Serializable -/
def k4 : Class := { plain "java/io/Serializable" (some 0) with
  accessFlags := 1537
  interfaces := #[]
  cf := some (fileOf pool4 2 #[] #[] 1537 4 #[] #[])
  fields := #[]
  methods := #[]
  instanceTypes := #[]
  staticTypes := #[]
  resolved := Array.replicate 8 none
  statics := none }

/-- the primitive byte -/
def k5 : Class := { plain "byte" none with kind := .primitive 'B', accessFlags := 0x411 }
/-- [B -/
def k6 : Class := { plain "[B" (some 0) with kind := .array 5 .byte, interfaces := #[3, 4], accessFlags := 1041 }

/-- the primitive int -/
def k7 : Class := { plain "int" none with kind := .primitive 'I', accessFlags := 0x411 }
/-- [I -/
def k8 : Class := { plain "[I" (some 0) with kind := .array 7 .int, interfaces := #[3, 4], accessFlags := 1041 }

def heap : Heap := #[]
def classes : Array Class := #[k0, k1, k2, k3, k4, k5, k6, k7, k8]
def interned : List (Array UInt16 × Addr) := []
def slotsUsed : Nat := 0
def theMethod : MethodId := ⟨1, 3⟩
def args0 : Array Value := #[.long 5, .int 7]
def aboutOver (below : List Frame) : State where
  vm := { classes := classes, interned := interned.toArray }
  heap := heap
  slotsUsed := slotsUsed
  threads := #[{ frames := .invoking theMethod args0 :: below }]
def below0 : List Frame := [.native { method := ⟨0, 0⟩, args := #[] }]
def about1 : State := aboutOver below0
def p0 : Program := .bare "" "" ""
def e0 : Env := launch0.env 0 0 0
theorem w_frames : about1.frames = Frame.invoking theMethod args0 :: below0 := rfl
set_option maxRecDepth 65536 in
theorem w_args : argsFit about1.vm theMethod args0 = true := by decide +kernel
set_option maxRecDepth 65536 in
theorem w_heap : heapFits about1 = true := by decide +kernel
set_option maxRecDepth 65536 in
theorem w_runnable : about1.curStatus? = some .runnable := by decide +kernel
set_option maxRecDepth 65536 in
theorem w_alone : about1.alone = true := by decide +kernel
set_option maxRecDepth 65536 in
theorem w_named : about1.methodNamed? x = some theMethod := by decide +kernel
set_option maxRecDepth 65536 in
theorem w_hears : about1.hears theMethod below0 = true := by decide +kernel
set_option maxRecDepth 65536 in
theorem w_ripe : about1.ripe theMethod args0 below0 = true := by decide +kernel
theorem w_running : about1.status = .running := rfl
set_option maxRecDepth 65536 in
theorem w_room : about1.hasRoom e0.platform room_1 = true :=
  launch0.hasRoom_least _ room_1 (by decide +kernel) (by decide +kernel) (by decide +kernel) (by decide +kernel) (by decide +kernel) (by decide +kernel)
theorem allAtoms_all (ts : List Jvm.Cond) (a : Array Jvm.Value) (st : Jvm.State) : (allAtoms ts).before a st = ts.all (fun c => c.before a st) := by
  induction ts with
  | nil => rfl
  | cons c t ih =>
    show (Jvm.Cond.and c (allAtoms t)).before a st = _
    rw [Jvm.Cond.before_and, ih, List.all_cons]
def words1 : List Jvm.Cond := Jvm.Cond.code x code maxLocals ret :: tables_1
/-- a 'code' word, met by the world's own term for the bytes: nothing is compared byte by byte -/
theorem code_word {y : MethodName} {bytes : ByteArray} {mx : Nat} {rt : Option FieldType} {a : Array Value} {s : State} {m : MethodId} {meth : Method} {c : Code} (h1 : s.methodNamed? y = some m) (h2 : s.vm.method? m = some meth) (h3 : meth.code = some c) (h4 : c.code = bytes)
    (h5 : (c.maxLocals == mx && c.exceptionTable.isEmpty && decide (c.maxStack ≤ mostOperands) && decide (meth.sig.returnType = rt) && !meth.locks && decide (parseMethodDescriptor y.desc = some meth.sig)) = true) : (Jvm.Cond.code y bytes mx rt).before a s = true := by
  simp only [Bool.and_eq_true, beq_iff_eq, Bool.not_eq_true', decide_eq_true_eq] at h5
  obtain ⟨⟨⟨⟨⟨g1, g2⟩, g3⟩, g4⟩, g5⟩, g6⟩ := h5
  simp [Cond.before, Cond.holds, Cond.value, h1, h2, h3, h4, g1, g2, g3, g4, g5, g6]
def isCode : Jvm.Cond → Bool
  | .code _ _ _ _ => true
  | _ => false
theorem all_split {L : List Jvm.Cond} {P : Jvm.Cond → Bool} (h1 : L.all (fun c => isCode c || P c) = true) (h2 : ∀ c ∈ L.filter isCode, P c = true) : L.all P = true := by
  refine List.all_eq_true.mpr fun c hc => ?_
  have h := List.all_eq_true.mp h1 c hc
  rcases Bool.eq_false_or_eq_true (isCode c) with hi | hi
  · exact h2 c (List.mem_filter.mpr ⟨hc, hi⟩)
  · simpa [hi] using h
set_option maxRecDepth 65536 in
theorem w_c0 : (Jvm.Cond.code x code maxLocals ret).before args0 about1 = true := code_word (m := ⟨1, 3⟩) (meth := k1m3) (c := k1c3) (by decide +kernel) rfl rfl rfl (by decide +kernel)
set_option maxRecDepth 65536 in
theorem w_c1 : (Jvm.Cond.code ({ cls := "com/example/sourcebill/sourcebill/scan/WordsZeroBytesPinLaw", name := "keep", desc := "(II)J" } : Jvm.MethodName) method_2_code (2 : Nat) (Option.some Jvm.ClassFile.FieldType.long)).before args0 about1 = true := code_word (m := ⟨1, 1⟩) (meth := k1m1) (c := k1c1) (by decide +kernel) rfl rfl rfl (by decide +kernel)
set_option maxRecDepth 65536 in
theorem w_c2 : (Jvm.Cond.code ({ cls := "com/example/sourcebill/sourcebill/scan/WordsZeroBytesPinLaw", name := "mark", desc := "(JI)J" } : Jvm.MethodName) method_3_code (3 : Nat) (Option.some Jvm.ClassFile.FieldType.long)).before args0 about1 = true := code_word (m := ⟨1, 2⟩) (meth := k1m2) (c := k1c2) (by decide +kernel) rfl rfl rfl (by decide +kernel)
set_option maxRecDepth 65536 in
theorem w_c3 : (Jvm.Cond.code ({ cls := "com/example/sourcebill/sourcebill/scan/Words", name := "ones", desc := "()J" } : Jvm.MethodName) prog_96_method_2_code (0 : Nat) (Option.some Jvm.ClassFile.FieldType.long)).before args0 about1 = true := code_word (m := ⟨2, 1⟩) (meth := k2m1) (c := k2c1) (by decide +kernel) rfl rfl rfl (by decide +kernel)
set_option maxRecDepth 65536 in
theorem w_c4 : (Jvm.Cond.code ({ cls := "com/example/sourcebill/sourcebill/scan/Words", name := "zeroBytes", desc := "(JJ)J" } : Jvm.MethodName) prog_96_method_6_code (6 : Nat) (Option.some Jvm.ClassFile.FieldType.long)).before args0 about1 = true := code_word (m := ⟨2, 2⟩) (meth := k2m2) (c := k2c2) (by decide +kernel) rfl rfl rfl (by decide +kernel)
def codes1 : List Jvm.Cond := [Jvm.Cond.code x code maxLocals ret, Jvm.Cond.code ({ cls := "com/example/sourcebill/sourcebill/scan/WordsZeroBytesPinLaw", name := "keep", desc := "(II)J" } : Jvm.MethodName) method_2_code (2 : Nat) (Option.some Jvm.ClassFile.FieldType.long), Jvm.Cond.code ({ cls := "com/example/sourcebill/sourcebill/scan/WordsZeroBytesPinLaw", name := "mark", desc := "(JI)J" } : Jvm.MethodName) method_3_code (3 : Nat) (Option.some Jvm.ClassFile.FieldType.long), Jvm.Cond.code ({ cls := "com/example/sourcebill/sourcebill/scan/Words", name := "ones", desc := "()J" } : Jvm.MethodName) prog_96_method_2_code (0 : Nat) (Option.some Jvm.ClassFile.FieldType.long), Jvm.Cond.code ({ cls := "com/example/sourcebill/sourcebill/scan/Words", name := "zeroBytes", desc := "(JJ)J" } : Jvm.MethodName) prog_96_method_6_code (6 : Nat) (Option.some Jvm.ClassFile.FieldType.long)]
set_option maxRecDepth 65536 in
theorem codes_eq : words1.filter isCode = codes1 := rfl
theorem w_codes : ∀ c ∈ words1.filter isCode, c.before args0 about1 = true := by
  rw [codes_eq]
  intro c hc
  simp only [codes1, List.mem_cons, List.not_mem_nil, or_false] at hc
  rcases hc with rfl | rfl | rfl | rfl | rfl
  · exact w_c0
  · exact w_c1
  · exact w_c2
  · exact w_c3
  · exact w_c4
set_option maxRecDepth 65536 in
theorem w_t1 : words1.all (fun c => isCode c || c.before args0 about1) = true := by decide +kernel
theorem w_tables : (allAtoms (Jvm.Cond.code x code maxLocals ret :: tables_1)).before args0 about1 = true := by
  rw [allAtoms_all]
  show words1.all (fun c => c.before args0 about1) = true
  refine all_split ?_ w_codes
  rw [w_t1]
set_option maxRecDepth 65536 in
theorem w_case : (Jvm.Cond.and given_1 narrow_1).before args0 about1 = true := by decide +kernel
theorem w_applies : (headSpec (Jvm.Cond.code x code maxLocals ret :: tables_1) room_1).applies x e0.platform about1 = true :=
  (Spec.applies_iff w_frames).mpr ⟨w_running, w_runnable, w_alone, w_named, w_hears, w_ripe, w_room, w_tables⟩
theorem atStart : AtStart classFile x code maxLocals ret World_1 tables_1 room_1 Calls_1 rest_1 Pre_1 launch0 p0 e0 about1 theMethod args0 below0 :=
  ⟨lists_1, trivial, launch0.admits_env _ _ _, launch0.least_env, fairChoices_fair.cas, fairChoices_fair.clock, w_frames, w_args, w_heap, w_applies, trivial, trivial, w_case⟩
end start1
theorem witness_1 : WitnessClaimed_1 := ⟨start1.p0, start1.e0, start1.about1, start1.theMethod, start1.args0, start1.below0, start1.atStart⟩
end Jvm.Pilot.@@N@@
